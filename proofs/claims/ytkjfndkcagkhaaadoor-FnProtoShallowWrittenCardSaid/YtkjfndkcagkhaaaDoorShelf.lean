/-
  DERIVED: THE SHELF's CONTRACTS AT THIS DUMP, IN PLAIN WORDS (tools/lay-plain.mjs out of 'TrydShelf.lean', which tools/lay-shelf.mjs wrote): THE SAME DECLARATIONS UNDER THE SAME NAMES: 'import', 'namespace', 'open', 'def', 'theorem' AND NOTHING ELSE: no command of the shelf's: FOR A HAND-IN. Each laying: the table of numbers ('.._ren') and one theorem, a field a fact of the dump's own or the kernel's comparison; each contract: ONE APPLICATION.
-/
import Derived.Shelf.LaysM
import Derived.Shelf.Bytes.Bytes
import Derived.Shelf.Bytes.GrowOwn
import Derived.Ground.PaProg
import Derived.Shelf.Hex.DecodeOwns
import Derived.Shelf.Hex.More
import Derived.Test.YtkjfndkcagkhaaaDoorProg

namespace Go.Proofs
open Go.Shelf
def Tryd.laysM251_ren : Go.Shelf.Ren := ⟨fun | 251 => 65 | n => n, fun | 130 => 66 | 3 => 3 | 4 => 4 | 0 => 0 | 93 => 62 | 37 => 25 | 91 => 60 | 5 => 5 | n => n, fun | n => n⟩
theorem Tryd.laysM251 : Go.Proofs.LaysM.n251 Tryd.prog Tryd.laysM251_ren := {
  mixed := by kernel_rfl
  f251 := Tryd.func65.trans (congrArg some (by kernel_rfl))
  t0 := Tryd.underlying0
  a0 := Tryd.isAgg0
  z0 := Tryd.sizeOf0
  v0 := Tryd.zeroValue0
  t3 := Tryd.underlying3
  a3 := Tryd.isAgg3
  z3 := Tryd.sizeOf3
  v3 := Tryd.zeroValue3
  t4 := Tryd.underlying4
  a4 := Tryd.isAgg4
  z4 := Tryd.sizeOf4
  v4 := Tryd.zeroValue4
  t37 := Tryd.underlying25
  a37 := Tryd.isAgg25
  z37 := Tryd.sizeOf25
  v37 := Tryd.zeroValue25
  t93 := Tryd.underlying62
  a93 := Tryd.isAgg62
  z93 := Tryd.sizeOf62
  v93 := Tryd.zeroValue62
  t130 := Tryd.underlying66
  a130 := Tryd.isAgg66
  z130 := Tryd.sizeOf66
  v130 := Tryd.zeroValue66
  t5 := Tryd.underlying5
  a5 := Tryd.isAgg5
  z5 := Tryd.sizeOf5
  v5 := Tryd.zeroValue5
  t91 := Tryd.underlying60
  a91 := Tryd.isAgg60
  z91 := Tryd.sizeOf60
  v91 := Tryd.zeroValue60
  i0 := by kernel_rfl
  i3 := by kernel_rfl
  i4 := by kernel_rfl
  i5 := by kernel_rfl
  i37 := by kernel_rfl
  i91 := by kernel_rfl
  i93 := by kernel_rfl
  i130 := by kernel_rfl }
def Tryd.laysM183_ren : Go.Shelf.Ren := ⟨fun | 183 => 31 | n => n, fun | 130 => 66 | 37 => 25 | 0 => 0 | 93 => 62 | 3 => 3 | 5 => 5 | 91 => 60 | n => n, fun | n => n⟩
theorem Tryd.laysM183 : Go.Proofs.LaysM.n183 Tryd.prog Tryd.laysM183_ren := {
  mixed := by kernel_rfl
  f183 := Tryd.func31.trans (congrArg some (by kernel_rfl))
  t0 := Tryd.underlying0
  a0 := Tryd.isAgg0
  z0 := Tryd.sizeOf0
  v0 := Tryd.zeroValue0
  t3 := Tryd.underlying3
  a3 := Tryd.isAgg3
  z3 := Tryd.sizeOf3
  v3 := Tryd.zeroValue3
  t37 := Tryd.underlying25
  a37 := Tryd.isAgg25
  z37 := Tryd.sizeOf25
  v37 := Tryd.zeroValue25
  t93 := Tryd.underlying62
  a93 := Tryd.isAgg62
  z93 := Tryd.sizeOf62
  v93 := Tryd.zeroValue62
  t130 := Tryd.underlying66
  a130 := Tryd.isAgg66
  z130 := Tryd.sizeOf66
  v130 := Tryd.zeroValue66
  t5 := Tryd.underlying5
  a5 := Tryd.isAgg5
  z5 := Tryd.sizeOf5
  v5 := Tryd.zeroValue5
  t91 := Tryd.underlying60
  a91 := Tryd.isAgg60
  z91 := Tryd.sizeOf60
  v91 := Tryd.zeroValue60
  i0 := by kernel_rfl
  i3 := by kernel_rfl
  i5 := by kernel_rfl
  i37 := by kernel_rfl
  i91 := by kernel_rfl
  i93 := by kernel_rfl
  i130 := by kernel_rfl }
open Go.RowKit in
/-- (*bytes.Buffer).Bytes: "Bytes returns a slice of length b.Len() holding the unread portion of the buffer. .. The slice aliases the buffer content at least until the next buffer modification": A SLICE THAT OWNS THE CELLS bs ('World.ownsRow': nil where nothing was ever written). The world is as it was but for the count of draws. (LAID: no walk: one application.) -/
theorem Tryd.Buffer_Bytes (B b : Nat) (bs : List Value) (w : World) (h : Lib.IsBuffer 62 5 B b bs w) :
    Calls Tryd.prog 31 #[.pointer (some ⟨b, 0, none⟩)] w fun e w' => ∃ v, e = .returned v ∧ w'.ownsRow B 5 1 v bs.length bs ∧ ∃ n, w' = w.drewN n := Any.Buffer_Bytes Tryd.laysM183 B b bs w h
def Tryd.laysM252_ren : Go.Shelf.Ren := ⟨fun | 252 => 66 | 181 => 86 | 184 => 87 | 251 => 65 | 290 => 88 | 324 => 113 | n => n, fun | 130 => 66 | 3 => 3 | 4 => 4 | 0 => 0 | 93 => 62 | 131 => 120 | 37 => 25 | 75 => 64 | 91 => 60 | 20 => 20 | 5 => 5 | 80 => 109 | 9 => 9 | n => n, fun | 14 => 1 | n => n⟩
theorem Tryd.laysM252 : Go.Proofs.LaysM.n252 Tryd.prog Tryd.laysM252_ren := {
  mixed := by kernel_rfl
  f181 := Tryd.func86.trans (congrArg some (by kernel_rfl))
  f184 := Tryd.func87.trans (congrArg some (by kernel_rfl))
  f251 := Tryd.func65.trans (congrArg some (by kernel_rfl))
  f252 := Tryd.func66.trans (congrArg some (by kernel_rfl))
  f290 := Tryd.func88.trans (congrArg some (by kernel_rfl))
  f324 := Tryd.func113.trans (congrArg some (by kernel_rfl))
  t0 := Tryd.underlying0
  a0 := Tryd.isAgg0
  z0 := Tryd.sizeOf0
  v0 := Tryd.zeroValue0
  t3 := Tryd.underlying3
  a3 := Tryd.isAgg3
  z3 := Tryd.sizeOf3
  v3 := Tryd.zeroValue3
  t4 := Tryd.underlying4
  a4 := Tryd.isAgg4
  z4 := Tryd.sizeOf4
  v4 := Tryd.zeroValue4
  t20 := Tryd.underlying20
  a20 := Tryd.isAgg20
  z20 := Tryd.sizeOf20
  v20 := Tryd.zeroValue20
  t37 := Tryd.underlying25
  a37 := Tryd.isAgg25
  z37 := Tryd.sizeOf25
  v37 := Tryd.zeroValue25
  t75 := Tryd.underlying64
  a75 := Tryd.isAgg64
  z75 := Tryd.sizeOf64
  v75 := Tryd.zeroValue64
  t91 := Tryd.underlying60
  a91 := Tryd.isAgg60
  z91 := Tryd.sizeOf60
  v91 := Tryd.zeroValue60
  t93 := Tryd.underlying62
  a93 := Tryd.isAgg62
  z93 := Tryd.sizeOf62
  v93 := Tryd.zeroValue62
  t130 := Tryd.underlying66
  a130 := Tryd.isAgg66
  z130 := Tryd.sizeOf66
  v130 := Tryd.zeroValue66
  t131 := Tryd.underlying120
  a131 := Tryd.isAgg120
  z131 := Tryd.sizeOf120
  v131 := Tryd.zeroValue120
  g14 := by kernel_rfl
  t5 := Tryd.underlying5
  a5 := Tryd.isAgg5
  z5 := Tryd.sizeOf5
  v5 := Tryd.zeroValue5
  t9 := Tryd.underlying9
  a9 := Tryd.isAgg9
  z9 := Tryd.sizeOf9
  v9 := Tryd.zeroValue9
  t80 := Tryd.underlying109
  a80 := Tryd.isAgg109
  z80 := Tryd.sizeOf109
  v80 := Tryd.zeroValue109
  i0 := by kernel_rfl
  i3 := by kernel_rfl
  i4 := by kernel_rfl
  i5 := by kernel_rfl
  i9 := by kernel_rfl
  i20 := by kernel_rfl
  i37 := by kernel_rfl
  i75 := by kernel_rfl
  i80 := by kernel_rfl
  i91 := by kernel_rfl
  i93 := by kernel_rfl
  i130 := by kernel_rfl
  i131 := by kernel_rfl
  m14 := by kernel_rfl }
open Go.RowKit in
/-- tryGrowByReslice: EITHER there is room: the place to write at is the old length, and the buffer holds the old bytes and n more of whatever lay there; OR there is none: nothing turns, and 'Lib.NoRoom' is what grow asks. (LAID: no walk: one application.) -/
theorem Tryd.Buffer_tryGrow_own (B b n : Nat) (bs : List Value) (w : World) (h : Lib.IsBuffer 62 5 B b bs w) :
    Calls Tryd.prog 65 #[.pointer (some ⟨b, 0, none⟩), .int .i64 n] w fun e w' =>
      (e = .returned (.tuple #[.int .i64 bs.length, .bool true]) ∧ ∃ xs, xs.length = n ∧ Lib.IsBuffer 62 5 B b (bs ++ xs) w' ∧ Below B w w' ∧ Lib.OthersKept 5 (some b) w w' ∧ w.grownBy w' (some b)) ∨
      (e = .returned (.tuple #[.int .i64 0, .bool false]) ∧ w' = w ∧ Lib.NoRoom b n w) := Any.Buffer_tryGrow_own Tryd.laysM251 B b n bs w h
open Go.RowKit in
/-- (*bytes.Buffer).grow: "grow grows the buffer to guarantee space for n more bytes. It returns the index where bytes should be written.": WHERE THERE IS NO ROOM; UNDER Go's OWN LIMIT (the new length takes at most 2^47 bytes): the old length; the buffer holds the old bytes and n more of whatever. (LAID: no walk: one application.) -/
theorem Tryd.Buffer_grow_own (B b n : Nat) (bs : List Value) (w : World) (h : Lib.IsBuffer 62 5 B b bs w) (hnr : Lib.NoRoom b n w) (hBw : B ≤ w.heap.size) (h1 : ∀ v ∈ bs, v.oneCell' = true) (hlim : bs.length + n ≤ 140737488355328) :
    Calls Tryd.prog 66 #[.pointer (some ⟨b, 0, none⟩), .int .i64 n] w fun e w' => e = .returned (.int .i64 bs.length) ∧ ∃ xs, xs.length = n ∧ Lib.IsBuffer 62 5 B b (bs ++ xs) w' ∧ Below B w w' ∧ Lib.OthersKept 5 (some b) w w' ∧ w.grownBy w' (some b) := Any.Buffer_grow_own Tryd.laysM252 B b n bs w h hnr hBw h1 hlim
def Tryd.laysPah39_ren : Go.Shelf.Ren := ⟨fun | 39 => 79 | 41 => 103 | 40 => 104 | n => n, fun | 30 => 25 | 9 => 9 | 3 => 3 | 0 => 0 | 5 => 5 | 46 => 183 | n => n, fun | n => n⟩
theorem Tryd.laysPah39 : Go.Proofs.Lays.ph39 Tryd.prog Tryd.laysPah39_ren := {
  mixed := by kernel_rfl
  f39 := Tryd.func79.trans (congrArg some (by kernel_rfl))
  f40 := Tryd.func104.trans (congrArg some (by kernel_rfl))
  f41 := Tryd.func103.trans (congrArg some (by kernel_rfl))
  t0 := Tryd.underlying0
  a0 := Tryd.isAgg0
  z0 := Tryd.sizeOf0
  v0 := Tryd.zeroValue0
  t3 := Tryd.underlying3
  a3 := Tryd.isAgg3
  z3 := Tryd.sizeOf3
  v3 := Tryd.zeroValue3
  t5 := Tryd.underlying5
  a5 := Tryd.isAgg5
  z5 := Tryd.sizeOf5
  v5 := Tryd.zeroValue5
  t9 := Tryd.underlying9
  a9 := Tryd.isAgg9
  z9 := Tryd.sizeOf9
  v9 := Tryd.zeroValue9
  t30 := Tryd.underlying25
  a30 := Tryd.isAgg25
  z30 := Tryd.sizeOf25
  v30 := Tryd.zeroValue25
  t46 := Tryd.underlying183
  a46 := Tryd.isAgg183
  z46 := Tryd.sizeOf183
  v46 := Tryd.zeroValue183
  info5 := by kernel_rfl }
def Tryd.laysPah43_ren : Go.Shelf.Ren := ⟨fun | 43 => 77 | 42 => 100 | 44 => 101 | n => n, fun | 9 => 9 | 30 => 25 | 35 => 64 | 3 => 3 | 38 => 90 | 4 => 4 | 0 => 0 | 5 => 5 | 47 => 182 | 46 => 183 | 45 => 109 | n => n, fun | 0 => 12 | n => n⟩
theorem Tryd.laysPah43 : Go.Proofs.Lays.ph43 Tryd.prog Tryd.laysPah43_ren := {
  mixed := by kernel_rfl
  f42 := Tryd.func100.trans (congrArg some (by kernel_rfl))
  f43 := Tryd.func77.trans (congrArg some (by kernel_rfl))
  f44 := Tryd.func101.trans (congrArg some (by kernel_rfl))
  t0 := Tryd.underlying0
  a0 := Tryd.isAgg0
  z0 := Tryd.sizeOf0
  v0 := Tryd.zeroValue0
  t3 := Tryd.underlying3
  a3 := Tryd.isAgg3
  z3 := Tryd.sizeOf3
  v3 := Tryd.zeroValue3
  t4 := Tryd.underlying4
  a4 := Tryd.isAgg4
  z4 := Tryd.sizeOf4
  v4 := Tryd.zeroValue4
  t5 := Tryd.underlying5
  a5 := Tryd.isAgg5
  z5 := Tryd.sizeOf5
  v5 := Tryd.zeroValue5
  t9 := Tryd.underlying9
  a9 := Tryd.isAgg9
  z9 := Tryd.sizeOf9
  v9 := Tryd.zeroValue9
  t30 := Tryd.underlying25
  a30 := Tryd.isAgg25
  z30 := Tryd.sizeOf25
  v30 := Tryd.zeroValue25
  t35 := Tryd.underlying64
  a35 := Tryd.isAgg64
  z35 := Tryd.sizeOf64
  v35 := Tryd.zeroValue64
  t38 := Tryd.underlying90
  a38 := Tryd.isAgg90
  z38 := Tryd.sizeOf90
  v38 := Tryd.zeroValue90
  t45 := Tryd.underlying109
  a45 := Tryd.isAgg109
  z45 := Tryd.sizeOf109
  v45 := Tryd.zeroValue109
  t46 := Tryd.underlying183
  a46 := Tryd.isAgg183
  z46 := Tryd.sizeOf183
  v46 := Tryd.zeroValue183
  t47 := Tryd.underlying182
  a47 := Tryd.isAgg182
  z47 := Tryd.sizeOf182
  v47 := Tryd.zeroValue182
  g0 := by kernel_rfl
  info5 := by kernel_rfl }
open Go.RowKit Go.Lib in
/-- encoding/hex.DecodeString: the result slice OWNS the bytes decoded. (LAID: no walk: one application.) -/
theorem Tryd.hex_DecodeString_owns (s : ByteArray) (w : World) (ev : Value) (hE : w.cell? ⟨12, 0, none⟩ = some ev) (hbig : s.size ≤ 281474976710656) :
    Calls Tryd.prog 77 #[.string s] w fun e w' => ∃ v, e = .returned (.tuple #[v, Hx.errVal 182 ev (Hx.decode s.data.toList).2]) ∧
      w'.ownsRow w.heap.size 5 1 v (Hx.decode s.data.toList).1.length ((Hx.decode s.data.toList).1.map fun b => Value.int .u8 (b.toNat : Int)) ∧ Below w.heap.size w w' := Any.hex_DecodeString_owns Tryd.laysPah43 s w ev hE hbig
open Go.RowKit Go.Lib in
/-- encoding/hex.EncodeToString, the slice's content held AS BYTES. (LAID: no walk: one application.) -/
theorem Tryd.hex_EncodeToString_bytes (bs os cs : Nat) (l : List UInt8) (w : World) (hsrc : ∀ i (h : i < l.length), w.cell? ⟨bs, os + i, none⟩ = some (.int .u8 ((l[i]'h).toNat : Int))) (hb : bs < w.heap.size) (hbig : 2 * l.length ≤ 281474976710656) :
    Calls Tryd.prog 79 #[.slice (some ⟨bs, os, none⟩) l.length cs] w fun e w' => e = .returned (.string ⟨(Hx.encode l).toArray⟩) ∧ Below w.heap.size w w' := Any.hex_EncodeToString_bytes Tryd.laysPah39 bs os cs l w hsrc hb hbig
end Go.Proofs
