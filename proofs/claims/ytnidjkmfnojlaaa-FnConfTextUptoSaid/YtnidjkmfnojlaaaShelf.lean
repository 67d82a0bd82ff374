/-
  DERIVED: THE SHELF's CONTRACTS AT THIS DUMP, IN PLAIN WORDS (tools/lay-plain.mjs out of 'TryShelf.lean', which tools/lay-shelf.mjs wrote): THE SAME DECLARATIONS UNDER THE SAME NAMES: 'import', 'namespace', 'open', 'def', 'theorem' AND NOTHING ELSE: no command of the shelf's: FOR A HAND-IN. Each laying: the table of numbers ('.._ren') and one theorem, a field a fact of the dump's own or the kernel's comparison; each contract: ONE APPLICATION.
-/
import Derived.Shelf.LaysM
import Derived.Shelf.Bytes.Bytes
import Derived.Shelf.Bytes.WriteStringKept
import Derived.Test.YtnidjkmfnojlaaaProg

namespace Go.Proofs
open Go.Shelf
def Try.laysM183_ren : Go.Shelf.Ren := ⟨fun | 183 => 14 | n => n, fun | 130 => 45 | 37 => 24 | 0 => 0 | 93 => 40 | 3 => 3 | 5 => 5 | 91 => 38 | n => n, fun | n => n⟩
theorem Try.laysM183 : Go.Proofs.LaysM.n183 Try.prog Try.laysM183_ren := {
  mixed := by kernel_rfl
  f183 := Try.func14.trans (congrArg some (by kernel_rfl))
  t0 := Try.underlying0
  a0 := Try.isAgg0
  z0 := Try.sizeOf0
  v0 := Try.zeroValue0
  t3 := Try.underlying3
  a3 := Try.isAgg3
  z3 := Try.sizeOf3
  v3 := Try.zeroValue3
  t37 := Try.underlying24
  a37 := Try.isAgg24
  z37 := Try.sizeOf24
  v37 := Try.zeroValue24
  t93 := Try.underlying40
  a93 := Try.isAgg40
  z93 := Try.sizeOf40
  v93 := Try.zeroValue40
  t130 := Try.underlying45
  a130 := Try.isAgg45
  z130 := Try.sizeOf45
  v130 := Try.zeroValue45
  t5 := Try.underlying5
  a5 := Try.isAgg5
  z5 := Try.sizeOf5
  v5 := Try.zeroValue5
  t91 := Try.underlying38
  a91 := Try.isAgg38
  z91 := Try.sizeOf38
  v91 := Try.zeroValue38
  i0 := by kernel_rfl
  i3 := by kernel_rfl
  i5 := by kernel_rfl
  i37 := by kernel_rfl
  i91 := by kernel_rfl
  i93 := by kernel_rfl
  i130 := by kernel_rfl }
open Go.RowKit in
/-- (*bytes.Buffer).Bytes: "Bytes returns a slice of length b.Len() holding the unread portion of the buffer. .. The slice aliases the buffer content at least until the next buffer modification": A SLICE THAT OWNS THE CELLS bs ('World.ownsRow': nil where nothing was ever written). The world is as it was but for the count of draws. (LAID: no walk: one application.) -/
theorem Try.Buffer_Bytes (B b : Nat) (bs : List Value) (w : World) (h : Lib.IsBuffer 40 5 B b bs w) :
    Calls Try.prog 14 #[.pointer (some ⟨b, 0, none⟩)] w fun e w' => ∃ v, e = .returned v ∧ w'.ownsRow B 5 1 v bs.length bs ∧ ∃ n, w' = w.drewN n := Any.Buffer_Bytes Try.laysM183 B b bs w h
def Try.laysM178_ren : Go.Shelf.Ren := ⟨fun | 178 => 54 | 251 => 55 | 252 => 56 | 181 => 57 | 184 => 51 | 290 => 58 | 324 => 59 | n => n, fun | 130 => 45 | 9 => 9 | 3 => 3 | 75 => 42 | 0 => 0 | 93 => 40 | 91 => 38 | 131 => 111 | 4 => 4 | 37 => 24 | 20 => 20 | 80 => 95 | 5 => 5 | n => n, fun | 14 => 0 | n => n⟩
theorem Try.laysM178 : Go.Proofs.LaysM.n178 Try.prog Try.laysM178_ren := {
  mixed := by kernel_rfl
  f178 := Try.func54.trans (congrArg some (by kernel_rfl))
  f181 := Try.func57.trans (congrArg some (by kernel_rfl))
  f184 := Try.func51.trans (congrArg some (by kernel_rfl))
  f251 := Try.func55.trans (congrArg some (by kernel_rfl))
  f252 := Try.func56.trans (congrArg some (by kernel_rfl))
  f290 := Try.func58.trans (congrArg some (by kernel_rfl))
  f324 := Try.func59.trans (congrArg some (by kernel_rfl))
  t0 := Try.underlying0
  a0 := Try.isAgg0
  z0 := Try.sizeOf0
  v0 := Try.zeroValue0
  t3 := Try.underlying3
  a3 := Try.isAgg3
  z3 := Try.sizeOf3
  v3 := Try.zeroValue3
  t4 := Try.underlying4
  a4 := Try.isAgg4
  z4 := Try.sizeOf4
  v4 := Try.zeroValue4
  t9 := Try.underlying9
  a9 := Try.isAgg9
  z9 := Try.sizeOf9
  v9 := Try.zeroValue9
  t20 := Try.underlying20
  a20 := Try.isAgg20
  z20 := Try.sizeOf20
  v20 := Try.zeroValue20
  t37 := Try.underlying24
  a37 := Try.isAgg24
  z37 := Try.sizeOf24
  v37 := Try.zeroValue24
  t75 := Try.underlying42
  a75 := Try.isAgg42
  z75 := Try.sizeOf42
  v75 := Try.zeroValue42
  t91 := Try.underlying38
  a91 := Try.isAgg38
  z91 := Try.sizeOf38
  v91 := Try.zeroValue38
  t93 := Try.underlying40
  a93 := Try.isAgg40
  z93 := Try.sizeOf40
  v93 := Try.zeroValue40
  t130 := Try.underlying45
  a130 := Try.isAgg45
  z130 := Try.sizeOf45
  v130 := Try.zeroValue45
  t131 := Try.underlying111
  a131 := Try.isAgg111
  z131 := Try.sizeOf111
  v131 := Try.zeroValue111
  g14 := by kernel_rfl
  t5 := Try.underlying5
  a5 := Try.isAgg5
  z5 := Try.sizeOf5
  v5 := Try.zeroValue5
  t80 := Try.underlying95
  a80 := Try.isAgg95
  z80 := Try.sizeOf95
  v80 := Try.zeroValue95
  i0 := by kernel_rfl
  i3 := by kernel_rfl
  i4 := by kernel_rfl
  i5 := by kernel_rfl
  i9 := by kernel_rfl
  i20 := by kernel_rfl
  i37 := by kernel_rfl
  i75 := by kernel_rfl
  i80 := by kernel_rfl
  i91 := by kernel_rfl
  i93 := by kernel_rfl
  i130 := by kernel_rfl
  i131 := by kernel_rfl
  m14 := by kernel_rfl }
open Go.RowKit in
/-- (*bytes.Buffer).WriteString: "WriteString appends the contents of s to the buffer, growing the buffer as needed. The return value n is the length of s; err is always nil." (LAID: no walk: one application.) -/
theorem Try.Buffer_WriteString_kept (B b : Nat) (bs : List Value) (s : ByteArray) (w : World) (h : Lib.IsBuffer 40 5 B b bs w) (hBw : B ≤ w.heap.size) (h1 : ∀ v ∈ bs, v.oneCell' = true) (hlim : bs.length + s.size ≤ 140737488355328) :
    Calls Try.prog 54 #[.pointer (some ⟨b, 0, none⟩), .string s] w fun e w' => e = .returned (.tuple #[.int .i64 s.size, .nilIface]) ∧ Lib.IsBuffer 40 5 B b (bs ++ Lib.byteCells s.data.toList) w' ∧ Below B w w' ∧ Lib.OthersKept 5 (some b) w w' := Any.Buffer_WriteString_kept Try.laysM178 B b bs s w h hBw h1 hlim
end Go.Proofs
