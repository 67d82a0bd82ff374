/-
  DERIVED: THE SHELF's CONTRACTS AT THIS DUMP, IN PLAIN WORDS (tools/lay-plain.mjs out of 'TrydShelf.lean', which tools/lay-shelf.mjs wrote): THE SAME DECLARATIONS UNDER THE SAME NAMES: 'import', 'namespace', 'open', 'def', 'theorem' AND NOTHING ELSE: no command of the shelf's: FOR A HAND-IN. Each laying: the table of numbers ('.._ren') and one theorem, a field a fact of the dump's own or the kernel's comparison; each contract: ONE APPLICATION.
-/
import Derived.Ground.PaProg
import Derived.Shelf.Hex.DecodeOwns
import Derived.Shelf.Hex.More
import Derived.Test.YtnidjkmfnojlaaaDoorProg

namespace Go.Proofs
open Go.Shelf
def Tryd.laysPah39_ren : Go.Shelf.Ren := ⟨fun | 39 => 45 | 41 => 54 | 40 => 55 | n => n, fun | 30 => 38 | 9 => 9 | 3 => 3 | 0 => 0 | 5 => 5 | 46 => 116 | n => n, fun | n => n⟩
theorem Tryd.laysPah39 : Go.Proofs.Lays.ph39 Tryd.prog Tryd.laysPah39_ren := {
  mixed := by kernel_rfl
  f39 := Tryd.func45.trans (congrArg some (by kernel_rfl))
  f40 := Tryd.func55.trans (congrArg some (by kernel_rfl))
  f41 := Tryd.func54.trans (congrArg some (by kernel_rfl))
  t0 := Tryd.underlying0
  a0 := Tryd.isAgg0
  z0 := Tryd.sizeOf0
  v0 := Tryd.zeroValue0
  t3 := Tryd.underlying3
  a3 := Tryd.isAgg3
  z3 := Tryd.sizeOf3
  v3 := Tryd.zeroValue3
  t5 := Tryd.underlying5
  a5 := Tryd.isAgg5
  z5 := Tryd.sizeOf5
  v5 := Tryd.zeroValue5
  t9 := Tryd.underlying9
  a9 := Tryd.isAgg9
  z9 := Tryd.sizeOf9
  v9 := Tryd.zeroValue9
  t30 := Tryd.underlying38
  a30 := Tryd.isAgg38
  z30 := Tryd.sizeOf38
  v30 := Tryd.zeroValue38
  t46 := Tryd.underlying116
  a46 := Tryd.isAgg116
  z46 := Tryd.sizeOf116
  v46 := Tryd.zeroValue116
  info5 := by kernel_rfl }
def Tryd.laysPah43_ren : Go.Shelf.Ren := ⟨fun | 43 => 41 | 42 => 52 | 44 => 53 | n => n, fun | 9 => 9 | 30 => 38 | 35 => 44 | 3 => 3 | 38 => 83 | 4 => 4 | 0 => 0 | 5 => 5 | 47 => 115 | 46 => 116 | 45 => 75 | n => n, fun | 0 => 7 | n => n⟩
theorem Tryd.laysPah43 : Go.Proofs.Lays.ph43 Tryd.prog Tryd.laysPah43_ren := {
  mixed := by kernel_rfl
  f42 := Tryd.func52.trans (congrArg some (by kernel_rfl))
  f43 := Tryd.func41.trans (congrArg some (by kernel_rfl))
  f44 := Tryd.func53.trans (congrArg some (by kernel_rfl))
  t0 := Tryd.underlying0
  a0 := Tryd.isAgg0
  z0 := Tryd.sizeOf0
  v0 := Tryd.zeroValue0
  t3 := Tryd.underlying3
  a3 := Tryd.isAgg3
  z3 := Tryd.sizeOf3
  v3 := Tryd.zeroValue3
  t4 := Tryd.underlying4
  a4 := Tryd.isAgg4
  z4 := Tryd.sizeOf4
  v4 := Tryd.zeroValue4
  t5 := Tryd.underlying5
  a5 := Tryd.isAgg5
  z5 := Tryd.sizeOf5
  v5 := Tryd.zeroValue5
  t9 := Tryd.underlying9
  a9 := Tryd.isAgg9
  z9 := Tryd.sizeOf9
  v9 := Tryd.zeroValue9
  t30 := Tryd.underlying38
  a30 := Tryd.isAgg38
  z30 := Tryd.sizeOf38
  v30 := Tryd.zeroValue38
  t35 := Tryd.underlying44
  a35 := Tryd.isAgg44
  z35 := Tryd.sizeOf44
  v35 := Tryd.zeroValue44
  t38 := Tryd.underlying83
  a38 := Tryd.isAgg83
  z38 := Tryd.sizeOf83
  v38 := Tryd.zeroValue83
  t45 := Tryd.underlying75
  a45 := Tryd.isAgg75
  z45 := Tryd.sizeOf75
  v45 := Tryd.zeroValue75
  t46 := Tryd.underlying116
  a46 := Tryd.isAgg116
  z46 := Tryd.sizeOf116
  v46 := Tryd.zeroValue116
  t47 := Tryd.underlying115
  a47 := Tryd.isAgg115
  z47 := Tryd.sizeOf115
  v47 := Tryd.zeroValue115
  g0 := by kernel_rfl
  info5 := by kernel_rfl }
open Go.RowKit Go.Lib in
/-- encoding/hex.DecodeString: the result slice OWNS the bytes decoded. (LAID: no walk: one application.) -/
theorem Tryd.hex_DecodeString_owns (s : ByteArray) (w : World) (ev : Value) (hE : w.cell? ⟨7, 0, none⟩ = some ev) (hbig : s.size ≤ 281474976710656) :
    Calls Tryd.prog 41 #[.string s] w fun e w' => ∃ v, e = .returned (.tuple #[v, Hx.errVal 115 ev (Hx.decode s.data.toList).2]) ∧
      w'.ownsRow w.heap.size 5 1 v (Hx.decode s.data.toList).1.length ((Hx.decode s.data.toList).1.map fun b => Value.int .u8 (b.toNat : Int)) ∧ Below w.heap.size w w' := Any.hex_DecodeString_owns Tryd.laysPah43 s w ev hE hbig
open Go.RowKit Go.Lib in
/-- encoding/hex.EncodeToString, the slice's content held AS BYTES. (LAID: no walk: one application.) -/
theorem Tryd.hex_EncodeToString_bytes (bs os cs : Nat) (l : List UInt8) (w : World) (hsrc : ∀ i (h : i < l.length), w.cell? ⟨bs, os + i, none⟩ = some (.int .u8 ((l[i]'h).toNat : Int))) (hb : bs < w.heap.size) (hbig : 2 * l.length ≤ 281474976710656) :
    Calls Tryd.prog 45 #[.slice (some ⟨bs, os, none⟩) l.length cs] w fun e w' => e = .returned (.string ⟨(Hx.encode l).toArray⟩) ∧ Below w.heap.size w w' := Any.hex_EncodeToString_bytes Tryd.laysPah39 bs os cs l w hsrc hb hbig
end Go.Proofs
