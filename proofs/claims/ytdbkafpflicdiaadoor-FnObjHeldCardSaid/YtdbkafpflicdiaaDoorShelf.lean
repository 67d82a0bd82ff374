/-
  DERIVED: THE SHELF's CONTRACTS AT THIS DUMP, IN PLAIN WORDS (tools/lay-plain.mjs out of 'TrydShelf.lean', which tools/lay-shelf.mjs wrote): THE SAME DECLARATIONS UNDER THE SAME NAMES: 'import', 'namespace', 'open', 'def', 'theorem' AND NOTHING ELSE: no command of the shelf's: FOR A HAND-IN. Each laying: the table of numbers ('.._ren') and one theorem, a field a fact of the dump's own or the kernel's comparison; each contract: ONE APPLICATION.
-/
import Derived.Ground.PaProg
import Derived.Shelf.LaysM
import Derived.Shelf.Strconv.Itoa4
import Derived.Shelf.Hex.More
import Derived.Test.YtdbkafpflicdiaaDoorProg

namespace Go.Proofs
open Go.Shelf
def Tryd.laysM173_ren : Go.Shelf.Ren := ⟨fun | 173 => 26 | 246 => 29 | 283 => 30 | 284 => 31 | 285 => 32 | 286 => 33 | 129 => 35 | 317 => 34 | 318 => 36 | 319 => 37 | 320 => 38 | 337 => 39 | 338 => 40 | n => n, fun | 2 => 2 | 3 => 3 | 9 => 9 | 4 => 4 | 171 => 80 | 0 => 0 | 53 => 76 | 37 => 26 | 5 => 5 | 173 => 83 | 212 => 86 | 51 => 74 | 20 => 20 | 213 => 87 | 46 => 72 | 232 => 91 | 233 => 92 | n => n, fun | 17 => 1 | 18 => 2 | 19 => 3 | n => n⟩
theorem Tryd.laysM173 : Go.Proofs.LaysM.n173 Tryd.prog Tryd.laysM173_ren := {
  mixed := by kernel_rfl
  f129 := Tryd.func35.trans (congrArg some (by kernel_rfl))
  f173 := Tryd.func26.trans (congrArg some (by kernel_rfl))
  f246 := Tryd.func29.trans (congrArg some (by kernel_rfl))
  f283 := Tryd.func30.trans (congrArg some (by kernel_rfl))
  f284 := Tryd.func31.trans (congrArg some (by kernel_rfl))
  f285 := Tryd.func32.trans (congrArg some (by kernel_rfl))
  f286 := Tryd.func33.trans (congrArg some (by kernel_rfl))
  f317 := Tryd.func34.trans (congrArg some (by kernel_rfl))
  f318 := Tryd.func36.trans (congrArg some (by kernel_rfl))
  f319 := Tryd.func37.trans (congrArg some (by kernel_rfl))
  f320 := Tryd.func38.trans (congrArg some (by kernel_rfl))
  f337 := Tryd.func39.trans (congrArg some (by kernel_rfl))
  f338 := Tryd.func40.trans (congrArg some (by kernel_rfl))
  t0 := Tryd.underlying0
  a0 := Tryd.isAgg0
  z0 := Tryd.sizeOf0
  v0 := Tryd.zeroValue0
  t2 := Tryd.underlying2
  a2 := Tryd.isAgg2
  z2 := Tryd.sizeOf2
  v2 := Tryd.zeroValue2
  t3 := Tryd.underlying3
  a3 := Tryd.isAgg3
  z3 := Tryd.sizeOf3
  v3 := Tryd.zeroValue3
  t4 := Tryd.underlying4
  a4 := Tryd.isAgg4
  z4 := Tryd.sizeOf4
  v4 := Tryd.zeroValue4
  t5 := Tryd.underlying5
  a5 := Tryd.isAgg5
  z5 := Tryd.sizeOf5
  v5 := Tryd.zeroValue5
  t9 := Tryd.underlying9
  a9 := Tryd.isAgg9
  z9 := Tryd.sizeOf9
  v9 := Tryd.zeroValue9
  t20 := Tryd.underlying20
  a20 := Tryd.isAgg20
  z20 := Tryd.sizeOf20
  v20 := Tryd.zeroValue20
  t37 := Tryd.underlying26
  a37 := Tryd.isAgg26
  z37 := Tryd.sizeOf26
  v37 := Tryd.zeroValue26
  t46 := Tryd.underlying72
  a46 := Tryd.isAgg72
  z46 := Tryd.sizeOf72
  v46 := Tryd.zeroValue72
  t51 := Tryd.underlying74
  a51 := Tryd.isAgg74
  z51 := Tryd.sizeOf74
  v51 := Tryd.zeroValue74
  t53 := Tryd.underlying76
  a53 := Tryd.isAgg76
  z53 := Tryd.sizeOf76
  v53 := Tryd.zeroValue76
  t171 := Tryd.underlying80
  a171 := Tryd.isAgg80
  z171 := Tryd.sizeOf80
  v171 := Tryd.zeroValue80
  t173 := Tryd.underlying83
  a173 := Tryd.isAgg83
  z173 := Tryd.sizeOf83
  v173 := Tryd.zeroValue83
  t212 := Tryd.underlying86
  a212 := Tryd.isAgg86
  z212 := Tryd.sizeOf86
  v212 := Tryd.zeroValue86
  t213 := Tryd.underlying87
  a213 := Tryd.isAgg87
  z213 := Tryd.sizeOf87
  t232 := Tryd.underlying91
  a232 := Tryd.isAgg91
  z232 := Tryd.sizeOf91
  v232 := Tryd.zeroValue91
  t233 := Tryd.underlying92
  a233 := Tryd.isAgg92
  z233 := Tryd.sizeOf92
  v233 := Tryd.zeroValue92
  g17 := by kernel_rfl
  g18 := by kernel_rfl
  g19 := by kernel_rfl
  i0 := by kernel_rfl
  i2 := by kernel_rfl
  i3 := by kernel_rfl
  i4 := by kernel_rfl
  i5 := by kernel_rfl
  i9 := by kernel_rfl
  i20 := by kernel_rfl
  i37 := by kernel_rfl
  i46 := by kernel_rfl
  i51 := by kernel_rfl
  i53 := by kernel_rfl
  i171 := by kernel_rfl
  i173 := by kernel_rfl
  i212 := by kernel_rfl
  i232 := by kernel_rfl
  i233 := by kernel_rfl
  m17 := by kernel_rfl
  m18 := by kernel_rfl
  m19 := by kernel_rfl }
open Go.RowKit Go.Sort Go.Lib in
/-- strconv.FormatInt: "FormatInt returns the string representation of i in the given base": AT BASE 10: i's decimal numeral, for every int64. (LAID: no walk: one application.) -/
theorem Tryd.strconv_FormatInt_10 (n : Int) (h0 : -9223372036854775808 ≤ n) (h1 : n ≤ 9223372036854775807) (w : World) (htab : Lib.TabIs Tryd.prog w "internal/strconv.uint64pow10" .u64 Lib.pow10Tab) :
    Calls Tryd.prog 26 #[.int .i64 n, .int .i64 10] w fun e w' => e = .returned (.string ⟨(Lib.itoa n).toArray⟩) ∧ ∃ k os, w' = grow (w.drewN k) os := Any.strconv_FormatInt_10 Tryd.laysM173 n h0 h1 w htab
def Tryd.laysPah39_ren : Go.Shelf.Ren := ⟨fun | 39 => 19 | 41 => 22 | 40 => 23 | n => n, fun | 30 => 26 | 9 => 9 | 3 => 3 | 0 => 0 | 5 => 5 | 46 => 72 | n => n, fun | n => n⟩
theorem Tryd.laysPah39 : Go.Proofs.Lays.ph39 Tryd.prog Tryd.laysPah39_ren := {
  mixed := by kernel_rfl
  f39 := Tryd.func19.trans (congrArg some (by kernel_rfl))
  f40 := Tryd.func23.trans (congrArg some (by kernel_rfl))
  f41 := Tryd.func22.trans (congrArg some (by kernel_rfl))
  t0 := Tryd.underlying0
  a0 := Tryd.isAgg0
  z0 := Tryd.sizeOf0
  v0 := Tryd.zeroValue0
  t3 := Tryd.underlying3
  a3 := Tryd.isAgg3
  z3 := Tryd.sizeOf3
  v3 := Tryd.zeroValue3
  t5 := Tryd.underlying5
  a5 := Tryd.isAgg5
  z5 := Tryd.sizeOf5
  v5 := Tryd.zeroValue5
  t9 := Tryd.underlying9
  a9 := Tryd.isAgg9
  z9 := Tryd.sizeOf9
  v9 := Tryd.zeroValue9
  t30 := Tryd.underlying26
  a30 := Tryd.isAgg26
  z30 := Tryd.sizeOf26
  v30 := Tryd.zeroValue26
  t46 := Tryd.underlying72
  a46 := Tryd.isAgg72
  z46 := Tryd.sizeOf72
  v46 := Tryd.zeroValue72
  info5 := by kernel_rfl }
open Go.RowKit Go.Lib in
/-- encoding/hex.EncodeToString, the slice's content held AS BYTES. (LAID: no walk: one application.) -/
theorem Tryd.hex_EncodeToString_bytes (bs os cs : Nat) (l : List UInt8) (w : World) (hsrc : ∀ i (h : i < l.length), w.cell? ⟨bs, os + i, none⟩ = some (.int .u8 ((l[i]'h).toNat : Int))) (hb : bs < w.heap.size) (hbig : 2 * l.length ≤ 281474976710656) :
    Calls Tryd.prog 19 #[.slice (some ⟨bs, os, none⟩) l.length cs] w fun e w' => e = .returned (.string ⟨(Hx.encode l).toArray⟩) ∧ Below w.heap.size w w' := Any.hex_EncodeToString_bytes Tryd.laysPah39 bs os cs l w hsrc hb hbig
end Go.Proofs
