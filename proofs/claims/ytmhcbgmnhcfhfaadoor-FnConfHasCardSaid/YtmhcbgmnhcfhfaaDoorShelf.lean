/-
  DERIVED: THE SHELF's CONTRACTS AT THIS DUMP, IN PLAIN WORDS (tools/lay-plain.mjs out of 'TrydShelf.lean', which tools/lay-shelf.mjs wrote): THE SAME DECLARATIONS UNDER THE SAME NAMES: 'import', 'namespace', 'open', 'def', 'theorem' AND NOTHING ELSE: no command of the shelf's: FOR A HAND-IN. Each laying: the table of numbers ('.._ren') and one theorem, a field a fact of the dump's own or the kernel's comparison; each contract: ONE APPLICATION.
-/
import Derived.Shelf.Strings.Fold
import Derived.Test.YtmhcbgmnhcfhfaaDoorProg

namespace Go.Proofs
open Go.Shelf
def Tryd.lays164_ren : Go.Shelf.Ren := ⟨fun | 164 => 53 | 197 => 58 | 239 => 59 | 260 => 68 | 274 => 69 | 275 => 70 | n => n, fun | 9 => 9 | 4 => 4 | 3 => 3 | 5 => 5 | 0 => 0 | 21 => 21 | 105 => 116 | 156 => 128 | 49 => 127 | 157 => 129 | 46 => 130 | 159 => 132 | 162 => 135 | 160 => 133 | 119 => 144 | 139 => 147 | 138 => 146 | 208 => 151 | 51 => 140 | 206 => 149 | n => n, fun | 11 => 0 | 12 => 1 | 13 => 2 | 3 => 4 | 4 => 5 | n => n⟩
theorem Tryd.lays164 : Go.Proofs.Lays.n164 Tryd.prog Tryd.lays164_ren := {
  mixed := by kernel_rfl
  f164 := Tryd.func53.trans (congrArg some (by kernel_rfl))
  f197 := Tryd.func58.trans (congrArg some (by kernel_rfl))
  f239 := Tryd.func59.trans (congrArg some (by kernel_rfl))
  f260 := Tryd.func68.trans (congrArg some (by kernel_rfl))
  f274 := Tryd.func69.trans (congrArg some (by kernel_rfl))
  f275 := Tryd.func70.trans (congrArg some (by kernel_rfl))
  t0 := Tryd.underlying0
  a0 := Tryd.isAgg0
  z0 := Tryd.sizeOf0
  v0 := Tryd.zeroValue0
  t3 := Tryd.underlying3
  a3 := Tryd.isAgg3
  z3 := Tryd.sizeOf3
  v3 := Tryd.zeroValue3
  t4 := Tryd.underlying4
  a4 := Tryd.isAgg4
  z4 := Tryd.sizeOf4
  v4 := Tryd.zeroValue4
  t5 := Tryd.underlying5
  a5 := Tryd.isAgg5
  z5 := Tryd.sizeOf5
  v5 := Tryd.zeroValue5
  t9 := Tryd.underlying9
  a9 := Tryd.isAgg9
  z9 := Tryd.sizeOf9
  v9 := Tryd.zeroValue9
  t21 := Tryd.underlying21
  a21 := Tryd.isAgg21
  z21 := Tryd.sizeOf21
  v21 := Tryd.zeroValue21
  t46 := Tryd.underlying130
  a46 := Tryd.isAgg130
  z46 := Tryd.sizeOf130
  v46 := Tryd.zeroValue130
  t49 := Tryd.underlying127
  a49 := Tryd.isAgg127
  z49 := Tryd.sizeOf127
  v49 := Tryd.zeroValue127
  t51 := Tryd.underlying140
  a51 := Tryd.isAgg140
  z51 := Tryd.sizeOf140
  v51 := Tryd.zeroValue140
  t105 := Tryd.underlying116
  a105 := Tryd.isAgg116
  z105 := Tryd.sizeOf116
  v105 := Tryd.zeroValue116
  t119 := Tryd.underlying144
  a119 := Tryd.isAgg144
  z119 := Tryd.sizeOf144
  t138 := Tryd.underlying146
  a138 := Tryd.isAgg146
  z138 := Tryd.sizeOf146
  v138 := Tryd.zeroValue146
  t139 := Tryd.underlying147
  a139 := Tryd.isAgg147
  z139 := Tryd.sizeOf147
  v139 := Tryd.zeroValue147
  t156 := Tryd.underlying128
  a156 := Tryd.isAgg128
  z156 := Tryd.sizeOf128
  t157 := Tryd.underlying129
  a157 := Tryd.isAgg129
  z157 := Tryd.sizeOf129
  v157 := Tryd.zeroValue129
  t159 := Tryd.underlying132
  a159 := Tryd.isAgg132
  z159 := Tryd.sizeOf132
  v159 := Tryd.zeroValue132
  t160 := Tryd.underlying133
  a160 := Tryd.isAgg133
  z160 := Tryd.sizeOf133
  v160 := Tryd.zeroValue133
  t162 := Tryd.underlying135
  a162 := Tryd.isAgg135
  z162 := Tryd.sizeOf135
  v162 := Tryd.zeroValue135
  t206 := Tryd.underlying149
  a206 := Tryd.isAgg149
  z206 := Tryd.sizeOf149
  v206 := Tryd.zeroValue149
  t208 := Tryd.underlying151
  a208 := Tryd.isAgg151
  z208 := Tryd.sizeOf151
  v208 := Tryd.zeroValue151
  g3 := by kernel_rfl
  g4 := by kernel_rfl
  g11 := by kernel_rfl
  g12 := by kernel_rfl
  g13 := by kernel_rfl }
open Go.RowKit Go.Lib in
theorem Tryd.strings_EqualFold (s t : ByteArray) (w : World) (hs : s.size < 4294967281) (has : ∀ (j : Nat) b, s.data.toList[j]? = some b → b.toNat < 128) (hat : ∀ (j : Nat) b, t.data.toList[j]? = some b → b.toNat < 128) :
    Calls Tryd.prog 53 #[.string s, .string t] w fun e w' => e = .returned (.bool (Lib.equalFold s.data.toList t.data.toList)) ∧ w' = w := Any.strings_EqualFold Tryd.lays164 s t w hs has hat
end Go.Proofs
