/- Contracts of small functions over texts: Small, HasPrefix, HasSuffix. -/
import Derived.Test.YtkjfndkcagkhaaaDoorProg
import Derived.WalkKit
import Derived.Below
import Derived.WalkLawsBesides
import Derived.WalkSpells
import Derived.Lib.Hide
set_option linter.unusedVariables false
namespace Go.Proofs.YtkjfndkcagkhaaaDoor.strs
open Go.RowKit Lib

theorem ret_bool {a b : Bool} (h : a = b) : Ending.returned (.bool a) = .returned (.bool b) := by rw [h]
theorem ret_str {a b : ByteArray} (h : a = b) : Ending.returned (.string a) = .returned (.string b) := by rw [h]
theorem ret_int {k : IntKind} {a b : Int} (h : a = b) : Ending.returned (.int k a) = .returned (.int k b) := by rw [h]

/-- a letter or a digit -/
def alnum (c : UInt8) : Bool := (97 ≤ c && c ≤ 122) || (65 ≤ c && c ≤ 90) || (48 ≤ c && c ≤ 57)
theorem alnum_iff (c : UInt8) : alnum c = true ↔ (97 ≤ (c.toNat : Int) ∧ (c.toNat : Int) ≤ 122) ∨ (65 ≤ (c.toNat : Int) ∧ (c.toNat : Int) ≤ 90) ∨ (48 ≤ (c.toNat : Int) ∧ (c.toNat : Int) ≤ 57) := by
  simp [alnum, UInt8.le_iff_toNat_le]; omega
def small (l : List UInt8) : Bool := l.all alnum && !l.isEmpty
theorem all_take_succ (p : UInt8 → Bool) (s : ByteArray) (k : Nat) (h : k < s.size) (h0 : (s.data.toList.take k).all p = true) (h1 : p s[k] = true) : (s.data.toList.take (k + 1)).all p = true := by
  rw [List.take_succ_eq_append_getElem (by simpa using h), List.all_append, h0]
  simp only [List.all_cons, List.all_nil, Bool.and_true, Bool.true_and, Array.getElem_toList]
  exact h1
theorem all_false (p : UInt8 → Bool) (s : ByteArray) (k : Nat) (h : k < s.size) (h1 : p s[k] = false) : s.data.toList.all p = false := by
  rw [List.all_eq_false]
  exact ⟨s[k], by rw [show s[k] = s.data[k] from rfl]; exact Array.getElem_mem_toList _, by simpa using h1⟩
theorem classes (c : Int) : c < 48 ∨ (48 ≤ c ∧ c ≤ 57) ∨ (57 < c ∧ c < 65) ∨ (65 ≤ c ∧ c ≤ 90) ∨ (90 < c ∧ c < 97) ∨ (97 ≤ c ∧ c ≤ 122) ∨ 122 < c := by omega


end Go.Proofs.YtkjfndkcagkhaaaDoor.strs
