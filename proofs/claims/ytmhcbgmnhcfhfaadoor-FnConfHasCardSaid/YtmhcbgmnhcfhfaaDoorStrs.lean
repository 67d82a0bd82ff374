/- Contracts of small functions over texts: Small, HasPrefix, HasSuffix. -/
import Derived.Test.YtmhcbgmnhcfhfaaDoorProg
import Derived.WalkKit
import Derived.Below
import Derived.WalkLawsBesides
import Derived.WalkSpells
import Derived.Lib.Hide
set_option linter.unusedVariables false
namespace Go.Proofs.YtmhcbgmnhcfhfaaDoor.strs
open Go.RowKit Lib

theorem ret_bool {a b : Bool} (h : a = b) : Ending.returned (.bool a) = .returned (.bool b) := by rw [h]
theorem ret_str {a b : ByteArray} (h : a = b) : Ending.returned (.string a) = .returned (.string b) := by rw [h]
theorem ret_int {k : IntKind} {a b : Int} (h : a = b) : Ending.returned (.int k a) = .returned (.int k b) := by rw [h]

/-- a letter or a digit -/
def alnum (c : UInt8) : Bool := (97 ≤ c && c ≤ 122) || (65 ≤ c && c ≤ 90) || (48 ≤ c && c ≤ 57)
theorem alnum_iff (c : UInt8) : alnum c = true ↔ (97 ≤ (c.toNat : Int) ∧ (c.toNat : Int) ≤ 122) ∨ (65 ≤ (c.toNat : Int) ∧ (c.toNat : Int) ≤ 90) ∨ (48 ≤ (c.toNat : Int) ∧ (c.toNat : Int) ≤ 57) := by
  simp [alnum, UInt8.le_iff_toNat_le]; omega
def small (l : List UInt8) : Bool := l.all alnum && !l.isEmpty
theorem all_take_succ (p : UInt8 → Bool) (s : ByteArray) (k : Nat) (h : k < s.size) (h0 : (s.data.toList.take k).all p = true) (h1 : p s[k] = true) : (s.data.toList.take (k + 1)).all p = true := by
  rw [List.take_succ_eq_append_getElem (by simpa using h), List.all_append, h0]
  simp only [List.all_cons, List.all_nil, Bool.and_true, Bool.true_and, Array.getElem_toList]
  exact h1
theorem all_false (p : UInt8 → Bool) (s : ByteArray) (k : Nat) (h : k < s.size) (h1 : p s[k] = false) : s.data.toList.all p = false := by
  rw [List.all_eq_false]
  exact ⟨s[k], by rw [show s[k] = s.data[k] from rfl]; exact Array.getElem_mem_toList _, by simpa using h1⟩
theorem classes (c : Int) : c < 48 ∨ (48 ≤ c ∧ c ≤ 57) ∨ (57 < c ∧ c < 65) ∨ (65 ≤ c ∧ c ≤ 90) ∨ (90 < c ∧ c < 97) ∨ (97 ≤ c ∧ c ≤ 122) ∨ 122 < c := by omega

set_option maxHeartbeats 1000000 in
theorem small_calls (s : ByteArray) (w : World) (hs : s.size ≤ 140737488351232) :
    Calls Tryd.prog 39 #[.string s] w fun e w' => e = .returned (.bool (small s.data.toList)) ∧ w = w' := by
  go_enter Tryd.func39, Tryd.ntmps39
  go_wp2_with fail
  go_loop [7] (fun i => ∃ k : Nat, k ≤ s.size ∧ i = .int .i64 k ∧ Hid ((s.data.toList.take k).all alnum = true)) (fun i => s.size - (intOf i).toNat)
  case atStart => exact ⟨0, by omega, rfl, hid (by simp)⟩
  case round =>
    obtain ⟨k, hk, rfl, ha⟩ := hrel
    by_cases hlt : k < s.size
    · have H := hid (all_take_succ alnum s k hlt ha)
      have H2 := hid (all_false alnum s k hlt)
      have H3 := hid (alnum_iff s[k])
      rcases classes s[k].toNat with hc | ⟨hc, hd⟩ | ⟨hc, hd⟩ | ⟨hc, hd⟩ | ⟨hc, hd⟩ | ⟨hc, hd⟩ | hc
      all_goals first | have e57 : decide ((s[k].toNat : Int) ≤ 57) = false := decide_eq_false (by omega) | have e57 : decide ((s[k].toNat : Int) ≤ 57) = true := decide_eq_true (by omega)
      all_goals first | have e90 : decide ((s[k].toNat : Int) ≤ 90) = false := decide_eq_false (by omega) | have e90 : decide ((s[k].toNat : Int) ≤ 90) = true := decide_eq_true (by omega)
      all_goals first | have e122 : decide ((s[k].toNat : Int) ≤ 122) = false := decide_eq_false (by omega) | have e122 : decide ((s[k].toNat : Int) ≤ 122) = true := decide_eq_true (by omega)
      all_goals go_wp2_with fail
      all_goals first | (go_round; (case rel => exact ⟨k + 1, by omega, by go_num, H.out (H3.out.2 (by omega))⟩); (case measure => simp [intOf]; omega)) | (go_ret; refine ⟨ret_bool ?_, rfl⟩; have h4 := H2.out (by rw [Bool.eq_false_iff]; intro hc; have := H3.out.1 hc; omega); unfold small; rw [h4]; rfl)
    · have ht : Hid (s.data.toList.all alnum = true) := by
        have := ha.out
        rw [List.take_of_length_le (by simp; omega)] at this
        exact this
      clear ha
      go_wp2_with fail
      go_ret
      exact ⟨ret_bool (by unfold small; rw [ht.out, ByteArray.toList_eq]; rfl), rfl⟩

end Go.Proofs.YtmhcbgmnhcfhfaaDoor.strs
