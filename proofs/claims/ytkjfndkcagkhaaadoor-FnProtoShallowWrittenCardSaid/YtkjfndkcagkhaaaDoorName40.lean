/- spec.IsName40 (and packidx's IsName): its answer. -/
import Derived.Test.YtkjfndkcagkhaaaDoorHash
import Derived.Test.YtkjfndkcagkhaaaDoorStrs
set_option linter.unusedVariables false
attribute [local go_sem ↓] Go.wp_at_zero Go.wp_at_succ
namespace Go.Proofs.YtkjfndkcagkhaaaDoor.hash
open Go.RowKit Lib frm mem strs

def lowB (c : UInt8) : Bool := decide (Low c)
def hex40B (s : ByteArray) : Bool := s.data.toList.all lowB && decide (s.size = 40)
theorem hex40_of {s : ByteArray} (h : hex40B s = true) : Hex40 s := by
  unfold hex40B at h
  rw [Bool.and_eq_true] at h
  exact ⟨of_decide_eq_true h.2, fun x hx => of_decide_eq_true (List.all_eq_true.1 h.1 x hx)⟩
theorem of_hex40 {s : ByteArray} (h : Hex40 s) : hex40B s = true := by
  unfold hex40B
  rw [Bool.and_eq_true]
  exact ⟨List.all_eq_true.2 fun x hx => decide_eq_true (h.2 x hx), decide_eq_true h.1⟩
theorem low_cases (c : UInt8) : (c.toNat < 48 ∧ lowB c = false) ∨ (48 ≤ c.toNat ∧ c.toNat ≤ 57 ∧ lowB c = true) ∨ (57 < c.toNat ∧ c.toNat < 97 ∧ lowB c = false) ∨ (97 ≤ c.toNat ∧ c.toNat ≤ 102 ∧ lowB c = true) ∨ (102 < c.toNat ∧ lowB c = false) := by
  unfold lowB Low
  by_cases h1 : c.toNat < 48
  · exact .inl ⟨h1, decide_eq_false (by omega)⟩
  by_cases h2 : c.toNat ≤ 57
  · exact .inr (.inl ⟨by omega, h2, decide_eq_true (by omega)⟩)
  by_cases h3 : c.toNat < 97
  · exact .inr (.inr (.inl ⟨by omega, h3, decide_eq_false (by omega)⟩))
  by_cases h4 : c.toNat ≤ 102
  · exact .inr (.inr (.inr (.inl ⟨by omega, h4, decide_eq_true (by omega)⟩)))
  · exact .inr (.inr (.inr (.inr ⟨by omega, decide_eq_false (by omega)⟩)))
set_option maxRecDepth 100000 in
set_option maxHeartbeats 4000000 in
theorem isName_calls (s : ByteArray) (w : World) (hs : s.size ≤ 140737488351232) :
    Calls Tryd.prog 32 #[.string s] w fun e w' => e = .returned (.bool (hex40B s)) ∧ w' = w := by
  have hs' : (s.size : Int) ≤ 140737488351232 := by omega
  go_enter Tryd.func32, Tryd.ntmps32
  go_wp2_with fail
  go_loop [6] (fun iv => ∃ k : Nat, k ≤ s.size ∧ iv = .int .i64 k ∧ Hid ((s.data.toList.take k).all lowB = true)) (fun iv => s.size - (RowKit.intOf iv).toNat)
  case atStart => exact ⟨0, by omega, rfl, hid (by simp)⟩
  case round =>
    obtain ⟨k, hk, rfl, hh⟩ := hrel
    by_cases hlt : k < s.size
    · have H1 := hid (all_take_succ lowB s k hlt hh.out)
      have H2 := hid (all_false lowB s k hlt)
      rcases low_cases s[k] with ⟨a1, a2⟩ | ⟨a1, a2, a3⟩ | ⟨a1, a2, a3⟩ | ⟨a1, a2, a3⟩ | ⟨a1, a2⟩
      · have e48 : decide (48 ≤ (s[k].toNat : Int)) = false := decide_eq_false (by omega)
        have e97 : decide (97 ≤ (s[k].toNat : Int)) = false := decide_eq_false (by omega)
        have HB := hid (show hex40B s = false by unfold hex40B; rw [H2.out a2]; rfl)
        clear a2
        go_wp2_with fail
        go_ret
        exact ⟨ret_bool HB.out.symm, rfl⟩
      · have e48 : decide (48 ≤ (s[k].toNat : Int)) = true := decide_eq_true (by omega)
        have e57 : decide ((s[k].toNat : Int) ≤ 57) = true := decide_eq_true (by omega)
        have HB := hid (H1.out a3)
        clear a3
        go_wp2_with fail
        go_round
        case rel => exact ⟨k + 1, by omega, by go_num, HB⟩
        case measure => simp [RowKit.intOf]; omega
      · have e48 : decide (48 ≤ (s[k].toNat : Int)) = true := decide_eq_true (by omega)
        have e57 : decide ((s[k].toNat : Int) ≤ 57) = false := decide_eq_false (by omega)
        have e97 : decide (97 ≤ (s[k].toNat : Int)) = false := decide_eq_false (by omega)
        have HB := hid (show hex40B s = false by unfold hex40B; rw [H2.out a3]; rfl)
        clear a3
        go_wp2_with fail
        go_ret
        exact ⟨ret_bool HB.out.symm, rfl⟩
      · have e48 : decide (48 ≤ (s[k].toNat : Int)) = true := decide_eq_true (by omega)
        have e57 : decide ((s[k].toNat : Int) ≤ 57) = false := decide_eq_false (by omega)
        have e97 : decide (97 ≤ (s[k].toNat : Int)) = true := decide_eq_true (by omega)
        have e102 : decide ((s[k].toNat : Int) ≤ 102) = true := decide_eq_true (by omega)
        have HB := hid (H1.out a3)
        clear a3
        go_wp2_with fail
        go_round
        case rel => exact ⟨k + 1, by omega, by go_num, HB⟩
        case measure => simp [RowKit.intOf]; omega
      · have e48 : decide (48 ≤ (s[k].toNat : Int)) = true := decide_eq_true (by omega)
        have e57 : decide ((s[k].toNat : Int) ≤ 57) = false := decide_eq_false (by omega)
        have e97 : decide (97 ≤ (s[k].toNat : Int)) = true := decide_eq_true (by omega)
        have e102 : decide ((s[k].toNat : Int) ≤ 102) = false := decide_eq_false (by omega)
        have HB := hid (show hex40B s = false by unfold hex40B; rw [H2.out a2]; rfl)
        clear a2
        go_wp2_with fail
        go_ret
        exact ⟨ret_bool HB.out.symm, rfl⟩
    · have hall : Hid (s.data.toList.all lowB = true) := hid (by
        have := hh.out
        rw [List.take_of_length_le (by simp; omega)] at this
        exact this)
      clear hh
      by_cases h40 : s.size = 40
      · have e40 : ((s.size : Int) == 40) = true := by rw [h40]; rfl
        have HB := hid (show hex40B s = true by unfold hex40B; rw [hall.out]; simp [h40])
        have h40' : (s.size : Int) = 40 := by omega
        go_wp2_with fail
        go_ret
        exact ⟨ret_bool HB.out.symm, rfl⟩
      · have e40 : ((s.size : Int) == 40) = false := by rw [beq_eq_false_iff_ne]; omega
        have HB := hid (show hex40B s = false by unfold hex40B; simp [h40])
        clear h40
        go_wp2_with fail
        go_ret
        exact ⟨ret_bool HB.out.symm, rfl⟩
end Go.Proofs.YtkjfndkcagkhaaaDoor.hash
