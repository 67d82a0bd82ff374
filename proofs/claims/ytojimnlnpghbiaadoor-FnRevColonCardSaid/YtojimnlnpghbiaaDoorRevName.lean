/- spec.IsRevName: its answer and what it tells. -/
import Derived.Test.YtojimnlnpghbiaaDoorRevBegin
set_option linter.unusedVariables false
attribute [local go_sem ↓] Go.wp_at_zero Go.wp_at_succ
namespace Go.Proofs.YtojimnlnpghbiaaDoor.rev
open Go.RowKit Lib frm mem rd

theorem not_empty {s : ByteArray} (h : 0 < s.size) : (s.toList == []) = false := by
  rw [beq_eq_false_iff_ne, ByteArray.toList_eq]
  obtain ⟨⟨d⟩⟩ := s
  intro e
  simp at e
  subst e
  exact absurd h (by decide)
def Nm (k : Nat) (c : UInt8) : Prop := (97 ≤ c.toNat ∧ c.toNat ≤ 122) ∨ (48 ≤ c.toNat ∧ c.toNat ≤ 57 ∧ 0 < k)
def IsName (s : ByteArray) (b : Bool) : Prop := b = true → 0 < s.size ∧ s.size ≤ 1000 ∧ ∀ k (h : k < s.size), Nm k s[k]
def Told (w : World) (F : Bool → Prop) (e : Ending) (w' : World) : Prop := w' = w ∧ ∃ b, e = .returned (.bool b) ∧ F b
set_option maxRecDepth 100000 in
set_option maxHeartbeats 2000000 in
theorem isName_calls (s : ByteArray) (w : World) (hs : s.size ≤ 140737488351232) :
    Calls Tryd.prog 16 #[.string s] w (Told w (IsName s)) := by
  have hs' : (s.size : Int) ≤ 140737488351232 := by omega
  go_enter Tryd.func16, Tryd.ntmps16
  go_wp2_with fail
  go_loop [7] (fun iv => ∃ k : Nat, k ≤ s.size ∧ iv = .int .i64 k ∧ Hid (∀ j (h : j < s.size), j < k → Nm j s[j])) (fun iv => s.size - (RowKit.intOf iv).toNat)
  case atStart => exact ⟨0, by omega, rfl, hid (fun j h hj => absurd hj (by omega))⟩
  case round =>
    obtain ⟨k, hk, rfl, hh⟩ := hrel
    by_cases hlt : k < s.size
    · by_cases a1 : 97 ≤ s[k].toNat
      · by_cases a2 : s[k].toNat ≤ 122
        · have e97 : decide (97 ≤ (s[k].toNat : Int)) = true := decide_eq_true (by omega)
          have e122 : decide ((s[k].toNat : Int) ≤ 122) = true := decide_eq_true (by omega)
          have hn := hid (show ∀ j (h : j < s.size), j < k + 1 → Nm j s[j] from fun j h hj => by
            by_cases hjk : j < k
            · exact hh.out j h hjk
            · obtain rfl : j = k := by omega
              exact .inl ⟨a1, a2⟩)
          go_wp2_with fail
          go_round
          case rel => exact ⟨k + 1, by omega, by go_num, hn⟩
          case measure => simp [RowKit.intOf]; omega
        · have e97 : decide (97 ≤ (s[k].toNat : Int)) = true := decide_eq_true (by omega)
          have e122 : decide ((s[k].toNat : Int) ≤ 122) = false := decide_eq_false (by omega)
          have e48 : decide (48 ≤ (s[k].toNat : Int)) = true := decide_eq_true (by omega)
          have e57 : decide ((s[k].toNat : Int) ≤ 57) = false := decide_eq_false (by omega)
          go_wp2_with fail
          go_ret
          exact ⟨rfl, false, rfl, nofun⟩
      · have e97 : decide (97 ≤ (s[k].toNat : Int)) = false := decide_eq_false (by omega)
        by_cases b1 : 48 ≤ s[k].toNat ∧ s[k].toNat ≤ 57 ∧ 0 < k
        · have e48 : decide (48 ≤ (s[k].toNat : Int)) = true := decide_eq_true (by omega)
          have e57 : decide ((s[k].toNat : Int) ≤ 57) = true := decide_eq_true (by omega)
          have e0 : decide ((0 : Int) < (k : Int)) = true := decide_eq_true (by omega)
          have hn := hid (show ∀ j (h : j < s.size), j < k + 1 → Nm j s[j] from fun j h hj => by
            by_cases hjk : j < k
            · exact hh.out j h hjk
            · obtain rfl : j = k := by omega
              exact .inr b1)
          have g0 : (0 : Int) < (k : Int) := by omega
          go_wp2_with fail
          go_round
          case rel => exact ⟨k + 1, by omega, by go_num, hn⟩
          case measure => simp [RowKit.intOf]; omega
        · by_cases c1 : 48 ≤ s[k].toNat
          · have e48 : decide (48 ≤ (s[k].toNat : Int)) = true := decide_eq_true (by omega)
            by_cases c2 : s[k].toNat ≤ 57
            · have e57 : decide ((s[k].toNat : Int) ≤ 57) = true := decide_eq_true (by omega)
              obtain rfl : k = 0 := by omega
              go_wp2_with fail
              go_ret
              exact ⟨rfl, false, rfl, nofun⟩
            · have e57 : decide ((s[k].toNat : Int) ≤ 57) = false := decide_eq_false (by omega)
              go_wp2_with fail
              go_ret
              exact ⟨rfl, false, rfl, nofun⟩
          · have e48 : decide (48 ≤ (s[k].toNat : Int)) = false := decide_eq_false (by omega)
            go_wp2_with fail
            go_ret
            exact ⟨rfl, false, rfl, nofun⟩
    · have hlt' : ¬ (k : Int) < (s.size : Int) := by omega
      by_cases h0 : 0 < s.size
      · have q0 := not_empty h0
        have q1 : s ≠ ⟨#[]⟩ := by rintro rfl; exact absurd h0 (by decide)
        by_cases h1 : s.size ≤ 1000
        · have e1 : decide ((s.size : Int) ≤ 1000) = true := decide_eq_true (by omega)
          have h1' : (s.size : Int) ≤ 1000 := by omega
          have HF : Hid (IsName s true) := hid (fun _ => ⟨h0, h1, fun j hj => hh.out j hj (by omega)⟩)
          go_wp2_with fail
          go_ret
          exact ⟨rfl, true, rfl, HF.out⟩
        · have e1 : decide ((s.size : Int) ≤ 1000) = false := decide_eq_false (by omega)
          go_wp2_with fail
          go_ret
          exact ⟨rfl, false, rfl, nofun⟩
      · obtain rfl : s = ⟨#[]⟩ := by
          obtain ⟨⟨d⟩⟩ := s
          cases d with
          | nil => rfl
          | cons a b => exact absurd (Nat.succ_pos _) h0
        go_wp2_with fail
        go_ret
        exact ⟨rfl, false, rfl, nofun⟩
end Go.Proofs.YtojimnlnpghbiaaDoor.rev
