/- spec.nibble, spec.readHex4. -/
import Derived.Test.YtkjfndkcagkhaaaDoorSdLines
set_option linter.unusedVariables false
attribute [local go_sem ↓] Go.wp_at_zero Go.wp_at_succ
namespace Go.Proofs.YtkjfndkcagkhaaaDoor.side
open Go.RowKit Lib frm mem text pkt rd opn

set_option maxRecDepth 100000 in
theorem nibble_calls (k : Nat) (hk : k < 16) (w : World) : Calls Tryd.prog 84 #[.int .u8 (if k < 10 then 48 + k else 87 + k : Nat)] w fun e w' => e = .returned (.int .u8 k) ∧ w' = w := by
  by_cases h : k < 10
  · rw [if_pos h]
    have h1 : ¬ ((97 : Int) ≤ ((48 + k : Nat) : Int)) := by omega
    have h2 : IntKind.u8.wrap (((48 + k : Nat) : Int) - 48) = k := by rw [show ((48 + k : Nat) : Int) - 48 = k by omega]; simp [IntKind.wrap, IntKind.bits, IntKind.signed]; omega
    obtain ⟨z, hz⟩ : ∃ z : Int, z = ((48 + k : Nat) : Int) := ⟨_, rfl⟩
    rw [← hz] at h1 h2 ⊢
    clear hz
    go_enter Tryd.func84, Tryd.ntmps84
    go_wp2_with fail
    go_ret
    exact ⟨by first | rfl | (simp [h2]), rfl⟩
  · rw [if_neg h]
    have h1 : (97 : Int) ≤ ((87 + k : Nat) : Int) := by omega
    have h2 : IntKind.u8.wrap (((87 + k : Nat) : Int) - 97) = ((k - 10 : Nat) : Int) := by rw [show ((87 + k : Nat) : Int) - 97 = ((k - 10 : Nat) : Int) by omega]; simp [IntKind.wrap, IntKind.bits, IntKind.signed]; omega
    have h3 : IntKind.u8.wrap (((k - 10 : Nat) : Int) + 10) = k := by rw [show ((k - 10 : Nat) : Int) + 10 = k by omega]; simp [IntKind.wrap, IntKind.bits, IntKind.signed]; omega
    obtain ⟨z, hz⟩ : ∃ z : Int, z = ((87 + k : Nat) : Int) := ⟨_, rfl⟩
    rw [← hz] at h1 h2 ⊢
    obtain ⟨y, hy⟩ : ∃ y : Int, y = ((k - 10 : Nat) : Int) := ⟨_, rfl⟩
    rw [← hy] at h2 h3
    clear hz hy
    go_enter Tryd.func84, Tryd.ntmps84
    go_wp2_with fail
    go_ret
    exact ⟨by first | rfl | (simp [h2, h3]), rfl⟩
/-- the number of the first i digits -/
def val (d0 d1 d2 d3 : Nat) : Nat → Nat
  | 0 => 0
  | 1 => d0
  | 2 => d0 * 16 + d1
  | 3 => (d0 * 16 + d1) * 16 + d2
  | _ => ((d0 * 16 + d1) * 16 + d2) * 16 + d3
def dig (d0 d1 d2 d3 : Nat) : Nat → Nat
  | 0 => d0
  | 1 => d1
  | 2 => d2
  | _ => d3
theorem val_step (d0 d1 d2 d3 i : Nat) (hi : i < 4) : val d0 d1 d2 d3 (i + 1) = val d0 d1 d2 d3 i * 16 + dig d0 d1 d2 d3 i := by
  match i, hi with
  | 0, _ => simp [val, dig]
  | 1, _ => rfl
  | 2, _ => rfl
  | 3, _ => rfl
theorem val_lt (d0 d1 d2 d3 i : Nat) (h0 : d0 < 16) (h1 : d1 < 16) (h2 : d2 < 16) (h3 : d3 < 16) : val d0 d1 d2 d3 i ≤ 65535 := by
  match i with
  | 0 => simp [val]
  | 1 => simp [val]; omega
  | 2 => simp [val]; omega
  | 3 => simp [val]; omega
  | i + 4 => simp [val]; omega
theorem dig_lt (d0 d1 d2 d3 i : Nat) (h0 : d0 < 16) (h1 : d1 < 16) (h2 : d2 < 16) (h3 : d3 < 16) : dig d0 d1 d2 d3 i < 16 := by
  match i with
  | 0 => exact h0
  | 1 => exact h1
  | 2 => exact h2
  | i + 3 => exact h3
set_option maxRecDepth 100000 in
set_option maxHeartbeats 4000000 in
theorem readHex4_calls (g o n c d0 d1 d2 d3 : Nat) (w : World) (h0 : d0 < 16) (h1 : d1 < 16) (h2 : d2 < 16) (h3 : d3 < 16) (hn : 4 ≤ n) (hn2 : n ≤ 140737488355328) (hc : ∀ i, i < 4 → w.cell? ⟨g, o + i, none⟩ = some (.int .u8 (if dig d0 d1 d2 d3 i < 10 then 48 + dig d0 d1 d2 d3 i else 87 + dig d0 d1 d2 d3 i : Nat))) :
    Calls Tryd.prog 62 #[.slice (some ⟨g, o, none⟩) n c] w fun e w' => e = .returned (.tuple #[.int .i64 (val d0 d1 d2 d3 4), .int .i64 0]) ∧ w' = w := by
  have HC := hid hc
  have HD := hid (fun i => dig_lt d0 d1 d2 d3 i h0 h1 h2 h3)
  have HV := hid (fun i => val_lt d0 d1 d2 d3 i h0 h1 h2 h3)
  have hn' : (4 : Int) ≤ n := by omega
  have hn3 : (n : Int) ≤ 140737488355328 := by omega
  clear hc h0 h1 h2 h3 hn hn2
  go_enter Tryd.func62, Tryd.ntmps62
  go_wp2_with fail
  go_loop [4, 7] (fun nv iv => ∃ i v : Nat, i ≤ 4 ∧ iv = .int .i64 i ∧ nv = .int .i64 v ∧ Hid (v = val d0 d1 d2 d3 i)) (fun _ iv => 4 - (RowKit.intOf iv).toNat)
  case atStart => exact ⟨0, 0, by omega, rfl, rfl, hid rfl⟩
  case round =>
    obtain ⟨i, v, hi, rfl, rfl, hv⟩ := hrel
    by_cases hlt : i < 4
    · have hcell := HC.out i hlt
      obtain ⟨dd, hdd⟩ : ∃ dd, dd = dig d0 d1 d2 d3 i := ⟨_, rfl⟩
      rw [← hdd] at hcell
      have hd16 : dd < 16 := by rw [hdd]; exact HD.out i
      have hv2 : v ≤ 65535 := by rw [hv.out]; exact HV.out i
      have c1 := hid (fun w => nibble_calls dd hd16 w)
      have HDD := hid hdd
      have hlt' : (i : Int) < 4 := by omega
      have hin : (i : Int) < n := by omega
      clear hdd
      by_cases h10 : dd < 10
      · rw [if_pos h10] at hcell c1
        obtain ⟨z, hz⟩ : ∃ z : Int, z = ((48 + dd : Nat) : Int) := ⟨_, rfl⟩
        rw [← hz] at hcell c1
        have z1 : (48 : Int) ≤ z := by omega
        have z2 : z ≤ 57 := by omega
        clear hz
        go_wp2_with fail
        refine (c1.out _).mono ?_
        rintro e w2 ⟨rfl, hw2⟩
        obtain rfl : w = w2 := hw2.symm
        clear hw2
        go_wp2_with fail
        go_round
        case rel => exact ⟨i + 1, v * 16 + dd, by omega, by go_num, by go_num, hid (by rw [val_step _ _ _ _ _ hlt, ← hv.out, ← HDD.out])⟩
        case measure => simp [RowKit.intOf]; omega
      · rw [if_neg h10] at hcell c1
        obtain ⟨z, hz⟩ : ∃ z : Int, z = ((87 + dd : Nat) : Int) := ⟨_, rfl⟩
        rw [← hz] at hcell c1
        have z1 : (97 : Int) ≤ z := by omega
        have z2 : z ≤ 102 := by omega
        clear hz
        go_wp2_with fail
        refine (c1.out _).mono ?_
        rintro e w2 ⟨rfl, hw2⟩
        obtain rfl : w = w2 := hw2.symm
        clear hw2
        go_wp2_with fail
        go_round
        case rel => exact ⟨i + 1, v * 16 + dd, by omega, by go_num, by go_num, hid (by rw [val_step _ _ _ _ _ hlt, ← hv.out, ← HDD.out])⟩
        case measure => simp [RowKit.intOf]; omega
    · have hlt' : ¬ ((i : Int) < 4) := by omega
      obtain rfl : i = 4 := by omega
      go_wp2_with fail
      go_ret2
      exact ⟨by rw [← hv.out]; rfl, rfl⟩
end Go.Proofs.YtkjfndkcagkhaaaDoor.side
