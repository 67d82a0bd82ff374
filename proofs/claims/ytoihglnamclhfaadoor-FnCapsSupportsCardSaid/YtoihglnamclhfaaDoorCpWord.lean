/- spec.IsWord. Printed by gen_cpword.py. -/
import Derived.Test.YtoihglnamclhfaaDoorCpFits
set_option linter.unusedVariables false
namespace Go.Proofs.YtoihglnamclhfaaDoor.cap
open Go.RowKit Lib mem opn frm text

def wordZ (n : Nat) : Bool := decide (97 ≤ n ∧ n ≤ 122) || decide (65 ≤ n ∧ n ≤ 90) || decide (48 ≤ n ∧ n ≤ 57) || decide (n = 46) || decide (n = 47) || decide (n = 58) || decide (n = 45) || decide (n = 95)
set_option maxRecDepth 100000 in
theorem wordZ_fin : ∀ n : Fin 256, wordZ n.val = wordB (UInt8.ofNat n.val) := by decide
theorem wordZ_is (c : UInt8) : wordZ c.toNat = wordB c := by
  have := wordZ_fin ⟨c.toNat, c.toNat_lt⟩
  simpa using this
theorem all_take_succ (f : UInt8 → Bool) (s : ByteArray) (k : Nat) (h : k < s.size) (hh : (s.data.toList.take k).all f = true) (hf : f s[k] = true) : (s.data.toList.take (k + 1)).all f = true := by
  have hl : k < s.data.toList.length := by simpa using h
  rw [List.take_add_one, List.all_append, hh, List.getElem?_eq_getElem hl]
  have e : s.data.toList[k] = s[k] := rfl
  simp [e, hf]
/-- the answer, and what it tells; the world is as it was -/
def Tells (w : World) (F : Prop) (e : Ending) (w' : World) : Prop := w = w' ∧ ∃ b, e = .returned (.bool b) ∧ (b = true → F)
def WordS (s : ByteArray) : Prop := Word s.data.toList
set_option maxRecDepth 100000 in
set_option maxHeartbeats 4000000 in
theorem isWord_calls (s : ByteArray) (w : World) (hs : s.size ≤ 4294967295) : Calls Tryd.prog 63 #[.string s] w (Tells w (WordS s)) := by
  have hs' : (s.size : Int) ≤ 4294967295 := by omega
  go_enter Tryd.func63, Tryd.ntmps63
  go_wp2_with fail
  go_loop [7] (fun iv => ∃ k : Nat, k ≤ s.size ∧ iv = .int .i64 k ∧ Hid ((s.data.toList.take k).all wordB = true)) (fun iv => s.size - (RowKit.intOf iv).toNat)
  case atStart => exact ⟨0, by omega, rfl, hid (by simp)⟩
  case round =>
    obtain ⟨k, hk, rfl, hh⟩ := hrel
    by_cases hlt : k < s.size
    · have H1 := hid (all_take_succ wordB s k hlt hh.out)
      have hlt' : (k : Int) < s.size := by omega
      obtain ⟨z, hz⟩ : ∃ z, z = s[k].toNat := ⟨_, rfl⟩
      have HZ := hid hz
      have hz256 : z < 256 := by rw [hz]; exact s[k].toNat_lt
      rw [← wordZ_is, ← hz] at H1
      by_cases i0 : z ≤ 44
      · have l97 : decide ((z : Int) < 97) = true := decide_eq_true (by omega)
        have m97 : decide (97 < (z : Int)) = false := decide_eq_false (by omega)
        have p97 : decide (97 ≤ (z : Int)) = false := decide_eq_false (by omega)
        have q97 : decide ((z : Int) ≤ 97) = true := decide_eq_true (by omega)
        have l122 : decide ((z : Int) < 122) = true := decide_eq_true (by omega)
        have m122 : decide (122 < (z : Int)) = false := decide_eq_false (by omega)
        have p122 : decide (122 ≤ (z : Int)) = false := decide_eq_false (by omega)
        have q122 : decide ((z : Int) ≤ 122) = true := decide_eq_true (by omega)
        have l65 : decide ((z : Int) < 65) = true := decide_eq_true (by omega)
        have m65 : decide (65 < (z : Int)) = false := decide_eq_false (by omega)
        have p65 : decide (65 ≤ (z : Int)) = false := decide_eq_false (by omega)
        have q65 : decide ((z : Int) ≤ 65) = true := decide_eq_true (by omega)
        have l90 : decide ((z : Int) < 90) = true := decide_eq_true (by omega)
        have m90 : decide (90 < (z : Int)) = false := decide_eq_false (by omega)
        have p90 : decide (90 ≤ (z : Int)) = false := decide_eq_false (by omega)
        have q90 : decide ((z : Int) ≤ 90) = true := decide_eq_true (by omega)
        have l48 : decide ((z : Int) < 48) = true := decide_eq_true (by omega)
        have m48 : decide (48 < (z : Int)) = false := decide_eq_false (by omega)
        have p48 : decide (48 ≤ (z : Int)) = false := decide_eq_false (by omega)
        have q48 : decide ((z : Int) ≤ 48) = true := decide_eq_true (by omega)
        have l57 : decide ((z : Int) < 57) = true := decide_eq_true (by omega)
        have m57 : decide (57 < (z : Int)) = false := decide_eq_false (by omega)
        have p57 : decide (57 ≤ (z : Int)) = false := decide_eq_false (by omega)
        have q57 : decide ((z : Int) ≤ 57) = true := decide_eq_true (by omega)
        have b46 : ((z : Int) == 46) = false := beq_eq_false_iff_ne.2 (by omega)
        have b47 : ((z : Int) == 47) = false := beq_eq_false_iff_ne.2 (by omega)
        have b58 : ((z : Int) == 58) = false := beq_eq_false_iff_ne.2 (by omega)
        have b45 : ((z : Int) == 45) = false := beq_eq_false_iff_ne.2 (by omega)
        have b95 : ((z : Int) == 95) = false := beq_eq_false_iff_ne.2 (by omega)
        have hc : s[k].toNat = z := HZ.out.symm
        clear H1 hz
        go_wp2_with fail
        go_ret
        exact ⟨rfl, false, rfl, nofun⟩
      · skip
        by_cases i1 : z ≤ 45
        · obtain rfl : z = 45 := by omega
          have hc : s[k].toNat = 45 := HZ.out.symm
          have HB := hid (H1.out (by decide))
          clear H1 hz
          go_wp2_with fail
          go_round
          case rel => exact ⟨k + 1, by omega, by go_num, HB⟩
          case measure => simp [RowKit.intOf]; omega
        · skip
          by_cases i2 : z ≤ 46
          · obtain rfl : z = 46 := by omega
            have hc : s[k].toNat = 46 := HZ.out.symm
            have HB := hid (H1.out (by decide))
            clear H1 hz
            go_wp2_with fail
            go_round
            case rel => exact ⟨k + 1, by omega, by go_num, HB⟩
            case measure => simp [RowKit.intOf]; omega
          · skip
            by_cases i3 : z ≤ 47
            · obtain rfl : z = 47 := by omega
              have hc : s[k].toNat = 47 := HZ.out.symm
              have HB := hid (H1.out (by decide))
              clear H1 hz
              go_wp2_with fail
              go_round
              case rel => exact ⟨k + 1, by omega, by go_num, HB⟩
              case measure => simp [RowKit.intOf]; omega
            · skip
              by_cases i4 : z ≤ 57
              · have l97 : decide ((z : Int) < 97) = true := decide_eq_true (by omega)
                have m97 : decide (97 < (z : Int)) = false := decide_eq_false (by omega)
                have p97 : decide (97 ≤ (z : Int)) = false := decide_eq_false (by omega)
                have q97 : decide ((z : Int) ≤ 97) = true := decide_eq_true (by omega)
                have l122 : decide ((z : Int) < 122) = true := decide_eq_true (by omega)
                have m122 : decide (122 < (z : Int)) = false := decide_eq_false (by omega)
                have p122 : decide (122 ≤ (z : Int)) = false := decide_eq_false (by omega)
                have q122 : decide ((z : Int) ≤ 122) = true := decide_eq_true (by omega)
                have l65 : decide ((z : Int) < 65) = true := decide_eq_true (by omega)
                have m65 : decide (65 < (z : Int)) = false := decide_eq_false (by omega)
                have p65 : decide (65 ≤ (z : Int)) = false := decide_eq_false (by omega)
                have q65 : decide ((z : Int) ≤ 65) = true := decide_eq_true (by omega)
                have l90 : decide ((z : Int) < 90) = true := decide_eq_true (by omega)
                have m90 : decide (90 < (z : Int)) = false := decide_eq_false (by omega)
                have p90 : decide (90 ≤ (z : Int)) = false := decide_eq_false (by omega)
                have q90 : decide ((z : Int) ≤ 90) = true := decide_eq_true (by omega)
                have l48 : decide ((z : Int) < 48) = false := decide_eq_false (by omega)
                have p48 : decide (48 ≤ (z : Int)) = true := decide_eq_true (by omega)
                have m57 : decide (57 < (z : Int)) = false := decide_eq_false (by omega)
                have q57 : decide ((z : Int) ≤ 57) = true := decide_eq_true (by omega)
                have b46 : ((z : Int) == 46) = false := beq_eq_false_iff_ne.2 (by omega)
                have b47 : ((z : Int) == 47) = false := beq_eq_false_iff_ne.2 (by omega)
                have b58 : ((z : Int) == 58) = false := beq_eq_false_iff_ne.2 (by omega)
                have b45 : ((z : Int) == 45) = false := beq_eq_false_iff_ne.2 (by omega)
                have b95 : ((z : Int) == 95) = false := beq_eq_false_iff_ne.2 (by omega)
                have hc : s[k].toNat = z := HZ.out.symm
                have HB := hid (H1.out (by unfold wordZ; simp; omega))
                clear H1 hz
                go_wp2_with fail
                go_round
                case rel => exact ⟨k + 1, by omega, by go_num, HB⟩
                case measure => simp [RowKit.intOf]; omega
              · skip
                by_cases i5 : z ≤ 58
                · obtain rfl : z = 58 := by omega
                  have hc : s[k].toNat = 58 := HZ.out.symm
                  have HB := hid (H1.out (by decide))
                  clear H1 hz
                  go_wp2_with fail
                  go_round
                  case rel => exact ⟨k + 1, by omega, by go_num, HB⟩
                  case measure => simp [RowKit.intOf]; omega
                · skip
                  by_cases i6 : z ≤ 64
                  · have l97 : decide ((z : Int) < 97) = true := decide_eq_true (by omega)
                    have m97 : decide (97 < (z : Int)) = false := decide_eq_false (by omega)
                    have p97 : decide (97 ≤ (z : Int)) = false := decide_eq_false (by omega)
                    have q97 : decide ((z : Int) ≤ 97) = true := decide_eq_true (by omega)
                    have l122 : decide ((z : Int) < 122) = true := decide_eq_true (by omega)
                    have m122 : decide (122 < (z : Int)) = false := decide_eq_false (by omega)
                    have p122 : decide (122 ≤ (z : Int)) = false := decide_eq_false (by omega)
                    have q122 : decide ((z : Int) ≤ 122) = true := decide_eq_true (by omega)
                    have l65 : decide ((z : Int) < 65) = true := decide_eq_true (by omega)
                    have m65 : decide (65 < (z : Int)) = false := decide_eq_false (by omega)
                    have p65 : decide (65 ≤ (z : Int)) = false := decide_eq_false (by omega)
                    have q65 : decide ((z : Int) ≤ 65) = true := decide_eq_true (by omega)
                    have l90 : decide ((z : Int) < 90) = true := decide_eq_true (by omega)
                    have m90 : decide (90 < (z : Int)) = false := decide_eq_false (by omega)
                    have p90 : decide (90 ≤ (z : Int)) = false := decide_eq_false (by omega)
                    have q90 : decide ((z : Int) ≤ 90) = true := decide_eq_true (by omega)
                    have l48 : decide ((z : Int) < 48) = false := decide_eq_false (by omega)
                    have m48 : decide (48 < (z : Int)) = true := decide_eq_true (by omega)
                    have p48 : decide (48 ≤ (z : Int)) = true := decide_eq_true (by omega)
                    have q48 : decide ((z : Int) ≤ 48) = false := decide_eq_false (by omega)
                    have l57 : decide ((z : Int) < 57) = false := decide_eq_false (by omega)
                    have m57 : decide (57 < (z : Int)) = true := decide_eq_true (by omega)
                    have p57 : decide (57 ≤ (z : Int)) = true := decide_eq_true (by omega)
                    have q57 : decide ((z : Int) ≤ 57) = false := decide_eq_false (by omega)
                    have b46 : ((z : Int) == 46) = false := beq_eq_false_iff_ne.2 (by omega)
                    have b47 : ((z : Int) == 47) = false := beq_eq_false_iff_ne.2 (by omega)
                    have b58 : ((z : Int) == 58) = false := beq_eq_false_iff_ne.2 (by omega)
                    have b45 : ((z : Int) == 45) = false := beq_eq_false_iff_ne.2 (by omega)
                    have b95 : ((z : Int) == 95) = false := beq_eq_false_iff_ne.2 (by omega)
                    have hc : s[k].toNat = z := HZ.out.symm
                    clear H1 hz
                    go_wp2_with fail
                    go_ret
                    exact ⟨rfl, false, rfl, nofun⟩
                  · skip
                    by_cases i7 : z ≤ 90
                    · have l97 : decide ((z : Int) < 97) = true := decide_eq_true (by omega)
                      have m97 : decide (97 < (z : Int)) = false := decide_eq_false (by omega)
                      have p97 : decide (97 ≤ (z : Int)) = false := decide_eq_false (by omega)
                      have q97 : decide ((z : Int) ≤ 97) = true := decide_eq_true (by omega)
                      have l122 : decide ((z : Int) < 122) = true := decide_eq_true (by omega)
                      have m122 : decide (122 < (z : Int)) = false := decide_eq_false (by omega)
                      have p122 : decide (122 ≤ (z : Int)) = false := decide_eq_false (by omega)
                      have q122 : decide ((z : Int) ≤ 122) = true := decide_eq_true (by omega)
                      have l65 : decide ((z : Int) < 65) = false := decide_eq_false (by omega)
                      have p65 : decide (65 ≤ (z : Int)) = true := decide_eq_true (by omega)
                      have m90 : decide (90 < (z : Int)) = false := decide_eq_false (by omega)
                      have q90 : decide ((z : Int) ≤ 90) = true := decide_eq_true (by omega)
                      have l48 : decide ((z : Int) < 48) = false := decide_eq_false (by omega)
                      have m48 : decide (48 < (z : Int)) = true := decide_eq_true (by omega)
                      have p48 : decide (48 ≤ (z : Int)) = true := decide_eq_true (by omega)
                      have q48 : decide ((z : Int) ≤ 48) = false := decide_eq_false (by omega)
                      have l57 : decide ((z : Int) < 57) = false := decide_eq_false (by omega)
                      have m57 : decide (57 < (z : Int)) = true := decide_eq_true (by omega)
                      have p57 : decide (57 ≤ (z : Int)) = true := decide_eq_true (by omega)
                      have q57 : decide ((z : Int) ≤ 57) = false := decide_eq_false (by omega)
                      have b46 : ((z : Int) == 46) = false := beq_eq_false_iff_ne.2 (by omega)
                      have b47 : ((z : Int) == 47) = false := beq_eq_false_iff_ne.2 (by omega)
                      have b58 : ((z : Int) == 58) = false := beq_eq_false_iff_ne.2 (by omega)
                      have b45 : ((z : Int) == 45) = false := beq_eq_false_iff_ne.2 (by omega)
                      have b95 : ((z : Int) == 95) = false := beq_eq_false_iff_ne.2 (by omega)
                      have hc : s[k].toNat = z := HZ.out.symm
                      have HB := hid (H1.out (by unfold wordZ; simp; omega))
                      clear H1 hz
                      go_wp2_with fail
                      go_round
                      case rel => exact ⟨k + 1, by omega, by go_num, HB⟩
                      case measure => simp [RowKit.intOf]; omega
                    · skip
                      by_cases i8 : z ≤ 94
                      · have l97 : decide ((z : Int) < 97) = true := decide_eq_true (by omega)
                        have m97 : decide (97 < (z : Int)) = false := decide_eq_false (by omega)
                        have p97 : decide (97 ≤ (z : Int)) = false := decide_eq_false (by omega)
                        have q97 : decide ((z : Int) ≤ 97) = true := decide_eq_true (by omega)
                        have l122 : decide ((z : Int) < 122) = true := decide_eq_true (by omega)
                        have m122 : decide (122 < (z : Int)) = false := decide_eq_false (by omega)
                        have p122 : decide (122 ≤ (z : Int)) = false := decide_eq_false (by omega)
                        have q122 : decide ((z : Int) ≤ 122) = true := decide_eq_true (by omega)
                        have l65 : decide ((z : Int) < 65) = false := decide_eq_false (by omega)
                        have m65 : decide (65 < (z : Int)) = true := decide_eq_true (by omega)
                        have p65 : decide (65 ≤ (z : Int)) = true := decide_eq_true (by omega)
                        have q65 : decide ((z : Int) ≤ 65) = false := decide_eq_false (by omega)
                        have l90 : decide ((z : Int) < 90) = false := decide_eq_false (by omega)
                        have m90 : decide (90 < (z : Int)) = true := decide_eq_true (by omega)
                        have p90 : decide (90 ≤ (z : Int)) = true := decide_eq_true (by omega)
                        have q90 : decide ((z : Int) ≤ 90) = false := decide_eq_false (by omega)
                        have l48 : decide ((z : Int) < 48) = false := decide_eq_false (by omega)
                        have m48 : decide (48 < (z : Int)) = true := decide_eq_true (by omega)
                        have p48 : decide (48 ≤ (z : Int)) = true := decide_eq_true (by omega)
                        have q48 : decide ((z : Int) ≤ 48) = false := decide_eq_false (by omega)
                        have l57 : decide ((z : Int) < 57) = false := decide_eq_false (by omega)
                        have m57 : decide (57 < (z : Int)) = true := decide_eq_true (by omega)
                        have p57 : decide (57 ≤ (z : Int)) = true := decide_eq_true (by omega)
                        have q57 : decide ((z : Int) ≤ 57) = false := decide_eq_false (by omega)
                        have b46 : ((z : Int) == 46) = false := beq_eq_false_iff_ne.2 (by omega)
                        have b47 : ((z : Int) == 47) = false := beq_eq_false_iff_ne.2 (by omega)
                        have b58 : ((z : Int) == 58) = false := beq_eq_false_iff_ne.2 (by omega)
                        have b45 : ((z : Int) == 45) = false := beq_eq_false_iff_ne.2 (by omega)
                        have b95 : ((z : Int) == 95) = false := beq_eq_false_iff_ne.2 (by omega)
                        have hc : s[k].toNat = z := HZ.out.symm
                        clear H1 hz
                        go_wp2_with fail
                        go_ret
                        exact ⟨rfl, false, rfl, nofun⟩
                      · skip
                        by_cases i9 : z ≤ 95
                        · obtain rfl : z = 95 := by omega
                          have hc : s[k].toNat = 95 := HZ.out.symm
                          have HB := hid (H1.out (by decide))
                          clear H1 hz
                          go_wp2_with fail
                          go_round
                          case rel => exact ⟨k + 1, by omega, by go_num, HB⟩
                          case measure => simp [RowKit.intOf]; omega
                        · skip
                          by_cases i10 : z ≤ 96
                          · obtain rfl : z = 96 := by omega
                            have hc : s[k].toNat = 96 := HZ.out.symm
                            clear H1 hz
                            go_wp2_with fail
                            go_ret
                            exact ⟨rfl, false, rfl, nofun⟩
                          · skip
                            by_cases i11 : z ≤ 122
                            · have l97 : decide ((z : Int) < 97) = false := decide_eq_false (by omega)
                              have p97 : decide (97 ≤ (z : Int)) = true := decide_eq_true (by omega)
                              have m122 : decide (122 < (z : Int)) = false := decide_eq_false (by omega)
                              have q122 : decide ((z : Int) ≤ 122) = true := decide_eq_true (by omega)
                              have l65 : decide ((z : Int) < 65) = false := decide_eq_false (by omega)
                              have m65 : decide (65 < (z : Int)) = true := decide_eq_true (by omega)
                              have p65 : decide (65 ≤ (z : Int)) = true := decide_eq_true (by omega)
                              have q65 : decide ((z : Int) ≤ 65) = false := decide_eq_false (by omega)
                              have l90 : decide ((z : Int) < 90) = false := decide_eq_false (by omega)
                              have m90 : decide (90 < (z : Int)) = true := decide_eq_true (by omega)
                              have p90 : decide (90 ≤ (z : Int)) = true := decide_eq_true (by omega)
                              have q90 : decide ((z : Int) ≤ 90) = false := decide_eq_false (by omega)
                              have l48 : decide ((z : Int) < 48) = false := decide_eq_false (by omega)
                              have m48 : decide (48 < (z : Int)) = true := decide_eq_true (by omega)
                              have p48 : decide (48 ≤ (z : Int)) = true := decide_eq_true (by omega)
                              have q48 : decide ((z : Int) ≤ 48) = false := decide_eq_false (by omega)
                              have l57 : decide ((z : Int) < 57) = false := decide_eq_false (by omega)
                              have m57 : decide (57 < (z : Int)) = true := decide_eq_true (by omega)
                              have p57 : decide (57 ≤ (z : Int)) = true := decide_eq_true (by omega)
                              have q57 : decide ((z : Int) ≤ 57) = false := decide_eq_false (by omega)
                              have b46 : ((z : Int) == 46) = false := beq_eq_false_iff_ne.2 (by omega)
                              have b47 : ((z : Int) == 47) = false := beq_eq_false_iff_ne.2 (by omega)
                              have b58 : ((z : Int) == 58) = false := beq_eq_false_iff_ne.2 (by omega)
                              have b45 : ((z : Int) == 45) = false := beq_eq_false_iff_ne.2 (by omega)
                              have b95 : ((z : Int) == 95) = false := beq_eq_false_iff_ne.2 (by omega)
                              have hc : s[k].toNat = z := HZ.out.symm
                              have HB := hid (H1.out (by unfold wordZ; simp; omega))
                              clear H1 hz
                              go_wp2_with fail
                              go_round
                              case rel => exact ⟨k + 1, by omega, by go_num, HB⟩
                              case measure => simp [RowKit.intOf]; omega
                            · skip
                              have l97 : decide ((z : Int) < 97) = false := decide_eq_false (by omega)
                              have m97 : decide (97 < (z : Int)) = true := decide_eq_true (by omega)
                              have p97 : decide (97 ≤ (z : Int)) = true := decide_eq_true (by omega)
                              have q97 : decide ((z : Int) ≤ 97) = false := decide_eq_false (by omega)
                              have l122 : decide ((z : Int) < 122) = false := decide_eq_false (by omega)
                              have m122 : decide (122 < (z : Int)) = true := decide_eq_true (by omega)
                              have p122 : decide (122 ≤ (z : Int)) = true := decide_eq_true (by omega)
                              have q122 : decide ((z : Int) ≤ 122) = false := decide_eq_false (by omega)
                              have l65 : decide ((z : Int) < 65) = false := decide_eq_false (by omega)
                              have m65 : decide (65 < (z : Int)) = true := decide_eq_true (by omega)
                              have p65 : decide (65 ≤ (z : Int)) = true := decide_eq_true (by omega)
                              have q65 : decide ((z : Int) ≤ 65) = false := decide_eq_false (by omega)
                              have l90 : decide ((z : Int) < 90) = false := decide_eq_false (by omega)
                              have m90 : decide (90 < (z : Int)) = true := decide_eq_true (by omega)
                              have p90 : decide (90 ≤ (z : Int)) = true := decide_eq_true (by omega)
                              have q90 : decide ((z : Int) ≤ 90) = false := decide_eq_false (by omega)
                              have l48 : decide ((z : Int) < 48) = false := decide_eq_false (by omega)
                              have m48 : decide (48 < (z : Int)) = true := decide_eq_true (by omega)
                              have p48 : decide (48 ≤ (z : Int)) = true := decide_eq_true (by omega)
                              have q48 : decide ((z : Int) ≤ 48) = false := decide_eq_false (by omega)
                              have l57 : decide ((z : Int) < 57) = false := decide_eq_false (by omega)
                              have m57 : decide (57 < (z : Int)) = true := decide_eq_true (by omega)
                              have p57 : decide (57 ≤ (z : Int)) = true := decide_eq_true (by omega)
                              have q57 : decide ((z : Int) ≤ 57) = false := decide_eq_false (by omega)
                              have b46 : ((z : Int) == 46) = false := beq_eq_false_iff_ne.2 (by omega)
                              have b47 : ((z : Int) == 47) = false := beq_eq_false_iff_ne.2 (by omega)
                              have b58 : ((z : Int) == 58) = false := beq_eq_false_iff_ne.2 (by omega)
                              have b45 : ((z : Int) == 45) = false := beq_eq_false_iff_ne.2 (by omega)
                              have b95 : ((z : Int) == 95) = false := beq_eq_false_iff_ne.2 (by omega)
                              have hc : s[k].toNat = z := HZ.out.symm
                              clear H1 hz
                              go_wp2_with fail
                              go_ret
                              exact ⟨rfl, false, rfl, nofun⟩
    · have hlt' : ¬ (k : Int) < s.size := by omega
      have HA : Hid (s.data.toList.all wordB = true) := hid (by have := hh.out; rwa [List.take_of_length_le (by simp; omega)] at this)
      have HW : Hid (∀ b : Bool, (b = true → 1 ≤ s.size ∧ s.size ≤ 60) → b = true → WordS s) := hid (fun b hb he => ⟨fun c hc => (List.all_eq_true.1 HA.out) c hc, by have := hb he; simpa using this.1, by have := hb he; simpa using this.2⟩)
      clear HA hh
      by_cases h1 : 1 ≤ s.size
      · have e1 : decide (1 ≤ (s.size : Int)) = true := decide_eq_true (by omega)
        have e1' : decide ((s.size : Int) < 1) = false := decide_eq_false (by omega)
        go_wp2_with fail
        all_goals (go_ret; exact ⟨rfl, _, rfl, HW.out _ (fun h => ⟨h1, by simp at h; omega⟩)⟩)
      · have e1 : decide (1 ≤ (s.size : Int)) = false := decide_eq_false (by omega)
        have e1' : decide ((s.size : Int) < 1) = true := decide_eq_true (by omega)
        go_wp2_with fail
        all_goals (go_ret; exact ⟨rfl, _, rfl, nofun⟩)
end Go.Proofs.YtoihglnamclhfaaDoor.cap
