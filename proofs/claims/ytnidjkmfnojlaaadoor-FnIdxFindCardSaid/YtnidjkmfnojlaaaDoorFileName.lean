/- spec.IsFileName: its answer. -/
import Derived.Test.YtnidjkmfnojlaaaDoorName40
set_option linter.unusedVariables false
attribute [local go_sem ↓] Go.wp_at_zero Go.wp_at_succ
namespace Go.Proofs.YtnidjkmfnojlaaaDoor.idx
open Go.RowKit Lib frm mem strs hash

/-- may byte k of s stand there? -/
def fnAt (l : List UInt8) (k : Nat) : Bool :=
  if l[k]? = some 47 then !(decide (k = 0) || decide (k + 1 = l.length) || decide (l[k - 1]? = some 47))
  else (l[k]?.map fun c => alnum c || decide (c = 45) || decide (c = 95)).getD false
def fnameB (s : ByteArray) : Bool := (List.range s.size).all (fnAt s.data.toList) && decide (0 < s.size) && decide (s.size < 4000)
theorem get_ba (s : ByteArray) (k : Nat) (h : k < s.size) : s.data.toList[k]? = some s[k] := by
  rw [List.getElem?_eq_getElem (by simpa using h)]; rfl
theorem len_ba (s : ByteArray) : s.data.toList.length = s.size := by simp
theorem one_ba (s : ByteArray) (k : Nat) (h : k < s.size) : (s.extract k (k + 1)).data.toList = [s[k]] := by
  simp only [ByteArray.data_extract, Array.toList_extract, List.extract_eq_take_drop]
  rw [show k + 1 - k = 1 by omega, List.drop_eq_getElem_cons (by simpa using h)]
  rfl
theorem small_one (c : UInt8) : small [c] = alnum c := by simp [small]
theorem u8_eq (c : UInt8) (n : Nat) (h : n < 256) : ((c.toNat : Int) == (n : Int)) = decide (c = UInt8.ofNat n) := by
  by_cases e : c = UInt8.ofNat n
  · subst e
    rw [decide_eq_true rfl, beq_iff_eq]
    have : n % 256 = n := Nat.mod_eq_of_lt h
    simp
    omega
  · rw [decide_eq_false e, beq_eq_false_iff_ne]
    intro h2
    apply e
    have h3 : c.toNat = n := by omega
    rw [← h3]
    simp
theorem range_snoc (p : Nat → Bool) (k : Nat) (h : (List.range k).all p = true) (h1 : p k = true) : (List.range (k + 1)).all p = true := by
  rw [List.range_succ, List.all_append, h]
  simp [h1]
theorem range_false (p : Nat → Bool) (n k : Nat) (hk : k < n) (h1 : p k = false) : (List.range n).all p = false := by
  rw [List.all_eq_false]
  exact ⟨k, by simpa using hk, by simp [h1]⟩
def Ans (w : World) (b : Bool) (e : Ending) (w' : World) : Prop := e = .returned (.bool b) ∧ w' = w
set_option maxRecDepth 100000 in
set_option maxHeartbeats 4000000 in
theorem isFileName_calls (s : ByteArray) (w : World) (hs : s.size ≤ 140737488351232) :
    Calls Tryd.prog 7 #[.string s] w (Ans w (fnameB s)) := by
  have hs' : (s.size : Int) ≤ 140737488351232 := by omega
  go_enter Tryd.func7, Tryd.ntmps7
  go_wp2_with fail
  go_loop [7] (fun iv => ∃ k : Nat, k ≤ s.size ∧ iv = .int .i64 k ∧ Hid ((List.range k).all (fnAt s.data.toList) = true)) (fun iv => s.size - (RowKit.intOf iv).toNat)
  case atStart => exact ⟨0, by omega, rfl, hid (by simp)⟩
  case round =>
    obtain ⟨k, hk, rfl, hh⟩ := hrel
    by_cases hlt : k < s.size
    · have HG := hid (get_ba s k hlt)
      have H1 := hid (range_snoc (fnAt s.data.toList) k hh.out)
      have H2 := hid (show fnAt s.data.toList k = false → fnameB s = false from fun h => by
        unfold fnameB
        rw [range_false _ s.size k hlt h]
        rfl)
      by_cases c47 : s[k] = 47
      · have HC := hid c47
        have e47 : ((s[k].toNat : Int) == 47) = true := by rw [c47]; rfl
        have i47 : (s[k].toNat : Int) = 47 := by rw [c47]; rfl
        clear c47
        by_cases k0 : k = 0
        · subst k0
          have HB := hid (H2.out (by unfold fnAt; rw [HG.out, HC.out]; simp))
          go_wp2_with fail
          go_ret
          exact ⟨ret_bool HB.out.symm, rfl⟩
        · have e0 : ((k : Int) == 0) = false := by rw [beq_eq_false_iff_ne]; omega
          have n0 : ¬ (k : Int) = 0 := by omega
          by_cases kl : k + 1 = s.size
          · have HB := hid (H2.out (by unfold fnAt; rw [HG.out, HC.out]; simp [kl]))
            have el : ((k : Int) == (s.size : Int) - 1) = true := by rw [beq_iff_eq]; omega
            have ml : (s.size : Int) = (k : Int) + 1 := by omega
            clear kl
            go_wp2_with fail
            go_ret
            exact ⟨ret_bool HB.out.symm, rfl⟩
          · have el : ((k : Int) == (s.size : Int) - 1) = false := by rw [beq_eq_false_iff_ne]; omega
            have nl : ¬ (k : Int) = (s.size : Int) - 1 := by omega
            obtain ⟨j, hjk⟩ : ∃ j, k = j + 1 := ⟨k - 1, by omega⟩
            have hj : j < s.size := by omega
            have HJ := hid (get_ba s j hj)
            have ej : (k : Int) - 1 = (j : Int) := by omega
            have HJK := hid (show k - 1 = j by omega)
            by_cases p47 : s[j] = 47
            · have HB := hid (H2.out (by unfold fnAt; rw [HG.out, HC.out, HJK.out]; simp [HJ.out, p47]))
              have e47' : ((s[j].toNat : Int) == 47) = true := by rw [p47]; rfl
              have i47' : (s[j].toNat : Int) = 47 := by rw [p47]; rfl
              clear p47 hjk
              go_wp2_with fail
              go_ret
              exact ⟨ret_bool HB.out.symm, rfl⟩
            · have HB := hid (H1.out (by unfold fnAt; rw [HG.out, HC.out, if_pos rfl, HJK.out]; simp [HJ.out, p47, kl, k0]))
              have e47' : ((s[j].toNat : Int) == 47) = false := by
                rw [show (47 : Int) = ((47 : Nat) : Int) from rfl, u8_eq _ _ (by omega)]; exact decide_eq_false p47
              have i47' : ¬ (s[j].toNat : Int) = 47 := by simpa using e47'
              clear p47 hjk kl
              go_wp2_with fail
              go_round
              case rel => exact ⟨k + 1, by omega, by go_num, HB⟩
              case measure => simp [RowKit.intOf]; omega
      · have e47 : ((s[k].toNat : Int) == 47) = false := by
          rw [show (47 : Int) = ((47 : Nat) : Int) from rfl, u8_eq _ _ (by omega)]; exact decide_eq_false c47
        have i47 : ¬ (s[k].toNat : Int) = 47 := by simpa using e47
        have hat : fnAt s.data.toList k = (alnum s[k] || decide (s[k] = 45) || decide (s[k] = 95)) := by
          unfold fnAt
          rw [HG.out, if_neg (by intro h; injection h with h; exact c47 h)]
          rfl
        have c1' := small_calls (s.extract k (k + 1)) w (by simp; omega)
        rw [one_ba s k hlt, small_one] at c1'
        have c1 := hid c1'
        have HAt := hid hat
        clear hat c47 c1'
        cases ha : alnum s[k] with
        | true =>
          have HB := hid (H1.out (by rw [HAt.out, ha]; rfl))
          rw [ha] at c1
          clear ha
          go_wp2_with fail
          refine c1.out.mono ?_
          rintro e w' ⟨rfl, rfl⟩
          clear c1
          go_wp2_with fail
          go_round
          case rel => exact ⟨k + 1, by omega, by go_num, HB⟩
          case measure => simp [RowKit.intOf]; omega
        | false =>
          rw [ha] at c1
          have HA := hid ha
          clear ha
          have b45 : ((s[k].toNat : Int) == 45) = decide (s[k] = 45) := u8_eq _ 45 (by omega)
          have b95 : ((s[k].toNat : Int) == 95) = decide (s[k] = 95) := u8_eq _ 95 (by omega)
          by_cases c45 : s[k] = 45
          · have HB := hid (H1.out (by rw [HAt.out, c45]; simp))
            have e45 : ((s[k].toNat : Int) != 45) = false := by unfold bne; rw [b45, decide_eq_true c45]; rfl
            have i45 : (s[k].toNat : Int) = 45 := by rw [c45]; rfl
            clear c45 b45 b95
            go_wp2_with fail
            refine c1.out.mono ?_
            rintro e w' ⟨rfl, rfl⟩
            clear c1
            go_wp2_with fail
            go_round
            case rel => exact ⟨k + 1, by omega, by go_num, HB⟩
            case measure => simp [RowKit.intOf]; omega
          · have e45 : ((s[k].toNat : Int) != 45) = true := by unfold bne; rw [b45, decide_eq_false c45]; rfl
            have i45 : ¬ (s[k].toNat : Int) = 45 := by simpa using e45
            by_cases c95 : s[k] = 95
            · have HB := hid (H1.out (by rw [HAt.out, c95]; simp))
              have e95 : ((s[k].toNat : Int) != 95) = false := by unfold bne; rw [b95, decide_eq_true c95]; rfl
              have i95 : (s[k].toNat : Int) = 95 := by rw [c95]; rfl
              clear c95 b45 b95
              go_wp2_with fail
              refine c1.out.mono ?_
              rintro e w' ⟨rfl, rfl⟩
              clear c1
              go_wp2_with fail
              go_round
              case rel => exact ⟨k + 1, by omega, by go_num, HB⟩
              case measure => simp [RowKit.intOf]; omega
            · have HB := hid (H2.out (by rw [HAt.out, HA.out, decide_eq_false c45, decide_eq_false c95]; rfl))
              have e95 : ((s[k].toNat : Int) != 95) = true := by unfold bne; rw [b95, decide_eq_false c95]; rfl
              have i95 : ¬ (s[k].toNat : Int) = 95 := by simpa using e95
              clear c95 c45 b45 b95
              go_wp2_with fail
              refine c1.out.mono ?_
              rintro e w' ⟨rfl, rfl⟩
              clear c1
              go_wp2_with fail
              go_ret
              exact ⟨ret_bool HB.out.symm, rfl⟩
    · have hall : Hid ((List.range s.size).all (fnAt s.data.toList) = true) := hid (by
        have := hh.out
        rwa [show k = s.size by omega] at this)
      clear hh
      by_cases h0 : 0 < s.size
      · have q0 : (s.toList == []) = false := by
          rw [beq_eq_false_iff_ne, ByteArray.toList_eq]
          intro e
          have := len_ba s
          rw [e] at this
          simp at this
          omega
        have q0' : s.toList ≠ [] := by simpa using q0
        have q1 : s ≠ ⟨#[]⟩ := by rintro rfl; exact absurd h0 (by decide)
        by_cases h4 : s.size < 4000
        · have e4 : decide ((s.size : Int) < 4000) = true := decide_eq_true (by omega)
          have i4 : (s.size : Int) < 4000 := by omega
          have HB := hid (show fnameB s = true by unfold fnameB; rw [hall.out, decide_eq_true h0, decide_eq_true h4]; rfl)
          go_wp2_with fail
          go_ret
          exact ⟨ret_bool HB.out.symm, rfl⟩
        · have e4 : decide ((s.size : Int) < 4000) = false := decide_eq_false (by omega)
          have i4 : ¬ (s.size : Int) < 4000 := by omega
          have HB := hid (show fnameB s = false by unfold fnameB; rw [decide_eq_false h4]; simp)
          clear h4
          go_wp2_with fail
          go_ret
          exact ⟨ret_bool HB.out.symm, rfl⟩
      · obtain rfl : s = ⟨#[]⟩ := by
          obtain ⟨⟨d⟩⟩ := s
          cases d with
          | nil => rfl
          | cons a b => exact absurd (Nat.succ_pos _) h0
        go_wp2_with fail
        go_ret
        exact ⟨rfl, rfl⟩
end Go.Proofs.YtnidjkmfnojlaaaDoor.idx
