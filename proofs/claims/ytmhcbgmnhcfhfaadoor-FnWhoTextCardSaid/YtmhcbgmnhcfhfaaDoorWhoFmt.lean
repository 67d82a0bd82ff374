/- A zone as the package writes it. -/
import Derived.Test.YtmhcbgmnhcfhfaaDoorWhoTime
import Derived.Test.YtmhcbgmnhcfhfaaDoorShelf
set_option linter.unusedVariables false
namespace Go.Proofs.YtmhcbgmnhcfhfaaDoor.who
open Go.RowKit Lib text

theorem two_small (n : Nat) (h : n < 10) : twoOf n = 48 :: decDigits n := by
  rw [decDigits_one h]
  unfold twoOf
  rw [show n / 10 = 0 by omega, show n % 10 = n by omega]
  rfl
theorem two_big (n : Nat) (h : ¬ n < 10) (h1 : n < 100) : twoOf n = decDigits n := by
  rw [decDigits, dif_neg h, decDigits_one (by omega)]
  unfold twoOf
  rw [show n / 10 % 10 = n / 10 by omega]
  rfl
set_option maxRecDepth 100000 in
theorem format1_calls (n : Nat) (w : World) (h : n < 100) : Calls Tryd.prog 56 #[.int .i64 n] w (Wrote w (twoOf n)) := by
  have c := hid (fun w => Tryd.strconv_Itoa_small n h w)
  obtain ⟨sd, hsd, hsz⟩ := list_ex (decDigits n)
  have hes : sd = ⟨(decDigits n).toArray⟩ := eq_of_list hsd
  by_cases h10 : n < 10
  · obtain ⟨a1, k1, l1, z1⟩ := cat_ex (P := Tryd.prog) ⟨#[48]⟩ sd (by have := dec_len 1 n (by omega); have : (⟨#[48]⟩ : ByteArray).size = 1 := rfl; omega)
    have HA : Hid (a1.data.toList = twoOf n) := hid (by rw [l1, hsd, two_small n h10]; rfl)
    have HE := hid hes
    have e1 : (n : Int) < 10 := by omega
    clear hsd hsz hes l1 z1 h
    go_enter Tryd.func56, Tryd.ntmps56
    go_wp2_with fail
    refine (c.out _).mono ?_
    rintro e w1 ⟨rfl, rfl⟩
    rw [← HE.out]
    go_wp2_with fail
    go_ret
    exact ⟨rfl, _, rfl, HA.out⟩
  · have HA : Hid (sd.data.toList = twoOf n) := hid (by rw [hsd, two_big n h10 h])
    have HE := hid hes
    have e1 : ¬ (n : Int) < 10 := by omega
    clear hsd hsz hes h
    go_enter Tryd.func56, Tryd.ntmps56
    go_wp2_with fail
    refine (c.out _).mono ?_
    rintro e w1 ⟨rfl, rfl⟩
    rw [← HE.out]
    go_wp2_with fail
    go_ret
    exact ⟨rfl, _, rfl, HA.out⟩
set_option maxRecDepth 100000 in
set_option maxHeartbeats 4000000 in
theorem format_calls (s n z : Int) (f : ByteArray) (w : World) (h1 : -360000 < z) (h2 : z < 360000) (hw : 0 ≤ z ∨ z ≤ -3600) :
    Calls Tryd.prog 50 #[.agg #[.int .i64 s, .int .i64 n, .int .i64 z], .string f] w (Made w (zoneOf z)) := by
  have HB := hid (below_alloc w)
  have go : ∀ (m : Nat) (c : UInt8), m < 6000 → zoneOf z = c :: (twoOf (m / 60) ++ twoOf (m % 60)) → ∃ a b a1 a2 : ByteArray, a.data.toList = twoOf (m / 60) ∧ b.data.toList = twoOf (m % 60) ∧ (∀ w, (Op.stringOp .add ⟨#[c]⟩ a).run Tryd.prog w = .ok (.string a1) w) ∧ (∀ w, (Op.stringOp .add a1 b).run Tryd.prog w = .ok (.string a2) w) ∧ a2.data.toList = zoneOf z := by
    intro m c hm hz
    obtain ⟨a, ha, hasz⟩ := list_ex (twoOf (m / 60))
    obtain ⟨b, hb, hbsz⟩ := list_ex (twoOf (m % 60))
    have q : ∀ k, (twoOf k).length = 2 := fun _ => rfl
    have q1 : (⟨#[c]⟩ : ByteArray).size = 1 := rfl
    rw [q] at hasz hbsz
    obtain ⟨a1, k1, l1, z1⟩ := cat_ex (P := Tryd.prog) ⟨#[c]⟩ a (by omega)
    obtain ⟨a2, k2, l2, z2⟩ := cat_ex (P := Tryd.prog) a1 b (by omega)
    exact ⟨a, b, a1, a2, ha, hb, k1, k2, by rw [l2, l1, ha, hb, hz]; simp⟩
  have c := hid format1_calls
  by_cases hz : z < 0
  · obtain ⟨k, rfl⟩ : ∃ k : Nat, z = -(k : Int) := ⟨z.natAbs, by omega⟩
    obtain ⟨m, hm0⟩ : ∃ m : Nat, m = k / 60 := ⟨_, rfl⟩
    have hm : (-(k : Int)).tdiv 60 = -(m : Int) := by rw [Int.neg_tdiv, hm0]; rfl
    have hm1 : 60 ≤ m := by omega
    have hm2 : m < 6000 := by omega
    have hze : zoneOf (-(k : Int)) = 45 :: (twoOf (m / 60) ++ twoOf (m % 60)) := by
      unfold zoneOf; rw [if_pos hz, Int.natAbs_neg, Int.natAbs_natCast, show k / 3600 = m / 60 by omega, hm0]
    obtain ⟨a, b, a1, a2, ha, hb, k1, k2, l2⟩ := go m 45 hm2 hze
    have HA := hid ha
    have HBb := hid hb
    have HL := hid l2
    have E1 : Hid ((m : Int) / 60 = ((m / 60 : Nat) : Int)) := hid (by omega)
    have E2 : Hid ((m : Int) % 60 = ((m % 60 : Nat) : Int)) := hid (by omega)
    have g1 : -(m : Int) < 0 := by omega
    have g2 : (m : Int) < 6000 := by omega
    have g3 : m / 60 < 100 := by omega
    have g4 : m % 60 < 100 := by omega
    clear ha hb l2 go hze hm1 hm2 hw hm0 hz h1 h2
    go_enter Tryd.func50, Tryd.ntmps50
    go_wp2_with fail
    rw [E1.out]
    refine (c.out _ _ g3).mono ?_
    rintro e w1 ⟨rfl, a', rfl, ha'⟩
    obtain rfl : a = a' := eq_of_list (HA.out.trans ha'.symm)
    clear ha'
    go_wp2_with fail
    rw [E2.out]
    refine (c.out _ _ g4).mono ?_
    rintro e w1 ⟨rfl, b', rfl, hb'⟩
    obtain rfl : b = b' := eq_of_list (HBb.out.trans hb'.symm)
    clear hb'
    go_wp2_with fail
    go_ret
    exact ⟨HB.out _, _, rfl, HL.out⟩
  · obtain ⟨k, rfl⟩ : ∃ k : Nat, z = (k : Int) := ⟨z.natAbs, by omega⟩
    obtain ⟨m, hm0⟩ : ∃ m : Nat, m = k / 60 := ⟨_, rfl⟩
    have hm : (k : Int) / 60 = (m : Int) := by omega
    have hm2 : m < 6000 := by omega
    have hze : zoneOf (k : Int) = 43 :: (twoOf (m / 60) ++ twoOf (m % 60)) := by
      unfold zoneOf; rw [if_neg hz, Int.natAbs_natCast, show k / 3600 = m / 60 by omega, hm0]
    obtain ⟨a, b, a1, a2, ha, hb, k1, k2, l2⟩ := go m 43 hm2 hze
    have HA := hid ha
    have HBb := hid hb
    have HL := hid l2
    have E1 : Hid ((m : Int) / 60 = ((m / 60 : Nat) : Int)) := hid (by omega)
    have E2 : Hid ((m : Int) % 60 = ((m % 60 : Nat) : Int)) := hid (by omega)
    have g1 : ¬ (m : Int) < 0 := by omega
    have g2 : (m : Int) < 6000 := by omega
    have g3 : m / 60 < 100 := by omega
    have g4 : m % 60 < 100 := by omega
    clear ha hb l2 go hze hm2 hw hm0 hz h1
    go_enter Tryd.func50, Tryd.ntmps50
    go_wp2_with fail
    rw [E1.out]
    refine (c.out _ _ g3).mono ?_
    rintro e w1 ⟨rfl, a', rfl, ha'⟩
    obtain rfl : a = a' := eq_of_list (HA.out.trans ha'.symm)
    clear ha'
    go_wp2_with fail
    rw [E2.out]
    refine (c.out _ _ g4).mono ?_
    rintro e w1 ⟨rfl, b', rfl, hb'⟩
    obtain rfl : b = b' := eq_of_list (HBb.out.trans hb'.symm)
    clear hb'
    go_wp2_with fail
    go_ret
    exact ⟨HB.out _, _, rfl, HL.out⟩
end Go.Proofs.YtmhcbgmnhcfhfaaDoor.who
