/- The laws of revisions. -/
import Derived.Test.YtojimnlnpghbiaaDoorRevLaws
import Derived.Test.YtojimnlnpghbiaaDoorBits
set_option linter.unusedVariables false
attribute [local go_sem ↓] Go.wp_at_zero Go.wp_at_succ
namespace Go.Proofs.YtojimnlnpghbiaaDoor.rev
open Go.RowKit Lib frm mem rd

theorem cat_run {P : Program} (a b : ByteArray) (h : a.size + b.size ≤ 9223372036854775807) : ∀ w, (Op.stringOp .add a b).run P w = .ok (.string (a ++ b)) w := fun w => by
  rw [run_string_add_if, if_neg (by omega)]
/-- one string behind another one, under a name -/
theorem cat_ex {P : Program} (a b : ByteArray) (h : a.size + b.size ≤ 9223372036854775807) : ∃ c : ByteArray, (∀ w, (Op.stringOp .add a b).run P w = .ok (.string c) w) ∧ c.data.toList = a.data.toList ++ b.data.toList ∧ c.size = a.size + b.size :=
  ⟨a ++ b, cat_run a b h, ba_list a b, ba_size a b⟩
theorem mask_ex (n : Int) : ∃ k : Nat, bits .and .i64 n 65535 = (k : Int) ∧ k < 65536 := ⟨(n % 65536).toNat, by rw [bitsx.and_mask16]; omega, by omega⟩
theorem dec_calls (m : Nat) (w : World) (h : m < 1000000) : Calls Tryd.prog 19 #[.int .i64 m] w fun e w' => e = .returned (.string (decText m)) ∧ w' = w := by
  refine (who.decimal_calls 5 m w (by simpa using h) (by omega)).mono ?_
  rintro e w' ⟨rfl, s, rfl, hs⟩
  obtain rfl : s = decText m := ba_ext (by rw [hs, dec_list])
  exact ⟨rfl, rfl⟩
theorem dec_le (m : Nat) (h : m < 1000000) : (decText m).size ≤ 6 := by
  have h1 := dec_size m h
  have h2 : (decText m).data.toList.length = (decText m).size := by simp
  rw [dec_list] at h2
  omega
theorem master_name : NameText ⟨#[109, 97, 115, 116, 101, 114]⟩ :=
  ⟨by decide, fun x hx => by
    simp only [List.mem_cons, List.not_mem_nil, or_false] at hx
    rcases hx with rfl | rfl | rfl | rfl | rfl | rfl <;> exact .inl ⟨by decide, by decide⟩, ⟨_, _, rfl, ⟨by decide, by decide⟩⟩⟩
theorem ref_holds (w : World) (s : ByteArray) : Holds (w.alloc (.cells #[.string ⟨#[82, 101, 102]⟩, .string s, .int .i64 0, .bool false] Pty)) w.heap.size [.ref s] := holds_new w [.ref s]
set_option maxRecDepth 100000 in
set_option maxHeartbeats 4000000 in
theorem rvBad_calls (s : ByteArray) (rs : List Rv) (w : World) (pv : Addr) (hs : Start w pv) (hsp : s.size ≤ 100 → Spoken s rs false) (hsz : s.size ≤ 140737488351232) :
    Calls Tryd.prog 20 #[.string s] w (Yes w) := by
  by_cases h100 : s.size ≤ 100
  · have c1 := hid (parseRev_calls s rs false w pv hs (hsp h100))
    have HS := hid hs
    clear hs hsp hsz
    go_enter Tryd.func20, Tryd.ntmps20
    go_wp2_with fail
    refine c1.out.mono ?_
    rintro e w1 ⟨hk, v, rfl, ho⟩
    have HK := hid hk
    have c2 := hid (rvRef_calls ⟨#[109, 97, 115, 116, 101, 114]⟩ w1)
    clear hk ho c1
    go_wp2_with fail
    refine c2.out.mono ?_
    rintro e w2 ⟨rfl, hk⟩
    have HK2 := hid (HK.out.trans_ hk)
    have c3 := hid (rvIs_calls ⟨#[109, 97, 115, 116, 101, 114]⟩ [.ref ⟨#[109, 97, 115, 116, 101, 114]⟩] w2.heap.size 1 1 _ pv (HS.out.below (HK2.out.alloc (.cells #[.string ⟨#[82, 101, 102]⟩, .string ⟨#[109, 97, 115, 116, 101, 114]⟩, .int .i64 0, .bool false] Pty))) (fun h => spoken_name master_name h) rfl (by omega) (by omega) (by omega) (by simp) (ref_holds w2 ⟨#[109, 97, 115, 116, 101, 114]⟩) (by decide))
    clear hk c2
    go_wp2_with fail
    refine c3.out.mono ?_
    rintro e w3 ⟨rfl, hk⟩
    have HK3 := hid ((HK2.out.alloc _).trans_ hk)
    clear hk c3
    go_wp2_with fail
    go_ret
    exact ⟨rfl, HK3.out⟩
  · have hlt : (100 : Int) < (s.size : Int) := by omega
    clear hs hsp h100
    go_enter Tryd.func20, Tryd.ntmps20
    go_wp2_with fail
    go_ret
    exact ⟨rfl, Kept.refl _ _⟩
set_option maxRecDepth 100000 in
set_option maxHeartbeats 4000000 in
theorem name_law (s : ByteArray) (w : World) (pv : Addr) (hs : Start w pv) (hz : s.size ≤ 140737488351232) :
    Calls Tryd.prog 6 #[.string s] w (Yes w) := by
  by_cases hbig : s.size ≤ 2147483647
  rotate_left
  · have hlt : (2147483647 : Int) < (s.size : Int) := by omega
    clear hs hbig
    go_enter Tryd.func6, Tryd.ntmps6
    go_wp2_with fail
    go_ret
    exact ⟨rfl, Kept.refl _ _⟩
  have hbig' : (s.size : Int) ≤ 2147483647 := by omega
  have c0 := hid (isName_calls s w hz)
  have HS := hid hs
  clear hs
  go_enter Tryd.func6, Tryd.ntmps6
  go_wp2_with fail
  refine c0.out.mono ?_
  rintro e w1 ⟨hw, b, rfl, hb⟩
  obtain rfl : w = w1 := hw.symm
  clear hw c0
  cases b with
  | false =>
    clear hb
    go_wp2_with fail
    go_ret
    exact ⟨rfl, Kept.refl _ _⟩
  | true =>
    have HN := hid (name_of hb)
    clear hb
    have c2 := hid (rvRef_calls s w)
    go_wp2_with fail
    refine c2.out.mono ?_
    rintro e w2 ⟨rfl, hk⟩
    have HK2 := hid hk
    have c3 := hid (rvIs_calls s [.ref s] w2.heap.size 1 1 _ pv (HS.out.below (HK2.out.alloc (.cells #[.string ⟨#[82, 101, 102]⟩, .string s, .int .i64 0, .bool false] Pty))) (fun h => spoken_name HN.out h) rfl (by omega) (by omega) (by omega) (by simp) (ref_holds w2 s) hz)
    clear hk c2
    go_wp2_with fail
    refine c3.out.mono ?_
    rintro e w3 ⟨rfl, hk⟩
    have HK3 := hid ((HK2.out.alloc _).trans_ hk)
    clear hk c3
    go_wp2_with fail
    go_ret
    exact ⟨rfl, HK3.out⟩
set_option maxRecDepth 100000 in
set_option maxHeartbeats 4000000 in
theorem parents_law (s : ByteArray) (n : Int) (w : World) (pv : Addr) (hs : Start w pv) (hz : s.size ≤ 140737488351232) :
    Calls Tryd.prog 7 #[.string s, .int .i64 n] w (Yes w) := by
  by_cases hbig : s.size ≤ 2147483647
  rotate_left
  · have hlt : (2147483647 : Int) < (s.size : Int) := by omega
    clear hs hbig
    go_enter Tryd.func7, Tryd.ntmps7
    go_wp2_with fail
    go_ret
    exact ⟨rfl, Kept.refl _ _⟩
  have hbig' : (s.size : Int) ≤ 2147483647 := by omega
  have c0 := hid (isName_calls s w hz)
  have HS := hid hs
  clear hs
  go_enter Tryd.func7, Tryd.ntmps7
  go_wp2_with fail
  refine c0.out.mono ?_
  rintro e w1 ⟨hw, b, rfl, hb⟩
  obtain rfl : w = w1 := hw.symm
  clear hw c0
  cases b with
  | false =>
    clear hb
    go_wp2_with fail
    go_ret
    exact ⟨rfl, Kept.refl _ _⟩
  | true =>
    have HN := hid (name_of hb)
    clear hb
    obtain ⟨k, hk, hk2⟩ := mask_ex n
    have hm := hid (show 3 + k < 1000000 by omega)
    have c1 := dec_calls (3 + k) w hm.out
    rw [show ((3 + k : Nat) : Int) = 3 + (k : Int) by omega] at c1
    have C1 := hid c1
    have hdl := dec_le (3 + k) hm.out
    obtain ⟨a1, k1, l1, z1⟩ := cat_ex (P := Tryd.prog) s ⟨#[94]⟩ (by have : (⟨#[94]⟩ : ByteArray).size = 1 := rfl; omega)
    have z1' : a1.size = s.size + 1 := by rw [z1]; rfl
    obtain ⟨a2, k2, l2, z2⟩ := cat_ex (P := Tryd.prog) a1 (decText (3 + k)) (by omega)
    have HT : Hid (a2.data.toList = s.data.toList ++ ([94] ++ decDigits (3 + k))) := hid (by rw [l2, l1, dec_list]; simp)
    have c3 := hid (rvBad_calls a2 [.ref s] w pv HS.out (fun h => spoken_parents HN.out (by omega) hm.out HT.out h) (by omega))
    clear c1 l1 z1 z1' l2 z2 hdl
    have kb := hk
    go_wp2_with fail
    refine C1.out.mono ?_
    rintro e w1 ⟨rfl, hw⟩
    obtain rfl : w = w1 := hw.symm
    clear hw C1
    go_wp2_with fail
    refine c3.out.mono ?_
    rintro e w2 ⟨rfl, hk3⟩
    have HK := hid hk3
    clear hk3 c3
    go_wp2_with fail
    go_ret
    exact ⟨rfl, HK.out⟩
set_option maxRecDepth 100000 in
set_option maxHeartbeats 4000000 in
theorem reflog_law (s : ByteArray) (n : Int) (w : World) (pv : Addr) (hs : Start w pv) (hz : s.size ≤ 140737488351232) :
    Calls Tryd.prog 8 #[.string s, .int .i64 n] w (Yes w) := by
  by_cases hbig : s.size ≤ 2147483647
  rotate_left
  · have hlt : (2147483647 : Int) < (s.size : Int) := by omega
    clear hs hbig
    go_enter Tryd.func8, Tryd.ntmps8
    go_wp2_with fail
    go_ret
    exact ⟨rfl, Kept.refl _ _⟩
  have hbig' : (s.size : Int) ≤ 2147483647 := by omega
  have c0 := hid (isName_calls s w hz)
  have HS := hid hs
  clear hs
  go_enter Tryd.func8, Tryd.ntmps8
  go_wp2_with fail
  refine c0.out.mono ?_
  rintro e w1 ⟨hw, b, rfl, hb⟩
  obtain rfl : w = w1 := hw.symm
  clear hw c0
  cases b with
  | false =>
    clear hb
    go_wp2_with fail
    go_ret
    exact ⟨rfl, Kept.refl _ _⟩
  | true =>
    have HN := hid (name_of hb)
    clear hb
    obtain ⟨k, hk, hk2⟩ := mask_ex n
    have hm := hid (show k < 1000000 by omega)
    have hm1 := hid (show k + 1 < 1000000 by omega)
    have c1 := hid (dec_calls k w hm.out)
    have hdl := dec_le k hm.out
    have hdl1 := dec_le (k + 1) hm1.out
    obtain ⟨a1, k_a1, l_a1, z_a1⟩ := cat_ex (P := Tryd.prog) s ⟨#[64, 123]⟩ (by have : (⟨#[64, 123]⟩ : ByteArray).size = 2 := rfl; omega)
    have y_a1 : (⟨#[64, 123]⟩ : ByteArray).size = 2 := rfl
    obtain ⟨a2, k_a2, l_a2, z_a2⟩ := cat_ex (P := Tryd.prog) a1 (decText k) (by omega)
    obtain ⟨a3, k_a3, l_a3, z_a3⟩ := cat_ex (P := Tryd.prog) a2 ⟨#[125]⟩ (by have : (⟨#[125]⟩ : ByteArray).size = 1 := rfl; omega)
    have y_a3 : (⟨#[125]⟩ : ByteArray).size = 1 := rfl
    obtain ⟨b1, k_b1, l_b1, z_b1⟩ := cat_ex (P := Tryd.prog) ⟨#[64, 123, 45]⟩ (decText (k + 1)) (by have : (⟨#[64, 123, 45]⟩ : ByteArray).size = 3 := rfl; omega)
    have y_b1 : (⟨#[64, 123, 45]⟩ : ByteArray).size = 3 := rfl
    obtain ⟨b2, k_b2, l_b2, z_b2⟩ := cat_ex (P := Tryd.prog) b1 ⟨#[125]⟩ (by have : (⟨#[125]⟩ : ByteArray).size = 1 := rfl; omega)
    have y_b2 : (⟨#[125]⟩ : ByteArray).size = 1 := rfl
    have HA : Hid (a3.data.toList = s.data.toList ++ ([64, 123] ++ (decDigits k ++ [125])) ∧ a3.size ≤ 140737488351232) := hid ⟨by rw [l_a3, l_a2, l_a1, dec_list]; simp, by omega⟩
    have HB : Hid (b2.data.toList = [64, 123, 45] ++ (decDigits (k + 1) ++ [125]) ∧ b2.size ≤ 140737488351232) := hid ⟨by rw [l_b2, l_b1, dec_list]; simp, by omega⟩
    clear hdl hdl1 l_a1 z_a1 y_a1 l_a2 z_a2 l_a3 z_a3 y_a3 l_b1 z_b1 y_b1 l_b2 z_b2 y_b2
    go_wp2_with fail
    refine c1.out.mono ?_
    rintro e w1 ⟨rfl, hw⟩
    obtain rfl : w = w1 := hw.symm
    clear hw c1
    have c2 := hid (rvRef_calls s w)
    go_wp2_with fail
    refine c2.out.mono ?_
    rintro e w2 ⟨rfl, hk3⟩
    have HK2 := hid hk3
    have hh : Holds (w2.alloc (.cells #[.string ⟨#[82, 101, 102]⟩, .string s, .int .i64 0, .bool false, .string ⟨#[65, 116, 82, 101, 102, 108, 111, 103]⟩, .string ⟨#[]⟩, .int .i64 k, .bool false] Pty)) w2.heap.size [.ref s, .reflog k] := holds_new w2 [.ref s, .reflog k]
    have c3 := hid (rvIs_calls a3 [.ref s, .reflog k] w2.heap.size 2 2 _ pv (HS.out.below (HK2.out.alloc (.cells #[.string ⟨#[82, 101, 102]⟩, .string s, .int .i64 0, .bool false, .string ⟨#[65, 116, 82, 101, 102, 108, 111, 103]⟩, .string ⟨#[]⟩, .int .i64 k, .bool false] Pty))) (fun h => spoken_reflog HN.out hm.out HA.out.1 h) rfl (by omega) (by omega) (by omega) (by simp) hh HA.out.2)
    clear hk3 c2 hh
    go_wp2_with fail
    refine c3.out.mono ?_
    rintro e w3 ⟨rfl, hk3⟩
    have HK3 := hid ((HK2.out.alloc _).trans_ hk3)
    have c4' := dec_calls (k + 1) w3 hm1.out
    rw [show ((k + 1 : Nat) : Int) = (k : Int) + 1 by omega] at c4'
    have c4 := hid c4'
    clear hk3 c3 c4'
    go_wp2_with fail
    refine c4.out.mono ?_
    rintro e w4 ⟨rfl, hw⟩
    obtain rfl : w3 = w4 := hw.symm
    clear hw c4
    have hh : Holds (w3.alloc (.cells #[.string ⟨#[65, 116, 67, 104, 101, 99, 107, 111, 117, 116]⟩, .string ⟨#[]⟩, .int .i64 ((k + 1 : Nat) : Int), .bool false] Pty)) w3.heap.size [.checkout (k + 1)] := holds_new w3 [.checkout (k + 1)]
    rw [show ((k + 1 : Nat) : Int) = (k : Int) + 1 by omega] at hh
    have c5 := hid (rvIs_calls b2 [.checkout (k + 1)] w3.heap.size 1 1 _ pv (HS.out.below (HK3.out.alloc (.cells #[.string ⟨#[65, 116, 67, 104, 101, 99, 107, 111, 117, 116]⟩, .string ⟨#[]⟩, .int .i64 ((k : Int) + 1), .bool false] Pty))) (fun h => spoken_checkout hm1.out HB.out.1 h) rfl (by omega) (by omega) (by omega) (by simp) hh HB.out.2)
    clear hh
    go_wp2_with fail
    refine c5.out.mono ?_
    rintro e w5 ⟨rfl, hk3⟩
    have HK5 := hid ((HK3.out.alloc _).trans_ hk3)
    clear hk3 c5
    go_wp2_with fail
    go_ret
    exact ⟨rfl, HK5.out⟩
set_option maxRecDepth 100000 in
set_option maxHeartbeats 4000000 in
theorem colon_law (s q : ByteArray) (n : Int) (w : World) (pv : Addr) (hs : Start w pv) (hz : s.size ≤ 140737488351232) (hzq : q.size ≤ 140737488351232) :
    Calls Tryd.prog 5 #[.string s, .string q, .int .i64 n] w (Yes w) := by
  by_cases hbig : s.size ≤ 2147483647
  rotate_left
  · have hlt : (2147483647 : Int) < (s.size : Int) := by omega
    clear hs hbig
    go_enter Tryd.func5, Tryd.ntmps5
    go_wp2_with fail
    go_ret
    exact ⟨rfl, Kept.refl _ _⟩
  have hbig' : (s.size : Int) ≤ 2147483647 := by omega
  have hnb : decide ((2147483647 : Int) < (s.size : Int)) = false := decide_eq_false (by omega)
  by_cases hbigq : q.size ≤ 2147483647
  rotate_left
  · have hlt : (2147483647 : Int) < (q.size : Int) := by omega
    clear hs hbigq
    go_enter Tryd.func5, Tryd.ntmps5
    go_wp2_with fail
    go_ret
    exact ⟨rfl, Kept.refl _ _⟩
  have hbigq' : (q.size : Int) ≤ 2147483647 := by omega
  have c0 := hid (isName_calls s w hz)
  have c0q := hid (isName_calls q w hzq)
  have HS := hid hs
  clear hs
  go_enter Tryd.func5, Tryd.ntmps5
  go_wp2_with fail
  refine c0.out.mono ?_
  rintro e w1 ⟨hw, b, rfl, hb⟩
  obtain rfl : w = w1 := hw.symm
  clear hw c0
  cases b with
  | false =>
    clear hb
    go_wp2_with fail
    go_ret
    exact ⟨rfl, Kept.refl _ _⟩
  | true =>
  have HN := hid (name_of hb)
  clear hb
  go_wp2_with fail
  refine c0q.out.mono ?_
  rintro e w1 ⟨hw, b, rfl, hb⟩
  obtain rfl : w = w1 := hw.symm
  clear hw c0q
  cases b with
  | false =>
    clear hb
    go_wp2_with fail
    go_ret
    exact ⟨rfl, Kept.refl _ _⟩
  | true =>
    have HQ := hid (name_of hb)
    clear hb
    obtain ⟨k0, hk, hk2⟩ := mask_ex n
    obtain ⟨k, hk4⟩ : ∃ k : Nat, k = k0 % 4 := ⟨_, rfl⟩
    have hk5 : (k0 : Int) % 4 = (k : Int) := by omega
    have HM := hid (show k ≤ 3 ∧ k < 1000000 by omega)
    have hdl := dec_le k HM.out.2
    have c2 := hid (rvRef_calls s w)
    obtain ⟨a1, k_a1, l_a1, z_a1⟩ := cat_ex (P := Tryd.prog) s ⟨#[58]⟩ (by have : (⟨#[58]⟩ : ByteArray).size = 1 := rfl; omega)
    have y_a1 : (⟨#[58]⟩ : ByteArray).size = 1 := rfl
    obtain ⟨a2, k_a2, l_a2, z_a2⟩ := cat_ex (P := Tryd.prog) a1 q (by omega)
    obtain ⟨b1, k_b1, l_b1, z_b1⟩ := cat_ex (P := Tryd.prog) ⟨#[58]⟩ (decText k) (by have : (⟨#[58]⟩ : ByteArray).size = 1 := rfl; omega)
    have y_b1 : (⟨#[58]⟩ : ByteArray).size = 1 := rfl
    obtain ⟨b2, k_b2, l_b2, z_b2⟩ := cat_ex (P := Tryd.prog) b1 ⟨#[58]⟩ (by have : (⟨#[58]⟩ : ByteArray).size = 1 := rfl; omega)
    have y_b2 : (⟨#[58]⟩ : ByteArray).size = 1 := rfl
    obtain ⟨b3, k_b3, l_b3, z_b3⟩ := cat_ex (P := Tryd.prog) b2 q (by omega)
    obtain ⟨d1, k_d1, l_d1, z_d1⟩ := cat_ex (P := Tryd.prog) ⟨#[58, 47]⟩ q (by have : (⟨#[58, 47]⟩ : ByteArray).size = 2 := rfl; omega)
    have y_d1 : (⟨#[58, 47]⟩ : ByteArray).size = 2 := rfl
    obtain ⟨e1, k_e1, l_e1, z_e1⟩ := cat_ex (P := Tryd.prog) ⟨#[58, 47, 33, 45]⟩ q (by have : (⟨#[58, 47, 33, 45]⟩ : ByteArray).size = 4 := rfl; omega)
    have y_e1 : (⟨#[58, 47, 33, 45]⟩ : ByteArray).size = 4 := rfl
    have HA : Hid (a2.data.toList = s.data.toList ++ ([58] ++ q.data.toList) ∧ a2.size ≤ 140737488351232) := hid ⟨by rw [l_a2, l_a1]; simp, by omega⟩
    have HB : Hid (b3.data.toList = [58] ++ (decDigits k ++ ([58] ++ q.data.toList)) ∧ b3.size ≤ 140737488351232) := hid ⟨by rw [l_b3, l_b2, l_b1, dec_list]; simp, by omega⟩
    have HD : Hid (d1.data.toList = [58, 47] ++ q.data.toList ∧ d1.size ≤ 140737488351232) := hid ⟨by rw [l_d1], by omega⟩
    have HE : Hid (e1.data.toList = [58, 47, 33, 45] ++ q.data.toList ∧ e1.size ≤ 140737488351232) := hid ⟨by rw [l_e1], by omega⟩
    clear hdl l_a1 z_a1 y_a1 l_a2 z_a2 l_b1 z_b1 y_b1 l_b2 z_b2 y_b2 l_b3 z_b3 l_d1 z_d1 y_d1 l_e1 z_e1 y_e1 hk4
    go_wp2_with fail
    refine c2.out.mono ?_
    rintro e w2 ⟨rfl, hk3⟩
    have HK2 := hid hk3
    clear hk3 c2
    have hh : Holds (w2.alloc (.cells #[.string ⟨#[82, 101, 102]⟩, .string s, .int .i64 0, .bool false, .string ⟨#[67, 111, 108, 111, 110, 80, 97, 116, 104]⟩, .string q, .int .i64 0, .bool false] Pty)) w2.heap.size [.ref s, .cpath q] := holds_new w2 [.ref s, .cpath q]
    have c3 := hid (rvIs_calls a2 [.ref s, .cpath q] w2.heap.size 2 2 _ pv (HS.out.below (HK2.out.alloc (.cells #[.string ⟨#[82, 101, 102]⟩, .string s, .int .i64 0, .bool false, .string ⟨#[67, 111, 108, 111, 110, 80, 97, 116, 104]⟩, .string q, .int .i64 0, .bool false] Pty))) (fun h => spoken_cpath HN.out HQ.out HA.out.1 h) rfl (by omega) (by omega) (by omega) (by simp) hh HA.out.2)
    clear hh
    go_wp2_with fail
    refine c3.out.mono ?_
    rintro e w3 ⟨rfl, hk3⟩
    have HK3 := hid ((HK2.out.alloc _).trans_ hk3)
    have c4 := hid (dec_calls k w3 HM.out.2)
    clear hk3 c3
    go_wp2_with fail
    refine c4.out.mono ?_
    rintro e w4 ⟨rfl, hw⟩
    obtain rfl : w3 = w4 := hw.symm
    clear hw c4
    have hh : Holds (w3.alloc (.cells #[.string ⟨#[67, 111, 108, 111, 110, 83, 116, 97, 103, 101, 80, 97, 116, 104]⟩, .string q, .int .i64 k, .bool false] Pty)) w3.heap.size [.cstage q k] := holds_new w3 [.cstage q k]
    have c5 := hid (rvIs_calls b3 [.cstage q k] w3.heap.size 1 1 _ pv (HS.out.below (HK3.out.alloc (.cells #[.string ⟨#[67, 111, 108, 111, 110, 83, 116, 97, 103, 101, 80, 97, 116, 104]⟩, .string q, .int .i64 k, .bool false] Pty))) (fun h => spoken_cstage HQ.out HM.out.1 HB.out.1 h) rfl (by omega) (by omega) (by omega) (by simp) hh HB.out.2)
    clear hh
    go_wp2_with fail
    refine c5.out.mono ?_
    rintro e w5 ⟨rfl, hk3⟩
    have HK5 := hid ((HK3.out.alloc _).trans_ hk3)
    clear hk3 c5
    have hh : Holds (w5.alloc (.cells #[.string ⟨#[67, 111, 108, 111, 110, 82, 101, 103]⟩, .string q, .int .i64 0, .bool false] Pty)) w5.heap.size [.creg q false] := holds_new w5 [.creg q false]
    have c6 := hid (rvIs_calls d1 [.creg q false] w5.heap.size 1 1 _ pv (HS.out.below (HK5.out.alloc (.cells #[.string ⟨#[67, 111, 108, 111, 110, 82, 101, 103]⟩, .string q, .int .i64 0, .bool false] Pty))) (fun h => spoken_creg HQ.out HD.out.1 h) rfl (by omega) (by omega) (by omega) (by simp) hh HD.out.2)
    clear hh
    go_wp2_with fail
    refine c6.out.mono ?_
    rintro e w6 ⟨rfl, hk3⟩
    have HK6 := hid ((HK5.out.alloc _).trans_ hk3)
    clear hk3 c6
    have hh : Holds (w6.alloc (.cells #[.string ⟨#[67, 111, 108, 111, 110, 82, 101, 103]⟩, .string q, .int .i64 0, .bool true] Pty)) w6.heap.size [.creg q true] := holds_new w6 [.creg q true]
    have c7 := hid (rvIs_calls e1 [.creg q true] w6.heap.size 1 1 _ pv (HS.out.below (HK6.out.alloc (.cells #[.string ⟨#[67, 111, 108, 111, 110, 82, 101, 103]⟩, .string q, .int .i64 0, .bool true] Pty))) (fun h => spoken_neg HQ.out HE.out.1 h) rfl (by omega) (by omega) (by omega) (by simp) hh HE.out.2)
    clear hh
    go_wp2_with fail
    refine c7.out.mono ?_
    rintro e w7 ⟨rfl, hk3⟩
    have HK7 := hid ((HK6.out.alloc _).trans_ hk3)
    clear hk3 c7
    go_wp2_with fail
    go_ret
    exact ⟨rfl, HK7.out⟩
end Go.Proofs.YtojimnlnpghbiaaDoor.rev
