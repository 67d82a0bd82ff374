/- scanner.scan at a word, at a number. Printed by gen_scan2.py. -/
import Derived.Test.YtojimnlnpghbiaaDoorRevExpr
set_option linter.unusedVariables false
attribute [local go_sem ↓] Go.wp_at_zero Go.wp_at_succ
namespace Go.Proofs.YtojimnlnpghbiaaDoor.rev
open Go.RowKit Lib frm mem rd

set_option maxRecDepth 100000 in
set_option maxHeartbeats 4000000 in
theorem scan_word (p : Pl) (S : Nat) (x0 : UInt8) (a b : List UInt8) (w : World) (he : Env p w) (hp : Props w) (hpn : 9 ∉ p.bs) (hS : Sc w S p.R) (hSl : S < w.heap.size) (hSn : S ∉ p.bs) (h : Fr p (x0 :: (a ++ b)) w ∨ Rn p (x0 :: (a ++ b)) w) (h1 : 97 ≤ x0.toNat) (h2 : x0.toNat ≤ 122) (hz : zOf x0 = 192)
    (ha : ∀ x ∈ a, Dom x ∧ zOf x = 192) (hb : b = [] ∨ ∃ y t, b = y :: t ∧ Dom y ∧ zOf y ≠ 192) (hl : a.length ≤ 4096) :
    Calls Tryd.prog 71 #[.pointer (some ⟨S, 0, none⟩)] w (Tok p 19 ⟨(x0 :: a).toArray⟩ b w) := by
  have h0 : w.cell? ⟨S, 0, none⟩ = some (.pointer (some ⟨p.R, 0, none⟩)) := hS
  have c1 := hid (read_one p x0 (a ++ b) w he h (by omega))
  have HE := hid he
  have HP := hid (And.intro hp hpn)
  have HS := hid (And.intro hS (And.intro hSl hSn))
  have HA := hid (And.intro ha (And.intro hb hl))
  have HX := hid (And.intro h1 (And.intro h2 hz))
  have n0 : ¬ (x0.toNat : Int) = 0 := by omega
  have n58 : ¬ (x0.toNat : Int) = 58 := by omega
  have n126 : ¬ (x0.toNat : Int) = 126 := by omega
  have n94 : ¬ (x0.toNat : Int) = 94 := by omega
  have n46 : ¬ (x0.toNat : Int) = 46 := by omega
  have n47 : ¬ (x0.toNat : Int) = 47 := by omega
  have n123 : ¬ (x0.toNat : Int) = 123 := by omega
  have n125 : ¬ (x0.toNat : Int) = 125 := by omega
  have n45 : ¬ (x0.toNat : Int) = 45 := by omega
  have n64 : ¬ (x0.toNat : Int) = 64 := by omega
  have n92 : ¬ (x0.toNat : Int) = 92 := by omega
  have n63 : ¬ (x0.toNat : Int) = 63 := by omega
  have n42 : ¬ (x0.toNat : Int) = 42 := by omega
  have n91 : ¬ (x0.toNat : Int) = 91 := by omega
  have n33 : ¬ (x0.toNat : Int) = 33 := by omega
  clear he hp hpn hS hSl hSn h h1 h2 hz ha hb hl
  go_enter Tryd.func71, Tryd.ntmps71
  go_wp2_with fail
  refine c1.out.mono ?_
  rintro e w1 ⟨rfl, hgot, hk1⟩
  have hp1 := HP.out.1.kept hk1 HP.out.2
  have hx := HX.out
  have hzs : Zs (zOf x0) := by rw [hx.2.2]; unfold Zs; omega
  have c2 := hid (space_calls x0 w1 (by omega) (by omega))
  have c3 := hid (control_calls x0 (zOf x0) w1 (by omega) hzs (hp1.2 x0 (by omega)))
  have c4 := hid (letter_calls x0 (zOf x0) w1 (by omega) hzs (hp1.2 x0 (by omega)))
  have c5 := hid (number_calls x0 (zOf x0) w1 (by omega) hzs (hp1.2 x0 (by omega)))
  have c6 := hid (tok_word p x0 a b w1 (HE.out.kept hk1) hp1 HP.out.2 hgot.run (by omega) HA.out.1 HA.out.2.1 HA.out.2.2)
  have h0 : w1.cell? ⟨S, 0, none⟩ = some (.pointer (some ⟨p.R, 0, none⟩)) := (hk1.cell (p := ⟨S, 0, none⟩) HS.out.2.1 HS.out.2.2).trans HS.out.1
  have HK1 := hid hk1
  clear hgot hk1 hp1 hx hzs c1
  go_wp2_with fail
  refine c2.out.mono ?_
  rintro e x1 ⟨rfl, hx⟩
  obtain rfl : w1 = x1 := hx.symm
  clear hx
  go_wp2_with fail
  refine c3.out.mono ?_
  rintro e x1 ⟨rfl, hx⟩
  obtain rfl : w1 = x1 := hx.symm
  clear hx
  go_wp2_with fail
  refine c4.out.mono ?_
  rintro e x1 ⟨rfl, hx⟩
  obtain rfl : w1 = x1 := hx.symm
  rw [show decide (zOf x0 = 192) = true by rw [HX.out.2.2]; rfl]
  clear hx
  go_wp2_with fail
  refine c6.out.mono ?_
  rintro e w2 ⟨rfl, hrn, hk2⟩
  have HF := hid (And.intro hrn (HK1.out.trans_ hk2))
  clear hrn hk2
  go_wp2_with fail
  refine bodyPost_ret (by simp [results, Tryd.results71, go_sem]; rfl) rfl ?_
  exact ⟨rfl, HF.out.1, HF.out.2⟩
set_option maxRecDepth 100000 in
set_option maxHeartbeats 4000000 in
theorem scan_num (p : Pl) (S : Nat) (x0 : UInt8) (a b : List UInt8) (w : World) (he : Env p w) (hp : Props w) (hpn : 9 ∉ p.bs) (hS : Sc w S p.R) (hSl : S < w.heap.size) (hSn : S ∉ p.bs) (h : Fr p (x0 :: (a ++ b)) w ∨ Rn p (x0 :: (a ++ b)) w) (h1 : 48 ≤ x0.toNat) (h2 : x0.toNat ≤ 57) (hz : zOf x0 = 132)
    (ha : ∀ x ∈ a, Dom x ∧ zOf x = 132) (hb : b = [] ∨ ∃ y t, b = y :: t ∧ Dom y ∧ zOf y ≠ 132) (hl : a.length ≤ 4096) :
    Calls Tryd.prog 71 #[.pointer (some ⟨S, 0, none⟩)] w (Tok p 11 ⟨(x0 :: a).toArray⟩ b w) := by
  have h0 : w.cell? ⟨S, 0, none⟩ = some (.pointer (some ⟨p.R, 0, none⟩)) := hS
  have c1 := hid (read_one p x0 (a ++ b) w he h (by omega))
  have HE := hid he
  have HP := hid (And.intro hp hpn)
  have HS := hid (And.intro hS (And.intro hSl hSn))
  have HA := hid (And.intro ha (And.intro hb hl))
  have HX := hid (And.intro h1 (And.intro h2 hz))
  have n0 : ¬ (x0.toNat : Int) = 0 := by omega
  have n58 : ¬ (x0.toNat : Int) = 58 := by omega
  have n126 : ¬ (x0.toNat : Int) = 126 := by omega
  have n94 : ¬ (x0.toNat : Int) = 94 := by omega
  have n46 : ¬ (x0.toNat : Int) = 46 := by omega
  have n47 : ¬ (x0.toNat : Int) = 47 := by omega
  have n123 : ¬ (x0.toNat : Int) = 123 := by omega
  have n125 : ¬ (x0.toNat : Int) = 125 := by omega
  have n45 : ¬ (x0.toNat : Int) = 45 := by omega
  have n64 : ¬ (x0.toNat : Int) = 64 := by omega
  have n92 : ¬ (x0.toNat : Int) = 92 := by omega
  have n63 : ¬ (x0.toNat : Int) = 63 := by omega
  have n42 : ¬ (x0.toNat : Int) = 42 := by omega
  have n91 : ¬ (x0.toNat : Int) = 91 := by omega
  have n33 : ¬ (x0.toNat : Int) = 33 := by omega
  clear he hp hpn hS hSl hSn h h1 h2 hz ha hb hl
  go_enter Tryd.func71, Tryd.ntmps71
  go_wp2_with fail
  refine c1.out.mono ?_
  rintro e w1 ⟨rfl, hgot, hk1⟩
  have hp1 := HP.out.1.kept hk1 HP.out.2
  have hx := HX.out
  have hzs : Zs (zOf x0) := by rw [hx.2.2]; unfold Zs; omega
  have c2 := hid (space_calls x0 w1 (by omega) (by omega))
  have c3 := hid (control_calls x0 (zOf x0) w1 (by omega) hzs (hp1.2 x0 (by omega)))
  have c4 := hid (letter_calls x0 (zOf x0) w1 (by omega) hzs (hp1.2 x0 (by omega)))
  have c5 := hid (number_calls x0 (zOf x0) w1 (by omega) hzs (hp1.2 x0 (by omega)))
  have c6 := hid (tok_num p x0 a b w1 (HE.out.kept hk1) hp1 HP.out.2 hgot.run (by omega) HA.out.1 HA.out.2.1 HA.out.2.2)
  have h0 : w1.cell? ⟨S, 0, none⟩ = some (.pointer (some ⟨p.R, 0, none⟩)) := (hk1.cell (p := ⟨S, 0, none⟩) HS.out.2.1 HS.out.2.2).trans HS.out.1
  have HK1 := hid hk1
  clear hgot hk1 hp1 hx hzs c1
  go_wp2_with fail
  refine c2.out.mono ?_
  rintro e x1 ⟨rfl, hx⟩
  obtain rfl : w1 = x1 := hx.symm
  clear hx
  go_wp2_with fail
  refine c3.out.mono ?_
  rintro e x1 ⟨rfl, hx⟩
  obtain rfl : w1 = x1 := hx.symm
  clear hx
  go_wp2_with fail
  refine c4.out.mono ?_
  rintro e x1 ⟨rfl, hx⟩
  obtain rfl : w1 = x1 := hx.symm
  rw [show decide (zOf x0 = 192) = false by rw [HX.out.2.2]; rfl]
  clear hx
  go_wp2_with fail
  refine c5.out.mono ?_
  rintro e x1 ⟨rfl, hx⟩
  obtain rfl : w1 = x1 := hx.symm
  rw [show decide (zOf x0 = 132) = true by rw [HX.out.2.2]; rfl]
  clear hx
  go_wp2_with fail
  refine c6.out.mono ?_
  rintro e w2 ⟨rfl, hrn, hk2⟩
  have HF := hid (And.intro hrn (HK1.out.trans_ hk2))
  clear hrn hk2
  go_wp2_with fail
  refine bodyPost_ret (by simp [results, Tryd.results71, go_sem]; rfl) rfl ?_
  exact ⟨rfl, HF.out.1, HF.out.2⟩
end Go.Proofs.YtojimnlnpghbiaaDoor.rev
