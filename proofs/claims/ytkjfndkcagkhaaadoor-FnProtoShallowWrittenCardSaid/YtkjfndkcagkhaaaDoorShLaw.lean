/- laws.FnProtoShallowWritten. -/
import Derived.Test.YtkjfndkcagkhaaaDoorShText
set_option linter.unusedVariables false
attribute [local go_sem ↓] Go.wp_at_zero Go.wp_at_succ
namespace Go.Proofs.YtkjfndkcagkhaaaDoor.enc
open Go.RowKit Lib frm mem rd pkt text buf hash ack

set_option maxRecDepth 100000 in
theorem deltaSame_calls (A D : Option Addr) (c d B B' : Nat) (l : List UInt8) (w : World) (h : Bytes w B A l.length l) (h' : Bytes w B' D l.length l) :
    Calls Tryd.prog 11 #[.slice A l.length c, .slice D l.length d] w fun e w' => e = .returned (.bool true) ∧ w' = w := by
  have k1 : (convert 25 9 (.slice A l.length c)).run Tryd.prog w = .ok (.string ⟨l.toArray⟩) w := text_of_bytes h
  have k2 : (convert 25 9 (.slice D l.length d)).run Tryd.prog w = .ok (.string ⟨l.toArray⟩) w := text_of_bytes h'
  obtain ⟨x, hx⟩ : ∃ x : ByteArray, x = ⟨l.toArray⟩ := ⟨_, rfl⟩
  rw [← hx] at k1 k2
  clear hx h h'
  go_enter Tryd.func11, Tryd.ntmps11
  go_wp2_with fail
  go_ret
  exact ⟨rfl, rfl⟩
theorem own_bytes {w : World} {B n : Nat} {v : Value} {l : List UInt8} (h : w.ownsRow B 5 1 v n (byteCells l)) : ∃ A c, v = .slice A n c ∧ Bytes w w.heap.size A n l := by
  rcases id h with ⟨hl, ⟨rfl, h0⟩ | ⟨g, cap, cur, rfl, hBg, hg, hnc, hcm, hcs, htk⟩⟩
  · subst h0
    have : l = [] := List.eq_nil_of_length_eq_zero (by simpa [byteCells] using hl)
    subst this
    exact ⟨_, _, rfl, ⟨by simp [byteCells], fun h => absurd h (by omega)⟩, fun h => absurd h (by omega)⟩
  · exact ⟨_, _, rfl, Reads.of_own h, fun _ => ⟨g, 0, rfl⟩⟩
set_option maxRecDepth 100000 in
set_option maxHeartbeats 8000000 in
theorem law_calls (A1 A2 : Option Addr) (n1 n2 d1 d2 : Nat) (l1 l2 : List (List UInt8)) (w : World) (hl1 : Strs w w.heap.size A1 n1 l1) (hl2 : Strs w w.heap.size A2 n2 l2) (pe pu : Addr) (ev : Value) (hG : ack.Ground w w.heap.size pe pu ev) :
    Calls Tryd.prog 3 #[.slice A1 n1 d1, .slice A2 n2 d2] w fun e w' => e = .returned (.bool true) ∧ Below w.heap.size w w' := by
  have c1 := hid (fits_calls A1 n1 d1 w.heap.size l1 w hl1)
  have c2 := hid (fits_calls A2 n2 d2 w.heap.size l2 w hl2)
  have HL1 := hid hl1
  have HL2 := hid hl2
  have HG := hid hG
  clear hl1 hl2 hG
  go_enter Tryd.func3, Tryd.ntmps3
  go_wp2_with fail
  refine c1.out.mono ?_
  rintro e w' ⟨hw, b1, rfl, hb1⟩
  obtain rfl : w = w' := hw.symm
  have HB1 := hid hb1
  clear hb1 hw
  cases b1 with
  | false =>
    go_wp2_with fail
    go_ret
    exact ⟨rfl, Below.refl _ _⟩
  | true =>
  go_wp2_with fail
  refine c2.out.mono ?_
  rintro e w' ⟨hw, b2, rfl, hb2⟩
  obtain rfl : w = w' := hw.symm
  have HB2 := hid hb2
  clear hb2 hw
  cases b2 with
  | false =>
    go_wp2_with fail
    go_ret
    exact ⟨rfl, Below.refl _ _⟩
  | true =>
  have f1 := HB1.out rfl
  have f2 := HB2.out rfl
  have hn1 : n1 ≤ 2147483647 := by have := HL1.out.len; omega
  have hn2 : n2 ≤ 2147483647 := by have := HL2.out.len; omega
  have c3 := hid (goodHashes_calls A1 n1 d1 l1 w HL1.out hn1 f1.2)
  have c4 := hid (fun (w' : World) (hk : Kept [] w w') => goodHashes_calls A2 n2 d2 l2 w' ((HL2.out.below (hk.below (Nat.le_refl _) (by simp))).more hk.size) hn2 f2.2)
  clear f1 f2 hn1 hn2 HB1 HB2 c1 c2
  go_wp2_with fail
  refine c3.out.mono ?_
  rintro e w1 ⟨hk1, b1, rfl, hb1⟩
  have HK1 := hid hk1
  have HB1 := hid hb1
  clear hb1 hk1 c3
  cases b1 with
  | false =>
    go_wp2_with fail
    refine (works_calls pe pu _ (HG.out.below (HK1.out.below (Nat.le_refl _) (by simp))).two).mono ?_
    rintro e w3 ⟨rfl, h3⟩
    have H3 := hid (below_more (HK1.out.below (Nat.le_refl _) (by simp)) h3)
    clear h3
    go_wp2_with fail
    go_ret
    exact ⟨rfl, H3.out⟩
  | true =>
  go_wp2_with fail
  refine (c4.out _ HK1.out).mono ?_
  rintro e w2 ⟨hk2, b2, rfl, hb2⟩
  have HK2 := hid (HK1.out.trans_ hk2)
  have HB2 := hid hb2
  clear hb2 hk2 c4
  cases b2 with
  | false =>
    go_wp2_with fail
    refine (works_calls pe pu _ (HG.out.below (HK2.out.below (Nat.le_refl _) (by simp))).two).mono ?_
    rintro e w3 ⟨rfl, h3⟩
    have H3 := hid (below_more (HK2.out.below (Nat.le_refl _) (by simp)) h3)
    clear h3
    go_wp2_with fail
    go_ret
    exact ⟨rfl, H3.out⟩
  | true =>
  have hbel := HK2.out.below (B := w.heap.size) (Nat.le_refl _) (by simp)
  have hG2 := HG.out.below hbel
  go_wp2_with fail
  refine (writeShallow_calls A1 A2 n1 n2 d1 d2 l1 l2 w2 ((HL1.out.below hbel).more HK2.out.size) ((HL2.out.below hbel).more HK2.out.size) HB1.out HB2.out ev hG2.ev (Nat.lt_of_lt_of_le hG2.g3 HK2.out.size)).mono ?_
  rintro e w3 ⟨hbel3, v3, B3, rfl, ho3⟩
  obtain ⟨A3, c3, rfl, hy3⟩ := own_bytes ho3
  have HY3 := hid hy3
  have HW3 := hid (below_more hbel hbel3)
  clear ho3 hy3 hbel3 hG2 hbel
  go_wp2_with fail
  refine (shallowText_calls A1 A2 n1 n2 d1 d2 l1 l2 w3 ((HL1.out.below HW3.out).more HW3.out.size) ((HL2.out.below HW3.out).more HW3.out.size) HB1.out HB2.out).mono ?_
  rintro e w4 ⟨v4, rfl, ho4, hk4⟩
  obtain ⟨A4, c4, rfl, hy4⟩ := own_bytes ho4
  have HY4 := hid hy4
  have HY5 := hid (HY3.out.below (hk4.below (Nat.le_refl _) (by simp)))
  have HW4 := hid (HW3.out.trans ((hk4.below HW3.out.size (by simp))))
  clear ho4 hy4 hk4
  go_wp2_with fail
  refine (deltaSame_calls A3 A4 c3 c4 _ _ (shText l1 l2) w4 HY5.out HY4.out).mono ?_
  rintro e w5 ⟨rfl, h5⟩
  obtain rfl : w4 = w5 := h5.symm
  clear h5
  go_wp2_with fail
  refine (works_calls pe pu _ (HG.out.below HW4.out).two).mono ?_
  rintro e w6 ⟨rfl, h6⟩
  have H6 := hid (below_more HW4.out h6)
  clear h6
  go_wp2_with fail
  go_ret
  exact ⟨rfl, H6.out⟩
end Go.Proofs.YtkjfndkcagkhaaaDoor.enc
