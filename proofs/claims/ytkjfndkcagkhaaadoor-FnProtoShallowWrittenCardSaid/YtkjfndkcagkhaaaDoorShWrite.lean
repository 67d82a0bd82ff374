/- impl.WriteShallow. -/
import Derived.Test.YtkjfndkcagkhaaaDoorShGood
set_option linter.unusedVariables false
attribute [local go_sem ↓] Go.wp_at_zero Go.wp_at_succ
namespace Go.Proofs.YtkjfndkcagkhaaaDoor.enc
open Go.RowKit Lib frm mem rd pkt text buf hash ack

theorem HsAt.kept {w w' : World} {v : Value} {ss : List ByteArray} (h : HsAt w v ss) (hk : Kept [] w w') : HsAt w' v ss := by
  obtain ⟨h0, A, c, e, h1⟩ := h
  refine ⟨h0, A, c, e, fun hp => ?_⟩
  obtain ⟨g, cur, e2, h3, h4⟩ := h1 hp
  exact ⟨g, cur, e2, (hk.block g (lt_of_heap h3) (by simp)).trans h3, h4⟩
theorem HsAt.form {w : World} {v : Value} {ss : List ByteArray} (h : HsAt w v ss) : ∃ A c, v = .slice A ss.length c := by obtain ⟨_, A, c, e, _⟩ := h; exact ⟨A, c, e⟩
def shText (l1 l2 : List (List UInt8)) : List UInt8 := linesOf [115, 104, 97, 108, 108, 111, 119, 32] (names l1) ++ linesOf [117, 110, 115, 104, 97, 108, 108, 111, 119, 32] (names l2) ++ [48, 48, 48, 48]
/-- bytes of the call's own, and no error -/
def WroteOk (w : World) (l : List UInt8) (e : Ending) (w' : World) : Prop := Below w.heap.size w w' ∧ ∃ v B, e = .returned (.tuple #[v, .bool true]) ∧ w'.ownsRow B 5 1 v l.length (byteCells l)
set_option maxRecDepth 100000 in
set_option maxHeartbeats 8000000 in
theorem writeShallow_calls (A1 A2 : Option Addr) (n1 n2 d1 d2 : Nat) (l1 l2 : List (List UInt8)) (w : World) (hl1 : Strs w w.heap.size A1 n1 l1) (hl2 : Strs w w.heap.size A2 n2 l2) (hg1 : Good l1 true) (hg2 : Good l2 true) (ev : Value) (hE : w.cell? ⟨12, 0, none⟩ = some ev) (hlt : 12 < w.heap.size) :
    Calls Tryd.prog 10 #[.slice A1 n1 d1, .slice A2 n2 d2] w (WroteOk w (shText l1 l2)) := by
  have hm1 := (hg1 rfl).1
  have hm2 := (hg2 rfl).1
  have c1 := hid (hashesOf_calls A1 n1 d1 l1 w hl1 (by rw [← hl1.len]; exact hm1) (hg1 rfl).2 ev hE hlt)
  have c2 := hid (fun (w' : World) (hk : Kept [] w w') => hashesOf_calls A2 n2 d2 l2 w' ((hl2.below (hk.below (Nat.le_refl _) (by simp))).more hk.size) (by rw [← hl2.len]; exact hm2) (hg2 rfl).2 ev ((hk.cell (p := ⟨12, 0, none⟩) hlt (by simp)).trans hE) (Nat.lt_of_lt_of_le hlt hk.size))
  have HM := hid (And.intro hm1 hm2)
  clear hl1 hl2 hg1 hg2 hE hlt hm1 hm2
  go_enter Tryd.func10, Tryd.ntmps10
  go_wp2_with fail
  refine c1.out.mono ?_
  rintro e w1 ⟨v1, rfl, hv1, hk1⟩
  have HV1 := hid hv1
  have HK1 := hid hk1
  clear hv1 hk1
  go_wp2_with fail
  refine (c2.out w1 HK1.out).mono ?_
  rintro e w2 ⟨v2, rfl, hv2, hk2⟩
  have HV2 := hid hv2
  have HW1 := hid (HV1.out.kept hk2)
  have HK2 := hid (HK1.out.trans_ hk2)
  clear hv2 hk2 c1 c2 HV1 HK1
  obtain ⟨B1, e1, rfl⟩ := HW1.out.form
  obtain ⟨B2, e2, rfl⟩ := HV2.out.form
  go_wp2_with fail
  obtain ⟨w3, hw3⟩ : ∃ w3, w3 = w2.alloc (.cells #[.slice B1 (names l1).length e1, .slice B2 (names l2).length e2] Uty) := ⟨_, rfl⟩
  have hU3 : Blk w3 w2.heap.size Uty #[.slice B1 (names l1).length e1, .slice B2 (names l2).length e2] := by rw [hw3]; exact Blk.new w2 _ _
  have hz3 : w3.heap.size = w2.heap.size + 1 := by rw [hw3]; simp
  have hk3 : Kept [] w2 w3 := by rw [hw3]; exact (Kept.refl [] w2).alloc _
  rw [← hw3, ← hz3]
  have hF := fresh_isBuffer 62 5 w3
  have hk4 : Kept [] w3 (w3.alloc (.cells #[.slice none 0 0, .int .i64 0, .int .i8 0] 62)) := (Kept.refl [] w3).alloc _
  clear hw3
  generalize w3.alloc (.cells #[.slice none 0 0, .int .i64 0, .int .i8 0] 62) = w4 at *
  have HK4 := hid (HK2.out.trans_ (hk3.trans_ hk4))
  have HM2 := HM.out
  refine (updEncode_calls w3.heap.size w3.heap.size w2.heap.size _ _ (names l1) (names l2) w4 hF (hU3.kept hk4 (by simp)) (HW1.out.kept (hk3.trans_ hk4)) (HV2.out.kept (hk3.trans_ hk4)) (by simpa [names] using HM2.1) (by simpa [names] using HM2.2)).mono ?_
  rintro e w5 ⟨rfl, hb5, hbel5⟩
  obtain ⟨T, hT⟩ : ∃ T, T = shText l1 l2 := ⟨_, rfl⟩
  have hb6 : IsBuffer 62 5 w3.heap.size w3.heap.size (byteCells T) w5 := by rw [hT]; exact hb5
  have HTT := hid hT
  have HB5 : Hid (IsBuffer 62 5 w3.heap.size w3.heap.size (byteCells T) w5.drew) := hid hb6
  clear hb6 hT
  have HBW : Hid (Below w.heap.size w w5) := hid ((HK4.out.below (Nat.le_refl _) (by simp)).trans ⟨hbel5.os, hbel5.tape, hbel5.output, hbel5.size, fun i hi => hbel5.block i (by have h1 := HK2.out.size; have h2 := hk3.size; omega)⟩)
  have c3 := hid (fun (w' : World) h => Tryd.Buffer_Bytes w3.heap.size w3.heap.size (byteCells T) w' h)
  clear hb5 hbel5 hF hk3 hk4 hU3 hz3 HM2
  go_wp2_with fail
  go_region_held3 (fun _ => True) (trivial)
    ((go_at_call 31; refine (c3.out _ HB5.out).mono ?_; rintro e x4 ⟨v, rfl, ho, q, hq⟩; have HO := hid ho; have HQ := hid hq; clear ho hq))
  all_goals
    go_wp2_with fail
    go_ret2
    have hx : Below w.heap.size w x4 := by
      rw [HQ.out]
      exact HBW.out.trans ⟨rfl, rfl, rfl, Nat.le_refl _, fun _ _ => rfl⟩
    rw [← HTT.out]
    exact ⟨hx, _, _, rfl, by simpa [byteCells] using HO.out⟩
end Go.Proofs.YtkjfndkcagkhaaaDoor.enc
