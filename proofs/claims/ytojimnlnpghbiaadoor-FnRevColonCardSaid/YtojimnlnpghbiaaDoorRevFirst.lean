/- bufio.Reader.ReadRune, the first time: it fills. Printed by gen_first.py. -/
import Derived.Test.YtojimnlnpghbiaaDoorRevUn
set_option linter.unusedVariables false
attribute [local go_sem ↓] Go.wp_at_zero Go.wp_at_succ
namespace Go.Proofs.YtojimnlnpghbiaaDoor.rev
open Go.RowKit Lib frm mem rd

theorem row_splice {w : World} {G : Nat} {cur : List Value} {l : List UInt8} (hc : cur.length = 4096) (hl : l.length ≤ 4096) (hb : Blk w G 5 (splice cur 0 (byteCells l)).toArray) : Row w G 0 l := by
  refine ⟨_, ?_, hb, ?_⟩
  · simp [splice, byteCells, hc]
    omega
  · simp [splice, byteCells]
def RuneFirst (w : World) (R G q b : Nat) (N : Int) (A : Option Addr) (n c : Nat) (x : UInt8) (t : List UInt8) (e : Ending) (w' : World) : Prop :=
  ∃ (w1 : World) (r : Nat), r = 0 ∧ RuneOne w1 R G q r n x t e w' ∧ (Lm w1 q b (N - n) ∧ Bf w1 b A n c n ∧ Kept [R, q, b, G] w w1 ∧ Row w1 G r (x :: t))
set_option maxRecDepth 100000 in
set_option maxHeartbeats 4000000 in
theorem rune_first (R G q b wv : Nat) (N : Int) (A : Option Addr) (c : Nat) (x : UInt8) (t : List UInt8) (cur : List Value) (w : World) (hR : Rb w R G q 0 0 .nilIface (-1) (-1)) (ha : Apart R G q b) (hx : x.toNat < 128) (hl : (x :: t).length = wv) (hv : wv ≤ 4096) (hcur : cur.length = 4096) (hT : First w) (hTR : 7 < w.heap.size) (hTn : 7 ∉ [R, q, b, G])
    (hF : ∀ w', Kept [] w w' → Calls Tryd.prog 102 #[.pointer (some ⟨R, 0, none⟩)] w' (FillAll w' R G q b N A wv c (-1) (-1) (splice cur 0 (byteCells (x :: t))))) :
    Calls Tryd.prog 86 #[.pointer (some ⟨R, 0, none⟩)] w (RuneFirst w R G q b N A wv c x t) := by
  have h0 : w.cell? ⟨R, 0, none⟩ = some (.slice (some ⟨G, 0, none⟩) 4096 4096) := hR.cell 0 rfl
  have h2 : w.cell? ⟨R, 2, none⟩ = some (.int .i64 (0 : Int)) := hR.cell 2 rfl
  have h3 : w.cell? ⟨R, 3, none⟩ = some (.int .i64 (0 : Int)) := hR.cell 3 rfl
  have h4 : w.cell? ⟨R, 4, none⟩ = some .nilIface := hR.cell 4 rfl
  obtain ⟨A2, _, hsm2⟩ := slice_mid .i64 .i64 (some (⟨G, 0, none⟩ : Addr)) 4096 4096 0 0 (Nat.le_refl _) (by omega) (Nat.le_refl _)
  simp only [Nat.sub_self, Int.natCast_zero] at hsm2
  obtain ⟨r, hr0⟩ : ∃ r : Nat, r = 0 := ⟨_, rfl⟩
  have hlt : r < wv := by simp at hl; omega
  have hsl := fun w => slice_row .i64 .i64 G r wv hlt hv w
  have hwv : wv - r = (x :: t).length := by omega
  have gr : (r : Int) < (wv : Int) := by omega
  have gv : (wv : Int) ≤ 4096 := by omega
  have cf := hid (fun (w' : World) (h : Row w' G r (x :: t)) (hT : First w') => full_ascii (G + 1) (some ⟨G, r, none⟩) (wv - r) (4096 - r) x t w' (by rw [hwv]; exact h.bytes (by omega) (by omega)) hx hT)
  have cd := hid (fun (w' : World) (h : Row w' G r (x :: t)) => decode_calls (G + 1) (some ⟨G, r, none⟩) (wv - r) (4096 - r) x t w' (by rw [hwv]; exact h.bytes (by omega) (by omega)) hx)
  have HF := hid hF
  have HR0 := hid hr0
  have HT := hid (And.intro hT (And.intro hTR (And.intro hTn (And.intro hcur (show (x :: t).length ≤ 4096 by omega)))))
  have HD := hid (And.intro ha.RG True.intro)
  clear hF hr0 hT hTR hTn hcur ha hR hx hl hwv
  go_enter Tryd.func86, Tryd.ntmps86
  go_wp2_with fail
  refine wp_loop_rounds 2 ?_
  rw [rounds_succ]
  go_wp2_with fail
  go_quiet (first | (go_at_call 101; exact Calls.quiet_of_same (full_empty _ _ _)))
  go_wp2_with fail
  refine (HF.out _ ((Kept.refl [] w).drewN nq)).mono ?_
  rintro e w1 ⟨rfl, hr1, hq1, hb1, hg1, hk1⟩
  have hk : Kept [R, q, b, G] w w1 := (((Kept.refl [] w).drewN nq).more (by simp)).trans_ hk1
  have hr1 : Rb w1 R G q r wv .nilIface (-1) (-1) := by rw [HR0.out]; exact hr1
  have HG1 : Hid (Row w1 G r (x :: t)) := hid (by rw [HR0.out]; exact row_splice HT.out.2.2.2.1 HT.out.2.2.2.2 hg1)
  have HT1 := hid (show First w1 from fun k h => (hk.cell (p := ⟨7, k, none⟩) HT.out.2.1 HT.out.2.2.1).trans (HT.out.1 k h))
  have h0 : w1.cell? ⟨R, 0, none⟩ = some (.slice (some ⟨G, 0, none⟩) 4096 4096) := hr1.cell 0 rfl
  have h2 : w1.cell? ⟨R, 2, none⟩ = some (.int .i64 (r : Int)) := hr1.cell 2 rfl
  have h3 : w1.cell? ⟨R, 3, none⟩ = some (.int .i64 (wv : Int)) := hr1.cell 3 rfl
  have h4 : w1.cell? ⟨R, 4, none⟩ = some .nilIface := hr1.cell 4 rfl
  have h6 : w1.cell? ⟨R, 6, none⟩ = some (.int .i64 (-1)) := hr1.cell 6 rfl
  have f6 : w1.frozen? ⟨R, 6, none⟩ = false := hr1.frozen 6
  have HR1 := hid hr1
  have HQ := hid (And.intro hq1 (And.intro hb1 (And.intro hk HG1.out)))
  clear hr1 hq1 hb1 hg1 hk1 hk HF
  obtain ⟨lb, hlb⟩ : ∃ lb : Int, lb = -1 := ⟨_, rfl⟩
  rw [← hlb] at HR1
  go_wp2_with fail
  rw [rounds_succ]
  by_cases g1 : (wv : Int) < (r : Int) + 4
  · go_wp2_with fail
    go_quiet (first | (go_at_call 101; exact Calls.quiet_of_same (cf.out _ HG1.out HT1.out)))
    go_wp2_with fail
    have hra : Rb ((w1.drewN nq).setCell ⟨R, 6, none⟩ (.int .i64 (-1))) R G q r wv .nilIface lb (-1) := by
      have := Blk.set_ (show Blk (w1.drewN nq) R _ _ from HR1.out) 6 (.int .i64 (-1))
      unfold Rb
      simpa [rdC] using this
    have hga : Row ((w1.drewN nq).setCell ⟨R, 6, none⟩ (.int .i64 (-1))) G r (x :: t) := Row.far (show Row (w1.drewN nq) G r _ from HG1.out) (p := ⟨R, 6, none⟩) HD.out.1.symm _
    have hka : Kept [R] w1 ((w1.drewN nq).setCell ⟨R, 6, none⟩ (.int .i64 (-1))) := ((Kept.refl [R] w1).drewN nq).setCell (p := ⟨R, 6, none⟩) (.inl (by simp)) _
    generalize (w1.drewN nq).setCell ⟨R, 6, none⟩ (.int .i64 (-1)) = wa at *
    have h0 : wa.cell? ⟨R, 0, none⟩ = some (.slice (some ⟨G, 0, none⟩) 4096 4096) := hra.cell 0 rfl
    have h2 : wa.cell? ⟨R, 2, none⟩ = some (.int .i64 (r : Int)) := hra.cell 2 rfl
    have h3 : wa.cell? ⟨R, 3, none⟩ = some (.int .i64 (wv : Int)) := hra.cell 3 rfl
    have f2 : wa.frozen? ⟨R, 2, none⟩ = false := hra.frozen 2
    have HRA := hid hra
    have HGA := hid hga
    have HKA := hid hka
    clear hra hga hka h4 h6 f6 HR1 HG1
    have gne : ¬ (r : Int) = (wv : Int) := by omega
    go_quiet (fail)
    go_wp2_with fail
    have hrb : Rb (wa.drewN nq) R G q r wv .nilIface lb (-1) := HRA.out
    have hgb : Row (wa.drewN nq) G r (x :: t) := HGA.out
    have hkb : Kept [R] w1 (wa.drewN nq) := HKA.out.drewN nq
    generalize wa.drewN nq = wb at *
    have h0 : wb.cell? ⟨R, 0, none⟩ = some (.slice (some ⟨G, 0, none⟩) 4096 4096) := hrb.cell 0 rfl
    have h2 : wb.cell? ⟨R, 2, none⟩ = some (.int .i64 (r : Int)) := hrb.cell 2 rfl
    have h3 : wb.cell? ⟨R, 3, none⟩ = some (.int .i64 (wv : Int)) := hrb.cell 3 rfl
    have f2 : wb.frozen? ⟨R, 2, none⟩ = false := hrb.frozen 2
    have HRB := hid hrb
    have HGB := hid hgb
    have HKB := hid hkb
    clear hrb hgb hkb HRA HGA HKA
    go_quiet (first | (go_at_call 104; exact Calls.quiet_of_same (cd.out _ HGB.out)))
    go_wp2_with fail
    have hrc : Rb ((wb.drewN nq).setCell ⟨R, 2, none⟩ (.int .i64 ((r : Int) + 1))) R G q (r + 1) wv .nilIface lb (-1) := by
      have := Blk.set_ (show Blk (wb.drewN nq) R _ _ from HRB.out) 2 (.int .i64 ((r : Int) + 1))
      unfold Rb
      rw [show rdC G q (r + 1) wv .nilIface lb (-1) = (rdC G q r wv .nilIface lb (-1)).setIfInBounds 2 (.int .i64 ((r : Int) + 1)) by simp [rdC]]
      exact this
    have hgc : Row ((wb.drewN nq).setCell ⟨R, 2, none⟩ (.int .i64 ((r : Int) + 1))) G r (x :: t) := Row.far (show Row (wb.drewN nq) G r _ from HGB.out) (p := ⟨R, 2, none⟩) HD.out.1.symm _
    have hkc : Kept [R] w1 ((wb.drewN nq).setCell ⟨R, 2, none⟩ (.int .i64 ((r : Int) + 1))) := (HKB.out.drewN nq).setCell (p := ⟨R, 2, none⟩) (.inl (by simp)) _
    generalize (wb.drewN nq).setCell ⟨R, 2, none⟩ (.int .i64 ((r : Int) + 1)) = wc at *
    have h0 : wc.cell? ⟨R, 0, none⟩ = some (.slice (some ⟨G, 0, none⟩) 4096 4096) := hrc.cell 0 rfl
    have h2 : wc.cell? ⟨R, 2, none⟩ = some (.int .i64 ((r : Int) + 1)) := by have := hrc.cell 2 (v := .int .i64 ((r + 1 : Nat) : Int)) rfl; simpa using this
    have h5 : wc.cell? ⟨R, 5, none⟩ = some (.int .i64 lb) := hrc.cell 5 rfl
    have h6 : wc.cell? ⟨R, 6, none⟩ = some (.int .i64 (-1)) := hrc.cell 6 rfl
    have f5 : wc.frozen? ⟨R, 5, none⟩ = false := hrc.frozen 5
    have f6 : wc.frozen? ⟨R, 6, none⟩ = false := hrc.frozen 6
    have hb0 := hgc.head.1
    have HRC := hid hrc
    have HGC := hid hgc.head.2
    have HKC := hid hkc
    have ex : IntKind.i64.wrap (x.toNat : Int) = x.toNat := by rw [IntWalk.i64_in _ (by have := x.toNat_lt; omega)]
    clear hrc hgc hkc HRB HGB HKB f2 h3
    go_region
    all_goals
      go_wp2_with fail
      refine bodyPost_ret (by simp [results, Tryd.results86, go_sem]; rfl) rfl ?_
      refine ⟨w1, r, HR0.out, ⟨rfl, ?_, ?_, ?_⟩, HQ.out⟩
      · have := (HRC.out.set_ 5 (.int .i64 x.toNat)).set_ 6 (.int .i64 1)
        unfold Rb
        refine Blk.drew ?_
        simpa [rdC] using this
      · exact (HGC.out.far (p := ⟨R, 5, none⟩) HD.out.1.symm _).far (p := ⟨R, 6, none⟩) HD.out.1.symm _
      · exact ((HKC.out.setCell (p := ⟨R, 5, none⟩) (.inl (by simp)) _).setCell (p := ⟨R, 6, none⟩) (.inl (by simp)) _).drew
  · have g2 : decide ((wv : Int) < (r : Int) + 4) = false := decide_eq_false g1
    clear g1
    go_wp2_with fail
    go_quiet (fail)
    go_wp2_with fail
    have hra : Rb ((w1.drewN nq).setCell ⟨R, 6, none⟩ (.int .i64 (-1))) R G q r wv .nilIface lb (-1) := by
      have := Blk.set_ (show Blk (w1.drewN nq) R _ _ from HR1.out) 6 (.int .i64 (-1))
      unfold Rb
      simpa [rdC] using this
    have hga : Row ((w1.drewN nq).setCell ⟨R, 6, none⟩ (.int .i64 (-1))) G r (x :: t) := Row.far (show Row (w1.drewN nq) G r _ from HG1.out) (p := ⟨R, 6, none⟩) HD.out.1.symm _
    have hka : Kept [R] w1 ((w1.drewN nq).setCell ⟨R, 6, none⟩ (.int .i64 (-1))) := ((Kept.refl [R] w1).drewN nq).setCell (p := ⟨R, 6, none⟩) (.inl (by simp)) _
    generalize (w1.drewN nq).setCell ⟨R, 6, none⟩ (.int .i64 (-1)) = wa at *
    have h0 : wa.cell? ⟨R, 0, none⟩ = some (.slice (some ⟨G, 0, none⟩) 4096 4096) := hra.cell 0 rfl
    have h2 : wa.cell? ⟨R, 2, none⟩ = some (.int .i64 (r : Int)) := hra.cell 2 rfl
    have h3 : wa.cell? ⟨R, 3, none⟩ = some (.int .i64 (wv : Int)) := hra.cell 3 rfl
    have f2 : wa.frozen? ⟨R, 2, none⟩ = false := hra.frozen 2
    have HRA := hid hra
    have HGA := hid hga
    have HKA := hid hka
    clear hra hga hka h4 h6 f6 HR1 HG1
    have gne : ¬ (r : Int) = (wv : Int) := by omega
    go_quiet (fail)
    go_wp2_with fail
    have hrb : Rb (wa.drewN nq) R G q r wv .nilIface lb (-1) := HRA.out
    have hgb : Row (wa.drewN nq) G r (x :: t) := HGA.out
    have hkb : Kept [R] w1 (wa.drewN nq) := HKA.out.drewN nq
    generalize wa.drewN nq = wb at *
    have h0 : wb.cell? ⟨R, 0, none⟩ = some (.slice (some ⟨G, 0, none⟩) 4096 4096) := hrb.cell 0 rfl
    have h2 : wb.cell? ⟨R, 2, none⟩ = some (.int .i64 (r : Int)) := hrb.cell 2 rfl
    have h3 : wb.cell? ⟨R, 3, none⟩ = some (.int .i64 (wv : Int)) := hrb.cell 3 rfl
    have f2 : wb.frozen? ⟨R, 2, none⟩ = false := hrb.frozen 2
    have HRB := hid hrb
    have HGB := hid hgb
    have HKB := hid hkb
    clear hrb hgb hkb HRA HGA HKA
    go_quiet (first | (go_at_call 104; exact Calls.quiet_of_same (cd.out _ HGB.out)))
    go_wp2_with fail
    have hrc : Rb ((wb.drewN nq).setCell ⟨R, 2, none⟩ (.int .i64 ((r : Int) + 1))) R G q (r + 1) wv .nilIface lb (-1) := by
      have := Blk.set_ (show Blk (wb.drewN nq) R _ _ from HRB.out) 2 (.int .i64 ((r : Int) + 1))
      unfold Rb
      rw [show rdC G q (r + 1) wv .nilIface lb (-1) = (rdC G q r wv .nilIface lb (-1)).setIfInBounds 2 (.int .i64 ((r : Int) + 1)) by simp [rdC]]
      exact this
    have hgc : Row ((wb.drewN nq).setCell ⟨R, 2, none⟩ (.int .i64 ((r : Int) + 1))) G r (x :: t) := Row.far (show Row (wb.drewN nq) G r _ from HGB.out) (p := ⟨R, 2, none⟩) HD.out.1.symm _
    have hkc : Kept [R] w1 ((wb.drewN nq).setCell ⟨R, 2, none⟩ (.int .i64 ((r : Int) + 1))) := (HKB.out.drewN nq).setCell (p := ⟨R, 2, none⟩) (.inl (by simp)) _
    generalize (wb.drewN nq).setCell ⟨R, 2, none⟩ (.int .i64 ((r : Int) + 1)) = wc at *
    have h0 : wc.cell? ⟨R, 0, none⟩ = some (.slice (some ⟨G, 0, none⟩) 4096 4096) := hrc.cell 0 rfl
    have h2 : wc.cell? ⟨R, 2, none⟩ = some (.int .i64 ((r : Int) + 1)) := by have := hrc.cell 2 (v := .int .i64 ((r + 1 : Nat) : Int)) rfl; simpa using this
    have h5 : wc.cell? ⟨R, 5, none⟩ = some (.int .i64 lb) := hrc.cell 5 rfl
    have h6 : wc.cell? ⟨R, 6, none⟩ = some (.int .i64 (-1)) := hrc.cell 6 rfl
    have f5 : wc.frozen? ⟨R, 5, none⟩ = false := hrc.frozen 5
    have f6 : wc.frozen? ⟨R, 6, none⟩ = false := hrc.frozen 6
    have hb0 := hgc.head.1
    have HRC := hid hrc
    have HGC := hid hgc.head.2
    have HKC := hid hkc
    have ex : IntKind.i64.wrap (x.toNat : Int) = x.toNat := by rw [IntWalk.i64_in _ (by have := x.toNat_lt; omega)]
    clear hrc hgc hkc HRB HGB HKB f2 h3
    go_region
    all_goals
      go_wp2_with fail
      refine bodyPost_ret (by simp [results, Tryd.results86, go_sem]; rfl) rfl ?_
      refine ⟨w1, r, HR0.out, ⟨rfl, ?_, ?_, ?_⟩, HQ.out⟩
      · have := (HRC.out.set_ 5 (.int .i64 x.toNat)).set_ 6 (.int .i64 1)
        unfold Rb
        refine Blk.drew ?_
        simpa [rdC] using this
      · exact (HGC.out.far (p := ⟨R, 5, none⟩) HD.out.1.symm _).far (p := ⟨R, 6, none⟩) HD.out.1.symm _
      · exact ((HKC.out.setCell (p := ⟨R, 5, none⟩) (.inl (by simp)) _).setCell (p := ⟨R, 6, none⟩) (.inl (by simp)) _).drew
end Go.Proofs.YtojimnlnpghbiaaDoor.rev
