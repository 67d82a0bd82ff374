/- bufio.Reader: what is read is done with, and the end is met. -/
import Derived.Test.YtojimnlnpghbiaaDoorRevFill
set_option linter.unusedVariables false
attribute [local go_sem ↓] Go.wp_at_zero Go.wp_at_succ
namespace Go.Proofs.YtojimnlnpghbiaaDoor.rev
open Go.RowKit Lib frm mem rd

set_option maxRecDepth 100000 in
set_option maxHeartbeats 4000000 in
theorem fill_endk (R G q b k : Nat) (hk : 0 < k) (hk2 : k ≤ 4096) (N : Int) (A : Option Addr) (n c : Nat) (lb ls : Int) (v : Value) (cur : List Value) (w : World) (hR : Rb w R G q k k .nilIface lb ls) (hq : Lm w q b N) (hN : (4096 : Int) ≤ N) (hN2 : N ≤ 140737488355328) (h : Bf w b A n c n)
    (hE : Eof w v) (hg : 0 < w.heap.size) (hgR : 0 ≠ R) (hgb : 0 ≠ b) (hgG : 0 ≠ G) (ha : Apart R G q b) (hG : Blk w G 5 cur.toArray) (hfit : cur.length = 4096) :
    Calls Tryd.prog 102 #[.pointer (some ⟨R, 0, none⟩)] w (FillEnd w R G q b N v A c lb ls) := by
  obtain ⟨hE1, pv, rfl⟩ := hE
  have hna : ∀ w : World, Sem.run Tryd.prog (nilAhead 346 188 (.pointer (some ⟨q, 0, none⟩)) "Read") w = .ok (some false) w := fun _ => by kernel_rfl
  have hme : ∀ w : World, Sem.run Tryd.prog (method 346 188 (.pointer (some ⟨q, 0, none⟩)) "Read") w = .ok (158, .pointer (some ⟨q, 0, none⟩)) w := fun _ => by kernel_rfl
  have h0 : w.cell? ⟨R, 0, none⟩ = some (.slice (some ⟨G, 0, none⟩) 4096 4096) := hR.cell 0 rfl
  have h1 : w.cell? ⟨R, 1, none⟩ = some (.iface 188 (.pointer (some ⟨q, 0, none⟩))) := hR.cell 1 rfl
  have h2 : w.cell? ⟨R, 2, none⟩ = some (.int .i64 (k : Int)) := hR.cell 2 rfl
  have h3 : w.cell? ⟨R, 3, none⟩ = some (.int .i64 (k : Int)) := hR.cell 3 rfl
  obtain ⟨A', _, hsm⟩ := slice_mid .i64 .i64 (some (⟨G, 0, none⟩ : Addr)) 4096 4096 k k (Nat.le_refl _) hk2 (Nat.le_refl _)
  simp only [Nat.sub_self] at hsm
  have gk0 : (0 : Int) < (k : Int) := by omega
  have gk1 : (k : Int) ≤ 4096 := by omega
  have hs0 := slice_zero .i64 (some (⟨G, 0, none⟩ : Addr)) 4096 4096
  have c1 := hid (fun (w' : World) (k : Kept [R, G] w w') => limRead_end q b N A (some ⟨G, 0, none⟩) n c 4096 4096 (.iface 202 (.pointer (some pv))) w' (hq.kept k (by simp [ha.Rq.symm, ha.Gq.symm])) hN hN2 (h.kept k (by simp [ha.Rb.symm, ha.Gb.symm])) (by omega) ⟨(k.cell (p := ⟨0, 0, none⟩) hg (by simp only [List.mem_cons, List.not_mem_nil, or_false, not_or]; exact ⟨hgR, hgG⟩)).trans hE1, pv, rfl⟩ (Nat.lt_of_lt_of_le hg k.size) hgb ha.qb)
  have HR := hid hR
  have HA := hid ha
  have HG := hid hG
  have HC := hid hfit
  clear hR hq hN hN2 h hE1 hg hgR hgb hgG ha hG hfit
  go_enter Tryd.func102, Tryd.ntmps102
  go_wp2_with fail
  have hX : w.drew.cell? ⟨R, 0, none⟩ = some (.slice (some ⟨G, 0, none⟩) 4096 4096) ∧ w.drew.cell? ⟨R, 2, none⟩ = some (.int .i64 (k : Int)) ∧ w.drew.cell? ⟨R, 3, none⟩ = some (.int .i64 (k : Int)) := ⟨h0, h2, h3⟩
  have HX := hid hX
  clear hX h0 h1 h2 h3
  go_region_held3 (fun w' => w'.cell? ⟨R, 0, none⟩ = some (.slice (some ⟨G, 0, none⟩) 4096 4096) ∧ w'.cell? ⟨R, 2, none⟩ = some (.int .i64 (k : Int)) ∧ w'.cell? ⟨R, 3, none⟩ = some (.int .i64 (k : Int)))
    (exact HX.out)
    ((refine step_copy_kept (by rfl) _ _ _ _ (by rfl) 5 Tryd.underlying22 infoByte _ _ _ _ _ _ (by rfl) (by rfl) G 0 cur 5 (show Blk w.drew G _ _ from HG.out) [] (by simp) (fun h => absurd h (by simp)) (by simp) (by simp) ?_; intro w2 HG2 HK2 HZ2; have HR2 := hid (show Rb w2 R G q k k .nilIface lb ls from Blk.kept (show Blk w.drew R _ _ from HR.out) HK2.out (by have := HA.out; simp [this.RG])); have HX := hid (And.intro (show w2.cell? ⟨R, 0, none⟩ = some (.slice (some ⟨G, 0, none⟩) 4096 4096) from HR2.out.cell 0 rfl) (And.intro (show w2.cell? ⟨R, 2, none⟩ = some (.int .i64 (k : Int)) from HR2.out.cell 2 rfl) (show w2.cell? ⟨R, 3, none⟩ = some (.int .i64 (k : Int)) from HR2.out.cell 3 rfl)))))
  all_goals
    have h2 := HX.out.2.1
    have h3 := HX.out.2.2
    have f2 : w2.frozen? ⟨R, 2, none⟩ = false := HR2.out.frozen 2
    have f3 : w2.frozen? ⟨R, 3, none⟩ = false := HR2.out.frozen 3
    go_wp2_with fail
    go_region
    go_wp2_with fail
    have hr4 : Rb ((w2.setCell ⟨R, 3, none⟩ (.int .i64 0)).setCell ⟨R, 2, none⟩ (.int .i64 0)) R G q 0 0 .nilIface lb ls := by
      have := (HR2.out.set_ 3 (.int .i64 0)).set_ 2 (.int .i64 0)
      unfold Rb
      simpa [rdC] using this
    have hg4 : Blk ((w2.setCell ⟨R, 3, none⟩ (.int .i64 0)).setCell ⟨R, 2, none⟩ (.int .i64 0)) G 5 (splice cur 0 []).toArray := (Blk.far (show Blk w2 G _ _ from HG2.out) (p := ⟨R, 3, none⟩) HA.out.RG.symm _).far (p := ⟨R, 2, none⟩) HA.out.RG.symm _
    have hk4 : Kept [R, G] w ((w2.setCell ⟨R, 3, none⟩ (.int .i64 0)).setCell ⟨R, 2, none⟩ (.int .i64 0)) := ((((Kept.refl [] w).drew.more (by simp)).trans_ (HK2.out.more (by simp))).setCell (p := ⟨R, 3, none⟩) (.inl (by simp)) _).setCell (p := ⟨R, 2, none⟩) (.inl (by simp)) _
    have hc4 : (splice cur 0 ([] : List Value)).length = 4096 := by simp [splice, HC.out]
    generalize (w2.setCell ⟨R, 3, none⟩ (.int .i64 0)).setCell ⟨R, 2, none⟩ (.int .i64 0) = w4 at *
    have h0 : w4.cell? ⟨R, 0, none⟩ = some (.slice (some ⟨G, 0, none⟩) 4096 4096) := hr4.cell 0 rfl
    have h3 : w4.cell? ⟨R, 3, none⟩ = some (.int .i64 (0 : Int)) := hr4.cell 3 rfl
    have HR4 := hid hr4
    have HG4 := hid hg4
    have HK4 := hid hk4
    have HC4 := hid hc4
    clear hr4 hg4 hk4 hc4 h2 f2 f3 HX HR2 HG2 HK2 HZ2
    go_quiet (fail)
    go_wp2_with fail
    refine wp_loop_rounds 2 ?_
    rw [rounds_succ]
    go_wp2_with fail
    have HX := hid (And.intro (show (w4.drewN (1 + nq + 1)).cell? ⟨R, 0, none⟩ = some (.slice (some ⟨G, 0, none⟩) 4096 4096) from HR4.out.cell 0 rfl) (And.intro (show (w4.drewN (1 + nq + 1)).cell? ⟨R, 1, none⟩ = some (.iface 188 (.pointer (some ⟨q, 0, none⟩))) from HR4.out.cell 1 rfl) (show (w4.drewN (1 + nq + 1)).cell? ⟨R, 3, none⟩ = some (.int .i64 (0 : Int)) from HR4.out.cell 3 rfl)))
    go_region_held3 (fun w' => w'.cell? ⟨R, 0, none⟩ = some (.slice (some ⟨G, 0, none⟩) 4096 4096) ∧ w'.cell? ⟨R, 1, none⟩ = some (.iface 188 (.pointer (some ⟨q, 0, none⟩))) ∧ w'.cell? ⟨R, 3, none⟩ = some (.int .i64 (0 : Int)))
      (exact HX.out)
      ((go_at_call 158; refine (c1.out _ (HK4.out.drewN (1 + nq + 1))).mono ?_; rintro e w1 ⟨rfl, hq1, hb1, hk1⟩; have HK1 := hid hk1; have HR1 := hid (show Rb w1 R G q 0 0 .nilIface lb ls from Blk.kept (show Blk (w4.drewN (1 + nq + 1)) R _ _ from HR4.out) hk1 (by have := HA.out; simp [this.Rq, this.Rb])); have HG1 := hid (Blk.kept (show Blk (w4.drewN (1 + nq + 1)) G _ _ from HG4.out) hk1 (by have := HA.out; simp [this.Gq, this.Gb])); have HF := hid (And.intro hq1 hb1); have HX := hid (And.intro (show w1.cell? ⟨R, 0, none⟩ = some (.slice (some ⟨G, 0, none⟩) 4096 4096) from HR1.out.cell 0 rfl) (And.intro (show w1.cell? ⟨R, 1, none⟩ = some (.iface 188 (.pointer (some ⟨q, 0, none⟩))) from HR1.out.cell 1 rfl) (show w1.cell? ⟨R, 3, none⟩ = some (.int .i64 (0 : Int)) from HR1.out.cell 3 rfl))); have hx3 := HX.out.2.2; have hx4 : w1.cell? ⟨R, 4, none⟩ = some .nilIface := HR1.out.cell 4 rfl; have fx3 : w1.frozen? ⟨R, 3, none⟩ = false := HR1.out.frozen 3; have fx4 : w1.frozen? ⟨R, 4, none⟩ = false := HR1.out.frozen 4; clear hq1 hb1 hk1))
    all_goals
      go_wp2_with fail
      try go_end0
      have hA := HA.out
      refine ⟨rfl, ?_, ?_, ?_, ⟨_, HC4.out, ?_⟩, ?_⟩
      · have := (HR1.out.set_ 3 (.int .i64 0)).set_ 4 (.iface 202 (.pointer (some pv)))
        unfold Rb
        simpa [rdC] using this
      · exact (HF.out.1.far (p := ⟨R, 3, none⟩) hA.Rq.symm _).far (p := ⟨R, 4, none⟩) hA.Rq.symm _
      · obtain ⟨lr, hb⟩ := HF.out.2
        exact ⟨lr, (hb.far (p := ⟨R, 3, none⟩) hA.Rb.symm _).far (p := ⟨R, 4, none⟩) hA.Rb.symm _⟩
      · exact (HG1.out.far (p := ⟨R, 3, none⟩) hA.RG.symm _).far (p := ⟨R, 4, none⟩) hA.RG.symm _
      · exact (((((HK4.out.drewN (1 + nq + 1))).more (by simp)).trans_ (HK1.out.more (by simp))).setCell (p := ⟨R, 3, none⟩) (.inl (by simp)) _).setCell (p := ⟨R, 4, none⟩) (.inl (by simp)) _
end Go.Proofs.YtojimnlnpghbiaaDoor.rev
