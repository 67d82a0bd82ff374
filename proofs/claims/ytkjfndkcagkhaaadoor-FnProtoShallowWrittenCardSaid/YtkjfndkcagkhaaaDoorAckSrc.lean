/- A bufio.Reader over a bytes.Reader, as a source of bytes: filled at the end, ReadFull, Peek. -/
import Derived.Test.YtkjfndkcagkhaaaDoorAckBuf
set_option linter.unusedVariables false
attribute [local go_sem ↓] Go.wp_at_zero Go.wp_at_succ
namespace Go.Proofs.YtkjfndkcagkhaaaDoor.ack
open Go.RowKit Lib frm mem rd

structure Apart3 (R G q : Nat) : Prop where
  RG : R ≠ G
  Rq : R ≠ q
  Gq : G ≠ q
/-- the buffer after a filling at the end -/
def FillEnd (w : World) (R G q : Nat) (v : Value) (A : Option Addr) (n c : Nat) (lb ls : Int) (e : Ending) (w' : World) : Prop :=
  e = .returned (.tuple #[]) ∧ Rb w' R G q 0 0 v lb ls ∧ Rd w' q A n c n ∧ (∃ cur : List Value, cur.length = 4096 ∧ Blk w' G 5 cur.toArray) ∧ Kept [R, G] w w'
set_option maxRecDepth 100000 in
set_option maxHeartbeats 4000000 in
theorem fill_end (R G q k : Nat) (hk : 0 < k) (hk2 : k ≤ 4096) (A : Option Addr) (n c : Nat) (lb ls : Int) (v : Value) (cur : List Value) (w : World) (hR : Rb w R G q k k .nilIface lb ls) (hq : Rd w q A n c n) (hn : n ≤ 4096)
    (hE : Eof w v) (hg : 0 < w.heap.size) (hgR : 0 ≠ R) (hgG : 0 ≠ G) (ha : Apart3 R G q) (hG : Blk w G 5 cur.toArray) (hfit : cur.length = 4096) :
    Calls Tryd.prog 125 #[.pointer (some ⟨R, 0, none⟩)] w (FillEnd w R G q v A n c lb ls) := by
  obtain ⟨hE1, pv, rfl⟩ := hE
  have hna : ∀ w : World, Sem.run Tryd.prog (nilAhead 328 81 (.pointer (some ⟨q, 0, none⟩)) "Read") w = .ok (some false) w := fun _ => by kernel_rfl
  have hme : ∀ w : World, Sem.run Tryd.prog (method 328 81 (.pointer (some ⟨q, 0, none⟩)) "Read") w = .ok (158, .pointer (some ⟨q, 0, none⟩)) w := fun _ => by kernel_rfl
  have h0 : w.cell? ⟨R, 0, none⟩ = some (.slice (some ⟨G, 0, none⟩) 4096 4096) := hR.cell 0 rfl
  have h1 : w.cell? ⟨R, 1, none⟩ = some (.iface 81 (.pointer (some ⟨q, 0, none⟩))) := hR.cell 1 rfl
  have h2 : w.cell? ⟨R, 2, none⟩ = some (.int .i64 (k : Int)) := hR.cell 2 rfl
  have h3 : w.cell? ⟨R, 3, none⟩ = some (.int .i64 (k : Int)) := hR.cell 3 rfl
  obtain ⟨A', _, hsm⟩ := slice_mid .i64 .i64 (some (⟨G, 0, none⟩ : Addr)) 4096 4096 k k (Nat.le_refl _) hk2 (Nat.le_refl _)
  simp only [Nat.sub_self] at hsm
  have gk0 : (0 : Int) < (k : Int) := by omega
  have gk1 : (k : Int) ≤ 4096 := by omega
  have hs0 := slice_zero .i64 (some (⟨G, 0, none⟩ : Addr)) 4096 4096
  have c1 := hid (fun (w' : World) (k : Kept [R, G] w w') => read_end q A (some ⟨G, 0, none⟩) n c n 4096 4096 (.iface 184 (.pointer (some pv))) w' (hq.kept k (by simp [ha.Rq.symm, ha.Gq.symm])) (Nat.le_refl _) (by omega) ⟨(k.cell (p := ⟨0, 0, none⟩) hg (by simp only [List.mem_cons, List.not_mem_nil, or_false, not_or]; exact ⟨hgR, hgG⟩)).trans hE1, pv, rfl⟩)
  have HR := hid hR
  have HA := hid ha
  have HG := hid hG
  have HC := hid hfit
  clear hR hq hn hE1 hg hgR hgG ha hG hfit
  go_enter Tryd.func125, Tryd.ntmps125
  go_wp2_with fail
  have hX : w.drew.cell? ⟨R, 0, none⟩ = some (.slice (some ⟨G, 0, none⟩) 4096 4096) ∧ w.drew.cell? ⟨R, 2, none⟩ = some (.int .i64 (k : Int)) ∧ w.drew.cell? ⟨R, 3, none⟩ = some (.int .i64 (k : Int)) := ⟨h0, h2, h3⟩
  have HX := hid hX
  clear hX h0 h1 h2 h3
  go_region_held3 (fun w' => w'.cell? ⟨R, 0, none⟩ = some (.slice (some ⟨G, 0, none⟩) 4096 4096) ∧ w'.cell? ⟨R, 2, none⟩ = some (.int .i64 (k : Int)) ∧ w'.cell? ⟨R, 3, none⟩ = some (.int .i64 (k : Int)))
    (exact HX.out)
    ((refine step_copy_kept (by rfl) _ _ _ _ (by rfl) 5 Tryd.underlying25 infoByte _ _ _ _ _ _ (by rfl) (by rfl) G 0 cur 5 (show Blk w.drew G _ _ from HG.out) [] (by simp) (fun h => absurd h (by simp)) (by simp) (by simp) ?_; intro w2 HG2 HK2 HZ2; have HR2 := hid (show Rb w2 R G q k k .nilIface lb ls from Blk.kept (show Blk w.drew R _ _ from HR.out) HK2.out (by have := HA.out; simp [this.RG])); have HX := hid (And.intro (show w2.cell? ⟨R, 0, none⟩ = some (.slice (some ⟨G, 0, none⟩) 4096 4096) from HR2.out.cell 0 rfl) (And.intro (show w2.cell? ⟨R, 2, none⟩ = some (.int .i64 (k : Int)) from HR2.out.cell 2 rfl) (show w2.cell? ⟨R, 3, none⟩ = some (.int .i64 (k : Int)) from HR2.out.cell 3 rfl)))))
  all_goals
    have h2 := HX.out.2.1
    have h3 := HX.out.2.2
    have f2 : w2.frozen? ⟨R, 2, none⟩ = false := HR2.out.frozen 2
    have f3 : w2.frozen? ⟨R, 3, none⟩ = false := HR2.out.frozen 3
    go_wp2_with fail
    go_region
    go_wp2_with fail
    have hr4 : Rb ((w2.setCell ⟨R, 3, none⟩ (.int .i64 0)).setCell ⟨R, 2, none⟩ (.int .i64 0)) R G q 0 0 .nilIface lb ls := by
      have := (HR2.out.set_ 3 (.int .i64 0)).set_ 2 (.int .i64 0)
      unfold Rb
      simpa [rdC] using this
    have hg4 : Blk ((w2.setCell ⟨R, 3, none⟩ (.int .i64 0)).setCell ⟨R, 2, none⟩ (.int .i64 0)) G 5 (splice cur 0 []).toArray := (Blk.far (show Blk w2 G _ _ from HG2.out) (p := ⟨R, 3, none⟩) HA.out.RG.symm _).far (p := ⟨R, 2, none⟩) HA.out.RG.symm _
    have hk4 : Kept [R, G] w ((w2.setCell ⟨R, 3, none⟩ (.int .i64 0)).setCell ⟨R, 2, none⟩ (.int .i64 0)) := ((((Kept.refl [] w).drew.more (by simp)).trans_ (HK2.out.more (by simp))).setCell (p := ⟨R, 3, none⟩) (.inl (by simp)) _).setCell (p := ⟨R, 2, none⟩) (.inl (by simp)) _
    have hc4 : (splice cur 0 ([] : List Value)).length = 4096 := by simp [splice, HC.out]
    generalize (w2.setCell ⟨R, 3, none⟩ (.int .i64 0)).setCell ⟨R, 2, none⟩ (.int .i64 0) = w4 at *
    have h0 : w4.cell? ⟨R, 0, none⟩ = some (.slice (some ⟨G, 0, none⟩) 4096 4096) := hr4.cell 0 rfl
    have h3 : w4.cell? ⟨R, 3, none⟩ = some (.int .i64 (0 : Int)) := hr4.cell 3 rfl
    have HR4 := hid hr4
    have HG4 := hid hg4
    have HK4 := hid hk4
    have HC4 := hid hc4
    clear hr4 hg4 hk4 hc4 h2 f2 f3 HX HR2 HG2 HK2 HZ2
    go_quiet (fail)
    go_wp2_with fail
    refine wp_loop_rounds 2 ?_
    rw [rounds_succ]
    go_wp2_with fail
    have HX := hid (And.intro (show (w4.drewN (1 + nq + 1)).cell? ⟨R, 0, none⟩ = some (.slice (some ⟨G, 0, none⟩) 4096 4096) from HR4.out.cell 0 rfl) (And.intro (show (w4.drewN (1 + nq + 1)).cell? ⟨R, 1, none⟩ = some (.iface 81 (.pointer (some ⟨q, 0, none⟩))) from HR4.out.cell 1 rfl) (show (w4.drewN (1 + nq + 1)).cell? ⟨R, 3, none⟩ = some (.int .i64 (0 : Int)) from HR4.out.cell 3 rfl)))
    go_region_held3 (fun w' => w'.cell? ⟨R, 0, none⟩ = some (.slice (some ⟨G, 0, none⟩) 4096 4096) ∧ w'.cell? ⟨R, 1, none⟩ = some (.iface 81 (.pointer (some ⟨q, 0, none⟩))) ∧ w'.cell? ⟨R, 3, none⟩ = some (.int .i64 (0 : Int)))
      (exact HX.out)
      ((go_at_call 158; refine (c1.out _ (HK4.out.drewN (1 + nq + 1))).mono ?_; rintro e w1 ⟨rfl, hq1, hk1⟩; have HK1 := hid hk1; have HR1 := hid (show Rb w1 R G q 0 0 .nilIface lb ls from Blk.kept (show Blk (w4.drewN (1 + nq + 1)) R _ _ from HR4.out) hk1 (by simp)); have HG1 := hid (Blk.kept (show Blk (w4.drewN (1 + nq + 1)) G _ _ from HG4.out) hk1 (by simp)); have HF := hid hq1; have HX := hid (And.intro (show w1.cell? ⟨R, 0, none⟩ = some (.slice (some ⟨G, 0, none⟩) 4096 4096) from HR1.out.cell 0 rfl) (And.intro (show w1.cell? ⟨R, 1, none⟩ = some (.iface 81 (.pointer (some ⟨q, 0, none⟩))) from HR1.out.cell 1 rfl) (show w1.cell? ⟨R, 3, none⟩ = some (.int .i64 (0 : Int)) from HR1.out.cell 3 rfl))); have hx3 := HX.out.2.2; have hx4 : w1.cell? ⟨R, 4, none⟩ = some .nilIface := HR1.out.cell 4 rfl; have fx3 : w1.frozen? ⟨R, 3, none⟩ = false := HR1.out.frozen 3; have fx4 : w1.frozen? ⟨R, 4, none⟩ = false := HR1.out.frozen 4; clear hq1 hk1))
    all_goals
      go_wp2_with fail
      try go_end0
      have hA := HA.out
      refine ⟨rfl, ?_, ?_, ⟨_, HC4.out, ?_⟩, ?_⟩
      · have := (HR1.out.set_ 3 (.int .i64 0)).set_ 4 (.iface 184 (.pointer (some pv)))
        unfold Rb
        simpa [rdC] using this
      · exact HF.out.kept (S := [R]) (((Kept.refl [R] w1).setCell (p := ⟨R, 3, none⟩) (.inl (by simp)) _).setCell (p := ⟨R, 4, none⟩) (.inl (by simp)) _) (by simp [hA.Rq.symm])
      · exact (HG1.out.far (p := ⟨R, 3, none⟩) hA.RG.symm _).far (p := ⟨R, 4, none⟩) hA.RG.symm _
      · exact (((((HK4.out.drewN (1 + nq + 1))).more (by simp)).trans_ (HK1.out.more (by simp))).setCell (p := ⟨R, 3, none⟩) (.inl (by simp)) _).setCell (p := ⟨R, 4, none⟩) (.inl (by simp)) _
/-- a Peek at the end -/
def PeekEnd (w : World) (R G : Nat) (v : Value) (e : Ending) (w' : World) : Prop := ∃ s, e = .returned (.tuple #[s, v]) ∧ Kept [R, G] w w'
set_option maxRecDepth 100000 in
set_option maxHeartbeats 4000000 in
theorem peek_end (R G q k : Nat) (hk : 0 < k) (hk2 : k ≤ 4096) (A : Option Addr) (n c : Nat) (lb ls : Int) (v : Value) (cur : List Value) (w : World) (hR : Rb w R G q k k .nilIface lb ls) (hq : Rd w q A n c n) (hn : n ≤ 4096)
    (hE : Eof w v) (hg : 0 < w.heap.size) (hgR : 0 ≠ R) (hgG : 0 ≠ G) (ha : Apart3 R G q) (hG : Blk w G 5 cur.toArray) (hfit : cur.length = 4096) :
    Calls Tryd.prog 109 #[.pointer (some ⟨R, 0, none⟩), .int .i64 7] w (PeekEnd w R G v) := by
  have c1 := hid (fun (w' : World) (h : Kept [R] w w') (h2 : Rb w' R G q k k .nilIface (-1) (-1)) => fill_end R G q k hk hk2 A n c (-1) (-1) v cur w' h2 (hq.kept h (by simp [ha.Rq.symm])) hn ⟨(h.cell (p := ⟨0, 0, none⟩) hg (by simpa using hgR)).trans hE.1, hE.2⟩ (Nat.lt_of_lt_of_le hg h.size) hgR hgG ha (hG.kept h (by simp [ha.RG.symm])) hfit)
  have c2 := hid (fun (w' : World) (h : Rb w' R G q 0 0 v (-1) (-1)) => readErr_calls R G q 0 0 v (-1) (-1) w' h)
  have f5 : w.frozen? ⟨R, 5, none⟩ = false := hR.frozen 5
  have f6 : w.frozen? ⟨R, 6, none⟩ = false := hR.frozen 6
  have h5 : w.cell? ⟨R, 5, none⟩ = some (.int .i64 lb) := hR.cell 5 rfl
  have h6 : w.cell? ⟨R, 6, none⟩ = some (.int .i64 ls) := hR.cell 6 rfl
  obtain ⟨hE1, pv, rfl⟩ := hE
  have HR := hid hR
  clear hR hq hn hE1 hg hgR hgG ha hG hfit hk hk2
  go_enter Tryd.func109, Tryd.ntmps109
  go_wp2_with fail
  obtain ⟨w1, hw1⟩ : ∃ w1, w1 = (w.setCell ⟨R, 5, none⟩ (.int .i64 (-1))).setCell ⟨R, 6, none⟩ (.int .i64 (-1)) := ⟨_, rfl⟩
  rw [← hw1]
  have HR1 := hid (show Rb w1 R G q k k .nilIface (-1) (-1) by
    rw [hw1]
    have := ((show Blk w R _ _ from HR.out).set_ 5 (.int .i64 (-1))).set_ 6 (.int .i64 (-1))
    unfold Rb
    simpa [rdC] using this)
  have HK1 := hid (show Kept [R] w w1 by rw [hw1]; exact ((Kept.refl [R] w).setCell (p := ⟨R, 5, none⟩) (.inl (by simp)) _).setCell (p := ⟨R, 6, none⟩) (.inl (by simp)) _)
  have h0 : w1.cell? ⟨R, 0, none⟩ = some (.slice (some ⟨G, 0, none⟩) 4096 4096) := HR1.out.cell 0 rfl
  have h2 : w1.cell? ⟨R, 2, none⟩ = some (.int .i64 (k : Int)) := HR1.out.cell 2 rfl
  have h3 : w1.cell? ⟨R, 3, none⟩ = some (.int .i64 (k : Int)) := HR1.out.cell 3 rfl
  have h4 : w1.cell? ⟨R, 4, none⟩ = some .nilIface := HR1.out.cell 4 rfl
  clear hw1 f5 f6 h5 h6
  refine wp_loop_rounds 2 ?_
  rw [rounds_succ]
  go_wp2_with fail
  go_quiet (fail)
  go_wp2_with fail
  refine (c1.out _ (HK1.out.drewN nq) (show Rb (w1.drewN nq) R G q k k .nilIface (-1) (-1) from HR1.out)).mono ?_
  rintro e w2 ⟨rfl, hr2, hq2, hg2, hk2⟩
  have HR2 := hid hr2
  have HK2 := hid (((HK1.out.drewN nq).more (T := [R, G]) (by simp)).trans_ hk2)
  clear hq2 hg2 hk2 hr2 h0 h2 h3 h4 HR1 HK1
  have h0 : w2.cell? ⟨R, 0, none⟩ = some (.slice (some ⟨G, 0, none⟩) 4096 4096) := HR2.out.cell 0 rfl
  have h2 : w2.cell? ⟨R, 2, none⟩ = some (.int .i64 0) := HR2.out.cell 2 rfl
  have h3 : w2.cell? ⟨R, 3, none⟩ = some (.int .i64 0) := HR2.out.cell 3 rfl
  have h4 : w2.cell? ⟨R, 4, none⟩ = some (.iface 184 (.pointer (some pv))) := HR2.out.cell 4 rfl
  go_wp2_with fail
  rw [rounds_succ]
  go_wp2_with fail
  go_quiet (fail)
  go_wp2_with fail
  go_quiet (fail)
  go_wp2_with fail
  have hrd : ∀ m, Rb (w2.drewN m) R G q 0 0 (.iface 184 (.pointer (some pv))) (-1) (-1) := fun m => HR2.out
  refine (c2.out _ (hrd _)).mono ?_
  rintro e w3 ⟨rfl, hr3, hk3⟩
  have HR3 := hid hr3
  have HK3 := hid ((HK2.out.drewN _).trans_ (hk3.more (by simp)))
  clear hr3 hk3 h0 h2 h3 h4 HR2 HK2
  have h0 : w3.cell? ⟨R, 0, none⟩ = some (.slice (some ⟨G, 0, none⟩) 4096 4096) := HR3.out.cell 0 rfl
  have h2 : w3.cell? ⟨R, 2, none⟩ = some (.int .i64 0) := HR3.out.cell 2 rfl
  obtain ⟨A', _, hsm⟩ := slice_mid .i64 .i64 (some (⟨G, 0, none⟩ : Addr)) 4096 4096 0 0 (Nat.le_refl _) (by omega) (Nat.le_refl _)
  simp only [Nat.sub_self, Nat.sub_zero, Int.natCast_zero] at hsm
  go_wp2_with fail
  go_quiet (fail)
  go_wp2_with fail
  refine bodyPost_ret (by simp [results, Tryd.results109, go_sem]; rfl) rfl ?_
  exact ⟨_, rfl, HK3.out.drewN _⟩

/-- a bufio.Reader over a bytes.Reader over l, of which i bytes are read -/
def Src (w : World) (B R G q : Nat) (A : Option Addr) (n c i : Nat) (l : List UInt8) : Prop :=
  (∃ lb ls, Rb w R G q i (if i = 0 then 0 else n) .nilIface lb ls) ∧ (∃ row : List Value, row.length = 4096 ∧ (0 < i → row.take n = byteCells l) ∧ Blk w G 5 row.toArray) ∧ Rd w q A n c (if i = 0 then 0 else n) ∧ Bytes w B A n l
structure Far (B R G q n c : Nat) : Prop where
  ap : Apart3 R G q
  Bq : B ≤ q
  BG : B ≤ G
  BR : B ≤ R
  n0 : 0 < n
  n1 : n ≤ 4096
  nc : n ≤ c
theorem Src.kept {w w' : World} {B R G q n c i : Nat} {A : Option Addr} {l : List UInt8} {K : List Nat} (h : Src w B R G q A n c i l) (hf : Far B R G q n c) (hk : Kept K w w') (hK : ∀ x ∈ K, B ≤ x ∧ x ≠ R ∧ x ≠ G ∧ x ≠ q) : Src w' B R G q A n c i l := by
  obtain ⟨⟨lb, ls, h1⟩, ⟨row, e1, e2, h2⟩, h3, h4⟩ := h
  have n1 : R ∉ K := fun h => (hK _ h).2.1 rfl
  have n2 : G ∉ K := fun h => (hK _ h).2.2.1 rfl
  have n3 : q ∉ K := fun h => (hK _ h).2.2.2 rfl
  exact ⟨⟨lb, ls, h1.kept hk n1⟩, ⟨row, e1, e2, h2.kept hk n2⟩, h3.kept hk n3, h4.below (hk.below (Nat.le_trans hf.BR (Nat.le_of_lt h1.lt)) (fun x hx => (hK x hx).1))⟩
/-- m bytes are read of the source -/
def SrcRead (w : World) (B R G q D : Nat) (A : Option Addr) (n c i m : Nat) (l : List UInt8) (t : TypeId) (cur' : List Value) (e : Ending) (w' : World) : Prop :=
  e = .returned (.tuple #[.int .i64 m, .nilIface]) ∧ Src w' B R G q A n c (i + m) l ∧ Blk w' D t cur'.toArray ∧ Kept [R, G, q, D] w w'
structure Dst (B R G q D : Nat) : Prop where
  B : B ≤ D
  R : R ≠ D
  G : G ≠ D
  q : q ≠ D
theorem bread_calls (B R G q D : Nat) (A : Option Addr) (n c i m off dc : Nat) (l : List UInt8) (t : TypeId) (cur : List Value) (w : World) (hf : Far B R G q n c) (hS : Src w B R G q A n c i l) (hd : Dst B R G q D) (hD : Blk w D t cur.toArray) (hm : 0 < m) (him : i + m ≤ n) (hm4 : m < 4096) (hfit : off + m ≤ cur.length) :
    Calls Tryd.prog 163 #[.pointer (some ⟨R, 0, none⟩), .slice (some ⟨D, off, none⟩) m dc] w (SrcRead w B R G q D A n c i m l t (splice cur off (byteCells ((l.drop i).take m)))) := by
  obtain ⟨⟨lb, ls, hR⟩, ⟨row, hrl, hrow, hG⟩, hq, hl⟩ := hS
  have ha : Apart R G q D := ⟨hf.ap.RG, hf.ap.Rq, hd.R, hf.ap.Gq, hd.G, hd.q⟩
  have hln := hl.len
  rcases Nat.eq_zero_or_pos i with hi | hi
  · subst hi
    simp only [if_true] at hR hq
    refine (read_first B R G q D n c m off dc A lb ls t cur row l w hR ha hG hD hq hl hf.Bq hf.BG hf.BR hf.n0 hf.n1 hf.nc hm (by omega) hm4 hrl hfit).mono ?_
    rintro e w' ⟨rfl, ⟨lb', h1⟩, h2, h3, h4, h5⟩
    have hlt : B ≤ w.heap.size := Nat.le_trans hf.BR (Nat.le_of_lt hR.lt)
    refine ⟨rfl, ⟨⟨lb', -1, ?_⟩, ⟨_, ?_, fun _ => ?_, h2⟩, ?_, ?_⟩, ?_, h5⟩
    · rw [if_neg (by omega), Nat.zero_add]; exact h1
    · simp [splice, byteCells, hln, hrl]; have := hf.n1; omega
    · simp [splice, byteCells, ← hln]
    · rw [if_neg (by omega)]; exact h3
    · refine hl.below (h5.below hlt ?_)
      intro x hx
      simp only [List.mem_cons, List.not_mem_nil, or_false] at hx
      rcases hx with rfl | rfl | rfl | rfl
      · exact hf.BR
      · exact hf.BG
      · exact hf.Bq
      · exact hd.B
    · rw [List.drop_zero]; exact h4
  · rw [if_neg (by omega)] at hR hq
    have hrt := hrow hi
    refine (read_next R G q D i n m off dc lb ls t cur row ((l.drop i).take m) w hR ha hG hD hm him hf.n1 hrl ?_ (by simp; omega) hfit).mono ?_
    · intro j hj
      have h1 : row[i + j]? = (row.take n)[i + j]? := by rw [List.getElem?_take, if_pos (by omega)]
      rw [h1, hrt]
      simp only [byteCells, List.map_take, List.map_drop]
      rw [List.getElem?_take, if_pos hj, List.getElem?_drop]
    · rintro e w' ⟨rfl, ⟨lb', h1⟩, h3, h5⟩
      have hlt : B ≤ w.heap.size := Nat.le_trans hf.BR (Nat.le_of_lt hR.lt)
      refine ⟨rfl, ⟨⟨lb', -1, ?_⟩, ⟨row, hrl, fun _ => hrt, hG.kept h5 (by simp [ha.RG.symm, ha.GD])⟩, ?_, ?_⟩, h3, h5.more (by simp)⟩
      · rw [if_neg (by omega)]; exact h1
      · rw [if_neg (by omega)]; exact hq.kept h5 (by simp [ha.Rq.symm, ha.qD])
      · refine hl.below (h5.below hlt ?_)
        intro x hx
        simp only [List.mem_cons, List.not_mem_nil, or_false] at hx
        rcases hx with rfl | rfl
        · exact hf.BR
        · exact hd.B
set_option maxRecDepth 100000 in
set_option maxHeartbeats 2000000 in
theorem batLeast (B R G q D : Nat) (A : Option Addr) (n c i m off dc : Nat) (l : List UInt8) (t : TypeId) (cur : List Value) (w : World) (hf : Far B R G q n c) (hS : Src w B R G q A n c i l) (hd : Dst B R G q D) (hD : Blk w D t cur.toArray) (hm : 0 < m) (him : i + m ≤ n) (hm4 : m < 4096) (hmc : m ≤ dc) (hfit : off + m ≤ cur.length) :
    Calls Tryd.prog 96 #[.iface 113 (.pointer (some ⟨R, 0, none⟩)), .slice (some ⟨D, off, none⟩) m dc, .int .i64 m] w (SrcRead w B R G q D A n c i m l t (splice cur off (byteCells ((l.drop i).take m)))) := by
  have hna : ∀ w : World, Sem.run Tryd.prog (nilAhead 328 113 (.pointer (some ⟨R, 0, none⟩)) "Read") w = .ok (some false) w := fun _ => by kernel_rfl
  have hme : ∀ w : World, Sem.run Tryd.prog (method 328 113 (.pointer (some ⟨R, 0, none⟩)) "Read") w = .ok (163, .pointer (some ⟨R, 0, none⟩)) w := fun _ => by kernel_rfl
  have hs0 := slice_zero .i64 (some (⟨D, off, none⟩ : Addr)) m dc
  have c1 := hid (fun (w' : World) (h : Kept [] w w') => bread_calls B R G q D A n c i m off dc l t cur w' hf (hS.kept hf h (by simp)) hd (hD.kept h (by simp)) hm him hm4 hfit)
  have hm0 : (0 : Int) < (m : Int) := by omega
  have hm1 : (m : Int) ≤ 140737488355328 := by omega
  have hmc' : (m : Int) ≤ (dc : Int) := by omega
  clear hS hd hD hfit him hm hmc hf hm4
  go_enter Tryd.func96, Tryd.ntmps96
  go_wp2_with fail
  refine wp_loop_rounds 2 ?_
  rw [rounds_succ]
  go_wp2_with fail
  go_region_held3 (fun _ => True) (trivial)
    ((go_at_call 163; refine (c1.out _ ((Kept.refl _ _).drew)).mono ?_; rintro e x1 ⟨rfl, h1, h2, h3⟩; have H1 := hid h1; have H2 := hid h2; have H3 := hid h3; clear h1 h2 h3))
  all_goals
    go_wp2_with fail
    rw [rounds_succ]
    go_wp2_with fail
    go_ret2
    exact ⟨rfl, H1.out, H2.out, (Kept.refl [R, G, q, D] _).drew.trans_ H3.out⟩
set_option maxRecDepth 100000 in
theorem bfull (B R G q D : Nat) (A : Option Addr) (n c i m off dc : Nat) (l : List UInt8) (t : TypeId) (cur : List Value) (w : World) (hf : Far B R G q n c) (hS : Src w B R G q A n c i l) (hd : Dst B R G q D) (hD : Blk w D t cur.toArray) (hm : 0 < m) (him : i + m ≤ n) (hm4 : m < 4096) (hmc : m ≤ dc) (hfit : off + m ≤ cur.length) :
    Calls Tryd.prog 73 #[.iface 113 (.pointer (some ⟨R, 0, none⟩)), .slice (some ⟨D, off, none⟩) m dc] w (SrcRead w B R G q D A n c i m l t (splice cur off (byteCells ((l.drop i).take m)))) := by
  have c1 := hid (batLeast B R G q D A n c i m off dc l t cur w hf hS hd hD hm him hm4 hmc hfit)
  clear hf hS hd hD hm him hm4 hmc hfit
  go_enter Tryd.func73, Tryd.ntmps73
  go_wp2_with fail
  refine c1.out.mono ?_
  rintro e x1 ⟨rfl, h1, h2, h3⟩
  have H := hid (And.intro h1 (And.intro h2 h3))
  clear h1 h2 h3
  go_wp2_with fail
  go_ret2
  exact ⟨rfl, H.out.1, H.out.2.1, H.out.2.2⟩
end Go.Proofs.YtkjfndkcagkhaaaDoor.ack
