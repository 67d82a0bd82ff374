/- bufio.Reader: its parts. -/
import Derived.Test.YtojimnlnpghbiaaDoorRevBuf
import Derived.BigRegion
set_option linter.unusedVariables false
attribute [local go_sem ↓] Go.wp_at_zero Go.wp_at_succ
namespace Go.Proofs.YtojimnlnpghbiaaDoor.rev
open Go.RowKit Lib frm mem rd

/-- utf8.first at the letters of ASCII -/
def First (w : World) : Prop := ∀ k : Nat, k < 128 → w.cell? ⟨7, k, none⟩ = some (.int .u8 240)
set_option maxRecDepth 100000 in
theorem decode_calls (B : Nat) (A : Option Addr) (n c : Nat) (x : UInt8) (t : List UInt8) (w : World) (h : Bytes w B A n (x :: t)) (hx : x.toNat < 128) :
    Calls Tryd.prog 104 #[.slice A n c] w fun e w' => e = .returned (.tuple #[.int .i32 x.toNat, .int .i64 1]) ∧ w' = w := by
  have hl := h.len
  have hn : 0 < n := by simp at hl; omega
  obtain ⟨g, o, rfl⟩ := h.2 hn
  obtain ⟨ad, e, _, hc⟩ := h.1.2 hn
  injection e with e
  subst e
  have h0 : w.cell? ⟨g, o, none⟩ = some (.int .u8 x.toNat) := by simpa [Lib.addr_add] using hc 0 (.int .u8 x.toNat) (by simp [Lib.byteCells])
  have hn' : (0 : Int) < (n : Int) := by omega
  have hx' : (x.toNat : Int) < 128 := by omega
  have hx0 : (0 : Int) ≤ (x.toNat : Int) := by omega
  have e32 : IntKind.i32.wrap (x.toNat : Int) = x.toNat := by rw [IntKind.wrap_i32]; omega
  generalize x.toNat = z at *
  clear h hc hl hx
  go_enter Tryd.func104, Tryd.ntmps104
  go_wp2_with fail
  refine wp_loop_rounds 1 ?_
  rw [rounds_succ]
  go_wp2_with fail
  go_ret2
  exact ⟨rfl, rfl⟩
set_option maxRecDepth 100000 in
theorem full_empty (A : Option Addr) (c : Nat) (w : World) :
    Calls Tryd.prog 101 #[.slice A 0 c] w fun e w' => e = .returned (.bool false) ∧ w' = w := by
  go_enter Tryd.func101, Tryd.ntmps101
  go_wp2_with fail
  go_ret
  exact ⟨rfl, rfl⟩
set_option maxRecDepth 100000 in
theorem full_ascii (B : Nat) (A : Option Addr) (n c : Nat) (x : UInt8) (t : List UInt8) (w : World) (h : Bytes w B A n (x :: t)) (hx : x.toNat < 128) (hT : First w) :
    Calls Tryd.prog 101 #[.slice A n c] w fun e w' => e = .returned (.bool true) ∧ w' = w := by
  have hl := h.len
  have hn : 0 < n := by simp at hl; omega
  obtain ⟨g, o, rfl⟩ := h.2 hn
  obtain ⟨ad, e, _, hc⟩ := h.1.2 hn
  injection e with e
  subst e
  have h0 : w.cell? ⟨g, o, none⟩ = some (.int .u8 x.toNat) := by simpa [Lib.addr_add] using hc 0 (.int .u8 x.toNat) (by simp [Lib.byteCells])
  have hn' : ¬ (n : Int) = 0 := by omega
  have hn2 : (0 : Int) < (n : Int) := by omega
  have hx' : (x.toNat : Int) < 256 := by omega
  have hx0 : (0 : Int) ≤ (x.toNat : Int) := by omega
  have ht := hT _ hx
  generalize x.toNat = z at *
  clear h hc hl hx hT hn
  go_enter Tryd.func101, Tryd.ntmps101
  go_wp2_with fail
  go_ret
  exact ⟨rfl, rfl⟩
/-- what a bufio.Reader is -/
def rdC (G q : Nat) (r wv : Nat) (err : Value) (lb ls : Int) : Array Value := #[.slice (some ⟨G, 0, none⟩) 4096 4096, .iface 188 (.pointer (some ⟨q, 0, none⟩)), .int .i64 r, .int .i64 wv, err, .int .i64 lb, .int .i64 ls]
def Rb (w : World) (R G q : Nat) (r wv : Nat) (err : Value) (lb ls : Int) : Prop := Blk w R 192 (rdC G q r wv err lb ls)
def ErrOut (w : World) (R G q r wv : Nat) (err : Value) (lb ls : Int) (e : Ending) (w' : World) : Prop := e = .returned err ∧ Rb w' R G q r wv .nilIface lb ls ∧ Kept [R] w w'
set_option maxRecDepth 100000 in
theorem readErr_calls (R G q r wv : Nat) (err : Value) (lb ls : Int) (w : World) (h : Rb w R G q r wv err lb ls) :
    Calls Tryd.prog 103 #[.pointer (some ⟨R, 0, none⟩)] w (ErrOut w R G q r wv err lb ls) := by
  have h4 : w.cell? ⟨R, 4, none⟩ = some err := h.cell 4 rfl
  have f4 : w.frozen? ⟨R, 4, none⟩ = false := h.frozen 4
  have HB := hid h
  clear h
  go_enter Tryd.func103, Tryd.ntmps103
  go_wp2_with fail
  go_ret
  refine ⟨rfl, ?_, (Kept.refl [R] w).setCell (p := ⟨R, 4, none⟩) (.inl (by simp)) _⟩
  have := HB.out.set_ 4 .nilIface
  unfold Rb
  simpa [rdC] using this
/-- filled with all that is there -/
def FillAll (w : World) (R G q b : Nat) (N : Int) (A : Option Addr) (n c : Nat) (lb ls : Int) (cur' : List Value) (e : Ending) (w' : World) : Prop :=
  e = .returned (.tuple #[]) ∧ Rb w' R G q 0 n .nilIface lb ls ∧ Lm w' q b (N - n) ∧ Bf w' b A n c n ∧ Blk w' G 5 cur'.toArray ∧ Kept [R, q, b, G] w w'
/-- blocks apart -/
structure Apart (R G q b : Nat) : Prop where
  RG : R ≠ G
  Rq : R ≠ q
  Rb : R ≠ b
  Gq : G ≠ q
  Gb : G ≠ b
  qb : q ≠ b
set_option maxRecDepth 100000 in
set_option maxHeartbeats 4000000 in
theorem fill_all (B R G q b : Nat) (N : Int) (A : Option Addr) (n c : Nat) (lb ls : Int) (l : List UInt8) (cur : List Value) (w : World) (hR : Rb w R G q 0 0 .nilIface lb ls) (hq : Lm w q b N) (hN : (4096 : Int) ≤ N) (hN2 : N ≤ 140737488355328) (h : Bf w b A n c 0) (hn : 0 < n) (hnm : n ≤ 4096) (hnc : n ≤ c)
    (hl : Bytes w B A n l) (hBb : B ≤ b) (ha : Apart R G q b) (hG : Blk w G 5 cur.toArray) (hfit : cur.length = 4096) :
    Calls Tryd.prog 102 #[.pointer (some ⟨R, 0, none⟩)] w (FillAll w R G q b N A n c lb ls (splice cur 0 (byteCells l))) := by
  have hna : ∀ w : World, Sem.run Tryd.prog (nilAhead 346 188 (.pointer (some ⟨q, 0, none⟩)) "Read") w = .ok (some false) w := fun _ => by kernel_rfl
  have hme : ∀ w : World, Sem.run Tryd.prog (method 346 188 (.pointer (some ⟨q, 0, none⟩)) "Read") w = .ok (158, .pointer (some ⟨q, 0, none⟩)) w := fun _ => by kernel_rfl
  have h0 : w.cell? ⟨R, 0, none⟩ = some (.slice (some ⟨G, 0, none⟩) 4096 4096) := hR.cell 0 rfl
  have h1 : w.cell? ⟨R, 1, none⟩ = some (.iface 188 (.pointer (some ⟨q, 0, none⟩))) := hR.cell 1 rfl
  have h2 : w.cell? ⟨R, 2, none⟩ = some (.int .i64 (0 : Int)) := hR.cell 2 rfl
  have h3 : w.cell? ⟨R, 3, none⟩ = some (.int .i64 (0 : Int)) := hR.cell 3 rfl
  have hs0 := slice_zero .i64 (some (⟨G, 0, none⟩ : Addr)) 4096 4096
  have c1 := hid (fun (w' : World) (k : Kept [] w w') => limRead_all B q b G N A n c 4096 4096 l 5 cur w' (hq.kept k (by simp)) hN hN2 (h.kept k (by simp)) hn hnm (by omega) hnc (hl.below (k.below (Nat.le_trans hBb (Nat.le_of_lt h.lt)) (by simp))) hBb ha.Gb.symm ha.qb ha.Gq.symm (hG.kept k (by simp)) (by omega))
  have HR := hid hR
  have HA := hid ha
  have gn0 : ¬ (n : Int) < 0 := by omega
  have gn1 : (0 : Int) < (n : Int) := by omega
  have gn2 : (n : Int) ≤ 4096 := by omega
  clear hR hq hN hN2 h hn hnm hnc hl hBb ha hG hfit
  go_enter Tryd.func102, Tryd.ntmps102
  go_wp2_with fail
  go_quiet (fail)
  go_wp2_with fail
  refine wp_loop_rounds 2 ?_
  rw [rounds_succ]
  go_wp2_with fail
  have HX := hid (And.intro (show (w.drewN nq).drew.cell? ⟨R, 0, none⟩ = some (.slice (some ⟨G, 0, none⟩) 4096 4096) from h0) (And.intro (show (w.drewN nq).drew.cell? ⟨R, 1, none⟩ = some (.iface 188 (.pointer (some ⟨q, 0, none⟩))) from h1) (show (w.drewN nq).drew.cell? ⟨R, 3, none⟩ = some (.int .i64 (0 : Int)) from h3)))
  go_region_held3 (fun w' => w'.cell? ⟨R, 0, none⟩ = some (.slice (some ⟨G, 0, none⟩) 4096 4096) ∧ w'.cell? ⟨R, 1, none⟩ = some (.iface 188 (.pointer (some ⟨q, 0, none⟩))) ∧ w'.cell? ⟨R, 3, none⟩ = some (.int .i64 (0 : Int)))
    (exact HX.out)
    ((go_at_call 158; refine (c1.out _ ((Kept.refl _ _).drewN nq).drew).mono ?_; rintro e w1 ⟨rfl, hq1, hb1, hg1, hk1⟩; have HK1 := hid hk1; have HR1 := hid (show Rb w1 R G q 0 0 .nilIface lb ls from Blk.kept (show Blk (w.drewN nq).drew R _ _ from HR.out) hk1 (by have := HA.out; simp [this.Rq, this.Rb, this.RG])); have HF := hid (And.intro hq1 (And.intro hb1 hg1)); have HX := hid (And.intro (show w1.cell? ⟨R, 0, none⟩ = some (.slice (some ⟨G, 0, none⟩) 4096 4096) from HR1.out.cell 0 rfl) (And.intro (show w1.cell? ⟨R, 1, none⟩ = some (.iface 188 (.pointer (some ⟨q, 0, none⟩))) from HR1.out.cell 1 rfl) (show w1.cell? ⟨R, 3, none⟩ = some (.int .i64 (0 : Int)) from HR1.out.cell 3 rfl))); have hx3 := HX.out.2.2; have fx3 : w1.frozen? ⟨R, 3, none⟩ = false := HR1.out.frozen 3; clear hq1 hb1 hg1 hk1))
  all_goals
    go_wp2_with fail
    try go_end0
    have hA := HA.out
    refine ⟨rfl, ?_, ?_, ?_, ?_, ?_⟩
    · have := HR1.out.set_ 3 (.int .i64 n)
      unfold Rb
      simpa [rdC] using this
    · exact HF.out.1.far (p := ⟨R, 3, none⟩) hA.Rq.symm _
    · obtain ⟨lr, hb⟩ := HF.out.2.1
      exact ⟨lr, hb.far (p := ⟨R, 3, none⟩) hA.Rb.symm _⟩
    · exact HF.out.2.2.far (p := ⟨R, 3, none⟩) hA.RG.symm _
    · exact ((((Kept.refl [] w).drewN nq).drew.more (by simp)).trans_ (HK1.out.more (by simp))).setCell (p := ⟨R, 3, none⟩) (.inl (by simp)) _
/-- the end is met -/
def FillEnd (w : World) (R G q b : Nat) (N : Int) (v : Value) (A : Option Addr) (c : Nat) (lb ls : Int) (e : Ending) (w' : World) : Prop :=
  e = .returned (.tuple #[]) ∧ Rb w' R G q 0 0 v lb ls ∧ Lm w' q b N ∧ Bf w' b A 0 c 0 ∧ (∃ cs : List Value, cs.length = 4096 ∧ Blk w' G 5 cs.toArray) ∧ Kept [R, q, b, G] w w'
set_option maxRecDepth 100000 in
set_option maxHeartbeats 4000000 in
theorem fill_end0 (R G q b : Nat) (N : Int) (A : Option Addr) (n c : Nat) (lb ls : Int) (v : Value) (cur : List Value) (w : World) (hR : Rb w R G q 0 0 .nilIface lb ls) (hq : Lm w q b N) (hN : (4096 : Int) ≤ N) (hN2 : N ≤ 140737488355328) (h : Bf w b A n c n)
    (hE : Eof w v) (hg : 0 < w.heap.size) (hgR : 0 ≠ R) (hgb : 0 ≠ b) (ha : Apart R G q b) (hG : Blk w G 5 cur.toArray) (hfit : cur.length = 4096) :
    Calls Tryd.prog 102 #[.pointer (some ⟨R, 0, none⟩)] w (FillEnd w R G q b N v A c lb ls) := by
  obtain ⟨hE1, pv, rfl⟩ := hE
  have hna : ∀ w : World, Sem.run Tryd.prog (nilAhead 346 188 (.pointer (some ⟨q, 0, none⟩)) "Read") w = .ok (some false) w := fun _ => by kernel_rfl
  have hme : ∀ w : World, Sem.run Tryd.prog (method 346 188 (.pointer (some ⟨q, 0, none⟩)) "Read") w = .ok (158, .pointer (some ⟨q, 0, none⟩)) w := fun _ => by kernel_rfl
  have h0 : w.cell? ⟨R, 0, none⟩ = some (.slice (some ⟨G, 0, none⟩) 4096 4096) := hR.cell 0 rfl
  have h1 : w.cell? ⟨R, 1, none⟩ = some (.iface 188 (.pointer (some ⟨q, 0, none⟩))) := hR.cell 1 rfl
  have h2 : w.cell? ⟨R, 2, none⟩ = some (.int .i64 (0 : Int)) := hR.cell 2 rfl
  have h3 : w.cell? ⟨R, 3, none⟩ = some (.int .i64 (0 : Int)) := hR.cell 3 rfl
  have hs0 := slice_zero .i64 (some (⟨G, 0, none⟩ : Addr)) 4096 4096
  have c1 := hid (fun (w' : World) (k : Kept [] w w') => limRead_end q b N A (some ⟨G, 0, none⟩) n c 4096 4096 (.iface 202 (.pointer (some pv))) w' (hq.kept k (by simp)) hN hN2 (h.kept k (by simp)) (by omega) ⟨(k.cell (p := ⟨0, 0, none⟩) hg (by simp)).trans hE1, pv, rfl⟩ (Nat.lt_of_lt_of_le hg k.size) hgb ha.qb)
  have HR := hid hR
  have HA := hid ha
  have HG := hid hG
  have HC := hid hfit
  clear hR hq hN hN2 h hE1 hg hgR hgb ha hG hfit
  go_enter Tryd.func102, Tryd.ntmps102
  go_wp2_with fail
  go_quiet (fail)
  go_wp2_with fail
  refine wp_loop_rounds 2 ?_
  rw [rounds_succ]
  go_wp2_with fail
  have HX := hid (And.intro (show (w.drewN nq).drew.cell? ⟨R, 0, none⟩ = some (.slice (some ⟨G, 0, none⟩) 4096 4096) from h0) (And.intro (show (w.drewN nq).drew.cell? ⟨R, 1, none⟩ = some (.iface 188 (.pointer (some ⟨q, 0, none⟩))) from h1) (show (w.drewN nq).drew.cell? ⟨R, 3, none⟩ = some (.int .i64 (0 : Int)) from h3)))
  go_region_held3 (fun w' => w'.cell? ⟨R, 0, none⟩ = some (.slice (some ⟨G, 0, none⟩) 4096 4096) ∧ w'.cell? ⟨R, 1, none⟩ = some (.iface 188 (.pointer (some ⟨q, 0, none⟩))) ∧ w'.cell? ⟨R, 3, none⟩ = some (.int .i64 (0 : Int)))
    (exact HX.out)
    ((go_at_call 158; refine (c1.out _ ((Kept.refl _ _).drewN nq).drew).mono ?_; rintro e w1 ⟨rfl, hq1, hb1, hk1⟩; have HK1 := hid hk1; have HR1 := hid (show Rb w1 R G q 0 0 .nilIface lb ls from Blk.kept (show Blk (w.drewN nq).drew R _ _ from HR.out) hk1 (by have := HA.out; simp [this.Rq, this.Rb])); have HG1 := hid (Blk.kept (show Blk (w.drewN nq).drew G _ _ from HG.out) hk1 (by have := HA.out; simp [this.Gq, this.Gb])); have HF := hid (And.intro hq1 hb1); have HX := hid (And.intro (show w1.cell? ⟨R, 0, none⟩ = some (.slice (some ⟨G, 0, none⟩) 4096 4096) from HR1.out.cell 0 rfl) (And.intro (show w1.cell? ⟨R, 1, none⟩ = some (.iface 188 (.pointer (some ⟨q, 0, none⟩))) from HR1.out.cell 1 rfl) (show w1.cell? ⟨R, 3, none⟩ = some (.int .i64 (0 : Int)) from HR1.out.cell 3 rfl))); have hx3 := HX.out.2.2; have hx4 : w1.cell? ⟨R, 4, none⟩ = some .nilIface := HR1.out.cell 4 rfl; have fx3 : w1.frozen? ⟨R, 3, none⟩ = false := HR1.out.frozen 3; have fx4 : w1.frozen? ⟨R, 4, none⟩ = false := HR1.out.frozen 4; clear hq1 hb1 hk1))
  all_goals
    go_wp2_with fail
    try go_end0
    have hA := HA.out
    refine ⟨rfl, ?_, ?_, ?_, ⟨cur, HC.out, ?_⟩, ?_⟩
    · have := (HR1.out.set_ 3 (.int .i64 0)).set_ 4 (.iface 202 (.pointer (some pv)))
      unfold Rb
      simpa [rdC] using this
    · exact (HF.out.1.far (p := ⟨R, 3, none⟩) hA.Rq.symm _).far (p := ⟨R, 4, none⟩) hA.Rq.symm _
    · obtain ⟨lr, hb⟩ := HF.out.2
      exact ⟨lr, (hb.far (p := ⟨R, 3, none⟩) hA.Rb.symm _).far (p := ⟨R, 4, none⟩) hA.Rb.symm _⟩
    · exact (HG1.out.far (p := ⟨R, 3, none⟩) hA.RG.symm _).far (p := ⟨R, 4, none⟩) hA.RG.symm _
    · exact (((((Kept.refl [] w).drewN nq).drew.more (by simp)).trans_ (HK1.out.more (by simp))).setCell (p := ⟨R, 3, none⟩) (.inl (by simp)) _).setCell (p := ⟨R, 4, none⟩) (.inl (by simp)) _
end Go.Proofs.YtojimnlnpghbiaaDoor.rev
