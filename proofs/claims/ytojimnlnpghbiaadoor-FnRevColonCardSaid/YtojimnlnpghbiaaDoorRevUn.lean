/- bufio.Reader.ReadRune at the end; UnreadRune. -/
import Derived.Test.YtojimnlnpghbiaaDoorRevRune
set_option linter.unusedVariables false
attribute [local go_sem ↓] Go.wp_at_zero Go.wp_at_succ
namespace Go.Proofs.YtojimnlnpghbiaaDoor.rev
open Go.RowKit Lib frm mem rd

/-- the end is met -/
def RuneEnd (w : World) (R G q b : Nat) (N : Int) (v : Value) (A : Option Addr) (c : Nat) (lb : Int) (e : Ending) (w' : World) : Prop :=
  e = .returned (.tuple #[.int .i32 0, .int .i64 0, v]) ∧ Rb w' R G q 0 0 .nilIface lb (-1) ∧ Lm w' q b N ∧ Bf w' b A 0 c 0 ∧ Row w' G 0 [] ∧ Kept [R, q, b, G] w w'
set_option maxRecDepth 100000 in
set_option maxHeartbeats 4000000 in
theorem rune_end (R G q b k : Nat) (N : Int) (A : Option Addr) (c : Nat) (lb ls : Int) (pv : Addr) (w : World) (hR : Rb w R G q k k .nilIface lb ls) (ha : Apart R G q b) (hk : k ≤ 4096)
    (hF : ∀ w', Kept [] w w' → Calls Tryd.prog 102 #[.pointer (some ⟨R, 0, none⟩)] w' (FillEnd w' R G q b N (.iface 202 (.pointer (some pv))) A c lb ls)) :
    Calls Tryd.prog 86 #[.pointer (some ⟨R, 0, none⟩)] w (RuneEnd w R G q b N (.iface 202 (.pointer (some pv))) A c lb) := by
  have h0 : w.cell? ⟨R, 0, none⟩ = some (.slice (some ⟨G, 0, none⟩) 4096 4096) := hR.cell 0 rfl
  have h2 : w.cell? ⟨R, 2, none⟩ = some (.int .i64 (k : Int)) := hR.cell 2 rfl
  have h3 : w.cell? ⟨R, 3, none⟩ = some (.int .i64 (k : Int)) := hR.cell 3 rfl
  have h4 : w.cell? ⟨R, 4, none⟩ = some .nilIface := hR.cell 4 rfl
  obtain ⟨A', _, hsm⟩ := slice_mid .i64 .i64 (some (⟨G, 0, none⟩ : Addr)) 4096 4096 k k (Nat.le_refl _) hk (Nat.le_refl _)
  obtain ⟨A2, _, hsm2⟩ := slice_mid .i64 .i64 (some (⟨G, 0, none⟩ : Addr)) 4096 4096 0 0 (Nat.le_refl _) (by omega) (Nat.le_refl _)
  simp only [Nat.sub_self, Int.natCast_zero] at hsm hsm2
  have gk : (k : Int) ≤ 4096 := by omega
  have g1 : (k : Int) < (k : Int) + 4 := by omega
  have HF := hid hF
  have HA := hid ha
  clear hF ha hk hR
  go_enter Tryd.func86, Tryd.ntmps86
  go_wp2_with fail
  refine wp_loop_rounds 2 ?_
  rw [rounds_succ]
  go_wp2_with fail
  go_quiet (first | (go_at_call 101; exact Calls.quiet_of_same (full_empty _ _ _)))
  go_wp2_with fail
  refine (HF.out _ ((Kept.refl [] w).drewN nq)).mono ?_
  rintro e w1 ⟨rfl, hr1, hq1, hb1, hg1, hk1⟩
  have h0 : w1.cell? ⟨R, 0, none⟩ = some (.slice (some ⟨G, 0, none⟩) 4096 4096) := hr1.cell 0 rfl
  have h2 : w1.cell? ⟨R, 2, none⟩ = some (.int .i64 (0 : Int)) := hr1.cell 2 rfl
  have h3 : w1.cell? ⟨R, 3, none⟩ = some (.int .i64 (0 : Int)) := hr1.cell 3 rfl
  have h4 : w1.cell? ⟨R, 4, none⟩ = some (.iface 202 (.pointer (some pv))) := hr1.cell 4 rfl
  have h6 : w1.cell? ⟨R, 6, none⟩ = some (.int .i64 ls) := hr1.cell 6 rfl
  have f6 : w1.frozen? ⟨R, 6, none⟩ = false := hr1.frozen 6
  have HR1 := hid hr1
  have HQ := hid (And.intro hq1 (And.intro hb1 hg1))
  have HK := hid (show Kept [R, q, b, G] w w1 from (((Kept.refl [] w).drewN nq).more (by simp)).trans_ hk1)
  clear hr1 hq1 hb1 hg1 hk1 HF
  go_wp2_with fail
  rw [rounds_succ]
  go_wp2_with fail
  go_quiet (first | (go_at_call 101; exact Calls.quiet_of_same (full_empty _ _ _)))
  go_wp2_with fail
  have hra : Rb ((w1.drewN nq).setCell ⟨R, 6, none⟩ (.int .i64 (-1))) R G q 0 0 (.iface 202 (.pointer (some pv))) lb (-1) := by
    have := Blk.set_ (show Blk (w1.drewN nq) R _ _ from HR1.out) 6 (.int .i64 (-1))
    unfold Rb
    simpa [rdC] using this
  have hka : Kept [R] w1 ((w1.drewN nq).setCell ⟨R, 6, none⟩ (.int .i64 (-1))) := ((Kept.refl [R] w1).drewN nq).setCell (p := ⟨R, 6, none⟩) (.inl (by simp)) _
  generalize (w1.drewN nq).setCell ⟨R, 6, none⟩ (.int .i64 (-1)) = wa at *
  have h2 : wa.cell? ⟨R, 2, none⟩ = some (.int .i64 (0 : Int)) := hra.cell 2 rfl
  have h3 : wa.cell? ⟨R, 3, none⟩ = some (.int .i64 (0 : Int)) := hra.cell 3 rfl
  have HRA := hid hra
  have HKA := hid hka
  clear hra hka h4 h6 f6 HR1
  go_quiet (fail)
  go_wp2_with fail
  have hrb : Rb (wa.drewN nq) R G q 0 0 (.iface 202 (.pointer (some pv))) lb (-1) := HRA.out
  have hkb : Kept [R] w1 (wa.drewN nq) := HKA.out.drewN nq
  generalize wa.drewN nq = wb at *
  have c5 := hid (readErr_calls R G q 0 0 (.iface 202 (.pointer (some pv))) lb (-1) wb hrb)
  have HKB := hid hkb
  clear hrb hkb HKA HRA
  refine c5.out.mono ?_
  rintro e w5 ⟨rfl, hr5, hk5⟩
  have hk := HKB.out.trans_ hk5
  have HR5 := hid hr5
  have HK5 := hid hk
  clear hr5 hk5 hk c5 HKB
  go_wp2_with fail
  refine bodyPost_ret (by simp [results, Tryd.results86, go_sem]; rfl) rfl ?_
  have hA := HA.out
  refine ⟨rfl, HR5.out, HQ.out.1.kept HK5.out (by simp [hA.Rq.symm]), HQ.out.2.1.kept HK5.out (by simp [hA.Rb.symm]), ?_, HK.out.trans_ (HK5.out.more (by simp))⟩
  obtain ⟨cs, hc, hb⟩ := HQ.out.2.2
  exact ⟨cs, hc, hb.kept HK5.out (by simp [hA.RG.symm]), by simp [byteCells]⟩
/-- a letter given back -/
def Unread (w : World) (R G q r wv : Nat) (e : Ending) (w' : World) : Prop := e = .returned .nilIface ∧ Rb w' R G q r wv .nilIface (-1) (-1) ∧ Kept [R] w w'
set_option maxRecDepth 100000 in
set_option maxHeartbeats 2000000 in
theorem unread_calls (R G q r wv : Nat) (lb : Int) (w : World) (hR : Rb w R G q (r + 1) wv .nilIface lb 1) (hr : r < 4096) :
    Calls Tryd.prog 105 #[.pointer (some ⟨R, 0, none⟩)] w (Unread w R G q r wv) := by
  have h2 : w.cell? ⟨R, 2, none⟩ = some (.int .i64 ((r : Int) + 1)) := by have := hR.cell 2 (v := .int .i64 ((r + 1 : Nat) : Int)) rfl; simpa using this
  have h6 : w.cell? ⟨R, 6, none⟩ = some (.int .i64 (1 : Int)) := hR.cell 6 rfl
  have g1 : decide ((r : Int) + 1 < 1) = false := decide_eq_false (by omega)
  have g2 : (0 : Int) ≤ r := by omega
  have g3 : (r : Int) < 4096 := by omega
  have HR := hid hR
  clear hR hr
  go_enter Tryd.func105, Tryd.ntmps105
  go_wp2_with fail
  go_quiet (fail)
  go_wp2_with fail
  have hra : Rb (w.drewN nq) R G q (r + 1) wv .nilIface lb 1 := HR.out
  have hka : Kept [R] w (w.drewN nq) := (Kept.refl [R] w).drewN nq
  generalize w.drewN nq = wa at *
  have h2 : wa.cell? ⟨R, 2, none⟩ = some (.int .i64 ((r : Int) + 1)) := by have := hra.cell 2 (v := .int .i64 ((r + 1 : Nat) : Int)) rfl; simpa using this
  have h6 : wa.cell? ⟨R, 6, none⟩ = some (.int .i64 (1 : Int)) := hra.cell 6 rfl
  have h5 : wa.cell? ⟨R, 5, none⟩ = some (.int .i64 lb) := hra.cell 5 rfl
  have f2 : wa.frozen? ⟨R, 2, none⟩ = false := hra.frozen 2
  have f5 : wa.frozen? ⟨R, 5, none⟩ = false := hra.frozen 5
  have f6 : wa.frozen? ⟨R, 6, none⟩ = false := hra.frozen 6
  have HRA := hid hra
  have HKA := hid hka
  clear hra hka HR
  go_region
  all_goals
    go_wp2_with fail
    go_ret
    refine ⟨rfl, ?_, (((HKA.out.setCell (p := ⟨R, 2, none⟩) (.inl (by simp)) _).setCell (p := ⟨R, 5, none⟩) (.inl (by simp)) _).setCell (p := ⟨R, 6, none⟩) (.inl (by simp)) _).drew⟩
    have := ((HRA.out.set_ 2 (.int .i64 (r : Int))).set_ 5 (.int .i64 (-1))).set_ 6 (.int .i64 (-1))
    unfold Rb
    refine Blk.drew ?_
    simpa [rdC] using this
end Go.Proofs.YtojimnlnpghbiaaDoor.rev
