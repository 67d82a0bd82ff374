/- Files of an index: what spec.IsFile and its kin say. Printed by gen_isfile.py. -/
import Derived.Test.YtnidjkmfnojlaaaDoorIdxFile
import Derived.Test.YtnidjkmfnojlaaaDoorFileName
import Derived.Deep.MidRow
set_option linter.unusedVariables false
attribute [local go_sem ↓] Go.wp_at_zero Go.wp_at_succ
namespace Go.Proofs.YtnidjkmfnojlaaaDoor.idx
open Go.RowKit Lib frm mem opn hash strs

def stampB (s n : Int) : Bool := decide (1 ≤ s) && decide (s < 4294967296) && decide (0 ≤ n) && decide (n < 1000000000)
theorem stamp_cases (s n : Int) : (s < 1 ∧ stampB s n = false) ∨ (1 ≤ s ∧ 4294967296 ≤ s ∧ stampB s n = false) ∨ (1 ≤ s ∧ s < 4294967296 ∧ n < 0 ∧ stampB s n = false) ∨ (1 ≤ s ∧ s < 4294967296 ∧ 0 ≤ n ∧ 1000000000 ≤ n ∧ stampB s n = false) ∨
    (1 ≤ s ∧ s < 4294967296 ∧ 0 ≤ n ∧ n < 1000000000 ∧ stampB s n = true) := by
  unfold stampB
  by_cases h1 : 1 ≤ s
  · by_cases h2 : s < 4294967296
    · by_cases h3 : 0 ≤ n
      · by_cases h4 : n < 1000000000
        · exact .inr (.inr (.inr (.inr ⟨h1, h2, h3, h4, by simp [h1, h2, h3, h4]⟩)))
        · exact .inr (.inr (.inr (.inl ⟨h1, h2, h3, by omega, by simp [h4]⟩)))
      · exact .inr (.inr (.inl ⟨h1, h2, by omega, by simp [h3]⟩))
    · exact .inr (.inl ⟨h1, by omega, by simp [h2]⟩)
  · exact .inl ⟨by omega, by simp [h1]⟩
def fileB (f : FileD) : Bool := stampB f.s1 f.n1 && (stampB f.s2 f.n2 && (fnameB f.name && (hex40B f.hash && (decide (0 ≤ f.stage) && decide (f.stage ≤ 3)))))
def plainB (f : FileD) : Bool := fileB f && (!f.skip && !f.intent)
structure Plain (f : FileD) : Prop where
  a1 : 1 ≤ f.s1
  a2 : f.s1 < 4294967296
  a3 : 0 ≤ f.n1
  a4 : f.n1 < 1000000000
  b1 : 1 ≤ f.s2
  b2 : f.s2 < 4294967296
  b3 : 0 ≤ f.n2
  b4 : f.n2 < 1000000000
  nm : fnameB f.name = true
  hs : Hex40 f.hash
  g1 : 0 ≤ f.stage
  g2 : f.stage ≤ 3
  sk : f.skip = false
  it : f.intent = false
theorem plain_of {f : FileD} (h : plainB f = true) : Plain f := by
  unfold plainB fileB stampB at h
  simp only [Bool.and_eq_true, decide_eq_true_eq, Bool.not_eq_true'] at h
  obtain ⟨⟨⟨⟨⟨h1, h2⟩, h3⟩, h4⟩, ⟨⟨⟨h5, h6⟩, h7⟩, h8⟩, h9, h10, h11, h12⟩, h13, h14⟩ := h
  exact ⟨h1, h2, h3, h4, h5, h6, h7, h8, h9, hex40_of h10, h11, h12, h13, h14⟩
def AnsK (w : World) (b : Bool) (e : Ending) (w' : World) : Prop := e = .returned (.bool b) ∧ Kept [] w w'
theorem no_false {w w' : World} {b : Bool} (h : b = false) (hk : Kept [] w w') : AnsK w b (.returned (.bool false)) w' := ⟨by rw [h], hk⟩
attribute [local go_sem] FileD.cells
set_option maxRecDepth 100000 in
set_option maxHeartbeats 4000000 in
theorem isFile_calls (f : FileD) (w : World) (hz1 : f.name.size ≤ 140737488351232) (hz2 : f.hash.size ≤ 140737488351232) :
    Calls Tryd.prog 28 #[.agg f.cells.toArray] w (AnsK w (fileB f)) := by
  rcases stamp_cases f.s1 f.n1 with ⟨a1, hs1⟩ | ⟨a1, a2, hs1⟩ | ⟨a1, a2, a3, hs1⟩ | ⟨a1, a2, a3, a4, hs1⟩ | ⟨a1, a2, a3, a4, hs1⟩
  · have HB := hid (show fileB f = false by unfold fileB; rw [hs1]; rfl)
    have e0 : decide (f.s1 < 1) = true := decide_eq_true (by omega)
    clear hs1
    go_enter Tryd.func28, Tryd.ntmps28
    go_wp2_with fail
    refine wp_loop_rounds 3 ?_
    rw [rounds_succ]
    go_wp2_with fail
    go_ret
    exact no_false HB.out (by repeat (first | exact Kept.refl _ _ | refine Kept.alloc ?_ _ | (refine Kept.setCell ?_ (.inr (by simp)) _)))
  · have HB := hid (show fileB f = false by unfold fileB; rw [hs1]; rfl)
    have e0 : decide (f.s1 < 1) = false := decide_eq_false (by omega)
    have e1 : decide (4294967296 ≤ f.s1) = true := decide_eq_true (by omega)
    clear hs1
    go_enter Tryd.func28, Tryd.ntmps28
    go_wp2_with fail
    refine wp_loop_rounds 3 ?_
    rw [rounds_succ]
    go_wp2_with fail
    go_ret
    exact no_false HB.out (by repeat (first | exact Kept.refl _ _ | refine Kept.alloc ?_ _ | (refine Kept.setCell ?_ (.inr (by simp)) _)))
  · have HB := hid (show fileB f = false by unfold fileB; rw [hs1]; rfl)
    have e0 : decide (f.s1 < 1) = false := decide_eq_false (by omega)
    have e1 : decide (4294967296 ≤ f.s1) = false := decide_eq_false (by omega)
    have e2 : decide (f.n1 < 0) = true := decide_eq_true (by omega)
    clear hs1
    go_enter Tryd.func28, Tryd.ntmps28
    go_wp2_with fail
    refine wp_loop_rounds 3 ?_
    rw [rounds_succ]
    go_wp2_with fail
    go_ret
    exact no_false HB.out (by repeat (first | exact Kept.refl _ _ | refine Kept.alloc ?_ _ | (refine Kept.setCell ?_ (.inr (by simp)) _)))
  · have HB := hid (show fileB f = false by unfold fileB; rw [hs1]; rfl)
    have e0 : decide (f.s1 < 1) = false := decide_eq_false (by omega)
    have e1 : decide (4294967296 ≤ f.s1) = false := decide_eq_false (by omega)
    have e2 : decide (f.n1 < 0) = false := decide_eq_false (by omega)
    have e3 : decide (1000000000 ≤ f.n1) = true := decide_eq_true (by omega)
    clear hs1
    go_enter Tryd.func28, Tryd.ntmps28
    go_wp2_with fail
    refine wp_loop_rounds 3 ?_
    rw [rounds_succ]
    go_wp2_with fail
    go_ret
    exact no_false HB.out (by repeat (first | exact Kept.refl _ _ | refine Kept.alloc ?_ _ | (refine Kept.setCell ?_ (.inr (by simp)) _)))
  · rcases stamp_cases f.s2 f.n2 with ⟨b1, hs2⟩ | ⟨b1, b2, hs2⟩ | ⟨b1, b2, b3, hs2⟩ | ⟨b1, b2, b3, b4, hs2⟩ | ⟨b1, b2, b3, b4, hs2⟩
    · have HB := hid (show fileB f = false by unfold fileB; rw [hs1, hs2]; rfl)
      have e0 : decide (f.s1 < 1) = false := decide_eq_false (by omega)
      have e1 : decide (4294967296 ≤ f.s1) = false := decide_eq_false (by omega)
      have e2 : decide (f.n1 < 0) = false := decide_eq_false (by omega)
      have e3 : decide (1000000000 ≤ f.n1) = false := decide_eq_false (by omega)
      have g0 : decide (f.s2 < 1) = true := decide_eq_true (by omega)
      clear hs1 hs2
      go_enter Tryd.func28, Tryd.ntmps28
      go_wp2_with fail
      refine wp_loop_rounds 3 ?_
      rw [rounds_succ]
      go_wp2_with fail
      rw [rounds_succ]
      go_wp2_with fail
      go_ret
      exact no_false HB.out (by repeat (first | exact Kept.refl _ _ | refine Kept.alloc ?_ _ | (refine Kept.setCell ?_ (.inr (by simp)) _)))
    · have HB := hid (show fileB f = false by unfold fileB; rw [hs1, hs2]; rfl)
      have e0 : decide (f.s1 < 1) = false := decide_eq_false (by omega)
      have e1 : decide (4294967296 ≤ f.s1) = false := decide_eq_false (by omega)
      have e2 : decide (f.n1 < 0) = false := decide_eq_false (by omega)
      have e3 : decide (1000000000 ≤ f.n1) = false := decide_eq_false (by omega)
      have g0 : decide (f.s2 < 1) = false := decide_eq_false (by omega)
      have g1 : decide (4294967296 ≤ f.s2) = true := decide_eq_true (by omega)
      clear hs1 hs2
      go_enter Tryd.func28, Tryd.ntmps28
      go_wp2_with fail
      refine wp_loop_rounds 3 ?_
      rw [rounds_succ]
      go_wp2_with fail
      rw [rounds_succ]
      go_wp2_with fail
      go_ret
      exact no_false HB.out (by repeat (first | exact Kept.refl _ _ | refine Kept.alloc ?_ _ | (refine Kept.setCell ?_ (.inr (by simp)) _)))
    · have HB := hid (show fileB f = false by unfold fileB; rw [hs1, hs2]; rfl)
      have e0 : decide (f.s1 < 1) = false := decide_eq_false (by omega)
      have e1 : decide (4294967296 ≤ f.s1) = false := decide_eq_false (by omega)
      have e2 : decide (f.n1 < 0) = false := decide_eq_false (by omega)
      have e3 : decide (1000000000 ≤ f.n1) = false := decide_eq_false (by omega)
      have g0 : decide (f.s2 < 1) = false := decide_eq_false (by omega)
      have g1 : decide (4294967296 ≤ f.s2) = false := decide_eq_false (by omega)
      have g2 : decide (f.n2 < 0) = true := decide_eq_true (by omega)
      clear hs1 hs2
      go_enter Tryd.func28, Tryd.ntmps28
      go_wp2_with fail
      refine wp_loop_rounds 3 ?_
      rw [rounds_succ]
      go_wp2_with fail
      rw [rounds_succ]
      go_wp2_with fail
      go_ret
      exact no_false HB.out (by repeat (first | exact Kept.refl _ _ | refine Kept.alloc ?_ _ | (refine Kept.setCell ?_ (.inr (by simp)) _)))
    · have HB := hid (show fileB f = false by unfold fileB; rw [hs1, hs2]; rfl)
      have e0 : decide (f.s1 < 1) = false := decide_eq_false (by omega)
      have e1 : decide (4294967296 ≤ f.s1) = false := decide_eq_false (by omega)
      have e2 : decide (f.n1 < 0) = false := decide_eq_false (by omega)
      have e3 : decide (1000000000 ≤ f.n1) = false := decide_eq_false (by omega)
      have g0 : decide (f.s2 < 1) = false := decide_eq_false (by omega)
      have g1 : decide (4294967296 ≤ f.s2) = false := decide_eq_false (by omega)
      have g2 : decide (f.n2 < 0) = false := decide_eq_false (by omega)
      have g3 : decide (1000000000 ≤ f.n2) = true := decide_eq_true (by omega)
      clear hs1 hs2
      go_enter Tryd.func28, Tryd.ntmps28
      go_wp2_with fail
      refine wp_loop_rounds 3 ?_
      rw [rounds_succ]
      go_wp2_with fail
      rw [rounds_succ]
      go_wp2_with fail
      go_ret
      exact no_false HB.out (by repeat (first | exact Kept.refl _ _ | refine Kept.alloc ?_ _ | (refine Kept.setCell ?_ (.inr (by simp)) _)))
    · have HB := hid (show fileB f = (fnameB f.name && (hex40B f.hash && (decide (0 ≤ f.stage) && decide (f.stage ≤ 3)))) by unfold fileB; rw [hs1, hs2]; rfl)
      have e0 : decide (f.s1 < 1) = false := decide_eq_false (by omega)
      have e1 : decide (4294967296 ≤ f.s1) = false := decide_eq_false (by omega)
      have e2 : decide (f.n1 < 0) = false := decide_eq_false (by omega)
      have e3 : decide (1000000000 ≤ f.n1) = false := decide_eq_false (by omega)
      have g0 : decide (f.s2 < 1) = false := decide_eq_false (by omega)
      have g1 : decide (4294967296 ≤ f.s2) = false := decide_eq_false (by omega)
      have g2 : decide (f.n2 < 0) = false := decide_eq_false (by omega)
      have g3 : decide (1000000000 ≤ f.n2) = false := decide_eq_false (by omega)
      have c1 := hid (fun w => isFileName_calls f.name w hz1)
      have c2 := hid (fun w => isName40_calls f.hash w hz2)
      clear hs1 hs2 hz1 hz2
      go_enter Tryd.func28, Tryd.ntmps28
      go_wp2_with fail
      refine wp_loop_rounds 3 ?_
      rw [rounds_succ]
      go_wp2_with fail
      rw [rounds_succ]
      go_wp2_with fail
      rw [rounds_succ]
      go_wp2_with fail
      refine (c1.out _).mono ?_
      rintro e w' ⟨rfl, rfl⟩
      clear c1
      cases hb : fnameB f.name with
      | false =>
        have HC := hid (show fileB f = false by rw [HB.out, hb]; rfl)
        clear hb
        go_wp2_with fail
        go_ret
        exact no_false HC.out (by repeat (first | exact Kept.refl _ _ | refine Kept.alloc ?_ _ | (refine Kept.setCell ?_ (.inr (by simp)) _)))
      | true =>
      have HB1 := hid hb
      clear hb
      go_wp2_with fail
      refine (c2.out _).mono ?_
      rintro e w' ⟨rfl, rfl⟩
      clear c2
      cases hb : hex40B f.hash with
      | false =>
        have HC := hid (show fileB f = false by rw [HB.out, hb, HB1.out]; rfl)
        clear hb
        go_wp2_with fail
        go_ret
        exact no_false HC.out (by repeat (first | exact Kept.refl _ _ | refine Kept.alloc ?_ _ | (refine Kept.setCell ?_ (.inr (by simp)) _)))
      | true =>
        by_cases h0 : 0 ≤ f.stage
        · by_cases h3 : f.stage ≤ 3
          · have HC := hid (show fileB f = true by rw [HB.out, hb, HB1.out, decide_eq_true h0, decide_eq_true h3]; rfl)
            have d0 : decide (0 ≤ f.stage) = true := decide_eq_true h0
            have d3 : decide (f.stage ≤ 3) = true := decide_eq_true h3
            clear hb
            go_wp2_with fail
            go_ret
            exact ⟨ret_bool HC.out.symm, (by repeat (first | exact Kept.refl _ _ | refine Kept.alloc ?_ _ | (refine Kept.setCell ?_ (.inr (by simp)) _)))⟩
          · have HC := hid (show fileB f = false by rw [HB.out, hb, HB1.out, decide_eq_false h3]; simp)
            have d0 : decide (0 ≤ f.stage) = true := decide_eq_true h0
            have d3 : decide (f.stage ≤ 3) = false := decide_eq_false h3
            clear hb
            go_wp2_with fail
            go_ret
            exact no_false HC.out (by repeat (first | exact Kept.refl _ _ | refine Kept.alloc ?_ _ | (refine Kept.setCell ?_ (.inr (by simp)) _)))
        · have HC := hid (show fileB f = false by rw [HB.out, hb, HB1.out, decide_eq_false h0]; rfl)
          have d0 : decide (0 ≤ f.stage) = false := decide_eq_false h0
          clear hb
          go_wp2_with fail
          go_ret
          exact no_false HC.out (by repeat (first | exact Kept.refl _ _ | refine Kept.alloc ?_ _ | (refine Kept.setCell ?_ (.inr (by simp)) _)))
set_option maxRecDepth 100000 in
set_option maxHeartbeats 4000000 in
theorem isPlain_calls (f : FileD) (w : World) (hz1 : f.name.size ≤ 140737488351232) (hz2 : f.hash.size ≤ 140737488351232) :
    Calls Tryd.prog 16 #[.agg f.cells.toArray] w (AnsK w (plainB f)) := by
  have hb0 := Blk.new w 29 f.cells.toArray
  have hk0 : Kept [] w (w.alloc (.cells f.cells.toArray 29)) := (Kept.refl _ w).alloc _
  have c1 := hid (isFile_calls f (w.alloc (.cells f.cells.toArray 29)) hz1 hz2)
  have HB0 := hid hb0
  have HK0 := hid hk0
  clear hb0 hk0 hz1 hz2
  go_enter Tryd.func16, Tryd.ntmps16
  go_wp2_with fail
  refine c1.out.mono ?_
  rintro e w1 ⟨rfl, hk⟩
  have HK1 := hid (HK0.out.trans_ hk)
  have h13 : w1.cell? ⟨w.heap.size, 13, none⟩ = some (.bool f.skip) := (HB0.out.kept hk (by simp)).cell 13 rfl
  have h14 : w1.cell? ⟨w.heap.size, 14, none⟩ = some (.bool f.intent) := (HB0.out.kept hk (by simp)).cell 14 rfl
  clear hk c1
  cases hb : fileB f with
  | false =>
    have HC := hid (show plainB f = false by unfold plainB; rw [hb]; rfl)
    clear hb
    go_wp2_with fail
    go_ret
    exact ⟨ret_bool HC.out.symm, HK1.out⟩
  | true =>
    cases hs : f.skip with
    | true =>
      have HC := hid (show plainB f = false by unfold plainB; rw [hb, hs]; rfl)
      rw [hs] at h13
      clear hb hs
      go_wp2_with fail
      go_ret
      exact ⟨ret_bool HC.out.symm, HK1.out⟩
    | false =>
      have HC := hid (show plainB f = !f.intent by unfold plainB; rw [hb, hs]; rfl)
      rw [hs] at h13
      clear hb hs
      go_wp2_with fail
      go_ret
      exact ⟨ret_bool HC.out.symm, HK1.out⟩
/-- some answer -/
def AnyB (w : World) (e : Ending) (w' : World) : Prop := (∃ b, e = .returned (.bool b)) ∧ Kept [] w w'
set_option maxRecDepth 100000 in
set_option maxHeartbeats 4000000 in
theorem fits18_calls (f : FileD) (w : World) : Calls Tryd.prog 15 #[.agg f.cells.toArray] w (AnyB w) := by
  by_cases h1 : f.hash.size ≤ 2147483647
  · have h1' : (f.hash.size : Int) ≤ 2147483647 := by omega
    by_cases h2 : f.name.size ≤ 2147483647
    · have h2' : (f.name.size : Int) ≤ 2147483647 := by omega
      go_enter Tryd.func15, Tryd.ntmps15
      go_wp2_with fail
      go_ret
      exact ⟨⟨_, rfl⟩, (by repeat (first | exact Kept.refl _ _ | refine Kept.alloc ?_ _ | (refine Kept.setCell ?_ (.inr (by simp)) _)))⟩
    · have h2' : (2147483647 : Int) < f.name.size := by omega
      go_enter Tryd.func15, Tryd.ntmps15
      go_wp2_with fail
      go_ret
      exact ⟨⟨_, rfl⟩, (by repeat (first | exact Kept.refl _ _ | refine Kept.alloc ?_ _ | (refine Kept.setCell ?_ (.inr (by simp)) _)))⟩
  · have h1' : (2147483647 : Int) < f.hash.size := by omega
    go_enter Tryd.func15, Tryd.ntmps15
    go_wp2_with fail
    go_ret
    exact ⟨⟨_, rfl⟩, (by repeat (first | exact Kept.refl _ _ | refine Kept.alloc ?_ _ | (refine Kept.setCell ?_ (.inr (by simp)) _)))⟩
theorem infoFile : (Tryd.prog.info? 29).map (·.size) = some 15 := by kernel_rfl
theorem file_one (f : FileD) : ∀ v ∈ f.cells, v.oneCell' = true := by
  intro v hv
  simp only [FileD.cells, List.mem_cons, List.not_mem_nil, or_false] at hv
  rcases hv with rfl | rfl | rfl | rfl | rfl | rfl | rfl | rfl | rfl | rfl | rfl | rfl | rfl | rfl | rfl <;> rfl
/-- a store of a whole struct into a block that is known whole, said up to that block -/
theorem wpList_store_kept {P : Program} {ops : Array Oper} {rest : List Oper} {o : Oper} {a : Act} {w : World} {Q : Exit → Act → World → Prop} (hgd : o.guard = none) (ty : TypeId) (x y : Operand) (ho : o.op = .store ty x y)
    (g : Nat) (cells : Array Value) (hx : a.eval x = .pointer (some ⟨g, 0, none⟩)) (hy : a.eval y = .agg cells)
    (t : TypeId) (old : Array Value) (hg : w.heap[g]? = some (.cells old t (0, 0))) (hi : (P.info? ty).map (·.size) = some cells.size)
    (hold : old.size = cells.size) (h1 : cells.all (·.oneCell') = true)
    (h : ∀ w', Hid (Blk w' g t cells) → Hid (Kept [g] w w') → Hid (w'.heap.size = w.heap.size) → wpList P ops Q rest (a.put o.dst undef) w') : wpList P ops Q (o :: rest) a w :=
  wpList_store_row hgd ty x y ho g cells hx hy t old hg hi hold h1 (h _ (hid (setRow_heap w g _ _ t _ hg)) (hid (kept_setRow _)) (hid (by simp [World.setRow])))
end Go.Proofs.YtnidjkmfnojlaaaDoor.idx
