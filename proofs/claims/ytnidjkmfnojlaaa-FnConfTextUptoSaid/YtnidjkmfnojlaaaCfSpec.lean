/- Configurations: what zzFits1 and its kin, IsConfWord, IsValue and areOptions say. Printed by gen_cfspec.py. -/
import Derived.Test.YtnidjkmfnojlaaaCfData
import Derived.Test.YtnidjkmfnojlaaaFrame
import Derived.Test.YtnidjkmfnojlaaaStrs
import Derived.Deep.MidRow
import Derived.Laws.Tables
import Derived.Laws.Rows
import Derived.WalkKit
import Derived.Outline
set_option linter.unusedVariables false
namespace Go.Proofs.Ytnidjkmfnojlaaa.cf
open Go.RowKit Lib mem opn frm strs

/-- the answer, and what it tells -/
def Told (w : World) (F : Bool → Prop) (e : Ending) (w' : World) : Prop := Kept [] w w' ∧ ∃ b, e = .returned (.bool b) ∧ F b
def Any (_ : Bool) : Prop := True
abbrev Oty : TypeId := 53
abbrev Uty : TypeId := 36
abbrev Sty : TypeId := 31
theorem infoO : (Try.prog.info? Oty).map (·.size) = some 2 := by kernel_rfl
theorem infoU : (Try.prog.info? Uty).map (·.size) = some 2 := by kernel_rfl
theorem infoS : (Try.prog.info? Sty).map (·.size) = some 3 := by kernel_rfl
theorem all_of {cs : List Value} (h : ∀ v ∈ cs, v.oneCell' = true) : cs.toArray.all (·.oneCell') = true := Array.all_eq_true_iff_forall_mem.2 (fun v hv => h v (by simpa using hv))
theorem slice_one {A : Option Addr} {n c : Nat} : (Value.slice A n c).oneCell' = true := rfl
theorem OptSl.one {w : World} {B : Nat} {v : Value} {os : List OptD} (h : OptSl w B v os) : v.oneCell' = true := by obtain ⟨A, c, rfl, _⟩ := h; rfl
theorem SubSl.one {w : World} {B : Nat} {v : Value} {os : List SubD} (h : SubSl w B v os) : v.oneCell' = true := by obtain ⟨A, c, rfl, _⟩ := h; rfl
theorem opt_all (x : OptD) : x.cells.toArray.all (·.oneCell') = true := all_of (by intro v hv; simp only [OptD.cells, List.mem_cons, List.not_mem_nil, or_false] at hv; rcases hv with rfl | rfl <;> rfl)
theorem sub_all (x : SubD) (h : x.ov.oneCell' = true) : x.cells.toArray.all (·.oneCell') = true := all_of (by intro v hv; simp only [SubD.cells, List.mem_cons, List.not_mem_nil, or_false] at hv; rcases hv with rfl | rfl; rfl; exact h)
theorem sec_all (x : SecD) (h : x.ov.oneCell' = true) (h' : x.sv.oneCell' = true) : x.cells.toArray.all (·.oneCell') = true := all_of (by intro v hv; simp only [SecD.cells, List.mem_cons, List.not_mem_nil, or_false] at hv; rcases hv with rfl | rfl | rfl; rfl; exact h; exact h')
theorem opt_sz (x : OptD) : (Try.prog.info? Oty).map (·.size) = some x.cells.toArray.size := by rw [infoO]; rfl
theorem sub_sz (x : SubD) : (Try.prog.info? Uty).map (·.size) = some x.cells.toArray.size := by rw [infoU]; rfl
theorem sec_sz (x : SecD) : (Try.prog.info? Sty).map (·.size) = some x.cells.toArray.size := by rw [infoS]; rfl
/-- an element's cells in a world that keeps them -/
theorem at_kept {α : Type} {f : α → List Value} {size : Nat} {w w' : World} {B : Nat} {A : Option Addr} {n : Nat} {xs : List α} (h : Structs f size w B A n xs) (hs : ∀ x, (f x).length = size) (hk : Kept [] w w') (hB : B ≤ w.heap.size) {k : Nat} (hkn : k < n) :
    ∃ g o x, A = some ⟨g, o, none⟩ ∧ g < w.heap.size ∧ xs[k]? = some x ∧ x ∈ xs ∧ w'.rangeAt g (o + k * size) (f x) := by
  obtain ⟨g, o, x, h1, h2, h3, h4, h5⟩ := Structs.at_ h (fun x _ => hs x) hkn
  exact ⟨g, o, x, h1, by omega, h3, h4, fun i u hu => (hk.cell (p := ⟨g, o + k * size + i, none⟩) (by show g < _; omega) (by simp)).trans (by rw [Nat.add_assoc]; exact h5 i u hu)⟩
theorem wpList_store_kept {P : Program} {ops : Array Oper} {rest : List Oper} {o : Oper} {a : Act} {w : World} {Q : Exit → Act → World → Prop} (hgd : o.guard = none) (ty : TypeId) (x y : Operand) (ho : o.op = .store ty x y)
    (g : Nat) (cells : Array Value) (hx : a.eval x = .pointer (some ⟨g, 0, none⟩)) (hy : a.eval y = .agg cells)
    (t : TypeId) (old : Array Value) (hg : w.heap[g]? = some (.cells old t (0, 0))) (hi : (P.info? ty).map (·.size) = some cells.size)
    (hold : old.size = cells.size) (h1 : cells.all (·.oneCell') = true)
    (h : ∀ w', Hid (Blk w' g t cells) → Hid (Kept [g] w w') → Hid (w'.heap.size = w.heap.size) → wpList P ops Q rest (a.put o.dst undef) w') : wpList P ops Q (o :: rest) a w :=
  wpList_store_row hgd ty x y ho g cells hx hy t old hg hi hold h1 (h _ (hid (setRow_heap w g _ _ t _ hg)) (hid (kept_setRow _)) (hid (by simp [World.setRow])))
theorem blk_range {w : World} {g : Nat} {t : TypeId} {cs : List Value} (h : Blk w g t cs.toArray) : w.rangeAt g 0 cs := fun i u hu => by rw [Nat.zero_add]; exact h.cell i (by simpa using hu)

attribute [local go_sem] OptD.cells SubD.cells SecD.cells
set_option maxRecDepth 100000 in
set_option maxHeartbeats 4000000 in
theorem fits4_calls (x : OptD) (w : World) : Calls Try.prog 22 #[.agg x.cells.toArray] w (Told w Any) := by
  by_cases h1 : x.key.size ≤ 2147483647
  · have h1' : (x.key.size : Int) ≤ 2147483647 := by omega
    by_cases h2 : x.val.size ≤ 2147483647
    · have h2' : (x.val.size : Int) ≤ 2147483647 := by omega
      go_enter Try.func22, Try.ntmps22
      go_wp2_with fail
      go_ret
      exact ⟨(by repeat (first | exact Kept.refl _ _ | exact HK3.out | refine Kept.alloc ?_ _ | (refine Kept.setCell ?_ (.inr (by simp)) _))), _, rfl, trivial⟩
    · have h2' : (2147483647 : Int) < x.val.size := by omega
      go_enter Try.func22, Try.ntmps22
      go_wp2_with fail
      go_ret
      exact ⟨(by repeat (first | exact Kept.refl _ _ | exact HK3.out | refine Kept.alloc ?_ _ | (refine Kept.setCell ?_ (.inr (by simp)) _))), _, rfl, trivial⟩
  · have h1' : (2147483647 : Int) < x.key.size := by omega
    go_enter Try.func22, Try.ntmps22
    go_wp2_with fail
    go_ret
    exact ⟨(by repeat (first | exact Kept.refl _ _ | exact HK3.out | refine Kept.alloc ?_ _ | (refine Kept.setCell ?_ (.inr (by simp)) _))), _, rfl, trivial⟩
set_option maxRecDepth 100000 in
set_option maxHeartbeats 4000000 in
theorem fits3_calls (B : Nat) (v : Value) (xs : List OptD) (w : World) (h : OptSl w B v xs) (hB : B ≤ w.heap.size) (hn : xs.length ≤ 1048576) : Calls Try.prog 16 #[v] w (Told w Any) := by
  obtain ⟨A, c, rfl, hF⟩ := h
  have HF := hid hF
  have hn' : (xs.length : Int) ≤ 1048576 := by omega
  have HBB := hid hB
  obtain ⟨n, hnn⟩ : ∃ n, n = xs.length := ⟨_, rfl⟩
  rw [← hnn] at HF hn' ⊢
  clear hF hn hB hnn
  go_enter Try.func16, Try.ntmps16
  go_wp2_with fail
  go_loopw [10] (fun iv wr => ∃ k : Nat, k ≤ n ∧ iv = .int .i64 k ∧ Hid (Kept [] w wr)) (fun iv _ => n - (RowKit.intOf iv).toNat)
  case atStart => exact ⟨0, by omega, rfl, hid (Kept.refl _ _)⟩
  case round =>
    obtain ⟨k, hk, rfl, hK⟩ := hrel
    by_cases hlt : k < n
    · obtain ⟨g, o, x, rfl, hg, hxk, hmem, hR⟩ := at_kept HF.out OptD.len hK.out HBB.out hlt
      have HR := hid hR
      skip
      have hlt' : (k : Int) < n := by omega
      clear hR hxk hg
      go_wp2_with (first
        | (refine wpList_load_mid rfl Oty (.tmp 12) rfl g (o + k * 2) rfl x.cells _ HR.out Try.underlying53 rfl infoO ?_)
        | (refine wpList_store_kept rfl Oty (.tmp 4) (.tmp 13) rfl wr.heap.size x.cells.toArray rfl rfl Oty _ (Blk.new wr Oty _) (opt_sz x) rfl (opt_all x) ?_; intro w2 h1 h2 h3; have HR2 := hid (blk_range h1.out); have HK2 := hid ((hK.out.alloc _).trans h2.out (by simp; exact hK.out.size)); clear h1 h2 h3)
        | (refine wpList_load_mid rfl Oty (.tmp 4) rfl wr.heap.size 0 rfl x.cells _ HR2.out Try.underlying53 rfl infoO ?_))
      refine (fits4_calls x _).mono ?_
      rintro e w3 ⟨hk3, b, rfl, -⟩
      have HK3 := hid (HK2.out.trans_ hk3)
      clear hk3
      cases b with
      | false =>
        go_wp2_with fail
        go_ret
        exact ⟨HK3.out, _, rfl, trivial⟩
      | true =>
        go_wp2_with fail
        go_roundw
        case rel => exact ⟨k + 1, by omega, by go_num, HK3⟩
        case measure => simp [RowKit.intOf]; omega
    · have hlt' : ¬ (k : Int) < n := by omega
      go_wp2_with fail
      go_ret
      exact ⟨hK.out, _, rfl, trivial⟩
set_option maxRecDepth 100000 in
set_option maxHeartbeats 4000000 in
theorem fits6_calls (B : Nat) (x : SubD) (w : World) (h : OptSl w B x.ov x.opts) (hB : B ≤ w.heap.size) (hn : x.opts.length ≤ 1048576) : Calls Try.prog 23 #[.agg x.cells.toArray] w (Told w Any) := by
  have c1 := hid (fun (w' : World) (hk : Kept [] w w') => fits3_calls B x.ov x.opts w' (h.below (hk.below hB (by simp))) (Nat.le_trans hB hk.size) hn)
  obtain ⟨xn, xv, xo⟩ := x
  clear h hn
  by_cases h1 : xn.size ≤ 2147483647
  · have h1' : (xn.size : Int) ≤ 2147483647 := by omega
    go_enter Try.func23, Try.ntmps23
    go_wp2_with fail
    refine (c1.out _ (by repeat (first | exact Kept.refl _ _ | refine Kept.alloc ?_ _))).mono ?_
    rintro e w3 ⟨hk3, b, rfl, -⟩
    have HK3 := hid (((Kept.refl [] w).alloc _).trans_ hk3)
    clear hk3 c1
    cases b with
    | false =>
      go_wp2_with fail
      go_ret
      exact ⟨HK3.out, _, rfl, trivial⟩
    | true =>
      go_wp2_with fail
      go_ret
      exact ⟨HK3.out, _, rfl, trivial⟩
  · have h1' : (2147483647 : Int) < xn.size := by omega
    go_enter Try.func23, Try.ntmps23
    go_wp2_with fail
    go_ret
    exact ⟨(by repeat (first | exact Kept.refl _ _ | exact HK3.out | refine Kept.alloc ?_ _ | (refine Kept.setCell ?_ (.inr (by simp)) _))), _, rfl, trivial⟩
set_option maxRecDepth 100000 in
set_option maxHeartbeats 4000000 in
theorem fits5_calls (B : Nat) (v : Value) (xs : List SubD) (w : World) (h : SubSl w B v xs) (hB : B ≤ w.heap.size) (hn : xs.length ≤ 1048576) (hm : ∀ s ∈ xs, s.opts.length ≤ 1048576) : Calls Try.prog 17 #[v] w (Told w Any) := by
  obtain ⟨A, c, rfl, -, hF, hS⟩ := h
  have HF := hid hF
  have HS := hid hS
  have HM := hid hm
  clear hS hm
  have hn' : (xs.length : Int) ≤ 1048576 := by omega
  have HBB := hid hB
  obtain ⟨n, hnn⟩ : ∃ n, n = xs.length := ⟨_, rfl⟩
  rw [← hnn] at HF hn' ⊢
  clear hF hn hB hnn
  go_enter Try.func17, Try.ntmps17
  go_wp2_with fail
  go_loopw [10] (fun iv wr => ∃ k : Nat, k ≤ n ∧ iv = .int .i64 k ∧ Hid (Kept [] w wr)) (fun iv _ => n - (RowKit.intOf iv).toNat)
  case atStart => exact ⟨0, by omega, rfl, hid (Kept.refl _ _)⟩
  case round =>
    obtain ⟨k, hk, rfl, hK⟩ := hrel
    by_cases hlt : k < n
    · obtain ⟨g, o, x, rfl, hg, hxk, hmem, hR⟩ := at_kept HF.out SubD.len hK.out HBB.out hlt
      have HR := hid hR
      have HP := hid (And.intro (HS.out x hmem) (HM.out x hmem)); have HO := hid (OptSl.one HP.out.1)
      have hlt' : (k : Int) < n := by omega
      clear hR hxk hg
      go_wp2_with (first
        | (refine wpList_load_mid rfl Uty (.tmp 12) rfl g (o + k * 2) rfl x.cells _ HR.out Try.underlying36 rfl infoU ?_)
        | (refine wpList_store_kept rfl Uty (.tmp 4) (.tmp 13) rfl wr.heap.size x.cells.toArray rfl rfl Uty _ (Blk.new wr Uty _) (sub_sz x) rfl (sub_all x HO.out) ?_; intro w2 h1 h2 h3; have HR2 := hid (blk_range h1.out); have HK2 := hid ((hK.out.alloc _).trans h2.out (by simp; exact hK.out.size)); clear h1 h2 h3)
        | (refine wpList_load_mid rfl Uty (.tmp 4) rfl wr.heap.size 0 rfl x.cells _ HR2.out Try.underlying36 rfl infoU ?_))
      refine (fits6_calls B x w2 (HP.out.1.below (HK2.out.below HBB.out (by simp))) (Nat.le_trans HBB.out HK2.out.size) HP.out.2).mono ?_
      rintro e w3 ⟨hk3, b, rfl, -⟩
      have HK3 := hid (HK2.out.trans_ hk3)
      clear hk3
      cases b with
      | false =>
        go_wp2_with fail
        go_ret
        exact ⟨HK3.out, _, rfl, trivial⟩
      | true =>
        go_wp2_with fail
        go_roundw
        case rel => exact ⟨k + 1, by omega, by go_num, HK3⟩
        case measure => simp [RowKit.intOf]; omega
    · have hlt' : ¬ (k : Int) < n := by omega
      go_wp2_with fail
      go_ret
      exact ⟨hK.out, _, rfl, trivial⟩
set_option maxRecDepth 100000 in
set_option maxHeartbeats 4000000 in
theorem fits2_calls (B : Nat) (x : SecD) (w : World) (h : OptSl w B x.ov x.opts) (h' : SubSl w B x.sv x.subs) (hB : B ≤ w.heap.size) (hn : x.opts.length ≤ 1048576) (hn' : x.subs.length ≤ 1048576) (hm : ∀ s ∈ x.subs, s.opts.length ≤ 1048576) : Calls Try.prog 8 #[.agg x.cells.toArray] w (Told w Any) := by
  have c1 := hid (fun (w' : World) (hk : Kept [] w w') => fits3_calls B x.ov x.opts w' (h.below (hk.below hB (by simp))) (Nat.le_trans hB hk.size) hn)
  have c2 := hid (fun (w' : World) (hk : Kept [] w w') => fits5_calls B x.sv x.subs w' (h'.below (hk.below hB (by simp))) (Nat.le_trans hB hk.size) hn' hm)
  obtain ⟨xn, xv, xo, yv, yo⟩ := x
  clear h h' hn hn' hm
  by_cases h1 : xn.size ≤ 2147483647
  · have h1' : (xn.size : Int) ≤ 2147483647 := by omega
    have HB0 := hid (Blk.new w Sty #[.string xn, xv, yv])
    go_enter Try.func8, Try.ntmps8
    go_wp2_with fail
    refine (c1.out _ (by repeat (first | exact Kept.refl _ _ | refine Kept.alloc ?_ _))).mono ?_
    rintro e w3 ⟨hk3, b, rfl, -⟩
    have HK3 := hid (((Kept.refl [] w).alloc _).trans_ hk3)
    have q2 := (HB0.out.kept hk3 (by simp)).cell 2 rfl
    clear hk3 c1
    cases b with
    | false =>
      go_wp2_with fail
      go_ret
      exact ⟨HK3.out, _, rfl, trivial⟩
    | true =>
      go_wp2_with fail
      refine (c2.out _ HK3.out).mono ?_
      rintro e w4 ⟨hk4, b, rfl, -⟩
      have HK4 := hid (HK3.out.trans_ hk4)
      clear hk4 c2 q2
      cases b with
      | false =>
        go_wp2_with fail
        go_ret
        exact ⟨HK4.out, _, rfl, trivial⟩
      | true =>
        go_wp2_with fail
        go_ret
        exact ⟨HK4.out, _, rfl, trivial⟩
  · have h1' : (2147483647 : Int) < xn.size := by omega
    go_enter Try.func8, Try.ntmps8
    go_wp2_with fail
    go_ret
    exact ⟨(by repeat (first | exact Kept.refl _ _ | exact HK3.out | refine Kept.alloc ?_ _ | (refine Kept.setCell ?_ (.inr (by simp)) _))), _, rfl, trivial⟩
/-- few enough of everything -/
structure Few (s : SecD) : Prop where
  o : s.opts.length ≤ 1048576
  u : s.subs.length ≤ 1048576
  p : ∀ x ∈ s.subs, x.opts.length ≤ 1048576
set_option maxRecDepth 100000 in
set_option maxHeartbeats 4000000 in
theorem fits1_calls (B : Nat) (v : Value) (xs : List SecD) (w : World) (h : SecSl w B v xs) (hB : B ≤ w.heap.size) (hn : xs.length ≤ 1048576) (hm : ∀ s ∈ xs, Few s) : Calls Try.prog 4 #[v] w (Told w Any) := by
  obtain ⟨A, c, rfl, -, hF, hS⟩ := h
  have HF := hid hF
  have HS := hid hS
  have HM := hid hm
  clear hS hm
  have hn' : (xs.length : Int) ≤ 1048576 := by omega
  have HBB := hid hB
  obtain ⟨n, hnn⟩ : ∃ n, n = xs.length := ⟨_, rfl⟩
  rw [← hnn] at HF hn' ⊢
  clear hF hn hB hnn
  go_enter Try.func4, Try.ntmps4
  go_wp2_with fail
  go_loopw [10] (fun iv wr => ∃ k : Nat, k ≤ n ∧ iv = .int .i64 k ∧ Hid (Kept [] w wr)) (fun iv _ => n - (RowKit.intOf iv).toNat)
  case atStart => exact ⟨0, by omega, rfl, hid (Kept.refl _ _)⟩
  case round =>
    obtain ⟨k, hk, rfl, hK⟩ := hrel
    by_cases hlt : k < n
    · obtain ⟨g, o, x, rfl, hg, hxk, hmem, hR⟩ := at_kept HF.out SecD.len hK.out HBB.out hlt
      have HR := hid hR
      have HP := hid (And.intro (HS.out x hmem) (HM.out x hmem)); have HO := hid (OptSl.one HP.out.1.1); have HO2 := hid (SubSl.one HP.out.1.2)
      have hlt' : (k : Int) < n := by omega
      clear hR hxk hg
      go_wp2_with (first
        | (refine wpList_load_mid rfl Sty (.tmp 12) rfl g (o + k * 3) rfl x.cells _ HR.out Try.underlying31 rfl infoS ?_)
        | (refine wpList_store_kept rfl Sty (.tmp 4) (.tmp 13) rfl wr.heap.size x.cells.toArray rfl rfl Sty _ (Blk.new wr Sty _) (sec_sz x) rfl (sec_all x HO.out HO2.out) ?_; intro w2 h1 h2 h3; have HR2 := hid (blk_range h1.out); have HK2 := hid ((hK.out.alloc _).trans h2.out (by simp; exact hK.out.size)); clear h1 h2 h3)
        | (refine wpList_load_mid rfl Sty (.tmp 4) rfl wr.heap.size 0 rfl x.cells _ HR2.out Try.underlying31 rfl infoS ?_))
      refine (fits2_calls B x w2 (HP.out.1.1.below (HK2.out.below HBB.out (by simp))) (HP.out.1.2.below (HK2.out.below HBB.out (by simp))) (Nat.le_trans HBB.out HK2.out.size) HP.out.2.o HP.out.2.u HP.out.2.p).mono ?_
      rintro e w3 ⟨hk3, b, rfl, -⟩
      have HK3 := hid (HK2.out.trans_ hk3)
      clear hk3
      cases b with
      | false =>
        go_wp2_with fail
        go_ret
        exact ⟨HK3.out, _, rfl, trivial⟩
      | true =>
        go_wp2_with fail
        go_roundw
        case rel => exact ⟨k + 1, by omega, by go_num, HK3⟩
        case measure => simp [RowKit.intOf]; omega
    · have hlt' : ¬ (k : Int) < n := by omega
      go_wp2_with fail
      go_ret
      exact ⟨hK.out, _, rfl, trivial⟩
end Go.Proofs.Ytnidjkmfnojlaaa.cf
