/- Configurations of any size: what zzFits1 and its kin tell. Printed by gen_chfits.py. -/
import Derived.Test.YtmhcbgmnhcfhfaaDoorCfAre
set_option linter.unusedVariables false
namespace Go.Proofs.YtmhcbgmnhcfhfaaDoor.cf
open Go.RowKit Lib mem opn frm strs

def LimO (M : Nat) (o : OptD) : Prop := o.key.size ≤ M ∧ o.val.size ≤ M
def LimOs (M : Nat) (os : List OptD) : Prop := os.length ≤ M ∧ ∀ o ∈ os, LimO M o
def LimU (M : Nat) (u : SubD) : Prop := u.name.size ≤ M ∧ LimOs M u.opts
def LimUs (M : Nat) (us : List SubD) : Prop := us.length ≤ M ∧ ∀ u ∈ us, LimU M u
def LimS (M : Nat) (s : SecD) : Prop := s.name.size ≤ M ∧ LimOs M s.opts ∧ LimUs M s.subs
def LimSs (M : Nat) (ss : List SecD) : Prop := ss.length ≤ M ∧ ∀ s ∈ ss, LimS M s
/-- if yes, then F -/
def If (F : Prop) (b : Bool) : Prop := b = true → F
theorem of_all {α : Type} {F : α → Prop} {xs : List α} {n : Nat} (hn : n = xs.length) (h : ∀ i o, i < n → xs[i]? = some o → F o) : ∀ o ∈ xs, F o := fun o ho => by
  obtain ⟨i, hi, rfl⟩ := List.getElem_of_mem ho
  exact h i _ (by omega) (List.getElem?_eq_getElem hi)
theorem all_snoc {α : Type} {F : α → Prop} {xs : List α} {k : Nat} {x : α} (h : ∀ i o, i < k → xs[i]? = some o → F o) (hx : xs[k]? = some x) (hF : F x) : ∀ i o, i < k + 1 → xs[i]? = some o → F o := fun i o hi ho => by
  by_cases e : i = k
  · subst e; rw [hx] at ho; injection ho with ho; subst ho; exact hF
  · exact h i o (by omega) ho

attribute [local go_sem] OptD.cells SubD.cells SecD.cells
set_option maxRecDepth 100000 in
set_option maxHeartbeats 4000000 in
theorem zfits4_calls (x : OptD) (w : World) (hx : LimO 140737488355328 x) : Calls Tryd.prog 51 #[.agg x.cells.toArray] w (Told w (If (LimO 2147483647 x))) := by
  by_cases h1 : x.key.size ≤ 2147483647
  · have h1' : (x.key.size : Int) ≤ 2147483647 := by omega
    by_cases h2 : x.val.size ≤ 2147483647
    · have h2' : (x.val.size : Int) ≤ 2147483647 := by omega
      have HF := hid (show LimO 2147483647 x from ⟨h1, h2⟩)
      clear hx
      go_enter Tryd.func51, Tryd.ntmps51
      go_wp2_with fail
      go_ret
      exact ⟨(by repeat (first | exact Kept.refl _ _ | exact HK3.out | refine Kept.alloc ?_ _ | (refine Kept.setCell ?_ (.inr (by simp)) _))), _, rfl, fun _ => HF.out⟩
    · have h2' : (2147483647 : Int) < x.val.size := by omega
      clear hx
      go_enter Tryd.func51, Tryd.ntmps51
      go_wp2_with fail
      go_ret
      exact ⟨(by repeat (first | exact Kept.refl _ _ | exact HK3.out | refine Kept.alloc ?_ _ | (refine Kept.setCell ?_ (.inr (by simp)) _))), _, rfl, nofun⟩
  · have h1' : (2147483647 : Int) < x.key.size := by omega
    clear hx
    go_enter Tryd.func51, Tryd.ntmps51
    go_wp2_with fail
    go_ret
    exact ⟨(by repeat (first | exact Kept.refl _ _ | exact HK3.out | refine Kept.alloc ?_ _ | (refine Kept.setCell ?_ (.inr (by simp)) _))), _, rfl, nofun⟩
set_option maxRecDepth 100000 in
set_option maxHeartbeats 4000000 in
theorem zfits3_calls (B : Nat) (v : Value) (xs : List OptD) (w : World) (h : OptSl w B v xs) (hB : B ≤ w.heap.size) (hm : LimOs 140737488355328 xs) : Calls Tryd.prog 36 #[v] w (Told w (If (LimOs 2147483647 xs))) := by
  obtain ⟨A, c, rfl, hF⟩ := h
  have HF := hid hF
  skip
  have HM := hid hm.2
  have hn' : (xs.length : Int) ≤ 140737488355328 := by have := hm.1; omega
  have HBB := hid hB
  obtain ⟨n, hnn⟩ : ∃ n, n = xs.length := ⟨_, rfl⟩
  have HN := hid hnn
  rw [← hnn] at HF hn' ⊢
  clear hF hm hB hnn
  by_cases hbig : n ≤ 2147483647
  · have hb : (n : Int) ≤ 2147483647 := by omega
    go_enter Tryd.func36, Tryd.ntmps36
    go_wp2_with fail
    go_loopw [10] (fun iv wr => ∃ k : Nat, k ≤ n ∧ iv = .int .i64 k ∧ Hid (Kept [] w wr) ∧ Hid (∀ i o, i < k → xs[i]? = some o → LimO 2147483647 o)) (fun iv _ => n - (RowKit.intOf iv).toNat)
    case atStart => exact ⟨0, by omega, rfl, hid (Kept.refl _ _), hid (fun i o h => absurd h (by omega))⟩
    case round =>
      obtain ⟨k, hk, rfl, hK, hP⟩ := hrel
      by_cases hlt : k < n
      · obtain ⟨g, o, x, rfl, hg, hxk, hmem, hR⟩ := at_kept HF.out OptD.len hK.out HBB.out hlt
        have HR := hid hR
        have HX := hid hxk
        skip
        have hlt' : (k : Int) < n := by omega
        clear hR hxk hg
        go_wp2_with (first
          | (refine wpList_load_mid rfl Oty (.tmp 12) rfl g (o + k * 2) rfl x.cells _ HR.out Tryd.underlying108 rfl infoO ?_)
          | (refine wpList_store_kept rfl Oty (.tmp 4) (.tmp 13) rfl wr.heap.size x.cells.toArray rfl rfl Oty _ (Blk.new wr Oty _) (opt_sz x) rfl (opt_all x) ?_; intro w2 h1 h2 h3; have HR2 := hid (blk_range h1.out); have HK2 := hid ((hK.out.alloc _).trans h2.out (by simp; exact hK.out.size)); clear h1 h2 h3)
          | (refine wpList_load_mid rfl Oty (.tmp 4) rfl wr.heap.size 0 rfl x.cells _ HR2.out Tryd.underlying108 rfl infoO ?_)
          | fail)
        refine (zfits4_calls x _ (HM.out x hmem)).mono ?_
        rintro e w3 ⟨hk3, b, rfl, ht⟩
        have HK3 := hid (HK2.out.trans_ hk3)
        have HT := hid ht
        clear hk3 ht
        cases b with
        | false =>
          go_wp2_with fail
          go_ret
          exact ⟨HK3.out, _, rfl, nofun⟩
        | true =>
          have HP2 := hid (all_snoc hP.out HX.out (HT.out rfl))
          go_wp2_with fail
          go_roundw
          case rel => exact ⟨k + 1, by omega, by go_num, HK3, HP2⟩
          case measure => simp [RowKit.intOf]; omega
      · have hlt' : ¬ (k : Int) < n := by omega
        obtain rfl : k = n := by omega
        go_wp2_with fail
        go_ret
        exact ⟨hK.out, _, rfl, fun _ => ⟨by have := HN.out; omega, of_all HN.out hP.out⟩⟩
  · have hb : (2147483647 : Int) < (n : Int) := by omega
    go_enter Tryd.func36, Tryd.ntmps36
    go_wp2_with fail
    go_ret
    exact ⟨(by repeat (first | exact Kept.refl _ _ | exact HK3.out | refine Kept.alloc ?_ _ | (refine Kept.setCell ?_ (.inr (by simp)) _))), _, rfl, nofun⟩
set_option maxRecDepth 100000 in
set_option maxHeartbeats 4000000 in
theorem zfits6_calls (B : Nat) (x : SubD) (w : World) (h : OptSl w B x.ov x.opts) (hB : B ≤ w.heap.size) (hm : LimU 140737488355328 x) : Calls Tryd.prog 52 #[.agg x.cells.toArray] w (Told w (If (LimU 2147483647 x))) := by
  have c1 := hid (fun (w' : World) (hk : Kept [] w w') => zfits3_calls B x.ov x.opts w' (h.below (hk.below hB (by simp))) (Nat.le_trans hB hk.size) hm.2)
  have HM := hid hm.1
  obtain ⟨xn, xv, xo⟩ := x
  clear h hm
  by_cases h1 : xn.size ≤ 2147483647
  · have h1' : (xn.size : Int) ≤ 2147483647 := by omega
    have H1 := hid h1
    go_enter Tryd.func52, Tryd.ntmps52
    go_wp2_with fail
    refine (c1.out _ (by repeat (first | exact Kept.refl _ _ | refine Kept.alloc ?_ _))).mono ?_
    rintro e w3 ⟨hk3, b, rfl, ht⟩
    have HK3 := hid (((Kept.refl [] w).alloc _).trans_ hk3)
    have HT := hid ht
    clear hk3 c1 ht
    cases b with
    | false =>
      go_wp2_with fail
      go_ret
      exact ⟨HK3.out, _, rfl, nofun⟩
    | true =>
      go_wp2_with fail
      go_ret
      exact ⟨HK3.out, _, rfl, fun _ => ⟨H1.out, HT.out rfl⟩⟩
  · have hsz : (xn.size : Int) ≤ 140737488355328 := by have := HM.out; simp only at this; omega
    have h1' : (2147483647 : Int) < xn.size := by omega
    go_enter Tryd.func52, Tryd.ntmps52
    go_wp2_with fail
    go_ret
    exact ⟨(by repeat (first | exact Kept.refl _ _ | exact HK3.out | refine Kept.alloc ?_ _ | (refine Kept.setCell ?_ (.inr (by simp)) _))), _, rfl, nofun⟩
set_option maxRecDepth 100000 in
set_option maxHeartbeats 4000000 in
theorem zfits5_calls (B : Nat) (v : Value) (xs : List SubD) (w : World) (h : SubSl w B v xs) (hB : B ≤ w.heap.size) (hm : LimUs 140737488355328 xs) : Calls Tryd.prog 37 #[v] w (Told w (If (LimUs 2147483647 xs))) := by
  obtain ⟨A, c, rfl, -, hF, hS⟩ := h
  have HF := hid hF
  have HS := hid hS
  clear hS
  have HM := hid hm.2
  have hn' : (xs.length : Int) ≤ 140737488355328 := by have := hm.1; omega
  have HBB := hid hB
  obtain ⟨n, hnn⟩ : ∃ n, n = xs.length := ⟨_, rfl⟩
  have HN := hid hnn
  rw [← hnn] at HF hn' ⊢
  clear hF hm hB hnn
  by_cases hbig : n ≤ 2147483647
  · have hb : (n : Int) ≤ 2147483647 := by omega
    go_enter Tryd.func37, Tryd.ntmps37
    go_wp2_with fail
    go_loopw [10] (fun iv wr => ∃ k : Nat, k ≤ n ∧ iv = .int .i64 k ∧ Hid (Kept [] w wr) ∧ Hid (∀ i o, i < k → xs[i]? = some o → LimU 2147483647 o)) (fun iv _ => n - (RowKit.intOf iv).toNat)
    case atStart => exact ⟨0, by omega, rfl, hid (Kept.refl _ _), hid (fun i o h => absurd h (by omega))⟩
    case round =>
      obtain ⟨k, hk, rfl, hK, hP⟩ := hrel
      by_cases hlt : k < n
      · obtain ⟨g, o, x, rfl, hg, hxk, hmem, hR⟩ := at_kept HF.out SubD.len hK.out HBB.out hlt
        have HR := hid hR
        have HX := hid hxk
        have HP := hid (And.intro (HS.out x hmem) (HM.out x hmem)); have HO := hid (OptSl.one HP.out.1)
        have hlt' : (k : Int) < n := by omega
        clear hR hxk hg
        go_wp2_with (first
          | (refine wpList_load_mid rfl Uty (.tmp 12) rfl g (o + k * 2) rfl x.cells _ HR.out Tryd.underlying36 rfl infoU ?_)
          | (refine wpList_store_kept rfl Uty (.tmp 4) (.tmp 13) rfl wr.heap.size x.cells.toArray rfl rfl Uty _ (Blk.new wr Uty _) (sub_sz x) rfl (sub_all x HO.out) ?_; intro w2 h1 h2 h3; have HR2 := hid (blk_range h1.out); have HK2 := hid ((hK.out.alloc _).trans h2.out (by simp; exact hK.out.size)); clear h1 h2 h3)
          | (refine wpList_load_mid rfl Uty (.tmp 4) rfl wr.heap.size 0 rfl x.cells _ HR2.out Tryd.underlying36 rfl infoU ?_)
          | fail)
        refine (zfits6_calls B x w2 (HP.out.1.below (HK2.out.below HBB.out (by simp))) (Nat.le_trans HBB.out HK2.out.size) HP.out.2).mono ?_
        rintro e w3 ⟨hk3, b, rfl, ht⟩
        have HK3 := hid (HK2.out.trans_ hk3)
        have HT := hid ht
        clear hk3 ht
        cases b with
        | false =>
          go_wp2_with fail
          go_ret
          exact ⟨HK3.out, _, rfl, nofun⟩
        | true =>
          have HP2 := hid (all_snoc hP.out HX.out (HT.out rfl))
          go_wp2_with fail
          go_roundw
          case rel => exact ⟨k + 1, by omega, by go_num, HK3, HP2⟩
          case measure => simp [RowKit.intOf]; omega
      · have hlt' : ¬ (k : Int) < n := by omega
        obtain rfl : k = n := by omega
        go_wp2_with fail
        go_ret
        exact ⟨hK.out, _, rfl, fun _ => ⟨by have := HN.out; omega, of_all HN.out hP.out⟩⟩
  · have hb : (2147483647 : Int) < (n : Int) := by omega
    go_enter Tryd.func37, Tryd.ntmps37
    go_wp2_with fail
    go_ret
    exact ⟨(by repeat (first | exact Kept.refl _ _ | exact HK3.out | refine Kept.alloc ?_ _ | (refine Kept.setCell ?_ (.inr (by simp)) _))), _, rfl, nofun⟩
set_option maxRecDepth 100000 in
set_option maxHeartbeats 4000000 in
theorem zfits2_calls (B : Nat) (x : SecD) (w : World) (h : OptSl w B x.ov x.opts) (h' : SubSl w B x.sv x.subs) (hB : B ≤ w.heap.size) (hm : LimS 140737488355328 x) : Calls Tryd.prog 19 #[.agg x.cells.toArray] w (Told w (If (LimS 2147483647 x))) := by
  have c1 := hid (fun (w' : World) (hk : Kept [] w w') => zfits3_calls B x.ov x.opts w' (h.below (hk.below hB (by simp))) (Nat.le_trans hB hk.size) hm.2.1)
  have c2 := hid (fun (w' : World) (hk : Kept [] w w') => zfits5_calls B x.sv x.subs w' (h'.below (hk.below hB (by simp))) (Nat.le_trans hB hk.size) hm.2.2)
  have HM := hid hm.1
  obtain ⟨xn, xv, xo, yv, yo⟩ := x
  clear h h' hm
  by_cases h1 : xn.size ≤ 2147483647
  · have h1' : (xn.size : Int) ≤ 2147483647 := by omega
    have H1 := hid h1
    have HB0 := hid (Blk.new w Sty #[.string xn, xv, yv])
    go_enter Tryd.func19, Tryd.ntmps19
    go_wp2_with fail
    refine (c1.out _ (by repeat (first | exact Kept.refl _ _ | refine Kept.alloc ?_ _))).mono ?_
    rintro e w3 ⟨hk3, b, rfl, ht⟩
    have HK3 := hid (((Kept.refl [] w).alloc _).trans_ hk3)
    have q2 := (HB0.out.kept hk3 (by simp)).cell 2 rfl
    have HT := hid ht
    clear hk3 c1 ht
    cases b with
    | false =>
      go_wp2_with fail
      go_ret
      exact ⟨HK3.out, _, rfl, nofun⟩
    | true =>
      go_wp2_with fail
      refine (c2.out _ HK3.out).mono ?_
      rintro e w4 ⟨hk4, b, rfl, ht⟩
      have HK4 := hid (HK3.out.trans_ hk4)
      have HT2 := hid ht
      clear hk4 c2 q2 ht
      cases b with
      | false =>
        go_wp2_with fail
        go_ret
        exact ⟨HK4.out, _, rfl, nofun⟩
      | true =>
        go_wp2_with fail
        go_ret
        exact ⟨HK4.out, _, rfl, fun _ => ⟨H1.out, HT.out rfl, HT2.out rfl⟩⟩
  · have hsz : (xn.size : Int) ≤ 140737488355328 := by have := HM.out; simp only at this; omega
    have h1' : (2147483647 : Int) < xn.size := by omega
    go_enter Tryd.func19, Tryd.ntmps19
    go_wp2_with fail
    go_ret
    exact ⟨(by repeat (first | exact Kept.refl _ _ | exact HK3.out | refine Kept.alloc ?_ _ | (refine Kept.setCell ?_ (.inr (by simp)) _))), _, rfl, nofun⟩
set_option maxRecDepth 100000 in
set_option maxHeartbeats 4000000 in
theorem zfits1_calls (B : Nat) (v : Value) (xs : List SecD) (w : World) (h : SecSl w B v xs) (hB : B ≤ w.heap.size) (hm : LimSs 140737488355328 xs) : Calls Tryd.prog 9 #[v] w (Told w (If (LimSs 2147483647 xs))) := by
  obtain ⟨A, c, rfl, -, hF, hS⟩ := h
  have HF := hid hF
  have HS := hid hS
  clear hS
  have HM := hid hm.2
  have hn' : (xs.length : Int) ≤ 140737488355328 := by have := hm.1; omega
  have HBB := hid hB
  obtain ⟨n, hnn⟩ : ∃ n, n = xs.length := ⟨_, rfl⟩
  have HN := hid hnn
  rw [← hnn] at HF hn' ⊢
  clear hF hm hB hnn
  by_cases hbig : n ≤ 2147483647
  · have hb : (n : Int) ≤ 2147483647 := by omega
    go_enter Tryd.func9, Tryd.ntmps9
    go_wp2_with fail
    go_loopw [10] (fun iv wr => ∃ k : Nat, k ≤ n ∧ iv = .int .i64 k ∧ Hid (Kept [] w wr) ∧ Hid (∀ i o, i < k → xs[i]? = some o → LimS 2147483647 o)) (fun iv _ => n - (RowKit.intOf iv).toNat)
    case atStart => exact ⟨0, by omega, rfl, hid (Kept.refl _ _), hid (fun i o h => absurd h (by omega))⟩
    case round =>
      obtain ⟨k, hk, rfl, hK, hP⟩ := hrel
      by_cases hlt : k < n
      · obtain ⟨g, o, x, rfl, hg, hxk, hmem, hR⟩ := at_kept HF.out SecD.len hK.out HBB.out hlt
        have HR := hid hR
        have HX := hid hxk
        have HP := hid (And.intro (HS.out x hmem) (HM.out x hmem)); have HO := hid (OptSl.one HP.out.1.1); have HO2 := hid (SubSl.one HP.out.1.2)
        have hlt' : (k : Int) < n := by omega
        clear hR hxk hg
        go_wp2_with (first
          | (refine wpList_load_mid rfl Sty (.tmp 12) rfl g (o + k * 3) rfl x.cells _ HR.out Tryd.underlying34 rfl infoS ?_)
          | (refine wpList_store_kept rfl Sty (.tmp 4) (.tmp 13) rfl wr.heap.size x.cells.toArray rfl rfl Sty _ (Blk.new wr Sty _) (sec_sz x) rfl (sec_all x HO.out HO2.out) ?_; intro w2 h1 h2 h3; have HR2 := hid (blk_range h1.out); have HK2 := hid ((hK.out.alloc _).trans h2.out (by simp; exact hK.out.size)); clear h1 h2 h3)
          | (refine wpList_load_mid rfl Sty (.tmp 4) rfl wr.heap.size 0 rfl x.cells _ HR2.out Tryd.underlying34 rfl infoS ?_)
          | fail)
        refine (zfits2_calls B x w2 (HP.out.1.1.below (HK2.out.below HBB.out (by simp))) (HP.out.1.2.below (HK2.out.below HBB.out (by simp))) (Nat.le_trans HBB.out HK2.out.size) HP.out.2).mono ?_
        rintro e w3 ⟨hk3, b, rfl, ht⟩
        have HK3 := hid (HK2.out.trans_ hk3)
        have HT := hid ht
        clear hk3 ht
        cases b with
        | false =>
          go_wp2_with fail
          go_ret
          exact ⟨HK3.out, _, rfl, nofun⟩
        | true =>
          have HP2 := hid (all_snoc hP.out HX.out (HT.out rfl))
          go_wp2_with fail
          go_roundw
          case rel => exact ⟨k + 1, by omega, by go_num, HK3, HP2⟩
          case measure => simp [RowKit.intOf]; omega
      · have hlt' : ¬ (k : Int) < n := by omega
        obtain rfl : k = n := by omega
        go_wp2_with fail
        go_ret
        exact ⟨hK.out, _, rfl, fun _ => ⟨by have := HN.out; omega, of_all HN.out hP.out⟩⟩
  · have hb : (2147483647 : Int) < (n : Int) := by omega
    go_enter Tryd.func9, Tryd.ntmps9
    go_wp2_with fail
    go_ret
    exact ⟨(by repeat (first | exact Kept.refl _ _ | exact HK3.out | refine Kept.alloc ?_ _ | (refine Kept.setCell ?_ (.inr (by simp)) _))), _, rfl, nofun⟩
theorem few_lim {s : SecD} (h : LimS 2147483647 s) : Few s := ⟨by have := h.2.1.1; omega, by have := h.2.2.1; omega, fun x hx => by have := (h.2.2.2 x hx).2.1; omega⟩
theorem short_lim {s : SecD} (h : LimS 2147483647 s) : Short s := ⟨by have := h.1; omega, fun o ho => by have := h.2.1.2 o ho; unfold LimO at this; omega, fun x hx => ⟨by have := (h.2.2.2 x hx).1; omega, fun o ho => by have := (h.2.2.2 x hx).2.2 o ho; unfold LimO at this; omega⟩⟩
end Go.Proofs.YtmhcbgmnhcfhfaaDoor.cf
