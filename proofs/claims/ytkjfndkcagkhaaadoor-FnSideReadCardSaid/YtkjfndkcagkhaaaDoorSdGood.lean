/- zzFits40, sideGood, spec.ChannelText. -/
import Derived.Test.YtkjfndkcagkhaaaDoorSdSpec
set_option linter.unusedVariables false
attribute [local go_sem ↓] Go.wp_at_zero Go.wp_at_succ
namespace Go.Proofs.YtkjfndkcagkhaaaDoor.side
open Go.RowKit Lib frm mem text pkt rd opn

attribute [local go_sem] ChD.cells
set_option maxRecDepth 100000 in
theorem fits41_calls (x : ChD) (D : Option Addr) (d : Nat) (hx : x.tv = .slice D x.t.length d) (hl : x.t.length ≤ 140737488355328) (w : World) : Calls Tryd.prog 36 #[.agg x.cells.toArray] w (Says w Any) := by
  obtain ⟨ch, tv, t⟩ := x
  simp only at hx hl
  subst hx
  obtain ⟨q, hq⟩ : ∃ q, q = t.length := ⟨_, rfl⟩
  have hq' : (q : Int) ≤ 140737488355328 := by omega
  show Calls _ _ #[.agg #[.int .i64 ch, .slice D t.length d]] _ _
  rw [← hq]
  clear hl hq
  by_cases h1 : (2147483647 : Int) < q
  · go_enter Tryd.func36, Tryd.ntmps36
    go_wp2_with fail
    go_ret
    exact ⟨(Below.refl _ _).alloc (Nat.le_refl _) _, _, rfl, trivial⟩
  · have h1' : (q : Int) ≤ 2147483647 := by omega
    go_enter Tryd.func36, Tryd.ntmps36
    go_wp2_with fail
    go_ret
    exact ⟨(Below.refl _ _).alloc (Nat.le_refl _) _, _, rfl, trivial⟩
set_option maxRecDepth 100000 in
set_option maxHeartbeats 4000000 in
theorem fits40_calls (A : Option Addr) (n c : Nat) (xs : List ChD) (w : World) (h : ChSl w w.heap.size A n xs) (hn : n ≤ 140737488355328) (hl : ∀ x ∈ xs, x.t.length ≤ 140737488355328) :
    Calls Tryd.prog 16 #[.slice A n c] w (Says w Any) := by
  have hn' : (n : Int) ≤ 140737488355328 := by omega
  have H := hid h
  have HL := hid hl
  clear h hl hn
  by_cases hbig : (2147483647 : Int) < n
  · go_enter Tryd.func16, Tryd.ntmps16
    go_wp2_with fail
    go_ret
    exact ⟨Below.refl _ _, _, rfl, trivial⟩
  · have hb : (n : Int) ≤ 2147483647 := by omega
    clear hbig
    go_enter Tryd.func16, Tryd.ntmps16
    go_wp2_with fail
    go_loopw [10] (fun iv wr => ∃ k : Nat, k ≤ n ∧ iv = .int .i64 k ∧ Hid (Kept [] w wr)) (fun iv _ => n - (RowKit.intOf iv).toNat)
    case atStart => exact ⟨0, by omega, rfl, hid (Kept.refl _ _)⟩
    case round =>
      obtain ⟨k, hk, rfl, hK⟩ := hrel
      by_cases hlt : k < n
      · obtain ⟨g, o, x, D, d, rfl, hxk, hmem, hR, hxt, hd, hB⟩ := H.out.at_ hK.out.nil_below hlt
        have HR := hid hR
        have HO := hid (show x.tv.oneCell' = true by rw [hxt]; rfl)
        have c1 := hid (fun w => fits41_calls x D d hxt (HL.out x hmem) w)
        have hlt' : (k : Int) < n := by omega
        clear hR hxk hmem hxt hd hB
        go_wp2_with (first
          | (refine wpList_load_mid rfl Cty (.tmp 12) rfl g (o + k * 2) rfl x.cells _ HR.out Tryd.underlying73 rfl infoC ?_)
          | (refine wpList_store_kept rfl Cty (.tmp 4) (.tmp 13) rfl wr.heap.size x.cells.toArray rfl rfl Cty _ (Blk.new wr Cty _) (ch_sz x) rfl (ch_all x HO.out) ?_; intro w2 h1 h2 h3; have HR2 := hid (blk_range h1.out); have HK2 := hid ((hK.out.alloc _).trans h2.out (by simp; exact hK.out.size)); clear h1 h2 h3)
          | (refine wpList_load_mid rfl Cty (.tmp 4) rfl wr.heap.size 0 rfl x.cells _ HR2.out Tryd.underlying73 rfl infoC ?_)
          | fail)
        refine (c1.out _).mono ?_
        rintro e w3 ⟨hk3, b, rfl, -⟩
        have HK3 := hid (HK2.out.trans_ (.of_below hk3))
        clear hk3
        cases b with
        | false =>
          go_wp2_with fail
          go_ret
          exact ⟨HK3.out.nil_below, _, rfl, trivial⟩
        | true =>
          go_wp2_with fail
          go_roundw
          case rel => exact ⟨k + 1, by omega, by go_num, HK3⟩
          case measure => simp [RowKit.intOf]; omega
      · have hlt' : ¬ (k : Int) < n := by omega
        go_wp2_with fail
        go_ret
        exact ⟨hK.out.nil_below, _, rfl, trivial⟩
theorem of_all {α : Type} {F : α → Prop} {xs : List α} {n : Nat} (hn : n = xs.length) (h : ∀ i o, i < n → xs[i]? = some o → F o) : ∀ o ∈ xs, F o := fun o ho => by
  obtain ⟨i, hi, rfl⟩ := List.getElem_of_mem ho
  exact h i _ (by omega) (List.getElem?_eq_getElem hi)
theorem all_snoc {α : Type} {F : α → Prop} {xs : List α} {k : Nat} {x : α} (h : ∀ i o, i < k → xs[i]? = some o → F o) (hx : xs[k]? = some x) (hF : F x) : ∀ i o, i < k + 1 → xs[i]? = some o → F o := fun i o hi ho => by
  by_cases e : i = k
  · subst e; rw [hx] at ho; injection ho with ho; subst ho; exact hF
  · exact h i o (by omega) ho
set_option maxRecDepth 100000 in
set_option maxHeartbeats 4000000 in
theorem sideGood_calls (A : Option Addr) (n c : Nat) (xs : List ChD) (w : World) (h : ChSl w w.heap.size A n xs) (hn : n ≤ 140737488355328) (hl : ∀ x ∈ xs, x.t.length ≤ 140737488355328) :
    Calls Tryd.prog 17 #[.slice A n c] w (Says w (ChsOk xs)) := by
  have hn' : (n : Int) ≤ 140737488355328 := by omega
  have H := hid h
  have HL := hid hl
  have HN : Hid (n = xs.length) := hid h.1.2.1.symm
  clear h hl hn
  go_enter Tryd.func17, Tryd.ntmps17
  go_wp2_with fail
  go_loopw [7] (fun iv wr => ∃ k : Nat, k ≤ n ∧ iv = .int .i64 k ∧ Hid (Kept [] w wr) ∧ Hid (∀ i o, i < k → xs[i]? = some o → ChOk o)) (fun iv _ => n - (RowKit.intOf iv).toNat)
  case atStart => exact ⟨0, by omega, rfl, hid (Kept.refl _ _), hid (fun i o h => absurd h (by omega))⟩
  case round =>
    obtain ⟨k, hk, rfl, hK, hP⟩ := hrel
    by_cases hlt : k < n
    · obtain ⟨g, o, x, D, d, rfl, hxk, hmem, hR, hxt, hd, hB⟩ := H.out.at_ hK.out.nil_below hlt
      have HR := hid hR
      have HX := hid hxk
      have HO := hid (show x.tv.oneCell' = true by rw [hxt]; rfl)
      obtain ⟨q, hq⟩ : ∃ q, q = x.t.length := ⟨_, rfl⟩
      have hq' : (q : Int) ≤ 140737488355328 := by have := HL.out x hmem; omega
      rw [← hq] at hxt
      have HXT := hid hxt
      have HQ := hid hq
      have hlt' : (k : Int) < n := by omega
      clear hR hxk hmem hxt hd hB hq
      have step : ∀ (hc : x.ch = 1 ∨ x.ch = 2) (h0 : q ≠ 0) (h6 : q ≤ 60000), ∀ i o, i < k + 1 → xs[i]? = some o → ChOk o := fun hc h0 h6 => all_snoc hP.out HX.out ⟨hc, fun e => h0 (by rw [HQ.out, e]; rfl), by rw [← HQ.out]; exact h6⟩
      have HST := hid step
      clear step
      by_cases hc1 : x.ch = 1
      · have HC1 := hid hc1
        clear hc1
        by_cases h0 : (q : Int) = 0
        all_goals by_cases h6 : (60000 : Int) < q
        all_goals
          go_wp2_with (first
            | (refine wpList_load_mid rfl Cty (.tmp 9) rfl g (o + k * 2) rfl x.cells _ HR.out Tryd.underlying73 rfl infoC ?_)
            | (refine wpList_store_kept rfl Cty (.tmp 4) (.tmp 10) rfl wr.heap.size x.cells.toArray rfl rfl Cty _ (Blk.new wr Cty _) (ch_sz x) rfl (ch_all x HO.out) ?_; intro w2 h1 h2 h3; have q0 : w2.cell? ⟨wr.heap.size, 0, none⟩ = some (.int .i64 x.ch) := h1.out.cell 0 rfl; have q1 : w2.cell? ⟨wr.heap.size, 1, none⟩ = some (.slice D q d) := (by rw [← HXT.out]; exact h1.out.cell 1 rfl); have HK2 := hid ((hK.out.alloc _).trans h2.out (by simp; exact hK.out.size)); clear h1 h2 h3; have hc1 := HC1.out)
            | fail)
        · omega
        · go_ret
          exact ⟨HK2.out.nil_below, _, rfl, nofun⟩
        · go_ret
          exact ⟨HK2.out.nil_below, _, rfl, nofun⟩
        · clear q0 q1
          go_roundw
          case rel => exact ⟨k + 1, by omega, by go_num, HK2, hid (HST.out (.inl HC1.out) (by omega) (by omega))⟩
          case measure => simp [RowKit.intOf]; omega
      · by_cases hc2 : x.ch = 2
        · have HC2 := hid hc2
          clear hc1 hc2
          by_cases h0 : (q : Int) = 0
          all_goals by_cases h6 : (60000 : Int) < q
          all_goals
            go_wp2_with (first
              | (refine wpList_load_mid rfl Cty (.tmp 9) rfl g (o + k * 2) rfl x.cells _ HR.out Tryd.underlying73 rfl infoC ?_)
              | (refine wpList_store_kept rfl Cty (.tmp 4) (.tmp 10) rfl wr.heap.size x.cells.toArray rfl rfl Cty _ (Blk.new wr Cty _) (ch_sz x) rfl (ch_all x HO.out) ?_; intro w2 h1 h2 h3; have q0 : w2.cell? ⟨wr.heap.size, 0, none⟩ = some (.int .i64 x.ch) := h1.out.cell 0 rfl; have q1 : w2.cell? ⟨wr.heap.size, 1, none⟩ = some (.slice D q d) := (by rw [← HXT.out]; exact h1.out.cell 1 rfl); have HK2 := hid ((hK.out.alloc _).trans h2.out (by simp; exact hK.out.size)); clear h1 h2 h3; have hc1 := HC2.out)
              | fail)
          · omega
          · go_ret
            exact ⟨HK2.out.nil_below, _, rfl, nofun⟩
          · go_ret
            exact ⟨HK2.out.nil_below, _, rfl, nofun⟩
          · clear q0 q1
            go_roundw
            case rel => exact ⟨k + 1, by omega, by go_num, HK2, hid (HST.out (.inr HC2.out) (by omega) (by omega))⟩
            case measure => simp [RowKit.intOf]; omega
        · have HC3 := hid (And.intro hc1 hc2)
          clear hc1 hc2
          go_wp2_with (first
            | (refine wpList_load_mid rfl Cty (.tmp 9) rfl g (o + k * 2) rfl x.cells _ HR.out Tryd.underlying73 rfl infoC ?_)
            | (refine wpList_store_kept rfl Cty (.tmp 4) (.tmp 10) rfl wr.heap.size x.cells.toArray rfl rfl Cty _ (Blk.new wr Cty _) (ch_sz x) rfl (ch_all x HO.out) ?_; intro w2 h1 h2 h3; have q0 : w2.cell? ⟨wr.heap.size, 0, none⟩ = some (.int .i64 x.ch) := h1.out.cell 0 rfl; have q1 : w2.cell? ⟨wr.heap.size, 1, none⟩ = some (.slice D q d) := (by rw [← HXT.out]; exact h1.out.cell 1 rfl); have HK2 := hid ((hK.out.alloc _).trans h2.out (by simp; exact hK.out.size)); clear h1 h2 h3; have hc1 := HC3.out.1; have hc2 := HC3.out.2)
            | fail)
          go_ret
          exact ⟨HK2.out.nil_below, _, rfl, nofun⟩
    · have hlt' : ¬ (k : Int) < n := by omega
      obtain rfl : k = n := by omega
      by_cases h60 : (k : Int) ≤ 60
      · go_wp2_with fail
        go_ret
        exact ⟨hK.out.nil_below, _, rfl, fun _ => ⟨by have := HN.out; omega, of_all HN.out hP.out⟩⟩
      · go_wp2_with fail
        go_ret
        exact ⟨hK.out.nil_below, _, rfl, fun e => by simp at e⟩
end Go.Proofs.YtkjfndkcagkhaaaDoor.side
