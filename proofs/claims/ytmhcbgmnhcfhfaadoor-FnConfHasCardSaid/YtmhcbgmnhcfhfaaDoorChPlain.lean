/- impl.plainOptions. -/
import Derived.Test.YtmhcbgmnhcfhfaaDoorChFind
set_option linter.unusedVariables false
attribute [local go_sem ↓] Go.wp_at_zero Go.wp_at_succ
namespace Go.Proofs.YtmhcbgmnhcfhfaaDoor.cf
open Go.RowKit Lib mem opn frm strs

theorem infoOpt3 : (Tryd.prog.info? Oty).map (fun i => (i.zero, i.size, i.bytes)) = some (some (.agg #[.string ⟨#[]⟩, .string ⟨#[]⟩]), 2, 32) := by kernel_rfl
theorem two_new (w : World) (a b : Value) (e : TypeId) : Reads (w.alloc (.cells #[a, b] e)) (w.heap.size + 1) 2 (some ⟨w.heap.size, 0, none⟩) 1 [a, b] :=
  ⟨rfl, fun _ => ⟨_, rfl, by simp, fun j u hu => by
    rw [Lib.addr_add, Nat.zero_add, Lib.cell_of_heap (heap_alloc_new w _) j]
    match j, hu with
    | 0, hu => exact hu
    | 1, hu => exact hu⟩⟩
def PlainOpts (w : World) (os : List OptD) (e : Ending) (w' : World) : Prop := ∃ v, e = .returned v ∧ Kept [] w w' ∧ w'.ownsRow w.heap.size Oty 2 v os.length (os.flatMap OptD.cells)
attribute [local go_sem] OptD.cells SubD.cells SecD.cells
set_option maxRecDepth 100000 in
set_option maxHeartbeats 8000000 in
theorem plainOptions_calls (v : Value) (xs : List OptD) (w : World) (h : OptsP w v xs) (hn : xs.length ≤ 1048577) :
    Calls Tryd.prog 44 #[v] w (PlainOpts w xs) := by
  obtain ⟨vs, hown, hall⟩ := h
  obtain ⟨A, c, rfl, hc⟩ := row_some hown
  obtain ⟨i0, hi, hz0, hz1, hz2⟩ := info_parts infoOpt3
  have HO := hid hown
  have HA := hid hall
  have hn' : (xs.length : Int) ≤ 1048577 := by omega
  obtain ⟨n, hnn⟩ : ∃ n, n = xs.length := ⟨_, rfl⟩
  have HNN := hid hnn
  have HN := hid hn
  rw [← hnn] at hn' ⊢
  clear hown hall hc hnn hn
  go_enter Tryd.func44, Tryd.ntmps44
  go_wp2_with fail
  go_loopw [3, 8] (fun vv iv wr => ∃ k : Nat, k ≤ n ∧ iv = .int .i64 k ∧ Hid (Kept [] w wr) ∧ Hid (wr.ownsRow w.heap.size Oty 2 vv k ((xs.take k).flatMap OptD.cells))) (fun _ iv _ => n - (RowKit.intOf iv).toNat)
  case atStart => exact ⟨0, by omega, rfl, hid (Kept.refl _ _), hid (World.ownsRow_nil _ _ _ _)⟩
  case round =>
    obtain ⟨k, hk, rfl, hK, hR⟩ := hrel
    by_cases hlt : k < n
    · have hks : k < xs.length := by have := HNN.out; omega
      obtain ⟨g2, o2, c2, u, e2, hu, hcell⟩ := own_at HO.out hks
      obtain ⟨a, x, ha, hx, hP, hmem⟩ := HA.out.at_ hks
      rw [hu] at ha
      obtain rfl : u = a := by injection ha
      obtain ⟨gp, rfl, hbp⟩ := hP
      injection e2 with eA _ ec
      subst eA
      have HX := hid hx
      have HB := hid hbp
      have hcl := (hK.out.cell (p := ⟨g2, o2 + k, none⟩) (World.block_lt_of_cell? _ _ hcell) (by simp)).trans hcell
      have hlt' : (k : Int) < n := by omega
      have hk20 : k + 1 ≤ 1048577 := by have := HN.out; have := HNN.out; omega
      clear hu ha hx hmem hks ec hbp hcell
      go_wp2_with fail
      obtain ⟨C, hC0, hC1, hC2, hCk, hCo⟩ : ∃ C : World → Prop, C wr.drew ∧ (∀ w', C w' → w'.cell? ⟨gp, 0, none⟩ = some (.string x.key)) ∧ (∀ w', C w' → w'.cell? ⟨gp, 1, none⟩ = some (.string x.val)) ∧ (∀ w' w'', C w' → Kept [] w' w'' → C w'') ∧ (∀ w', C w' → Kept [] wr w') :=
        ⟨fun w' => Kept [] wr w', (Kept.refl _ wr).drew, fun w' h => ((HB.out.kept hK.out (by simp)).kept h (by simp)).cell 0 rfl, fun w' h => ((HB.out.kept hK.out (by simp)).kept h (by simp)).cell 1 rfl, fun _ _ h h' => h.trans_ h', fun _ h => h⟩
      try dsimp only [Act.put]
      refine tail.wp_region_mix C 9 0 1 u3 (by kernel_rfl) (by kernel_rfl) hC0 (fun _ _ _ h => h) (Or.inl ⟨by rfl, fun _ => by rfl⟩) ?_
      simp only [Act.put, List.setIfInBounds_toArray, List.set_cons_zero, List.set_cons_succ, List.take_succ_cons, List.take_zero, List.drop_succ_cons, List.drop_zero]
      iterate 9
        refine ⟨?_, Or.inl ⟨by rfl, fun wq hq => ?_⟩, fun _ _ _ h => h, ?_⟩
        rotate_left
        · have e0 := hC1 wq hq
          have e1 := hC2 wq hq
          go_simp
          rfl
        simp only [Act.put, List.setIfInBounds_toArray, List.set_cons_zero, List.set_cons_succ]
      refine tail.wpPre_nil ?_
      refine wpQuiet_nil ?_
      intro w4 hc4
      refine tail.wpListC_step rfl fun K hK4 => ?_
      go_simp
      refine hK4 _ _ (hCk _ _ hc4 ((Kept.refl [] w4).alloc _)) ?_
      clear hK4 K
      refine tail.wpListC_zero ?_
      have HK4 := hid (hK.out.trans_ (hCo _ hc4))
      have HR4 : Hid (w4.ownsRow w.heap.size Oty 2 u3 k ((xs.take k).flatMap OptD.cells)) := hid (own_ty (ts := [Oty]) hR.out (.of_kept (hCo _ hc4)) (by simp))
      have HZ4 := hid HK4.out.size
      have HRA := hid (HR4.out.alloc (.cells #[.string x.key, .string x.val] Oty))
      have HKA := hid (HK4.out.alloc (.cells #[.string x.key, .string x.val] Oty))
      have HRd := hid (two_new w4 (.string x.key) (.string x.val) Oty)
      clear hC0 hC1 hC2 hCk hCo hc4 C
      go_wp2_with (at_builtin; refine wpList_append_any _ rfl (.tmp 12) (.tmp 22) _ rfl w.heap.size Oty i0 _ 2 32 Tryd.underlying31 hi hz0 hz1 hz2 (by rfl) (by omega) u3 k _ rfl HRA.out (w4.heap.size + 1) (some ⟨w4.heap.size, 0, none⟩) 1 1 [.string x.key, .string x.val] rfl HRd.out (by simp [Value.oneCell']) (by simp only [maxLen]; omega) (by omega) HKA.out.size ?_; intro v6 w6 hown6 hg6 hat6; have HO6 := hid hown6; have HW6 := hid (kept_own HKA.out HRA.out (Nat.le_refl _) hg6); clear hown6 hg6 hat6)
      have HO7 := hid (show w6.ownsRow w.heap.size Oty 2 v6 (k + 1) ((xs.take (k + 1)).flatMap OptD.cells) by
        rw [take_snoc HX.out, List.flatMap_append]
        have := HO6.out
        simpa [OptD.cells] using this)
      clear HO6
      go_roundw
      case rel => exact ⟨k + 1, by omega, by go_num, HW6, HO7⟩
      case measure => simp [RowKit.intOf]; omega
    · have hnl : ¬ (k : Int) < n := by omega
      go_wp2_with fail
      go_ret
      have hkn : k = n := by omega
      subst hkn
      have := hR.out
      rw [List.take_of_length_le (by have := HNN.out; omega)] at this
      exact ⟨_, rfl, hK.out, by rw [← HNN.out]; exact this⟩
end Go.Proofs.YtmhcbgmnhcfhfaaDoor.cf
