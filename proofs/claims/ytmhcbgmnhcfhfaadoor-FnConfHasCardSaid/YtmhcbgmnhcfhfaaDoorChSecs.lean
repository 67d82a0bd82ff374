/- impl.sectionsOf. Printed by gen_chsecs.py. -/
import Derived.Test.YtmhcbgmnhcfhfaaDoorChSetOpt
import Derived.Test.YtmhcbgmnhcfhfaaDoorHeld
set_option linter.unusedVariables false
attribute [local go_sem ↓] Go.wp_at_zero Go.wp_at_succ
namespace Go.Proofs.YtmhcbgmnhcfhfaaDoor.cf
open Go.RowKit Lib mem opn frm strs

theorem infoSub3 : (Tryd.prog.info? Uty).map (fun i => (i.zero, i.size, i.bytes)) = some (some (.agg #[.string ⟨#[]⟩, .slice none 0 0]), 2, 40) := by kernel_rfl
theorem infoSec3 : (Tryd.prog.info? Sty).map (fun i => (i.zero, i.size, i.bytes)) = some (some (.agg #[.string ⟨#[]⟩, .slice none 0 0, .slice none 0 0]), 3, 64) := by kernel_rfl
theorem three_new (w : World) (a b c : Value) (e : TypeId) : Reads (w.alloc (.cells #[a, b, c] e)) (w.heap.size + 1) 3 (some ⟨w.heap.size, 0, none⟩) 1 [a, b, c] :=
  ⟨rfl, fun _ => ⟨_, rfl, by simp, fun j u hu => by
    rw [Lib.addr_add, Nat.zero_add, Lib.cell_of_heap (heap_alloc_new w _) j]
    match j, hu with
    | 0, hu => exact hu
    | 1, hu => exact hu
    | 2, hu => exact hu⟩⟩
def OptO (w : World) (v : Value) (os : List OptD) : Prop := w.ownsRow 0 Oty 2 v os.length (os.flatMap OptD.cells)
def SubO (w : World) (v : Value) (us : List SubD) : Prop := w.ownsRow 0 Uty 2 v us.length (us.flatMap SubD.cells)
def PlainU (w : World) (u u2 : SubD) : Prop := u2.name = u.name ∧ u2.opts = u.opts ∧ OptO w u2.ov u2.opts
def PlainS (w : World) (s s2 : SecD) : Prop := s2.name = s.name ∧ s2.opts = s.opts ∧ OptO w s2.ov s2.opts ∧ SubO w s2.sv s2.subs ∧ All2 (PlainU w) s.subs s2.subs
theorem OptO.ty {ts : List TypeId} {w w' : World} {v : Value} {os : List OptD} (h : OptO w v os) (hT : Ty ts w w') (h1 : Oty ∈ ts) : OptO w' v os := own_ty h hT h1
theorem PlainU.ty {ts : List TypeId} {w w' : World} {u u2 : SubD} (h : PlainU w u u2) (hT : Ty ts w w') (h1 : Oty ∈ ts) : PlainU w' u u2 := ⟨h.1, h.2.1, h.2.2.ty hT h1⟩
theorem PlainS.ty {ts : List TypeId} {w w' : World} {s s2 : SecD} (h : PlainS w s s2) (hT : Ty ts w w') (h1 : Oty ∈ ts) (h2 : Uty ∈ ts) : PlainS w' s s2 :=
  ⟨h.1, h.2.1, h.2.2.1.ty hT h1, own_ty h.2.2.2.1 hT h2, h.2.2.2.2.mono fun _ _ h => h.ty hT h1⟩
def PlainSecs (w : World) (ss : List SecD) (e : Ending) (w' : World) : Prop := ∃ v ss2, e = .returned v ∧ Kept [] w w' ∧ w'.ownsRow 0 Sty 3 v ss2.length (ss2.flatMap SecD.cells) ∧ All2 (PlainS w') ss ss2
attribute [local go_sem] OptD.cells SubD.cells SecD.cells
set_option maxRecDepth 100000 in
set_option maxHeartbeats 16000000 in
theorem sectionsOf_calls (v : Value) (xs : List SecD) (N : Nat) (w : World) (h : ConfP w v xs) (hn : xs.length ≤ 4294967295) (hz : ∀ s ∈ xs, Sized N s) (hN : N ≤ 4294967295) :
    Calls Tryd.prog 27 #[v] w (PlainSecs w xs) := by
  obtain ⟨gc, sv, rfl, hb, vs, hown, hall⟩ := h
  obtain ⟨A, c, rfl, hc⟩ := row_some hown
  obtain ⟨i0, hi, hz0, hz1, hz2⟩ := info_parts infoSec3
  obtain ⟨j0, hj, hy0, hy1, hy2⟩ := info_parts infoSub3
  have c1 : w.cell? ⟨gc, 1, none⟩ = some (.slice A xs.length c) := hb.cell 1 rfl
  have HO := hid hown
  have HA := hid hall
  have HS := hid hz
  have HNN := hid hN
  obtain ⟨n, hnn⟩ : ∃ n, n = xs.length := ⟨_, rfl⟩
  have HN := hid hnn
  rw [← hnn] at c1 hn
  have hn' : (n : Int) ≤ 4294967295 := by omega
  have HN1 := hid hn
  clear hb hown hall hc hnn hn hz hN
  go_enter Tryd.func27, Tryd.ntmps27
  go_wp2_with fail
  clear c1
  go_loopw [3, 14] (fun vv iv wr => ∃ k : Nat, k ≤ n ∧ iv = .int .i64 k ∧ Hid (Kept [] w wr) ∧ ∃ ss2, Hid (wr.ownsRow w.heap.size Sty 3 vv k (ss2.flatMap SecD.cells)) ∧ Hid (All2 (PlainS wr) (xs.take k) ss2)) (fun _ iv _ => n - (RowKit.intOf iv).toNat)
  case atStart => exact ⟨0, by omega, rfl, hid (Kept.refl _ _), [], hid (World.ownsRow_nil _ _ _ _), hid (by simpa using All2.nil)⟩
  case round =>
    obtain ⟨k, hk, rfl, hK, ss2, hR, hP⟩ := hrel
    obtain ⟨wo, rfl⟩ : ∃ wo, wo = wr := ⟨_, rfl⟩
    by_cases hlt : k < n
    · have hks : k < xs.length := by have := HN.out; omega
      obtain ⟨g2, o2, c2, u, e2, hu, hcell⟩ := own_at HO.out hks
      obtain ⟨a, x, ha, hx, hPx, hmem⟩ := HA.out.at_ hks
      rw [hu] at ha
      obtain rfl : u = a := by injection ha
      obtain ⟨gs, ov, svv, rfl, hbs, hov, us, hrow, hus⟩ := hPx
      injection e2 with eA _ ec
      subst eA
      obtain ⟨A3, n3, c3, rfl⟩ := hov.form
      obtain ⟨D, d, rfl, hdc⟩ := row_some hrow
      have HX := hid hx
      have HBS := hid (hbs.kept hK.out (by simp))
      have HOV := hid (hov.kept hK.out)
      have HRW := hid (own_ty (ts := [PU]) hrow (.of_kept hK.out) (by simp))
      have HUS := hid (show All2 (SP wo) us x.subs from hus.mono fun _ _ h => h.ty (ts := [TO, PO, TU]) (.of_kept hK.out) (by simp) (by simp) (by simp))
      have HSZ := hid (HS.out x hmem)
      have hcl := (hK.out.cell (p := ⟨g2, o2 + k, none⟩) (World.block_lt_of_cell? _ _ hcell) (by simp)).trans hcell
      have hlt' : (k : Int) < n := by omega
      have hk20 : k + 1 ≤ 4294967295 := by have := HN1.out; omega
      clear hu ha hx hmem hks ec hbs hcell hov hrow hus hdc
      go_wp2_with fail
      clear hcl
      obtain ⟨m, hmm⟩ : ∃ m, m = x.subs.length := ⟨_, rfl⟩
      have HMM := hid hmm
      have HM1 := hid (show m ≤ 4294967295 by have := HSZ.out.u; have := HNN.out; omega)
      have hm1 : (m : Int) ≤ 4294967295 := by have := HM1.out; omega
      clear hmm
      obtain ⟨C, hC0, hC1, hC2, hCk, hCo, hCi⟩ : ∃ C : World → Prop, C wo.drew ∧ (∀ w', C w' → w'.cell? ⟨gs, 0, none⟩ = some (.string x.name)) ∧ (∀ w', C w' → w'.cell? ⟨gs, 1, none⟩ = some (.slice A3 n3 c3)) ∧ (∀ w' w'', C w' → Kept [] w' w'' → C w'') ∧ (∀ w', C w' → Kept [] wo w') ∧ (∀ w', Kept [] wo w' → C w') :=
        ⟨fun w' => Kept [] wo w', (Kept.refl _ wo).drew, fun w' h => (HBS.out.kept h (by simp)).cell 0 rfl, fun w' h => (HBS.out.kept h (by simp)).cell 1 rfl, fun _ _ h h' => h.trans_ h', fun _ h => h, fun _ h => h⟩
      try dsimp only [Act.put]
      refine wp_region_held_drew (S := C) (by kernel_rfl) hC0 (fun _ => ?_)
      refine held.take 0 (.pointer (some ⟨gs, 0, none⟩)) rfl (by kernel_rfl) (fun _ _ _ h => h) (Or.inl ⟨by rfl, fun wq hq => by have e0 := hC1 wq hq; have e1 := hC2 wq hq; go_simp⟩) hC0 ?_
      refine held.take 1 (.pointer (some ⟨gs, 0, none⟩)) rfl (by kernel_rfl) (fun _ _ _ h => h) (Or.inl ⟨by rfl, fun wq hq => by have e0 := hC1 wq hq; have e1 := hC2 wq hq; go_simp⟩) hC0 ?_
      refine held.take 2 (.pointer (some ⟨gs, 0, none⟩)) rfl (by kernel_rfl) (fun _ _ _ h => h) (Or.inl ⟨by rfl, fun wq hq => by have e0 := hC1 wq hq; have e1 := hC2 wq hq; go_simp⟩) hC0 ?_
      refine held.take 3 (.string x.name) rfl (by kernel_rfl) (fun _ _ _ h => h) (Or.inl ⟨by rfl, fun wq hq => by have e0 := hC1 wq hq; have e1 := hC2 wq hq; go_simp⟩) hC0 ?_
      refine held.take 4 (.pointer (some ⟨gs, 0, none⟩)) rfl (by kernel_rfl) (fun _ _ _ h => h) (Or.inl ⟨by rfl, fun wq hq => by have e0 := hC1 wq hq; have e1 := hC2 wq hq; go_simp⟩) hC0 ?_
      refine held.take 5 (.pointer (some ⟨gs, 0, none⟩)) rfl (by kernel_rfl) (fun _ _ _ h => h) (Or.inl ⟨by rfl, fun wq hq => by have e0 := hC1 wq hq; have e1 := hC2 wq hq; go_simp⟩) hC0 ?_
      refine held.take 6 (.pointer (some ⟨gs, 1, none⟩)) rfl (by kernel_rfl) (fun _ _ _ h => h) (Or.inl ⟨by rfl, fun wq hq => by have e0 := hC1 wq hq; have e1 := hC2 wq hq; go_simp⟩) hC0 ?_
      refine held.take 7 (.slice A3 n3 c3) rfl (by kernel_rfl) (fun _ _ _ h => h) (Or.inl ⟨by rfl, fun wq hq => by have e0 := hC1 wq hq; have e1 := hC2 wq hq; go_simp⟩) hC0 ?_
      refine held.either 8 10 (by kernel_rfl) rfl rfl rfl rfl (fun K hK3 => ?_) (fun K hK3 => ?_)
      · go_simp
        refine (plainOptions_calls (.slice A3 n3 c3) x.opts _ (HOV.out.kept (hCo _ hC0)) (by have := HSZ.out.o; omega)).mono ?_
        rintro e w4 ⟨v4, rfl, hk4, ho4⟩
        obtain ⟨A4, c4, rfl, -⟩ := row_some ho4
        refine hK3 _ _ (hCk _ _ hC0 hk4) ?_
        clear hK3 K
        have hc4 := hCk _ _ hC0 hk4
        refine held.take 9 (.agg #[.string x.name, .slice A4 x.opts.length c4, .slice none 0 0]) rfl (by kernel_rfl) (fun _ _ _ h => h) (Or.inl ⟨by rfl, fun wq hq => by go_simp⟩) hc4 ?_
        refine held.forced 10 (by kernel_rfl) rfl rfl (fun K hK3 => ?_)
        go_simp
        refine hK3 _ _ (hCk _ _ hc4 ((Kept.refl [] w4).alloc _)) ?_
        clear hK3 K
        refine held.forced 11 (by kernel_rfl) rfl rfl (fun K hK3 => ?_)
        go_simp
        refine hK3 _ _ (hCk _ _ hc4 ((Kept.refl [] w4).alloc _)) ?_
        clear hK3 K
        refine wpAnyH_done (by kernel_rfl) ?_ _
        have HZ5 : Hid (wo.heap.size ≤ w4.heap.size) := hid (hCo _ hc4).size
        have HK5 : Hid (Kept [] wo (w4.alloc (.cells #[.string x.name, .slice A4 x.opts.length c4, .slice none 0 0] Sty))) := hid ((hCo _ hc4).alloc _)
        have HB5 : Hid (Blk (w4.alloc (.cells #[.string x.name, .slice A4 x.opts.length c4, .slice none 0 0] Sty)) w4.heap.size Sty #[.string x.name, .slice A4 x.opts.length c4, .slice none 0 0]) := hid (Blk.new w4 Sty _)
        have HO5 : Hid (OptO (w4.alloc (.cells #[.string x.name, .slice A4 x.opts.length c4, .slice none 0 0] Sty)) (.slice A4 x.opts.length c4) x.opts) := hid ((own_base ho4 (Nat.zero_le _)).alloc _)
        obtain ⟨b2, hb2⟩ : ∃ b2, b2 = w4.heap.size := ⟨_, rfl⟩
        rw [← hb2] at HB5 HZ5 ⊢
        clear hC0 hC1 hC2 hc4 hk4 ho4 hCk hCo hCi
        generalize w4.alloc (.cells #[.string x.name, .slice A4 x.opts.length c4, .slice none 0 0] Sty) = w5 at HB5 HK5 HO5 ⊢
        clear hb2
        have q2 : w5.cell? ⟨gs, 2, none⟩ = some (.slice D m d) := by rw [HMM.out]; exact (HBS.out.kept HK5.out (by simp)).cell 2 rfl
        go_wp2_with fail
        clear q2
        go_loopw [33] (fun iv wr => ∃ q : Nat, q ≤ m ∧ iv = .int .i64 q ∧ Hid (Kept [] wo wr) ∧ ∃ sv2 us2, Hid (Blk wr b2 Sty #[.string x.name, .slice A4 x.opts.length c4, sv2]) ∧ Hid (wr.ownsRow (b2 + 1) Uty 2 sv2 q (us2.flatMap SubD.cells)) ∧ Hid (All2 (PlainU wr) (x.subs.take q) us2) ∧ Hid (OptO wr (.slice A4 x.opts.length c4) x.opts)) (fun iv _ => m - (RowKit.intOf iv).toNat)
        case atStart => exact ⟨0, by omega, rfl, HK5, .slice none 0 0, [], HB5, hid (World.ownsRow_nil _ _ _ _), hid (by simpa using All2.nil), HO5⟩
        case round =>
          obtain ⟨q, hq, rfl, hK6, sv2, us2, hB6, hO6, hA6, hP6⟩ := hrel
          obtain ⟨wq, rfl⟩ : ∃ wq, wq = wr := ⟨_, rfl⟩
          by_cases hqm : q < m
          · have hqs : q < x.subs.length := by have := HMM.out; omega
            obtain ⟨g3, o3, c3', u, e3, hu, hcell⟩ := own_at HRW.out hqs
            obtain ⟨a, y, ha, hy, hPy, hmem⟩ := HUS.out.at_ hqs
            rw [hu] at ha
            obtain rfl : u = a := by injection ha
            obtain ⟨gu, ouv, rfl, hbu, hou⟩ := hPy
            injection e3 with eA _ ec
            subst eA
            obtain ⟨A7, n7, c7, rfl⟩ := hou.form
            have HY := hid hy
            have HBU := hid (hbu.kept hK6.out (by simp))
            have HOU := hid (hou.kept hK6.out)
            have HYS := hid (HSZ.out.p y hmem)
            have hcl := (hK6.out.cell (p := ⟨g3, o3 + q, none⟩) (World.block_lt_of_cell? _ _ hcell) (by simp)).trans hcell
            have hqm' : (q : Int) < m := by omega
            have hqM : q + 1 ≤ 4294967295 := by have := HM1.out; omega
            clear hu ha hy hmem hqs ec hbu hcell hou
            go_wp2_with fail
            clear hcl
            obtain ⟨C, hC0, hCf, hCk, hCo⟩ : ∃ C : World → Prop, C wq.drew ∧ (∀ w', C w' → w'.cell? ⟨b2, 2, none⟩ = some sv2 ∧ w'.cell? ⟨gu, 0, none⟩ = some (.string y.name) ∧ w'.cell? ⟨gu, 1, none⟩ = some (.slice A7 n7 c7)) ∧ (∀ w' w'', C w' → Kept [] w' w'' → C w'') ∧ (∀ w', C w' → Kept [] wq w') :=
              ⟨fun w' => Kept [] wq w', (Kept.refl _ wq).drew, fun w' h => ⟨(hB6.out.kept h (by simp)).cell 2 rfl, (HBU.out.kept h (by simp)).cell 0 rfl, (HBU.out.kept h (by simp)).cell 1 rfl⟩, fun _ _ h h' => h.trans_ h', fun _ h => h⟩
            try dsimp only [Act.put]
            refine tail.wp_region_mix C 9 0 3 (.pointer (some ⟨b2, 2, none⟩)) (by kernel_rfl) (by kernel_rfl) hC0 (fun _ _ _ h => h) (Or.inl ⟨by rfl, fun _ => by rfl⟩) ?_
            simp only [Act.put, List.setIfInBounds_toArray, List.set_cons_zero, List.set_cons_succ, List.take_succ_cons, List.take_zero, List.drop_succ_cons, List.drop_zero]
            iterate 9
              refine ⟨?_, Or.inl ⟨by rfl, fun wq hq => ?_⟩, fun _ _ _ h => h, ?_⟩
              rotate_left
              · obtain ⟨e0, e1, e2⟩ := hCf wq hq
                go_simp
                rfl
              simp only [Act.put, List.setIfInBounds_toArray, List.set_cons_zero, List.set_cons_succ]
            refine tail.wpPre_nil ?_
            refine wpQuiet_nil ?_
            intro w8 hc8
            refine tail.wpListC_step rfl fun K hK8 => ?_
            go_simp
            refine (plainOptions_calls (.slice A7 n7 c7) y.opts w8 (HOU.out.kept (hCo _ hc8)) (by have := HYS.out; omega)).mono ?_
            rintro e w9 ⟨v9, rfl, hk9, ho9⟩
            obtain ⟨A9, c9, rfl, -⟩ := row_some ho9
            have hc9 := hCk _ _ hc8 hk9
            refine hK8 _ _ hc9 ?_
            clear hK8 K
            refine tail.wpListC_step rfl fun K hK8 => ?_
            go_simp
            refine hK8 _ _ hc9 ?_
            clear hK8 K
            refine tail.wpListC_step rfl fun K hK8 => ?_
            go_simp
            refine hK8 _ _ (hCk _ _ hc9 ((Kept.refl [] w9).alloc _)) ?_
            clear hK8 K
            refine tail.wpListC_zero ?_
            have HK9 : Hid (Kept [] wq w9) := hid ((hCo _ hc8).trans_ hk9)
            have HO9 : Hid (OptO w9 (.slice A9 y.opts.length c9) y.opts) := hid (own_base ho9 (Nat.zero_le _))
            clear hC0 hCf hCk hCo hc8 hc9 hk9 ho9 C
            have HOA : Hid ((w9.alloc (.cells #[.string y.name, .slice A9 y.opts.length c9] Uty)).ownsRow (b2 + 1) Uty 2 sv2 q (us2.flatMap SubD.cells)) := hid ((own_ty (ts := [Uty]) hO6.out (.of_kept HK9.out) (by simp)).alloc _)
            have HBA : Hid (Blk (w9.alloc (.cells #[.string y.name, .slice A9 y.opts.length c9] Uty)) b2 Sty #[.string x.name, .slice A4 x.opts.length c4, sv2]) := hid ((hB6.out.kept HK9.out (by simp)).alloc _)
            have HRd := hid (two_new w9 (.string y.name) (.slice A9 y.opts.length c9) Uty)
            have HSz : Hid (b2 + 1 ≤ (w9.alloc (.cells #[.string y.name, .slice A9 y.opts.length c9] Uty)).heap.size) := hid (by have := HBA.out.lt; omega)
            go_wp2_with (at_builtin; refine wpList_append_any _ rfl (.tmp 38) (.tmp 49) _ rfl (b2 + 1) Uty j0 _ 2 40 Tryd.underlying32 hj hy0 hy1 hy2 (by rfl) (by omega) sv2 q _ rfl HOA.out (w9.heap.size + 1) (some ⟨w9.heap.size, 0, none⟩) 1 1 [.string y.name, .slice A9 y.opts.length c9] rfl HRd.out (by simp [Value.oneCell']) (by simp only [maxLen]; omega) (by omega) HSz.out ?_; intro v10 w10 hown hg hat; obtain ⟨A10, c10, rfl, -⟩ := row_some hown; have hb10 : Blk w10 b2 Sty #[.string x.name, .slice A4 x.opts.length c4, sv2] := Ty.own (ts := [Sty]) HOA.out hg (by decide) _ _ _ (by simp) HBA.out; have qs := hb10.cell 2 rfl; have fs := hb10.frozen 2; have H10 := hid (And.intro hown (And.intro hg hb10)); clear hown hg hat hb10)
            obtain ⟨hown, hg, hb10⟩ := H10.out
            have hTo : Ty [Oty] (w9.alloc (.cells #[.string y.name, .slice A9 y.opts.length c9] Uty)) (w10.setCell ⟨b2, 2, none⟩ (.slice A10 (q + 1) c10)) := (Ty.own HOA.out hg (by decide)).trans (Ty.set_ hb10 (by decide) 2 _)
            have hkw : Kept [] w9 (w9.alloc (.cells #[.string y.name, .slice A9 y.opts.length c9] Uty)) := (Kept.refl [] w9).alloc _
            have hT0 : Ty [Oty] wq (w10.setCell ⟨b2, 2, none⟩ (.slice A10 (q + 1) c10)) := (Ty.of_kept (HK9.out.trans_ hkw)).trans hTo
            have HX9 : Hid (PlainU (w10.setCell ⟨b2, 2, none⟩ (.slice A10 (q + 1) c10)) y ⟨y.name, .slice A9 y.opts.length c9, y.opts⟩) := hid ⟨rfl, rfl, (HO9.out.ty (ts := [Oty]) (.of_kept hkw) (by simp)).ty hTo (by simp)⟩
            have HA11 : Hid (All2 (PlainU (w10.setCell ⟨b2, 2, none⟩ (.slice A10 (q + 1) c10))) (x.subs.take (q + 1)) (us2 ++ [⟨y.name, .slice A9 y.opts.length c9, y.opts⟩])) := hid (by rw [take_snoc HY.out]; exact (hA6.out.mono fun _ _ h => h.ty hT0 (by simp)).snoc HX9.out)
            have HK11 : Hid (Kept [] wo (w10.setCell ⟨b2, 2, none⟩ (.slice A10 (q + 1) c10))) := hid ((kept_own ((hK6.out.trans_ HK9.out).alloc _) HOA.out (by have := HZ5.out; omega) hg).setCell (p := ⟨b2, 2, none⟩) (.inr HZ5.out) _)
            have HB11 : Hid (Blk (w10.setCell ⟨b2, 2, none⟩ (.slice A10 (q + 1) c10)) b2 Sty #[.string x.name, .slice A4 x.opts.length c4, .slice A10 (q + 1) c10]) := hid (by have := hb10.set_ 2 (.slice A10 (q + 1) c10); simpa using this)
            have HO11 : Hid ((w10.setCell ⟨b2, 2, none⟩ (.slice A10 (q + 1) c10)).ownsRow (b2 + 1) Uty 2 (.slice A10 (q + 1) c10) (q + 1) ((us2 ++ [(⟨y.name, .slice A9 y.opts.length c9, y.opts⟩ : SubD)]).flatMap SubD.cells)) := hid (by rw [List.flatMap_append]; have := own_ty (ts := [Uty]) hown (Ty.set_ hb10 (by decide) 2 (.slice A10 (q + 1) c10)) (by simp); simpa [SubD.cells] using this)
            have HP11 := hid (hP6.out.ty hT0 (by simp))
            clear hown hg hb10 hTo hT0 hkw H10 HX9
            go_roundw
            case rel => exact ⟨q + 1, by omega, by go_num, HK11, _, _, HB11, HO11, HA11, HP11⟩
            case measure => simp [RowKit.intOf]; omega
          · have hqm' : ¬ (q : Int) < m := by omega
            have hqe : q = m := by omega
            subst hqe
            obtain ⟨A6, c6, rfl, -⟩ := row_some hO6.out
            have r0 := hB6.out.cell 0 rfl
            have r1 := hB6.out.cell 1 rfl
            have r2 := hB6.out.cell 2 rfl
            have HRA : Hid ((wq.alloc (.cells #[.string x.name, .slice A4 x.opts.length c4, .slice A6 q c6] Sty)).ownsRow w.heap.size Sty 3 u3 k (ss2.flatMap SecD.cells)) := hid ((own_ty (ts := [Sty]) hR.out (.of_kept hK6.out) (by simp)).alloc _)
            have HKA : Hid (Kept [] w (wq.alloc (.cells #[.string x.name, .slice A4 x.opts.length c4, .slice A6 q c6] Sty))) := hid ((hK.out.trans_ hK6.out).alloc _)
            have HRd := hid (three_new wq (.string x.name) (.slice A4 x.opts.length c4) (.slice A6 q c6) Sty)
            go_wp2_with (at_builtin; refine wpList_append_any _ rfl (.tmp 53) (.tmp 55) _ rfl w.heap.size Sty i0 _ 3 64 Tryd.underlying28 hi hz0 hz1 hz2 (by rfl) (by omega) u3 k _ rfl HRA.out (wq.heap.size + 1) (some ⟨wq.heap.size, 0, none⟩) 1 1 [.string x.name, .slice A4 x.opts.length c4, .slice A6 q c6] rfl HRd.out (by simp [Value.oneCell']) (by simp only [maxLen]; omega) (by omega) HKA.out.size ?_; intro v12 w12 hown hg hat; have H12 := hid (And.intro hown hg); clear hown hg hat)
            obtain ⟨hown, hg⟩ := H12.out
            have hT : Ty [Oty, Uty] wq w12 := (Ty.of_kept ((Kept.refl [] wq).alloc _)).trans (Ty.own HRA.out hg (by decide))
            have e : x.subs.take q = x.subs := List.take_of_length_le (by have := HMM.out; omega)
            have hA6' := hA6.out
            rw [e] at hA6'
            have hl : us2.length = q := by rw [← hA6'.len, HMM.out]
            have HX12 : PlainS w12 x ⟨x.name, .slice A4 x.opts.length c4, x.opts, .slice A6 q c6, us2⟩ := ⟨rfl, rfl, hP6.out.ty hT (by simp), by show w12.ownsRow 0 Uty 2 (.slice A6 q c6) us2.length _; rw [hl]; exact own_base (own_ty hO6.out hT (by simp)) (Nat.zero_le _), hA6'.mono fun _ _ h => h.ty hT (by simp)⟩
            have HA12 : Hid (All2 (PlainS w12) (xs.take (k + 1)) (ss2 ++ [⟨x.name, .slice A4 x.opts.length c4, x.opts, .slice A6 q c6, us2⟩])) := hid (by rw [take_snoc HX.out]; exact (hP.out.mono fun _ _ h => (h.ty (ts := [Oty, Uty]) (.of_kept hK6.out) (by simp) (by simp)).ty hT (by simp) (by simp)).snoc HX12)
            have HK12 : Hid (Kept [] w w12) := hid (kept_own HKA.out HRA.out (Nat.le_refl _) hg)
            have HO12 : Hid (w12.ownsRow w.heap.size Sty 3 v12 (k + 1) ((ss2 ++ [(⟨x.name, .slice A4 x.opts.length c4, x.opts, .slice A6 q c6, us2⟩ : SecD)]).flatMap SecD.cells)) := hid (by rw [List.flatMap_append]; simpa [SecD.cells] using hown)
            clear hown hg hT e hA6' hl HX12 H12 r0 r1 r2
            go_roundw
            case rel => exact ⟨k + 1, by omega, by go_num, HK12, _, HO12, HA12⟩
            case measure => simp [RowKit.intOf]; omega
      · go_simp
        refine hK3 _ _ (hCk _ _ hC0 ((Kept.refl [] _).alloc _)) ?_
        clear hK3 K
        have hCa := hCk _ _ hC0 ((Kept.refl [] wo.drew).alloc (.cells #[.string ⟨#[]⟩, .slice none 0 0, .slice none 0 0] Sty))
        have hBa := Blk.new wo.drew Sty #[.string ⟨#[]⟩, .slice none 0 0, .slice none 0 0]
        refine held.forced 8 (by kernel_rfl) rfl rfl (fun K hK3 => ?_)
        go_simp
        refine (plainOptions_calls (.slice A3 n3 c3) x.opts _ (HOV.out.kept (hCo _ hCa)) (by have := HSZ.out.o; omega)).mono ?_
        rintro e w4 ⟨v4, rfl, hk4, ho4⟩
        obtain ⟨A4, c4, rfl, -⟩ := row_some ho4
        have hc4 := hCk _ _ hCa hk4
        have hB4 := hBa.kept hk4 (by simp)
        refine hK3 _ _ hc4 ?_
        clear hK3 K
        refine held.take 9 (.agg #[.string x.name, .slice A4 x.opts.length c4, .slice none 0 0]) rfl (by kernel_rfl) (fun _ _ _ h => h) (Or.inl ⟨by rfl, fun wq hq => by go_simp⟩) hc4 ?_
        have r0 : w4.cell? ⟨wo.heap.size, 0, none⟩ = some (.string ⟨#[]⟩) := hB4.cell 0 rfl
        have r1 : w4.cell? ⟨wo.heap.size, 1, none⟩ = some (.slice none 0 0) := hB4.cell 1 rfl
        have r2 : w4.cell? ⟨wo.heap.size, 2, none⟩ = some (.slice none 0 0) := hB4.cell 2 rfl
        have f0 : w4.frozen? ⟨wo.heap.size, 0, none⟩ = false := hB4.frozen 0
        have f1 : w4.frozen? ⟨wo.heap.size, 1, none⟩ = false := hB4.frozen 1
        have f2 : w4.frozen? ⟨wo.heap.size, 2, none⟩ = false := hB4.frozen 2
        refine held.forced 11 (by kernel_rfl) rfl rfl (fun K hK3 => ?_)
        go_simp
        have hb1 := hB4.set_ 0 (.string x.name)
        have hb2 := hb1.set_ 1 (.slice A4 x.opts.length c4)
        have hb3 := hb2.set_ 2 (.slice none 0 0)
        have hsz : wo.heap.size ≤ wo.heap.size := Nat.le_refl _
        have HK5 : Hid (Kept [] wo (((w4.setCell ⟨wo.heap.size, 0, none⟩ (.string x.name)).setCell ⟨wo.heap.size, 1, none⟩ (.slice A4 x.opts.length c4)).setCell ⟨wo.heap.size, 2, none⟩ (.slice none 0 0))) := hid ((((hCo _ hc4).setCell (p := ⟨wo.heap.size, 0, none⟩) (.inr hsz) _).setCell (p := ⟨wo.heap.size, 1, none⟩) (.inr hsz) _).setCell (p := ⟨wo.heap.size, 2, none⟩) (.inr hsz) _)
        have HB5 : Hid (Blk (((w4.setCell ⟨wo.heap.size, 0, none⟩ (.string x.name)).setCell ⟨wo.heap.size, 1, none⟩ (.slice A4 x.opts.length c4)).setCell ⟨wo.heap.size, 2, none⟩ (.slice none 0 0)) wo.heap.size Sty #[.string x.name, .slice A4 x.opts.length c4, .slice none 0 0]) := hid (by simpa using hb3)
        have HO5 : Hid (OptO (((w4.setCell ⟨wo.heap.size, 0, none⟩ (.string x.name)).setCell ⟨wo.heap.size, 1, none⟩ (.slice A4 x.opts.length c4)).setCell ⟨wo.heap.size, 2, none⟩ (.slice none 0 0)) (.slice A4 x.opts.length c4) x.opts) := hid (show OptO _ _ _ from OptO.ty (ts := [Oty]) (own_base ho4 (Nat.zero_le _)) (((Ty.set_ hB4 (by decide) 0 _).trans (Ty.set_ hb1 (by decide) 1 _)).trans (Ty.set_ hb2 (by decide) 2 _)) (by simp))
        refine hK3 _ _ (hCi _ HK5.out) ?_
        clear hK3 K
        refine wpAnyH_done (by kernel_rfl) ?_ _
        have HZ5 : Hid (wo.heap.size ≤ wo.heap.size) := hid hsz
        obtain ⟨b2, hbb⟩ : ∃ b2, b2 = wo.heap.size := ⟨_, rfl⟩
        clear hC0 hC1 hC2 hc4 hk4 ho4 hCk hCo hCi hCa hBa hB4 hb1 hb2 hb3 r0 r1 r2 f0 f1 f2 hsz
        generalize ((w4.setCell ⟨wo.heap.size, 0, none⟩ (.string x.name)).setCell ⟨wo.heap.size, 1, none⟩ (.slice A4 x.opts.length c4)).setCell ⟨wo.heap.size, 2, none⟩ (.slice none 0 0) = w5 at HB5 HK5 HO5 ⊢
        rw [← hbb] at HB5 ⊢
        have HZ5 : Hid (wo.heap.size ≤ b2) := hid (by omega)
        clear hbb
        have q2 : w5.cell? ⟨gs, 2, none⟩ = some (.slice D m d) := by rw [HMM.out]; exact (HBS.out.kept HK5.out (by simp)).cell 2 rfl
        go_wp2_with fail
        clear q2
        go_loopw [33] (fun iv wr => ∃ q : Nat, q ≤ m ∧ iv = .int .i64 q ∧ Hid (Kept [] wo wr) ∧ ∃ sv2 us2, Hid (Blk wr b2 Sty #[.string x.name, .slice A4 x.opts.length c4, sv2]) ∧ Hid (wr.ownsRow (b2 + 1) Uty 2 sv2 q (us2.flatMap SubD.cells)) ∧ Hid (All2 (PlainU wr) (x.subs.take q) us2) ∧ Hid (OptO wr (.slice A4 x.opts.length c4) x.opts)) (fun iv _ => m - (RowKit.intOf iv).toNat)
        case atStart => exact ⟨0, by omega, rfl, HK5, .slice none 0 0, [], HB5, hid (World.ownsRow_nil _ _ _ _), hid (by simpa using All2.nil), HO5⟩
        case round =>
          obtain ⟨q, hq, rfl, hK6, sv2, us2, hB6, hO6, hA6, hP6⟩ := hrel
          obtain ⟨wq, rfl⟩ : ∃ wq, wq = wr := ⟨_, rfl⟩
          by_cases hqm : q < m
          · have hqs : q < x.subs.length := by have := HMM.out; omega
            obtain ⟨g3, o3, c3', u, e3, hu, hcell⟩ := own_at HRW.out hqs
            obtain ⟨a, y, ha, hy, hPy, hmem⟩ := HUS.out.at_ hqs
            rw [hu] at ha
            obtain rfl : u = a := by injection ha
            obtain ⟨gu, ouv, rfl, hbu, hou⟩ := hPy
            injection e3 with eA _ ec
            subst eA
            obtain ⟨A7, n7, c7, rfl⟩ := hou.form
            have HY := hid hy
            have HBU := hid (hbu.kept hK6.out (by simp))
            have HOU := hid (hou.kept hK6.out)
            have HYS := hid (HSZ.out.p y hmem)
            have hcl := (hK6.out.cell (p := ⟨g3, o3 + q, none⟩) (World.block_lt_of_cell? _ _ hcell) (by simp)).trans hcell
            have hqm' : (q : Int) < m := by omega
            have hqM : q + 1 ≤ 4294967295 := by have := HM1.out; omega
            clear hu ha hy hmem hqs ec hbu hcell hou
            go_wp2_with fail
            clear hcl
            obtain ⟨C, hC0, hCf, hCk, hCo⟩ : ∃ C : World → Prop, C wq.drew ∧ (∀ w', C w' → w'.cell? ⟨b2, 2, none⟩ = some sv2 ∧ w'.cell? ⟨gu, 0, none⟩ = some (.string y.name) ∧ w'.cell? ⟨gu, 1, none⟩ = some (.slice A7 n7 c7)) ∧ (∀ w' w'', C w' → Kept [] w' w'' → C w'') ∧ (∀ w', C w' → Kept [] wq w') :=
              ⟨fun w' => Kept [] wq w', (Kept.refl _ wq).drew, fun w' h => ⟨(hB6.out.kept h (by simp)).cell 2 rfl, (HBU.out.kept h (by simp)).cell 0 rfl, (HBU.out.kept h (by simp)).cell 1 rfl⟩, fun _ _ h h' => h.trans_ h', fun _ h => h⟩
            try dsimp only [Act.put]
            refine tail.wp_region_mix C 9 0 3 (.pointer (some ⟨b2, 2, none⟩)) (by kernel_rfl) (by kernel_rfl) hC0 (fun _ _ _ h => h) (Or.inl ⟨by rfl, fun _ => by rfl⟩) ?_
            simp only [Act.put, List.setIfInBounds_toArray, List.set_cons_zero, List.set_cons_succ, List.take_succ_cons, List.take_zero, List.drop_succ_cons, List.drop_zero]
            iterate 9
              refine ⟨?_, Or.inl ⟨by rfl, fun wq hq => ?_⟩, fun _ _ _ h => h, ?_⟩
              rotate_left
              · obtain ⟨e0, e1, e2⟩ := hCf wq hq
                go_simp
                rfl
              simp only [Act.put, List.setIfInBounds_toArray, List.set_cons_zero, List.set_cons_succ]
            refine tail.wpPre_nil ?_
            refine wpQuiet_nil ?_
            intro w8 hc8
            refine tail.wpListC_step rfl fun K hK8 => ?_
            go_simp
            refine (plainOptions_calls (.slice A7 n7 c7) y.opts w8 (HOU.out.kept (hCo _ hc8)) (by have := HYS.out; omega)).mono ?_
            rintro e w9 ⟨v9, rfl, hk9, ho9⟩
            obtain ⟨A9, c9, rfl, -⟩ := row_some ho9
            have hc9 := hCk _ _ hc8 hk9
            refine hK8 _ _ hc9 ?_
            clear hK8 K
            refine tail.wpListC_step rfl fun K hK8 => ?_
            go_simp
            refine hK8 _ _ hc9 ?_
            clear hK8 K
            refine tail.wpListC_step rfl fun K hK8 => ?_
            go_simp
            refine hK8 _ _ (hCk _ _ hc9 ((Kept.refl [] w9).alloc _)) ?_
            clear hK8 K
            refine tail.wpListC_zero ?_
            have HK9 : Hid (Kept [] wq w9) := hid ((hCo _ hc8).trans_ hk9)
            have HO9 : Hid (OptO w9 (.slice A9 y.opts.length c9) y.opts) := hid (own_base ho9 (Nat.zero_le _))
            clear hC0 hCf hCk hCo hc8 hc9 hk9 ho9 C
            have HOA : Hid ((w9.alloc (.cells #[.string y.name, .slice A9 y.opts.length c9] Uty)).ownsRow (b2 + 1) Uty 2 sv2 q (us2.flatMap SubD.cells)) := hid ((own_ty (ts := [Uty]) hO6.out (.of_kept HK9.out) (by simp)).alloc _)
            have HBA : Hid (Blk (w9.alloc (.cells #[.string y.name, .slice A9 y.opts.length c9] Uty)) b2 Sty #[.string x.name, .slice A4 x.opts.length c4, sv2]) := hid ((hB6.out.kept HK9.out (by simp)).alloc _)
            have HRd := hid (two_new w9 (.string y.name) (.slice A9 y.opts.length c9) Uty)
            have HSz : Hid (b2 + 1 ≤ (w9.alloc (.cells #[.string y.name, .slice A9 y.opts.length c9] Uty)).heap.size) := hid (by have := HBA.out.lt; omega)
            go_wp2_with (at_builtin; refine wpList_append_any _ rfl (.tmp 38) (.tmp 49) _ rfl (b2 + 1) Uty j0 _ 2 40 Tryd.underlying32 hj hy0 hy1 hy2 (by rfl) (by omega) sv2 q _ rfl HOA.out (w9.heap.size + 1) (some ⟨w9.heap.size, 0, none⟩) 1 1 [.string y.name, .slice A9 y.opts.length c9] rfl HRd.out (by simp [Value.oneCell']) (by simp only [maxLen]; omega) (by omega) HSz.out ?_; intro v10 w10 hown hg hat; obtain ⟨A10, c10, rfl, -⟩ := row_some hown; have hb10 : Blk w10 b2 Sty #[.string x.name, .slice A4 x.opts.length c4, sv2] := Ty.own (ts := [Sty]) HOA.out hg (by decide) _ _ _ (by simp) HBA.out; have qs := hb10.cell 2 rfl; have fs := hb10.frozen 2; have H10 := hid (And.intro hown (And.intro hg hb10)); clear hown hg hat hb10)
            obtain ⟨hown, hg, hb10⟩ := H10.out
            have hTo : Ty [Oty] (w9.alloc (.cells #[.string y.name, .slice A9 y.opts.length c9] Uty)) (w10.setCell ⟨b2, 2, none⟩ (.slice A10 (q + 1) c10)) := (Ty.own HOA.out hg (by decide)).trans (Ty.set_ hb10 (by decide) 2 _)
            have hkw : Kept [] w9 (w9.alloc (.cells #[.string y.name, .slice A9 y.opts.length c9] Uty)) := (Kept.refl [] w9).alloc _
            have hT0 : Ty [Oty] wq (w10.setCell ⟨b2, 2, none⟩ (.slice A10 (q + 1) c10)) := (Ty.of_kept (HK9.out.trans_ hkw)).trans hTo
            have HX9 : Hid (PlainU (w10.setCell ⟨b2, 2, none⟩ (.slice A10 (q + 1) c10)) y ⟨y.name, .slice A9 y.opts.length c9, y.opts⟩) := hid ⟨rfl, rfl, (HO9.out.ty (ts := [Oty]) (.of_kept hkw) (by simp)).ty hTo (by simp)⟩
            have HA11 : Hid (All2 (PlainU (w10.setCell ⟨b2, 2, none⟩ (.slice A10 (q + 1) c10))) (x.subs.take (q + 1)) (us2 ++ [⟨y.name, .slice A9 y.opts.length c9, y.opts⟩])) := hid (by rw [take_snoc HY.out]; exact (hA6.out.mono fun _ _ h => h.ty hT0 (by simp)).snoc HX9.out)
            have HK11 : Hid (Kept [] wo (w10.setCell ⟨b2, 2, none⟩ (.slice A10 (q + 1) c10))) := hid ((kept_own ((hK6.out.trans_ HK9.out).alloc _) HOA.out (by have := HZ5.out; omega) hg).setCell (p := ⟨b2, 2, none⟩) (.inr HZ5.out) _)
            have HB11 : Hid (Blk (w10.setCell ⟨b2, 2, none⟩ (.slice A10 (q + 1) c10)) b2 Sty #[.string x.name, .slice A4 x.opts.length c4, .slice A10 (q + 1) c10]) := hid (by have := hb10.set_ 2 (.slice A10 (q + 1) c10); simpa using this)
            have HO11 : Hid ((w10.setCell ⟨b2, 2, none⟩ (.slice A10 (q + 1) c10)).ownsRow (b2 + 1) Uty 2 (.slice A10 (q + 1) c10) (q + 1) ((us2 ++ [(⟨y.name, .slice A9 y.opts.length c9, y.opts⟩ : SubD)]).flatMap SubD.cells)) := hid (by rw [List.flatMap_append]; have := own_ty (ts := [Uty]) hown (Ty.set_ hb10 (by decide) 2 (.slice A10 (q + 1) c10)) (by simp); simpa [SubD.cells] using this)
            have HP11 := hid (hP6.out.ty hT0 (by simp))
            clear hown hg hb10 hTo hT0 hkw H10 HX9
            go_roundw
            case rel => exact ⟨q + 1, by omega, by go_num, HK11, _, _, HB11, HO11, HA11, HP11⟩
            case measure => simp [RowKit.intOf]; omega
          · have hqm' : ¬ (q : Int) < m := by omega
            have hqe : q = m := by omega
            subst hqe
            obtain ⟨A6, c6, rfl, -⟩ := row_some hO6.out
            have r0 := hB6.out.cell 0 rfl
            have r1 := hB6.out.cell 1 rfl
            have r2 := hB6.out.cell 2 rfl
            have HRA : Hid ((wq.alloc (.cells #[.string x.name, .slice A4 x.opts.length c4, .slice A6 q c6] Sty)).ownsRow w.heap.size Sty 3 u3 k (ss2.flatMap SecD.cells)) := hid ((own_ty (ts := [Sty]) hR.out (.of_kept hK6.out) (by simp)).alloc _)
            have HKA : Hid (Kept [] w (wq.alloc (.cells #[.string x.name, .slice A4 x.opts.length c4, .slice A6 q c6] Sty))) := hid ((hK.out.trans_ hK6.out).alloc _)
            have HRd := hid (three_new wq (.string x.name) (.slice A4 x.opts.length c4) (.slice A6 q c6) Sty)
            go_wp2_with (at_builtin; refine wpList_append_any _ rfl (.tmp 53) (.tmp 55) _ rfl w.heap.size Sty i0 _ 3 64 Tryd.underlying28 hi hz0 hz1 hz2 (by rfl) (by omega) u3 k _ rfl HRA.out (wq.heap.size + 1) (some ⟨wq.heap.size, 0, none⟩) 1 1 [.string x.name, .slice A4 x.opts.length c4, .slice A6 q c6] rfl HRd.out (by simp [Value.oneCell']) (by simp only [maxLen]; omega) (by omega) HKA.out.size ?_; intro v12 w12 hown hg hat; have H12 := hid (And.intro hown hg); clear hown hg hat)
            obtain ⟨hown, hg⟩ := H12.out
            have hT : Ty [Oty, Uty] wq w12 := (Ty.of_kept ((Kept.refl [] wq).alloc _)).trans (Ty.own HRA.out hg (by decide))
            have e : x.subs.take q = x.subs := List.take_of_length_le (by have := HMM.out; omega)
            have hA6' := hA6.out
            rw [e] at hA6'
            have hl : us2.length = q := by rw [← hA6'.len, HMM.out]
            have HX12 : PlainS w12 x ⟨x.name, .slice A4 x.opts.length c4, x.opts, .slice A6 q c6, us2⟩ := ⟨rfl, rfl, hP6.out.ty hT (by simp), by show w12.ownsRow 0 Uty 2 (.slice A6 q c6) us2.length _; rw [hl]; exact own_base (own_ty hO6.out hT (by simp)) (Nat.zero_le _), hA6'.mono fun _ _ h => h.ty hT (by simp)⟩
            have HA12 : Hid (All2 (PlainS w12) (xs.take (k + 1)) (ss2 ++ [⟨x.name, .slice A4 x.opts.length c4, x.opts, .slice A6 q c6, us2⟩])) := hid (by rw [take_snoc HX.out]; exact (hP.out.mono fun _ _ h => (h.ty (ts := [Oty, Uty]) (.of_kept hK6.out) (by simp) (by simp)).ty hT (by simp) (by simp)).snoc HX12)
            have HK12 : Hid (Kept [] w w12) := hid (kept_own HKA.out HRA.out (Nat.le_refl _) hg)
            have HO12 : Hid (w12.ownsRow w.heap.size Sty 3 v12 (k + 1) ((ss2 ++ [(⟨x.name, .slice A4 x.opts.length c4, x.opts, .slice A6 q c6, us2⟩ : SecD)]).flatMap SecD.cells)) := hid (by rw [List.flatMap_append]; simpa [SecD.cells] using hown)
            clear hown hg hT e hA6' hl HX12 H12 r0 r1 r2
            go_roundw
            case rel => exact ⟨k + 1, by omega, by go_num, HK12, _, HO12, HA12⟩
            case measure => simp [RowKit.intOf]; omega
    · have hnl : ¬ (k : Int) < n := by omega
      go_wp2_with fail
      go_ret
      have hkn : k = n := by omega
      subst hkn
      have h1 := hP.out
      rw [List.take_of_length_le (by have := HN.out; omega)] at h1
      have h2 : ss2.length = k := by rw [← h1.len, HN.out]
      refine ⟨_, ss2, rfl, hK.out, ?_, h1⟩
      rw [h2]
      exact own_base hR.out (Nat.zero_le _)
end Go.Proofs.YtmhcbgmnhcfhfaaDoor.cf
