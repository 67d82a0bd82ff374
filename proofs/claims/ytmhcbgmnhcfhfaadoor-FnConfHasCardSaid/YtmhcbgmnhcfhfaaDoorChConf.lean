/- impl.configOf: a configuration made out of sections, whose rows are apart. Printed by gen_chconf.py. -/
import Derived.Test.YtmhcbgmnhcfhfaaDoorChApart
set_option linter.unusedVariables false
attribute [local go_sem ↓] Go.wp_at_zero Go.wp_at_succ
namespace Go.Proofs.YtmhcbgmnhcfhfaaDoor.cf
open Go.RowKit Lib mem opn frm strs

def MadeConf2 (w : World) (ss : List SecD) (e : Ending) (w' : World) : Prop := ∃ gc sv vs, e = .returned (.pointer (some ⟨gc, 0, none⟩)) ∧ Kept [] w w' ∧ ConfV w.heap.size w' gc sv vs ss
attribute [local go_sem] OptD.cells SubD.cells SecD.cells
set_option maxRecDepth 100000 in
set_option maxHeartbeats 16000000 in
theorem configOf2_calls (B : Nat) (v : Value) (xs : List SecD) (w : World) (h : SecSl w B v xs) (hB : B ≤ w.heap.size) (hn : xs.length ≤ 4294967295) (hm : ∀ s ∈ xs, Few s) :
    Calls Tryd.prog 23 #[v] w (MadeConf2 w xs) := by
  obtain ⟨A, c, rfl, hcap, hF, hS⟩ := h
  obtain ⟨i0, hi, hz0, hz1, hz2⟩ := infoPtr PS (by kernel_rfl)
  obtain ⟨j0, hj, hy0, hy1, hy2⟩ := infoPtr PU (by kernel_rfl)
  have HF := hid hF
  have HS := hid hS
  have HM := hid hm
  have hn' : (xs.length : Int) ≤ 4294967295 := by omega
  have HBB := hid hB
  obtain ⟨n, hnn⟩ : ∃ n, n = xs.length := ⟨_, rfl⟩
  have HNN := hid hnn
  have HN := hid hn
  have d0 := hid (fun w => new_calls w)
  rw [← hnn] at HF hn' ⊢
  clear hF hn hB hnn hS hm hcap
  go_enter Tryd.func23, Tryd.ntmps23
  go_wp2_with fail
  refine (d0.out _).mono ?_
  rintro e w0 ⟨rfl, rfl⟩
  go_wp2_with fail
  go_loopw [12] (fun iv wr => ∃ k : Nat, k ≤ n ∧ iv = .int .i64 k ∧ Hid (Kept [] w wr) ∧ ∃ sv vs, Hid (Blk wr w.heap.size TC #[.pointer none, sv, .slice none 0 0]) ∧ Hid (wr.ownsRow (w.heap.size + 1) PS 1 sv k vs) ∧ Hid (All2 (SecB w.heap.size wr) vs (xs.take k)) ∧ Hid (Apart wr vs)) (fun iv _ => n - (RowKit.intOf iv).toNat)
  case atStart => exact ⟨0, by omega, rfl, hid ((Kept.refl _ _).alloc _), .slice none 0 0, [], hid (Blk.new _ _ _), hid (World.ownsRow_nil _ _ _ _), hid (by simpa using All2.nil), hid (Apart.nil _)⟩
  case round =>
    obtain ⟨k, hk, rfl, hK, sv, vs, hC, hO, hA, hAP⟩ := hrel
    obtain ⟨wo, rfl⟩ : ∃ wo, wo = wr := ⟨_, rfl⟩
    by_cases hlt : k < n
    · obtain ⟨g, o, x, rfl, hg, hxk, hmem, hR⟩ := at_kept HF.out SecD.len hK.out HBB.out hlt
      have HR := hid hR
      have HXK := hid hxk
      have HF2 := hid (HM.out x hmem)
      have HS2 := hid (HS.out x hmem)
      have HOne := hid (And.intro (OptSl.one HS2.out.1) (SubSl.one HS2.out.2))
      have c1 := hid (fun w' (hk : Kept [] w w') => optionsOf_calls B x.ov x.opts w' (HS2.out.1.below (hk.below HBB.out (by simp))) (Nat.le_trans HBB.out hk.size) HF2.out.o)
      have hlt' : (k : Int) < n := by omega
      have hk20 : k + 1 ≤ 4294967295 := by have := HN.out; have := HNN.out; omega
      clear hR hxk hg hmem
      go_wp2_with (first
        | (refine wpList_load_mid rfl Sty (.tmp 14) rfl g (o + k * 3) rfl x.cells _ HR.out Tryd.underlying34 rfl infoS ?_)
        | (refine wpList_store_kept rfl Sty (.tmp 5) (.tmp 15) rfl wo.heap.size x.cells.toArray rfl rfl Sty _ (Blk.new wo Sty _) (sec_sz x) rfl (sec_all x HOne.out.1 HOne.out.2) ?_; intro w2 h1 h2 h3; have HB2 : Hid (Blk w2 wo.heap.size Sty x.cells.toArray) := hid h1.out; have HK2 : Hid (Kept [] wo w2) := hid (((Kept.refl [] wo).alloc _).trans h2.out (by simp)); clear h1 h2 h3))
      obtain ⟨C, hC0, hCf, hCk, hCo⟩ : ∃ C : World → Prop, C w2.drew ∧ (∀ w', C w' → w'.cell? ⟨wo.heap.size, 0, none⟩ = some (.string x.name) ∧ w'.cell? ⟨wo.heap.size, 1, none⟩ = some x.ov ∧ w'.cell? ⟨wo.heap.size, 2, none⟩ = some x.sv) ∧ (∀ w' w'', C w' → Kept [] w' w'' → C w'') ∧ (∀ w', C w' → Kept [] w2 w') :=
        ⟨fun w' => Kept [] w2 w', (Kept.refl _ w2).drew, fun w' h => ⟨(HB2.out.kept h (by simp)).cell 0 rfl, (HB2.out.kept h (by simp)).cell 1 rfl, (HB2.out.kept h (by simp)).cell 2 rfl⟩, fun _ _ h h' => h.trans_ h', fun _ h => h⟩
      dsimp only [Act.put]
      refine tail.wp_region_mix C 3 0 1 (.pointer (some ⟨wo.heap.size, 0, none⟩)) (by kernel_rfl) (by kernel_rfl) hC0 (fun _ _ _ h => h) (Or.inl ⟨by rfl, fun _ => by rfl⟩) ?_
      simp only [Act.put, List.setIfInBounds_toArray, List.set_cons_zero, List.set_cons_succ, List.take_succ_cons, List.take_zero, List.drop_succ_cons, List.drop_zero]
      iterate 3
        refine ⟨?_, Or.inl ⟨by rfl, fun wq hq => ?_⟩, fun _ _ _ h => h, ?_⟩
        rotate_left
        · obtain ⟨e0, e1, e2⟩ := hCf wq hq
          go_simp
          rfl
        simp only [Act.put, List.setIfInBounds_toArray, List.set_cons_zero, List.set_cons_succ]
      refine tail.wpPre_nil ?_
      refine wpQuiet_nil ?_
      intro w3 hc3
      refine tail.wpListC_step rfl fun K hK3 => ?_
      go_simp
      refine (c1.out _ (hK.out.trans_ (HK2.out.trans_ (hCo _ hc3)))).mono ?_
      rintro e w4 ⟨v4, rfl, hk4, ho4⟩
      obtain ⟨A4, n4, c4, rfl⟩ := ho4.form
      refine hK3 _ _ (hCk _ _ hc3 hk4) ?_
      clear hK3 K
      refine tail.wpListC_zero ?_
      obtain ⟨D, d, hsv, hdc, hSu, hSo⟩ := HS2.out.2
      obtain ⟨m, hmm⟩ : ∃ m, m = x.subs.length := ⟨_, rfl⟩
      rw [← hmm] at hSu hdc hsv
      have HK4 : Hid (Kept [] wo w4) := hid (HK2.out.trans_ ((hCo _ hc3).trans_ hk4))
      have HB4 := hid (HB2.out.kept ((hCo _ hc3).trans_ hk4) (by simp))
      have HO4 := hid ho4
      have q2 : ∀ o, (w4.alloc o).cell? ⟨wo.heap.size, 2, none⟩ = some (.slice D m d) := fun o => by rw [← hsv]; exact (HB4.out.alloc o).cell 2 rfl
      have hm1 : (m : Int) ≤ 4294967295 := by have := HF2.out.u; omega
      have HSu := hid hSu
      have HSo := hid hSo
      have HMM := hid hmm
      have HM1 := hid (show m ≤ 4294967295 by omega)
      clear hC0 hCf hCk hCo hc3 hk4 ho4 hsv hdc hSu hSo hmm
      go_wp2_with fail
      clear q2
      have HB5 := hid (Blk.new w4 TS #[.string x.name, (.slice A4 n4 c4), .slice none 0 0])
      have HK5 := hid (HK4.out.alloc (.cells #[.string x.name, (.slice A4 n4 c4), .slice none 0 0] TS))
      have HO5 := hid (HO4.out.kept ((Kept.refl [] w4).alloc (.cells #[.string x.name, (.slice A4 n4 c4), .slice none 0 0] TS)))
      have HZ4 := hid HK4.out.size
      obtain ⟨b2, hb2⟩ : ∃ b2, b2 = w4.heap.size := ⟨_, rfl⟩
      rw [← hb2] at HB5 HZ4 ⊢
      generalize w4.alloc (.cells #[.string x.name, (.slice A4 n4 c4), .slice none 0 0] TS) = w5 at *
      clear hb2 HK4 HB4 HO4
      go_loopw [26] (fun iv wr => ∃ q : Nat, q ≤ m ∧ iv = .int .i64 q ∧ Hid (Kept [] wo wr) ∧ ∃ sv2 vs2, Hid (Blk wr b2 TS #[.string x.name, (.slice A4 n4 c4), sv2]) ∧ Hid (wr.ownsRow (b2 + 1) PU 1 sv2 q vs2) ∧ Hid (All2 (SPb w.heap.size wr) vs2 (x.subs.take q)) ∧ Hid (OptsP wr (.slice A4 n4 c4) x.opts)) (fun iv _ => m - (RowKit.intOf iv).toNat)
      case atStart => exact ⟨0, by omega, rfl, HK5, .slice none 0 0, [], HB5, hid (World.ownsRow_nil _ _ _ _), hid (by simpa using All2.nil), HO5⟩
      case round =>
        obtain ⟨q, hq, rfl, hK6, sv2, vs2, hB6, hO6, hA6, hP6⟩ := hrel
        obtain ⟨wq, rfl⟩ : ∃ wq, wq = wr := ⟨_, rfl⟩
        by_cases hqm : q < m
        · obtain ⟨g2, o2, u, rfl, hg2, huk, humem, hR2⟩ := at_kept HSu.out SubD.len (hK.out.trans_ hK6.out) HBB.out hqm
          have HR2 := hid hR2
          have HUo := hid (HSo.out u humem)
          have HUf := hid (HF2.out.p u humem)
          have HU1 := hid (OptSl.one HUo.out)
          have c2 := hid (fun w' (hk : Kept [] w w') => optionsOf_calls B u.ov u.opts w' (HUo.out.below (hk.below HBB.out (by simp))) (Nat.le_trans HBB.out hk.size) HUf.out)
          have HUK := hid huk
          have hqm' : (q : Int) < m := by omega
          clear hR2 huk hg2 humem
          go_wp2_with (first
            | (refine wpList_load_mid rfl Uty (.tmp 28) rfl g2 (o2 + q * 2) rfl u.cells _ HR2.out Tryd.underlying36 rfl infoU ?_)
            | (refine wpList_store_kept rfl Uty (.tmp 8) (.tmp 29) rfl wq.heap.size u.cells.toArray rfl rfl Uty _ (Blk.new wq Uty _) (sub_sz u) rfl (sub_all u HU1.out) ?_; intro w7 h1 h2 h3; have HU7 : Hid (Blk w7 wq.heap.size Uty u.cells.toArray) := hid h1.out; have HK7 : Hid (Kept [] wq w7) := hid (((Kept.refl [] wq).alloc _).trans h2.out (by simp)); clear h1 h2 h3))
          obtain ⟨C, hC0, hCf, hCk, hCo⟩ : ∃ C : World → Prop, C w7.drew ∧ (∀ w', C w' → w'.cell? ⟨b2, 2, none⟩ = some sv2 ∧ w'.cell? ⟨wq.heap.size, 0, none⟩ = some (.string u.name) ∧ w'.cell? ⟨wq.heap.size, 1, none⟩ = some u.ov) ∧ (∀ w' w'', C w' → Kept [] w' w'' → C w'') ∧ (∀ w', C w' → Kept [] w7 w') :=
            ⟨fun w' => Kept [] w7 w', (Kept.refl _ w7).drew, fun w' h => ⟨((hB6.out.kept HK7.out (by simp)).kept h (by simp)).cell 2 rfl, (HU7.out.kept h (by simp)).cell 0 rfl, (HU7.out.kept h (by simp)).cell 1 rfl⟩, fun _ _ h h' => h.trans_ h', fun _ h => h⟩
          dsimp only [Act.put]
          refine tail.wp_region_mix C 8 0 4 (.pointer (some ⟨b2, 0, none⟩)) (by kernel_rfl) (by kernel_rfl) hC0 (fun _ _ _ h => h) (Or.inl ⟨by rfl, fun _ => by rfl⟩) ?_
          simp only [Act.put, List.setIfInBounds_toArray, List.set_cons_zero, List.set_cons_succ, List.take_succ_cons, List.take_zero, List.drop_succ_cons, List.drop_zero]
          iterate 8
            refine ⟨?_, Or.inl ⟨by rfl, fun wq hq => ?_⟩, fun _ _ _ h => h, ?_⟩
            rotate_left
            · obtain ⟨e0, e1, e2⟩ := hCf wq hq
              go_simp
              rfl
            simp only [Act.put, List.setIfInBounds_toArray, List.set_cons_zero, List.set_cons_succ]
          refine tail.wpPre_nil ?_
          refine wpQuiet_nil ?_
          intro w8 hc8
          refine tail.wpListC_step rfl fun K hK8 => ?_
          go_simp
          refine (c2.out _ ((hK.out.trans_ hK6.out).trans_ (HK7.out.trans_ (hCo _ hc8)))).mono ?_
          rintro e w9 ⟨v9, rfl, hk9, ho9⟩
          obtain ⟨A9, n9, c9, rfl⟩ := ho9.form
          have hc9 := hCk _ _ hc8 hk9
          refine hK8 _ _ hc9 ?_
          clear hK8 K
          refine tail.wpListC_step rfl fun K hK8 => ?_
          go_simp
          refine hK8 _ _ hc9 ?_
          clear hK8 K
          refine tail.wpListC_step rfl fun K hK8 => ?_
          go_simp
          refine hK8 _ _ (hCk _ _ hc9 ((Kept.refl [] w9).alloc _)) ?_
          clear hK8 K
          refine tail.wpListC_step rfl fun K hK8 => ?_
          go_simp
          refine hK8 _ _ (hCk _ _ hc9 (((Kept.refl [] w9).alloc _).alloc _)) ?_
          clear hK8 K
          refine tail.wpListC_zero ?_
          have HK9 : Hid (Kept [] wq w9) := hid (HK7.out.trans_ (hCo _ hc9))
          have HO9 := hid ho9
          clear hC0 hCf hCk hCo hc8 hc9 hk9 ho9
          have HOA : Hid (((w9.alloc (.cells #[.string u.name, .slice A9 n9 c9] TU)).alloc (.cells #[.pointer (some ⟨w9.heap.size, 0, none⟩)] PU)).ownsRow (b2 + 1) PU 1 sv2 q vs2) := hid (((own_ty (ts := [PU]) hO6.out (.of_kept HK9.out) (by simp)).alloc _).alloc _)
          have HBA : Hid (Blk ((w9.alloc (.cells #[.string u.name, .slice A9 n9 c9] TU)).alloc (.cells #[.pointer (some ⟨w9.heap.size, 0, none⟩)] PU)) b2 TS #[.string x.name, .slice A4 n4 c4, sv2]) := hid (((hB6.out.kept HK9.out (by simp)).alloc _).alloc _)
          have HRd : Hid (Reads ((w9.alloc (.cells #[.string u.name, .slice A9 n9 c9] TU)).alloc (.cells #[.pointer (some ⟨w9.heap.size, 0, none⟩)] PU)) (w9.heap.size + 2) 1 (some ⟨w9.heap.size + 1, 0, none⟩) 1 [.pointer (some ⟨w9.heap.size, 0, none⟩)]) := hid (by have := one_ptr (w9.alloc (.cells #[.string u.name, .slice A9 n9 c9] TU)) (.pointer (some ⟨w9.heap.size, 0, none⟩)) (e := PU) (B := w9.heap.size + 2) (by simp); simpa using this)
          have hqM : q + 1 ≤ 4294967295 := by have := HM1.out; omega
          have HSz : Hid (b2 + 1 ≤ ((w9.alloc (.cells #[.string u.name, .slice A9 n9 c9] TU)).alloc (.cells #[.pointer (some ⟨w9.heap.size, 0, none⟩)] PU)).heap.size) := hid (by have := HBA.out.lt; omega)
          go_wp2_with (at_builtin; refine wpList_append_any _ rfl (.tmp 34) (.tmp 42) _ rfl (b2 + 1) PU j0 _ 1 8 Tryd.underlying82 hj hy0 hy1 hy2 rfl (by omega) sv2 q vs2 rfl HOA.out (w9.heap.size + 2) (some ⟨w9.heap.size + 1, 0, none⟩) 1 1 [.pointer (some ⟨w9.heap.size, 0, none⟩)] rfl HRd.out (by simp [Value.oneCell']) (by simp only [maxLen]; omega) (by omega) HSz.out ?_; intro v10 w10 hown hg hat; obtain ⟨A10, c10, rfl, -⟩ := row_some hown; have hb10 : Blk w10 b2 TS #[.string x.name, .slice A4 n4 c4, sv2] := Ty.own (ts := [TS]) HOA.out hg (by decide) _ _ _ (by simp) HBA.out; have qs := hb10.cell 2 rfl; have fs := hb10.frozen 2; have H10 := hid (And.intro hown (And.intro hg hb10)); clear hown hg hat hb10)
          obtain ⟨hown, hg, hb10⟩ := H10.out
          have hT : Ty [TO, PO, TU] ((w9.alloc (.cells #[.string u.name, .slice A9 n9 c9] TU)).alloc (.cells #[.pointer (some ⟨w9.heap.size, 0, none⟩)] PU)) (w10.setCell ⟨b2, 2, none⟩ (.slice A10 (q + 1) c10)) := (Ty.own HOA.out hg (by decide)).trans (Ty.set_ hb10 (by decide) 2 _)
          have hT0 : Ty [TO, PO, TU] wq (w10.setCell ⟨b2, 2, none⟩ (.slice A10 (q + 1) c10)) := (Ty.of_kept ((HK9.out.alloc _).alloc _)).trans hT
          have hkw : Kept [] w9 ((w9.alloc (.cells #[.string u.name, .slice A9 n9 c9] TU)).alloc (.cells #[.pointer (some ⟨w9.heap.size, 0, none⟩)] PU)) := ((Kept.refl [] w9).alloc _).alloc _
          have hBw : w.heap.size ≤ w9.heap.size := by have := (hK.out.trans_ hK6.out).size; have := HK9.out.size; omega
          have HX : Hid (SPb w.heap.size (w10.setCell ⟨b2, 2, none⟩ (.slice A10 (q + 1) c10)) (.pointer (some ⟨w9.heap.size, 0, none⟩)) u) := hid ⟨_, _, rfl, hBw, hT _ _ _ (by simp) ((Blk.new w9 TU #[.string u.name, .slice A9 n9 c9]).alloc _), (HO9.out.kept hkw).ty hT (by simp) (by simp)⟩
          have HA11 : Hid (All2 (SPb w.heap.size (w10.setCell ⟨b2, 2, none⟩ (.slice A10 (q + 1) c10))) (vs2 ++ [.pointer (some ⟨w9.heap.size, 0, none⟩)]) (x.subs.take (q + 1))) := hid (by rw [take_snoc HUK.out]; exact (hA6.out.mono fun _ _ h => h.ty hT0 (by simp) (by simp) (by simp)).snoc HX.out)
          have HK11 : Hid (Kept [] wo (w10.setCell ⟨b2, 2, none⟩ (.slice A10 (q + 1) c10))) := hid ((kept_own (((hK6.out.trans_ HK9.out).alloc _).alloc _) HOA.out (by have := HZ4.out; omega) hg).setCell (p := ⟨b2, 2, none⟩) (.inr HZ4.out) _)
          have HB11 : Hid (Blk (w10.setCell ⟨b2, 2, none⟩ (.slice A10 (q + 1) c10)) b2 TS #[.string x.name, .slice A4 n4 c4, .slice A10 (q + 1) c10]) := hid (by have := hb10.set_ 2 (.slice A10 (q + 1) c10); simpa using this)
          have HO11 := hid (own_ty (ts := [PU]) hown (Ty.set_ hb10 (by decide) 2 (.slice A10 (q + 1) c10)) (by simp))
          have HP11 := hid (hP6.out.ty hT0 (by simp) (by simp))
          clear hown hg hb10 hT hT0 hkw H10
          go_roundw
          case rel => exact ⟨q + 1, by omega, by go_num, HK11, _, _, HB11, HO11, HA11, HP11⟩
          case measure => simp [RowKit.intOf]; omega
        · have hqm' : ¬ (q : Int) < m := by omega
          have hqe : q = m := by omega
          subst hqe
          have hb12 : Blk wq w.heap.size TC #[.pointer none, sv, .slice none 0 0] := hC.out.kept hK6.out (by simp)
          have q1 := hb12.cell 1 rfl
          have HBA : Hid (Blk (wq.alloc (.cells #[.pointer (some ⟨b2, 0, none⟩)] PS)) w.heap.size TC #[.pointer none, sv, .slice none 0 0]) := hid (hb12.alloc _)
          have HOA : Hid ((wq.alloc (.cells #[.pointer (some ⟨b2, 0, none⟩)] PS)).ownsRow (w.heap.size + 1) PS 1 sv k vs) := hid ((own_ty (ts := [PS]) hO.out (.of_kept hK6.out) (by simp)).alloc _)
          have HRd : Hid (Reads (wq.alloc (.cells #[.pointer (some ⟨b2, 0, none⟩)] PS)) (wq.heap.size + 1) 1 (some ⟨wq.heap.size, 0, none⟩) 1 [.pointer (some ⟨b2, 0, none⟩)]) := hid (one_ptr wq (.pointer (some ⟨b2, 0, none⟩)) (e := PS) (B := wq.heap.size + 1) (by omega))
          have HSz : Hid (w.heap.size + 1 ≤ (wq.alloc (.cells #[.pointer (some ⟨b2, 0, none⟩)] PS)).heap.size) := hid (by have := HBA.out.lt; omega)
          clear hb12
          go_wp2_with (at_builtin; refine wpList_append_any _ rfl (.tmp 51) (.tmp 53) _ rfl (w.heap.size + 1) PS i0 _ 1 8 Tryd.underlying89 hi hz0 hz1 hz2 rfl (by omega) sv k vs rfl HOA.out (wq.heap.size + 1) (some ⟨wq.heap.size, 0, none⟩) 1 1 [.pointer (some ⟨b2, 0, none⟩)] rfl HRd.out (by simp [Value.oneCell']) (by simp only [maxLen]; omega) (by omega) HSz.out ?_; intro v10 w10 hown hg hat; obtain ⟨A10, c10, rfl, -⟩ := row_some hown; have hb10 : Blk w10 w.heap.size TC #[.pointer none, sv, .slice none 0 0] := Ty.own (ts := [TC]) HOA.out hg (by decide) _ _ _ (by simp) HBA.out; have qs := hb10.cell 1 rfl; have fs := hb10.frozen 1; have H10 := hid (And.intro hown (And.intro hg hb10)); clear hown hg hat hb10)
          obtain ⟨hown, hg, hb10⟩ := H10.out
          have hT : Ty [TO, PO, TU, PU, TS] (wq.alloc (.cells #[.pointer (some ⟨b2, 0, none⟩)] PS)) (w10.setCell ⟨w.heap.size, 1, none⟩ (.slice A10 (k + 1) c10)) := (Ty.own HOA.out hg (by decide)).trans (Ty.set_ hb10 (by decide) 1 _)
          have hkw : Kept [] wq (wq.alloc (.cells #[.pointer (some ⟨b2, 0, none⟩)] PS)) := (Kept.refl [] wq).alloc _
          have hT0 : Ty [TO, PO, TU, PU, TS] wq (w10.setCell ⟨w.heap.size, 1, none⟩ (.slice A10 (k + 1) c10)) := (Ty.of_kept hkw).trans hT
          have e : x.subs.take q = x.subs := List.take_of_length_le (by have := HMM.out; omega)
          have hBs : w.heap.size ≤ b2 := by have := hK.out.size; have := HZ4.out; omega
          have HX : Hid (SecB w.heap.size (w10.setCell ⟨w.heap.size, 1, none⟩ (.slice A10 (k + 1) c10)) (.pointer (some ⟨b2, 0, none⟩)) x) := hid ⟨_, _, _, rfl, hBs, hT0 _ _ _ (by simp) hB6.out, hP6.out.ty hT0 (by simp) (by simp), vs2, by rw [← HMM.out]; exact own_base (own_ty hO6.out hT0 (by simp)) (by omega), by have := hA6.out.mono (fun _ _ h => h.ty hT0 (by simp) (by simp) (by simp)); rwa [e] at this⟩
          have HA11 : Hid (All2 (SecB w.heap.size (w10.setCell ⟨w.heap.size, 1, none⟩ (.slice A10 (k + 1) c10))) (vs ++ [.pointer (some ⟨b2, 0, none⟩)]) (xs.take (k + 1))) := hid (by rw [take_snoc HXK.out]; exact (hA.out.mono fun _ _ h => (h.kept hK6.out).ty hT0 (by simp) (by simp) (by simp) (by simp) (by simp)).snoc HX.out)
          have hTS0 : Ty [TS] wo (w10.setCell ⟨w.heap.size, 1, none⟩ (.slice A10 (k + 1) c10)) := (Ty.of_kept hK6.out).trans (fun g t cs ht hb => hT0 g t cs (by simp at ht; simp [ht]) hb)
          have HAP11 : Hid (Apart (w10.setCell ⟨w.heap.size, 1, none⟩ (.slice A10 (k + 1) c10)) (vs ++ [.pointer (some ⟨b2, 0, none⟩)])) := hid (hAP.out.snoc (all2_p hA.out) hTS0 (fun x hx => by
            obtain ⟨nm', ov', sv', hb', hx⟩ := hx
            obtain ⟨_, _, rfl⟩ := blk3 (hT0 _ _ _ (by simp) hB6.out) hb'
            have h1 := (hO6.out.lt x hx).1
            have h2 := HZ4.out
            omega))
          have HK11 : Hid (Kept [] w (w10.setCell ⟨w.heap.size, 1, none⟩ (.slice A10 (k + 1) c10))) := hid ((kept_own ((hK.out.trans_ hK6.out).alloc _) HOA.out (by omega) hg).setCell (p := ⟨w.heap.size, 1, none⟩) (.inr (Nat.le_refl _)) _)
          have HB11 : Hid (Blk (w10.setCell ⟨w.heap.size, 1, none⟩ (.slice A10 (k + 1) c10)) w.heap.size TC #[.pointer none, .slice A10 (k + 1) c10, .slice none 0 0]) := hid (by have := hb10.set_ 1 (.slice A10 (k + 1) c10); simpa using this)
          have HO11 := hid (own_ty (ts := [PS]) hown (Ty.set_ hb10 (by decide) 1 (.slice A10 (k + 1) c10)) (by simp))
          clear hown hg hb10 hT hT0 hkw H10 e
          go_roundw
          case rel => exact ⟨k + 1, by omega, by go_num, HK11, _, _, HB11, HO11, HA11, HAP11⟩
          case measure => simp [RowKit.intOf]; omega
    · have hlt' : ¬ (k : Int) < n := by omega
      go_wp2_with fail
      go_ret
      have hkn : k = n := by omega
      subst hkn
      have e : xs.take k = xs := List.take_of_length_le (by have := HNN.out; omega)
      refine ⟨w.heap.size, sv, vs, rfl, hK.out, ⟨Nat.le_refl _, hC.out, ?_, by have := hA.out; rwa [e] at this⟩, hAP.out⟩
      rw [← HNN.out]
      exact own_base hO.out (by omega)
end Go.Proofs.YtmhcbgmnhcfhfaaDoor.cf
