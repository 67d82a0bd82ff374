/- spec.AreSections: what it tells. -/
import Derived.Test.YtmhcbgmnhcfhfaaDoorCfWord
set_option linter.unusedVariables false
namespace Go.Proofs.YtmhcbgmnhcfhfaaDoor.cf
open Go.RowKit Lib mem opn frm strs

structure SubOk (s : SubD) : Prop where
  n : WordOk s.name
  l : s.opts.length ≤ 1000
  o : ∀ o ∈ s.opts, OptOk o
structure SecOk (s : SecD) : Prop where
  n : WordOk s.name
  l : s.opts.length ≤ 1000
  o : ∀ o ∈ s.opts, OptOk o
  u : ∀ x ∈ s.subs, SubOk x
def SecsOk (ss : List SecD) (b : Bool) : Prop := b = true → ss.length ≤ 100 ∧ ∀ s ∈ ss, SecOk s
/-- all texts of a section are short -/
structure Short (s : SecD) : Prop where
  n : s.name.size ≤ 4294967295
  o : ∀ o ∈ s.opts, o.key.size ≤ 4294967295 ∧ o.val.size ≤ 4294967295
  u : ∀ x ∈ s.subs, x.name.size ≤ 4294967295 ∧ ∀ o ∈ x.opts, o.key.size ≤ 4294967295 ∧ o.val.size ≤ 4294967295
attribute [local go_sem] OptD.cells SubD.cells SecD.cells
set_option maxRecDepth 100000 in
set_option maxHeartbeats 8000000 in
theorem areSections_calls (B : Nat) (v : Value) (xs : List SecD) (w : World) (h : SecSl w B v xs) (hB : B ≤ w.heap.size) (hn : xs.length ≤ 4294967295) (hm : ∀ s ∈ xs, Few s) (hz : ∀ s ∈ xs, Short s) :
    Calls Tryd.prog 20 #[v] w (Told w (SecsOk xs)) := by
  obtain ⟨A, c, rfl, hcap, hF, hS⟩ := h
  have HF := hid hF
  have HS := hid hS
  have HM := hid hm
  have HZ := hid hz
  have hn' : (xs.length : Int) ≤ 4294967295 := by omega
  have hcap' : (xs.length : Int) ≤ c := by omega
  have HBB := hid hB
  obtain ⟨n, hnn⟩ : ∃ n, n = xs.length := ⟨_, rfl⟩
  have HNN := hid hnn
  rw [← hnn] at HF hn' hcap' ⊢
  clear hF hn hB hnn hz hm hS hcap
  go_enter Tryd.func20, Tryd.ntmps20
  go_wp2_with fail
  go_loopw [13] (fun iv wr => ∃ k : Nat, k ≤ n ∧ iv = .int .i64 k ∧ Hid (Kept [] w wr) ∧ Hid (∀ i s, i < k → xs[i]? = some s → SecOk s)) (fun iv _ => n - (RowKit.intOf iv).toNat)
  case atStart => exact ⟨0, by omega, rfl, hid (Kept.refl _ _), hid (fun i o h => absurd h (by omega))⟩
  case round =>
    obtain ⟨k, hk, rfl, hK, hP⟩ := hrel
    obtain ⟨wo, rfl⟩ : ∃ wo, wo = wr := ⟨_, rfl⟩
    by_cases hlt : k < n
    · obtain ⟨g, o, x, rfl, hg, hxk, hmem, hR⟩ := at_kept HF.out SecD.len hK.out HBB.out hlt
      have HR := hid hR
      have hx := HZ.out x hmem
      have HF2 := hid (HM.out x hmem)
      have HS2 := hid (HS.out x hmem)
      have HX := hid hx
      have HOne := hid (And.intro (OptSl.one HS2.out.1) (SubSl.one HS2.out.2))
      have c1 := hid (fun w => isConfWord_calls x.name w hx.n)
      have c2 := hid (fun w' (hk : Kept [] w w') => areOptions_calls B x.ov x.opts w' (HS2.out.1.below (hk.below HBB.out (by simp))) (Nat.le_trans HBB.out hk.size) HF2.out.o hx.o)
      have HXK := hid hxk
      have hlt' : (k : Int) < n := by omega
      have hkc : (k : Int) ≤ c := by omega
      clear hR hxk hg hx hmem
      go_wp2_with (first
        | (refine wpList_load_mid rfl Sty (.tmp 16) rfl g (o + k * 3) rfl x.cells _ HR.out Tryd.underlying34 rfl infoS ?_)
        | (refine wpList_store_kept rfl Sty (.tmp 4) (.tmp 17) rfl wo.heap.size x.cells.toArray rfl rfl Sty _ (Blk.new wo Sty _) (sec_sz x) rfl (sec_all x HOne.out.1 HOne.out.2) ?_; intro w2 h1 h2 h3; have HB2 : Hid (Blk w2 wo.heap.size Sty x.cells.toArray) := hid h1.out; have q0 : w2.cell? ⟨wo.heap.size, 0, none⟩ = some (.string x.name) := h1.out.cell 0 rfl; have q1 : w2.cell? ⟨wo.heap.size, 1, none⟩ = some x.ov := h1.out.cell 1 rfl; have HK2 := hid ((hK.out.alloc _).trans h2.out (by simp; exact hK.out.size)); clear h1 h2 h3))
      refine (c1.out _).mono ?_
      rintro e w3 ⟨rfl, b, rfl, hb⟩
      cases b with
      | false =>
        clear hb
        go_wp2_with fail
        go_ret
        exact ⟨HK2.out, _, rfl, nofun⟩
      | true =>
        have HW := hid (hb rfl)
        clear hb
        go_wp2_with fail
        refine (c2.out _ HK2.out).mono ?_
        rintro e w3 ⟨hk3, b, rfl, hb⟩
        have HK3 := hid (HK2.out.trans_ hk3)
        have HB3 := hid (HB2.out.kept hk3 (by simp))
        clear hk3
        cases b with
        | false =>
          clear hb
          go_wp2_with fail
          go_ret
          exact ⟨HK3.out, _, rfl, nofun⟩
        | true =>
          have HO := hid (hb rfl)
          clear hb q0 q1
          go_wp2_with fail
          go_loopw [32] (fun iv wr => ∃ j : Nat, j ≤ k ∧ iv = .int .i64 j ∧ Hid (Kept [] w wr) ∧ Hid (Blk wr wo.heap.size Sty x.cells.toArray)) (fun iv _ => k - (RowKit.intOf iv).toNat)
          case atStart => exact ⟨0, by omega, rfl, HK3, HB3⟩
          case round =>
            obtain ⟨j, hj, rfl, hK4, hB4⟩ := hrel
            obtain ⟨wp, rfl⟩ : ∃ wp, wp = wr := ⟨_, rfl⟩
            by_cases hjk : j < k
            · obtain ⟨g', o', y, hA', hg', hyk, -, hR'⟩ := at_kept HF.out SecD.len hK4.out HBB.out (k := j) (by omega)
              cases hA'
              have HR' := hid hR'
              have hyk' : y ∈ xs := List.mem_of_getElem? hyk
              have HOy := hid (show y.ov.oneCell' = true ∧ y.sv.oneCell' = true from ⟨OptSl.one (HS.out y hyk').1, SubSl.one (HS.out y hyk').2⟩)
              have hjk' : (j : Int) < k := by omega
              clear hR' hyk hg' hyk'
              go_wp2_with (first
                | (refine wpList_load_mid rfl Sty (.tmp 34) rfl g (o + j * 3) rfl y.cells _ HR'.out Tryd.underlying34 rfl infoS ?_)
                | (refine wpList_store_kept rfl Sty (.tmp 6) (.tmp 35) rfl wp.heap.size y.cells.toArray rfl rfl Sty _ (Blk.new wp Sty _) (sec_sz y) rfl (sec_all y HOy.out.1 HOy.out.2) ?_; intro w5 h1 h2 h3; have q6 : w5.cell? ⟨wp.heap.size, 0, none⟩ = some (.string y.name) := h1.out.cell 0 rfl; have HB5 : Hid (Blk w5 wo.heap.size Sty x.cells.toArray) := hid ((hB4.out.alloc _).kept h2.out (by have := hB4.out.lt; simp; omega)); have q4 : w5.cell? ⟨wo.heap.size, 0, none⟩ = some (.string x.name) := HB5.out.cell 0 rfl; have HK5 := hid ((hK4.out.alloc _).trans h2.out (by simp; exact hK4.out.size)); clear h1 h2 h3))
              · go_ret
                exact ⟨HK5.out, _, rfl, nofun⟩
              · go_roundw
                case rel => exact ⟨j + 1, by omega, by go_num, HK5, HB5⟩
                case measure => simp [RowKit.intOf]; omega
            · have hjk' : ¬ (j : Int) < k := by omega
              obtain ⟨D, d, hsv, hdc, hSu, hSo⟩ := HS2.out.2
              obtain ⟨m, hmm⟩ : ∃ m, m = x.subs.length := ⟨_, rfl⟩
              rw [← hmm] at hSu hdc hsv
              have q2 : wp.cell? ⟨wo.heap.size, 2, none⟩ = some (.slice D m d) := by rw [← hsv]; exact hB4.out.cell 2 rfl
              have hm1 : (m : Int) ≤ 4294967295 := by have := HF2.out.u; omega
              have HSu := hid hSu
              have HSo := hid hSo
              have HMM := hid hmm
              have HSV := hid hsv
              have hdc' : (m : Int) ≤ d := by omega
              clear hsv hSu hSo hdc hmm
              go_wp2_with fail
              clear q2
              go_loopw [45] (fun iv wr => ∃ q : Nat, q ≤ m ∧ iv = .int .i64 q ∧ Hid (Kept [] w wr) ∧ Hid (Blk wr wo.heap.size Sty x.cells.toArray) ∧ Hid (∀ i u, i < q → x.subs[i]? = some u → SubOk u)) (fun iv _ => m - (RowKit.intOf iv).toNat)
              case atStart => exact ⟨0, by omega, rfl, hK4, hB4, hid (fun i o h => absurd h (by omega))⟩
              case round =>
                obtain ⟨q, hq, rfl, hK6, hB6, hP6⟩ := hrel
                obtain ⟨wq, rfl⟩ : ∃ wq, wq = wr := ⟨_, rfl⟩
                by_cases hqm : q < m
                · obtain ⟨g2, o2, u, rfl, hg2, huk, humem, hR2⟩ := at_kept HSu.out SubD.len hK6.out HBB.out hqm
                  have HR2 := hid hR2
                  have hu := HX.out.u u humem
                  have HUo := hid (HSo.out u humem)
                  have HUf := hid (HF2.out.p u humem)
                  have HU1 := hid (OptSl.one HUo.out)
                  have d1 := hid (fun w => isConfWord_calls u.name w hu.1)
                  have d2 := hid (fun w' (hk : Kept [] w w') => areOptions_calls B u.ov u.opts w' (HUo.out.below (hk.below HBB.out (by simp))) (Nat.le_trans HBB.out hk.size) HUf.out hu.2)
                  have HUK := hid huk
                  have hqm' : (q : Int) < m := by omega
                  have hqd : (q : Int) ≤ d := by omega
                  clear hR2 huk hg2 hu humem
                  go_wp2_with (first
                    | (refine wpList_load_mid rfl Uty (.tmp 48) rfl g2 (o2 + q * 2) rfl u.cells _ HR2.out Tryd.underlying36 rfl infoU ?_)
                    | (refine wpList_store_kept rfl Uty (.tmp 8) (.tmp 49) rfl wq.heap.size u.cells.toArray rfl rfl Uty _ (Blk.new wq Uty _) (sub_sz u) rfl (sub_all u HU1.out) ?_; intro w7 h1 h2 h3; have HU7 : Hid (Blk w7 wq.heap.size Uty u.cells.toArray) := hid h1.out; have q0 : w7.cell? ⟨wq.heap.size, 0, none⟩ = some (.string u.name) := h1.out.cell 0 rfl; have q1 : w7.cell? ⟨wq.heap.size, 1, none⟩ = some u.ov := h1.out.cell 1 rfl; have HB7 : Hid (Blk w7 wo.heap.size Sty x.cells.toArray) := hid ((hB6.out.alloc _).kept h2.out (by have := hB6.out.lt; simp; omega)); have HK7 := hid ((hK6.out.alloc _).trans h2.out (by simp; exact hK6.out.size)); clear h1 h2 h3))
                  refine (d1.out _).mono ?_
                  rintro e w8 ⟨rfl, b, rfl, hb⟩
                  cases b with
                  | false =>
                    clear hb
                    go_wp2_with fail
                    go_ret
                    exact ⟨HK7.out, _, rfl, nofun⟩
                  | true =>
                    have HW7 := hid (hb rfl)
                    clear hb
                    go_wp2_with fail
                    refine (d2.out _ HK7.out).mono ?_
                    rintro e w8 ⟨hk8, b, rfl, hb⟩
                    have HK8 := hid (HK7.out.trans_ hk8)
                    have HB8 := hid (HB7.out.kept hk8 (by simp))
                    have HU8 := hid (HU7.out.kept hk8 (by simp))
                    clear hk8
                    cases b with
                    | false =>
                      clear hb
                      go_wp2_with fail
                      go_ret
                      exact ⟨HK8.out, _, rfl, nofun⟩
                    | true =>
                      have HO8 := hid (hb rfl)
                      have q2 : w8.cell? ⟨wo.heap.size, 2, none⟩ = some (.slice (some ⟨g2, o2, none⟩) m d) := by rw [← HSV.out]; exact HB8.out.cell 2 rfl
                      clear hb q0 q1
                      go_wp2_with fail
                      clear q2
                      go_loopw [65] (fun iv wr => ∃ j : Nat, j ≤ q ∧ iv = .int .i64 j ∧ Hid (Kept [] w wr) ∧ Hid (Blk wr wo.heap.size Sty x.cells.toArray) ∧ Hid (Blk wr wq.heap.size Uty u.cells.toArray)) (fun iv _ => q - (RowKit.intOf iv).toNat)
                      case atStart => exact ⟨0, by omega, rfl, HK8, HB8, HU8⟩
                      case round =>
                        obtain ⟨j', hj', rfl, hK9, hB9, hU9⟩ := hrel
                        obtain ⟨wz, rfl⟩ : ∃ wz, wz = wr := ⟨_, rfl⟩
                        by_cases hjq : j' < q
                        · obtain ⟨g3, o3, y, hA3, hg3, hyk, hym, hR3⟩ := at_kept HSu.out SubD.len hK9.out HBB.out (k := j') (by omega)
                          cases hA3
                          have HR3 := hid hR3
                          have HOy := hid (OptSl.one (HSo.out y hym))
                          have hjq' : (j' : Int) < q := by omega
                          clear hR3 hyk hg3 hym
                          go_wp2_with (first
                            | (refine wpList_load_mid rfl Uty (.tmp 67) rfl g2 (o2 + j' * 2) rfl y.cells _ HR3.out Tryd.underlying36 rfl infoU ?_)
                            | (refine wpList_store_kept rfl Uty (.tmp 10) (.tmp 68) rfl wz.heap.size y.cells.toArray rfl rfl Uty _ (Blk.new wz Uty _) (sub_sz y) rfl (sub_all y HOy.out) ?_; intro w10 h1 h2 h3; have q6 : w10.cell? ⟨wz.heap.size, 0, none⟩ = some (.string y.name) := h1.out.cell 0 rfl; have HB10 : Hid (Blk w10 wo.heap.size Sty x.cells.toArray) := hid ((hB9.out.alloc _).kept h2.out (by have := hB9.out.lt; simp; omega)); have HU10 : Hid (Blk w10 wq.heap.size Uty u.cells.toArray) := hid ((hU9.out.alloc _).kept h2.out (by have := hU9.out.lt; simp; omega)); have q4 : w10.cell? ⟨wq.heap.size, 0, none⟩ = some (.string u.name) := HU10.out.cell 0 rfl; have HK10 := hid ((hK9.out.alloc _).trans h2.out (by simp; exact hK9.out.size)); clear h1 h2 h3))
                          · go_ret
                            exact ⟨HK10.out, _, rfl, nofun⟩
                          · go_roundw
                            case rel => exact ⟨j' + 1, by omega, by go_num, HK10, HB10, HU10⟩
                            case measure => simp [RowKit.intOf]; omega
                        · have hjq' : ¬ (j' : Int) < q := by omega
                          go_wp2_with fail
                          go_roundw
                          case rel => exact ⟨q + 1, by omega, by go_num, hK9, hB9, hid (fun i s hi hs => by
                            rcases Nat.lt_succ_iff_lt_or_eq.mp hi with h | rfl
                            · exact hP6.out i s h hs
                            · rw [HUK.out] at hs; cases hs; exact ⟨HW7.out, HO8.out.1, HO8.out.2⟩)⟩
                          case measure => simp [RowKit.intOf]; omega
                · have hqm' : ¬ (q : Int) < m := by omega
                  have HPu : Hid (∀ u ∈ x.subs, SubOk u) := hid (fun u hu => by
                    obtain ⟨i, hi, rfl⟩ := List.getElem_of_mem hu
                    exact hP6.out i _ (by have := HMM.out; omega) (List.getElem?_eq_getElem hi))
                  go_wp2_with fail
                  go_roundw
                  case rel => exact ⟨k + 1, by omega, by go_num, hK6, hid (fun i s hi hs => by
                    rcases Nat.lt_succ_iff_lt_or_eq.mp hi with h | rfl
                    · exact hP.out i s h hs
                    · rw [HXK.out] at hs; cases hs; exact ⟨HW.out, HO.out.1, HO.out.2, HPu.out⟩)⟩
                  case measure => simp [RowKit.intOf]; omega
    · have hlt' : ¬ (k : Int) < n := by omega
      have HP : Hid (∀ o ∈ xs, SecOk o) := hid (fun o ho => by
        obtain ⟨i, hi, rfl⟩ := List.getElem_of_mem ho
        exact hP.out i _ (by have := HNN.out; omega) (List.getElem?_eq_getElem hi))
      by_cases hsz : n ≤ 100
      · have hz : decide ((n : Int) ≤ 100) = true := decide_eq_true (by omega)
        go_wp2_with fail
        go_ret
        exact ⟨hK.out, _, rfl, fun _ => ⟨by rw [← HNN.out]; exact hsz, HP.out⟩⟩
      · have hz : decide ((n : Int) ≤ 100) = false := decide_eq_false (by omega)
        go_wp2_with fail
        go_ret
        exact ⟨hK.out, _, rfl, fun h => by cases h⟩
end Go.Proofs.YtmhcbgmnhcfhfaaDoor.cf
