/- config.Options.withSettedOption: weakly. -/
import Derived.Test.YtmhcbgmnhcfhfaaDoorChSet
set_option linter.unusedVariables false
attribute [local go_sem ↓] Go.wp_at_zero Go.wp_at_succ
namespace Go.Proofs.YtmhcbgmnhcfhfaaDoor.cf
open Go.RowKit Lib mem opn frm strs

theorem OwnOpts.ty {w0 w w' : World} {v : Value} {n : Nat} (h : OwnOpts w0 w v n) (hT : Ty [PO, TO] w w') (hk : Kept [] w0 w') : OwnOpts w0 w' v n := by
  obtain ⟨h0, m, vs, os, hm, ho, ha, hl⟩ := h
  exact ⟨hk, m, vs, os, hm, own_ty (ts := [PO, TO]) ho hT (by simp), ha.mono fun _ _ h => h.ty hT (by simp), hl⟩
/-- texts of the call's own, n at most -/
def OwnTexts (w0 w : World) (v : Value) (n : Nat) : Prop := Kept [] w0 w ∧ ∃ (m : Nat) (xs : List ByteArray), m ≤ n ∧ xs.length = m ∧ w.ownsRow w0.heap.size 9 1 v m (xs.map fun x => .string x)
theorem OwnTexts.ty {w0 w w' : World} {v : Value} {n : Nat} (h : OwnTexts w0 w v n) (hT : Ty [9] w w') (hk : Kept [] w0 w') : OwnTexts w0 w' v n := by
  obtain ⟨h0, m, xs, hm, hl, ho⟩ := h
  exact ⟨hk, m, xs, hm, hl, own_ty (ts := [9]) ho hT (by simp)⟩
theorem OwnTexts.more {w0 w : World} {v : Value} {n n' : Nat} (h : OwnTexts w0 w v n) (hn : n ≤ n') : OwnTexts w0 w v n' := by
  obtain ⟨h0, m, xs, hm, r⟩ := h; exact ⟨h0, m, xs, Nat.le_trans hm hn, r⟩
theorem infoText : (Tryd.prog.info? 9).map (fun i => (i.zero, i.size, i.bytes)) = some (some (.string ⟨#[]⟩), 1, 16) := by kernel_rfl
theorem one_val (w : World) (v : Value) {e : TypeId} : Reads (w.alloc (.cells #[v] e)) (w.heap.size + 1) 1 (some ⟨w.heap.size, 0, none⟩) 1 [v] :=
  ⟨rfl, fun _ => ⟨_, rfl, by simp, fun j u hu => by rw [Lib.addr_add, Nat.zero_add, Lib.cell_of_heap (heap_alloc_new w _) j]; match j, hu with | 0, hu => exact hu⟩⟩
def Setted (w : World) (n : Nat) (e : Ending) (w' : World) : Prop := ∃ v, e = .returned v ∧ OwnOpts w w' v n
set_option maxRecDepth 100000 in
set_option maxHeartbeats 8000000 in
theorem withSetted_calls (v vv : Value) (xs : List OptD) (key val : ByteArray) (w : World) (h : OptsP w v xs) (hn : xs.length ≤ 1048576) (hw : ∀ o ∈ xs, WordOk o.key) (hk : WordOk key) (ht : TextRow w vv 1 [val]) :
    Calls Tryd.prog 54 #[v, .string key, vv] w (Setted w (xs.length + 1)) := by
  obtain ⟨vs, hown, hall⟩ := h
  obtain ⟨A, c, rfl, hc⟩ := row_some hown
  obtain ⟨i0, hi, hz0, hz1, hz2⟩ := infoPtr PO (by kernel_rfl)
  obtain ⟨i1, hi1, hy0, hy1, hy2⟩ := info_parts infoText
  obtain ⟨_, B, hto⟩ := ht
  obtain ⟨At, ct, rfl, _⟩ := row_some hto
  have HTO := hid hto
  have HO := hid hown
  have HA := hid hall
  have HW := hid hw
  have HK := hid hk
  have hn' : (xs.length : Int) ≤ 1048576 := by omega
  obtain ⟨n, hnn⟩ : ∃ n, n = xs.length := ⟨_, rfl⟩
  have HNN := hid hnn
  have HN := hid hn
  rw [← hnn] at hn' ⊢
  clear hown hall hc hnn hn hw hk hto
  go_enter Tryd.func54, Tryd.ntmps54
  go_wp2_with fail
  go_loopw [7, 8, 15] (fun rv av iv wr => ∃ k : Nat, k ≤ n ∧ iv = .int .i64 k ∧ Hid (OwnOpts w wr rv k) ∧ Hid (OwnTexts w wr av k)) (fun _ _ iv _ => n - (RowKit.intOf iv).toNat)
  case atStart => exact ⟨0, by omega, rfl, hid ⟨Kept.refl _ _, 0, [], [], by omega, World.ownsRow_nil _ _ _ _, .nil, rfl⟩, hid ⟨Kept.refl _ _, 0, [], by omega, rfl, World.ownsRow_nil _ _ _ _⟩⟩
  case round =>
    obtain ⟨k, hk, rfl, hR, hT⟩ := hrel
    by_cases hlt : k < n
    · have hks : k < xs.length := by have := HNN.out; omega
      obtain ⟨g2, o2, c2, u, e2, hu, hcell⟩ := own_at HO.out hks
      obtain ⟨a, x, ha, hx, hP, hmem⟩ := HA.out.at_ hks
      rw [hu] at ha
      obtain rfl : u = a := by injection ha
      obtain ⟨gp, rfl, hbp⟩ := hP
      injection e2 with eA _ ec
      subst eA
      have HB := hid (hbp.kept hR.out.1 (by simp))
      have hcl := (hR.out.1.cell (p := ⟨g2, o2 + k, none⟩) (World.block_lt_of_cell? _ _ hcell) (by simp)).trans hcell
      have c1 := hid (isKey_calls gp x.key key (.string x.val) wr HB.out (HW.out x hmem) HK.out)
      have hlt' : (k : Int) < n := by omega
      have hk20 : k + 1 ≤ 1048576 := by have := HN.out; have := HNN.out; omega
      clear hu ha hx hmem hks ec hbp hcell
      go_wp2_with fail
      refine c1.out.mono ?_
      rintro e w' ⟨rfl, hw'⟩
      obtain rfl : wr = w' := hw'.symm
      clear hw' c1
      by_cases hkey : x.key = key
      · rw [decide_eq_true hkey]
        clear hkey
        have q1 : wr.cell? ⟨gp, 1, none⟩ = some (.string x.val) := HB.out.cell 1 rfl
        have hTR : TextRow wr (.slice At 1 ct) 1 [val] := ⟨rfl, B, own_ty (ts := [9]) HTO.out (.of_kept hR.out.1) (by simp)⟩
        have c2 := hid (contains_calls (.slice At 1 ct) 1 [val] x.val wr hTR (by omega))
        clear hTR
        go_wp2_with fail
        refine c2.out.mono ?_
        rintro e w' ⟨hw', b, rfl⟩
        obtain rfl : wr = w' := hw'.symm
        clear hw' c2
        cases b with
        | false =>
          go_wp2_with fail
          go_roundw
          case rel => exact ⟨k + 1, by omega, by go_num, hid (hR.out.more (by omega)), hid (hT.out.more (by omega))⟩
          case measure => simp [RowKit.intOf]; omega
        | true =>
          obtain ⟨m, ys, hm2, hl2, ho2⟩ := hT.out.2
          have hk1 : Kept [] wr (wr.alloc (.cells #[.string x.val] 9)) := (Kept.refl [] wr).alloc _
          have HO2 := hid (own_ty (ts := [9]) ho2 (.of_kept hk1) (by simp))
          have HK2 := hid (hR.out.1.trans_ hk1)
          have HR2 := hid (hR.out.kept hk1)
          have HB2 := hid (HB.out.kept hk1 (by simp))
          have HM2 := hid (And.intro hm2 hl2)
          have HRd := hid (one_val wr (.string x.val) (e := 9))
          clear hk1 ho2 hm2 hl2
          go_wp2_with (first
            | (at_builtin; refine wpList_append_any _ rfl (.tmp 33) (.tmp 38) _ rfl w.heap.size 9 i1 _ 1 16 Tryd.underlying115 hi1 hy0 hy1 hy2 (by rfl) (by omega) u8 m _ rfl HO2.out (wr.heap.size + 1) (some ⟨wr.heap.size, 0, none⟩) 1 1 [.string x.val] rfl HRd.out (by simp [Value.oneCell']) (by have := HM2.out.1; simp only [maxLen]; omega) (by have := HM2.out.1; omega) HK2.out.size ?_; intro v6 w6 hown6 hg6 hat6; have HK6 := hid (kept_own HK2.out HO2.out (Nat.le_refl _) hg6); have HT6 := hid (show OwnTexts w w6 v6 (k + 1) from ⟨HK6.out, m + 1, ys ++ [x.val], by have := HM2.out.1; omega, by simp [HM2.out.2], by simpa using hown6⟩); have HR6 := hid (HR2.out.ty (Ty.own HO2.out hg6 (by decide)) HK6.out); have HB6 := hid (Ty.own (ts := [TO]) HO2.out hg6 (by decide) _ _ _ (by simp) HB2.out); clear hown6 hg6 hat6)
            | (at_builtin; obtain ⟨m3, vs3, os3, hm3, ho3, ha3, hl3⟩ := HR6.out.2; have hk9 : Kept [] w6 (w6.alloc (.cells #[.pointer (some ⟨gp, 0, none⟩)] PO)) := (Kept.refl [] w6).alloc _; have HO9 := hid (own_ty (ts := [PO]) ho3 (.of_kept hk9) (by simp)); have HA9 := hid (show All2 (OP (w6.alloc (.cells #[.pointer (some ⟨gp, 0, none⟩)] PO))) vs3 os3 from ha3.mono fun _ _ h => h.ty (ts := [TO]) (.of_kept hk9) (by simp)); have HB9 := hid (HB6.out.kept hk9 (by simp)); have HK9 := hid (HK6.out.trans_ hk9); have HT9 := hid (HT6.out.ty (.of_kept hk9) HK9.out); refine wpList_append_any _ rfl (.tmp 40) (.tmp 42) _ rfl w.heap.size PO i0 _ 1 8 Tryd.underlying79 hi hz0 hz1 hz2 rfl (by omega) u7 m3 vs3 rfl HO9.out (w6.heap.size + 1) (some ⟨w6.heap.size, 0, none⟩) 1 1 [.pointer (some ⟨gp, 0, none⟩)] rfl (one_val w6 (.pointer (some ⟨gp, 0, none⟩))) (by simp [Value.oneCell']) (by simp only [maxLen]; omega) (by omega) HK9.out.size ?_; intro v9 w9 hown9 hg9 hat9; have H9 := hid (OwnOpts.snoc (o := x) HK9.out hm3 HO9.out HA9.out hl3 HB9.out hown9 hg9); have HT10 := hid (HT9.out.ty (Ty.own HO9.out hg9 (by decide)) H9.out.1); clear hown9 hg9 hat9 hm3 ho3 ha3 hl3)
            | fail)
          go_roundw
          case rel => exact ⟨k + 1, by omega, by go_num, H9, HT10⟩
          case measure => simp [RowKit.intOf]; omega
      · rw [decide_eq_false hkey]
        clear hkey
        obtain ⟨m, vs2, os2, hm2, ho2, ha2, hl2⟩ := hR.out.2
        have hk1 : Kept [] wr (wr.alloc (.cells #[.pointer (some ⟨gp, 0, none⟩)] PO)) := (Kept.refl [] wr).alloc _
        have HO2 := hid (own_ty (ts := [PO]) ho2 (.of_kept hk1) (by simp))
        have HA2 := hid (show All2 (OP (wr.alloc (.cells #[.pointer (some ⟨gp, 0, none⟩)] PO))) vs2 os2 from ha2.mono fun _ _ h => h.ty (ts := [TO]) (.of_kept hk1) (by simp))
        have HB2 := hid (HB.out.kept hk1 (by simp))
        have HK2 := hid (hR.out.1.trans_ hk1)
        have HT2 := hid (hT.out.ty (.of_kept hk1) HK2.out)
        have HM2 := hid (And.intro hm2 hl2)
        have HRd := hid (one_val wr (.pointer (some ⟨gp, 0, none⟩)) (e := PO))
        clear hk1 ho2 ha2 hl2
        go_wp2_with (at_builtin; refine wpList_append_any _ rfl (.tmp 23) (.tmp 25) _ rfl w.heap.size PO i0 _ 1 8 Tryd.underlying79 hi hz0 hz1 hz2 rfl (by omega) u7 m vs2 rfl HO2.out (wr.heap.size + 1) (some ⟨wr.heap.size, 0, none⟩) 1 1 [.pointer (some ⟨gp, 0, none⟩)] rfl HRd.out (by simp [Value.oneCell']) (by simp only [maxLen]; omega) (by omega) HK2.out.size ?_; intro v6 w6 hown6 hg6 hat6; have H6 := hid (OwnOpts.snoc (o := x) HK2.out HM2.out.1 HO2.out HA2.out HM2.out.2 HB2.out hown6 hg6); have HT6 := hid (HT2.out.ty (Ty.own HO2.out hg6 (by decide)) H6.out.1); clear hown6 hg6 hat6)
        go_roundw
        case rel => exact ⟨k + 1, by omega, by go_num, H6, hid (HT6.out.more (by omega))⟩
        case measure => simp [RowKit.intOf]; omega
    · obtain rfl : k = n := by omega
      obtain ⟨gt, ot, ct2, ut, et, hut, hct⟩ := own_at HTO.out (k := 0) (by omega)
      obtain rfl : ut = .string val := by simpa using hut.symm
      injection et with eA _ ec
      subst eA
      have hcl : wr.cell? ⟨gt, ot, none⟩ = some (.string val) := (hR.out.1.cell (p := ⟨gt, ot, none⟩) (World.block_lt_of_cell? _ _ hct) (by simp)).trans hct
      obtain ⟨m, ys, hm2, hl2, ho2⟩ := hT.out.2
      obtain ⟨Aa, ca, rfl, _⟩ := row_some ho2
      have c2 := hid (contains_calls (.slice Aa m ca) m ys val wr ⟨hl2, _, ho2⟩ (by have := HN.out; have := HNN.out; omega))
      have HN2 := hid (show k ≤ 1048576 by have := HN.out; have := HNN.out; omega)
      have hnl : ¬ (k : Int) < k := by omega
      clear hct hut ec hm2 hl2 ho2 hlt hk
      go_wp2_with fail
      refine wp_loop_rounds 2 ?_
      rw [rounds_succ]
      go_wp2_with fail
      refine c2.out.mono ?_
      rintro e w' ⟨hw', b, rfl⟩
      obtain rfl : wr = w' := hw'.symm
      clear hw' c2
      cases b with
      | true =>
        go_wp2_with fail
        rw [rounds_succ]
        go_wp2_with fail
        go_ret
        exact ⟨_, rfl, hR.out.more (by omega)⟩
      | false =>
        go_wp2_with fail
        refine (withAdded_calls w _ k key val wr hR.out HN2.out).mono ?_
        rintro e w9 ⟨v9, rfl, h9⟩
        have H9 := hid h9
        clear h9
        go_wp2_with fail
        rw [rounds_succ]
        go_wp2_with fail
        go_ret
        exact ⟨_, rfl, H9.out⟩
end Go.Proofs.YtmhcbgmnhcfhfaaDoor.cf
