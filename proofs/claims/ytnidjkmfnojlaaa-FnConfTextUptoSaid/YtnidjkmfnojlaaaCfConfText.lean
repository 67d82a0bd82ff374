/- spec.ConfText. Printed by gen_cftext.py. -/
import Derived.Test.YtnidjkmfnojlaaaCfText
import Derived.Deep.QuietTactic
import Derived.BigQuiet
set_option linter.unusedVariables false
attribute [local go_sem ↓] Go.wp_at_zero Go.wp_at_succ
namespace Go.Proofs.Ytnidjkmfnojlaaa.cf
open Go.RowKit Lib mem opn frm strs text

theorem eq_of_list {a b : ByteArray} (h : a.data.toList = b.data.toList) : a = b := by
  cases a; cases b; congr 1; exact Array.toList_inj.1 h
theorem list_ex (l : List UInt8) : ∃ c : ByteArray, c.data.toList = l ∧ c.size = l.length := ⟨ofL l, data_ofL l, ofL_size l⟩
attribute [local go_sem] OptD.cells SubD.cells SecD.cells
set_option maxRecDepth 100000 in
set_option maxHeartbeats 16000000 in
theorem confText_calls (B : Nat) (v : Value) (xs : List SecD) (w : World) (h : SecSl w B v xs) (hB : B ≤ w.heap.size) (hok : ∀ x ∈ xs, SecOk x) (hf : ∀ x ∈ xs, Few x) (hn : xs.length ≤ 1048576) (hs : (confText xs).length ≤ 140737488355328) :
    Calls Try.prog 7 #[v] w (TextIs w (confText xs)) := by
  obtain ⟨A, c, rfl, -, hF, hS⟩ := h
  have HF := hid hF
  have HSl := hid hS
  have HFew := hid hf
  have hn' : (xs.length : Int) ≤ 1048576 := by omega
  have HBB := hid hB
  have HOK := hid hok
  have HS := hid hs
  obtain ⟨n, hnn⟩ : ∃ n, n = xs.length := ⟨_, rfl⟩
  have HNN := hid hnn
  rw [← hnn] at HF hn' ⊢
  clear hF hn hB hnn hok hs hS hf
  go_enter Try.func7, Try.ntmps7
  go_wp2_with fail
  go_loopw [3, 10] (fun tv iv wr => ∃ k : Nat, k ≤ n ∧ iv = .int .i64 k ∧ Hid (Kept [] w wr) ∧ ∃ t : ByteArray, tv = .string t ∧ Hid (t.data.toList = confText (xs.take k))) (fun _ iv _ => n - (RowKit.intOf iv).toNat)
  case atStart => exact ⟨0, by omega, rfl, hid (Kept.refl _ _), _, rfl, hid (by simp [confText])⟩
  case round =>
    obtain ⟨k, hk, rfl, hK, t, rfl, hT⟩ := hrel
    obtain ⟨wo, rfl⟩ : ∃ wo, wo = wr := ⟨_, rfl⟩
    by_cases hlt : k < n
    · obtain ⟨g, o, x, rfl, hg, hxk, hmem, hR⟩ := at_kept HF.out SecD.len hK.out HBB.out hlt
      have HR := hid hR
      have HX := hid (HOK.out x hmem)
      have HF2 := hid (HFew.out x hmem)
      have HS2 := hid (HSl.out x hmem)
      have HOne := hid (And.intro (OptSl.one HS2.out.1) (SubSl.one HS2.out.2))
      have HXK := hid hxk
      have HFl : Hid (t.size + (secText x).length ≤ 140737488355328) := hid (by
        have h1 := HS.out
        have h2 := size_len t
        have h3 := flat_le' (f := secText) hxk
        rw [hT.out] at h2
        unfold confText at h1 h2
        omega)
      have hnl := HX.out.n.2
      have hlt' : (k : Int) < n := by omega
      obtain ⟨D, m, c', hov, hoF⟩ : ∃ D m c', x.ov = .slice D m c' ∧ m = x.opts.length := by obtain ⟨D, c', e, _⟩ := HS2.out.1; exact ⟨D, _, c', e, rfl⟩
      obtain ⟨E, d, hsv, hdc, hSu, hSo⟩ := HS2.out.2
      obtain ⟨p, hp⟩ : ∃ p, p = x.subs.length := ⟨_, rfl⟩
      rw [← hp] at hSu hsv
      have HOV := hid hov
      have HSV := hid hsv
      have HOF := hid hoF
      have HSu := hid hSu
      have HSo := hid hSo
      have HP := hid hp
      have hm1 : (m : Int) ≤ 1000 := by have := HX.out.l; omega
      have hp1 : (p : Int) ≤ 1048576 := by have := HF2.out.u; omega
      clear hR hxk hg hmem hov hoF hsv hdc hSu hSo hp
      by_cases hm0 : m = 0
      · have hm2 : ¬ 0 < m := by omega
        have hm3 : decide (0 < m) = false := decide_eq_false (by omega)
        have HM0 := hid hm0
        clear hm0
        go_wp2_with (first
          | (refine wpList_load_mid rfl Sty (.tmp 12) rfl g (o + k * 3) rfl x.cells _ HR.out Try.underlying31 rfl infoS ?_)
          | (refine wpList_store_kept rfl Sty (.tmp 5) (.tmp 13) rfl wo.heap.size x.cells.toArray rfl rfl Sty _ (Blk.new wo Sty _) (sec_sz x) rfl (sec_all x HOne.out.1 HOne.out.2) ?_; intro w2 h1 h2 h3; have HB2 : Hid (Blk w2 wo.heap.size Sty #[.string x.name, .slice D m c', .slice E p d]) := hid (by have := h1.out; rw [show x.cells.toArray = #[.string x.name, x.ov, x.sv] from rfl, HOV.out, HSV.out] at this; exact this); have q1 : w2.cell? ⟨wo.heap.size, 1, none⟩ = some (.slice D m c') := HB2.out.cell 1 rfl; have q2 : w2.cell? ⟨wo.heap.size, 2, none⟩ = some (.slice E p d) := HB2.out.cell 2 rfl; have HK2 : Hid (Kept [] wo w2) := hid (((Kept.refl [] wo).alloc _).trans h2.out (by simp)); clear h1 h2 h3)
          | fail)
        have HTt : Hid (t.data.toList = confText (xs.take k) ++ headText x) := hid (by rw [hT.out, show headText x = [] by (unfold headText; rw [if_pos (List.eq_nil_of_length_eq_zero (HOF.out.symm.trans HM0.out))]), List.append_nil])
        have HK2r : Hid (Kept [] w2 w2) := hid (Kept.refl _ _)
        clear q1 q2
        go_loopw [3, 31] (fun tv iv wr => ∃ q : Nat, q ≤ p ∧ iv = .int .i64 q ∧ Hid (Kept [] w2 wr) ∧ ∃ t : ByteArray, tv = .string t ∧ Hid (t.data.toList = confText (xs.take k) ++ (headText x ++ (x.subs.take q).flatMap (subText x.name.data.toList)))) (fun _ iv _ => p - (RowKit.intOf iv).toNat)
        case atStart => exact ⟨0, by omega, rfl, HK2r, _, rfl, hid (by simpa using HTt.out)⟩
        case round =>
          obtain ⟨q, hq, rfl, hK6, t6, rfl, hT6⟩ := hrel
          obtain ⟨wq, rfl⟩ : ∃ wq, wq = wr := ⟨_, rfl⟩
          by_cases hqp : q < p
          · obtain ⟨g2, o2, u, rfl, hg2, huk, humem, hR2⟩ := at_kept HSu.out SubD.len (hK.out.trans_ (HK2.out.trans_ hK6.out)) HBB.out hqp
            have HR2 := hid hR2
            have HUo := hid (HSo.out u humem)
            have HUk := hid (HX.out.u u humem)
            have HU1 := hid (OptSl.one HUo.out)
            have HUK := hid huk
            have hul := HUk.out.n.2
            have hqp' : (q : Int) < p := by omega
            have hfl := flat_le' (f := subText x.name.data.toList) huk
            obtain ⟨so, hso, hsz⟩ := list_ex (optsText u.opts)
            have hst : (subText x.name.data.toList u).length = 1 + x.name.size + 2 + u.name.size + 3 + so.size := by unfold subText; simp only [List.length_append, size_len, hsz]; simp
            have htl : t6.size + (1 + x.name.size + 2 + u.name.size + 3 + so.size) ≤ 140737488355328 := by
              have h1 := HFl.out
              have h2 := size_len t6
              have h3 := size_len t
              rw [hT6.out, List.length_append, List.length_append] at h2
              rw [hT.out] at h3
              unfold secText at h1
              rw [List.length_append] at h1
              omega
            obtain ⟨a1, k1, l1, z1⟩ := cat_ex (P := Try.prog) ⟨#[91]⟩ x.name (by have z91 : (⟨#[91]⟩ : ByteArray).size = 1 := rfl; have z93 : (⟨#[93, 10]⟩ : ByteArray).size = 2 := rfl; have z32 : (⟨#[32, 34]⟩ : ByteArray).size = 2 := rfl; have z34 : (⟨#[34, 93, 10]⟩ : ByteArray).size = 3 := rfl; omega)
            obtain ⟨a2, k2, l2, z2⟩ := cat_ex (P := Try.prog) a1 ⟨#[32, 34]⟩ (by have z91 : (⟨#[91]⟩ : ByteArray).size = 1 := rfl; have z93 : (⟨#[93, 10]⟩ : ByteArray).size = 2 := rfl; have z32 : (⟨#[32, 34]⟩ : ByteArray).size = 2 := rfl; have z34 : (⟨#[34, 93, 10]⟩ : ByteArray).size = 3 := rfl; omega)
            obtain ⟨a3, k3, l3, z3⟩ := cat_ex (P := Try.prog) a2 u.name (by have z91 : (⟨#[91]⟩ : ByteArray).size = 1 := rfl; have z93 : (⟨#[93, 10]⟩ : ByteArray).size = 2 := rfl; have z32 : (⟨#[32, 34]⟩ : ByteArray).size = 2 := rfl; have z34 : (⟨#[34, 93, 10]⟩ : ByteArray).size = 3 := rfl; omega)
            obtain ⟨a4, k4, l4, z4⟩ := cat_ex (P := Try.prog) a3 ⟨#[34, 93, 10]⟩ (by have z91 : (⟨#[91]⟩ : ByteArray).size = 1 := rfl; have z93 : (⟨#[93, 10]⟩ : ByteArray).size = 2 := rfl; have z32 : (⟨#[32, 34]⟩ : ByteArray).size = 2 := rfl; have z34 : (⟨#[34, 93, 10]⟩ : ByteArray).size = 3 := rfl; omega)
            obtain ⟨a5, k5, l5, z5⟩ := cat_ex (P := Try.prog) a4 so (by have z91 : (⟨#[91]⟩ : ByteArray).size = 1 := rfl; have z93 : (⟨#[93, 10]⟩ : ByteArray).size = 2 := rfl; have z32 : (⟨#[32, 34]⟩ : ByteArray).size = 2 := rfl; have z34 : (⟨#[34, 93, 10]⟩ : ByteArray).size = 3 := rfl; omega)
            obtain ⟨a6, k6, l6, z6⟩ := cat_ex (P := Try.prog) t6 a5 (by have z91 : (⟨#[91]⟩ : ByteArray).size = 1 := rfl; have z93 : (⟨#[93, 10]⟩ : ByteArray).size = 2 := rfl; have z32 : (⟨#[32, 34]⟩ : ByteArray).size = 2 := rfl; have z34 : (⟨#[34, 93, 10]⟩ : ByteArray).size = 3 := rfl; omega)
            have HL6 : Hid (a6.data.toList = confText (xs.take k) ++ (headText x ++ (x.subs.take (q + 1)).flatMap (subText x.name.data.toList))) := hid (by rw [l6, l5, l4, l3, l2, l1, hT6.out, flat_snoc huk, hso]; unfold subText; simp)
            have HSO := hid hso
            have c1 := hid (fun w' (hk : Kept [] w w') => optionsText_calls B u.ov u.opts w' (HUo.out.below (hk.below HBB.out (by simp))) (Nat.le_trans HBB.out hk.size) HUk.out.o (by have := HUk.out.l; omega) (by omega))
            clear l1 l2 l3 l4 l5 l6 z1 z2 z3 z4 z5 z6 hst htl hfl hso hsz hR2 huk hg2 humem hul
            go_wp2_with (first
              | (refine wpList_load_mid rfl Uty (.tmp 33) rfl g2 (o2 + q * 2) rfl u.cells _ HR2.out Try.underlying36 rfl infoU ?_)
              | (refine wpList_store_kept rfl Uty (.tmp 7) (.tmp 34) rfl wq.heap.size u.cells.toArray rfl rfl Uty _ (Blk.new wq Uty _) (sub_sz u) rfl (sub_all u HU1.out) ?_; intro w7 h1 h2 h3; have HU7 : Hid (Blk w7 wq.heap.size Uty u.cells.toArray) := hid h1.out; have HK7 : Hid (Kept [] w2 w7) := hid ((hK6.out.alloc _).trans h2.out (by have := hK6.out.size; simp; omega)); clear h1 h2 h3)
              | fail)
            have HKW := hid (hK.out.trans_ (HK2.out.trans_ HK7.out))
            obtain ⟨C, hC0, hCf, hCk, hCo⟩ : ∃ C : World → Prop, C w7.drew ∧ (∀ w', C w' → w'.cell? ⟨wo.heap.size, 0, none⟩ = some (.string x.name) ∧ w'.cell? ⟨wq.heap.size, 0, none⟩ = some (.string u.name) ∧ w'.cell? ⟨wq.heap.size, 1, none⟩ = some u.ov) ∧ (∀ w' w'', C w' → Kept [] w' w'' → C w'') ∧ (∀ w', C w' → Kept [] w7 w') :=
              ⟨fun w' => Kept [] w7 w', (Kept.refl _ w7).drew, fun w' h => ⟨(HB2.out.kept (HK7.out.trans_ h) (by simp)).cell 0 rfl, (HU7.out.kept h (by simp)).cell 0 rfl, (HU7.out.kept h (by simp)).cell 1 rfl⟩, fun _ _ h h' => h.trans_ h', fun _ h => h⟩
            try dsimp only [Act.put]
            refine wp_region_quiet (C := C) (by kernel_rfl) (by kernel_rfl) hC0 ?_
            show wpQuiet _ _ _ _ [_, _, _, _, _, _, _, _, _, _, _, _, _, _, _] _
            repeat
              first
              | go_big_quiet_skip
              | (go_big_quiet_want
                 go_big_quiet_op
                 first
                 | go_big_quiet_on
                 | (apply Exists.intro
                    refine ⟨fun wq hq => ?_, ?_⟩
                    (first
                        | (go_at_call 15; refine (c1.out wq (HKW.out.trans_ (hCo _ hq))).mono ?_; rintro e w3 ⟨hk3, s', rfl, hs'⟩; obtain rfl : so = s' := eq_of_list (HSO.out.trans hs'.symm); exact ⟨rfl, hCk _ _ hq hk3⟩)
                        | (with_reducible rfl)
                        | (obtain ⟨r0, r1, r2⟩ := hCf wq hq; go_simp; (with_reducible first | rfl | exact hq | exact ⟨rfl, hq⟩)))
                    go_big_quiet_on))
            refine wpQuiet_nil ?_
            intro wz hz
            have HKz : Hid (Kept [] w7 wz) := hid (hCo _ hz)
            clear hC0 hCf hCk hCo hz
            have HK8 := hid (HK7.out.trans_ HKz.out)
            clear k1 k2 k3 k4 k5 k6 c1
            go_wp2_with fail
            go_roundw
            case rel => exact ⟨q + 1, by omega, by go_num, HK8, _, rfl, HL6⟩
            case measure => simp [RowKit.intOf]; omega
          · have hqp' : ¬ (q : Int) < p := by omega
            have HL7 : Hid (t6.data.toList = confText (xs.take (k + 1))) := hid (by
              have e : x.subs.take q = x.subs := List.take_of_length_le (by have := HP.out; omega)
              have h := hT6.out
              rw [e] at h
              rw [h]
              exact (flat_snoc (f := secText) HXK.out).symm)
            go_wp2_with fail
            go_roundw
            case rel => exact ⟨k + 1, by omega, by go_num, hid (hK.out.trans_ (HK2.out.trans_ hK6.out)), _, rfl, HL7⟩
            case measure => simp [RowKit.intOf]; omega
      · have hm2 : (0 : Int) < m := by omega
        have hm3 : decide (0 < m) = true := decide_eq_true (by omega)
        go_wp2_with (first
          | (refine wpList_load_mid rfl Sty (.tmp 12) rfl g (o + k * 3) rfl x.cells _ HR.out Try.underlying31 rfl infoS ?_)
          | (refine wpList_store_kept rfl Sty (.tmp 5) (.tmp 13) rfl wo.heap.size x.cells.toArray rfl rfl Sty _ (Blk.new wo Sty _) (sec_sz x) rfl (sec_all x HOne.out.1 HOne.out.2) ?_; intro w2 h1 h2 h3; have HB2 : Hid (Blk w2 wo.heap.size Sty #[.string x.name, .slice D m c', .slice E p d]) := hid (by have := h1.out; rw [show x.cells.toArray = #[.string x.name, x.ov, x.sv] from rfl, HOV.out, HSV.out] at this; exact this); have q1 : w2.cell? ⟨wo.heap.size, 1, none⟩ = some (.slice D m c') := HB2.out.cell 1 rfl; have q2 : w2.cell? ⟨wo.heap.size, 2, none⟩ = some (.slice E p d) := HB2.out.cell 2 rfl; have HK2 : Hid (Kept [] wo w2) := hid (((Kept.refl [] wo).alloc _).trans h2.out (by simp)); clear h1 h2 h3)
          | fail)
        obtain ⟨so, hso, hsz⟩ := list_ex (optsText x.opts)
        have hhd : headText x = [91] ++ x.name.data.toList ++ [93, 10] ++ optsText x.opts := by unfold headText; rw [if_neg (fun e => hm0 (by have := HOF.out; rw [e] at this; simpa using this))]
        have htl : t.size + (1 + x.name.size + 2 + so.size) ≤ 140737488355328 := by
          have h1 := HFl.out
          unfold secText at h1
          rw [List.length_append, hhd] at h1
          simp only [List.length_append, size_len, ← hsz] at h1
          simp at h1
          omega
        obtain ⟨a1, k1, l1, z1⟩ := cat_ex (P := Try.prog) ⟨#[91]⟩ x.name (by have z91 : (⟨#[91]⟩ : ByteArray).size = 1 := rfl; have z93 : (⟨#[93, 10]⟩ : ByteArray).size = 2 := rfl; have z32 : (⟨#[32, 34]⟩ : ByteArray).size = 2 := rfl; have z34 : (⟨#[34, 93, 10]⟩ : ByteArray).size = 3 := rfl; omega)
        obtain ⟨a2, k2, l2, z2⟩ := cat_ex (P := Try.prog) a1 ⟨#[93, 10]⟩ (by have z91 : (⟨#[91]⟩ : ByteArray).size = 1 := rfl; have z93 : (⟨#[93, 10]⟩ : ByteArray).size = 2 := rfl; have z32 : (⟨#[32, 34]⟩ : ByteArray).size = 2 := rfl; have z34 : (⟨#[34, 93, 10]⟩ : ByteArray).size = 3 := rfl; omega)
        obtain ⟨a3, k3, l3, z3⟩ := cat_ex (P := Try.prog) a2 so (by have z91 : (⟨#[91]⟩ : ByteArray).size = 1 := rfl; have z93 : (⟨#[93, 10]⟩ : ByteArray).size = 2 := rfl; have z32 : (⟨#[32, 34]⟩ : ByteArray).size = 2 := rfl; have z34 : (⟨#[34, 93, 10]⟩ : ByteArray).size = 3 := rfl; omega)
        obtain ⟨a4, k4, l4, z4⟩ := cat_ex (P := Try.prog) t a3 (by have z91 : (⟨#[91]⟩ : ByteArray).size = 1 := rfl; have z93 : (⟨#[93, 10]⟩ : ByteArray).size = 2 := rfl; have z32 : (⟨#[32, 34]⟩ : ByteArray).size = 2 := rfl; have z34 : (⟨#[34, 93, 10]⟩ : ByteArray).size = 3 := rfl; omega)
        have HTt : Hid (a4.data.toList = confText (xs.take k) ++ headText x) := hid (by rw [l4, l3, l2, l1, hT.out, hhd, hso])
        have HSO := hid hso
        have c1 := hid (fun w' (hk : Kept [] w w') => optionsText_calls B x.ov x.opts w' (HS2.out.1.below (hk.below HBB.out (by simp))) (Nat.le_trans HBB.out hk.size) HX.out.o (by have := HX.out.l; omega) (by omega))
        rw [HOV.out] at c1
        clear l1 l2 l3 l4 z1 z2 z3 z4 htl hso hsz hhd q1 q2
        have HKW := hid (hK.out.trans_ HK2.out)
        obtain ⟨C, hC0, hCf, hCk, hCo⟩ : ∃ C : World → Prop, C w2.drew ∧ (∀ w', C w' → w'.cell? ⟨wo.heap.size, 0, none⟩ = some (.string x.name) ∧ w'.cell? ⟨wo.heap.size, 1, none⟩ = some (.slice D m c')) ∧ (∀ w' w'', C w' → Kept [] w' w'' → C w'') ∧ (∀ w', C w' → Kept [] w2 w') :=
          ⟨fun w' => Kept [] w2 w', (Kept.refl _ w2).drew, fun w' h => ⟨(HB2.out.kept h (by simp)).cell 0 rfl, (HB2.out.kept h (by simp)).cell 1 rfl⟩, fun _ _ h h' => h.trans_ h', fun _ h => h⟩
        try dsimp only [Act.put]
        refine wp_region_quiet (C := C) (by kernel_rfl) (by kernel_rfl) hC0 ?_
        show wpQuiet _ _ _ _ [_, _, _, _, _, _, _, _, _, _, _] _
        repeat
          first
          | go_big_quiet_skip
          | (go_big_quiet_want
             go_big_quiet_op
             first
             | go_big_quiet_on
             | (apply Exists.intro
                refine ⟨fun wq hq => ?_, ?_⟩
                (first
                    | (go_at_call 15; refine (c1.out wq (HKW.out.trans_ (hCo _ hq))).mono ?_; rintro e w3 ⟨hk3, s', rfl, hs'⟩; obtain rfl : so = s' := eq_of_list (HSO.out.trans hs'.symm); exact ⟨rfl, hCk _ _ hq hk3⟩)
                    | (with_reducible rfl)
                    | (obtain ⟨r0, r1⟩ := hCf wq hq; go_simp; (with_reducible first | rfl | exact hq | exact ⟨rfl, hq⟩)))
                go_big_quiet_on))
        refine wpQuiet_nil ?_
        intro wz hz
        have HKz : Hid (Kept [] w2 wz) := hid (hCo _ hz)
        clear hC0 hCf hCk hCo hz
        clear k1 k2 k3 k4 c1 HSO HKW
        have q2 : wz.cell? ⟨wo.heap.size, 2, none⟩ = some (.slice E p d) := (HB2.out.kept HKz.out (by simp)).cell 2 rfl
        go_wp2_with fail
        clear q2
        go_loopw [3, 31] (fun tv iv wr => ∃ q : Nat, q ≤ p ∧ iv = .int .i64 q ∧ Hid (Kept [] w2 wr) ∧ ∃ t : ByteArray, tv = .string t ∧ Hid (t.data.toList = confText (xs.take k) ++ (headText x ++ (x.subs.take q).flatMap (subText x.name.data.toList)))) (fun _ iv _ => p - (RowKit.intOf iv).toNat)
        case atStart => exact ⟨0, by omega, rfl, HKz, _, rfl, hid (by simpa using HTt.out)⟩
        case round =>
          obtain ⟨q, hq, rfl, hK6, t6, rfl, hT6⟩ := hrel
          obtain ⟨wq, rfl⟩ : ∃ wq, wq = wr := ⟨_, rfl⟩
          by_cases hqp : q < p
          · obtain ⟨g2, o2, u, rfl, hg2, huk, humem, hR2⟩ := at_kept HSu.out SubD.len (hK.out.trans_ (HK2.out.trans_ hK6.out)) HBB.out hqp
            have HR2 := hid hR2
            have HUo := hid (HSo.out u humem)
            have HUk := hid (HX.out.u u humem)
            have HU1 := hid (OptSl.one HUo.out)
            have HUK := hid huk
            have hul := HUk.out.n.2
            have hqp' : (q : Int) < p := by omega
            have hfl := flat_le' (f := subText x.name.data.toList) huk
            obtain ⟨so, hso, hsz⟩ := list_ex (optsText u.opts)
            have hst : (subText x.name.data.toList u).length = 1 + x.name.size + 2 + u.name.size + 3 + so.size := by unfold subText; simp only [List.length_append, size_len, hsz]; simp
            have htl : t6.size + (1 + x.name.size + 2 + u.name.size + 3 + so.size) ≤ 140737488355328 := by
              have h1 := HFl.out
              have h2 := size_len t6
              have h3 := size_len t
              rw [hT6.out, List.length_append, List.length_append] at h2
              rw [hT.out] at h3
              unfold secText at h1
              rw [List.length_append] at h1
              omega
            obtain ⟨a1, k1, l1, z1⟩ := cat_ex (P := Try.prog) ⟨#[91]⟩ x.name (by have z91 : (⟨#[91]⟩ : ByteArray).size = 1 := rfl; have z93 : (⟨#[93, 10]⟩ : ByteArray).size = 2 := rfl; have z32 : (⟨#[32, 34]⟩ : ByteArray).size = 2 := rfl; have z34 : (⟨#[34, 93, 10]⟩ : ByteArray).size = 3 := rfl; omega)
            obtain ⟨a2, k2, l2, z2⟩ := cat_ex (P := Try.prog) a1 ⟨#[32, 34]⟩ (by have z91 : (⟨#[91]⟩ : ByteArray).size = 1 := rfl; have z93 : (⟨#[93, 10]⟩ : ByteArray).size = 2 := rfl; have z32 : (⟨#[32, 34]⟩ : ByteArray).size = 2 := rfl; have z34 : (⟨#[34, 93, 10]⟩ : ByteArray).size = 3 := rfl; omega)
            obtain ⟨a3, k3, l3, z3⟩ := cat_ex (P := Try.prog) a2 u.name (by have z91 : (⟨#[91]⟩ : ByteArray).size = 1 := rfl; have z93 : (⟨#[93, 10]⟩ : ByteArray).size = 2 := rfl; have z32 : (⟨#[32, 34]⟩ : ByteArray).size = 2 := rfl; have z34 : (⟨#[34, 93, 10]⟩ : ByteArray).size = 3 := rfl; omega)
            obtain ⟨a4, k4, l4, z4⟩ := cat_ex (P := Try.prog) a3 ⟨#[34, 93, 10]⟩ (by have z91 : (⟨#[91]⟩ : ByteArray).size = 1 := rfl; have z93 : (⟨#[93, 10]⟩ : ByteArray).size = 2 := rfl; have z32 : (⟨#[32, 34]⟩ : ByteArray).size = 2 := rfl; have z34 : (⟨#[34, 93, 10]⟩ : ByteArray).size = 3 := rfl; omega)
            obtain ⟨a5, k5, l5, z5⟩ := cat_ex (P := Try.prog) a4 so (by have z91 : (⟨#[91]⟩ : ByteArray).size = 1 := rfl; have z93 : (⟨#[93, 10]⟩ : ByteArray).size = 2 := rfl; have z32 : (⟨#[32, 34]⟩ : ByteArray).size = 2 := rfl; have z34 : (⟨#[34, 93, 10]⟩ : ByteArray).size = 3 := rfl; omega)
            obtain ⟨a6, k6, l6, z6⟩ := cat_ex (P := Try.prog) t6 a5 (by have z91 : (⟨#[91]⟩ : ByteArray).size = 1 := rfl; have z93 : (⟨#[93, 10]⟩ : ByteArray).size = 2 := rfl; have z32 : (⟨#[32, 34]⟩ : ByteArray).size = 2 := rfl; have z34 : (⟨#[34, 93, 10]⟩ : ByteArray).size = 3 := rfl; omega)
            have HL6 : Hid (a6.data.toList = confText (xs.take k) ++ (headText x ++ (x.subs.take (q + 1)).flatMap (subText x.name.data.toList))) := hid (by rw [l6, l5, l4, l3, l2, l1, hT6.out, flat_snoc huk, hso]; unfold subText; simp)
            have HSO := hid hso
            have c1 := hid (fun w' (hk : Kept [] w w') => optionsText_calls B u.ov u.opts w' (HUo.out.below (hk.below HBB.out (by simp))) (Nat.le_trans HBB.out hk.size) HUk.out.o (by have := HUk.out.l; omega) (by omega))
            clear l1 l2 l3 l4 l5 l6 z1 z2 z3 z4 z5 z6 hst htl hfl hso hsz hR2 huk hg2 humem hul
            go_wp2_with (first
              | (refine wpList_load_mid rfl Uty (.tmp 33) rfl g2 (o2 + q * 2) rfl u.cells _ HR2.out Try.underlying36 rfl infoU ?_)
              | (refine wpList_store_kept rfl Uty (.tmp 7) (.tmp 34) rfl wq.heap.size u.cells.toArray rfl rfl Uty _ (Blk.new wq Uty _) (sub_sz u) rfl (sub_all u HU1.out) ?_; intro w7 h1 h2 h3; have HU7 : Hid (Blk w7 wq.heap.size Uty u.cells.toArray) := hid h1.out; have HK7 : Hid (Kept [] w2 w7) := hid ((hK6.out.alloc _).trans h2.out (by have := hK6.out.size; simp; omega)); clear h1 h2 h3)
              | fail)
            have HKW := hid (hK.out.trans_ (HK2.out.trans_ HK7.out))
            obtain ⟨C, hC0, hCf, hCk, hCo⟩ : ∃ C : World → Prop, C w7.drew ∧ (∀ w', C w' → w'.cell? ⟨wo.heap.size, 0, none⟩ = some (.string x.name) ∧ w'.cell? ⟨wq.heap.size, 0, none⟩ = some (.string u.name) ∧ w'.cell? ⟨wq.heap.size, 1, none⟩ = some u.ov) ∧ (∀ w' w'', C w' → Kept [] w' w'' → C w'') ∧ (∀ w', C w' → Kept [] w7 w') :=
              ⟨fun w' => Kept [] w7 w', (Kept.refl _ w7).drew, fun w' h => ⟨(HB2.out.kept (HK7.out.trans_ h) (by simp)).cell 0 rfl, (HU7.out.kept h (by simp)).cell 0 rfl, (HU7.out.kept h (by simp)).cell 1 rfl⟩, fun _ _ h h' => h.trans_ h', fun _ h => h⟩
            try dsimp only [Act.put]
            refine wp_region_quiet (C := C) (by kernel_rfl) (by kernel_rfl) hC0 ?_
            show wpQuiet _ _ _ _ [_, _, _, _, _, _, _, _, _, _, _, _, _, _, _] _
            repeat
              first
              | go_big_quiet_skip
              | (go_big_quiet_want
                 go_big_quiet_op
                 first
                 | go_big_quiet_on
                 | (apply Exists.intro
                    refine ⟨fun wq hq => ?_, ?_⟩
                    (first
                        | (go_at_call 15; refine (c1.out wq (HKW.out.trans_ (hCo _ hq))).mono ?_; rintro e w3 ⟨hk3, s', rfl, hs'⟩; obtain rfl : so = s' := eq_of_list (HSO.out.trans hs'.symm); exact ⟨rfl, hCk _ _ hq hk3⟩)
                        | (with_reducible rfl)
                        | (obtain ⟨r0, r1, r2⟩ := hCf wq hq; go_simp; (with_reducible first | rfl | exact hq | exact ⟨rfl, hq⟩)))
                    go_big_quiet_on))
            refine wpQuiet_nil ?_
            intro wz hz
            have HKz : Hid (Kept [] w7 wz) := hid (hCo _ hz)
            clear hC0 hCf hCk hCo hz
            have HK8 := hid (HK7.out.trans_ HKz.out)
            clear k1 k2 k3 k4 k5 k6 c1
            go_wp2_with fail
            go_roundw
            case rel => exact ⟨q + 1, by omega, by go_num, HK8, _, rfl, HL6⟩
            case measure => simp [RowKit.intOf]; omega
          · have hqp' : ¬ (q : Int) < p := by omega
            have HL7 : Hid (t6.data.toList = confText (xs.take (k + 1))) := hid (by
              have e : x.subs.take q = x.subs := List.take_of_length_le (by have := HP.out; omega)
              have h := hT6.out
              rw [e] at h
              rw [h]
              exact (flat_snoc (f := secText) HXK.out).symm)
            go_wp2_with fail
            go_roundw
            case rel => exact ⟨k + 1, by omega, by go_num, hid (hK.out.trans_ (HK2.out.trans_ hK6.out)), _, rfl, HL7⟩
            case measure => simp [RowKit.intOf]; omega
    · have hlt' : ¬ (k : Int) < n := by omega
      go_wp2_with fail
      go_ret
      have e : xs.take k = xs := List.take_of_length_le (by have := HNN.out; omega)
      have := hT.out
      rw [e] at this
      exact ⟨hK.out, t, rfl, this⟩
end Go.Proofs.Ytnidjkmfnojlaaa.cf
