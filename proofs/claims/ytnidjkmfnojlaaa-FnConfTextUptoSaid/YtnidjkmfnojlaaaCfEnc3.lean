/- config.Encoder: sections, the whole; impl.EncodeConf. Printed by gen_cfenc3.py. -/
import Derived.Test.YtnidjkmfnojlaaaCfEnc2
import Derived.Deep.RegionHeld3
set_option linter.unusedVariables false
attribute [local go_sem ↓] Go.wp_at_zero Go.wp_at_succ
namespace Go.Proofs.Ytnidjkmfnojlaaa.cf
open Go.RowKit Lib mem opn frm strs text

theorem own_at' {w : World} {base n c : Nat} {e : TypeId} {A : Option Addr} {vs : List Value} (h : w.ownsRow base e 1 (.slice A n c) n vs) {k : Nat} (hk : k < n) : ∃ g o u, A = some ⟨g, o, none⟩ ∧ vs[k]? = some u ∧ w.cell? ⟨g, o + k, none⟩ = some u := by
  obtain ⟨g, o, c', u, e, hu, hc⟩ := own_at h hk
  injection e with e
  exact ⟨g, o, u, e, hu, hc⟩
set_option maxRecDepth 100000 in
set_option maxHeartbeats 8000000 in
theorem encodeSection_calls (B b ge : Nat) (l : List UInt8) (v : Value) (x : SecD) (w : World) (h : EncAt B b ge l w) (hv : SecP w v x) (hok : SecOk x) (hn : x.subs.length ≤ 1048576) (hs : l.length + (secText x).length ≤ 140737488355328) :
    Calls Try.prog 19 #[.pointer (some ⟨ge, 0, none⟩), v] w (Wrote B b ge (l ++ secText x) w) := by
  obtain ⟨g, ov, sv, rfl, hb, ho, hu⟩ := hv
  obtain ⟨D, m, d, rfl⟩ := ho.form
  have hml := ho.len rfl
  obtain ⟨F, f, hf⟩ := hu.form
  obtain ⟨n, hnn⟩ : ∃ n, n = x.subs.length := ⟨_, rfl⟩
  rw [← hnn] at hf
  subst hf
  have q0 := hb.cell 0 rfl
  have q1 := hb.cell 1 rfl
  have hnl := hok.n.2
  have hn' : (n : Int) ≤ 1048576 := by omega
  have hm' : (m : Int) ≤ 1000 := by have := hok.l; omega
  have HB := hid hb
  have HO := hid ho
  have HU := hid hu
  have HE := hid h
  have HOK := hid hok
  have HNN := hid hnn
  have HS := hid hs
  have HML := hid hml
  obtain ⟨nm, hnm⟩ : ∃ nm, nm = x.name := ⟨_, rfl⟩
  have HNM := hid hnm
  rw [← hnm] at q0 hnl
  clear hb ho hu h hok hn hnn hs hml hnm
  by_cases h0 : m = 0
  · subst h0
    have he : x.opts = [] := List.eq_nil_of_length_eq_zero HML.out.symm
    have hh : headText x = [] := by unfold headText; rw [if_pos he]
    have HE0 : Hid (EncAt B b ge (l ++ headText x) w) := hid (by rw [hh, List.append_nil]; exact HE.out)
    have HT0 : Hid (Ty AT w w) := hid (fun _ _ _ _ h => h)
    have HB0 : Hid (Below B w w) := hid (Below.refl _ _)
    have q2 := HB.out.cell 2 rfl
    clear he hh
    go_enter Try.func19, Try.ntmps19
    go_wp2_with fail
    clear q0 q1 q2
    go_loopw [41] (fun iv wr => ∃ k : Nat, k ≤ n ∧ iv = .int .i64 k ∧ Hid (EncAt B b ge (l ++ (headText x ++ (x.subs.take k).flatMap (subText x.name.data.toList))) wr) ∧ Hid (Ty AT w wr) ∧ Hid (Below B w wr)) (fun iv _ => n - (RowKit.intOf iv).toNat)
    case atStart => exact ⟨0, by omega, rfl, hid (by simpa using HE0.out), HT0, HB0⟩
    case round =>
      obtain ⟨k, hk, rfl, hE, hT, hB⟩ := hrel
      by_cases hlt : k < n
      · obtain ⟨g2, o2, uv, u, rfl, hc, huk, hum, hup⟩ := (HU.out.ty hT.out (by simp) (by simp) (by simp) (by simp)).at_ HNN.out hlt
        have q0 := (hT.out _ _ _ (by simp) HB.out).cell 0 rfl
        rw [← HNM.out] at q0
        have hlt' : (k : Int) < n := by omega
        have HUK := hid huk
        have c1 := hid (encodeSub_calls B b ge _ nm uv u wr hE.out hup (HOK.out.u u hum) hnl (by
          have h1 := flat_le' (f := subText x.name.data.toList) huk
          have h2 := HS.out
          unfold secText at h2
          rw [List.length_append] at h2
          rw [List.length_append, List.length_append, HNM.out]
          omega))
        have HLx : Hid (l ++ (headText x ++ (x.subs.take (k + 1)).flatMap (subText x.name.data.toList)) = l ++ (headText x ++ (x.subs.take k).flatMap (subText x.name.data.toList)) ++ subText nm.data.toList u) := hid (by rw [flat_snoc huk, HNM.out]; simp [List.append_assoc])
        have hpv : ∃ gp, uv = .pointer (some ⟨gp, 0, none⟩) := by obtain ⟨gp, _, e, _⟩ := hup; exact ⟨gp, e⟩
        obtain ⟨gp, rfl⟩ := hpv
        clear huk hum hup
        go_wp2_with fail
        refine c1.out.mono ?_
        rintro e w4 ⟨rfl, h1, h2, h3⟩
        have HE4 := hid (show EncAt B b ge (l ++ (headText x ++ (x.subs.take (k + 1)).flatMap (subText x.name.data.toList))) w4 by rw [HLx.out]; exact h1)
        have HT4 := hid (hT.out.trans h2)
        have HB4 := hid (below_trans hB.out h3)
        clear h1 h2 h3 q0 hc
        go_wp2_with fail
        go_roundw
        case rel => exact ⟨k + 1, by omega, by go_num, HE4, HT4, HB4⟩
        case measure => simp [RowKit.intOf]; omega
      · have hlt' : ¬ (k : Int) < n := by omega
        go_wp2_with fail
        go_ret
        have e : x.subs.take k = x.subs := List.take_of_length_le (by have := HNN.out; omega)
        have := hE.out
        rw [e] at this
        exact ⟨rfl, this, hT.out, hB.out⟩
  · have hm0 : (0 : Int) < m := by omega
    obtain ⟨a1, k1, l1, z1⟩ := cat_ex (P := Try.prog) ⟨#[91]⟩ nm (by have : (⟨#[91]⟩ : ByteArray).size = 1 := rfl; omega)
    obtain ⟨a2, k2, l2, z2⟩ := cat_ex (P := Try.prog) a1 ⟨#[93, 10]⟩ (by have : (⟨#[91]⟩ : ByteArray).size = 1 := rfl; have : (⟨#[93, 10]⟩ : ByteArray).size = 2 := rfl; omega)
    have HL2 : Hid (headText x = a2.data.toList ++ optsText x.opts) := hid (by
      unfold headText
      rw [if_neg (fun e => h0 (by have := HML.out; rw [e] at this; simpa using this)), l2, l1, HNM.out])
    have HSz : Hid (l.length + a2.size + (optsText x.opts).length ≤ 140737488355328) := hid (by
      have h2 := HS.out
      unfold secText at h2
      rw [List.length_append, HL2.out, List.length_append] at h2
      have : a2.data.toList.length = a2.size := by simp
      omega)
    clear l1 l2 z1 z2
    go_enter Try.func19, Try.ntmps19
    go_wp2_with fail
    refine (print_calls B b ge _ a2 _ HE.out (by have := HSz.out; omega)).mono ?_
    rintro e w2 ⟨rfl, h1, h2, h3⟩
    have HT2 := hid h2
    have HB2 := hid h3
    have HE2 := hid h1
    have q1 := (h2 _ _ _ (by simp) HB.out).cell 1 rfl
    clear h1 h2 h3
    go_wp2_with fail
    refine (encodeOptions_calls B b ge _ _ x.opts _ HE2.out (HO.out.ty HT2.out (by simp) (by simp)) HOK.out.o (by have := HOK.out.l; omega) (by have := HSz.out; rw [List.length_append]; have : a2.data.toList.length = a2.size := (by simp); omega)).mono ?_
    rintro e w3 ⟨rfl, h1, h2, h3⟩
    have HT0 := hid (HT2.out.trans h2)
    have HB0 := hid (below_trans HB2.out h3)
    have HE0 := hid (show EncAt B b ge (l ++ headText x) w3 by rw [HL2.out, ← List.append_assoc]; exact h1)
    have q2 := (HT0.out _ _ _ (by simp) HB.out).cell 2 rfl
    clear h1 h2 h3 q0 q1
    go_wp2_with fail
    clear q2
    go_loopw [41] (fun iv wr => ∃ k : Nat, k ≤ n ∧ iv = .int .i64 k ∧ Hid (EncAt B b ge (l ++ (headText x ++ (x.subs.take k).flatMap (subText x.name.data.toList))) wr) ∧ Hid (Ty AT w wr) ∧ Hid (Below B w wr)) (fun iv _ => n - (RowKit.intOf iv).toNat)
    case atStart => exact ⟨0, by omega, rfl, hid (by simpa using HE0.out), HT0, HB0⟩
    case round =>
      obtain ⟨k, hk, rfl, hE, hT, hB⟩ := hrel
      by_cases hlt : k < n
      · obtain ⟨g2, o2, uv, u, rfl, hc, huk, hum, hup⟩ := (HU.out.ty hT.out (by simp) (by simp) (by simp) (by simp)).at_ HNN.out hlt
        have q0 := (hT.out _ _ _ (by simp) HB.out).cell 0 rfl
        rw [← HNM.out] at q0
        have hlt' : (k : Int) < n := by omega
        have HUK := hid huk
        have c1 := hid (encodeSub_calls B b ge _ nm uv u wr hE.out hup (HOK.out.u u hum) hnl (by
          have h1 := flat_le' (f := subText x.name.data.toList) huk
          have h2 := HS.out
          unfold secText at h2
          rw [List.length_append] at h2
          rw [List.length_append, List.length_append, HNM.out]
          omega))
        have HLx : Hid (l ++ (headText x ++ (x.subs.take (k + 1)).flatMap (subText x.name.data.toList)) = l ++ (headText x ++ (x.subs.take k).flatMap (subText x.name.data.toList)) ++ subText nm.data.toList u) := hid (by rw [flat_snoc huk, HNM.out]; simp [List.append_assoc])
        have hpv : ∃ gp, uv = .pointer (some ⟨gp, 0, none⟩) := by obtain ⟨gp, _, e, _⟩ := hup; exact ⟨gp, e⟩
        obtain ⟨gp, rfl⟩ := hpv
        clear huk hum hup
        go_wp2_with fail
        refine c1.out.mono ?_
        rintro e w4 ⟨rfl, h1, h2, h3⟩
        have HE4 := hid (show EncAt B b ge (l ++ (headText x ++ (x.subs.take (k + 1)).flatMap (subText x.name.data.toList))) w4 by rw [HLx.out]; exact h1)
        have HT4 := hid (hT.out.trans h2)
        have HB4 := hid (below_trans hB.out h3)
        clear h1 h2 h3 q0 hc
        go_wp2_with fail
        go_roundw
        case rel => exact ⟨k + 1, by omega, by go_num, HE4, HT4, HB4⟩
        case measure => simp [RowKit.intOf]; omega
      · have hlt' : ¬ (k : Int) < n := by omega
        go_wp2_with fail
        go_ret
        have e : x.subs.take k = x.subs := List.take_of_length_le (by have := HNN.out; omega)
        have := hE.out
        rw [e] at this
        exact ⟨rfl, this, hT.out, hB.out⟩
theorem ConfP.form {w : World} {v : Value} {ss : List SecD} (h : ConfP w v ss) : ∃ g A c vs, v = .pointer (some ⟨g, 0, none⟩) ∧ Blk w g TC #[.pointer none, .slice A ss.length c, .slice none 0 0] ∧ w.ownsRow 0 PS 1 (.slice A ss.length c) ss.length vs ∧ All2 (SecP w) vs ss := by
  obtain ⟨g, sv, rfl, hb, vs, ho, ha⟩ := h
  obtain ⟨A, c, rfl, _⟩ := row_some ho
  exact ⟨g, A, c, vs, rfl, hb, ho, ha⟩
set_option maxRecDepth 100000 in
set_option maxHeartbeats 8000000 in
theorem encode_calls (B b ge : Nat) (v : Value) (xs : List SecD) (w : World) (h : EncAt B b ge [] w) (hv : ConfP w v xs) (hok : ∀ x ∈ xs, SecOk x) (hf : ∀ x ∈ xs, Few x) (hn : xs.length ≤ 1048576) (hs : (confText xs).length ≤ 140737488355328) :
    Calls Try.prog 12 #[.pointer (some ⟨ge, 0, none⟩), v] w (Wrote B b ge (confText xs) w) := by
  obtain ⟨g, F, f, vs, rfl, hb, ho, ha⟩ := hv.form
  obtain ⟨n, hnn⟩ : ∃ n, n = xs.length := ⟨_, rfl⟩
  rw [← hnn] at hb ho
  have q1 := hb.cell 1 rfl
  have hn' : (n : Int) ≤ 1048576 := by omega
  have HE := hid h
  have HO := hid ho
  have HA := hid ha
  have HOK := hid hok
  have HF := hid hf
  have HNN := hid hnn
  have HS := hid hs
  clear h hv hok hf hn hs hb ho ha hnn
  go_enter Try.func12, Try.ntmps12
  go_wp2_with fail
  clear q1
  go_loopw [13] (fun iv wr => ∃ k : Nat, k ≤ n ∧ iv = .int .i64 k ∧ Hid (EncAt B b ge (confText (xs.take k)) wr) ∧ Hid (Ty AT w wr) ∧ Hid (Below B w wr)) (fun iv _ => n - (RowKit.intOf iv).toNat)
  case atStart => exact ⟨0, by omega, rfl, hid (by simpa [confText] using HE.out), hid (fun _ _ _ _ h => h), hid (Below.refl _ _)⟩
  case round =>
    obtain ⟨k, hk, rfl, hE, hT, hB⟩ := hrel
    by_cases hlt : k < n
    · obtain ⟨g2, o2, uv, rfl, hu, hc⟩ := own_at' (own_ty (ts := AT) HO.out hT.out (by simp)) hlt
      obtain ⟨a, x, ha, hxk, hxp, hxm⟩ := HA.out.at_ (k := k) (by have := HNN.out; omega)
      rw [hu] at ha
      injection ha with ha
      subst ha
      have hpv : ∃ gp, uv = .pointer (some ⟨gp, 0, none⟩) := by obtain ⟨gp, _, _, e, _⟩ := hxp; exact ⟨gp, e⟩
      obtain ⟨gp, rfl⟩ := hpv
      have hlt' : (k : Int) < n := by omega
      have c1 := hid (encodeSection_calls B b ge _ _ x wr hE.out (hxp.ty hT.out (by simp) (by simp) (by simp) (by simp) (by simp)) (HOK.out x hxm) (HF.out x hxm).u (by
        have h1 := flat_le' (f := secText) hxk
        have h2 := HS.out
        unfold confText at h2 ⊢
        omega))
      have HLx : Hid (confText (xs.take (k + 1)) = confText (xs.take k) ++ secText x) := hid (flat_snoc hxk)
      clear hxk hxp hxm hu
      go_wp2_with fail
      refine c1.out.mono ?_
      rintro e w4 ⟨rfl, h1, h2, h3⟩
      have HE4 := hid (show EncAt B b ge (confText (xs.take (k + 1))) w4 by rw [HLx.out]; exact h1)
      have HT4 := hid (hT.out.trans h2)
      have HB4 := hid (below_trans hB.out h3)
      clear h1 h2 h3 hc
      go_wp2_with fail
      go_roundw
      case rel => exact ⟨k + 1, by omega, by go_num, HE4, HT4, HB4⟩
      case measure => simp [RowKit.intOf]; omega
    · have hlt' : ¬ (k : Int) < n := by omega
      go_wp2_with fail
      go_ret
      have e : xs.take k = xs := List.take_of_length_le (by have := HNN.out; omega)
      have := hE.out
      rw [e] at this
      exact ⟨rfl, this, hT.out, hB.out⟩
def NewEnc (b : Nat) (w : World) (e : Ending) (w' : World) : Prop := e = .returned (.pointer (some ⟨w.heap.size, 0, none⟩)) ∧ w' = w.alloc (.cells #[.iface 45 (.pointer (some ⟨b, 0, none⟩))] TE)
set_option maxRecDepth 100000 in
theorem newEnc_calls (b : Nat) (w : World) : Calls Try.prog 11 #[.iface 45 (.pointer (some ⟨b, 0, none⟩))] w (NewEnc b w) := by
  go_enter Try.func11, Try.ntmps11
  go_wp2_with fail
  go_ret
  exact ⟨rfl, rfl⟩
/-- bytes of the call's own, and that they are right -/
def OwnOk (w : World) (l : List UInt8) (e : Ending) (w' : World) : Prop := Below w.heap.size w w' ∧ ∃ v, e = .returned (.tuple #[v, .bool true]) ∧ w'.ownsRow w.heap.size 5 1 v l.length (byteCells l)
theorem below_draws {w w' : World} {B : Nat} (h : ∃ k, w' = w.drewN k) : Below B w w' := by obtain ⟨k, rfl⟩ := h; exact ⟨rfl, rfl, rfl, Nat.le_refl _, fun _ _ => rfl⟩
set_option maxRecDepth 100000 in
set_option maxHeartbeats 8000000 in
theorem encodeConf_calls (v : Value) (xs : List SecD) (w : World) (h : SecSl w w.heap.size v xs) (hok : ∀ x ∈ xs, SecOk x) (hf : ∀ x ∈ xs, Few x) (hn : xs.length ≤ 1048576) (hs : (confText xs).length ≤ 140737488355328) :
    Calls Try.prog 6 #[v] w (OwnOk w (confText xs)) := by
  have c1 := hid (fun b w => newEnc_calls b w)
  have c2 := hid (fun (w' : World) (hb : Below w.heap.size w w') => configOf_calls w.heap.size v xs w' (h.below hb) hb.size hn hf)
  have c3 := hid (fun B b ge cv w' he hc => encode_calls B b ge cv xs w' he hc hok hf hn hs)
  have HF := hid (fresh_isBuffer 40 5 w)
  have HB1 := hid ((Below.refl w.heap.size w).alloc (Nat.le_refl _) (.cells #[.slice none 0 0, .int .i64 0, .int .i8 0] 40))
  clear h hok hf hn hs
  go_enter Try.func6, Try.ntmps6
  go_wp2_with fail
  generalize w.alloc (.cells #[.slice none 0 0, .int .i64 0, .int .i8 0] 40) = w1 at *
  refine (c1.out _ _).mono ?_
  rintro e w2 ⟨rfl, rfl⟩
  have HE2 : Hid (EncAt w.heap.size w.heap.size w1.heap.size [] (w1.alloc (.cells #[.iface 45 (.pointer (some ⟨w.heap.size, 0, none⟩))] TE))) := hid ⟨HF.out.old ((Below.refl _ _).alloc (Nat.le_refl _) _), Blk.new _ _ _⟩
  have HB2 := hid (HB1.out.alloc HB1.out.size (.cells #[.iface 45 (.pointer (some ⟨w.heap.size, 0, none⟩))] TE))
  obtain ⟨ge, hge⟩ : ∃ ge, ge = w1.heap.size := ⟨_, rfl⟩
  rw [← hge] at HE2 ⊢
  clear hge
  generalize w1.alloc (.cells #[.iface 45 (.pointer (some ⟨w.heap.size, 0, none⟩))] TE) = w2 at *
  go_wp2_with fail
  refine (c2.out _ HB2.out).mono ?_
  rintro e w3 ⟨cv, rfl, hk3, hc3⟩
  have HE3 : Hid (EncAt w.heap.size w.heap.size ge [] w3) := hid ⟨HE2.out.buf.old hk3.nil_below, HE2.out.enc.kept hk3 (by simp)⟩
  have HB3 := hid (below_of HB2.out hk3 HB2.out.size)
  have HC3 := hid hc3
  clear hk3 hc3
  go_wp2_with fail
  refine (c3.out _ _ _ _ _ HE3.out HC3.out).mono ?_
  rintro e w4 ⟨rfl, h1, h2, h3⟩
  have c4 := hid (fun (w' : World) h => Try.Buffer_Bytes w.heap.size w.heap.size (byteCells (confText xs)) w' h)
  have HB4 := hid (below_trans HB3.out h3)
  have HI := hid (show IsBuffer 40 5 w.heap.size w.heap.size (byteCells (confText xs)) w4.drew from h1.buf)
  clear h1 h2 h3 c2 c3
  go_wp2_with fail
  go_region_held3 (fun _ => True) (trivial)
    ((go_at_call 14; refine (c4.out _ HI.out).mono ?_; rintro e x4 ⟨v, rfl, ho, hq⟩; have HO := hid ho; have HQ := hid hq; clear ho hq))
  all_goals
    go_wp2_with fail
    go_ret2
    exact ⟨below_trans HB4.out (below_trans (⟨rfl, rfl, rfl, Nat.le_refl _, fun _ _ => rfl⟩ : Below w.heap.size w4 w4.drew) (below_draws HQ.out)), _, rfl, by simpa [byteCells] using HO.out⟩
end Go.Proofs.Ytnidjkmfnojlaaa.cf
