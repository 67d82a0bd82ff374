/- config.Section.Subsection: the part of a name, there or made. -/
import Derived.Test.YtmhcbgmnhcfhfaaDoorChSec
set_option linter.unusedVariables false
attribute [local go_sem ↓] Go.wp_at_zero Go.wp_at_succ
namespace Go.Proofs.YtmhcbgmnhcfhfaaDoor.cf
open Go.RowKit Lib mem opn frm strs

/-- a part of the name u in the section in block g, whose options are as P says -/
def GotSub (B : Nat) (w : World) (gc g n : Nat) (sv : Value) (vs : List Value) (ss : List SecD) (t u : ByteArray) (F : List OptD → Prop) (e : Ending) (w' : World) : Prop :=
  ∃ gu ss' ov os, e = .returned (.pointer (some ⟨gu, 0, none⟩)) ∧ Below B w w' ∧ w.heap.size ≤ w'.heap.size ∧ ConfB B w' gc sv vs ss' ∧ All2 (SecT B w' g t u) vs ss' ∧ All2 (Alike (n + 1)) ss ss' ∧ B ≤ gu ∧ Blk w' gu TU #[.string u, ov] ∧ OptsP w' ov os ∧ F os
/-- the section in block g is the one that it is -/
theorem secT_self {B g n : Nat} {w : World} {vs : List Value} {ss : List SecD} {s x : SecD} {y : SubD} {t u : ByteArray} (h : All2 (SecB B w) vs ss) (hs : SecB B w (.pointer (some ⟨g, 0, none⟩)) s) (hn : s.name = t) (hy : y ∈ s.subs) (hyn : y.name = u) (hz : ∀ s ∈ ss, Sized n s) (hzs : Sized n s) :
    ∃ ss', All2 (SecT B w g t u) vs ss' ∧ All2 (Alike (n + 1)) ss ss' := by
  refine all2_choose h fun a b hav hp hbs => ?_
  by_cases hag : a = .pointer (some ⟨g, 0, none⟩)
  · subst hag
    obtain ⟨ov, sv, _, hb, _⟩ := hp.blk
    obtain ⟨ov', sv', _, hb', _⟩ := hs.blk
    have hne := (blk3 hb' hb).1
    injection hne with hne
    exact ⟨s, ⟨hs, fun _ => ⟨hn, y, hy, hyn⟩⟩, hne, hzs.o, by have := hzs.u; omega, hzs.p⟩
  · exact ⟨b, ⟨hp, fun e => absurd e hag⟩, rfl, (hz b hbs).o, by have := (hz b hbs).u; omega, (hz b hbs).p⟩
set_option maxRecDepth 100000 in
set_option maxHeartbeats 4000000 in
theorem subAny_calls (B gc g N : Nat) (sv : Value) (vs : List Value) (ss : List SecD) (s : SecD) (t : ByteArray) (w : World) (h : ConfV B w gc sv vs ss) (hB : B ≤ w.heap.size) (hm : .pointer (some ⟨g, 0, none⟩) ∈ vs) (hs : SecB B w (.pointer (some ⟨g, 0, none⟩)) s) (hz : ∀ s ∈ ss, Sized N s) (hzs : Sized N s) (hN : N ≤ 2147483648) (F : List OptD → Prop) (hF0 : F []) (hF : ∀ x ∈ s.subs, F x.opts) :
    Calls Tryd.prog 46 #[.pointer (some ⟨g, 0, none⟩), .string t] w (GotSub B w gc g N sv vs ss s.name t F) := by
  have HV := hid (And.intro h (And.intro hm (And.intro hz (And.intro hzs (And.intro hF0 hF)))))
  have HS := hid hs
  obtain ⟨ov, uv, hBg, hb, hov, us, hown, hall⟩ := hs.blk
  have HBV := hid (And.intro hBg (And.intro hb (And.intro hov (And.intro hown hall))))
  obtain ⟨A, c, rfl, hc⟩ := row_some hown
  obtain ⟨i0, hi, hz0, hz1, hz2⟩ := infoPtr PU (by kernel_rfl)
  have c1 : w.cell? ⟨g, 2, none⟩ = some (.slice A s.subs.length c) := hb.cell 2 rfl
  have hn : s.subs.length ≤ 2147483648 := by have := hzs.u; omega
  obtain ⟨n, hnn⟩ : ∃ n, n = s.subs.length := ⟨_, rfl⟩
  obtain ⟨w1, hw1⟩ : ∃ w1, w1 = (w.alloc (.cells #[.string t, .slice none 0 0] TU)).alloc (.cells #[.pointer (some ⟨w.heap.size, 0, none⟩)] PU) := ⟨_, rfl⟩
  have hk1 : Kept [] w w1 := by rw [hw1]; exact ((Kept.refl [] w).alloc _).alloc _
  have HO := hid hown
  have HO1 := hid (own_ty (ts := [PU]) hown (.of_kept hk1) (by simp))
  have HB1 := hid (hb.kept hk1 (by simp))
  have HR := hid (show Reads w1 (w.heap.size + 2) 1 (some ⟨w.heap.size + 1, 0, none⟩) 1 [.pointer (some ⟨w.heap.size, 0, none⟩)] by
    rw [hw1]
    have := one_ptr (w.alloc (.cells #[.string t, .slice none 0 0] TU)) (.pointer (some ⟨w.heap.size, 0, none⟩)) (e := PU) (B := w.heap.size + 2) (by simp)
    simpa using this)
  have HZ := hid (Nat.le_trans hB hk1.size)
  have HBB := hid hB
  have HA := hid hall
  have HN := hid hnn
  have HW1 := hid hw1
  rw [← hnn] at c1 hn HO1
  have c2 : (w.alloc (.cells #[.string t, .slice none 0 0] TU)).cell? ⟨g, 2, none⟩ = some (.slice A n c) := by rw [hnn]; exact (hb.alloc _).cell 2 rfl
  have e0 : (n : Int) ≤ 4294967295 := by omega
  have e1 : IntKind.i64.wrap ((n : Int) - 1) = (n : Int) - 1 := IntWalk.i64_in _ (by omega)
  clear hb hown hall hnn hc hn hB hk1 hw1 h hm hs hz hzs hF0 hF hBg hov hN
  go_enter Tryd.func46, Tryd.ntmps46
  go_wp2_with fail
  go_loop [5] (fun iv => ∃ z : Int, iv = .int .i64 z ∧ (z = -1 ∨ ∃ m : Nat, z = m ∧ m < n) ∧ Hid (∀ i x, z < (i : Nat) → s.subs[i]? = some x → x.name ≠ t)) (fun iv => (RowKit.intOf iv + 1).toNat)
  case atStart =>
    refine ⟨(n : Int) - 1, by go_num, ?_, hid (fun i s hi hs => by
      have h1 := (List.getElem?_eq_some_iff.1 hs).1
      have h2 := HN.out
      omega)⟩
    rcases Nat.eq_zero_or_pos n with hz | hz
    · exact .inl (by omega)
    · exact .inr ⟨n - 1, by omega, by omega⟩
  case round =>
    obtain ⟨z, rfl, hz, hh⟩ := hrel
    rcases hz with rfl | ⟨m, rfl, hm⟩
    · clear hh e1
      go_wp2_with (at_builtin; rw [← HW1.out]; refine wpList_append_any _ rfl (.tmp 36) (.tmp 38) _ rfl B PU i0 _ 1 8 Tryd.underlying82 hi hz0 hz1 hz2 rfl (by omega) (.slice A n c) n us rfl HO1.out (w.heap.size + 2) (some ⟨w.heap.size + 1, 0, none⟩) 1 1 [.pointer (some ⟨w.heap.size, 0, none⟩)] rfl HR.out (by simp [Value.oneCell']) (by simp only [maxLen]; omega) (by omega) HZ.out ?_; intro v6 w6 hown6 hg6 hat6; obtain ⟨A6, c6, rfl, -⟩ := row_some hown6; have hb6 : Blk w6 g TS #[.string s.name, ov, .slice A n c] := by { have := Ty.own (ts := [TS]) HO1.out hg6 (by decide) _ _ _ (by simp) HB1.out; rw [← HN.out] at this; exact this }; have qs := hb6.cell 2 rfl; have fs := hb6.frozen 2; have H6 := hid (And.intro hown6 hg6); clear hown6 hg6 hat6 hb6)
      go_ret
      obtain ⟨hown6, hg6⟩ := H6.out
      have hown1 := HO1.out
      have hn0 := HN.out
      subst hn0
      obtain ⟨hV, hmm, hzz, hzzs, hF0, hF⟩ := HV.out
      obtain ⟨b1, b2, b3, b4, b5⟩ := HBV.out
      obtain ⟨ss', h1, h2, h3, h4, h5⟩ := hV.pushSub HBB.out hmm hzz hzzs b1 b2 b3 b4 b5 HW1.out hown1 hown6 hg6
      exact ⟨_, ss', _, [], rfl, h1, h1.size, h2, h3, h4, HBB.out, h5, no_opts _, hF0⟩
    · have hks : m < s.subs.length := by have := HN.out; omega
      obtain ⟨g2, o2, c2', u, e2, hu, hcell⟩ := own_at HO.out hks
      obtain ⟨a, x, ha, hx, hP, hmem⟩ := HA.out.at_ hks
      rw [hu] at ha
      obtain rfl : u = a := by injection ha
      obtain ⟨gs, ov2, rfl, hBs, hbs, hP2⟩ := hP
      have HPS := hid (And.intro hBs (And.intro hbs hP2))
      injection e2 with eA _ ec
      subst eA
      have cS := hid (subName_calls gs x.name t ov2 w hbs)
      have HX := hid hx
      have HM := hid hmem
      have hm0 : (0 : Int) ≤ m := by omega
      have hlt' : (m : Int) < n := by omega
      have e3 : IntKind.i64.wrap ((m : Int) - 1) = (m : Int) - 1 := IntWalk.i64_in _ (by omega)
      clear hbs hP2 hu ha hx hmem hks ec hBs
      go_wp2_with fail
      refine cS.out.mono ?_
      rintro e w' ⟨rfl, hw'⟩
      obtain rfl : w = w' := hw'.symm
      clear hw'
      by_cases hnm : x.name = t
      · rw [decide_eq_true hnm]
        have HY := hid hnm
        clear hnm
        go_wp2_with fail
        go_ret
        obtain ⟨hV, hmm, hzz, hzzs, hF0, hF⟩ := HV.out
        obtain ⟨b1, b2, b3⟩ := HPS.out
        obtain ⟨ss', h1, h2⟩ := secT_self (x := s) hV.a HS.out rfl HM.out HY.out hzz hzzs
        have e4 : ss'.length = ss.length := h2.len.symm
        refine ⟨gs, ss', _, _, rfl, Below.refl _ _, Nat.le_refl _, ⟨hV.b, hV.c, by rw [e4]; exact hV.o, h1.mono fun _ _ h => h.1⟩, h1, h2, b1, ?_, b3, hF x HM.out⟩
        rw [← HY.out]; exact b2
      · rw [decide_eq_false hnm]
        have hh2 : Hid (∀ i x, (m : Int) - 1 < (i : Nat) → s.subs[i]? = some x → x.name ≠ t) := hid (fun i s hi hs => by
          by_cases him : i = m
          · subst him
            rw [HX.out] at hs
            injection hs with hs
            subst hs
            exact hnm
          · exact hh.out i s (by omega) hs)
        clear hnm
        go_wp2_with fail
        go_round
        case rel => exact ⟨(m : Int) - 1, by go_num, (by rcases m with _ | m; exact .inl (by omega); exact .inr ⟨m, by omega, by omega⟩), hh2⟩
        case measure => (simp [RowKit.intOf]; try omega)
end Go.Proofs.YtmhcbgmnhcfhfaaDoor.cf
