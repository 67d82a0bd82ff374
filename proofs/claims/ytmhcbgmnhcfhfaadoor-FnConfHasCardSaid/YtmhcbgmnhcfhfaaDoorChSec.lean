/- config.Config.Section: the section of a name, there or made. -/
import Derived.Test.YtmhcbgmnhcfhfaaDoorChPush
set_option linter.unusedVariables false
attribute [local go_sem ↓] Go.wp_at_zero Go.wp_at_succ
namespace Go.Proofs.YtmhcbgmnhcfhfaaDoor.cf
open Go.RowKit Lib mem opn frm strs

def GotSec (B : Nat) (w : World) (gc : Nat) (ss : List SecD) (t : ByteArray) (e : Ending) (w' : World) : Prop :=
  ∃ g sv' vs' ss' s, e = .returned (.pointer (some ⟨g, 0, none⟩)) ∧ Below B w w' ∧ ConfV B w' gc sv' vs' ss' ∧ .pointer (some ⟨g, 0, none⟩) ∈ vs' ∧ SecB B w' (.pointer (some ⟨g, 0, none⟩)) s ∧ s.name = t ∧ ((ss' = ss ∧ s ∈ ss) ∨ ((∀ x ∈ ss, x.name ≠ t) ∧ s = newSec t ∧ ss' = ss ++ [newSec t]))
set_option maxRecDepth 100000 in
set_option maxHeartbeats 4000000 in
theorem secAny_calls (B gc : Nat) (sv : Value) (vs : List Value) (ss : List SecD) (t : ByteArray) (w : World) (h : ConfV B w gc sv vs ss) (hB : B ≤ w.heap.size) (hn : ss.length ≤ 4294967295) (hw : ∀ s ∈ ss, WordOk s.name) (ht : WordOk t) :
    Calls Tryd.prog 25 #[.pointer (some ⟨gc, 0, none⟩), .string t] w (GotSec B w gc ss t) := by
  have HV := hid h
  obtain ⟨⟨hbb, hb, hown, hall⟩, hap⟩ := h
  obtain ⟨A, c, rfl, hc⟩ := row_some hown
  obtain ⟨i0, hi, hz0, hz1, hz2⟩ := infoPtr PS (by kernel_rfl)
  have c1 : w.cell? ⟨gc, 1, none⟩ = some (.slice A ss.length c) := hb.cell 1 rfl
  obtain ⟨n, hnn⟩ : ∃ n, n = ss.length := ⟨_, rfl⟩
  obtain ⟨w1, hw1⟩ : ∃ w1, w1 = (w.alloc (.cells #[.string t, .slice none 0 0, .slice none 0 0] TS)).alloc (.cells #[.pointer (some ⟨w.heap.size, 0, none⟩)] PS) := ⟨_, rfl⟩
  have hk1 : Kept [] w w1 := by rw [hw1]; exact ((Kept.refl [] w).alloc _).alloc _
  have HO := hid hown
  have HO1 := hid (own_ty (ts := [PS]) hown (.of_kept hk1) (by simp))
  have HB1 := hid (hb.kept hk1 (by simp))
  have HR := hid (show Reads w1 (w.heap.size + 2) 1 (some ⟨w.heap.size + 1, 0, none⟩) 1 [.pointer (some ⟨w.heap.size, 0, none⟩)] by
    rw [hw1]
    have := one_ptr (w.alloc (.cells #[.string t, .slice none 0 0, .slice none 0 0] TS)) (.pointer (some ⟨w.heap.size, 0, none⟩)) (e := PS) (B := w.heap.size + 2) (by simp)
    simpa using this)
  have HZ := hid (Nat.le_trans hB hk1.size)
  have HBB := hid hB
  have HA := hid hall
  have HW := hid hw
  have HT := hid ht
  have HN := hid hnn
  have HW1 := hid hw1
  rw [← hnn] at c1 hn HO1
  have c2 : (w.alloc (.cells #[.string t, .slice none 0 0, .slice none 0 0] TS)).cell? ⟨gc, 1, none⟩ = some (.slice A n c) := by rw [hnn]; exact (hb.alloc _).cell 1 rfl
  have e0 : (n : Int) ≤ 4294967295 := by omega
  have e1 : IntKind.i64.wrap ((n : Int) - 1) = (n : Int) - 1 := IntWalk.i64_in _ (by omega)
  clear hb hown hall hw ht hnn hc hn hbb hap hB hk1 hw1
  go_enter Tryd.func25, Tryd.ntmps25
  go_wp2_with fail
  go_loop [5] (fun iv => ∃ z : Int, iv = .int .i64 z ∧ (z = -1 ∨ ∃ m : Nat, z = m ∧ m < n) ∧ Hid (∀ i s, z < (i : Nat) → ss[i]? = some s → s.name ≠ t)) (fun iv => (RowKit.intOf iv + 1).toNat)
  case atStart =>
    refine ⟨(n : Int) - 1, by go_num, ?_, hid (fun i s hi hs => by
      have h1 := (List.getElem?_eq_some_iff.1 hs).1
      have h2 := HN.out
      omega)⟩
    rcases Nat.eq_zero_or_pos n with hz | hz
    · exact .inl (by omega)
    · exact .inr ⟨n - 1, by omega, by omega⟩
  case round =>
    obtain ⟨z, rfl, hz, hh⟩ := hrel
    rcases hz with rfl | ⟨m, rfl, hm⟩
    · have HNO : Hid (∀ x ∈ ss, x.name ≠ t) := hid (fun x hx => by
        obtain ⟨i, hi, rfl⟩ := List.getElem_of_mem hx
        exact hh.out i _ (by omega) (List.getElem?_eq_getElem hi))
      clear hh e1
      go_wp2_with (at_builtin; rw [← HW1.out]; refine wpList_append_any _ rfl (.tmp 36) (.tmp 38) _ rfl B PS i0 _ 1 8 Tryd.underlying89 hi hz0 hz1 hz2 rfl (by omega) (.slice A n c) n vs rfl HO1.out (w.heap.size + 2) (some ⟨w.heap.size + 1, 0, none⟩) 1 1 [.pointer (some ⟨w.heap.size, 0, none⟩)] rfl HR.out (by simp [Value.oneCell']) (by simp only [maxLen]; omega) (by omega) HZ.out ?_; intro v6 w6 hown6 hg6 hat6; obtain ⟨A6, c6, rfl, -⟩ := row_some hown6; have hb6 : Blk w6 gc TC #[.pointer none, .slice A n c, .slice none 0 0] := by { have := Ty.own (ts := [TC]) HO1.out hg6 (by decide) _ _ _ (by simp) HB1.out; rw [← HN.out] at this; exact this }; have qs := hb6.cell 1 rfl; have fs := hb6.frozen 1; have H6 := hid (And.intro hown6 hg6); clear hown6 hg6 hat6 hb6)
      go_ret
      obtain ⟨hown6, hg6⟩ := H6.out
      have hown1 := HO1.out
      have hn0 := HN.out
      subst hn0
      obtain ⟨h1, h2, h3⟩ := HV.out.push HBB.out HW1.out hown1 hown6 hg6
      exact ⟨_, _, _, _, _, rfl, h1, h2, by simp, h3, rfl, .inr ⟨HNO.out, rfl, rfl⟩⟩
    · have hks : m < ss.length := by have := HN.out; omega
      obtain ⟨g2, o2, c2', u, e2, hu, hcell⟩ := own_at HO.out hks
      obtain ⟨a, x, ha, hx, hP, hmem⟩ := HA.out.at_ hks
      rw [hu] at ha
      obtain rfl : u = a := by injection ha
      have HMV := hid (List.mem_of_getElem? hu)
      have hP0 := hP
      obtain ⟨gs, ov, svv, rfl, hBs, hbs, hP2⟩ := hP
      have HPS := hid hP0
      injection e2 with eA _ ec
      subst eA
      have cS := hid (secName_calls gs x.name t ov svv w hbs (HW.out x hmem) HT.out)
      have HX := hid hx
      have HM := hid hmem
      have hm0 : (0 : Int) ≤ m := by omega
      have hlt' : (m : Int) < n := by omega
      have e3 : IntKind.i64.wrap ((m : Int) - 1) = (m : Int) - 1 := IntWalk.i64_in _ (by omega)
      clear hbs hP2 hu ha hx hmem hks ec hP0 hBs
      go_wp2_with fail
      refine cS.out.mono ?_
      rintro e w' ⟨rfl, hw'⟩
      obtain rfl : w = w' := hw'.symm
      clear hw'
      by_cases hnm : x.name = t
      · rw [decide_eq_true hnm]
        have HY := hid hnm
        clear hnm
        go_wp2_with fail
        go_ret
        exact ⟨_, _, _, _, x, rfl, Below.refl _ _, HV.out, HMV.out, HPS.out, HY.out, .inl ⟨rfl, HM.out⟩⟩
      · rw [decide_eq_false hnm]
        have hh2 : Hid (∀ i s, (m : Int) - 1 < (i : Nat) → ss[i]? = some s → s.name ≠ t) := hid (fun i s hi hs => by
          by_cases him : i = m
          · subst him
            rw [HX.out] at hs
            injection hs with hs
            subst hs
            exact hnm
          · exact hh.out i s (by omega) hs)
        clear hnm
        go_wp2_with fail
        go_round
        case rel => exact ⟨(m : Int) - 1, by go_num, (by rcases m with _ | m; exact .inl (by omega); exact .inr ⟨m, by omega, by omega⟩), hh2⟩
        case measure => (simp [RowKit.intOf]; try omega)
end Go.Proofs.YtmhcbgmnhcfhfaaDoor.cf
