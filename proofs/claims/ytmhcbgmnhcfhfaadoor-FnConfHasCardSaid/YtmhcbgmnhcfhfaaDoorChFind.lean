/- config.Config.Section: the section that is there; impl.HasSection. -/
import Derived.Test.YtmhcbgmnhcfhfaaDoorChAre
set_option linter.unusedVariables false
attribute [local go_sem ↓] Go.wp_at_zero Go.wp_at_succ
namespace Go.Proofs.YtmhcbgmnhcfhfaaDoor.cf
open Go.RowKit Lib mem opn frm strs

/-- a section of the name is found -/
def FoundSec (w : World) (ss : List SecD) (t : ByteArray) (e : Ending) (w' : World) : Prop := w' = w ∧ ∃ p s, e = .returned p ∧ s ∈ ss ∧ s.name = t ∧ SecP w p s
set_option maxRecDepth 100000 in
set_option maxHeartbeats 4000000 in
theorem section_calls (v : Value) (ss : List SecD) (t : ByteArray) (w : World) (h : ConfP w v ss) (hn : ss.length ≤ 4294967295) (hw : ∀ s ∈ ss, WordOk s.name) (ht : WordOk t) (hex : ∃ s ∈ ss, s.name = t) :
    Calls Tryd.prog 25 #[v, .string t] w (FoundSec w ss t) := by
  obtain ⟨g, sv, rfl, hb, vs, hown, hall⟩ := h
  obtain ⟨A, c, rfl, hc⟩ := row_some hown
  have c1 : w.cell? ⟨g, 1, none⟩ = some (.slice A ss.length c) := hb.cell 1 rfl
  obtain ⟨n, hnn⟩ : ∃ n, n = ss.length := ⟨_, rfl⟩
  have hn0 : 0 < n := by
    obtain ⟨s, hs, _⟩ := hex
    have := List.length_pos_of_mem hs
    omega
  have HO := hid hown
  have HA := hid hall
  have HW := hid hw
  have HT := hid ht
  have HN := hid hnn
  have HEX := hid hex
  rw [← hnn] at c1 hn
  have e0 : (n : Int) ≤ 4294967295 := by omega
  have e1 : IntKind.i64.wrap ((n : Int) - 1) = (n : Int) - 1 := IntWalk.i64_in _ (by omega)
  have HN0 := hid hn0
  clear hb hown hall hw ht hnn hc hn hex hn0
  go_enter Tryd.func25, Tryd.ntmps25
  go_wp2_with fail
  go_loop [5] (fun iv => ∃ z : Int, iv = .int .i64 z ∧ (z = -1 ∨ ∃ m : Nat, z = m ∧ m < n) ∧ Hid (∀ i s, z < (i : Nat) → ss[i]? = some s → s.name ≠ t)) (fun iv => (RowKit.intOf iv + 1).toNat)
  case atStart => exact ⟨(n : Int) - 1, by go_num, .inr ⟨n - 1, by have := HN0.out; omega, by have := HN0.out; omega⟩, hid (fun i s hi hs => by
    have h1 := (List.getElem?_eq_some_iff.1 hs).1
    have h2 := HN.out
    omega)⟩
  case round =>
    obtain ⟨z, rfl, hz, hh⟩ := hrel
    rcases hz with rfl | ⟨m, rfl, hm⟩
    · exfalso
      obtain ⟨s, hs, he⟩ := HEX.out
      obtain ⟨i, hi, rfl⟩ := List.getElem_of_mem hs
      exact hh.out i _ (by omega) (List.getElem?_eq_getElem hi) he
    · have hks : m < ss.length := by have := HN.out; omega
      obtain ⟨g2, o2, c2, u, e2, hu, hcell⟩ := own_at HO.out hks
      obtain ⟨a, x, ha, hx, hP, hmem⟩ := HA.out.at_ hks
      rw [hu] at ha
      obtain rfl : u = a := by injection ha
      obtain ⟨gs, ov, svv, rfl, hbs, hP2⟩ := hP
      have HPS : Hid (SecP w (.pointer (some ⟨gs, 0, none⟩)) x) := hid ⟨gs, ov, svv, rfl, hbs, hP2⟩
      injection e2 with eA _ ec
      subst eA
      have cS := hid (secName_calls gs x.name t ov svv w hbs (HW.out x hmem) HT.out)
      have HX := hid hx
      have HM := hid hmem
      have hm0 : (0 : Int) ≤ m := by omega
      have hlt' : (m : Int) < n := by omega
      have e3 : IntKind.i64.wrap ((m : Int) - 1) = (m : Int) - 1 := IntWalk.i64_in _ (by omega)
      clear hbs hP2 hu ha hx hmem hks ec
      go_wp2_with fail
      refine cS.out.mono ?_
      rintro e w' ⟨rfl, hw'⟩
      obtain rfl : w = w' := hw'.symm
      clear hw'
      by_cases hnm : x.name = t
      · rw [decide_eq_true hnm]
        have HY := hid hnm
        clear hnm
        go_wp2_with fail
        go_ret
        exact ⟨rfl, _, x, rfl, HM.out, HY.out, HPS.out⟩
      · rw [decide_eq_false hnm]
        have hh2 : Hid (∀ i s, (m : Int) - 1 < (i : Nat) → ss[i]? = some s → s.name ≠ t) := hid (fun i s hi hs => by
          by_cases him : i = m
          · subst him
            rw [HX.out] at hs
            injection hs with hs
            subst hs
            exact hnm
          · exact hh.out i s (by omega) hs)
        clear hnm
        go_wp2_with fail
        go_round
        case rel => exact ⟨(m : Int) - 1, by go_num, (by rcases m with _ | m; exact .inl (by omega); exact .inr ⟨m, by omega, by omega⟩), hh2⟩
        case measure => (simp [RowKit.intOf]; try omega)
theorem dist_eq {xs : List SecD} (hd : DistTo xs xs.length) {s s' : SecD} (hs : s ∈ xs) (hs' : s' ∈ xs) (h : s.name = s'.name) : s = s' := by
  obtain ⟨i, hi, rfl⟩ := List.getElem_of_mem hs
  obtain ⟨j, hj, rfl⟩ := List.getElem_of_mem hs'
  rcases Nat.lt_trichotomy i j with hij | rfl | hij
  · exact absurd h (hd j _ hj (List.getElem?_eq_getElem hj) i _ hij (List.getElem?_eq_getElem hi))
  · rfl
  · exact absurd h.symm (hd i _ hi (List.getElem?_eq_getElem hi) j _ hij (List.getElem?_eq_getElem hj))
/-- what impl.HasSection answers -/
def Both (w : World) (F G : Prop) (e : Ending) (w' : World) : Prop := Kept [] w w' ∧ ∃ a b, e = .returned (.tuple #[.bool a, .bool b]) ∧ (a = true ↔ F) ∧ (b = true ↔ G)
set_option maxRecDepth 100000 in
set_option maxHeartbeats 4000000 in
theorem implHas_calls (B : Nat) (v : Value) (xs : List SecD) (t u : ByteArray) (w : World) (h : SecSl w B v xs) (hB : B ≤ w.heap.size) (hn : xs.length ≤ 4294967295) (hm : ∀ s ∈ xs, Few s) (hw : ∀ s ∈ xs, WordOk s.name) (ht : WordOk t) (hd : DistTo xs xs.length) (hs : ∀ s ∈ xs, s.subs.length ≤ 4294967295) :
    Calls Tryd.prog 11 #[v, .string t, .string u] w (Both w (∃ s ∈ xs, s.name = t) (∃ s ∈ xs, s.name = t ∧ ∃ x ∈ s.subs, x.name = u)) := by
  have c1 := hid (configOf_calls B v xs w h hB hn hm)
  have HW := hid hw
  have HT := hid ht
  have HD := hid hd
  have HN := hid (show xs.length ≤ 4294967295 by omega)
  have HS := hid hs
  clear h hB hn hm hw ht hd hs
  go_enter Tryd.func11, Tryd.ntmps11
  go_wp2_with fail
  refine c1.out.mono ?_
  rintro e w1 ⟨vc, rfl, hk1, hc1⟩
  have HK1 := hid hk1
  have HC1 := hid hc1
  clear hk1 hc1
  go_wp2_with fail
  refine (hasSection_calls vc xs t w1 HC1.out HN.out HW.out HT.out).mono ?_
  rintro e w2 ⟨hw2, b, rfl, hb⟩
  obtain rfl : w1 = w2 := hw2.symm
  have HBB := hid hb
  clear hb hw2
  cases b with
  | false =>
    have HNO : Hid (¬ ∃ s ∈ xs, s.name = t) := hid (fun h => by have := HBB.out.2 h; cases this)
    go_wp2_with fail
    go_ret2
    refine ⟨HK1.out, false, false, rfl, HBB.out, ⟨nofun, ?_⟩⟩
    rintro ⟨s, hs, he, _⟩
    exact absurd ⟨s, hs, he⟩ HNO.out
  | true =>
    go_wp2_with fail
    refine (section_calls vc xs t w1 HC1.out HN.out HW.out HT.out (HBB.out.1 trivial)).mono ?_
    rintro e w2 ⟨hw2, p, s, rfl, hs, he, hP⟩
    obtain rfl : w1 = w2 := hw2.symm
    clear hw2
    obtain ⟨gs, ov, sv, rfl, hbs, _, hsub⟩ := hP
    have c3 := hid (hasSub_calls gs (.string s.name) ov sv s.subs u w1 hbs hsub (HS.out s hs))
    have HSM := hid hs
    have HE := hid he
    clear hbs hsub hs he
    go_wp2_with fail
    refine c3.out.mono ?_
    rintro e w3 ⟨hw3, b, rfl, hb⟩
    obtain rfl : w1 = w3 := hw3.symm
    have HB2 := hid hb
    clear hw3 hb
    go_wp2_with fail
    go_ret2
    refine ⟨HK1.out, true, b, rfl, ⟨fun _ => HBB.out.1 trivial, fun _ => rfl⟩, fun h => ⟨s, HSM.out, HE.out, HB2.out.1 h⟩, ?_⟩
    rintro ⟨s', hs', he', hx⟩
    obtain rfl := dist_eq HD.out HSM.out hs' (HE.out.trans he'.symm)
    exact HB2.out.2 hx
end Go.Proofs.YtmhcbgmnhcfhfaaDoor.cf
