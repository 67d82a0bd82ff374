/- config.Section.Subsection: the part that is there. -/
import Derived.Test.YtmhcbgmnhcfhfaaDoorChSub
set_option linter.unusedVariables false
attribute [local go_sem ↓] Go.wp_at_zero Go.wp_at_succ
namespace Go.Proofs.YtmhcbgmnhcfhfaaDoor.cf
open Go.RowKit Lib mem opn frm strs

/-- a part of the name is found -/
def FoundSub (w : World) (ss : List SubD) (t : ByteArray) (e : Ending) (w' : World) : Prop := w' = w ∧ ∃ p s, e = .returned p ∧ s ∈ ss ∧ s.name = t ∧ SP w p s
set_option maxRecDepth 100000 in
set_option maxHeartbeats 4000000 in
theorem subsection_calls (g : Nat) (nm : Value) (ov sv : Value) (ss : List SubD) (t : ByteArray) (w : World) (hb : Blk w g TS #[nm, ov, sv]) (h : SubsP w sv ss) (hn : ss.length ≤ 4294967295) (hex : ∃ s ∈ ss, s.name = t) :
    Calls Tryd.prog 46 #[.pointer (some ⟨g, 0, none⟩), .string t] w (FoundSub w ss t) := by
  obtain ⟨vs, hown, hall⟩ := h
  obtain ⟨A, c, rfl, hc⟩ := row_some hown
  have c1 : w.cell? ⟨g, 2, none⟩ = some (.slice A ss.length c) := hb.cell 2 rfl
  obtain ⟨n, hnn⟩ : ∃ n, n = ss.length := ⟨_, rfl⟩
  have hn0 : 0 < n := by
    obtain ⟨s, hs, _⟩ := hex
    have := List.length_pos_of_mem hs
    omega
  have HO := hid hown
  have HA := hid hall
  have HN := hid hnn
  have HEX := hid hex
  rw [← hnn] at c1 hn
  have e0 : (n : Int) ≤ 4294967295 := by omega
  have e1 : IntKind.i64.wrap ((n : Int) - 1) = (n : Int) - 1 := IntWalk.i64_in _ (by omega)
  have HN0 := hid hn0
  clear hb hown hall hnn hc hn hex hn0
  go_enter Tryd.func46, Tryd.ntmps46
  go_wp2_with fail
  go_loop [5] (fun iv => ∃ z : Int, iv = .int .i64 z ∧ (z = -1 ∨ ∃ m : Nat, z = m ∧ m < n) ∧ Hid (∀ i s, z < (i : Nat) → ss[i]? = some s → s.name ≠ t)) (fun iv => (RowKit.intOf iv + 1).toNat)
  case atStart => exact ⟨(n : Int) - 1, by go_num, .inr ⟨n - 1, by have := HN0.out; omega, by have := HN0.out; omega⟩, hid (fun i s hi hs => by
    have h1 := (List.getElem?_eq_some_iff.1 hs).1
    have h2 := HN.out
    omega)⟩
  case round =>
    obtain ⟨z, rfl, hz, hh⟩ := hrel
    rcases hz with rfl | ⟨m, rfl, hm⟩
    · exfalso
      obtain ⟨s, hs, he⟩ := HEX.out
      obtain ⟨i, hi, rfl⟩ := List.getElem_of_mem hs
      exact hh.out i _ (by omega) (List.getElem?_eq_getElem hi) he
    · have hks : m < ss.length := by have := HN.out; omega
      obtain ⟨g2, o2, c2, u, e2, hu, hcell⟩ := own_at HO.out hks
      obtain ⟨a, x, ha, hx, hP, hmem⟩ := HA.out.at_ hks
      rw [hu] at ha
      obtain rfl : u = a := by injection ha
      obtain ⟨gs, ov, rfl, hbs, hP2⟩ := hP
      have HPS : Hid (SP w (.pointer (some ⟨gs, 0, none⟩)) x) := hid ⟨gs, ov, rfl, hbs, hP2⟩
      injection e2 with eA _ ec
      subst eA
      have cS := hid (subName_calls gs x.name t ov w hbs)
      have HX := hid hx
      have HM := hid hmem
      have hm0 : (0 : Int) ≤ m := by omega
      have hlt' : (m : Int) < n := by omega
      have e3 : IntKind.i64.wrap ((m : Int) - 1) = (m : Int) - 1 := IntWalk.i64_in _ (by omega)
      clear hbs hP2 hu ha hx hmem hks ec
      go_wp2_with fail
      refine cS.out.mono ?_
      rintro e w' ⟨rfl, hw'⟩
      obtain rfl : w = w' := hw'.symm
      clear hw'
      by_cases hnm : x.name = t
      · rw [decide_eq_true hnm]
        have HY := hid hnm
        clear hnm
        go_wp2_with fail
        go_ret
        exact ⟨rfl, _, x, rfl, HM.out, HY.out, HPS.out⟩
      · rw [decide_eq_false hnm]
        have hh2 : Hid (∀ i s, (m : Int) - 1 < (i : Nat) → ss[i]? = some s → s.name ≠ t) := hid (fun i s hi hs => by
          by_cases him : i = m
          · subst him
            rw [HX.out] at hs
            injection hs with hs
            subst hs
            exact hnm
          · exact hh.out i s (by omega) hs)
        clear hnm
        go_wp2_with fail
        go_round
        case rel => exact ⟨(m : Int) - 1, by go_num, (by rcases m with _ | m; exact .inl (by omega); exact .inr ⟨m, by omega, by omega⟩), hh2⟩
        case measure => (simp [RowKit.intOf]; try omega)
end Go.Proofs.YtmhcbgmnhcfhfaaDoor.cf
