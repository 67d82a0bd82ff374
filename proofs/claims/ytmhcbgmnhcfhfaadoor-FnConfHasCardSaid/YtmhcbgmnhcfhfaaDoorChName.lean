/- config: IsName, HasSection, HasSubsection, and the section found. -/
import Derived.Test.YtmhcbgmnhcfhfaaDoorCfConf
import Derived.Test.YtmhcbgmnhcfhfaaDoorShelf
import Derived.Lib.Fold
set_option linter.unusedVariables false
attribute [local go_sem ↓] Go.wp_at_zero Go.wp_at_succ
namespace Go.Proofs.YtmhcbgmnhcfhfaaDoor.cf
open Go.RowKit Lib mem opn frm strs

theorem own_at {w : World} {base n : Nat} {e : TypeId} {v : Value} {vs : List Value} (h : w.ownsRow base e 1 v n vs) {k : Nat} (hk : k < n) : ∃ g o c u, v = .slice (some ⟨g, o, none⟩) n c ∧ vs[k]? = some u ∧ w.cell? ⟨g, o + k, none⟩ = some u := by
  rcases id h with ⟨hl, ⟨rfl, h0⟩ | ⟨g, cap, cur, rfl, hBg, hg, hnc, hcm, hcs, htk⟩⟩
  · omega
  · have hkl : k < vs.length := by omega
    refine ⟨g, 0, cap, vs[k], rfl, List.getElem?_eq_getElem hkl, ?_⟩
    have := h.cells (g := g) rfl k vs[k] (List.getElem?_eq_getElem hkl)
    rwa [Lib.addr_add] at this
theorem fold_tab (x y : UInt8) (hx : wordC x = true) (hy : wordC y = true) : foldEq x y = decide (x = y) := by
  simp only [wordC, decide_eq_true_eq] at hx hy
  unfold foldEq
  by_cases h : x = y
  · subst h; simp
  · have : x.toNat ≠ y.toNat := fun e => h (UInt8.toNat_inj.1 e)
    rw [decide_eq_false h, decide_eq_false_iff_not]
    omega
theorem fold_word : ∀ (s t : List UInt8), s.all wordC = true → t.all wordC = true → equalFold s t = decide (s = t) := by
  intro s
  induction s with
  | nil => intro t _ _; cases t <;> simp [equalFold]
  | cons x s ih =>
    intro t hs ht
    cases t with
    | nil => simp [equalFold]
    | cons y t =>
      simp only [List.all_cons, Bool.and_eq_true] at hs ht
      rw [show equalFold (x :: s) (y :: t) = (foldEq x y && equalFold s t) from rfl, fold_tab x y hs.1 ht.1, ih t hs.2 ht.2]
      by_cases h1 : x = y <;> by_cases h2 : s = t <;> simp [h1, h2]
theorem word_ascii {s : ByteArray} (h : WordOk s) : ∀ (j : Nat) b, s.data.toList[j]? = some b → b.toNat < 128 := fun j b hb => by
  have := List.all_eq_true.1 h.1 b (List.mem_of_getElem? hb)
  simp only [wordC, decide_eq_true_eq] at this
  omega
theorem ba_eq {s t : ByteArray} : s.data.toList = t.data.toList ↔ s = t := by
  constructor
  · intro h; obtain ⟨⟨a⟩⟩ := s; obtain ⟨⟨b⟩⟩ := t; simp at h; simp [h]
  · rintro rfl; rfl
theorem str_eq (s t : ByteArray) : (s.toList == t.toList) = decide (s = t) := by
  by_cases h : s = t
  · subst h; simp
  · rw [decide_eq_false h, beq_eq_false_iff_ne]
    intro e
    rw [ByteArray.toList_eq, ByteArray.toList_eq] at e
    exact h (ba_eq.1 e)
/-- an answer that is known; the world is as it was -/
def Ans (w : World) (b : Bool) (e : Ending) (w' : World) : Prop := e = .returned (.bool b) ∧ w' = w
set_option maxRecDepth 100000 in
theorem secName_calls (g : Nat) (nm t : ByteArray) (ov sv : Value) (w : World) (h : Blk w g TS #[.string nm, ov, sv]) (hn : WordOk nm) (ht : WordOk t) :
    Calls Tryd.prog 42 #[.pointer (some ⟨g, 0, none⟩), .string t] w (Ans w (decide (nm = t))) := by
  have c0 : w.cell? ⟨g, 0, none⟩ = some (.string nm) := h.cell 0 rfl
  have c1 := hid (Tryd.strings_EqualFold nm t w (by have := hn.2; omega) (word_ascii hn) (word_ascii ht))
  have e1 : equalFold nm.data.toList t.data.toList = decide (nm = t) := by rw [fold_word _ _ hn.1 ht.1]; exact decide_eq_decide.2 ba_eq
  rw [e1] at c1
  clear h hn ht e1
  go_enter Tryd.func42, Tryd.ntmps42
  go_wp2_with fail
  refine c1.out.mono ?_
  rintro e w' ⟨rfl, hw⟩
  obtain rfl : w = w' := hw.symm
  clear hw
  go_wp2_with fail
  go_ret
  exact ⟨rfl, rfl⟩
set_option maxRecDepth 100000 in
theorem subName_calls (g : Nat) (nm t : ByteArray) (ov : Value) (w : World) (h : Blk w g TU #[.string nm, ov]) :
    Calls Tryd.prog 43 #[.pointer (some ⟨g, 0, none⟩), .string t] w (Ans w (decide (nm = t))) := by
  have c0 : w.cell? ⟨g, 0, none⟩ = some (.string nm) := h.cell 0 rfl
  clear h
  go_enter Tryd.func43, Tryd.ntmps43
  go_wp2_with fail
  go_ret
  refine ⟨?_, rfl⟩
  rw [← str_eq]
  rfl
/-- the answer is whether F holds; the world is as it was -/
def HasIs (w : World) (F : Prop) (e : Ending) (w' : World) : Prop := w' = w ∧ ∃ b, e = .returned (.bool b) ∧ (b = true ↔ F)
/-- no one has the name -/
def NoSec (ss : List SecD) (t : ByteArray) : Prop := ∀ s ∈ ss, s.name ≠ t
def NoSub (ss : List SubD) (t : ByteArray) : Prop := ∀ s ∈ ss, s.name ≠ t
theorem no_snoc {α : Type} {f : α → ByteArray} {l : List α} {k : Nat} {x : α} {t : ByteArray} (h : ∀ s ∈ l.take k, f s ≠ t) (hx : l[k]? = some x) (hn : f x ≠ t) : ∀ s ∈ l.take (k + 1), f s ≠ t := by
  intro s hs
  rw [take_snoc hx, List.mem_append, List.mem_singleton] at hs
  rcases hs with hs | rfl
  · exact h s hs
  · exact hn
set_option maxRecDepth 100000 in
set_option maxHeartbeats 4000000 in
theorem hasSection_calls (v : Value) (ss : List SecD) (t : ByteArray) (w : World) (h : ConfP w v ss) (hn : ss.length ≤ 4294967295) (hw : ∀ s ∈ ss, WordOk s.name) (ht : WordOk t) :
    Calls Tryd.prog 24 #[v, .string t] w (HasIs w (∃ s ∈ ss, s.name = t)) := by
  obtain ⟨g, sv, rfl, hb, vs, hown, hall⟩ := h
  obtain ⟨A, c, rfl, hc⟩ := row_some hown
  have c1 : w.cell? ⟨g, 1, none⟩ = some (.slice A ss.length c) := hb.cell 1 rfl
  obtain ⟨n, hnn⟩ : ∃ n, n = ss.length := ⟨_, rfl⟩
  have HO := hid hown
  have HA := hid hall
  have HW := hid hw
  have HT := hid ht
  have HN := hid hnn
  rw [← hnn] at c1 hn
  have e0 : (n : Int) ≤ 4294967295 := by omega
  clear hb hown hall hw ht hnn hc hn
  go_enter Tryd.func24, Tryd.ntmps24
  go_wp2_with fail
  go_loop [12] (fun iv => ∃ k : Nat, k ≤ n ∧ iv = .int .i64 k ∧ Hid (∀ s ∈ ss.take k, s.name ≠ t)) (fun iv => n - (RowKit.intOf iv).toNat)
  case atStart => exact ⟨0, by omega, rfl, hid (by simp)⟩
  case round =>
    obtain ⟨k, hk, rfl, hh⟩ := hrel
    by_cases hlt : k < n
    · have hks : k < ss.length := by have := HN.out; omega
      obtain ⟨g2, o2, c2, u, e2, hu, hcell⟩ := own_at HO.out hks
      obtain ⟨a, x, ha, hx, hP, hmem⟩ := HA.out.at_ hks
      rw [hu] at ha
      obtain rfl : u = a := by injection ha
      obtain ⟨gs, ov, svv, rfl, hbs, _⟩ := hP
      injection e2 with eA _ ec
      subst eA
      have cS := hid (secName_calls gs x.name t ov svv w hbs (HW.out x hmem) HT.out)
      have HX := hid hx
      have HM := hid hmem
      have hlt' : (k : Int) < n := by omega
      clear hbs hu ha hx hmem hks ec
      go_wp2_with fail
      refine cS.out.mono ?_
      rintro e w' ⟨rfl, hw'⟩
      obtain rfl : w = w' := hw'.symm
      clear hw'
      by_cases hnm : x.name = t
      · rw [decide_eq_true hnm]
        have HY : Hid (∃ s ∈ ss, s.name = t) := hid ⟨x, HM.out, hnm⟩
        clear hnm
        go_wp2_with fail
        go_ret
        exact ⟨rfl, true, rfl, fun _ => HY.out, fun _ => rfl⟩
      · rw [decide_eq_false hnm]
        have hh2 := hid (no_snoc (f := SecD.name) hh.out HX.out hnm)
        clear hnm
        go_wp2_with fail
        go_round
        case rel => exact ⟨k + 1, by omega, by go_num, hh2⟩
        case measure => simp [RowKit.intOf]; omega
    · have hnl : ¬ (k : Int) < n := by omega
      go_wp2_with fail
      go_ret
      refine ⟨rfl, false, rfl, nofun, ?_⟩
      rintro ⟨s, hs, he⟩
      exact absurd he (hh.out s (by rw [List.take_of_length_le (by have := HN.out; omega)]; exact hs))
set_option maxRecDepth 100000 in
set_option maxHeartbeats 4000000 in
theorem hasSub_calls (g : Nat) (nm : Value) (ov sv : Value) (ss : List SubD) (t : ByteArray) (w : World) (hb : Blk w g TS #[nm, ov, sv]) (h : SubsP w sv ss) (hn : ss.length ≤ 4294967295) :
    Calls Tryd.prog 26 #[.pointer (some ⟨g, 0, none⟩), .string t] w (HasIs w (∃ s ∈ ss, s.name = t)) := by
  obtain ⟨vs, hown, hall⟩ := h
  obtain ⟨A, c, rfl, hc⟩ := row_some hown
  have c1 : w.cell? ⟨g, 2, none⟩ = some (.slice A ss.length c) := hb.cell 2 rfl
  obtain ⟨n, hnn⟩ : ∃ n, n = ss.length := ⟨_, rfl⟩
  have HO := hid hown
  have HA := hid hall
  have HN := hid hnn
  rw [← hnn] at c1 hn
  have e0 : (n : Int) ≤ 4294967295 := by omega
  clear hb hown hall hnn hc hn
  go_enter Tryd.func26, Tryd.ntmps26
  go_wp2_with fail
  go_loop [12] (fun iv => ∃ k : Nat, k ≤ n ∧ iv = .int .i64 k ∧ Hid (∀ s ∈ ss.take k, s.name ≠ t)) (fun iv => n - (RowKit.intOf iv).toNat)
  case atStart => exact ⟨0, by omega, rfl, hid (by simp)⟩
  case round =>
    obtain ⟨k, hk, rfl, hh⟩ := hrel
    by_cases hlt : k < n
    · have hks : k < ss.length := by have := HN.out; omega
      obtain ⟨g2, o2, c2, u, e2, hu, hcell⟩ := own_at HO.out hks
      obtain ⟨a, x, ha, hx, hP, hmem⟩ := HA.out.at_ hks
      rw [hu] at ha
      obtain rfl : u = a := by injection ha
      obtain ⟨gs, ov, rfl, hbs, _⟩ := hP
      injection e2 with eA _ ec
      subst eA
      have cS := hid (subName_calls gs x.name t ov w hbs)
      have HX := hid hx
      have HM := hid hmem
      have hlt' : (k : Int) < n := by omega
      clear hbs hu ha hx hmem hks ec
      go_wp2_with fail
      refine cS.out.mono ?_
      rintro e w' ⟨rfl, hw'⟩
      obtain rfl : w = w' := hw'.symm
      clear hw'
      by_cases hnm : x.name = t
      · rw [decide_eq_true hnm]
        have HY : Hid (∃ s ∈ ss, s.name = t) := hid ⟨x, HM.out, hnm⟩
        clear hnm
        go_wp2_with fail
        go_ret
        exact ⟨rfl, true, rfl, fun _ => HY.out, fun _ => rfl⟩
      · rw [decide_eq_false hnm]
        have hh2 := hid (no_snoc (f := SubD.name) hh.out HX.out hnm)
        clear hnm
        go_wp2_with fail
        go_round
        case rel => exact ⟨k + 1, by omega, by go_num, hh2⟩
        case measure => simp [RowKit.intOf]; omega
    · have hnl : ¬ (k : Int) < n := by omega
      go_wp2_with fail
      go_ret
      refine ⟨rfl, false, rfl, nofun, ?_⟩
      rintro ⟨s, hs, he⟩
      exact absurd he (hh.out s (by rw [List.take_of_length_le (by have := HN.out; omega)]; exact hs))
end Go.Proofs.YtmhcbgmnhcfhfaaDoor.cf
