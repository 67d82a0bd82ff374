/- impl.SetOption of a part. -/
import Derived.Test.YtmhcbgmnhcfhfaaDoorChSecs
set_option linter.unusedVariables false
attribute [local go_sem ↓] Go.wp_at_zero Go.wp_at_succ
namespace Go.Proofs.YtmhcbgmnhcfhfaaDoor.cf
open Go.RowKit Lib mem opn frm strs

theorem own_structs {α : Type} {f : α → List Value} {w : World} {base size : Nat} {e : TypeId} {v : Value} {xs : List α} (h : w.ownsRow base e size v xs.length (xs.flatMap f)) : ∃ A c, v = .slice A xs.length c ∧ xs.length ≤ c ∧ Structs f size w w.heap.size A xs.length xs := by
  rcases id h with ⟨hl, ⟨rfl, h0⟩ | ⟨g, cap, cur, rfl, hBg, hg, hnc, hcm, hcs, htk⟩⟩
  · rw [h0]
    exact ⟨none, 0, rfl, Nat.le_refl _, ⟨by rw [hl, h0], fun hn => absurd hn (by omega)⟩, h0, fun hn => absurd hn (by omega)⟩
  · exact ⟨_, _, rfl, hnc, ⟨hl, fun hn => ⟨_, rfl, Lib.lt_of_heap hg, fun j u hu => h.cells (g := g) rfl j u hu⟩⟩, rfl, fun hn => ⟨g, 0, rfl⟩⟩
theorem OptO.sl {w : World} {v : Value} {os : List OptD} (h : OptO w v os) : OptSl w w.heap.size v os := by
  obtain ⟨A, c, e, _, hs⟩ := own_structs h
  exact ⟨A, c, e, hs⟩
theorem all2_right {α β : Type} {P : α → β → Prop} {l : List α} {m : List β} (h : All2 P l m) {Q : β → Prop} (hq : ∀ a b, P a b → Q b) : ∀ b ∈ m, Q b := fun b hb => by
  obtain ⟨a, _, hp⟩ := all2_mem' h hb
  exact hq a b hp
theorem SubO.sl {w : World} {v : Value} {l us : List SubD} (h : SubO w v us) (ha : All2 (PlainU w) l us) : SubSl w w.heap.size v us := by
  obtain ⟨A, c, e, hc, hs⟩ := own_structs h
  exact ⟨A, c, e, hc, hs, all2_right ha fun _ _ h => h.2.2.sl⟩
theorem plain_sl {w : World} {v : Value} {l ss : List SecD} (h : w.ownsRow 0 Sty 3 v ss.length (ss.flatMap SecD.cells)) (ha : All2 (PlainS w) l ss) : SecSl w w.heap.size v ss := by
  obtain ⟨A, c, e, hc, hs⟩ := own_structs h
  exact ⟨A, c, e, hc, hs, all2_right ha fun _ _ h => ⟨h.2.2.1.sl, h.2.2.2.1.sl h.2.2.2.2⟩⟩
theorem all2_names {P : SecD → SecD → Prop} {l m : List SecD} (h : All2 P l m) (hn : ∀ a b, P a b → b.name = a.name) : m.map SecD.name = l.map SecD.name := by
  induction h with
  | nil => rfl
  | cons h _ ih => simp [hn _ _ h, ih]
theorem dist_nodup {xs : List SecD} (h : DistTo xs xs.length) : (xs.map SecD.name).Nodup := by
  rw [List.Nodup, List.pairwise_iff_getElem]
  intro i j hi hj hij
  simp only [List.length_map] at hi hj
  simp only [List.getElem_map]
  exact h j _ hj (List.getElem?_eq_getElem hj) i _ hij (List.getElem?_eq_getElem hi)
theorem nodup_dist {xs : List SecD} (h : (xs.map SecD.name).Nodup) : DistTo xs xs.length := by
  rw [List.Nodup, List.pairwise_iff_getElem] at h
  intro i s hi hs j y hj hy
  obtain ⟨hi', rfl⟩ := List.getElem?_eq_some_iff.1 hs
  obtain ⟨hj', rfl⟩ := List.getElem?_eq_some_iff.1 hy
  have := h j i (by simpa using hj') (by simpa using hi') hj
  simpa using this
theorem with_names {ss ss1 : List SecD} {t : ByteArray} (h : With ss ss1 t) (hd : (ss.map SecD.name).Nodup) (hw : ∀ s ∈ ss, WordOk s.name) (ht : WordOk t) : (ss1.map SecD.name).Nodup ∧ (∀ n ∈ ss1.map SecD.name, WordOk n) ∧ ss1.length ≤ ss.length + 1 := by
  rcases h with ⟨rfl, _⟩ | ⟨hn, rfl⟩
  · refine ⟨hd, fun n hn => ?_, by omega⟩
    obtain ⟨s, hs, rfl⟩ := List.mem_map.1 hn
    exact hw s hs
  · refine ⟨?_, fun n hn => ?_, by simp⟩
    · rw [List.map_append, List.nodup_append]
      refine ⟨hd, by simp, fun a ha b hb => ?_⟩
      simp [newSec] at hb
      subst hb
      obtain ⟨s, hs, rfl⟩ := List.mem_map.1 ha
      exact hn s hs
    · obtain ⟨s, hs, rfl⟩ := List.mem_map.1 hn
      rcases List.mem_append.1 hs with hs | hs
      · exact hw s hs
      · simp at hs; subst hs; exact ht
/-- what impl.SetOption of a part answers -/
structure NewSecs (w : World) (v : Value) (xs : List SecD) (t u : ByteArray) : Prop where
  s : SecSl w w.heap.size v xs
  n : xs.length ≤ 4294967295
  f : ∀ s ∈ xs, Few s
  w : ∀ s ∈ xs, WordOk s.name
  d : DistTo xs xs.length
  h : ∃ s ∈ xs, s.name = t ∧ ∃ x ∈ s.subs, x.name = u
def ImplSet (w : World) (t u : ByteArray) (e : Ending) (w' : World) : Prop := ∃ v xs, e = .returned v ∧ Below w.heap.size w w' ∧ NewSecs w' v xs t u
set_option maxRecDepth 100000 in
set_option maxHeartbeats 4000000 in
theorem implSet_calls (B : Nat) (v : Value) (xs : List SecD) (t u key val : ByteArray) (w : World) (h : SecSl w B v xs) (hB : B ≤ w.heap.size) (hl : LimSs 2147483647 xs) (hk : SecsOk2 xs true) (ht : WordOk t) (hu : (u.toList == []) = false) (hkey : WordOk key) :
    Calls Tryd.prog 12 #[v, .string t, .string u, .string key, .string val] w (ImplSet w t u) := by
  obtain ⟨hlen, hok, hdist⟩ := hk rfl
  have c1 := hid (configOf2_calls B v xs w h hB (by omega) (fun s hs => few_lim (hl.2 s hs)))
  have HOK := hid (And.intro hlen (And.intro hok hdist))
  have HL := hid hl
  have HT := hid ht
  have HKEY := hid hkey
  clear h hB hl hk ht hkey hlen hok hdist
  go_enter Tryd.func12, Tryd.ntmps12
  go_wp2_with fail
  refine c1.out.mono ?_
  rintro e w1 ⟨gc, sv, vs, rfl, hk1, hV⟩
  have HK1 := hid hk1
  obtain ⟨hlen, hok, hdist⟩ := HOK.out
  have c2 := hid (setOption_calls w.heap.size gc 2147483647 sv vs xs t u key val w1 hV hk1.size (by omega) (fun s hs => (hok s hs).n) HT.out hu HKEY.out
    (fun s hs => ⟨by have := (hok s hs).l; omega, (HL.out.2 s hs).2.2.1, fun x hx => by have := ((hok s hs).u x hx).l; omega⟩) (fun s hs x hx => ⟨((hok s hs).u x hx).l, fun o ho => (((hok s hs).u x hx).o o ho).k⟩) (by omega))
  clear c1 hk1 hV hlen hok hdist
  go_wp2_with fail
  refine c2.out.mono ?_
  rintro e w2 ⟨rfl, hb2, sv2, vs2, ss1, ss2, ss3, hC, hW, hA1, hA2, hT⟩
  have hz3 : ∀ s ∈ ss3, Sized 2147483648 s := all2_right hA2 fun _ _ h => h.z
  obtain ⟨hlen, hok, hdist⟩ := HOK.out
  have hnm : ss3.map SecD.name = ss1.map SecD.name := (all2_names hA2 fun _ _ h => h.name).trans (all2_names hA1 fun _ _ h => h.name)
  obtain ⟨h1, h2, h3⟩ := with_names hW (dist_nodup hdist) (fun s hs => (hok s hs).n) HT.out
  have hl3 : ss3.length ≤ 101 := by rw [← hA2.len, ← hA1.len]; omega
  rw [← hnm] at h1 h2
  have H2 := hid (And.intro hb2 (And.intro hz3 (And.intro h1 (And.intro h2 (And.intro hl3 hT)))))
  have c3 := hid (sectionsOf_calls (.pointer (some ⟨gc, 0, none⟩)) ss3 2147483648 w2 hC.conf (by omega) hz3 (by omega))
  clear c2 hb2 hC hW hA1 hA2 hT hz3 hlen hok hdist hnm h1 h2 h3 hl3
  go_wp2_with fail
  refine c3.out.mono ?_
  rintro e w3 ⟨v3, xs2, rfl, hk3, hown, hP⟩
  have H3 := hid (And.intro hk3 (And.intro hown hP))
  clear c3 hk3 hown hP
  go_wp2_with fail
  go_ret
  obtain ⟨hk3, hown, hP⟩ := H3.out
  obtain ⟨hb2, hz3, h1, h2, hl3, s0, hs0, hs0n, x0, hx0, hx0n⟩ := H2.out
  have hnm : xs2.map SecD.name = ss3.map SecD.name := all2_names hP fun _ _ h => h.1
  have hsz : w.heap.size ≤ w2.heap.size := Nat.le_trans HK1.out.size hb2.size
  refine ⟨v3, xs2, rfl, (HK1.out.nil_below.trans hb2).trans (below_kept hk3 hsz), plain_sl hown hP, by rw [← hP.len]; omega, fun s hs => ?_, fun s hs => ?_, nodup_dist (by rw [hnm]; exact h1), ?_⟩
  · obtain ⟨a, ha, hp⟩ := all2_mem' hP hs
    refine ⟨by rw [hp.2.1]; have := (hz3 a ha).o; omega, by rw [← hp.2.2.2.2.len]; have := (hz3 a ha).u; omega, fun x hx => ?_⟩
    obtain ⟨y, hy, hq⟩ := all2_mem' hp.2.2.2.2 hx
    rw [hq.2.1]
    have := (hz3 a ha).p y hy
    omega
  · exact h2 _ (by rw [← hnm]; exact List.mem_map.2 ⟨s, hs, rfl⟩)
  · obtain ⟨b, hb, hp⟩ := all2_mem hP hs0
    obtain ⟨y, hy, hq⟩ := all2_mem hp.2.2.2.2 hx0
    exact ⟨b, hb, hp.1.trans hs0n, y, hy, hq.1.trans hx0n⟩
end Go.Proofs.YtmhcbgmnhcfhfaaDoor.cf
