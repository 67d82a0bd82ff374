/- A configuration of the call's own: a section more, a part more, a part's options anew. -/
import Derived.Test.YtmhcbgmnhcfhfaaDoorChApart
set_option linter.unusedVariables false
namespace Go.Proofs.YtmhcbgmnhcfhfaaDoor.cf
open Go.RowKit Lib mem opn frm strs

theorem own_heap {w w' : World} {base size n : Nat} {e : TypeId} {v : Value} {xs : List Value} (hown : w.ownsRow base e size v n xs) (h : ∀ x, v.ownBlock = some x → w'.heap[x]? = w.heap[x]?) : w'.ownsRow base e size v n xs := by
  refine ⟨hown.1, ?_⟩
  rcases hown.2 with h0 | ⟨g, cap, cur, rfl, hB, hg, rest⟩
  · exact .inl h0
  · exact .inr ⟨g, cap, cur, rfl, hB, (h g rfl).trans hg, rest⟩
theorem own_typed {w : World} {base size n : Nat} {e : TypeId} {v : Value} {xs : List Value} {x : Nat} (hown : w.ownsRow base e size v n xs) (h : v.ownBlock = some x) : ∃ cs, Blk w x e cs := by
  rcases hown.2 with ⟨rfl, _⟩ | ⟨g, cap, cur, rfl, hB, hg, rest⟩
  · cases h
  · injection h with h
    simp only at h
    subst h
    exact ⟨_, hg⟩
theorem below_own {a b w : World} {B base size n : Nat} {e : TypeId} {v : Value} {xs : List Value} (h : Below B w a) (hBw : B ≤ w.heap.size) (hown : a.ownsRow base e size v n xs) (hB : B ≤ base) (hg : a.grownBy b v.ownBlock) : Below B w b := by
  refine h.trans ⟨hg.os, hg.tape, hg.output, hg.size, fun i hi => ?_⟩
  refine hg.block i (by have := h.size; omega) fun e2 => ?_
  have := (hown.lt i e2.symm).1
  omega
theorem below_set {w a : World} {B g i : Nat} (h : Below B w a) (hg : B ≤ g) (u : Value) : Below B w (a.setCell ⟨g, i, none⟩ u) :=
  h.trans ⟨rfl, rfl, rfl, by simp [World.setCell], fun k hk => Below.heap_setCell _ _ _ _ (by simp; omega)⟩
theorem below_kept {w w' : World} {B : Nat} (h : Kept [] w w') (hB : B ≤ w.heap.size) : Below B w w' := h.below hB (by simp)
theorem Ty.kept1 {ts : List TypeId} {w w' : World} {g : Nat} {t : TypeId} {cs : Array Value} (hb : Blk w g t cs) (ht : t ∉ ts) (hk : Kept [g] w w') : Ty ts w w' := fun k t' cs' ht' hb' => hb'.kept hk (by
  simp only [List.mem_singleton]
  rintro rfl
  unfold Blk at hb hb'
  rw [hb] at hb'
  injection hb' with hb'
  injection hb' with _ hb'
  subst hb'
  exact ht ht')
theorem Ty.less {ts ts' : List TypeId} {w w' : World} (h : Ty ts w w') (hs : ∀ t ∈ ts', t ∈ ts) : Ty ts' w w' := fun g t cs ht hb => h g t cs (hs t ht) hb
theorem SubsB.keep {B : Nat} {w w' : World} {v : Value} {us : List SubD} (h : SubsB B w v us) (hT : Ty [TO, PO, TU] w w') (hx : ∀ x, v.ownBlock = some x → w'.heap[x]? = w.heap[x]?) : SubsB B w' v us := by
  obtain ⟨vs, ho, ha⟩ := h
  exact ⟨vs, own_heap ho hx, ha.mono fun _ _ h => h.ty hT (by simp) (by simp) (by simp)⟩
def newSec (t : ByteArray) : SecD := ⟨t, .slice none 0 0, [], .slice none 0 0, []⟩
def newSub (t : ByteArray) : SubD := ⟨t, .slice none 0 0, []⟩
theorem no_opts (w : World) : OptsP w (.slice none 0 0) [] := ⟨[], World.ownsRow_nil _ _ _ _, .nil⟩
theorem no_subs (B : Nat) (w : World) : SubsB B w (.slice none 0 0) [] := ⟨[], World.ownsRow_nil _ _ _ _, .nil⟩
/-- a new section stands behind the others -/
theorem ConfV.push {B gc : Nat} {w w1 w6 : World} {sv v6 : Value} {vs : List Value} {ss : List SecD} {t : ByteArray} (h : ConfV B w gc sv vs ss) (hB : B ≤ w.heap.size)
    (hw1 : w1 = (w.alloc (.cells #[.string t, .slice none 0 0, .slice none 0 0] TS)).alloc (.cells #[.pointer (some ⟨w.heap.size, 0, none⟩)] PS))
    (hown : w1.ownsRow B PS 1 sv ss.length vs) (h6 : w6.ownsRow B PS 1 v6 (ss.length + 1) (vs ++ [.pointer (some ⟨w.heap.size, 0, none⟩)])) (hg : w1.grownBy w6 sv.ownBlock) :
    Below B w (w6.setCell ⟨gc, 1, none⟩ v6) ∧ ConfV B (w6.setCell ⟨gc, 1, none⟩ v6) gc v6 (vs ++ [.pointer (some ⟨w.heap.size, 0, none⟩)]) (ss ++ [newSec t]) ∧ SecB B (w6.setCell ⟨gc, 1, none⟩ v6) (.pointer (some ⟨w.heap.size, 0, none⟩)) (newSec t) := by
  have hk1 : Kept [] w w1 := by rw [hw1]; exact ((Kept.refl [] w).alloc _).alloc _
  have hT6 : Ty [TO, PO, TU, PU, TS, TC] w w6 := (Ty.of_kept hk1).trans (Ty.own hown hg (by decide))
  have hc6 : Blk w6 gc TC #[.pointer none, sv, .slice none 0 0] := hT6 _ _ _ (by simp) h.c
  have hTs : Ty [TO, PO, TU, PU, TS, PS] w6 (w6.setCell ⟨gc, 1, none⟩ v6) := Ty.set_ hc6 (by decide) 1 v6
  have hT : Ty [TO, PO, TU, PU, TS] w (w6.setCell ⟨gc, 1, none⟩ v6) := (hT6.less (by decide)).trans (hTs.less (by decide))
  have hb : Blk w1 w.heap.size TS #[.string t, .slice none 0 0, .slice none 0 0] := by rw [hw1]; exact (Blk.new w TS _).alloc _
  have hb6 : Blk (w6.setCell ⟨gc, 1, none⟩ v6) w.heap.size TS #[.string t, .slice none 0 0, .slice none 0 0] := hTs _ _ _ (by decide) (Ty.own (ts := [TS]) hown hg (by decide) _ _ _ (by simp) hb)
  have hn : SecB B (w6.setCell ⟨gc, 1, none⟩ v6) (.pointer (some ⟨w.heap.size, 0, none⟩)) (newSec t) := ⟨_, _, _, rfl, hB, hb6, no_opts _, no_subs _ _⟩
  refine ⟨below_set (below_own (below_kept hk1 hB) hB hown (Nat.le_refl _) hg) h.b _, ⟨⟨h.b, ?_, ?_, ?_⟩, ?_⟩, hn⟩
  · have := hc6.set_ 1 v6
    simpa using this
  · rw [List.length_append]
    exact own_ty (ts := [TO, PO, TU, PU, TS, PS]) h6 hTs (by simp)
  · exact (h.a.mono fun _ _ h => h.ty hT (by simp) (by simp) (by simp) (by simp) (by simp)).snoc hn
  · refine h.d.snoc (all2_p h.a) (hT.less (by decide)) fun x hx => ?_
    obtain ⟨_, _, _, hb', hx⟩ := hx
    obtain ⟨_, _, rfl⟩ := blk3 hb6 hb'
    cases hx
/-- few options, n parts at most -/
structure Sized (n : Nat) (s : SecD) : Prop where
  o : s.opts.length ≤ 1001
  u : s.subs.length ≤ n
  p : ∀ x ∈ s.subs, x.opts.length ≤ 1001
/-- what a change leaves -/
structure Alike (n : Nat) (s s' : SecD) : Prop where
  name : s'.name = s.name
  z : Sized n s'
/-- the section in block g has the name t, and a part u -/
def SecT (B : Nat) (w : World) (g : Nat) (t u : ByteArray) (a : Value) (b : SecD) : Prop := SecB B w a b ∧ (a = .pointer (some ⟨g, 0, none⟩) → b.name = t ∧ ∃ x ∈ b.subs, x.name = u)
/-- a new part stands behind the others of the section in block g -/
theorem ConfV.pushSub {B gc g n : Nat} {w w1 w6 : World} {sv v6 : Value} {vs us : List Value} {ss : List SecD} {s : SecD} {ov uv : Value} {u : ByteArray} (h : ConfV B w gc sv vs ss) (hB : B ≤ w.heap.size) (hm : .pointer (some ⟨g, 0, none⟩) ∈ vs)
    (hl : ∀ s ∈ ss, Sized n s) (hls : Sized n s)
    (hBg : B ≤ g) (hb : Blk w g TS #[.string s.name, ov, uv]) (ho : OptsP w ov s.opts) (hu : w.ownsRow B PU 1 uv s.subs.length us) (ha : All2 (SPb B w) us s.subs)
    (hw1 : w1 = (w.alloc (.cells #[.string u, .slice none 0 0] TU)).alloc (.cells #[.pointer (some ⟨w.heap.size, 0, none⟩)] PU))
    (hown : w1.ownsRow B PU 1 uv s.subs.length us) (h6 : w6.ownsRow B PU 1 v6 (s.subs.length + 1) (us ++ [.pointer (some ⟨w.heap.size, 0, none⟩)])) (hg : w1.grownBy w6 uv.ownBlock) :
    ∃ ss', Below B w (w6.setCell ⟨g, 2, none⟩ v6) ∧ ConfB B (w6.setCell ⟨g, 2, none⟩ v6) gc sv vs ss' ∧ All2 (SecT B (w6.setCell ⟨g, 2, none⟩ v6) g s.name u) vs ss' ∧ All2 (Alike (n + 1)) ss ss' ∧ Blk (w6.setCell ⟨g, 2, none⟩ v6) w.heap.size TU #[.string u, .slice none 0 0] := by
  obtain ⟨w7, hw7⟩ : ∃ w7, w7 = w6.setCell ⟨g, 2, none⟩ v6 := ⟨_, rfl⟩
  have hk1 : Kept [] w w1 := by rw [hw1]; exact ((Kept.refl [] w).alloc _).alloc _
  have hT6 : Ty [TO, PO, TU, PS, TS, TC] w w6 := (Ty.of_kept hk1).trans (Ty.own hown hg (by decide))
  have hb6 : Blk w6 g TS #[.string s.name, ov, uv] := hT6 _ _ _ (by simp) hb
  have hTs : Ty [TO, PO, TU, PU, TC, PS] w6 w7 := by rw [hw7]; exact Ty.set_ hb6 (by decide) 2 v6
  have hT : Ty [TO, PO, TU, TC, PS] w w7 := (hT6.less (by decide)).trans (hTs.less (by decide))
  have hb7 : Blk w7 g TS #[.string s.name, ov, v6] := by rw [hw7]; have := hb6.set_ 2 v6; simpa using this
  have hnew : Blk w7 w.heap.size TU #[.string u, .slice none 0 0] := hTs _ _ _ (by decide) (Ty.own (ts := [TU]) hown hg (by decide) _ _ _ (by simp) (by rw [hw1]; exact (Blk.new w TU _).alloc _))
  have hheap : ∀ x, x < w.heap.size → some x ≠ uv.ownBlock → x ≠ g → w7.heap[x]? = w.heap[x]? := fun x h1 h2 h3 => by
    rw [hw7, Below.heap_setCell _ _ _ _ (by simpa using h3), hg.block x (by have := hk1.size; omega) h2]
    exact hk1.block x h1 (by simp)
  have hother : ∀ k cs, k ≠ g → Blk w k TS cs → Blk w7 k TS cs := fun k cs hk hb' => by
    rw [hw7]
    exact (hT6 _ _ _ (by simp) hb').far (p := ⟨g, 2, none⟩) hk v6
  have hu7 : SubsB B w7 v6 (s.subs ++ [newSub u]) := ⟨_, by rw [List.length_append]; exact own_ty (ts := [TO, PO, TU, PU, TC, PS]) h6 hTs (by simp), (ha.mono fun _ _ h => h.ty hT (by simp) (by simp) (by simp)).snoc ⟨_, _, rfl, hB, hnew, no_opts _⟩⟩
  have hself : SecB B w7 (.pointer (some ⟨g, 0, none⟩)) ⟨s.name, s.ov, s.opts, s.sv, s.subs ++ [newSub u]⟩ := ⟨g, ov, v6, rfl, hBg, hb7, ho.ty hT (by simp) (by simp), hu7⟩
  obtain ⟨ss', hs1, hs2⟩ : ∃ ss', All2 (SecT B w7 g s.name u) vs ss' ∧ All2 (Alike (n + 1)) ss ss' := by
    refine all2_choose h.a fun a b hav hp hbs => ?_
    by_cases hag : a = .pointer (some ⟨g, 0, none⟩)
    · subst hag
      obtain ⟨ov', sv', _, hb', _⟩ := hp.blk
      have hne := (blk3 hb hb').1
      injection hne with hne
      refine ⟨_, ⟨hself, fun _ => ⟨rfl, newSub u, by simp, rfl⟩⟩, hne, hls.o, ?_, ?_⟩
      · have := hls.u
        simp only [List.length_append, List.length_singleton]
        omega
      · intro x hx
        rcases List.mem_append.1 hx with hx | hx
        · exact hls.p x hx
        · simp at hx; subst hx; simp [newSub]
    · refine ⟨b, ⟨?_, fun e => absurd e hag⟩, rfl, (hl b hbs).o, by have := (hl b hbs).u; omega, (hl b hbs).p⟩
      obtain ⟨k, ov', sv', rfl, hBk, hbk, hok, hsk⟩ := hp
      have hkg : k ≠ g := by rintro rfl; exact hag rfl
      refine ⟨k, ov', sv', rfl, hBk, hother k _ hkg hbk, hok.ty hT (by simp) (by simp), hsk.keep (hT.less (by decide)) fun x hx => ?_⟩
      obtain ⟨vs', ho', _⟩ := hsk
      obtain ⟨cs, hxx⟩ := own_typed ho' hx
      refine hheap x hxx.lt (fun e => ?_) (hxx.ne_ hb (by decide))
      exact hkg (h.d k g x hav hm ⟨_, _, _, hbk, hx⟩ ⟨_, _, _, hb, e.symm⟩)
  refine ⟨ss', ?_, ?_, by rw [← hw7]; exact hs1, hs2, by rw [← hw7]; exact hnew⟩
  · exact below_set (below_own (below_kept hk1 hB) hB hown (Nat.le_refl _) hg) hBg _
  rw [← hw7]
  refine ⟨h.b, hT _ _ _ (by simp) h.c, ?_, hs1.mono fun _ _ h => h.1⟩
  have e : ss'.length = ss.length := hs2.len.symm
  rw [e]
  exact own_ty h.o hT (by simp)
/-- the options of a part anew -/
theorem ConfB.setSub {B gc gu g n : Nat} {w w' : World} {sv v : Value} {vs : List Value} {ss : List SecD} {t u : ByteArray} {ov : Value} {os : List OptD} (h : ConfB B w gc sv vs ss) (hB : B ≤ w.heap.size) (hQ : All2 (SecT B w g t u) vs ss) (hl : ∀ s ∈ ss, Sized n s)
    (hBu : B ≤ gu) (hb : Blk w gu TU #[.string u, ov]) (hk : Kept [gu] w w') (hb' : Blk w' gu TU #[.string u, v]) (ho : OptsP w' v os) (hlo : os.length ≤ 1001) :
    ∃ ss', Below B w w' ∧ ConfB B w' gc sv vs ss' ∧ All2 (SecT B w' g t u) vs ss' ∧ All2 (Alike n) ss ss' := by
  have hT : Ty [TO, PO, PU, TS, TC, PS] w w' := Ty.kept1 hb (by decide) hk
  have hsub : ∀ p x, SPb B w p x → x.opts.length ≤ 1001 → ∃ x', SPb B w' p x' ∧ x'.name = x.name ∧ x'.opts.length ≤ 1001 := fun p x hp hx => by
    obtain ⟨k, ov', rfl, hBk, hbk, hok⟩ := hp
    by_cases e : k = gu
    · subst e
      have hne := (blk2 hb hbk).1
      injection hne with hne
      exact ⟨⟨u, x.ov, os⟩, ⟨k, v, rfl, hBk, hb', ho⟩, hne, hlo⟩
    · exact ⟨x, ⟨k, ov', rfl, hBk, hbk.kept hk (by simpa using e), hok.ty hT (by simp) (by simp)⟩, rfl, hx⟩
  obtain ⟨ss', hs1, hs2⟩ : ∃ ss', All2 (SecT B w' g t u) vs ss' ∧ All2 (Alike n) ss ss' := by
    refine all2_choose hQ fun a b hav hp hbs => ?_
    obtain ⟨⟨k, ov', sv', rfl, hBk, hbk, hok, vs2, hrow, hall⟩, hq⟩ := hp
    obtain ⟨us', h1, h2⟩ : ∃ us', All2 (SPb B w') vs2 us' ∧ All2 (fun x x' : SubD => x'.name = x.name ∧ x'.opts.length ≤ 1001) b.subs us' := by
      refine all2_choose hall fun p x _ hp hx => ?_
      obtain ⟨x', g1, g2, g3⟩ := hsub p x hp ((hl b hbs).p x hx)
      exact ⟨x', g1, g2, g3⟩
    have hlen : us'.length = b.subs.length := h2.len.symm
    refine ⟨⟨b.name, b.ov, b.opts, b.sv, us'⟩, ⟨⟨k, ov', sv', rfl, hBk, hT _ _ _ (by simp) hbk, hok.ty hT (by simp) (by simp), vs2, ?_, h1⟩, fun e => ?_⟩, rfl, (hl b hbs).o, ?_, fun x hx => ?_⟩
    · show w'.ownsRow B PU 1 sv' us'.length vs2
      rw [hlen]
      exact own_ty hrow hT (by simp)
    · obtain ⟨e1, x, hx, hxn⟩ := hq e
      refine ⟨e1, ?_⟩
      obtain ⟨x', hx', hp'⟩ := all2_mem h2 hx
      exact ⟨x', hx', hp'.1.trans hxn⟩
    · show us'.length ≤ n
      have := (hl b hbs).u
      omega
    · obtain ⟨x0, _, hp'⟩ := all2_mem' h2 hx
      exact hp'.2
  refine ⟨ss', ⟨hk.os, hk.tape, hk.output, hk.size, fun i hi => hk.block i (by omega) (by simp; omega)⟩, ⟨h.b, hT _ _ _ (by simp) h.c, ?_, hs1.mono fun _ _ h => h.1⟩, hs1, hs2⟩
  have e : ss'.length = ss.length := hs2.len.symm
  rw [e]
  exact own_ty h.o hT (by simp)
end Go.Proofs.YtmhcbgmnhcfhfaaDoor.cf
