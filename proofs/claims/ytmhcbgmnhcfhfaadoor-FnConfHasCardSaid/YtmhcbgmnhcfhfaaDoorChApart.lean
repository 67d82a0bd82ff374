/- A configuration of the call's own, whose sections have rows of their own. -/
import Derived.Test.YtmhcbgmnhcfhfaaDoorChPart
import Derived.Test.YtmhcbgmnhcfhfaaDoorChFits
set_option linter.unusedVariables false
namespace Go.Proofs.YtmhcbgmnhcfhfaaDoor.cf
open Go.RowKit Lib mem opn frm strs

def SPb (B : Nat) (w : World) (v : Value) (s : SubD) : Prop := ∃ g ov, v = .pointer (some ⟨g, 0, none⟩) ∧ B ≤ g ∧ Blk w g TU #[.string s.name, ov] ∧ OptsP w ov s.opts
def SubsB (B : Nat) (w : World) (v : Value) (ss : List SubD) : Prop := ∃ vs, w.ownsRow B PU 1 v ss.length vs ∧ All2 (SPb B w) vs ss
def SecB (B : Nat) (w : World) (v : Value) (s : SecD) : Prop := ∃ g ov sv, v = .pointer (some ⟨g, 0, none⟩) ∧ B ≤ g ∧ Blk w g TS #[.string s.name, ov, sv] ∧ OptsP w ov s.opts ∧ SubsB B w sv s.subs
section
variable {B : Nat} {ts : List TypeId} {w w' : World} {v : Value}
theorem SPb.sp {s : SubD} (h : SPb B w v s) : SP w v s := by obtain ⟨g, ov, e, _, hb, ho⟩ := h; exact ⟨g, ov, e, hb, ho⟩
theorem SubsB.subs {ss : List SubD} (h : SubsB B w v ss) : SubsP w v ss := by obtain ⟨vs, ho, ha⟩ := h; exact ⟨vs, own_base ho (Nat.zero_le _), ha.mono fun _ _ h => h.sp⟩
theorem SecB.sec {s : SecD} (h : SecB B w v s) : SecP w v s := by obtain ⟨g, ov, sv, e, _, hb, ho, hs⟩ := h; exact ⟨g, ov, sv, e, hb, ho, hs.subs⟩
theorem SPb.ty {s : SubD} (h : SPb B w v s) (k : Ty ts w w') (h1 : TO ∈ ts) (h2 : PO ∈ ts) (h3 : TU ∈ ts) : SPb B w' v s := by obtain ⟨g, ov, e, hB, hb, ho⟩ := h; exact ⟨g, ov, e, hB, k _ _ _ h3 hb, ho.ty k h1 h2⟩
theorem SubsB.ty {ss : List SubD} (h : SubsB B w v ss) (k : Ty ts w w') (h1 : TO ∈ ts) (h2 : PO ∈ ts) (h3 : TU ∈ ts) (h4 : PU ∈ ts) : SubsB B w' v ss := by obtain ⟨vs, ho, ha⟩ := h; exact ⟨vs, own_ty ho k h4, ha.mono fun _ _ h => h.ty k h1 h2 h3⟩
theorem SecB.ty {s : SecD} (h : SecB B w v s) (k : Ty ts w w') (h1 : TO ∈ ts) (h2 : PO ∈ ts) (h3 : TU ∈ ts) (h4 : PU ∈ ts) (h5 : TS ∈ ts) : SecB B w' v s := by
  obtain ⟨g, ov, sv, e, hB, hb, ho, hs⟩ := h; exact ⟨g, ov, sv, e, hB, k _ _ _ h5 hb, ho.ty k h1 h2, hs.ty k h1 h2 h3 h4⟩
theorem SecB.kept {s : SecD} (h : SecB B w v s) (k : Kept [] w w') : SecB B w' v s := h.ty (ts := [TO, PO, TU, PU, TS]) (.of_kept k) (by simp) (by simp) (by simp) (by simp) (by simp)
end
/-- the row of parts of the section in block g is block x -/
def RowOf (w : World) (g x : Nat) : Prop := ∃ nm ov sv, Blk w g TS #[nm, ov, sv] ∧ sv.ownBlock = some x
/-- no two sections have one row of parts -/
def Apart (w : World) (vs : List Value) : Prop := ∀ g h x, .pointer (some ⟨g, 0, none⟩) ∈ vs → .pointer (some ⟨h, 0, none⟩) ∈ vs → RowOf w g x → RowOf w h x → g = h
theorem Apart.nil (w : World) : Apart w [] := fun _ _ _ h => (by cases h)
theorem blk_det {w : World} {g : Nat} {t : TypeId} {cs cs' : Array Value} (h : Blk w g t cs) (h' : Blk w g t cs') : cs = cs' := by
  unfold Blk at h h'
  rw [h] at h'
  injection h' with h'
  injection h' with h' _
theorem blk3 {w : World} {g : Nat} {t : TypeId} {a b c a' b' c' : Value} (h : Blk w g t #[a, b, c]) (h' : Blk w g t #[a', b', c']) : a = a' ∧ b = b' ∧ c = c' := by
  have e := blk_det h h'
  simpa using e
theorem blk2 {w : World} {g : Nat} {t : TypeId} {a b a' b' : Value} (h : Blk w g t #[a, b]) (h' : Blk w g t #[a', b']) : a = a' ∧ b = b' := by
  have e := blk_det h h'
  simpa using e
theorem ptr_inj {g h : Nat} (e : Value.pointer (some ⟨g, 0, none⟩) = .pointer (some ⟨h, 0, none⟩)) : g = h := by
  injection e with e; injection e with e; injection e with e
theorem all2_mem {α β : Type} {P : α → β → Prop} {l : List α} {m : List β} (h : All2 P l m) {a : α} (ha : a ∈ l) : ∃ b ∈ m, P a b := by
  induction h with
  | nil => cases ha
  | cons h _ ih =>
    rcases List.mem_cons.1 ha with rfl | ha
    · exact ⟨_, by simp, h⟩
    · obtain ⟨b, hb, hp⟩ := ih ha; exact ⟨b, by simp [hb], hp⟩
theorem SecP.blk {w : World} {g : Nat} {s : SecD} (h : SecP w (.pointer (some ⟨g, 0, none⟩)) s) : ∃ ov sv, Blk w g TS #[.string s.name, ov, sv] ∧ OptsP w ov s.opts ∧ SubsP w sv s.subs := by
  obtain ⟨g', ov, sv, e, hb, h⟩ := h
  obtain rfl := ptr_inj e
  exact ⟨ov, sv, hb, h⟩
theorem SecB.blk {B : Nat} {w : World} {g : Nat} {s : SecD} (h : SecB B w (.pointer (some ⟨g, 0, none⟩)) s) : ∃ ov sv, B ≤ g ∧ Blk w g TS #[.string s.name, ov, sv] ∧ OptsP w ov s.opts ∧ SubsB B w sv s.subs := by
  obtain ⟨g', ov, sv, e, hB, hb, h⟩ := h
  obtain rfl := ptr_inj e
  exact ⟨ov, sv, hB, hb, h⟩
theorem SecP.row_lt {w : World} {g x : Nat} {s : SecD} (h : SecP w (.pointer (some ⟨g, 0, none⟩)) s) (hr : RowOf w g x) : x < w.heap.size := by
  obtain ⟨ov, sv, hb, _, vs, ho, _⟩ := h.blk
  obtain ⟨nm', ov', sv', hb', hx⟩ := hr
  obtain ⟨_, _, rfl⟩ := blk3 hb hb'
  exact (ho.lt x hx).2
theorem RowOf.back {w w' : World} {g x : Nat} {s : SecD} (h : SecP w (.pointer (some ⟨g, 0, none⟩)) s) (hT : Ty [TS] w w') (hr : RowOf w' g x) : RowOf w g x := by
  obtain ⟨ov, sv, hb, _⟩ := h.blk
  obtain ⟨nm', ov', sv', hb', hx⟩ := hr
  obtain ⟨rfl, rfl, rfl⟩ := blk3 (hT _ _ _ (by simp) hb) hb'
  exact ⟨_, _, _, hb, hx⟩
theorem Apart.keep {w w' : World} {vs : List Value} {ss : List SecD} (h : Apart w vs) (ha : All2 (SecP w) vs ss) (hT : Ty [TS] w w') : Apart w' vs := fun g k x hg hk r1 r2 => by
  obtain ⟨s1, _, h1⟩ := all2_mem ha hg
  obtain ⟨s2, _, h2⟩ := all2_mem ha hk
  exact h g k x hg hk (r1.back h1 hT) (r2.back h2 hT)
/-- a new section's row is new -/
theorem Apart.snoc {w w' : World} {vs : List Value} {ss : List SecD} {b : Nat} (h : Apart w vs) (ha : All2 (SecP w) vs ss) (hT : Ty [TS] w w') (hn : ∀ x, RowOf w' b x → w.heap.size ≤ x) : Apart w' (vs ++ [.pointer (some ⟨b, 0, none⟩)]) := by
  have old : ∀ g x, .pointer (some ⟨g, 0, none⟩) ∈ vs → RowOf w' g x → x < w.heap.size := fun g x hg r => by
    obtain ⟨s1, _, h1⟩ := all2_mem ha hg
    exact h1.row_lt (r.back h1 hT)
  intro g k x hg hk r1 r2
  have last : ∀ y, .pointer (some ⟨y, 0, none⟩) ∈ vs ++ [.pointer (some ⟨b, 0, none⟩)] → .pointer (some ⟨y, 0, none⟩) ∈ vs ∨ y = b := fun y hy => by
    rcases List.mem_append.1 hy with hy | hy
    · exact .inl hy
    · exact .inr (ptr_inj (by simpa using hy))
  rcases last g hg with ag | ag
  · rcases last k hk with ak | ak
    · exact h.keep ha hT g k x ag ak r1 r2
    · have := old g x ag r1
      have := hn x (ak ▸ r2)
      omega
  · rcases last k hk with ak | ak
    · have := old k x ak r2
      have := hn x (ag ▸ r1)
      omega
    · omega
theorem all2_p {B : Nat} {w : World} {vs : List Value} {ss : List SecD} (h : All2 (SecB B w) vs ss) : All2 (SecP w) vs ss := h.mono fun _ _ h => h.sec
/-- a configuration, its rows in sight -/
structure ConfB (B : Nat) (w : World) (gc : Nat) (sv : Value) (vs : List Value) (ss : List SecD) : Prop where
  b : B ≤ gc
  c : Blk w gc TC #[.pointer none, sv, .slice none 0 0]
  o : w.ownsRow B PS 1 sv ss.length vs
  a : All2 (SecB B w) vs ss
/-- and no two sections have one row of parts -/
structure ConfV (B : Nat) (w : World) (gc : Nat) (sv : Value) (vs : List Value) (ss : List SecD) : Prop extends ConfB B w gc sv vs ss where
  d : Apart w vs
theorem all2_mem' {α β : Type} {P : α → β → Prop} {l : List α} {m : List β} (h : All2 P l m) {b : β} (hb : b ∈ m) : ∃ a ∈ l, P a b := by
  induction h with
  | nil => cases hb
  | cons h _ ih =>
    rcases List.mem_cons.1 hb with rfl | hb
    · exact ⟨_, by simp, h⟩
    · obtain ⟨a, ha, hp⟩ := ih hb; exact ⟨a, by simp [ha], hp⟩
theorem ConfB.conf {B : Nat} {w : World} {gc : Nat} {sv : Value} {vs : List Value} {ss : List SecD} (h : ConfB B w gc sv vs ss) : ConfP w (.pointer (some ⟨gc, 0, none⟩)) ss := ⟨gc, sv, rfl, h.c, vs, own_base h.o (Nat.zero_le _), all2_p h.a⟩
theorem all2_choose {α β : Type} {P Q : α → β → Prop} {R : β → β → Prop} {l : List α} {m : List β} (h : All2 P l m) (hq : ∀ a b, a ∈ l → P a b → b ∈ m → ∃ b', Q a b' ∧ R b b') : ∃ m', All2 Q l m' ∧ All2 R m m' := by
  induction h with
  | nil => exact ⟨[], .nil, .nil⟩
  | cons h t ih =>
    obtain ⟨b', h1, h2⟩ := hq _ _ (by simp) h (by simp)
    obtain ⟨m', h3, h4⟩ := ih (fun a b ha hp hb => hq a b (by simp [ha]) hp (by simp [hb]))
    exact ⟨b' :: m', .cons h1 h3, .cons h2 h4⟩
end Go.Proofs.YtmhcbgmnhcfhfaaDoor.cf
