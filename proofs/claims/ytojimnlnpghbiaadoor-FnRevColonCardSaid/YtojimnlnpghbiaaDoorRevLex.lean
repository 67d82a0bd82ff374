/- Tokens of a text, as a list; a parser's state by the tokens that lie ahead; Parser.scan and unscan over it. -/
import Derived.Test.YtojimnlnpghbiaaDoorRevName
set_option linter.unusedVariables false
namespace Go.Proofs.YtojimnlnpghbiaaDoor.rev
open Go.RowKit Lib frm mem rd

abbrev Tk := Nat × ByteArray
def eofT : Tk := (0, ⟨#[]⟩)
def Lo (x : UInt8) : Prop := 97 ≤ x.toNat ∧ x.toNat ≤ 122
def Di (x : UInt8) : Prop := 48 ≤ x.toNat ∧ x.toNat ≤ 57
inductive Mk : UInt8 → Nat → Prop
  | m58 : Mk 58 6
  | m126 : Mk 126 17
  | m94 : Mk 94 4
  | m47 : Mk 47 15
  | m123 : Mk 123 12
  | m125 : Mk 125 5
  | m45 : Mk 45 10
  | m64 : Mk 64 3
  | m33 : Mk 33 9
inductive Lex : List UInt8 → List Tk → Prop
  | nil : Lex [] []
  | eof {ts : List Tk} : Lex [] ts → Lex [] (eofT :: ts)
  | mark {x : UInt8} {k : Nat} {l : List UInt8} {ts : List Tk} : Mk x k → Lex l ts → Lex (x :: l) ((k, ⟨#[x]⟩) :: ts)
  | word {x : UInt8} {a b : List UInt8} {ts : List Tk} : Lo x → (∀ y ∈ a, Lo y) → (b = [] ∨ ∃ y t, b = y :: t ∧ (Di y ∨ ∃ k, Mk y k)) → Lex b ts → Lex (x :: (a ++ b)) ((19, ⟨(x :: a).toArray⟩) :: ts)
  | num {x : UInt8} {a b : List UInt8} {ts : List Tk} : Di x → (∀ y ∈ a, Di y) → (b = [] ∨ ∃ y t, b = y :: t ∧ (Lo y ∨ ∃ k, Mk y k)) → Lex b ts → Lex (x :: (a ++ b)) ((11, ⟨(x :: a).toArray⟩) :: ts)
theorem u8_cases {P : UInt8 → Prop} (h : ∀ n : Fin 256, P (UInt8.ofNat n.val)) (x : UInt8) : P x := by
  have := h ⟨x.toNat, x.toNat_lt⟩
  simpa using this
theorem lo_z (x : UInt8) (h : Lo x) : Dom x ∧ zOf x = 192 := by
  have key : ∀ n : Fin 256, 97 ≤ n.val → n.val ≤ 122 → Lib.propertiesTab.getD n.val 0 = 192 := by decide +kernel
  have := key ⟨x.toNat, x.toNat_lt⟩ h.1 h.2
  have hz : zOf x = 192 := this
  refine ⟨⟨by have := h.1; omega, by have := h.2; omega, ?_⟩, hz⟩
  rw [hz]; unfold Zs; omega
theorem di_z (x : UInt8) (h : Di x) : Dom x ∧ zOf x = 132 := by
  have key : ∀ n : Fin 256, 48 ≤ n.val → n.val ≤ 57 → Lib.propertiesTab.getD n.val 0 = 132 := by decide +kernel
  have := key ⟨x.toNat, x.toNat_lt⟩ h.1 h.2
  have hz : zOf x = 132 := this
  refine ⟨⟨by have := h.1; omega, by have := h.2; omega, ?_⟩, hz⟩
  rw [hz]; unfold Zs; omega
theorem mk_z (x : UInt8) (k : Nat) (h : Mk x k) : Dom x ∧ zOf x ≠ 132 ∧ zOf x ≠ 192 := by
  cases h <;> (unfold Dom Zs zOf; decide +kernel)
theorem word_stop {b : List UInt8} (hb : b = [] ∨ ∃ y t, b = y :: t ∧ (Di y ∨ ∃ k, Mk y k)) : b = [] ∨ ∃ y t, b = y :: t ∧ Dom y ∧ zOf y ≠ 192 := by
  rcases hb with h | ⟨y, t, h, h1 | ⟨k, h1⟩⟩
  · exact .inl h
  · have := di_z y h1; exact .inr ⟨y, t, h, this.1, by rw [this.2]; decide⟩
  · have := mk_z y k h1; exact .inr ⟨y, t, h, this.1, this.2.2⟩
theorem num_stop {b : List UInt8} (hb : b = [] ∨ ∃ y t, b = y :: t ∧ (Lo y ∨ ∃ k, Mk y k)) : b = [] ∨ ∃ y t, b = y :: t ∧ Dom y ∧ zOf y ≠ 132 := by
  rcases hb with h | ⟨y, t, h, h1 | ⟨k, h1⟩⟩
  · exact .inl h
  · have := lo_z y h1; exact .inr ⟨y, t, h, this.1, by rw [this.2]; decide⟩
  · have := mk_z y k h1; exact .inr ⟨y, t, h, this.1, this.2.1⟩
/-- what stays of a parser -/
structure Fix (p : Pl) (h S : Nat) (w : World) : Prop where
  env : Env p w
  props : Props w
  pn : 9 ∉ p.bs
  sc : Sc w S p.R
  sl : S < w.heap.size
  sn : S ∉ p.bs
  hn : h ∉ p.bs
  hS : h ≠ S
  ph : 9 ≠ h
  fh : 7 ≠ h
  eh : 0 ≠ h
  bb : p.B ≤ p.b
theorem Fix.keep {K : List Nat} {p : Pl} {h S : Nat} {w w' : World} (f : Fix p h S w) (hk : Kept K w w') (hK : ∀ x ∈ K, x ≠ S ∧ x ≠ 9 ∧ x ≠ 7 ∧ x ≠ 0) : Fix p h S w' := by
  have hfn : 7 ∉ K := fun hm => (hK _ hm).2.2.1 rfl
  have hen : 0 ∉ K := fun hm => (hK _ hm).2.2.2 rfl
  have hpn : 9 ∉ K := fun hm => (hK _ hm).2.1 rfl
  have hsn : S ∉ K := fun hm => (hK _ hm).1 rfl
  exact ⟨⟨f.env.ap, fun k hk' => (hk.cell (p := ⟨7, k, none⟩) f.env.fg hfn).trans (f.env.first k hk'), Nat.lt_of_lt_of_le f.env.fg hk.size, f.env.fn, (hk.cell (p := ⟨0, 0, none⟩) f.env.eg hen).trans f.env.eof, Nat.lt_of_lt_of_le f.env.eg hk.size, f.env.en⟩,
    f.props.kept hk hpn, f.pn, (hk.cell (p := ⟨S, 0, none⟩) f.sl hsn).trans f.sc, Nat.lt_of_lt_of_le f.sl hk.size, f.sn, f.hn, f.hS, f.ph, f.fh, f.eh, f.bb⟩
theorem Fix.kept {p : Pl} {h S : Nat} {w w' : World} (f : Fix p h S w) (hk : Kept (h :: p.bs) w w') : Fix p h S w' := by
  refine f.keep hk fun x hx => ?_
  rcases List.mem_cons.1 hx with rfl | hx
  · exact ⟨f.hS, f.ph.symm, f.fh.symm, f.eh.symm⟩
  · exact ⟨fun e => f.sn (e ▸ hx), fun e => f.pn (e ▸ hx), fun e => f.env.fn (e ▸ hx), fun e => f.env.en (e ▸ hx)⟩
/-- these tokens lie ahead -/
def Ahead (p : Pl) (h S : Nat) (ts : List Tk) (w : World) : Prop :=
  Fix p h S w ∧ ∃ (c : Tk) (un : Bool) (l : List UInt8) (t0 : List Tk), Ps w h S c.1 c.2 un ∧ Lex l t0 ∧ ((un = false ∧ ts = t0 ∧ (Fr p l w ∨ Rn p l w)) ∨ (un = true ∧ ts = c :: t0 ∧ Rn p l w))
/-- token c has just been given, these lie ahead -/
def Done (p : Pl) (h S : Nat) (c : Tk) (ts : List Tk) (w : World) : Prop :=
  Fix p h S w ∧ ∃ l, Ps w h S c.1 c.2 false ∧ Lex l ts ∧ Rn p l w
theorem Done.ahead {p : Pl} {h S : Nat} {c : Tk} {ts : List Tk} {w : World} (d : Done p h S c ts w) : Ahead p h S ts w := by
  obtain ⟨f, l, h1, h2, h3⟩ := d
  exact ⟨f, c, false, l, ts, h1, h2, .inl ⟨rfl, rfl, .inr h3⟩⟩
/-- what a parser's run may write: its own block and the reader's -/
def own (p : Pl) (h : Nat) : List Nat := h :: p.bs
/-- a block that is none of a parser's -/
def Far (p : Pl) (h S x : Nat) : Prop := (x ≠ S ∧ x ≠ 9 ∧ x ≠ 7 ∧ x ≠ 0) ∧ x ≠ h ∧ x ∉ p.bs ∧ p.B ≤ x
theorem Done.keep {K : List Nat} {p : Pl} {h S : Nat} {c : Tk} {ts : List Tk} {w w' : World} (d : Done p h S c ts w) (hk : Kept K w w') (hK : ∀ x ∈ K, Far p h S x) : Done p h S c ts w' := by
  obtain ⟨f, l, h1, h2, h3⟩ := d
  exact ⟨f.keep hk fun x hx => (hK x hx).1, l, Blk.kept h1 hk (fun hm => (hK _ hm).2.1 rfl), h2, h3.below hk (fun x hx hm => (hK _ hm).2.2.1 hx)⟩
theorem Ahead.keep {K : List Nat} {p : Pl} {h S : Nat} {ts : List Tk} {w w' : World} (d : Ahead p h S ts w) (hk : Kept K w w') (hK : ∀ x ∈ K, Far p h S x) : Ahead p h S ts w' := by
  obtain ⟨f, c, un, l, t0, h1, h2, h3⟩ := d
  have hh : h ∉ K := fun hm => (hK _ hm).2.1 rfl
  have hp : ∀ x ∈ p.bs, x ∉ K := fun x hx hm => (hK _ hm).2.2.1 hx
  refine ⟨f.keep hk fun x hx => (hK x hx).1, c, un, l, t0, Blk.kept h1 hk hh, h2, ?_⟩
  rcases h3 with ⟨e1, e2, h3 | h3⟩ | ⟨e1, e2, h3⟩
  · refine .inl ⟨e1, e2, .inl ?_⟩
    obtain ⟨g0, g1, g2, g3, g4, g5, g6, g7, cur, hc, hG⟩ := h3
    exact ⟨g0, g1, g2, g3.kept hk (hp _ (by simp [Pl.bs])), g4.kept hk (hp _ (by simp [Pl.bs])), g5.kept hk (hp _ (by simp [Pl.bs])), g6.below (hk.below (Nat.le_trans g7 (Nat.le_of_lt g5.lt)) (fun x hx => (hK x hx).2.2.2)), g7, cur, hc, hG.kept hk (hp _ (by simp [Pl.bs]))⟩
  · exact .inl ⟨e1, e2, .inr (h3.below hk hp)⟩
  · exact .inr ⟨e1, e2, h3.below hk hp⟩
theorem Ahead.kept {p : Pl} {h S : Nat} {ts : List Tk} {w w' : World} (d : Ahead p h S ts w) (hk : Kept [] w w') : Ahead p h S ts w' := d.keep hk (by simp)
theorem fr_lt {p : Pl} {l : List UInt8} {w : World} (h : Fr p l w) : ∀ x ∈ p.bs, x < w.heap.size := by
  obtain ⟨g0, g1, g2, g3, g4, g5, g6, g7, cur, hc, hG⟩ := h
  intro x hx
  simp only [Pl.bs, List.mem_cons, List.not_mem_nil, or_false] at hx
  rcases hx with rfl | rfl | rfl | rfl
  · exact g3.lt
  · exact g4.lt
  · obtain ⟨lr, g5⟩ := g5
    exact g5.lt
  · exact hG.lt
theorem Ahead.far {p : Pl} {h S : Nat} {ts : List Tk} {w : World} (d : Ahead p h S ts w) : ∀ x, w.heap.size ≤ x → Far p h S x := by
  obtain ⟨f, c, un, l, t0, h1, h2, h3⟩ := d
  intro x hx
  have hlt : ∀ y ∈ p.bs, y < w.heap.size := by
    rcases h3 with ⟨e1, e2, h3 | h3⟩ | ⟨e1, e2, h3⟩
    · exact fr_lt h3
    · exact h3.lt
    · exact h3.lt
  have a1 := f.sl
  have a2 := f.props.1
  have a3 := f.env.fg
  have a4 := f.env.eg
  have a5 := Blk.lt h1
  have a6 := hlt p.b (by simp [Pl.bs])
  have hB := f.bb
  exact ⟨⟨by omega, by omega, by omega, by omega⟩, by omega, fun hm => by have := hlt x hm; omega, by omega⟩
theorem Begun.ahead {p : Pl} {h S : Nat} {l : List UInt8} {w : World} {ts : List Tk} (b : Begun p h S l w) (hl : Lex l ts) (h1 : 9 ≠ h) (h2 : 7 ≠ h) (h3 : 0 ≠ h) : Ahead p h S ts w :=
  ⟨⟨b.env, b.props, b.pn, b.sc, b.sl, b.sn, b.hn, b.hS, h1, h2, h3, b.fr.2.2.2.2.2.2.2.1⟩, eofT, false, l, ts, b.ps, hl, .inl ⟨rfl, rfl, .inl b.fr⟩⟩
def PGot (p : Pl) (h S : Nat) (t : Tk) (ts : List Tk) (w : World) (e : Ending) (w' : World) : Prop :=
  e = .returned (.tuple #[.int .i64 t.1, .string t.2, .nilIface]) ∧ Done p h S t ts w' ∧ Kept (own p h) w w'
theorem fr_len {p : Pl} {l : List UInt8} {w : World} (h : Fr p l w ∨ Rn p l w) : l.length ≤ 4096 := by
  rcases h with h | ⟨r, wv, m, lb, ls, N, h1, h2, h3, _⟩
  · exact h.2.1
  · omega
theorem scan_lex (p : Pl) (S : Nat) (l : List UInt8) (t : Tk) (ts : List Tk) (w : World) (he : Env p w) (hp : Props w) (hpn : 9 ∉ p.bs) (hS : Sc w S p.R) (hSl : S < w.heap.size) (hSn : S ∉ p.bs) (h : Fr p l w ∨ Rn p l w) (hx : Lex l (t :: ts)) :
    ∃ l', Lex l' ts ∧ Calls Tryd.prog 71 #[.pointer (some ⟨S, 0, none⟩)] w (Tok p t.1 t.2 l' w) := by
  have hlen := fr_len h
  cases hx with
  | eof h0 =>
    have hr : Rn p [] w := by
      rcases h with h | h
      · exact absurd rfl h.1
      · exact h
    exact ⟨[], h0, scan_end p S w he hS hr⟩
  | mark hm h0 =>
    refine ⟨_, h0, ?_⟩
    cases hm with
    | m58 => exact scan_58 p S _ w he hS h
    | m126 => exact scan_126 p S _ w he hS h
    | m94 => exact scan_94 p S _ w he hS h
    | m47 => exact scan_47 p S _ w he hS h
    | m123 => exact scan_123 p S _ w he hS h
    | m125 => exact scan_125 p S _ w he hS h
    | m45 => exact scan_45 p S _ w he hS h
    | m64 => exact scan_64 p S _ w he hS h
    | m33 => exact scan_33 p S _ w he hS h
  | @word x a b _ h1 h2 h3 h4 =>
    exact ⟨b, h4, scan_word p S x a b w he hp hpn hS hSl hSn h h1.1 h1.2 (lo_z _ h1).2 (fun y hy => lo_z y (h2 y hy)) (word_stop h3) (by simp at hlen; omega)⟩
  | @num x a b _ h1 h2 h3 h4 =>
    exact ⟨b, h4, scan_num p S x a b w he hp hpn hS hSl hSn h h1.1 h1.2 (di_z _ h1).2 (fun y hy => di_z y (h2 y hy)) (num_stop h3) (by simp at hlen; omega)⟩
theorem pgot_of {p : Pl} {h S : Nat} {t : Tk} {ts : List Tk} {l : List UInt8} {w w' : World} {e : Ending} (f : Fix p h S w) (hl : Lex l ts) (x : PTok p h S t.1 t.2 l w e w') : PGot p h S t ts w e w' := by
  obtain ⟨h1, h2, h3, h4⟩ := x
  exact ⟨h1, ⟨f.kept h4, l, h2, hl, h3⟩, h4⟩
theorem scan_calls (p : Pl) (h S : Nat) (t : Tk) (ts : List Tk) (w : World) (ha : Ahead p h S (t :: ts) w) :
    Calls Tryd.prog 53 #[.pointer (some ⟨h, 0, none⟩)] w (PGot p h S t ts w) := by
  obtain ⟨f, c, un, l, t0, h1, h2, h3⟩ := ha
  rcases h3 with ⟨rfl, rfl, h3⟩ | ⟨rfl, he, h3⟩
  · obtain ⟨l', hl', hc⟩ := scan_lex p S l t ts w f.env f.props f.pn f.sc f.sl f.sn h3 h2
    exact (pscan_new p h S c.1 c.2 t.1 t.2 l' w h1 f.hn hc).mono fun e w' x => pgot_of f hl' x
  · injection he with e1 e2
    subst e1
    subst e2
    exact (pscan_un p h S t.1 t.2 l w h1 f.hn h3).mono fun e w' x => pgot_of f h2 x
def PBack (p : Pl) (h S : Nat) (ts : List Tk) (w : World) (e : Ending) (w' : World) : Prop := e = .returned (.tuple #[]) ∧ Ahead p h S ts w' ∧ Kept (own p h) w w'
theorem back_calls (p : Pl) (h S : Nat) (t : Tk) (ts : List Tk) (w : World) (hd : Done p h S t ts w) :
    Calls Tryd.prog 59 #[.pointer (some ⟨h, 0, none⟩)] w (PBack p h S (t :: ts) w) := by
  obtain ⟨f, l, h1, h2, h3⟩ := hd
  refine (unscan_calls h S t.1 t.2 false w h1).mono ?_
  rintro e w' ⟨rfl, hp, hk⟩
  have hk' : Kept (own p h) w w' := hk.more (by simp [own])
  exact ⟨rfl, ⟨f.kept hk', t, true, l, ts, hp, h2, .inr ⟨rfl, rfl, h3.below hk (fun x hx hm => by simp at hm; subst hm; exact f.hn hx)⟩⟩, hk'⟩
/-- a name's tokens -/
def Alnum (x : UInt8) : Prop := Lo x ∨ Di x
def textOf : List Tk → ByteArray
  | [] => ⟨#[]⟩
  | t :: ts => t.2 ++ textOf ts
def Words (ts : List Tk) : Prop := ∀ t ∈ ts, t.1 = 19 ∨ t.1 = 11
theorem ba_ext {a b : ByteArray} (h : a.data.toList = b.data.toList) : a = b := by
  obtain ⟨⟨a⟩⟩ := a
  obtain ⟨⟨b⟩⟩ := b
  simpa using h
theorem ba_list (a b : ByteArray) : (a ++ b).data.toList = a.data.toList ++ b.data.toList := by simp
theorem ba_of (l : List UInt8) : (⟨l.toArray⟩ : ByteArray).data.toList = l := by simp
theorem split_run (p : UInt8 → Bool) (l : List UInt8) : ∃ a b, l = a ++ b ∧ (∀ x ∈ a, p x = true) ∧ (b = [] ∨ ∃ y t, b = y :: t ∧ p y = false) := by
  induction l with
  | nil => exact ⟨[], [], rfl, by simp, .inl rfl⟩
  | cons x t ih =>
    by_cases h : p x = true
    · obtain ⟨a, b, e, ha, hb⟩ := ih
      refine ⟨x :: a, b, by rw [e]; rfl, ?_, hb⟩
      intro y hy
      rcases List.mem_cons.1 hy with rfl | hy
      · exact h
      · exact ha y hy
    · exact ⟨[], x :: t, rfl, by simp, .inr ⟨x, t, rfl, by simpa using h⟩⟩
theorem names_lex (r : List UInt8) (ts : List Tk) (hr : r = [] ∨ ∃ y t, r = y :: t ∧ ∃ k, Mk y k) (hl : Lex r ts) :
    ∀ (n : Nat) (l : List UInt8), l.length ≤ n → (∀ x ∈ l, Alnum x) →
      ∃ ns, Words ns ∧ (l ≠ [] → ns ≠ []) ∧ (textOf ns).data.toList = l ∧ Lex (l ++ r) (ns ++ ts) ∧ (∀ x t, l = x :: t → Lo x → ∃ s ns', ns = (19, s) :: ns') := by
  intro n
  induction n with
  | zero =>
    intro l h _
    obtain rfl : l = [] := by simpa using h
    exact ⟨[], fun t ht => (nomatch ht), fun h => absurd rfl h, rfl, hl, fun x t h => (nomatch h)⟩
  | succ n ih =>
    intro l h hx
    cases l with
    | nil => exact ⟨[], fun t ht => (nomatch ht), fun h => absurd rfl h, rfl, hl, fun x t h => (nomatch h)⟩
    | cons x t =>
      have hxs : ∀ y ∈ t, Alnum y := fun y hy => hx y (List.mem_cons_of_mem _ hy)
      have key : ∀ (p : UInt8 → Bool), ∃ a b, t = a ++ b ∧ (∀ y ∈ a, p y = true) ∧ (b = [] ∨ ∃ y t', b = y :: t' ∧ p y = false) ∧ b.length ≤ n ∧ (∀ y ∈ b, Alnum y) := by
        intro p
        obtain ⟨a, b, e, ha, hb⟩ := split_run p t
        refine ⟨a, b, e, ha, hb, ?_, fun y hy => hxs y (by rw [e]; exact List.mem_append_right _ hy)⟩
        have : t.length = a.length + b.length := by rw [e, List.length_append]
        simp only [List.length_cons] at h
        omega
      rcases hx x (List.mem_cons_self ..) with h1 | h1
      · obtain ⟨a, b, rfl, ha, hb, hbn, hbx⟩ := key fun y => decide (97 ≤ y.toNat ∧ y.toNat ≤ 122)
        obtain ⟨ns, i1, i2, i3, i4, _⟩ := ih b hbn hbx
        refine ⟨(19, ⟨(x :: a).toArray⟩) :: ns, ?_, by simp, ?_, ?_, fun _ _ _ _ => ⟨_, _, rfl⟩⟩
        · intro t ht
          rcases List.mem_cons.1 ht with rfl | ht
          · exact .inl rfl
          · exact i1 t ht
        · show ((⟨(x :: a).toArray⟩ : ByteArray) ++ textOf ns).data.toList = _
          rw [ba_list, i3]
          simp
        · have e : x :: (a ++ b) ++ r = x :: (a ++ (b ++ r)) := by simp
          rw [e]
          refine Lex.word h1 (fun y hy => by have := ha y hy; simpa [Lo] using this) ?_ i4
          rcases hb with rfl | ⟨y, t', rfl, hy⟩
          · rcases hr with rfl | ⟨y, t', rfl, k, hk⟩
            · exact .inl rfl
            · exact .inr ⟨y, t', rfl, .inr ⟨k, hk⟩⟩
          · refine .inr ⟨y, t' ++ r, rfl, .inl ?_⟩
            rcases hbx y (List.mem_cons_self ..) with h2 | h2
            · exact absurd (show (decide (97 ≤ y.toNat ∧ y.toNat ≤ 122)) = true from decide_eq_true h2) (by rw [hy]; simp)
            · exact h2
      · obtain ⟨a, b, rfl, ha, hb, hbn, hbx⟩ := key fun y => decide (48 ≤ y.toNat ∧ y.toNat ≤ 57)
        obtain ⟨ns, i1, i2, i3, i4, _⟩ := ih b hbn hbx
        refine ⟨(11, ⟨(x :: a).toArray⟩) :: ns, ?_, by simp, ?_, ?_, fun y t' hy hl' => ?_⟩
        · intro t ht
          rcases List.mem_cons.1 ht with rfl | ht
          · exact .inr rfl
          · exact i1 t ht
        · show ((⟨(x :: a).toArray⟩ : ByteArray) ++ textOf ns).data.toList = _
          rw [ba_list, i3]
          simp
        · have e : x :: (a ++ b) ++ r = x :: (a ++ (b ++ r)) := by simp
          rw [e]
          refine Lex.num h1 (fun y hy => by have := ha y hy; simpa [Di] using this) ?_ i4
          rcases hb with rfl | ⟨y, t', rfl, hy⟩
          · rcases hr with rfl | ⟨y, t', rfl, k, hk⟩
            · exact .inl rfl
            · exact .inr ⟨y, t', rfl, .inr ⟨k, hk⟩⟩
          · refine .inr ⟨y, t' ++ r, rfl, .inl ?_⟩
            rcases hbx y (List.mem_cons_self ..) with h2 | h2
            · exact h2
            · exact absurd (show (decide (48 ≤ y.toNat ∧ y.toNat ≤ 57)) = true from decide_eq_true h2) (by rw [hy]; simp)
        · injection hy with e1 e2
          subst e1
          unfold Lo at hl'
          unfold Di at h1
          omega
/-- a number's token -/
theorem digits_lex {l r : List UInt8} {ts : List Tk} (hr : r = [] ∨ ∃ y t, r = y :: t ∧ ∃ k, Mk y k) (hl : Lex r ts) (h0 : l ≠ []) (hd : ∀ x ∈ l, Di x) : Lex (l ++ r) ((11, ⟨l.toArray⟩) :: ts) := by
  cases l with
  | nil => exact absurd rfl h0
  | cons x a =>
    exact Lex.num (hd x (List.mem_cons_self ..)) (fun y hy => hd y (List.mem_cons_of_mem _ hy)) (by
      rcases hr with rfl | ⟨y, t', rfl, hk⟩
      · exact .inl rfl
      · exact .inr ⟨y, t', rfl, .inr hk⟩) hl
end Go.Proofs.YtojimnlnpghbiaaDoor.rev
