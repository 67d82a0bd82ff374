/- The reader, by what lies ahead. -/
import Derived.Test.YtojimnlnpghbiaaDoorRevFirst
set_option linter.unusedVariables false
namespace Go.Proofs.YtojimnlnpghbiaaDoor.rev
open Go.RowKit Lib frm mem rd

/-- where a reader's parts lie -/
structure Pl where
  R : Nat
  G : Nat
  q : Nat
  b : Nat
  A : Option Addr
  c : Nat
  B : Nat
  pv : Addr
def Pl.bs (p : Pl) : List Nat := [p.R, p.q, p.b, p.G]
/-- what the world must say -/
structure Env (p : Pl) (w : World) : Prop where
  ap : Apart p.R p.G p.q p.b
  first : First w
  fg : 7 < w.heap.size
  fn : 7 ∉ p.bs
  eof : w.cell? ⟨0, 0, none⟩ = some (.iface 202 (.pointer (some p.pv)))
  eg : 0 < w.heap.size
  en : 0 ∉ p.bs
theorem Env.kept {p : Pl} {w w' : World} (h : Env p w) (hk : Kept p.bs w w') : Env p w' :=
  ⟨h.ap, fun k hk' => (hk.cell (p := ⟨7, k, none⟩) h.fg h.fn).trans (h.first k hk'), Nat.lt_of_lt_of_le h.fg hk.size, h.fn, (hk.cell (p := ⟨0, 0, none⟩) h.eg h.en).trans h.eof, Nat.lt_of_lt_of_le h.eg hk.size, h.en⟩
theorem Env.eo {p : Pl} {w : World} (h : Env p w) : 0 ≠ p.R ∧ 0 ≠ p.q ∧ 0 ≠ p.b ∧ 0 ≠ p.G := by
  have := h.en
  simp only [Pl.bs, List.mem_cons, List.not_mem_nil, or_false, not_or] at this
  exact this
/-- under way -/
def Rn (p : Pl) (l : List UInt8) (w : World) : Prop :=
  ∃ (r wv m : Nat) (lb ls N : Int), Rb w p.R p.G p.q r wv .nilIface lb ls ∧ r + l.length = wv ∧ wv ≤ 4096 ∧ Row w p.G r l ∧ Lm w p.q p.b N ∧ 4096 ≤ N ∧ N ≤ 140737488355328 ∧ Bf w p.b p.A m p.c m
/-- a letter has just been read -/
def Got (p : Pl) (x : UInt8) (t : List UInt8) (w : World) : Prop :=
  ∃ (r wv m : Nat) (lb N : Int), Rb w p.R p.G p.q (r + 1) wv .nilIface lb 1 ∧ r + (x :: t).length = wv ∧ wv ≤ 4096 ∧ Row w p.G r (x :: t) ∧ Lm w p.q p.b N ∧ 4096 ≤ N ∧ N ≤ 140737488355328 ∧ Bf w p.b p.A m p.c m
/-- nothing has been read -/
def Fr (p : Pl) (l : List UInt8) (w : World) : Prop :=
  l ≠ [] ∧ l.length ≤ 4096 ∧ l.length ≤ p.c ∧ Rb w p.R p.G p.q 0 0 .nilIface (-1) (-1) ∧ Lm w p.q p.b 131072 ∧ Bf w p.b p.A l.length p.c 0 ∧ Bytes w p.B p.A l.length l ∧ p.B ≤ p.b ∧ ∃ cur : List Value, cur.length = 4096 ∧ Blk w p.G 5 cur.toArray
theorem Got.run {p : Pl} {x : UInt8} {t : List UInt8} {w : World} (h : Got p x t w) : Rn p t w := by
  obtain ⟨r, wv, m, lb, N, h1, h2, h3, h4, h5⟩ := h
  exact ⟨r + 1, wv, m, lb, 1, N, h1, by simp at h2; omega, h3, h4.head.2, h5⟩
/-- a letter is read -/
def ReadOne (p : Pl) (x : UInt8) (t : List UInt8) (w : World) (e : Ending) (w' : World) : Prop := e = .returned (.tuple #[.int .i32 x.toNat, .int .i64 1, .nilIface]) ∧ Got p x t w' ∧ Kept p.bs w w'
theorem read_one (p : Pl) (x : UInt8) (t : List UInt8) (w : World) (he : Env p w) (h : Fr p (x :: t) w ∨ Rn p (x :: t) w) (hx : x.toNat < 128) :
    Calls Tryd.prog 86 #[.pointer (some ⟨p.R, 0, none⟩)] w (ReadOne p x t w) := by
  have hfR : 7 ≠ p.R := by
    have := he.fn
    simp only [Pl.bs, List.mem_cons, List.not_mem_nil, or_false, not_or] at this
    exact this.1
  rcases h with ⟨hne, h1, h2, h3, h4, h5, h6, h7, cur, hc, hG⟩ | ⟨r, wv, m, lb, ls, N, h1, h2, h3, h4, h5, h6, h7, h8⟩
  · refine (rune_first p.R p.G p.q p.b (x :: t).length 131072 p.A p.c x t cur w h3 he.ap hx rfl h1 hc he.first he.fg he.fn (fun w' k =>
      fill_all p.B p.R p.G p.q p.b 131072 p.A (x :: t).length p.c (-1) (-1) (x :: t) cur w' (h3.kept k (by simp)) (h4.kept k (by simp)) (by omega) (by omega) (h5.kept k (by simp)) (by simp) h1 h2
        (h6.below (k.below (Nat.le_trans h7 (Nat.le_of_lt h5.lt)) (by simp))) h7 he.ap (hG.kept k (by simp)) hc)).mono ?_
    rintro e w' ⟨w1, r, rfl, ⟨rfl, hr, hg, hk⟩, hl, hb, hk1, hrow⟩
    have hA := he.ap
    refine ⟨rfl, ⟨0, _, _, _, _, hr, by simp, h1, hrow.kept hk (by simp [hA.RG.symm]), hl.kept hk (by simp [hA.Rq.symm]), by simp at h1 ⊢; omega, by simp at h1 ⊢; omega, hb.kept hk (by simp [hA.Rb.symm])⟩, hk1.trans_ (hk.more (by simp))⟩
  · refine (rune_one p.R p.G p.q r wv lb ls x t w h1 he.ap.RG h4 hx h2 h3 he.first hfR).mono ?_
    rintro e w' ⟨rfl, hr, hg, hk⟩
    have hA := he.ap
    exact ⟨rfl, ⟨r, wv, m, _, N, hr, h2, h3, h4.kept hk (by simp [hA.RG.symm]), h5.kept hk (by simp [hA.Rq.symm]), h6, h7, h8.kept hk (by simp [hA.Rb.symm])⟩, hk.more (by simp [Pl.bs])⟩
/-- the end is read -/
def ReadEnd (p : Pl) (w : World) (e : Ending) (w' : World) : Prop := e = .returned (.tuple #[.int .i32 0, .int .i64 0, .iface 202 (.pointer (some p.pv))]) ∧ Rn p [] w' ∧ Kept p.bs w w'
theorem read_end (p : Pl) (w : World) (he : Env p w) (h : Rn p [] w) :
    Calls Tryd.prog 86 #[.pointer (some ⟨p.R, 0, none⟩)] w (rev.ReadEnd p w) := by
  obtain ⟨r, wv, m, lb, ls, N, h1, h2, h3, h4, h5, h6, h7, h8⟩ := h
  obtain rfl : r = wv := by simpa using h2
  obtain ⟨cs, hc, hG, _⟩ := h4
  obtain ⟨e1, e2, e3, e4⟩ := he.eo
  refine (rune_end p.R p.G p.q p.b r N p.A p.c lb ls p.pv w h1 he.ap h3 (fun w' k => ?_)).mono ?_
  · have hE : Eof w' (.iface 202 (.pointer (some p.pv))) := ⟨(k.cell (p := ⟨0, 0, none⟩) he.eg (by simp)).trans he.eof, _, rfl⟩
    rcases Nat.eq_zero_or_pos r with h0 | h0
    · subst h0
      exact fill_end0 p.R p.G p.q p.b N p.A m p.c lb ls _ cs w' (h1.kept k (by simp)) (h5.kept k (by simp)) h6 h7 (h8.kept k (by simp)) hE (Nat.lt_of_lt_of_le he.eg k.size) e1 e3 he.ap (hG.kept k (by simp)) hc
    · exact fill_endk p.R p.G p.q p.b r h0 h3 N p.A m p.c lb ls _ cs w' (h1.kept k (by simp)) (h5.kept k (by simp)) h6 h7 (h8.kept k (by simp)) hE (Nat.lt_of_lt_of_le he.eg k.size) e1 e3 e4 he.ap (hG.kept k (by simp)) hc
  · rintro e w' ⟨rfl, hr, hl, hb, hrow, hk⟩
    exact ⟨rfl, ⟨0, 0, 0, _, _, N, hr, rfl, by omega, hrow, hl, h6, h7, hb⟩, hk⟩
def Back (p : Pl) (x : UInt8) (t : List UInt8) (w : World) (e : Ending) (w' : World) : Prop := e = .returned .nilIface ∧ Rn p (x :: t) w' ∧ Kept p.bs w w'
theorem read_back (p : Pl) (x : UInt8) (t : List UInt8) (w : World) (he : Env p w) (h : Got p x t w) :
    Calls Tryd.prog 105 #[.pointer (some ⟨p.R, 0, none⟩)] w (Back p x t w) := by
  obtain ⟨r, wv, m, lb, N, h1, h2, h3, h4, h5, h6, h7, h8⟩ := h
  refine (unread_calls p.R p.G p.q r wv lb w h1 (by simp at h2; omega)).mono ?_
  rintro e w' ⟨rfl, hr, hk⟩
  have hA := he.ap
  exact ⟨rfl, ⟨r, wv, m, _, _, N, hr, h2, h3, h4.kept hk (by simp [hA.RG.symm]), h5.kept hk (by simp [hA.Rq.symm]), h6, h7, h8.kept hk (by simp [hA.Rb.symm])⟩, hk.more (by simp [Pl.bs])⟩
end Go.Proofs.YtojimnlnpghbiaaDoor.rev
