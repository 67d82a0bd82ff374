/- What a parser made over a text is, as a state. -/
import Derived.Test.YtojimnlnpghbiaaDoorRevRef
set_option linter.unusedVariables false
namespace Go.Proofs.YtojimnlnpghbiaaDoor.rev
open Go.RowKit Lib frm mem rd

/-- where the parts of a reader lie that was made in a world of n blocks -/
def plOf (n c : Nat) (pv : Addr) : Pl := { R := n + 3, G := n + 4, q := n + 2, b := n + 1, A := some ⟨n, 0, none⟩, c := c, B := n + 1, pv := pv }
theorem plOf_ge {n c : Nat} {pv : Addr} : ∀ x ∈ (plOf n c pv).bs, n < x ∧ x < n + 5 := by
  intro x hx
  simp only [plOf, Pl.bs, List.mem_cons, List.not_mem_nil, or_false] at hx
  omega
theorem plOf_apart (n c : Nat) (pv : Addr) : Apart (plOf n c pv).R (plOf n c pv).G (plOf n c pv).q (plOf n c pv).b := by
  constructor <;> simp [plOf]
/-- the world in which a law begins -/
structure Start (w : World) (pv : Addr) : Prop where
  first : First w
  fg : 7 < w.heap.size
  eof : w.cell? ⟨0, 0, none⟩ = some (.iface 202 (.pointer (some pv)))
  eg : 0 < w.heap.size
  props : Props w
theorem Start.below {w w' : World} {pv : Addr} (h : Start w pv) (hk : Kept [] w w') : Start w' pv :=
  ⟨fun k hk' => (hk.cell (p := ⟨7, k, none⟩) h.fg (by simp)).trans (h.first k hk'), Nat.lt_of_lt_of_le h.fg hk.size, (hk.cell (p := ⟨0, 0, none⟩) h.eg (by simp)).trans h.eof, Nat.lt_of_lt_of_le h.eg hk.size, h.props.kept hk (by simp)⟩
theorem Start.env {w w' : World} {pv : Addr} {c : Nat} (h : Start w pv) (hk : Kept [] w w') : Env (plOf w.heap.size c pv) w' ∧ Props w' ∧ 9 ∉ (plOf w.heap.size c pv).bs := by
  have h2 := h.below hk
  have hf := h.fg
  have he := h.eg
  have hp := h.props.1
  exact ⟨⟨plOf_apart _ _ _, h2.first, h2.fg, fun hm => by have := plOf_ge _ hm; omega, h2.eof, h2.eg, fun hm => by have := plOf_ge _ hm; omega⟩, h2.props, fun hm => by have := plOf_ge _ hm; omega⟩
/-- a parser at the beginning of a text -/
structure Begun (p : Pl) (h S : Nat) (l : List UInt8) (w : World) : Prop where
  env : Env p w
  props : Props w
  pn : 9 ∉ p.bs
  ps : Ps w h S 0 ⟨#[]⟩ false
  sc : Sc w S p.R
  sl : S < w.heap.size
  sn : S ∉ p.bs
  hn : h ∉ p.bs
  hS : h ≠ S
  fr : Fr p l w
theorem begun {s : ByteArray} {w w' : World} {pv : Addr} {e : Ending} (hs : Start w pv) (h0 : 0 < s.size) (h1 : s.size ≤ 4096) (h : Made s w e w') :
    ∃ p hh S, e = .returned (.pointer (some ⟨hh, 0, none⟩)) ∧ Begun p hh S s.data.toList w' ∧ Kept [] w w' ∧ (∀ x ∈ p.bs, w.heap.size < x) ∧ w.heap.size < hh ∧ w.heap.size < S := by
  obtain ⟨c, S, hh, he, hc, hS, hSh, hhl, hps, hsc, hk, hr, hl, hb, hy, cs, hcs, hg⟩ := h
  obtain ⟨e1, e2, e3⟩ := hs.env (c := c) hk
  have hlen : s.data.toList.length = s.size := by simp
  refine ⟨plOf w.heap.size c pv, hh, S, he, ⟨e1, e2, e3, hps, hsc, by omega, fun hm => by have := plOf_ge _ hm; omega, fun hm => by have := plOf_ge _ hm; omega, by omega, ?_⟩, hk, fun x hx => (plOf_ge x hx).1, by omega, by omega⟩
  refine ⟨fun hn => by rw [hn] at hlen; simp at hlen; omega, by omega, by rw [hlen]; exact hc, hr, hl, by rw [hlen]; exact hb, by rw [hlen]; exact hy, Nat.le_refl _, cs, hcs, hg⟩
end Go.Proofs.YtojimnlnpghbiaaDoor.rev
