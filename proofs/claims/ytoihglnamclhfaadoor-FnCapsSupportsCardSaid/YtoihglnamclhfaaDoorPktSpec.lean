/- Packet lines, as the spec writes and compares them. -/
import Derived.Test.YtoihglnamclhfaaDoorPktLines
set_option linter.unusedVariables false
attribute [local go_sem ↓] Go.wp_at_zero Go.wp_at_succ
namespace Go.Proofs.YtoihglnamclhfaaDoor.pkt
open Go.RowKit Lib frm mem rd text

/-- a slice of bytes below B -/
def RowB (w : World) (B : Nat) (v : Value) (l : List UInt8) : Prop := ∃ A c, v = .slice A l.length c ∧ l.length ≤ c ∧ Bytes w B A l.length l
/-- a slice of slices of bytes -/
def Rows (w : World) (B : Nat) (A : Option Addr) (n : Nat) (ls : List (List UInt8)) : Prop := ∃ vs, Reads w B 1 A n vs ∧ All2 (RowB w B) vs ls ∧ (0 < n → ∃ g o, A = some ⟨g, o, none⟩)
section
variable {w w' : World} {B B' n : Nat} {A : Option Addr} {ls : List (List UInt8)}
theorem Rows.len (h : Rows w B A n ls) : ls.length = n := by
  obtain ⟨vs, h1, h2, _⟩ := h
  have := h1.1
  have := h2.len
  omega
theorem Rows.next (h : Rows w B A n ls) {k : Nat} (hk : k < n) :
    ∃ g o D c p, A = some ⟨g, o, none⟩ ∧ g < B ∧ w.cell? ⟨g, o + k, none⟩ = some (.slice D p.length c) ∧ ls.drop k = p :: ls.drop (k + 1) ∧ ls[k]? = some p ∧ p.length ≤ c ∧ Bytes w B D p.length p := by
  have hl := h.len
  obtain ⟨vs, h1, h2, h3⟩ := h
  obtain ⟨ad, u, e, hb, hu, hc⟩ := h1.at_ hk
  obtain ⟨g, o, e'⟩ := h3 (by omega)
  have : ad = ⟨g, o, none⟩ := by rw [e] at e'; injection e'
  subst this
  have hp : ls[k]? = some ls[k] := List.getElem?_eq_getElem (by omega)
  obtain ⟨D, c, rfl, hc1, hc2⟩ := h2.at_ hu hp
  rw [Lib.addr_add] at hc
  exact ⟨g, o, D, c, _, e, hb, hc, List.drop_eq_getElem_cons (by omega), hp, hc1, hc2⟩
theorem Rows.below (h : Rows w B A n ls) (hb : Below B w w') : Rows w' B A n ls := by
  obtain ⟨vs, h1, h2, h3⟩ := h
  exact ⟨vs, h1.below hb, h2.mono fun v l ⟨A, c, e, hc, hB⟩ => ⟨A, c, e, hc, hB.below hb⟩, h3⟩
theorem Rows.more (h : Rows w B A n ls) (hB : B ≤ B') : Rows w B' A n ls := by
  obtain ⟨vs, h1, h2, h3⟩ := h
  exact ⟨vs, h1.more hB, h2.mono fun v l ⟨A, c, e, hc, hb⟩ => ⟨A, c, e, hc, hb.more hB⟩, h3⟩
end
def Told (w : World) (F : Bool → Prop) (e : Ending) (w' : World) : Prop := w' = w ∧ ∃ b, e = .returned (.bool b) ∧ F b
def Any (b : Bool) : Prop := True
def AllGood (n : Nat) (ls : List (List UInt8)) (b : Bool) : Prop := b = true → n ≤ 1000 ∧ ∀ p ∈ ls, Good p
theorem take_snoc {α : Type} {l : List α} {k : Nat} {a : α} (h : l[k]? = some a) : l.take (k + 1) = l.take k ++ [a] := by
  obtain ⟨hk, e⟩ := List.getElem?_eq_some_iff.1 h
  rw [List.take_succ_eq_append_getElem hk, e]
end Go.Proofs.YtoihglnamclhfaaDoor.pkt
