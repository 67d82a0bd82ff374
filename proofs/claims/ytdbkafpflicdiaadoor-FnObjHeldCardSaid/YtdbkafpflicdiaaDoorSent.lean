/- Listed sentinel errors: their cells, and the blocks they lead to. -/
import Derived.Test.YtdbkafpflicdiaaDoorLaid
import Derived.Stop.LaidErr
import Derived.LaidLaws
set_option linter.unusedVariables false
namespace Go.Proofs.YtdbkafpflicdiaaDoor.laid
open Go.ChangeShapes Go.WideShapes Go.RowKit

theorem errName (u : TypeId) (h : Tryd.prog.typeName? 3 u = some "*errors.errorString") : u = 93 :=
  typeName_ptr_named (nm := "errors.errorString") (by rw [show "*" ++ "errors.errorString" = "*errors.errorString" from by decide]; kernel_rfl) (by kernel_rfl) (by decide) u (by rw [show "*" ++ "errors.errorString" = "*errors.errorString" from by decide]; exact h)
set_option maxRecDepth 100000 in
theorem sent {n : String} {g : Nat} {text : List UInt8} {r : List (String × DataW Unit)} {W : World} (hg : Tryd.prog.globalNamed n = some g) (ht : (Tryd.prog.globals[g]?).map (·.type) = some 42)
    (h : laidMet Tryd.prog ((n, .iface "*errors.errorString" (.ptr (.agg [.lit (.string text)]))) :: r) W) :
    ∃ a : Addr, W.cell? ⟨g, 0, none⟩ = some (.iface 93 (.pointer (some a))) ∧ (∃ cs t, W.heap[a.block]? = some (.cells cs t (0, 0))) ∧ ∃ s : ByteArray, W.cell? a = some (.string s) ∧ s.data.toList = text := by
  obtain ⟨ps, ⟨g0, t0, cs0, f0, p0, q0, hg0, ht0, hv0, hd0, _, e0⟩, _, hrows⟩ := h
  obtain rfl := Option.some.inj (hg.symm.trans hg0)
  obtain rfl := Option.some.inj (ht.symm.trans ht0)
  subst e0
  obtain ⟨l0⟩ := cs0
  have ok0 : ∀ u v, l0 = [.iface u v] → Value.okWide Tryd.prog W .any 0 u v := fun u v e => by
    subst e
    exact (hrows g 0 (by simp [MemPlace.row])).2 u v (by simpa using World.var?_cell hg0 hv0 0)
  obtain ⟨a, s, rfl, hc, hs, _, hp⟩ := errorString_of_trod Tryd.underlying42 errName Tryd.underlying93 Tryd.underlying123 rfl rfl Tryd.underlying9 (by kernel_rfl) (by kernel_rfl) hd0 ok0
  subst hp
  refine ⟨a, by simpa using World.var?_cell hg0 hv0 0, (hrows a.block a.off (by simp [MemPlace.row])).1, s, hc, hs⟩
theorem sent_ne {W : World} {a b : Addr} {s t : List UInt8} (h : ∃ x : ByteArray, W.cell? a = some (.string x) ∧ x.data.toList = s) (h' : ∃ x : ByteArray, W.cell? b = some (.string x) ∧ x.data.toList = t) (hne : s ≠ t) : a ≠ b := by
  rintro rfl
  obtain ⟨x, h1, h2⟩ := h
  obtain ⟨y, h3, h4⟩ := h'
  rw [h1] at h3
  injection h3 with h3
  injection h3 with h3
  subst h3
  exact hne (h2.symm.trans h4)
end Go.Proofs.YtdbkafpflicdiaaDoor.laid
