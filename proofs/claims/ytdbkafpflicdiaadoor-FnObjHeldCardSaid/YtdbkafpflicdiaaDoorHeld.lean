/- Regions that draw: the class of worlds that is held may be narrowed on the way. -/
import Derived.OrdersHeld
import Derived.Deep.RegionHeld
import Derived.Deep.MidRow
import Derived.BigRegion
set_option linter.unusedVariables false
namespace Go.Proofs.YtdbkafpflicdiaaDoor.held
open Go

variable {P : Program} {md : Region.Mode} {ops : Array Oper} {Q : Exit → Act → World → Prop} {S S' : World → Prop}
/-- a narrower class serves -/
theorem mono (hS : ∀ w, S' w → S w) : ∀ (fuel : Nat) (listed : Array Bool) (a : Act) (w : World), wpAnyH P md ops Q S' fuel listed a w → wpAnyH P md ops Q S fuel listed a w
  | 0, _, _, _, h => h
  | fuel + 1, listed, a, w, h => ⟨h.1, fun i hi => wpOp_mono (fun a' w' h' => ⟨hS _ h'.1, mono hS fuel _ a' w' h'.2⟩) (h.2 i hi)⟩
/-- the class is narrowed -/
theorem narrow (S' : World → Prop) (hS : ∀ w, S' w → S w) {fuel : Nat} {listed : Array Bool} {a : Act} {w : World} (h : wpAnyH P md ops Q S' fuel listed a w) : wpAnyH P md ops Q S fuel listed a w := mono hS fuel listed a w h
/-- one alone may come up -/
theorem forced (i : Nat) {o : Oper} {fuel : Nat} {listed : Array Bool} {a : Act} {w : World} (hr : Region.ready md ops listed = [i]) (ho : ops[i]? = some o) (hg : o.guard = none)
    (h : ∀ K : Act → World → Prop, (∀ a' w', S w' → wpAnyH P md ops Q S fuel (listed.setIfInBounds i true) a' w' → K a' w') → o.wp P a w K Q) : wpAnyH P md ops Q S (fuel + 1) listed a w := by
  refine wpAnyH_all hr (by simp) fun j hj => ?_
  simp only [List.mem_singleton] at hj
  subst hj
  unfold wpOp
  simp only [ho]
  rw [if_pos (by simp [Region.wanted, hg])]
  exact .inl (h _ fun a' w' h1 h2 => ⟨h1, h2⟩)
/-- one of two may come up -/
theorem either (i j : Nat) {oi oj : Oper} {fuel : Nat} {listed : Array Bool} {a : Act} {w : World} (hr : Region.ready md ops listed = [i, j]) (hi : ops[i]? = some oi) (hgi : oi.guard = none) (hj : ops[j]? = some oj) (hgj : oj.guard = none)
    (h1 : ∀ K : Act → World → Prop, (∀ a' w', S w' → wpAnyH P md ops Q S fuel (listed.setIfInBounds i true) a' w' → K a' w') → oi.wp P a w K Q)
    (h2 : ∀ K : Act → World → Prop, (∀ a' w', S w' → wpAnyH P md ops Q S fuel (listed.setIfInBounds j true) a' w' → K a' w') → oj.wp P a w K Q) : wpAnyH P md ops Q S (fuel + 1) listed a w := by
  refine wpAnyH_all hr (by simp) fun k hk => ?_
  simp only [List.mem_cons, List.not_mem_nil, or_false] at hk
  rcases hk with rfl | rfl
  · unfold wpOp
    simp only [hi]
    rw [if_pos (by simp [Region.wanted, hgi])]
    exact .inl (h1 _ fun a' w' h1 h2 => ⟨h1, h2⟩)
  · unfold wpOp
    simp only [hj]
    rw [if_pos (by simp [Region.wanted, hgj])]
    exact .inl (h2 _ fun a' w' h1 h2 => ⟨h1, h2⟩)
/-- one is taken first -/
theorem take (i : Nat) {oi : Oper} (v : Value) {fuel : Nat} {listed : Array Bool} {a : Act} {w : World} (hi : ops[i]? = some oi) (hs : (Region.noSelect ops && Region.free md ops listed i && (Region.ready md ops listed).contains i) = true)
    (hQ : ∀ c a w, Q (.panic c) (a.put oi.dst v) w → Q (.panic c) a w) (hy : YieldsIf P ops S oi v a) (hS : S w)
    (h : wpAnyH P md ops Q S fuel (listed.setIfInBounds i true) (a.put oi.dst v) w) : wpAnyH P md ops Q S (fuel + 1) listed a w := by
  simp only [Bool.and_eq_true] at hs
  exact wpAnyH_take hi hs.1.1 hs.1.2 hs.2 hQ hy hS h
end Go.Proofs.YtdbkafpflicdiaaDoor.held
