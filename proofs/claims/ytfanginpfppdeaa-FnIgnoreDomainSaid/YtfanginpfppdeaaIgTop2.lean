/- The row of FnIgnoreDomain walked, out of its arguments. -/
import Derived.Test.YtfanginpfppdeaaIgDomain
set_option linter.unusedVariables false
namespace Go.Proofs.Ytfanginpfppdeaa.glob
open Go.RowKit Lib text strs mem Go.WideShapes Go.ChangeShapes

theorem domain_row {H : Type} {enc : TypeId × Value → H} (W : World)
    (b0 : Nat) (v0 : Value) (d0 : DataW H) (p0 : List MemPlace) (h0 : DataW.Trod enc Try.prog W 0 (fun _ => true) true 22 v0 d0 p0) (k0 : Value.okWide Try.prog W .any b0 22 v0) (z0 : ∀ n ∈ d0.weights Try.prog 22, n ≤ reachBytes)
    (folder : Bool)
    (b1 : Nat) (v1 : Value) (d1 : DataW H) (p1 : List MemPlace) (h1 : DataW.Trod enc Try.prog W 0 (fun _ => true) true 22 v1 d1 p1) (k1 : Value.okWide Try.prog W .any b1 22 v1) (z1 : ∀ n ∈ d1.weights Try.prog 22, n ≤ reachBytes)
    (b2 : Nat) (v2 : Value) (d2 : DataW H) (p2 : List MemPlace) (h2 : DataW.Trod enc Try.prog W 0 (fun _ => true) true 22 v2 d2 p2) (k2 : Value.okWide Try.prog W .any b2 22 v2) (z2 : ∀ n ∈ d2.weights Try.prog 22, n ≤ reachBytes)
    (dir : Bool) (hsh : W.ShapedOpen Try.prog) :
    Calls Try.prog 4 #[v0, .bool folder, v1, v2, .bool dir] W fun e w' => e = .returned (.bool true) ∧ Below W.heap.size W w' := by
  obtain ⟨A, n, c, rfl⟩ := okWide_slice Try.underlying22 k0
  obtain ⟨ps, hnc, _, hp, _⟩ := arg_strs Try.underlying22 Try.underlying9 (by kernel_rfl) h0
  obtain ⟨D, k, kc, rfl⟩ := okWide_slice Try.underlying22 k1
  obtain ⟨dom, hkc, _, hd, _⟩ := arg_strs Try.underlying22 Try.underlying9 (by kernel_rfl) h1
  obtain ⟨B, m, d, rfl⟩ := okWide_slice Try.underlying22 k2
  obtain ⟨path, hmd, _, hq, _⟩ := arg_strs Try.underlying22 Try.underlying9 (by kernel_rfl) h2
  exact domain_law_calls A D B n c k kc m d ps dom path folder dir W hp hd hq hnc hkc hmd
end Go.Proofs.Ytfanginpfppdeaa.glob
