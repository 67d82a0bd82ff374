/- The rows of FnIgnoreBelow and FnIgnoreFront walked, out of their arguments. -/
import Derived.Test.YtfanginpfppdeaaIgLaws
set_option linter.unusedVariables false
namespace Go.Proofs.Ytfanginpfppdeaa.glob
open Go.RowKit Lib text strs mem Go.WideShapes Go.ChangeShapes

theorem below_row {H : Type} {enc : TypeId × Value → H} (W : World) (p : ByteArray) (hp : p.size ≤ 140737488351232)
    (b1 : Nat) (v1 : Value) (d1 : DataW H) (p1 : List MemPlace) (h1 : DataW.Trod enc Try.prog W 0 (fun _ => true) true 22 v1 d1 p1) (k1 : Value.okWide Try.prog W .any b1 22 v1) (z1 : ∀ n ∈ d1.weights Try.prog 22, n ≤ reachBytes)
    (dir : Bool) (hsh : W.ShapedOpen Try.prog) :
    Calls Try.prog 3 #[.string p, v1, .bool dir] W fun e w' => e = .returned (.bool true) ∧ Below W.heap.size W w' := by
  obtain ⟨B, m, d, rfl⟩ := okWide_slice Try.underlying22 k1
  obtain ⟨path, hmd, _, hq, _⟩ := arg_strs Try.underlying22 Try.underlying9 (by kernel_rfl) h1
  exact below_calls p B m d path dir W hp hq hmd
theorem front_row {H : Type} {enc : TypeId × Value → H} (W : World)
    (b0 : Nat) (v0 : Value) (d0 : DataW H) (p0 : List MemPlace) (h0 : DataW.Trod enc Try.prog W 0 (fun _ => true) true 22 v0 d0 p0) (k0 : Value.okWide Try.prog W .any b0 22 v0) (z0 : ∀ n ∈ d0.weights Try.prog 22, n ≤ reachBytes)
    (folder : Bool)
    (b1 : Nat) (v1 : Value) (d1 : DataW H) (p1 : List MemPlace) (h1 : DataW.Trod enc Try.prog W 0 (fun _ => true) true 22 v1 d1 p1) (k1 : Value.okWide Try.prog W .any b1 22 v1) (z1 : ∀ n ∈ d1.weights Try.prog 22, n ≤ reachBytes)
    (dir : Bool) (hsh : W.ShapedOpen Try.prog) :
    Calls Try.prog 5 #[v0, .bool folder, v1, .bool dir] W fun e w' => e = .returned (.bool true) ∧ Below W.heap.size W w' := by
  obtain ⟨A, n, c, rfl⟩ := okWide_slice Try.underlying22 k0
  obtain ⟨ps, hnc, _, hp, _⟩ := arg_strs Try.underlying22 Try.underlying9 (by kernel_rfl) h0
  obtain ⟨B, m, d, rfl⟩ := okWide_slice Try.underlying22 k1
  obtain ⟨path, hmd, _, hq, _⟩ := arg_strs Try.underlying22 Try.underlying9 (by kernel_rfl) h1
  exact front_law_calls A B n c m d ps path folder dir W hp hq hnc hmd
end Go.Proofs.Ytfanginpfppdeaa.glob
