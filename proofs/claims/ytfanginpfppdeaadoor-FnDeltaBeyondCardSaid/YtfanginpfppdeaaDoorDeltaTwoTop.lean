/- FnDeltaCopy's and FnDeltaBeyond's rows walked: out of their listed variables and their arguments. -/
import Derived.Test.YtfanginpfppdeaaDoorDeltaTwo
import Derived.Test.YtfanginpfppdeaaDoorDeltaAnyTop
set_option linter.unusedVariables false
namespace Go.Proofs.YtfanginpfppdeaaDoor.delta
open Go.RowKit Lib patch mem Go.WideShapes Go.ChangeShapes

theorem copy_row {H : Type} {enc : TypeId × Value → H} (W : World) (b0 : Nat) (v0 : Value) (d0 : DataW H) (p0 : List MemPlace) (h0 : DataW.Trod enc Tryd.prog W 0 (fun _ => true) true 22 v0 d0 p0)
    (k0 : Value.okWide Tryd.prog W .any b0 22 v0) (z0 : ∀ n ∈ d0.weights Tryd.prog 22, n ≤ reachBytes)
    (a1 : Int) (w1 : (Lit.int .i64 a1).wf = true) (a2 : Int) (w2 : (Lit.int .i64 a2).wf = true) (a3 : Int) (w3 : (Lit.int .i64 a3).wf = true)
    (hL : laidMetH Tryd.prog Rows.fnDeltaCopyRow.laid W) (hsh : W.ShapedOpen Tryd.prog) :
    Calls Tryd.prog 5 #[v0, .int .i64 a1, .int .i64 a2, .int .i64 a3] W fun e w' => e = .returned (.bool true) ∧ Below W.heap.size W w' := by
  obtain ⟨q0, q1, q2, hE⟩ := env_of_laid (show laidMetH Tryd.prog Rows.fnDeltaAnyRow.laid W from hL) (five hsh)
  obtain ⟨A, n, c, rfl⟩ := okWide_slice Tryd.underlying22 k0
  obtain ⟨base, hnc, hb, hn⟩ := arg_bytes Tryd.underlying22 Tryd.underlying5 (by kernel_rfl) h0
  exact copy_calls a1 a2 a3 A n c base _ q0 q1 q2 W hE hb hnc
theorem beyond_row {H : Type} {enc : TypeId × Value → H} (W : World) (b0 : Nat) (v0 : Value) (d0 : DataW H) (p0 : List MemPlace) (h0 : DataW.Trod enc Tryd.prog W 0 (fun _ => true) true 22 v0 d0 p0)
    (k0 : Value.okWide Tryd.prog W .any b0 22 v0) (z0 : ∀ n ∈ d0.weights Tryd.prog 22, n ≤ reachBytes)
    (a1 : Int) (w1 : (Lit.int .i64 a1).wf = true) (a2 : Int) (w2 : (Lit.int .i64 a2).wf = true)
    (hL : laidMetH Tryd.prog Rows.fnDeltaBeyondRow.laid W) (hsh : W.ShapedOpen Tryd.prog) :
    Calls Tryd.prog 4 #[v0, .int .i64 a1, .int .i64 a2] W fun e w' => e = .returned (.bool true) ∧ Below W.heap.size W w' := by
  obtain ⟨q0, q1, q2, hE⟩ := env_of_laid (show laidMetH Tryd.prog Rows.fnDeltaAnyRow.laid W from hL) (five hsh)
  obtain ⟨A, n, c, rfl⟩ := okWide_slice Tryd.underlying22 k0
  obtain ⟨base, hnc, hb, hn⟩ := arg_bytes Tryd.underlying22 Tryd.underlying5 (by kernel_rfl) h0
  exact beyond_calls a1 a2 A n c base _ q0 q1 q2 W hE hb hnc
end Go.Proofs.YtfanginpfppdeaaDoor.delta
