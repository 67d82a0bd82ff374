/- The row of FnObjHeld walked, out of its arguments. -/
import Derived.Test.YtdbkafpflicdiaaDoorObLaw
import Derived.Test.YtdbkafpflicdiaaDoorSent
import Derived.Test.YtdbkafpflicdiaaDoorRows
set_option linter.unusedVariables false
namespace Go.Proofs.YtdbkafpflicdiaaDoor.ob
open Go.RowKit Lib frm mem rd brows Go.WideShapes Go.ChangeShapes Go.ChangeAt

set_option maxRecDepth 100000 in
theorem held_row {H : Type} {enc : TypeId × Value → H} (W : World) (k : Int) (hk : (Lit.int .i64 k).wf = true)
    (b1 : Nat) (v1 : Value) (d1 : DataW H) (p1 : List MemPlace) (h1 : DataW.Trod enc Tryd.prog W 0 (fun _ => true) true 22 v1 d1 p1) (k1 : Value.okWide Tryd.prog W .any b1 22 v1) (z1 : ∀ n ∈ d1.weights Tryd.prog 22, n ≤ reachBytes)
    (hL : laidMetH Tryd.prog Rows.fnObjHeldRow.laid W) (hsh : W.ShapedOpen Tryd.prog) :
    Calls Tryd.prog 3 #[.int .i64 k, v1] W fun e w' => e = .returned (.bool true) ∧ Below W.heap.size W w' := by
  have hl2 := laid.laid_tail (laid.laid_tail (laid.plainLaid hL (by kernel_rfl)))
  have hT : TabIs Tryd.prog W "internal/strconv.uint64pow10" .u64 pow10Tab :=
    tabIs_of_head (zs := pow10Tab) (g := 1) (t := 86) (e := 76) (n := 20) (by kernel_rfl) (by kernel_rfl) (by kernel_rfl) (by kernel_rfl) (by kernel_rfl) (by kernel_rfl) hl2
  obtain ⟨pe, e1, e2, e3⟩ := laid.sent (g := 0) (by kernel_rfl) (by kernel_rfl) (laid.laid_tail hl2)
  obtain ⟨A, n, c, rfl⟩ := okWide_slice Tryd.underlying22 k1
  obtain ⟨ls, _, hA, hn⟩ := arg_rows h1 z1
  exact law_calls A n c k ls _ W hA hn ⟨⟨e1, _, rfl⟩, (flat_of_cell e1).2⟩ hT
end Go.Proofs.YtdbkafpflicdiaaDoor.ob
