/- The row of FnPktWritten walked, out of its arguments. -/
import Derived.Test.YtojimnlnpghbiaaDoorPktEncode
import Derived.Test.YtojimnlnpghbiaaDoorPktArg
import Derived.Test.YtojimnlnpghbiaaDoorRows
set_option linter.unusedVariables false
namespace Go.Proofs.YtojimnlnpghbiaaDoor.pkt
open Go.RowKit Lib frm mem rd text Go.WideShapes Go.ChangeShapes Go.ChangeAt

set_option maxRecDepth 100000 in
theorem written_row {H : Type} {enc : TypeId × Value → H} (W : World)
    (b0 : Nat) (v0 : Value) (d0 : DataW H) (p0 : List MemPlace) (h0 : DataW.Trod enc Tryd.prog W 0 (fun _ => true) true 25 v0 d0 p0) (k0 : Value.okWide Tryd.prog W .any b0 25 v0) (z0 : ∀ n ∈ d0.weights Tryd.prog 25, n ≤ reachBytes)
    (hL : laidMetH Tryd.prog Rows.fnPktWrittenRow.laid W) (hsh : W.ShapedOpen Tryd.prog) :
    Calls Tryd.prog 4 #[v0] W fun e w' => e = .returned (.bool true) ∧ Below W.heap.size W w' := by
  have hl := laid.plainLaid hL (by kernel_rfl)
  have hl2 := laid.laid_tail (laid.laid_tail hl)
  obtain ⟨pe, pu, hT⟩ := two_of hl2 (laid.laid_tail hl2) (by decide)
  obtain ⟨A, n, c, rfl⟩ := okWide_slice Tryd.underlying25 k0
  obtain ⟨one, _, hA, hn⟩ := arg_rows h0 z0
  exact written_calls A n c one pe pu W hA hn hT
end Go.Proofs.YtojimnlnpghbiaaDoor.pkt
