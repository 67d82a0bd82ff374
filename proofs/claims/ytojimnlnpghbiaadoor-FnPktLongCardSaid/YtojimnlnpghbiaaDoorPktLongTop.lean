/- The row of FnPktLong walked, out of its arguments. -/
import Derived.Test.YtojimnlnpghbiaaDoorPktLongW
import Derived.Test.YtojimnlnpghbiaaDoorPktArg
import Derived.Test.YtojimnlnpghbiaaDoorRows
set_option linter.unusedVariables false
namespace Go.Proofs.YtojimnlnpghbiaaDoor.pkt
open Go.RowKit Lib frm mem rd text Go.WideShapes Go.ChangeShapes Go.ChangeAt

set_option maxRecDepth 100000 in
theorem long_row (W : World) (a0 : Int) (w0 : (Lit.int .u8 a0).wf = true) (a1 : Int) (w1 : (Lit.int .i64 a1).wf = true)
    (hL : laidMetH Tryd.prog Rows.fnPktLongRow.laid W) (hsh : W.ShapedOpen Tryd.prog) :
    Calls Tryd.prog 3 #[.int .u8 a0, .int .i64 a1] W fun e w' => e = .returned (.bool true) ∧ Below W.heap.size W w' := by
  have hl := laid.plainLaid hL (by kernel_rfl)
  have hl2 := laid.laid_tail (laid.laid_tail hl)
  obtain ⟨pe, pu, hT⟩ := two_of hl2 (laid.laid_tail hl2) (by decide)
  obtain ⟨pl, h1, h2, h3⟩ := laid.sent (g := 1) (by kernel_rfl) (by kernel_rfl) (laid.laid_tail (laid.laid_tail (laid.laid_tail (laid.laid_tail hl2))))
  have hb := byte_of_wf w0
  obtain ⟨x, rfl⟩ : ∃ x : UInt8, (x.toNat : Int) = a0 := ⟨UInt8.ofNat a0.toNat, by rw [UInt8.toNat_ofNat']; omega⟩
  exact long_calls x a1 pe pu pl W hT h1 (flat_of_cell h1).2
end Go.Proofs.YtojimnlnpghbiaaDoor.pkt
