/- The row of FnProtoAck walked. -/
import Derived.Test.YtkjfndkcagkhaaaDoorAckLaw
import Derived.Test.YtkjfndkcagkhaaaDoorPktArg
import Derived.Test.YtkjfndkcagkhaaaDoorRows
set_option linter.unusedVariables false
namespace Go.Proofs.YtkjfndkcagkhaaaDoor.ack
open Go.RowKit Lib frm mem rd pkt hash Go.WideShapes Go.ChangeShapes Go.ChangeAt

set_option maxRecDepth 100000 in
theorem ack_row (W : World) (a0 : ByteArray) (w0 : a0.size ≤ 140737488351232) (hL : laidMetH Tryd.prog Rows.fnProtoAckRow.laid W) (hsh : W.ShapedOpen Tryd.prog) :
    Calls Tryd.prog 4 #[.string a0] W fun e w' => e = .returned (.bool true) ∧ Below W.heap.size W w' := by
  have hl := laid.plainLaid hL (by kernel_rfl)
  have h2 := laid.laid_tail (laid.laid_tail hl)
  have h3 := laid.laid_tail h2
  obtain ⟨pe, pu, hT⟩ := two_of h2 h3 (by decide)
  have h10 := laid.laid_tail (laid.laid_tail (laid.laid_tail (laid.laid_tail (laid.laid_tail (laid.laid_tail (laid.laid_tail h3))))))
  obtain ⟨ph, c1, _, _⟩ := laid.sent (g := 12) (by kernel_rfl) (by kernel_rfl) h10
  obtain ⟨cs1, t1, e1⟩ := id hT.pb
  obtain ⟨cs2, t2, e2⟩ := id hT.pub_
  exact law_calls a0 W w0 pe pu _ ⟨hT, hT.eofg, hT.unxg, World.block_lt_of_cell? _ _ c1, Lib.lt_of_heap e1, Lib.lt_of_heap e2, c1⟩
end Go.Proofs.YtkjfndkcagkhaaaDoor.ack
