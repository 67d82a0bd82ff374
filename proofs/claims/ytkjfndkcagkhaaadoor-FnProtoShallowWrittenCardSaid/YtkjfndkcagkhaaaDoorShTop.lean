/- The row of FnProtoShallowWritten walked. -/
import Derived.Test.YtkjfndkcagkhaaaDoorShLaw
import Derived.Test.YtkjfndkcagkhaaaDoorPktArg
import Derived.Test.YtkjfndkcagkhaaaDoorRows
set_option linter.unusedVariables false
namespace Go.Proofs.YtkjfndkcagkhaaaDoor.shal
open Go.RowKit Lib frm mem rd pkt text hash ack Go.Proofs.YtkjfndkcagkhaaaDoor.enc Go.WideShapes Go.ChangeShapes Go.ChangeAt

set_option maxRecDepth 100000 in
theorem written_row {H : Type} {enc : TypeId × Value → H} (W : World)
    (b0 : Nat) (v0 : Value) (d0 : DataW H) (p0 : List MemPlace) (h0 : DataW.Trod enc Tryd.prog W 0 (fun _ => true) true 22 v0 d0 p0) (k0 : Value.okWide Tryd.prog W .any b0 22 v0) (z0 : ∀ n ∈ d0.weights Tryd.prog 22, n ≤ reachBytes)
    (b1 : Nat) (v1 : Value) (d1 : DataW H) (p1 : List MemPlace) (h1 : DataW.Trod enc Tryd.prog W 0 (fun _ => true) true 22 v1 d1 p1) (k1 : Value.okWide Tryd.prog W .any b1 22 v1) (z1 : ∀ n ∈ d1.weights Tryd.prog 22, n ≤ reachBytes)
    (hL : laidMetH Tryd.prog Rows.fnProtoShallowWrittenRow.laid W) (hsh : W.ShapedOpen Tryd.prog) :
    Calls Tryd.prog 3 #[v0, v1] W fun e w' => e = .returned (.bool true) ∧ Below W.heap.size W w' := by
  have hl := laid.plainLaid hL (by kernel_rfl)
  have h2 := laid.laid_tail (laid.laid_tail hl)
  have h3 := laid.laid_tail h2
  obtain ⟨pe, pu, hT⟩ := two_of h2 h3 (by decide)
  have h6 := laid.laid_tail (laid.laid_tail (laid.laid_tail h3))
  obtain ⟨ph, c1, _, _⟩ := laid.sent (g := 12) (by kernel_rfl) (by kernel_rfl) h6
  obtain ⟨cs1, t1, e1⟩ := id hT.pb
  obtain ⟨cs2, t2, e2⟩ := id hT.pub_
  obtain ⟨A, n, c, rfl⟩ := okWide_slice Tryd.underlying22 k0
  obtain ⟨l1, _, _, hs1, _⟩ := arg_strs Tryd.underlying22 Tryd.underlying9 (by kernel_rfl) h0
  obtain ⟨B, m, d, rfl⟩ := okWide_slice Tryd.underlying22 k1
  obtain ⟨l2, _, _, hs2, _⟩ := arg_strs Tryd.underlying22 Tryd.underlying9 (by kernel_rfl) h1
  exact law_calls A B n m c d l1 l2 W hs1 hs2 pe pu _ ⟨hT, hT.eofg, hT.unxg, World.block_lt_of_cell? _ _ c1, Lib.lt_of_heap e1, Lib.lt_of_heap e2, c1⟩
end Go.Proofs.YtkjfndkcagkhaaaDoor.shal
