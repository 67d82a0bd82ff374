/- The row of FnIdxFind walked, out of its arguments. -/
import Derived.Test.YtnidjkmfnojlaaaDoorIdxLaw
import Derived.Test.YtnidjkmfnojlaaaDoorIdxEnt
import Derived.Test.YtnidjkmfnojlaaaDoorSent
import Derived.Test.YtnidjkmfnojlaaaDoorRows
import Derived.Deep.Slices
set_option linter.unusedVariables false
namespace Go.Proofs.YtnidjkmfnojlaaaDoor.idx
open Go.RowKit Lib frm mem opn hash strs Go.WideShapes Go.ChangeShapes Go.ChangeAt

set_option maxRecDepth 100000 in
theorem find_row {H : Type} {enc : TypeId × Value → H} (W : World)
    (b0 : Nat) (v0 : Value) (d0 : DataW H) (p0 : List MemPlace) (h0 : DataW.Trod enc Tryd.prog W 0 (fun _ => true) true 22 v0 d0 p0) (k0 : Value.okWide Tryd.prog W .any b0 22 v0) (z0 : ∀ n ∈ d0.weights Tryd.prog 22, n ≤ reachBytes)
    (nm : ByteArray) (hnm : nm.size ≤ 140737488351232)
    (hL : laidMetH Tryd.prog Rows.fnIdxFindRow.laid W) (hsh : W.ShapedOpen Tryd.prog) :
    Calls Tryd.prog 3 #[v0, .string nm] W fun e w' => e = .returned (.bool true) ∧ Below W.heap.size W w' := by
  have hl := laid.plainLaid hL (by kernel_rfl)
  obtain ⟨a1, c1, -, -⟩ := laid.sent (g := 7) (by kernel_rfl) (by kernel_rfl) hl
  obtain ⟨a2, c2, -, -⟩ := laid.sent (g := 0) (by kernel_rfl) (by kernel_rfl) (laid.laid_tail hl)
  obtain ⟨A, n, c, rfl⟩ := okWide_slice Tryd.underlying22 k0
  obtain ⟨fs, hnc, _, hb, hF, hok⟩ := arg_structs (f := FileD.cells) (ok := FileD.Ok) Tryd.underlying22 (by kernel_rfl) (by omega) h0 z0 (fun m cs y hl ht hw => FileD.of_trod hl ht hw)
  have hby : Tryd.prog.bytesOf 29 = 104 := by kernel_rfl
  rw [hby] at hb
  have hn : n ≤ 140737488355328 := by simp only [reachBytes] at hb; omega
  exact law_calls (fun b f w hb hp => fileOf_calls b f w hb hp) A n c fs nm W hF (fun f hf => (hok f hf).1) hn hnm _ c1 (World.block_lt_of_cell? _ _ c1) _ _ c2 (World.block_lt_of_cell? _ _ c2)
end Go.Proofs.YtnidjkmfnojlaaaDoor.idx
