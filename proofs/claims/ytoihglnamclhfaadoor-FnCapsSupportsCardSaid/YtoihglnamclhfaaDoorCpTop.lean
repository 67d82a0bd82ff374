/- The row of FnCapsSupports walked, out of its arguments. -/
import Derived.Test.YtoihglnamclhfaaDoorCpLaw
import Derived.Test.YtoihglnamclhfaaDoorPktArg
import Derived.Test.YtoihglnamclhfaaDoorRows
set_option linter.unusedVariables false
namespace Go.Proofs.YtoihglnamclhfaaDoor.cap
open Go.RowKit Lib frm mem opn pkt text Go.WideShapes Go.ChangeShapes Go.ChangeAt

set_option maxRecDepth 100000 in
theorem tab_is : (Rows.laid_bytes_asciiSpace : DataW Unit) = tabData .u8 asciiSpaceTab := by kernel_rfl
set_option maxRecDepth 100000 in
theorem supports_row {H : Type} {enc : TypeId × Value → H} (W : World)
    (b0 : Nat) (v0 : Value) (d0 : DataW H) (p0 : List MemPlace) (h0 : DataW.Trod enc Tryd.prog W 0 (fun _ => true) true 45 v0 d0 p0) (k0 : Value.okWide Tryd.prog W .any b0 45 v0) (z0 : ∀ n ∈ d0.weights Tryd.prog 45, n ≤ reachBytes)
    (nm : ByteArray) (hn : nm.size ≤ 140737488351232)
    (hL : laidMetH Tryd.prog Rows.fnCapsSupportsRow.laid W) (hsh : W.ShapedOpen Tryd.prog) :
    Calls Tryd.prog 6 #[v0, .string nm] W fun e w' => e = .returned (.bool true) ∧ Below W.heap.size W w' := by
  have hl := laid.plainLaid hL (by kernel_rfl)
  have h2 := laid.laid_tail (laid.laid_tail hl)
  have h3 := laid.laid_tail h2
  obtain ⟨pe, pu, hT⟩ := two_of h2 h3 (by decide)
  have h5 := laid.laid_tail (laid.laid_tail h3)
  rw [show (Rows.laid_bytes_asciiSpace : DataW Unit) = tabData .u8 asciiSpaceTab from tab_is] at h5
  have htab : Lib.TabIs Tryd.prog W "bytes.asciiSpace" .u8 asciiSpaceTab :=
    tabIs_of_head (zs := asciiSpaceTab) (g := 3) (t := 171) (e := 5) (n := 256) (by kernel_rfl) (by kernel_rfl) (by kernel_rfl) (by kernel_rfl) (by kernel_rfl) (by kernel_rfl) h5
  have c0 := htab.cell (g := 3) (by kernel_rfl) 0 (by decide)
  obtain ⟨A, n, c, rfl⟩ := okWide_slice Tryd.underlying45 k0
  obtain ⟨m, hm⟩ := h0
  obtain ⟨ss, hs, hb⟩ := CapSl.ofz (y := (d0, p0)) (show DataW.trod enc Tryd.prog W 0 (fun _ => true) true m 45 [.slice A n c] = some (d0, p0) from hm) z0
  exact law_calls _ ss nm W hs hb (by omega) pe pu hT htab (World.block_lt_of_cell? _ _ c0)
end Go.Proofs.YtoihglnamclhfaaDoor.cap
