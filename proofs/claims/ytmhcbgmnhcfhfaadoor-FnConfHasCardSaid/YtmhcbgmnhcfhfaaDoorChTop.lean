/- The row of FnConfHas walked, out of its arguments. -/
import Derived.Test.YtmhcbgmnhcfhfaaDoorChLaw
set_option linter.unusedVariables false
namespace Go.Proofs.YtmhcbgmnhcfhfaaDoor.cf
open Go.RowKit Lib mem opn frm strs Go.WideShapes Go.ChangeShapes Go.ChangeAt

set_option maxRecDepth 100000 in
theorem has_row {H : Type} {enc : TypeId × Value → H} (W : World)
    (b0 : Nat) (v0 : Value) (d0 : DataW H) (p0 : List MemPlace) (h0 : DataW.Trod enc Tryd.prog W 0 (fun _ => true) true 28 v0 d0 p0) (k0 : Value.okWide Tryd.prog W .any b0 28 v0) (z0 : ∀ n ∈ d0.weights Tryd.prog 28, n ≤ reachBytes)
    (t : ByteArray) (ht : t.size ≤ 140737488351232) (u : ByteArray) (hu : u.size ≤ 140737488351232) (key : ByteArray) (hk : key.size ≤ 140737488351232) (val : ByteArray) (hv : val.size ≤ 140737488351232)
    (hL : laidMetH Tryd.prog Rows.fnConfHasRow.laid W) (hsh : W.ShapedOpen Tryd.prog) :
    Calls Tryd.prog 4 #[v0, .string t, .string u, .string key, .string val] W fun e w' => e = .returned (.bool true) ∧ Below W.heap.size W w' := by
  obtain ⟨A, n, c, rfl⟩ := okWide_slice Tryd.underlying28 k0
  obtain ⟨m, hm⟩ := h0
  obtain ⟨ss, hs, hb⟩ := SecSl.ofz (y := (d0, p0)) (show DataW.trod enc Tryd.prog W 0 (fun _ => true) true m 28 [.slice A n c] = some (d0, p0) from hm) z0
  exact law_calls _ ss t u key val W hs hb (by omega) (by omega) (by omega) (by omega)
end Go.Proofs.YtmhcbgmnhcfhfaaDoor.cf
