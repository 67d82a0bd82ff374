/- The row of FnWhoText walked, out of its argument. -/
import Derived.Test.YtmhcbgmnhcfhfaaDoorWhoLaw
import Derived.Test.YtmhcbgmnhcfhfaaDoorLaid
import Derived.Test.YtmhcbgmnhcfhfaaDoorRows
set_option linter.unusedVariables false
namespace Go.Proofs.YtmhcbgmnhcfhfaaDoor.who
open Go.RowKit Lib text Go.WideShapes Go.ChangeShapes Go.Joins

set_option maxRecDepth 100000 in
theorem who_row {H : Type} {enc : TypeId × Value → H} (W : World) (b0 : Nat) (v0 : Value) (d0 : DataW H) (p0 : List MemPlace) (h0 : DataW.Trod enc Tryd.prog W 0 (fun _ => true) true 23 v0 d0 p0)
    (k0 : Value.okWide Tryd.prog W .any b0 23 v0) (z0 : ∀ n ∈ d0.weights Tryd.prog 23, n ≤ reachBytes)
    (hL : laidMetH Tryd.prog Rows.fnWhoTextRow.laid W) (hsh : W.ShapedOpen Tryd.prog) :
    Calls Tryd.prog 3 #[v0] W fun e w' => e = .returned (.bool true) ∧ Below W.heap.size W w' := by
  have hT : TabIs Tryd.prog W "internal/strconv.uint64pow10" .u64 pow10Tab :=
    tabIs_of_head (zs := pow10Tab) (g := 3) (t := 139) (e := 122) (n := 20) (by kernel_rfl) (by kernel_rfl) (by kernel_rfl) (by kernel_rfl) (by kernel_rfl) (by kernel_rfl) (laid.laid_tail (laid.laid_tail (laid.plainLaid hL (by kernel_rfl))))
  obtain ⟨v0, v1, v2, v3, y0, y1, y2, y3, n, rfl, rfl, rfl, f0, f1, f2, f3⟩ := open_agg4 Tryd.underlying23 (by kernel_rfl) (by kernel_rfl) k0 h0
  obtain ⟨s, e0, rfl, _⟩ := DataW.trod_string Tryd.underlying9 f0
  obtain ⟨m, e1, rfl, _⟩ := DataW.trod_string Tryd.underlying9 f1
  obtain ⟨t, e2, rfl, _⟩ := DataW.trod_int Tryd.underlying2 f2
  obtain ⟨z, e3, rfl, _⟩ := DataW.trod_int Tryd.underlying3 f3
  cases e0; cases e1; cases e2; cases e3
  have hs : s.size ≤ 140737488351232 := by
    have := z0 s.data.toList.length (by simp [DataW.weights, DataW.weightsEach, Tryd.underlying23])
    rw [list_size] at this; exact this
  have hm : m.size ≤ 140737488351232 := by
    have := z0 m.data.toList.length (by simp [DataW.weights, DataW.weightsEach, Tryd.underlying23])
    rw [list_size] at this; exact this
  exact law_calls s m t z W hs hm (fun w' hb => tab_stays (g := 3) (by kernel_rfl) hT hb (Nat.le_refl _))
end Go.Proofs.YtmhcbgmnhcfhfaaDoor.who
