/- FnDeltaAny's row walked: out of its listed variables and its two arguments, at a bounded bulk. -/
import Derived.Test.YtfanginpfppdeaaDoorDeltaAny
import Derived.Test.YtfanginpfppdeaaDoorDeltaLaid
import Derived.Test.YtfanginpfppdeaaDoorBytesArg
set_option linter.unusedVariables false
namespace Go.Proofs.YtfanginpfppdeaaDoor.delta
open Go.RowKit Lib patch mem Go.WideShapes Go.ChangeShapes

theorem five {W : World} (h : W.ShapedOpen Tryd.prog) : 5 ≤ W.heap.size := by
  have hz : (((begin Tryd.prog (fun _ _ => 0) default).world.heap[4]?).bind Obj.row?).isSome = true := by kernel_rfl
  obtain ⟨⟨z, t⟩, hzt⟩ := Option.isSome_iff_exists.1 hz
  obtain ⟨cs, hcs, _⟩ := h.1 4 z t (of_decide_eq_true (by kernel_rfl)) hzt
  rcases Nat.lt_or_ge 4 W.heap.size with h' | h'
  · exact h'
  · simp [Array.getElem?_eq_none h'] at hcs
theorem slice_bulk {H : Type} {el sp : List (DataW H)} (h : Rows.uptoBulk (.slice el sp : DataW H) ≤ 1048576) : el.length ≤ 1048576 := by
  have one : ∀ d : DataW H, 1 ≤ Rows.uptoBulk d := fun d => by
    cases d with
    | lit l => cases l <;> simp [Rows.uptoBulk]
    | nil => simp [Rows.uptoBulk]
    | ptr d => simp [Rows.uptoBulk]
    | slice elems spare => simp [Rows.uptoBulk]
    | agg parts => simp [Rows.uptoBulk]
    | iface t d => simp [Rows.uptoBulk]
    | map entries => simp [Rows.uptoBulk]
    | held h => simp [Rows.uptoBulk]
  have len : ∀ l : List (DataW H), l.length ≤ Rows.uptoBulkAll l := fun l => by
    induction l with
    | nil => simp [Rows.uptoBulkAll]
    | cons x r ih => have := one x; simp only [Rows.uptoBulkAll, List.length_cons]; omega
  have := len el
  simp only [Rows.uptoBulk] at h
  omega
theorem any_row {H : Type} {enc : TypeId × Value → H} (W : World) (b0 : Nat) (v0 : Value) (d0 : DataW H) (p0 : List MemPlace) (h0 : DataW.Trod enc Tryd.prog W 0 (fun _ => true) true 22 v0 d0 p0)
    (k0 : Value.okWide Tryd.prog W .any b0 22 v0) (z0 : ∀ n ∈ d0.weights Tryd.prog 22, n ≤ reachBytes) (u0 : Rows.uptoBulk d0 ≤ 1048576)
    (b1 : Nat) (v1 : Value) (d1 : DataW H) (p1 : List MemPlace) (h1 : DataW.Trod enc Tryd.prog W 0 (fun _ => true) true 22 v1 d1 p1)
    (k1 : Value.okWide Tryd.prog W .any b1 22 v1) (z1 : ∀ n ∈ d1.weights Tryd.prog 22, n ≤ reachBytes) (u1 : Rows.uptoBulk d1 ≤ 1048576)
    (hL : laidMetH Tryd.prog Rows.fnDeltaAnyRow.laid W) (hsh : W.ShapedOpen Tryd.prog) :
    Calls Tryd.prog 3 #[v0, v1] W fun e w' => e = .returned (.bool true) ∧ Below W.heap.size W w' := by
  obtain ⟨q0, q1, q2, hE⟩ := env_of_laid hL (five hsh)
  obtain ⟨A, n, c, rfl⟩ := okWide_slice Tryd.underlying22 k0
  obtain ⟨D, m, d, rfl⟩ := okWide_slice Tryd.underlying22 k1
  obtain ⟨base, hnc, hb, hn⟩ := arg_bytes Tryd.underlying22 Tryd.underlying5 (by kernel_rfl) h0
  obtain ⟨l, hmd, hl, hm⟩ := arg_bytes Tryd.underlying22 Tryd.underlying5 (by kernel_rfl) h1
  have hn' : n ≤ 1048576 := by
    rcases hn with h | ⟨el, sp, rfl, h⟩
    · omega
    · rw [← h]; exact slice_bulk u0
  have hm' : m ≤ 1048576 := by
    rcases hm with h | ⟨el, sp, rfl, h⟩
    · omega
    · rw [← h]; exact slice_bulk u1
  exact any_calls A D n c m d base l _ q0 q1 q2 W hE hb hl hnc hmd hn' hm'
end Go.Proofs.YtfanginpfppdeaaDoor.delta
