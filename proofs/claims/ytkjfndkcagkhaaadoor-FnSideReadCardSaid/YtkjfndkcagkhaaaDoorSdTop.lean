/- The row of FnSideRead walked, out of its arguments. -/
import Derived.Test.YtkjfndkcagkhaaaDoorSdLaw
import Derived.Test.YtkjfndkcagkhaaaDoorPktArg
set_option linter.unusedVariables false
namespace Go.Proofs.YtkjfndkcagkhaaaDoor.side
open Go.RowKit Lib frm mem text pkt rd opn Go.WideShapes Go.ChangeShapes Go.ChangeAt

theorem cells2 {cs : List Value} {a b : Value} (hl : cs.length = 2) (h0 : cs[0]? = some a) (h1 : cs[1]? = some b) : cs = [a, b] := by
  match cs, hl with
  | [x, y], _ => simp at h0 h1; rw [h0, h1]
theorem ChD.ofz {H : Type} {enc : TypeId × Value → H} {w : World} {m : Nat} {cs : List Value} {x : DataW H × List MemPlace} (hl : cs.length = 2) (h : DataW.trod enc Tryd.prog w 0 (fun _ => true) true m 73 cs = some x) (hz : ∀ k ∈ x.1.weights Tryd.prog 73, k ≤ reachBytes) :
    ∃ o : ChD, cs = o.cells ∧ (∃ A c, o.tv = .slice A o.t.length c ∧ o.t.length ≤ c ∧ Bytes w w.heap.size A o.t.length o.t) ∧ o.t.length ≤ 140737488355328 := by
  obtain ⟨n0, y0, h0, z0⟩ := field_in Tryd.underlying73 h 0 3 0 1 (by kernel_rfl) (by kernel_rfl)
  obtain ⟨n1, y1, h1, z1⟩ := field_in Tryd.underlying73 h 1 25 1 1 (by kernel_rfl) (by kernel_rfl)
  obtain ⟨ch, g0, w0⟩ := leaf_int Tryd.underlying3 h0
  obtain ⟨v, g1, t1⟩ := leaf_any (by omega) h1
  have hv : ∃ A' n' c', v = .slice A' n' c' := by
    rcases Deep.open_slice1 Tryd.underlying25 (by kernel_rfl) t1 with ⟨hcs', _⟩ | ⟨a', len', cap', m', k', V', D', Pl', hcs', _⟩
    · simp at hcs'; exact ⟨_, _, _, hcs'⟩
    · simp at hcs'; exact ⟨_, _, _, hcs'⟩
  obtain ⟨A', n', c', rfl⟩ := hv
  obtain ⟨l, hnc, hb, hd⟩ := arg_bytes Tryd.underlying25 Tryd.underlying5 (by kernel_rfl) (⟨n1, by simpa [Value.cells] using t1⟩ : DataW.Trod enc Tryd.prog w 0 (fun _ => true) true 25 (.slice A' n' c') y1.1 y1.2)
  have hll := hb.len
  subst hll
  refine ⟨⟨ch, .slice A' l.length c', l⟩, cells2 hl g0 g1, ⟨A', c', rfl, hnc, hb⟩, ?_⟩
  show l.length ≤ _
  rcases hd with hd | ⟨el, sp, hd, hel⟩
  · omega
  · have := hz ((el.length + sp.length) * Tryd.prog.bytesOf 5) (z1 _ (by rw [hd]; unfold DataW.weights; rw [Tryd.underlying25]; exact List.mem_cons_self ..))
    rw [show Tryd.prog.bytesOf 5 = 1 by kernel_rfl] at this
    simp only [reachBytes] at this
    omega
set_option maxRecDepth 100000 in
theorem side_row {H : Type} {enc : TypeId × Value → H} (W : World) (a0 : Bool)
    (b1 : Nat) (v1 : Value) (d1 : DataW H) (p1 : List MemPlace) (h1 : DataW.Trod enc Tryd.prog W 0 (fun _ => true) true 35 v1 d1 p1) (k1 : Value.okWide Tryd.prog W .any b1 35 v1) (z1 : ∀ n ∈ d1.weights Tryd.prog 35, n ≤ reachBytes)
    (a2 : Int) (w2 : (Lit.int .i64 a2).wf = true)
    (hL : laidMetH Tryd.prog Rows.fnSideReadRow.laid W) (hsh : W.ShapedOpen Tryd.prog) :
    Calls Tryd.prog 5 #[.bool a0, v1, .int .i64 a2] W fun e w' => e = .returned (.bool true) ∧ Below W.heap.size W w' := by
  have hl := laid.plainLaid hL (by kernel_rfl)
  have hl2 := laid.laid_tail (laid.laid_tail hl)
  obtain ⟨pe, pu, hT⟩ := two_of hl2 (laid.laid_tail hl2) (by decide)
  obtain ⟨A, n, c, rfl⟩ := okWide_slice Tryd.underlying35 k1
  obtain ⟨xs, hnc, _, hb, hF, hok⟩ := arg_structs (f := ChD.cells) (ok := fun o => (∃ A c, o.tv = .slice A o.t.length c ∧ o.t.length ≤ c ∧ Bytes W W.heap.size A o.t.length o.t) ∧ o.t.length ≤ 140737488355328) Tryd.underlying35 (by kernel_rfl) (by omega) h1 z1 (fun m cs y hl ht hw => ChD.ofz hl ht hw)
  rw [show Tryd.prog.bytesOf 73 = 32 by kernel_rfl] at hb
  have hn : n ≤ 140737488355328 := by simp only [reachBytes] at hb; omega
  exact law_calls a0 A n c xs a2 W ⟨hF, fun x hx => (hok x hx).1.1⟩ hn (fun x hx => (hok x hx).1.2) pe pu hT
end Go.Proofs.YtkjfndkcagkhaaaDoor.side
