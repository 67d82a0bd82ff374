/- Sections of any size out of a row's argument: what their parts' bounds are. -/
import Derived.Test.YtmhcbgmnhcfhfaaDoorChFits
set_option linter.unusedVariables false
namespace Go.Proofs.YtmhcbgmnhcfhfaaDoor.cf
open Go.RowKit Lib mem opn frm strs Go.ChangeShapes Go.WideShapes Go.ChangeAt

section
variable {H : Type} {enc : TypeId × Value → H} {P : Program} {w : World}
theorem open_rowz {α : Type} [Inhabited α] {f : α → List Value} {size : Nat} {t e : TypeId} (ht : P.underlying t = some (.slice e)) (hC : P.cellsOf e = size) (h1 : 0 < size) {by0 : Nat} (hby : P.bytesOf e = by0) (hb : 1 ≤ by0) {fuel : Nat} {v : Value} {x : DataW H × List MemPlace} {ok : α → Prop}
    (hf : DataW.trod enc P w 0 (fun _ => true) true fuel t [v] = some x) (hz : ∀ k ∈ x.1.weights P t, k ≤ reachBytes)
    (hQ : ∀ m cs y, cs.length = size → DataW.trod enc P w 0 (fun _ => true) true m e cs = some y → (∀ k ∈ y.1.weights P e, k ≤ reachBytes) → ∃ x : α, cs = f x ∧ ok x) :
    ∃ A c xs, v = .slice A xs.length c ∧ xs.length ≤ c ∧ Structs f size w w.heap.size A xs.length xs ∧ (∀ x ∈ xs, ok x) ∧ xs.length ≤ 140737488355328 := by
  have hv : ∃ A n c, v = .slice A n c := by
    rcases Deep.open_slice ht hf with ⟨hcs, hx⟩ | ⟨a, len, cap, m, k, D, Pl, hcs, _, hl, hm, hmm, hx, hcell⟩
    · exact ⟨_, _, _, by simpa using hcs⟩
    · exact ⟨_, _, _, by simpa using hcs⟩
  obtain ⟨A, n, c, rfl⟩ := hv
  obtain ⟨xs, h2, h3, h4, h5, h6⟩ := arg_structs (f := f) (ok := ok) ht hC h1 (d := x.1) (p := x.2) ⟨fuel, hf⟩ hz hQ
  have hl : xs.length = n := h5.2.1
  subst hl
  refine ⟨A, c, xs, rfl, h2, h5, fun x hx => (h6 x hx).1, ?_⟩
  rw [hby] at h4
  have h7 : c * 1 ≤ c * by0 := Nat.mul_le_mul (Nat.le_refl _) hb
  simp only [reachBytes] at h4
  omega
end
section
variable {H : Type} {enc : TypeId × Value → H} {w : World}
theorem OptD.ofz {m : Nat} {cs : List Value} {x : DataW H × List MemPlace} (hl : cs.length = 2) (h : DataW.trod enc Tryd.prog w 0 (fun _ => true) true m 108 cs = some x) (hz : ∀ k ∈ x.1.weights Tryd.prog 108, k ≤ reachBytes) :
    ∃ o : OptD, cs = o.cells ∧ LimO 140737488355328 o := by
  obtain ⟨n0, y0, h0, z0⟩ := field_in Tryd.underlying108 h 0 9 0 1 (by kernel_rfl) (by kernel_rfl)
  obtain ⟨n1, y1, h1, z1⟩ := field_in Tryd.underlying108 h 1 9 1 1 (by kernel_rfl) (by kernel_rfl)
  obtain ⟨k, c0, b0⟩ := leaf_string Tryd.underlying9 h0 (fun k hk => hz k (z0 k hk))
  obtain ⟨v, c1, b1⟩ := leaf_string Tryd.underlying9 h1 (fun k hk => hz k (z1 k hk))
  exact ⟨⟨k, v⟩, cells2 hl c0 c1, by show k.size ≤ _; omega, by show v.size ≤ _; omega⟩
theorem OptSl.ofz {n : Nat} {v : Value} {y : DataW H × List MemPlace} (h : DataW.trod enc Tryd.prog w 0 (fun _ => true) true n 31 [v] = some y) (hz : ∀ k ∈ y.1.weights Tryd.prog 31, k ≤ reachBytes) : ∃ os, OptSl w w.heap.size v os ∧ LimOs 140737488355328 os := by
  obtain ⟨A, c, xs, e, _, h1, h2, h3⟩ := open_rowz (f := OptD.cells) (ok := LimO 140737488355328) Tryd.underlying31 (by kernel_rfl) (by omega) (by0 := 32) (by kernel_rfl) (by omega) h hz (fun m cs y hl ht hw => OptD.ofz hl ht hw)
  exact ⟨xs, ⟨A, c, e, h1⟩, h3, h2⟩
theorem SubD.ofz {m : Nat} {cs : List Value} {x : DataW H × List MemPlace} (hl : cs.length = 2) (h : DataW.trod enc Tryd.prog w 0 (fun _ => true) true m 36 cs = some x) (hz : ∀ k ∈ x.1.weights Tryd.prog 36, k ≤ reachBytes) :
    ∃ o : SubD, cs = o.cells ∧ OptSl w w.heap.size o.ov o.opts ∧ LimU 140737488355328 o := by
  obtain ⟨n0, y0, h0, z0⟩ := field_in Tryd.underlying36 h 0 9 0 1 (by kernel_rfl) (by kernel_rfl)
  obtain ⟨n1, y1, h1, z1⟩ := field_in Tryd.underlying36 h 1 31 1 1 (by kernel_rfl) (by kernel_rfl)
  obtain ⟨k, c0, b0⟩ := leaf_string Tryd.underlying9 h0 (fun k hk => hz k (z0 k hk))
  obtain ⟨v, c1, t1⟩ := leaf_any (by omega) h1
  obtain ⟨os, ho, b1⟩ := OptSl.ofz t1 (fun k hk => hz k (z1 k hk))
  exact ⟨⟨k, v, os⟩, cells2 hl c0 c1, ho, by show k.size ≤ _; omega, b1⟩
theorem SubSl.ofz {n : Nat} {v : Value} {y : DataW H × List MemPlace} (h : DataW.trod enc Tryd.prog w 0 (fun _ => true) true n 32 [v] = some y) (hz : ∀ k ∈ y.1.weights Tryd.prog 32, k ≤ reachBytes) : ∃ ss, SubSl w w.heap.size v ss ∧ LimUs 140737488355328 ss := by
  obtain ⟨A, c, xs, e, hc, h1, h2, h3⟩ := open_rowz (f := SubD.cells) (ok := fun s => OptSl w w.heap.size s.ov s.opts ∧ LimU 140737488355328 s) Tryd.underlying32 (by kernel_rfl) (by omega) (by0 := 40) (by kernel_rfl) (by omega) h hz (fun m cs y hl ht hw => SubD.ofz hl ht hw)
  exact ⟨xs, ⟨A, c, e, hc, h1, fun s hs => (h2 s hs).1⟩, h3, fun s hs => (h2 s hs).2⟩
theorem SecD.ofz {m : Nat} {cs : List Value} {x : DataW H × List MemPlace} (hl : cs.length = 3) (h : DataW.trod enc Tryd.prog w 0 (fun _ => true) true m 34 cs = some x) (hz : ∀ k ∈ x.1.weights Tryd.prog 34, k ≤ reachBytes) :
    ∃ o : SecD, cs = o.cells ∧ (OptSl w w.heap.size o.ov o.opts ∧ SubSl w w.heap.size o.sv o.subs) ∧ LimS 140737488355328 o := by
  obtain ⟨n0, y0, h0, z0⟩ := field_in Tryd.underlying34 h 0 9 0 1 (by kernel_rfl) (by kernel_rfl)
  obtain ⟨n1, y1, h1, z1⟩ := field_in Tryd.underlying34 h 1 31 1 1 (by kernel_rfl) (by kernel_rfl)
  obtain ⟨n2, y2, h2, z2⟩ := field_in Tryd.underlying34 h 2 32 2 1 (by kernel_rfl) (by kernel_rfl)
  obtain ⟨k, c0, b0⟩ := leaf_string Tryd.underlying9 h0 (fun k hk => hz k (z0 k hk))
  obtain ⟨v, c1, t1⟩ := leaf_any (by omega) h1
  obtain ⟨u, c2, t2⟩ := leaf_any (by omega) h2
  obtain ⟨os, ho, b1⟩ := OptSl.ofz t1 (fun k hk => hz k (z1 k hk))
  obtain ⟨ss, hs, b2⟩ := SubSl.ofz t2 (fun k hk => hz k (z2 k hk))
  exact ⟨⟨k, v, os, u, ss⟩, cells3 hl c0 c1 c2, ⟨ho, hs⟩, by show k.size ≤ _; omega, b1, b2⟩
theorem SecSl.ofz {n : Nat} {v : Value} {y : DataW H × List MemPlace} (h : DataW.trod enc Tryd.prog w 0 (fun _ => true) true n 28 [v] = some y) (hz : ∀ k ∈ y.1.weights Tryd.prog 28, k ≤ reachBytes) : ∃ ss, SecSl w w.heap.size v ss ∧ LimSs 140737488355328 ss := by
  obtain ⟨A, c, xs, e, hc, h1, h2, h3⟩ := open_rowz (f := SecD.cells) (ok := fun s => (OptSl w w.heap.size s.ov s.opts ∧ SubSl w w.heap.size s.sv s.subs) ∧ LimS 140737488355328 s) Tryd.underlying28 (by kernel_rfl) (by omega) (by0 := 64) (by kernel_rfl) (by omega) h hz (fun m cs y hl ht hw => SecD.ofz hl ht hw)
  exact ⟨xs, ⟨A, c, e, hc, h1, fun s hs => (h2 s hs).1⟩, h3, fun s hs => (h2 s hs).2⟩
end
end Go.Proofs.YtmhcbgmnhcfhfaaDoor.cf
