/- The variables of a delta's reader, out of what the row lists. -/
import Derived.Test.YtfanginpfppdeaaDoorDeltaPd
import Derived.Test.YtfanginpfppdeaaDoorRows
import Derived.Deep.SlicePairs
import Derived.LaidMore
import Derived.Test.YtfanginpfppdeaaDoorErr
set_option linter.unusedVariables false
namespace Go.Proofs.YtfanginpfppdeaaDoor.delta
open Go.RowKit Lib patch mem Go.ChangeShapes Go.WideShapes

theorem int_of_trod {H : Type} {enc : TypeId × Value → H} {P : Program} {W : World} {b : Nat} {sp : Nat → Bool} {hd : Bool} {fuel : Nat} {t : TypeId} {k : IntKind} {v : Value} {x : Int} {p : List MemPlace} (ht : P.underlying t = some (.int k))
    (h : DataW.trod enc P W b sp hd fuel t [v] = some (.lit (.int k x), p)) : v = .int k x := by
  cases fuel with
  | zero => simp [DataW.trod] at h
  | succ n =>
    unfold DataW.trod at h
    rw [ht] at h
    cases v <;> simp_all
theorem pairs_of_laid {n : String} {g : Nat} {rows : List (DataW Unit)} {r : List (String × DataW Unit)} {W : World} (hg : Tryd.prog.globalNamed n = some g) (ht : (Tryd.prog.globals[g]?).map (·.type) = some 66)
    (h : laidMet Tryd.prog ((n, .slice rows []) :: r) W) (hr : 0 < rows.length) :
    ∃ a : Addr, W.cell? ⟨g, 0, none⟩ = some (.slice (some a) rows.length rows.length) ∧ ∀ i x y, rows[i]? = some (.agg [.lit (.int .u8 x), .lit (.int .u64 y)]) → W.cell? (a.add (i * 2)) = some (.int .u8 x) ∧ W.cell? (a.add (i * 2 + 1)) = some (.int .u64 y) := by
  obtain ⟨ps, ⟨g', t', cs, fuel, p, q, hg', ht', hvar, hd, _, _⟩, _⟩ := h
  obtain rfl := Option.some.inj (hg.symm.trans hg')
  obtain rfl := Option.some.inj (ht.symm.trans ht')
  rcases Go.Deep.open_slice_pairs Tryd.underlying66 Tryd.underlying68 (by kernel_rfl) rfl rfl (by kernel_rfl) (by kernel_rfl) hd with ⟨_, hx⟩ | ⟨a, len, cap, m, n, V0, V1, D0, D1, P0, P1, hcs, hb, hl, hm, hmm, hx, hcell⟩
  · cases hx
  · simp only [Prod.mk.injEq, DataW.slice.injEq] at hx
    obtain ⟨⟨hr1, hr2⟩, _⟩ := hx
    have hlen : rows.length = len := by rw [hr1]; simp
    have hm0 : m - len = 0 := by have := congrArg List.length hr2; simpa using this.symm
    have hc := World.var?_cell hg hvar 0
    have hcap : cap = len := by simp at hmm; omega
    subst hcap
    refine ⟨a, ?_, fun i x y hi => ?_⟩
    · rw [hc, hlen, ← Array.getElem?_toList, hcs]; rfl
    · have hil : i < rows.length := (List.getElem?_eq_some_iff.1 hi).1
      obtain ⟨h1, h2, h3, h4⟩ := hcell i (by simp at hmm; omega)
      rw [hr1, List.getElem?_map, List.getElem?_range (by omega)] at hi
      simp only [Option.map_some, Option.some.injEq, DataW.agg.injEq, List.cons.injEq, and_true] at hi
      rw [hi.1] at h3
      rw [hi.2] at h4
      rw [h1, h2, int_of_trod Tryd.underlying5 h3, int_of_trod Tryd.underlying55 h4]
      exact ⟨rfl, rfl⟩
theorem laid_tail {P : Program} {x : String × DataW Unit} {r : List (String × DataW Unit)} {W : World} (h : laidMet P (x :: r) W) : laidMet P r W := by
  obtain ⟨ps, ⟨g', t', cs, fuel, p, q, hg', ht', hvar, hd, hl, hps⟩, hnd, hc⟩ := h
  subst hps
  exact ⟨q, hl, (List.nodup_append.1 hnd).2.1, fun b off hm => hc b off (List.mem_append_right _ hm)⟩
theorem flat_of_cell {w : World} {a : Addr} {v : Value} (h : w.cell? a = some v) : a = ⟨a.block, a.off, none⟩ ∧ a.block < w.heap.size := by
  unfold World.cell? at h
  split at h
  · rename_i c t f hb
    split at h
    · cases h
    · rename_i hs
      refine ⟨?_, ?_⟩
      · cases a with
        | mk b o s => cases s with
          | none => rfl
          | some x => simp at hs
      · rcases Nat.lt_or_ge a.block w.heap.size with h' | h'
        · exact h'
        · simp [Array.getElem?_eq_none h'] at hb
  · cases h
theorem tab_of_laid {n : String} {g o : Nat} {rows : List (DataW Unit)} {r : List (String × DataW Unit)} {W : World} (hg : Tryd.prog.globalNamed n = some g) (ht : (Tryd.prog.globals[g]?).map (·.type) = some 66)
    (h : laidMet Tryd.prog ((n, .slice rows []) :: r) W) (hr : 0 < rows.length)
    (hrow : ∀ k, k < rows.length → rows[k]? = some (.agg [.lit (.int .u8 (2 ^ (o + k) : Nat)), .lit (.int .u64 (8 * k : Nat))])) : TabB W W.heap.size g o rows.length := by
  obtain ⟨a, hc, hcell⟩ := pairs_of_laid hg ht h hr
  have h0 := (hcell 0 _ _ (hrow 0 hr)).1
  have hfl := flat_of_cell h0
  simp only [Nat.zero_mul] at hfl
  have ea : a.add 0 = a := by unfold Addr.add; simp
  rw [ea] at hfl
  refine ⟨a.block, a.off, by rw [← hfl.1]; exact hc, hfl.2, fun k hk => ?_⟩
  have h1 := hcell k _ _ (hrow k hk)
  rw [hfl.1, Lib.addr_add, Lib.addr_add] at h1
  exact h1
theorem env_of_laid {W : World} (h : laidMetH Tryd.prog Rows.fnDeltaAnyRow.laid W) (h5 : 5 ≤ W.heap.size) : ∃ p0 p1 p2, Env W W.heap.size 73 p0 p1 p2 := by
  have h0 := err.plainLaid h (by kernel_rfl)
  have h1 := laid_tail h0
  have h2 := laid_tail h1
  have h3 := laid_tail h2
  have h4 := laid_tail h3
  have h6 := laid_tail h4
  obtain ⟨a0, c0⟩ := err.sentinel (by kernel_rfl) (by kernel_rfl) h1
  obtain ⟨a1, c1⟩ := err.sentinel (by kernel_rfl) (by kernel_rfl) h2
  obtain ⟨a2, c2⟩ := err.sentinel (by kernel_rfl) (by kernel_rfl) h6
  refine ⟨_, _, _, h5, c0, c1, c2, ?_, ?_⟩
  · exact tab_of_laid (by kernel_rfl) (by kernel_rfl) h3 (by decide) (fun k hk => by match k, hk with | 0, _ => rfl | 1, _ => rfl | 2, _ => rfl | 3, _ => rfl)
  · exact tab_of_laid (by kernel_rfl) (by kernel_rfl) h4 (by decide) (fun k hk => by match k, hk with | 0, _ => rfl | 1, _ => rfl | 2, _ => rfl)
end Go.Proofs.YtfanginpfppdeaaDoor.delta
