/- An argument of type []byte, opened: what it reads as. -/
import Derived.Test.YtdbkafpflicdiaaDoorMem
import Derived.ProofKit
import Derived.ChangeSlices
set_option linter.unusedVariables false
namespace Go.Proofs.YtdbkafpflicdiaaDoor.mem
open Go.RowKit Lib Go.ChangeShapes Go.WideShapes Go.ChangeAt

theorem byte_of_wf {x : Int} (h : (Lit.int .u8 x).wf = true) : 0 ≤ x ∧ x < 256 := by
  have h1 : IntKind.u8.min = 0 := rfl
  have h2 : IntKind.u8.max = 255 := rfl
  simp only [Lit.wf, Bool.and_eq_true, decide_eq_true_eq] at h
  omega
theorem flat_of_cell {w : World} {a : Addr} {v : Value} (h : w.cell? a = some v) : a = ⟨a.block, a.off, none⟩ ∧ a.block < w.heap.size := by
  unfold World.cell? at h
  split at h
  · rename_i c t f hb
    split at h
    · cases h
    · rename_i hs
      refine ⟨?_, ?_⟩
      · cases a with
        | mk b o s => cases s with
          | none => rfl
          | some x => simp at hs
      · rcases Nat.lt_or_ge a.block w.heap.size with h' | h'
        · exact h'
        · simp [Array.getElem?_eq_none h'] at hb
  · cases h
theorem arg_bytes {H : Type} {enc : TypeId × Value → H} {P : Program} {W : World} {t e : TypeId} (ht : P.underlying t = some (.slice e)) (he : P.underlying e = some (.int .u8)) (hc : P.cellsOf e = 1) {A : Option Addr} {n c : Nat} {d : DataW H} {p : List MemPlace}
    (h0 : DataW.Trod enc P W 0 (fun _ => true) true t (.slice A n c) d p) :
    ∃ l, n ≤ c ∧ Bytes W W.heap.size A n l ∧ (n = 0 ∨ ∃ el sp, d = .slice el sp ∧ el.length = n) := by
  obtain ⟨fuel, hf⟩ := h0
  rcases open_ints ht he hc hf with ⟨hcs, hx⟩ | ⟨a, len, cap, zs, hcs, _, hl, hm, hz, hx, hcell, hwz⟩
  · simp [Value.cells] at hcs
    obtain ⟨rfl, rfl, rfl⟩ := hcs
    exact ⟨[], Nat.le_refl _, Bytes.nil_, .inl rfl⟩
  · simp [Value.cells] at hcs
    obtain ⟨rfl, rfl, rfl⟩ := hcs
    simp only [if_true] at hz
    simp only [Prod.mk.injEq] at hx
    refine ⟨(zs.take n).map (fun z => UInt8.ofNat z.toNat), hl, ?_, ?_⟩
    · refine ⟨⟨by simp [Lib.byteCells]; omega, fun hn => ⟨a, rfl, (flat_of_cell (hcell 0 (by omega))).2 |> fun h => by simpa [block_of_add] using h, fun j u hu => ?_⟩⟩, fun hn => ?_⟩
      · have hj : j < n := by
          have := (List.getElem?_eq_some_iff.1 hu).1
          simp [Lib.byteCells] at this; omega
        rw [hcell j (by omega)]
        have hb := byte_of_wf (hwz (zs.getD j 0) (by rw [List.getD_eq_getElem?_getD, List.getElem?_eq_getElem (by omega)]; simp))
        simp only [Lib.byteCells, List.map_map, List.getElem?_map, List.getElem?_take, if_pos hj] at hu
        rw [List.getElem?_eq_getElem (by omega)] at hu
        simp only [Option.map_some, Option.some.injEq, Function.comp] at hu
        rw [← hu]
        rw [List.getD_eq_getElem?_getD, List.getElem?_eq_getElem (by omega)] at hb ⊢
        simp only [Option.getD_some] at hb ⊢
        congr 2
        simp [UInt8.toNat_ofNat']
        omega
      · have h1 := flat_of_cell (hcell 0 (by omega))
        have ea : a.add 0 = a := by unfold Addr.add; simp
        rw [ea] at h1
        exact ⟨_, _, by rw [h1.1]⟩
    · exact .inr ⟨_, _, hx.1, by simp [lits]; omega⟩
end Go.Proofs.YtdbkafpflicdiaaDoor.mem
