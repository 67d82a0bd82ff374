/- A cut of a slice of bytes, its address unsaid. -/
import Derived.Test.YtfanginpfppdeaaDoorMem
import Derived.WalkKit
import Derived.ProofKit
set_option linter.unusedVariables false
namespace Go.Proofs.YtfanginpfppdeaaDoor.mem
open Go.RowKit Lib
theorem infoByte : (Tryd.prog.info? 5).map (fun i => (i.zero, i.size, i.bytes)) = some (some (.int .u8 0), 1, 1) := by kernel_rfl
theorem elemBytes : Tryd.prog.elem 22 = 5 := by kernel_rfl
theorem sizeByte (w : World) : (sizeOf (Tryd.prog.elem 22)).run Tryd.prog w = .ok 1 w := by
  obtain ⟨i0, hi, hz0, hz1, hz2⟩ := info_parts infoByte
  rw [elemBytes]
  simp [sizeOf, typeInfo, hi, hz1]
/-- 's[k:]' -/
theorem slice_from (kk : IntKind) (A : Option Addr) (q c k : Nat) (hk : k ≤ q) : ∃ A', (∀ w B l, Bytes w B A q l → q ≤ c → Bytes w B A' (q - k) (l.drop k)) ∧
    (∀ w, (Instr.sliceAt 22 (.slice A q c) (some (.int kk k)) none none).run Tryd.prog w = .ok (.slice A' (q - k) (c - k)) w) := by
  refine ⟨if c = k then A else A.map (·.add k), fun w B l h hc => h.cutAt hk hc, fun w => ?_⟩
  rw [run_sliceAt_slice (h := Tryd.underlying22), run_slice_l (ht := Tryd.underlying22) (h0 := by omega) (h1 := by omega), sizeByte]
  simp [Result.andThen, sliced, eq_comm]
/-- 's[:k]' -/
theorem slice_front (kk : IntKind) (A : Option Addr) (q c k : Nat) (hk : k ≤ q) (hc : q ≤ c) : ∃ A', (∀ w B l, Bytes w B A q l → Bytes w B A' k (l.take k)) ∧
    (∀ w, (Instr.sliceAt 22 (.slice A q c) none (some (.int kk k)) none).run Tryd.prog w = .ok (.slice A' k c) w) := by
  refine ⟨A, fun w B l h => h.front hk, fun w => ?_⟩
  rw [run_sliceAt_slice (h := Tryd.underlying22), run_slice_h (ht := Tryd.underlying22) (h0 := by omega) (h2 := by omega), sizeByte]
  simp only [Result.andThen, sliced]
  cases A <;> simp [Addr.add]
/-- 's[i:j]' -/
theorem slice_mid (ki kj : IntKind) (A : Option Addr) (q c i j : Nat) (hi : i ≤ j) (hj : j ≤ q) (hc : q ≤ c) : ∃ A', (∀ w B l, Bytes w B A q l → Bytes w B A' (j - i) ((l.drop i).take (j - i))) ∧
    (∀ w, (Instr.sliceAt 22 (.slice A q c) (some (.int ki i)) (some (.int kj j)) none).run Tryd.prog w = .ok (.slice A' (j - i) (c - i)) w) := by
  refine ⟨if c = i then A else A.map (·.add i), fun w B l h => ?_, fun w => ?_⟩
  · have h1 := h.cutAt (k := i) (cap := c) (by omega) hc
    exact h1.front (by omega)
  · rw [run_sliceAt_slice (h := Tryd.underlying22), run_slice_lh (ht := Tryd.underlying22) (h0 := by omega) (h1 := by omega) (h2 := by omega), sizeByte]
    simp [Result.andThen, sliced]
end Go.Proofs.YtfanginpfppdeaaDoor.mem
