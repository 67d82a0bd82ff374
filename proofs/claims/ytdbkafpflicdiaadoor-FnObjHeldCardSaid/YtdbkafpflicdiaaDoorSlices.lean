/- A cut of a slice of bytes, its address unsaid. -/
import Derived.Test.YtdbkafpflicdiaaDoorMem
import Derived.WalkKit
import Derived.ProofKit
import Derived.Laws.IdiomStrings
import Derived.Laws.BytesArg
set_option linter.unusedVariables false
set_option maxRecDepth 100000
namespace Go.Proofs.YtdbkafpflicdiaaDoor.mem
open Go.RowKit Lib
theorem infoByte : (Tryd.prog.info? 5).map (fun i => (i.zero, i.size, i.bytes)) = some (some (.int .u8 0), 1, 1) := by kernel_rfl
theorem elemBytes : Tryd.prog.elem 26 = 5 := by kernel_rfl
theorem sizeByte (w : World) : (sizeOf (Tryd.prog.elem 26)).run Tryd.prog w = .ok 1 w := by
  obtain ⟨i0, hi, hz0, hz1, hz2⟩ := info_parts infoByte
  rw [elemBytes]
  simp [sizeOf, typeInfo, hi, hz1]
/-- 's[k:]' -/
theorem slice_from (kk : IntKind) (A : Option Addr) (q c k : Nat) (hk : k ≤ q) : ∃ A', (∀ w B l, Bytes w B A q l → q ≤ c → Bytes w B A' (q - k) (l.drop k)) ∧
    (∀ w, (Instr.sliceAt 26 (.slice A q c) (some (.int kk k)) none none).run Tryd.prog w = .ok (.slice A' (q - k) (c - k)) w) := by
  refine ⟨if c = k then A else A.map (·.add k), fun w B l h hc => h.cutAt hk hc, fun w => ?_⟩
  rw [run_sliceAt_slice (h := Tryd.underlying26), run_slice_l (ht := Tryd.underlying26) (h0 := by omega) (h1 := by omega), sizeByte]
  simp [Result.andThen, sliced]
/-- 's[0:]' -/
theorem slice_zero (kk : IntKind) (A : Option Addr) (q c : Nat) (w : World) : (Instr.sliceAt 26 (.slice A q c) (some (.int kk 0)) none none).run Tryd.prog w = .ok (.slice A q c) w := by
  rw [run_sliceAt_slice (h := Tryd.underlying26), run_slice_l (ht := Tryd.underlying26) (h0 := by omega) (h1 := by omega), sizeByte]
  cases A <;> simp [Result.andThen, sliced, Addr.add]
/-- 's[:k]' -/
theorem slice_front (kk : IntKind) (A : Option Addr) (q c k : Nat) (hk : k ≤ q) (hc : q ≤ c) : ∃ A', (∀ w B l, Bytes w B A q l → Bytes w B A' k (l.take k)) ∧
    (∀ w, (Instr.sliceAt 26 (.slice A q c) none (some (.int kk k)) none).run Tryd.prog w = .ok (.slice A' k c) w) := by
  refine ⟨A, fun w B l h => h.front hk, fun w => ?_⟩
  rw [run_sliceAt_slice (h := Tryd.underlying26), run_slice_h (ht := Tryd.underlying26) (h0 := by omega) (h2 := by omega), sizeByte]
  simp only [Result.andThen, sliced]
  cases A <;> simp [Addr.add]
/-- 's[i:j]' -/
theorem slice_mid (ki kj : IntKind) (A : Option Addr) (q c i j : Nat) (hi : i ≤ j) (hj : j ≤ q) (hc : q ≤ c) : ∃ A', (∀ w B l, Bytes w B A q l → Bytes w B A' (j - i) ((l.drop i).take (j - i))) ∧
    (∀ w, (Instr.sliceAt 26 (.slice A q c) (some (.int ki i)) (some (.int kj j)) none).run Tryd.prog w = .ok (.slice A' (j - i) (c - i)) w) := by
  refine ⟨if c = i then A else A.map (·.add i), fun w B l h => ?_, fun w => ?_⟩
  · have h1 := h.cutAt (k := i) (cap := c) (by omega) hc
    exact h1.front (by omega)
  · rw [run_sliceAt_slice (h := Tryd.underlying26), run_slice_lh (ht := Tryd.underlying26) (h0 := by omega) (h1 := by omega) (h2 := by omega), sizeByte]
    simp [Result.andThen, sliced]
/-- 's[:k]', up to the capacity -/
theorem slice_to (kk : IntKind) (A : Option Addr) (q c k : Nat) (hk : k ≤ c) (w : World) : (Instr.sliceAt 26 (.slice A q c) none (some (.int kk k)) none).run Tryd.prog w = .ok (.slice A k c) w := by
  rw [run_sliceAt_slice (h := Tryd.underlying26), run_slice_h (ht := Tryd.underlying26) (h0 := by omega) (h2 := by omega), sizeByte]
  cases A <;> simp [Result.andThen, sliced, Addr.add]
/-- 'string(b)' -/
theorem text_of_bytes {w : World} {B : Nat} {A : Option Addr} {n c : Nat} {l : List UInt8} (h : Bytes w B A n l) : (convert 26 9 (.slice A n c)).run Tryd.prog w = .ok (.string ⟨l.toArray⟩) w := by
  have hl := h.len
  rcases Nat.eq_zero_or_pos n with h0 | h0
  · have hl0 : l = [] := List.eq_nil_of_length_eq_zero (by omega)
    subst hl0 h0
    cases A with
    | none => exact run_convert_bytes_nil w 26 5 Tryd.underlying26 Tryd.underlying5 0 c 9 Tryd.underlying9
    | some a => exact run_convert_bytes_back w 26 9 5 a c [] Tryd.underlying26 Tryd.underlying5 Tryd.underlying9 (fun j hj => absurd hj (by simp))
  · obtain ⟨ad, rfl, _, hc⟩ := h.1.2 h0
    subst hl
    exact run_convert_bytes_back w 26 9 5 ad c l Tryd.underlying26 Tryd.underlying5 Tryd.underlying9 (fun j hj => hc j _ (by simp [byteCells, hj]))
end Go.Proofs.YtdbkafpflicdiaaDoor.mem
