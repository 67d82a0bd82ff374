/- What the format's words for a size, in groups of seven bits, compute. -/
import Derived.Test.YtfanginpfppdeaaDoorDeltaWorks
set_option linter.unusedVariables false
namespace Go.Proofs.YtfanginpfppdeaaDoor.delta
open Go.RowKit Lib patch mem

/-- a number in groups of seven bits, at most f + 1 of them -/
def enc7 : Nat → Nat → List UInt8
  | 0, n => [UInt8.ofNat n]
  | f + 1, n => if n < 128 then [UInt8.ofNat n] else UInt8.ofNat (n % 128 + 128) :: enc7 f (n / 128)
/-- bytes made anew -/
def Made (w : World) (l : List UInt8) (e : Ending) (w' : World) : Prop :=
  Below w.heap.size w w' ∧ ∃ v, e = .returned v ∧ w'.ownsRow w.heap.size 5 1 v l.length (byteCells l)
structure At7 (w : World) (n : Nat) (wr : World) (nv outv : Value) (k m : Nat) (pre : List UInt8) : Prop where
  num : nv = .int .i64 m
  few : k ≤ 3
  lt : m < 2 ^ (28 - 7 * k)
  len : pre.length = k
  below : Below w.heap.size w wr
  own : wr.ownsRow w.heap.size 5 1 outv k (byteCells pre)
  eq : enc7 3 n = pre ++ enc7 (3 - k) m
theorem At7.top {w wr : World} {n k m : Nat} {nv outv : Value} {pre : List UInt8} (h : At7 w n wr nv outv k m pre) : m < 268435456 :=
  Nat.lt_of_lt_of_le h.lt (by have : (2 : Nat) ^ (28 - 7 * k) ≤ 2 ^ 28 := Nat.pow_le_pow_right (by omega) (by omega); omega)
theorem At7.small {w wr : World} {n k m : Nat} {nv outv : Value} {pre : List UInt8} (h : At7 w n wr nv outv k m pre) (hm : 128 ≤ m) : k < 3 := by
  have h1 := h.few
  have h2 := h.lt
  rcases Nat.lt_or_ge k 3 with h3 | h3
  · exact h3
  · rw [show k = 3 by omega] at h2; omega
theorem new_byte {w : World} {x : Int} {b : Nat} (hx : x = b) (hb : b < 256) : Bytes (w.alloc (.cells #[.int .u8 x] 5)) (w.heap.size + 1) (some ⟨w.heap.size, 0, none⟩) 1 [UInt8.ofNat b] := by
  have h := bytes_lit (w := w) [UInt8.ofNat b] (0, 0)
  have e : (byteCells [UInt8.ofNat b]).toArray = #[.int .u8 x] := by
    subst hx
    simp [Lib.byteCells, UInt8.toNat_ofNat', Nat.mod_eq_of_lt hb]
  rw [e] at h
  exact h
theorem own_alloc {w : World} {B n : Nat} {v : Value} {xs : List Value} (h : w.ownsRow B 5 1 v n xs) (o : Obj) : (w.alloc o).ownsRow B 5 1 v n xs := h.alloc o
theorem byteCells_append (a b : List UInt8) : byteCells (a ++ b) = byteCells a ++ byteCells b := by simp [Lib.byteCells]
set_option maxRecDepth 100000 in
set_option maxHeartbeats 4000000 in
theorem size7_calls (n : Nat) (w : World) (hn : n < 268435456) :
    Calls Tryd.prog 11 #[.int .i64 n] w (Made w (enc7 3 n)) := by
  obtain ⟨i0, hi, hz0, hz1, hz2⟩ := info_parts infoByte
  go_enter Tryd.func11, Tryd.ntmps11
  go_wp2_with fail
  go_loopw [0, 3] (fun nv outv wr => ∃ k m pre, At7 w n wr nv outv k m pre) (fun nv _ _ => (RowKit.intOf nv).toNat)
  case atStart => exact ⟨0, n, [], ⟨rfl, by omega, by simpa using hn, rfl, Below.refl _ _, World.ownsRow_nil _ _ _ _, rfl⟩⟩
  case round =>
    obtain ⟨k, m, pre, hAt⟩ := hrel
    obtain rfl := hAt.num
    have hm := hAt.top
    have hk := hAt.few
    obtain ⟨Ao, co, rfl⟩ := own_shape hAt.own
    have HAt := hid hAt
    clear hAt
    have hba := HAt.out.below.alloc (Nat.le_trans (Nat.le_refl _) HAt.out.below.size) (.cells #[.int .u8 (m : Int)] 5)
    have hsz := alloc_size wr (.cells #[.int .u8 (m : Int)] 5)
    by_cases h128 : m < 128
    · have e1 : (m : Int) < 128 := by omega
      have hnew := new_byte (w := wr) (x := (m : Int)) (b := m) rfl (by omega)
      have hown0 := own_alloc HAt.out.own (.cells #[.int .u8 (m : Int)] 5)
      have heq : Hid (enc7 3 n = pre ++ [UInt8.ofNat m]) := hid (by
        rw [HAt.out.eq]
        congr 1
        generalize 3 - k = f
        cases f with
        | zero => rfl
        | succ f => rw [enc7, if_pos h128])
      go_wp2_with (at_builtin; refine wpList_append_any _ rfl (.tmp 15) (.tmp 18) _ rfl w.heap.size 5 i0 _ 1 1 Tryd.underlying22 hi hz0 hz1 hz2 rfl (by omega) (.slice Ao k co) k (byteCells pre) rfl hown0 (wr.heap.size + 1) (some ⟨wr.heap.size, 0, none⟩) 1 1 (byteCells [UInt8.ofNat m]) rfl hnew.1 (cells_one _) (by simp only [maxLen]; omega) (by omega) hba.size ?_; intro v1 wr1 hown1 hg1 hat1)
      go_ret
      refine ⟨hba.grown hg1 hba.size fun g hg => (hown0.lt g hg).1, v1, rfl, ?_⟩
      rw [heq.out, byteCells_append, List.length_append, HAt.out.len]
      exact hown1
    · have e1 : ¬ (m : Int) < 128 := by omega
      have e2 : (m : Int) % 128 + 128 = ((m % 128 + 128 : Nat) : Int) := by omega
      have hk3 := HAt.out.small (by omega)
      have hba := HAt.out.below.alloc (Nat.le_trans (Nat.le_refl _) HAt.out.below.size) (.cells #[.int .u8 ((m : Int) % 128 + 128)] 5)
      have hsz := alloc_size wr (.cells #[.int .u8 ((m : Int) % 128 + 128)] 5)
      have hnew := new_byte (w := wr) (x := (m : Int) % 128 + 128) (b := m % 128 + 128) e2 (by omega)
      have hown0 := own_alloc HAt.out.own (.cells #[.int .u8 ((m : Int) % 128 + 128)] 5)
      have heq : Hid (enc7 3 n = (pre ++ [UInt8.ofNat (m % 128 + 128)]) ++ enc7 (3 - (k + 1)) (m / 128)) := hid (by
        rw [HAt.out.eq, show 3 - k = (3 - (k + 1)) + 1 by omega, enc7, if_neg h128]
        simp)
      have hlt : Hid (m / 128 < 2 ^ (28 - 7 * (k + 1))) := hid (by
        have h := HAt.out.lt
        have hk' : k = 0 ∨ k = 1 ∨ k = 2 := by omega
        rcases hk' with rfl | rfl | rfl <;> simp at h ⊢ <;> omega)
      clear e2
      go_wp2_with (at_builtin; refine wpList_append_any _ rfl (.tmp 6) (.tmp 11) _ rfl w.heap.size 5 i0 _ 1 1 Tryd.underlying22 hi hz0 hz1 hz2 rfl (by omega) (.slice Ao k co) k (byteCells pre) rfl hown0 (wr.heap.size + 1) (some ⟨wr.heap.size, 0, none⟩) 1 1 (byteCells [UInt8.ofNat (m % 128 + 128)]) rfl hnew.1 (cells_one _) (by simp only [maxLen]; omega) (by omega) hba.size ?_; intro v1 wr1 hown1 hg1 hat1)
      go_roundw
      case rel =>
        refine ⟨k + 1, m / 128, pre ++ [UInt8.ofNat (m % 128 + 128)], ⟨by go_num, by omega, hlt.out, by simp [HAt.out.len], hba.grown hg1 hba.size fun g hg => (hown0.lt g hg).1, ?_, heq.out⟩⟩
        rw [byteCells_append]
        exact hown1
      case measure => simp [RowKit.intOf]; omega
end Go.Proofs.YtfanginpfppdeaaDoor.delta
