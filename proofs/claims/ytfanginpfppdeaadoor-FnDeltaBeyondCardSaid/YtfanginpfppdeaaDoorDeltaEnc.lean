/- A delta of one copy, as the format's words write it, is applied as it says. Plain Lean. -/
import Derived.Test.YtfanginpfppdeaaDoorDeltaStep
set_option linter.unusedVariables false
namespace Go.Proofs.YtfanginpfppdeaaDoor.delta
open Lib patch

theorem toNat_of {b : Nat} (h : b < 256) : (UInt8.ofNat b).toNat = b := by simp [UInt8.toNat_ofNat', Nat.mod_eq_of_lt h]
theorem enc_sum (n i acc : Nat) : acc + n % 128 * 2 ^ (7 * i) + n / 128 * 2 ^ (7 * (i + 1)) = acc + n * 2 ^ (7 * i) := by
  have hp : (2 : Nat) ^ (7 * (i + 1)) = 128 * 2 ^ (7 * i) := by rw [Nat.mul_add, Nat.pow_add, Nat.mul_comm]
  rw [hp, ← Nat.mul_assoc, Nat.add_assoc, ← Nat.add_mul]
  congr 2
  omega
theorem sz7_enc7 : ∀ (f n i acc : Nat) (r : List UInt8), f + i ≤ 3 → n < 2 ^ (7 * (f + 1)) → sz7 (enc7 f n ++ r) i acc = .told (acc + n * 2 ^ (7 * i)) r := by
  intro f
  induction f with
  | zero =>
    intro n i acc r hi hn
    have hn' : n < 128 := by simpa using hn
    rw [enc7, List.singleton_append, sz7, if_neg (by omega), toNat_of (by omega), if_pos hn', Nat.mod_eq_of_lt hn']
  | succ f ih =>
    intro n i acc r hi hn
    rw [enc7]
    by_cases h : n < 128
    · rw [if_pos h, List.singleton_append, sz7, if_neg (by omega), toNat_of (by omega), if_pos h, Nat.mod_eq_of_lt h]
    · have hd : n / 128 < 2 ^ (7 * (f + 1)) := by
        rw [show 7 * (f + 1 + 1) = 7 * (f + 1) + 7 by omega, Nat.pow_add] at hn
        exact Nat.div_lt_of_lt_mul (by omega)
      rw [if_neg h, List.cons_append, sz7, if_neg (by omega), toNat_of (by omega), if_neg (by omega), ih _ _ _ _ (by omega) hd]
      congr 1
      rw [show (n % 128 + 128) % 128 = n % 128 by omega]
      exact enc_sum n i acc
theorem enc7_len : ∀ (f n : Nat), 1 ≤ (enc7 f n).length ∧ (enc7 f n).length ≤ f + 1 := by
  intro f
  induction f with
  | zero => intro n; simp [enc7]
  | succ f ih =>
    intro n
    rw [enc7]
    split
    · simp
    · have := ih (n / 128); simp only [List.length_cons]; omega
/-- the code's bits are the places that are kept -/
theorem code_test (f s : Nat) (wd : Nat → Bool) : (∀ k, k < 7 → (stepCode f s wd 7 0 128).testBit k = kept f s wd k) ∧ 128 ≤ stepCode f s wd 7 0 128 ∧ stepCode f s wd 7 0 128 < 256 := by
  have h : ∀ b0 b1 b2 b3 b4 b5 b6 : Bool, let c0 := 128; let c1 := if b0 then c0 + 2 ^ 0 else c0; let c2 := if b1 then c1 + 2 ^ 1 else c1; let c3 := if b2 then c2 + 2 ^ 2 else c2; let c4 := if b3 then c3 + 2 ^ 3 else c3; let c5 := if b4 then c4 + 2 ^ 4 else c4
      let c6 := if b5 then c5 + 2 ^ 5 else c5; let c7 := if b6 then c6 + 2 ^ 6 else c6
      (c7.testBit 0 = b0 ∧ c7.testBit 1 = b1 ∧ c7.testBit 2 = b2 ∧ c7.testBit 3 = b3 ∧ c7.testBit 4 = b4 ∧ c7.testBit 5 = b5 ∧ c7.testBit 6 = b6) ∧ 128 ≤ c7 ∧ c7 < 256 := by decide +kernel
  obtain ⟨⟨h0, h1, h2, h3, h4, h5, h6⟩, h7, h8⟩ := h (kept f s wd 0) (kept f s wd 1) (kept f s wd 2) (kept f s wd 3) (kept f s wd 4) (kept f s wd 5) (kept f s wd 6)
  refine ⟨fun k hk => ?_, h7, h8⟩
  match k, hk with
  | 0, _ => exact h0
  | 1, _ => exact h1
  | 2, _ => exact h2
  | 3, _ => exact h3
  | 4, _ => exact h4
  | 5, _ => exact h5
  | 6, _ => exact h6
theorem mod_step (f k : Nat) : f % 2 ^ (8 * k) + f / 2 ^ (8 * k) % 256 * 2 ^ (8 * k) = f % 2 ^ (8 * (k + 1)) := by
  rw [show (2 : Nat) ^ (8 * (k + 1)) = 2 ^ (8 * k) * 256 by rw [Nat.mul_add, Nat.pow_add], Nat.mod_mul, Nat.mul_comm (f / 2 ^ (8 * k) % 256)]
theorem rc_rest (f s : Nat) (wd : Nat → Bool) (c : Nat) (hc : ∀ k, k < 7 → c.testBit k = kept f s wd k) :
    ∀ (n k : Nat), n + k = 7 → rc c n k (stepRest f s wd n k) (f % 2 ^ (8 * min k 4)) (s % 2 ^ (8 * (k - 4))) = some (f % 2 ^ 32, s % 2 ^ 24, []) := by
  intro n
  induction n with
  | zero =>
    intro k hk
    obtain rfl : k = 7 := by omega
    rfl
  | succ n ih =>
    intro k hk
    have hb := hc k (by omega)
    have hi := ih (k + 1) (by omega)
    rw [stepRest]
    by_cases h4 : k < 4
    · have e0 : byteOf f s k = f / 2 ^ (8 * k) % 256 := by unfold byteOf; rw [if_pos h4]
      rw [show min (k + 1) 4 = k + 1 by omega, show k + 1 - 4 = 0 by omega, ← mod_step f k] at hi
      rw [show min k 4 = k by omega, show k - 4 = 0 by omega]
      cases hkp : kept f s wd k with
      | true =>
        rw [hkp] at hb
        rw [if_pos rfl, List.singleton_append, rc_from _ _ _ _ _ _ _ hb h4, toNat_of (byteOf_lt _ _ _), e0]
        exact hi
      | false =>
        rw [hkp] at hb
        have hz : byteOf f s k = 0 := by
          unfold kept at hkp
          simp only [Bool.or_eq_false_iff, Bool.not_eq_false', beq_iff_eq] at hkp
          exact hkp.1
        rw [e0] at hz
        rw [hz, Nat.zero_mul, Nat.add_zero] at hi
        rw [if_neg (by decide), List.nil_append, rc_off _ _ _ _ _ _ hb]
        exact hi
    · obtain ⟨q, rfl⟩ : ∃ q, k = q + 4 := ⟨k - 4, by omega⟩
      have e0 : byteOf f s (q + 4) = s / 2 ^ (8 * q) % 256 := by unfold byteOf; rw [if_neg h4, Nat.add_sub_cancel]
      rw [show min (q + 4 + 1) 4 = 4 by omega, show q + 4 + 1 - 4 = q + 1 by omega, ← mod_step s q] at hi
      rw [show min (q + 4) 4 = 4 by omega, show q + 4 - 4 = q by omega]
      cases hkp : kept f s wd (q + 4) with
      | true =>
        rw [hkp] at hb
        rw [if_pos rfl, List.singleton_append, rc_size _ _ _ _ _ _ _ hb h4, toNat_of (byteOf_lt _ _ _), e0, show q + 4 - 4 = q by omega]
        exact hi
      | false =>
        rw [hkp] at hb
        have hz : byteOf f s (q + 4) = 0 := by
          unfold kept at hkp
          simp only [Bool.or_eq_false_iff, Bool.not_eq_false', beq_iff_eq] at hkp
          exact hkp.1
        rw [e0] at hz
        rw [hz, Nat.zero_mul, Nat.add_zero] at hi
        rw [if_neg (by decide), List.nil_append, rc_off _ _ _ _ _ _ hb]
        exact hi
theorem stepRest_len (f s : Nat) (wd : Nat → Bool) : ∀ n k, (stepRest f s wd n k).length ≤ n := by
  intro n
  induction n with
  | zero => intro k; simp [stepRest]
  | succ n ih => intro k; have := ih (k + 1); rw [stepRest]; split <;> simp <;> omega
theorem stepBytes_len (f s : Nat) (wd : Nat → Bool) : 1 ≤ (stepBytes f s wd).length ∧ (stepBytes f s wd).length ≤ 8 := by
  have := stepRest_len f (if s = 65536 then 0 else s) wd 7 0
  unfold stepBytes
  simp only [List.length_cons]
  omega
/-- a delta of one copy -/
def oneCopy (n f s : Nat) (wd : Nat → Bool) : List UInt8 := (enc7 3 n ++ enc7 3 s) ++ stepBytes f s wd
theorem oneCopy_len (n f s : Nat) (wd : Nat → Bool) : 3 ≤ (oneCopy n f s wd).length ∧ (oneCopy n f s wd).length ≤ 16 := by
  have h1 := enc7_len 3 n
  have h2 := enc7_len 3 s
  have h3 := stepBytes_len f s wd
  unfold oneCopy
  simp only [List.length_append]
  omega
theorem patch_one (base : List UInt8) (f s : Nat) (wd : Nat → Bool) (hb : base ≠ []) (hn : base.length < 268435456) (hf : f < 4294967296) (hs : 0 < s) (hs2 : s < 16777216) :
    patch base (oneCopy base.length f s wd) = if base.length < f + s then none else some ((base.drop f).take s) := by
  have hl := oneCopy_len base.length f s wd
  unfold patch
  rw [if_neg (by simp only [not_or]; exact ⟨hb, by omega⟩)]
  have h1 : leb (oneCopy base.length f s wd) 0 0 = some (base.length, enc7 3 s ++ stepBytes f s wd) := by
    refine leb_of_sz7 _ _ _ _ _ (by omega) ?_
    unfold oneCopy
    rw [List.append_assoc, sz7_enc7 3 _ _ _ _ (by omega) (by simpa using hn)]
    simp
  have h2 : leb (enc7 3 s ++ stepBytes f s wd) 0 0 = some (s, stepBytes f s wd) := by
    refine leb_of_sz7 _ _ _ _ _ (by omega) ?_
    rw [sz7_enc7 3 _ _ _ _ (by omega) (by simp; omega)]
    simp
  rw [h1]
  simp only
  rw [if_neg (by simp), h2]
  simp only
  obtain ⟨ht, hc1, hc2⟩ := code_test f (if s = 65536 then 0 else s) wd
  have hrc := rc_rest f (if s = 65536 then 0 else s) wd _ ht 7 0 rfl
  have hcs : copySize ((if s = 65536 then 0 else s) % 2 ^ 24) = s := by
    unfold copySize
    by_cases h : s = 65536
    · rw [if_pos h, h]; rfl
    · rw [if_neg h, Nat.mod_eq_of_lt (by omega), if_neg (by omega)]
  have hfm : f % 2 ^ 32 = f := Nat.mod_eq_of_lt (by omega)
  simp only [Nat.zero_sub, Nat.mul_zero, Nat.pow_zero, Nat.mod_one, Nat.zero_min] at hrc
  unfold stepBytes
  rw [go_cons _ _ _ _ _ _ hs, toNat_of hc2, if_neg (by omega), hrc]
  simp only
  rw [hcs, hfm]
  by_cases hx : base.length < f + s
  · rw [if_pos (.inr hx), if_pos hx]
  · rw [if_neg (by omega), if_neg hx, Nat.sub_self, go_zero]
    simp
end Go.Proofs.YtfanginpfppdeaaDoor.delta
