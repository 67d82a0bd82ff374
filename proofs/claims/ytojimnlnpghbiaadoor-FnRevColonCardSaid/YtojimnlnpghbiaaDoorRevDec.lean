/- A number's digits and what they spell. -/
import Derived.Lib.ItoaNum
import Derived.Lib.AtoiTie
set_option linter.unusedVariables false
namespace Go.Proofs.YtojimnlnpghbiaaDoor.dec
open Lib

theorem digit_byte (d : Nat) (h : d < 10) : (UInt8.ofNat (48 + d)).toNat = 48 + d := by
  have : (48 + d) % 256 = 48 + d := Nat.mod_eq_of_lt (by omega)
  simp
  omega
theorem decFrom_snoc (a : List UInt8) (b : UInt8) (d : Nat) (hd : digitVal b = some d) : ∀ acc n, decFrom acc a = some n → decFrom acc (a ++ [b]) = some (n * 10 + d) := by
  induction a with
  | nil => intro acc n h; simp only [decFrom] at h; injection h with h; subst h; simp [decFrom, hd]
  | cons x t ih =>
    intro acc n h
    simp only [decFrom, List.cons_append] at h ⊢
    cases hx : digitVal x with
    | none => rw [hx] at h; cases h
    | some e => rw [hx] at h; exact ih _ _ h
theorem digit_val (d : Nat) (h : d < 10) : digitVal (UInt8.ofNat (48 + d)) = some d := by
  unfold digitVal
  rw [digit_byte d h, if_pos (by omega)]
  congr 1
  omega
theorem dec_from (n : Nat) : decFrom 0 (decDigits n) = some n := by
  induction n using Nat.strongRecOn with
  | ind n ih =>
    rw [decDigits]
    split
    · rename_i h
      simp only [decFrom, digit_val n h]
      simp
    · rename_i h
      rw [decFrom_snoc _ _ (n % 10) (digit_val _ (by omega)) 0 (n / 10) (ih _ (by omega))]
      congr 1
      omega
theorem dec_ne (n : Nat) : decDigits n ≠ [] := by
  intro h
  have := decDigits_length n
  have h2 := nDigits_pos n
  rw [h] at this
  simp at this
  omega
theorem dec_digit (n : Nat) : ∀ x ∈ decDigits n, 48 ≤ x.toNat ∧ x.toNat ≤ 57 := by
  induction n using Nat.strongRecOn with
  | ind n ih =>
    rw [decDigits]
    split
    · rename_i h
      intro x hx
      simp only [List.mem_cons, List.not_mem_nil, or_false] at hx
      rw [hx, digit_byte n h]
      omega
    · rename_i h
      intro x hx
      rcases List.mem_append.1 hx with hx | hx
      · exact ih _ (by omega) x hx
      · simp only [List.mem_cons, List.not_mem_nil, or_false] at hx
        rw [hx, digit_byte _ (by omega)]
        omega
theorem atoi_dec (n : Nat) : atoi (decDigits n) = some (n : Int) := by
  cases h : decDigits n with
  | nil => exact absurd h (dec_ne n)
  | cons b r =>
    have hb := dec_digit n b (by rw [h]; simp)
    have h45 : (b == 45) = false := by
      rw [beq_eq_false_iff_ne]; rintro rfl; exact absurd hb.1 (by decide)
    have h43 : (b == 43) = false := by
      rw [beq_eq_false_iff_ne]; rintro rfl; exact absurd hb.1 (by decide)
    have hd := dec_from n
    rw [h] at hd
    simp [atoi, h45, h43, decNat, hd]
theorem atoiAll_dec (n : Nat) (h : n < 10 ^ 18) (hl : (decDigits n).length ≤ 18) : atoiAll (decDigits n) = .ok (n : Int) := by
  rw [atoiAll_short _ hl, atoi_dec]
  rfl
end Go.Proofs.YtojimnlnpghbiaaDoor.dec
