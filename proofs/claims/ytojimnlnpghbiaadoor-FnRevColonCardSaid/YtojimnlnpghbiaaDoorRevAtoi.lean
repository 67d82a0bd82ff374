/- strconv.Atoi at a number's digits. -/
import Derived.Test.YtojimnlnpghbiaaDoorRevParts
import Derived.Test.YtojimnlnpghbiaaDoorRevDec
import Derived.Test.YtojimnlnpghbiaaDoorShelf
set_option linter.unusedVariables false
namespace Go.Proofs.YtojimnlnpghbiaaDoor.rev
open Go.RowKit Lib frm mem rd

def decText (n : Nat) : ByteArray := ⟨(decDigits n).toArray⟩
theorem dec_size (n : Nat) (h : n < 1000000) : (decDigits n).length ≤ 6 := by
  rw [decDigits_length]
  have key : ∀ m n, n < 10 ^ (m + 1) → nDigits n ≤ m + 1 := by
    intro m
    induction m with
    | zero => intro n h; rw [nDigits_small (by simpa using h)]; exact Nat.le_refl _
    | succ m ih =>
      intro n h
      by_cases h10 : n < 10
      · rw [nDigits_small h10]; omega
      · rw [nDigits_big h10]
        have h2 : n / 10 < 10 ^ (m + 1) := by
          rw [Nat.pow_succ] at h
          exact Nat.div_lt_of_lt_mul (by omega)
        have := ih _ h2
        omega
  exact key 5 n (by simpa using h)
theorem atoi_at (n : Nat) (h : n < 1000000) : AtoiAt (decText n) n := by
  intro w
  have hl := dec_size n h
  have hd : (decText n).data.toList = decDigits n := by simp [decText]
  have hs : (decText n).size ≤ 18 := by
    have : (decText n).data.toList.length = (decText n).size := by simp
    rw [hd] at this
    omega
  refine (Tryd.strconv_Atoi (decText n) n hs (by rw [hd]; exact dec.atoi_dec n) w).mono ?_
  rintro e w' ⟨rfl, t, rfl⟩
  exact ⟨rfl, .of_below (bytesWorld_below w 5 t)⟩
end Go.Proofs.YtojimnlnpghbiaaDoor.rev
