/- The small tests of a delta's reader. -/
import Derived.Test.YtfanginpfppdeaaDoorPatch
import Derived.WalkKit
import Derived.Lib.Hide
import Derived.ProofKit
import Derived.WalkSmall
import Derived.RowKitTokens
import Derived.Laws.BitsAllLaws
import Derived.Laws.BitsLemmas
set_option linter.unusedVariables false
namespace Go.Proofs.YtfanginpfppdeaaDoor.delta
open Go.RowKit Lib patch

theorem top_bit (b : Nat) (h : b < 256) : bits .and .u8 (b : Int) 128 = if b < 128 then 0 else 128 := by
  rw [show (128 : Int) = ((128 : Nat) : Int) from rfl, u8_and_nat _ _ h (by omega), show (128 : Nat) = 2 ^ 7 from rfl, nat_bit]
  split
  · rename_i h1; rw [show b / 2 ^ 7 = 0 from by omega]; rfl
  · rename_i h1; rw [show b / 2 ^ 7 = 1 from by omega]
theorem isSrc_calls (b : Nat) (w : World) (h : b < 256) :
    Calls Tryd.prog 23 #[.int .u8 b] w fun e w' => e = .returned (.bool (decide (128 ≤ b))) ∧ w' = w := by
  have ht := top_bit b h
  by_cases hb : b < 128
  · have e : decide (128 ≤ b) = false := by simp; omega
    rw [if_pos hb] at ht
    rw [e]
    go_enter Tryd.func23, Tryd.ntmps23
    go_wp2_with fail
    go_ret
    exact ⟨rfl, rfl⟩
  · have e : decide (128 ≤ b) = true := by simp; omega
    rw [if_neg hb] at ht
    rw [e]
    go_enter Tryd.func23, Tryd.ntmps23
    go_wp2_with fail
    go_ret
    exact ⟨rfl, rfl⟩
theorem isDelta_calls (b : Nat) (w : World) (h : b < 128) :
    Calls Tryd.prog 29 #[.int .u8 b] w fun e w' => e = .returned (.bool (!decide (b = 0))) ∧ w' = w := by
  have ht := top_bit b (by omega)
  rw [if_pos h] at ht
  by_cases hb : b = 0
  · subst hb
    go_enter Tryd.func29, Tryd.ntmps29
    go_wp2_with fail
    go_ret
    exact ⟨rfl, rfl⟩
  · have e : (!decide (b = 0)) = true := by simpa using hb
    have e2 : ((b : Int) == 0) = false := by simpa using hb
    rw [e]
    go_enter Tryd.func29, Tryd.ntmps29
    go_wp2_with fail
    go_ret
    exact ⟨by simp [bne, e2], rfl⟩
theorem invalidSize_calls (a b : Nat) (w : World) :
    Calls Tryd.prog 26 #[.int .u64 a, .int .u64 b] w fun e w' => e = .returned (.bool (decide (b < a))) ∧ w' = w := by
  go_enter Tryd.func26, Tryd.ntmps26
  go_wp2_with fail
  go_ret
  exact ⟨by simp, rfl⟩
theorem sumOverflows_calls (a b : Nat) (w : World) (h : a + b < 18446744073709551616) :
    Calls Tryd.prog 31 #[.int .u64 a, .int .u64 b] w fun e w' => e = .returned (.bool false) ∧ w' = w := by
  have e : ¬ ((a : Int) + b < a) := by omega
  go_enter Tryd.func31, Tryd.ntmps31
  go_wp2_with fail
  go_ret
  exact ⟨by simp, rfl⟩
theorem invalidOffset_calls (a b c : Nat) (w : World) (h : a + b < 18446744073709551616) :
    Calls Tryd.prog 27 #[.int .u64 a, .int .u64 b, .int .u64 c] w fun e w' => e = .returned (.bool (decide (c < a + b))) ∧ w' = w := by
  go_enter Tryd.func27, Tryd.ntmps27
  go_wp2_with fail
  refine (sumOverflows_calls a b w h).mono ?_
  rintro e w' ⟨rfl, rfl⟩
  go_wp2_with fail
  go_ret
  exact ⟨by simp; omega, rfl⟩
end Go.Proofs.YtfanginpfppdeaaDoor.delta
