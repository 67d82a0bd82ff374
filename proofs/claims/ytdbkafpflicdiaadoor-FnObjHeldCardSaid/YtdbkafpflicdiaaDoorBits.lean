/- Masks of any int. -/
import Derived.Laws.BitsLemmas
import Derived.Test.YtdbkafpflicdiaaDoorProg
set_option linter.unusedVariables false
namespace Go.Proofs.YtdbkafpflicdiaaDoor.bitsx

theorem and_nat (n : Int) (m : Nat) (hm : m < 9223372036854775808) : bits .and .i64 n (m : Int) = (((n % 18446744073709551616).toNat &&& m : Nat) : Int) := by
  unfold bits
  simp only [BitVec.toNat_and]
  have e1 : (BitVec.ofInt IntKind.i64.bits n).toNat = (n % 18446744073709551616).toNat := by
    rw [BitVec.toNat_ofInt]; rfl
  have e2 : (BitVec.ofInt IntKind.i64.bits (m : Int)).toNat = m := by
    rw [BitVec.toNat_ofInt]
    show ((m : Int) % 18446744073709551616).toNat = m
    omega
  rw [e1, e2, IntKind.wrap_i64]
  have h : (n % 18446744073709551616).toNat &&& m ≤ m := Nat.and_le_right
  omega
theorem and_mask16 (n : Int) : bits .and .i64 n 65535 = n % 65536 := by
  have h := and_nat n 65535 (by omega)
  rw [show ((65535 : Nat) : Int) = 65535 from rfl] at h
  rw [h, show (65535 : Nat) = 2 ^ 16 - 1 from rfl, Nat.and_two_pow_sub_one_eq_mod]
  omega
theorem and_mask24 (n : Int) : bits .and .i64 n 16777215 = n % 16777216 := by
  have h := and_nat n 16777215 (by omega)
  rw [show ((16777215 : Nat) : Int) = 16777215 from rfl] at h
  rw [h, show (16777215 : Nat) = 2 ^ 24 - 1 from rfl, Nat.and_two_pow_sub_one_eq_mod]
  omega
end Go.Proofs.YtdbkafpflicdiaaDoor.bitsx
