/- What the program's reading of a size computes. -/
import Derived.Test.YtfanginpfppdeaaDoorDeltaSpec
import Derived.Test.YtfanginpfppdeaaDoorSlices
import Derived.Test.YtfanginpfppdeaaDoorDeltaSmall
import Derived.WalkKit
import Derived.Lib.Hide
import Derived.ProofKit
import Derived.WalkSmall
import Derived.RowKitTokens
import Derived.Deep.QuietTactic
import Derived.BigQuiet
import Derived.Laws.BitsAllLaws
import Derived.Laws.BitsLemmas
set_option linter.unusedVariables false
namespace Go.Proofs.YtfanginpfppdeaaDoor.delta
open Go.RowKit Lib patch mem

theorem top_bit64 (b : Nat) (h : b < 256) : bits .and .u64 (b : Int) 128 = if b < 128 then 0 else 128 := by
  rw [show (128 : Int) = ((128 : Nat) : Int) from rfl, u64_and_nat _ _ (by omega) (by omega), show (128 : Nat) = 2 ^ 7 from rfl, nat_bit]
  split
  · rename_i h1; rw [show b / 2 ^ 7 = 0 from by omega]; rfl
  · rename_i h1; rw [show b / 2 ^ 7 = 1 from by omega]
theorem low7 (b : Nat) (h : b < 256) : bits .and .u64 (b : Int) 127 = ((b % 128 : Nat) : Int) := by
  rw [show (127 : Int) = ((127 : Nat) : Int) from rfl, u64_and_nat _ _ (by omega) (by omega), nat_mask7]
theorem acc63 {a b k : Nat} (hk : k ≤ 8) (ha : a < 2 ^ (7 * k)) : a + b % 128 * 2 ^ (7 * k) < 9223372036854775808 :=
  Nat.lt_of_lt_of_le (acc_lt ha) (Nat.le_trans (Nat.pow_le_pow_right (by omega) (show 7 * (k + 1) ≤ 63 by omega)) (by decide))
theorem or_up {x p : Int} (a : Nat) (y : Nat) (h : x = (y : Int)) (hy : y < 18446744073709551616) : bits .or .u64 (a : Int) (IntKind.u64.wrap x) = bits .or .u64 (a : Int) (y : Int) := by
  rw [h, IntKind.wrap_u64, Int.emod_eq_of_lt (by omega) (by omega)]
theorem leb_or {a b k : Nat} (hk : k ≤ 8) (hb : b < 256) (ha : a < 2 ^ (7 * k)) :
    bits .or .u64 (a : Int) (IntKind.u64.wrap (bits .and .u64 (b : Int) 127 * 2 ^ (k * 7))) = ((a + b % 128 * 2 ^ (7 * k) : Nat) : Int) := by
  have h63 := acc63 (b := b) hk ha
  rw [or_up (p := 0) a (b % 128 * 2 ^ (7 * k)) (by rw [low7 b hb, Nat.mul_comm k 7]; simp) (by omega)]
  rw [u64_or_nat _ _ (by omega) (by omega), Nat.or_comm, nat_join (7 * k) _ _ (Nat.mul_mod_left _ _) ha, Nat.add_comm]
/-- how the reading ends -/
def LebEnd (w : World) (B : Nat) (c n : Nat) (t : TypeId) (p : Value) (r : Option (Nat × List UInt8)) (e : Ending) (w' : World) : Prop :=
  (∃ k, w' = w.drewN k) ∧ match r with
    | some (m, r) => ∃ A', e = .returned (.tuple #[.int .u64 m, .slice A' r.length (c - (n - r.length)), .nilIface]) ∧ Bytes w B A' r.length r ∧ r.length ≤ n ∧ m < 9223372036854775808
    | none => ∃ v, e = .returned (.tuple #[.int .u64 0, v, .iface t p])
set_option maxRecDepth 100000 in
set_option maxHeartbeats 4000000 in
theorem leb_calls (A : Option Addr) (n c B : Nat) (l : List UInt8) (t : TypeId) (p : Value) (w : World) (h : Bytes w B A n l) (hc : n ≤ c) (hn : n ≤ 140737488351232)
    (hE : w.cell? ⟨2, 0, none⟩ = some (.iface t p)) :
    Calls Tryd.prog 21 #[.slice A n c] w (LebEnd w B c n t p (leb l 0 0)) := by
  have HB := hid h
  have HL := hid h.len
  clear h
  by_cases hn0 : n = 0
  · have hl : l = [] := List.eq_nil_of_length_eq_zero (by rw [HL.out]; exact hn0)
    subst hn0
    subst hl
    go_enter Tryd.func21, Tryd.ntmps21
    go_wp2_with fail
    refine bodyPost_ret (by simp [results, Tryd.results21, go_sem]; rfl) rfl ?_
    exact ⟨⟨0, rfl⟩, A, rfl, HB.out, Nat.le_refl _, by omega⟩
  · have e0 : ((n : Int) == 0) = false := by simpa using hn0
    go_enter Tryd.func21, Tryd.ntmps21
    go_wp2_with fail
    go_loop [5, 6, 7] (fun num sz _ => ∃ k a : Nat, k < n ∧ sz = .int .u64 k ∧ num = .int .u64 a ∧ k ≤ 9 ∧ a < 2 ^ (7 * k) ∧ Hid (leb l 0 0 = leb (l.drop k) k a)) (fun _ sz _ => n - (RowKit.intOf sz).toNat)
    case atStart => exact ⟨0, 0, by omega, rfl, rfl, by omega, by simp, hid (by simp)⟩
    case round =>
      obtain ⟨k, a, hk, rfl, rfl, hk9, ha, hz⟩ := hrel
      obtain ⟨g, o, b8, rfl, hgB, hcell, hd, hb⟩ := HB.out.next hk
      have hbl := hid (show leb (l.drop k) k a = if 57 < 7 * k then none else if b8.toNat < 128 ∨ l.drop (k + 1) = [] then some (a + b8.toNat % 128 * 2 ^ (7 * k), l.drop (k + 1)) else leb (l.drop (k + 1)) (k + 1) (a + b8.toNat % 128 * 2 ^ (7 * k)) from by rw [hd, leb])
      have HA := hid ha
      clear hd ha
      by_cases h9 : k = 9
      · have HQ : Hid (leb l 0 0 = none) := hid (by rw [hz.out, hbl.out, if_pos (by omega)])
        clear hbl hz
        subst h9
        go_wp2_with fail
        go_quiet (fail)
        go_wp2_with fail
        refine bodyPost_ret (by simp [results, Tryd.results21, go_sem]; rfl) rfl ?_
        unfold LebEnd; rw [HQ.out]
        exact ⟨⟨_, rfl⟩, _, rfl⟩
      · have hk8 : k ≤ 8 := by omega
        have H63 := hid (acc63 (b := b8.toNat) hk8 HA.out)
        have hor := leb_or hk8 hb HA.out
        have hlt2 := hid (acc_lt (b := b8.toNat) HA.out)
        have ht := top_bit64 b8.toNat hb
        have e57 : ¬ ((57 : Int) < (k : Int) * 7) := by omega
        rw [if_neg (by omega)] at hbl
        have hdl : Hid (l.drop (k + 1) = [] ↔ k + 1 = n) := hid (by rw [List.drop_eq_nil_iff, HL.out]; omega)
        generalize b8.toNat = b at *
        generalize a + b % 128 * 2 ^ (7 * k) = acc at *
        obtain ⟨A', hA', hs⟩ := slice_from .u64 (some ⟨g, o, none⟩) n c (k + 1) (by omega)
        have hcut := hid (hA' _ _ _ HB.out hc)
        clear hA'
        simp only [Int.natCast_add, Int.natCast_one] at hs
        have hr : Hid ((l.drop (k + 1)).length = n - (k + 1)) := hid (by rw [List.length_drop, HL.out])
        by_cases hstop : b < 128 ∨ k + 1 = n
        · have HQ : Hid (leb l 0 0 = some (acc, l.drop (k + 1))) := hid (by
            rw [hz.out, hbl.out, if_pos (hstop.imp id hdl.out.2)])
          clear hbl hz
          by_cases hb128 : b < 128
          · rw [if_pos hb128] at ht
            go_wp2_with fail
            go_quiet (fail)
            go_wp2_with fail
            refine bodyPost_ret (by simp [results, Tryd.results21, go_sem]; rfl) rfl ?_
            unfold LebEnd; rw [HQ.out]
            refine ⟨⟨_, rfl⟩, A', ?_, by rw [hr.out]; exact hcut.out, by rw [hr.out]; omega, H63.out⟩
            rw [hr.out, show n - (n - (k + 1)) = k + 1 from by omega]
          · rw [if_neg hb128] at ht
            have ek : ((k : Int) + 1 == (n : Int)) = true := by simp; omega
            go_wp2_with fail
            go_quiet (fail)
            go_wp2_with fail
            refine bodyPost_ret (by simp [results, Tryd.results21, go_sem]; rfl) rfl ?_
            unfold LebEnd; rw [HQ.out]
            refine ⟨⟨_, rfl⟩, A', ?_, by rw [hr.out]; exact hcut.out, by rw [hr.out]; omega, H63.out⟩
            rw [hr.out, show n - (n - (k + 1)) = k + 1 from by omega]
        · have hn2 := hid (show leb l 0 0 = leb (l.drop (k + 1)) (k + 1) acc from by
            rw [hz.out, hbl.out, if_neg (fun h => hstop (h.imp id hdl.out.1))])
          clear hbl hz
          have hb128 : ¬ b < 128 := fun h => hstop (.inl h)
          rw [if_neg hb128] at ht
          have ek : ((k : Int) + 1 == (n : Int)) = false := by simp; omega
          go_wp2_with fail
          go_round
          case rel => exact ⟨k + 1, acc, by omega, by go_num, rfl, by omega, hlt2.out, hn2⟩
          case measure => simp [RowKit.intOf]; omega
end Go.Proofs.YtfanginpfppdeaaDoor.delta
