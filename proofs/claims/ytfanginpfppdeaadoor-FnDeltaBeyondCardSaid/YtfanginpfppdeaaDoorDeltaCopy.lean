/- What the reading of a copy's place and size computes. -/
import Derived.Test.YtfanginpfppdeaaDoorDeltaSpec
import Derived.Test.YtfanginpfppdeaaDoorMem
import Derived.WalkKit
import Derived.Lib.Hide
import Derived.ProofKit
import Derived.WalkSmall
import Derived.RowKitTokens
import Derived.Deep.QuietTactic
import Derived.BigQuiet
import Derived.Laws.BitsAllLaws
import Derived.Laws.BitsLemmas
set_option linter.unusedVariables false
namespace Go.Proofs.YtfanginpfppdeaaDoor.delta
open Go.RowKit Lib patch mem

/-- how the reading of a copy ends -/
def CopyEnd (w : World) (B : Nat) (cap n : Nat) (r : Option (Nat × Nat × List UInt8)) (e : Ending) (w' : World) : Prop :=
  w' = w ∧ match r with
    | some (f, s, l) => ∃ A', e = .returned (.tuple #[.int .i64 f, .int .i64 (copySize s), .slice A' l.length (cap - (n - l.length)), .int .i64 0]) ∧ Bytes w B A' l.length l ∧ l.length ≤ n ∧ f < 4294967296 ∧ s < 16777216
    | none => e = .returned (.tuple #[.int .i64 0, .int .i64 0, .slice none 0 0, .int .i64 1])
theorem bit_test (c k : Nat) (hc : c < 256) : (bits .and .u8 ((c : Int) / 2 ^ k) 1 == 0) = !(c.testBit k) := by
  have e : ((c : Int) / 2 ^ k) = ((c / 2 ^ k : Nat) : Int) := by simp
  have h1 : c / 2 ^ k < 256 := Nat.lt_of_le_of_lt (Nat.div_le_self _ _) hc
  rw [e, show (1 : Int) = ((1 : Nat) : Int) from rfl, u8_and_nat _ _ h1 (by omega), nat_mask1, Nat.testBit_eq_decide_div_mod_eq]
  have h2 : c / 2 ^ k % 2 < 2 := Nat.mod_lt _ (by omega)
  generalize c / 2 ^ k % 2 = m at h2
  rcases (by omega : m = 0 ∨ m = 1) with rfl | rfl <;> decide
theorem wsum {f b p : Nat} (h : f + b * p < 4611686018427387904) : wrap64 ((f : Int) + wrap64 ((b : Int) * (p : Int))) = ((f + b * p : Nat) : Int) := by
  have e1 : ((b : Int) * (p : Int)) = ((b * p : Nat) : Int) := by simp
  rw [e1]
  generalize b * p = q at h
  rw [wrap64_eq (x := (q : Int)) (by omega) (by omega), wrap64_eq (by omega) (by omega)]
  omega
theorem cast_pow2 (k : Nat) : ((2 ^ k : Nat) : Int) = (2 : Int) ^ k := by simp
theorem fr_lt {f b k : Nat} (hk : k < 4) (hf : f < 2 ^ (8 * min k 4)) (hb : b < 256) : f + b * 2 ^ (8 * k) < 2 ^ (8 * min (k + 1) 4) := by
  rw [show min k 4 = k by omega] at hf
  rw [show min (k + 1) 4 = k + 1 by omega, Nat.mul_add, Nat.pow_add]
  have h1 : b * 2 ^ (8 * k) ≤ 255 * 2 ^ (8 * k) := Nat.mul_le_mul_right _ (by omega)
  omega
theorem fr_mono {f k : Nat} (hf : f < 2 ^ (8 * min k 4)) : f < 2 ^ (8 * min (k + 1) 4) := Nat.lt_of_lt_of_le hf (Nat.pow_le_pow_right (by omega) (by omega))
theorem fr_top {f k : Nat} (hf : f < 2 ^ (8 * min k 4)) : f < 4294967296 := Nat.lt_of_lt_of_le hf (Nat.le_trans (Nat.pow_le_pow_right (by omega) (show 8 * min k 4 ≤ 32 by omega)) (by decide))
theorem sz_lt {s b k : Nat} (hk : 4 ≤ k) (hs : s < 2 ^ (8 * (k - 4))) (hb : b < 256) : s + b * 2 ^ (8 * (k - 4)) < 2 ^ (8 * (k + 1 - 4)) := by
  rw [show k + 1 - 4 = (k - 4) + 1 by omega, Nat.mul_add, Nat.pow_add]
  have h1 : b * 2 ^ (8 * (k - 4)) ≤ 255 * 2 ^ (8 * (k - 4)) := Nat.mul_le_mul_right _ (by omega)
  omega
theorem sz_mono {s k : Nat} (hs : s < 2 ^ (8 * (k - 4))) : s < 2 ^ (8 * (k + 1 - 4)) := Nat.lt_of_lt_of_le hs (Nat.pow_le_pow_right (by omega) (by omega))
theorem sz_top {s k : Nat} (hk : k ≤ 7) (hs : s < 2 ^ (8 * (k - 4))) : s < 16777216 := Nat.lt_of_lt_of_le hs (Nat.le_trans (Nat.pow_le_pow_right (by omega) (show 8 * (k - 4) ≤ 24 by omega)) (by decide))
set_option maxRecDepth 100000 in
set_option maxHeartbeats 4000000 in
theorem readCopy_calls (code : Nat) (A : Option Addr) (n cap B : Nat) (l : List UInt8) (w : World) (hcode : code < 256) (h : Bytes w B A n l) (hc : n ≤ cap) (hn : n ≤ 140737488351232) :
    Calls Tryd.prog 16 #[.int .u8 code, .slice A n cap] w (CopyEnd w B cap n (rc code 7 0 l 0 0)) := by
  have hl := h.len
  go_enter Tryd.func16, Tryd.ntmps16
  go_wp2_with fail
  go_loop [1, 8, 9, 10, 11] (fun sl fr sz _ idx => ∃ (k f s m : Nat) (A' : Option Addr) (r : List UInt8), k ≤ 7 ∧ idx = .int .i64 k ∧ fr = .int .i64 f ∧ sz = .int .i64 s ∧ sl = .slice A' m (cap - (n - m)) ∧ m ≤ n ∧ f < 2 ^ (8 * min k 4) ∧ s < 2 ^ (8 * (k - 4)) ∧
      Bytes w B A' m r ∧ Hid (rc code 7 0 l 0 0 = rc code (7 - k) k r f s)) (fun _ _ _ _ idx => 7 - (RowKit.intOf idx).toNat)
  case atStart => exact ⟨0, 0, 0, n, A, l, by omega, rfl, rfl, rfl, by simp, by omega, by simp, by simp, h, hid rfl⟩
  case round =>
    obtain ⟨k, f, s, m, A', r, hk, rfl, rfl, rfl, rfl, hm, hf, hs, hB, hz⟩ := hrel
    have HB := hid hB
    have HL := hid hl
    have hf4 := fr_top hf
    have hs4 := sz_top hk hs
    have HF := hid hf; have HS := hid hs
    clear hB hl h hf hs
    by_cases hlt : k < 7
    · have ht := bit_test code k hcode
      cases hbit : code.testBit k with
      | false =>
        rw [hbit] at ht
        have hz2 := hid (show rc code 7 0 l 0 0 = rc code (7 - (k + 1)) (k + 1) r f s from by rw [hz.out, show 7 - k = (7 - (k + 1)) + 1 by omega, rc_off _ _ _ _ _ _ hbit])
        have HT := hid hbit; clear hbit
        go_wp2_with fail
        go_round
        case rel => exact ⟨k + 1, f, s, m, A', r, by omega, by go_num, rfl, rfl, rfl, hm, fr_mono HF.out, sz_mono HS.out, HB.out, hz2⟩
        case measure => simp [RowKit.intOf]; omega
      | true =>
        rw [hbit] at ht
        have HT := hid hbit; clear hbit
        by_cases hm0 : m = 0
        · subst hm0
          have hz2 : Hid (rc code 7 0 l 0 0 = none) := hid (by
            have hr : r = [] := List.eq_nil_of_length_eq_zero HB.out.len
            rw [hz.out, hr, show 7 - k = (7 - (k + 1)) + 1 by omega, rc_nil _ _ _ _ _ HT.out])
          go_wp2_with fail
          refine bodyPost_ret (by simp [results, Tryd.results16, go_sem]; rfl) rfl ?_
          unfold CopyEnd; rw [hz2.out]; exact ⟨rfl, rfl⟩
        · obtain ⟨g, o, b8, rfl, hgB, hcell, hd, hb⟩ := HB.out.next (k := 0) (by omega)
          have hr : Hid (r = b8 :: r.drop 1) := hid (by simpa using hd)
          clear hd
          simp only [Nat.add_zero] at hcell
          have hmz : ((m : Int) == 0) = false := by simpa using hm0
          have hcap : ¬ (cap - (n - m) = 0) := by omega
          have hcut : Hid (Bytes w B (if cap - (n - m) = 1 then some ⟨g, o, none⟩ else some ⟨g, o + 1, none⟩) (m - 1) (r.drop 1)) := hid (by
            have := HB.out.cutAt (k := 1) (cap := cap - (n - m)) (by omega) (by omega)
            simpa [Lib.addr_add] using this)
          by_cases hk4 : k < 4
          · have hz2 := hid (show rc code 7 0 l 0 0 = rc code (7 - (k + 1)) (k + 1) (r.drop 1) (f + b8.toNat * 2 ^ (8 * k)) s from by
              rw [hz.out, hr.out, show 7 - k = (7 - (k + 1)) + 1 by omega, rc_from _ _ _ _ _ _ _ HT.out hk4]; simp)
            have H3 := hid (fr_lt hk4 HF.out hb)
            generalize b8.toNat = b at *
            have EW : Hid (wrap64 ((f : Int) + wrap64 ((b : Int) * 2 ^ (8 * k))) = ((f + b * 2 ^ (8 * k) : Nat) : Int)) := hid (by
              have e := wsum (Nat.lt_trans (fr_top H3.out) (by decide))
              rw [cast_pow2] at e
              exact e)
            go_wp2_with fail
            go_round
            case rel => exact ⟨k + 1, f + b * 2 ^ (8 * k), s, m - 1, _, r.drop 1, by omega, by go_num, by rw [EW.out], rfl, by rw [show cap - (n - m) - 1 = cap - (n - (m - 1)) by omega], by omega, H3.out, sz_mono HS.out, hcut.out, hz2⟩
            case measure => simp [RowKit.intOf]; omega
          · have hz2 := hid (show rc code 7 0 l 0 0 = rc code (7 - (k + 1)) (k + 1) (r.drop 1) f (s + b8.toNat * 2 ^ (8 * (k - 4))) from by
              rw [hz.out, hr.out, show 7 - k = (7 - (k + 1)) + 1 by omega, rc_size _ _ _ _ _ _ _ HT.out hk4]; simp)
            have H3 := hid (sz_lt (by omega) HS.out hb)
            generalize b8.toNat = b at *
            have H4 := sz_top (k := k + 1) (by omega) H3.out
            obtain ⟨q, hq⟩ : ∃ q : Nat, k = q + 4 := ⟨k - 4, by omega⟩
            subst hq
            simp only [Nat.add_sub_cancel] at H3 H4 hz2
            have EW : Hid (wrap64 ((s : Int) + wrap64 ((b : Int) * 2 ^ (8 * q))) = ((s + b * 2 ^ (8 * q) : Nat) : Int)) := hid (by
              have e := wsum (Nat.lt_trans H4 (by decide))
              rw [cast_pow2] at e
              exact e)
            clear H4
            go_wp2_with fail
            go_round
            case rel => exact ⟨q + 4 + 1, f, s + b * 2 ^ (8 * q), m - 1, _, r.drop 1, by omega, by go_num, rfl, by rw [EW.out], by rw [show cap - (n - m) - 1 = cap - (n - (m - 1)) by omega], by omega, fr_mono HF.out, H3.out, hcut.out, hz2⟩
            case measure => simp [RowKit.intOf]; omega
    · have hk7 : k = 7 := by omega
      subst hk7
      have hz2 : Hid (rc code 7 0 l 0 0 = some (f, s, r)) := hid (by rw [hz.out]; rfl)
      have hrl : Hid (r.length = m) := hid HB.out.len
      by_cases hs0 : s = 0
      · subst hs0
        go_wp2_with fail
        refine bodyPost_ret (by simp [results, Tryd.results16, go_sem]; rfl) rfl ?_
        unfold CopyEnd; rw [hz2.out]
        refine ⟨rfl, A', ?_, ?_, ?_, hf4, hs4⟩
        · rw [hrl.out, show copySize 0 = 65536 from rfl]; simp
        · rw [hrl.out]; exact HB.out
        · rw [hrl.out]; exact hm
      · have hsz : ((s : Int) == 0) = false := by simpa using hs0
        have HS0 := hid hs0; clear hs0
        go_wp2_with fail
        refine bodyPost_ret (by simp [results, Tryd.results16, go_sem]; rfl) rfl ?_
        unfold CopyEnd; rw [hz2.out]
        refine ⟨rfl, A', ?_, ?_, ?_, hf4, hs4⟩
        · rw [hrl.out]; unfold copySize; rw [if_neg HS0.out]
        · rw [hrl.out]; exact HB.out
        · rw [hrl.out]; exact hm
end Go.Proofs.YtfanginpfppdeaaDoor.delta
