/- What the reading of a delta's sizes and codes, and the format's words for a delta, compute. -/
import Derived.Test.YtfanginpfppdeaaDoorPatch
import Derived.Test.YtfanginpfppdeaaDoorMem
import Derived.WalkKit
import Derived.Lib.Hide
import Derived.ProofKit
import Derived.WalkSmall
import Derived.RowKitTokens
import Derived.Deep.QuietTactic
import Derived.BigQuiet
import Derived.Laws.BitsAllLaws
import Derived.Laws.BitsLemmas
set_option linter.unusedVariables false
namespace Go.Proofs.YtfanginpfppdeaaDoor.delta
open Go.RowKit Lib patch mem

theorem drop_cons {l : List UInt8} {k : Nat} (h : k < l.length) : l.drop k = l[k] :: l.drop (k + 1) := List.drop_eq_getElem_cons h
theorem acc_lt {a b k : Nat} (ha : a < 2 ^ (7 * k)) : a + b % 128 * 2 ^ (7 * k) < 2 ^ (7 * (k + 1)) := by
  have hp : (2 : Nat) ^ (7 * (k + 1)) = 2 ^ (7 * k) * 128 := by rw [Nat.mul_add, Nat.pow_add]
  have h1 : b % 128 * 2 ^ (7 * k) ≤ 127 * 2 ^ (7 * k) := Nat.mul_le_mul_right _ (by omega)
  omega
theorem wrap64_eq {x : Int} (h0 : 0 ≤ x) (h1 : x < 9223372036854775808) : wrap64 x = x := by
  unfold wrap64; omega
/-- how the reading of a size ends -/
def Sz7End (w : World) (B : Nat) (c n : Nat) (r : R7) (e : Ending) (w' : World) : Prop :=
  (∃ k, w' = w.drewN k) ∧ match r with
    | .told m r => ∃ A', e = .returned (.tuple #[.int .i64 m, .slice A' r.length (c - (n - r.length)), .int .i64 0]) ∧ Bytes w B A' r.length r
    | .refused => e = .returned (.tuple #[.int .i64 0, .slice none 0 0, .int .i64 1])
    | .opn => e = .returned (.tuple #[.int .i64 0, .slice none 0 0, .int .i64 2])
theorem sz7_end {l : List UInt8} {k a : Nat} (hk : k = l.length) : sz7 (l.drop k) k a = .refused := by
  rw [List.drop_of_length_le (by omega)]; rfl
set_option maxRecDepth 100000 in
set_option maxHeartbeats 2000000 in
theorem readSize7_calls (A : Option Addr) (n c B : Nat) (l : List UInt8) (w : World) (h : Bytes w B A n l) (hc : n ≤ c) (hn : n ≤ 140737488351232) :
    Calls Tryd.prog 15 #[.slice A n c] w (Sz7End w B c n (sz7 l 0 0)) := by
  have hl := h.len
  go_enter Tryd.func15, Tryd.ntmps15
  go_wp2_with fail
  go_loop [5, 6, 7, 10] (fun acc _ _ idx => ∃ k a : Nat, k ≤ n ∧ idx = .int .i64 k ∧ acc = .int .i64 a ∧ k ≤ 4 ∧ a < 2 ^ (7 * k) ∧ Hid (sz7 l 0 0 = sz7 (l.drop k) k a)) (fun _ _ _ idx => n - (RowKit.intOf idx).toNat)
  case atStart => exact ⟨0, 0, by omega, rfl, rfl, by omega, by simp, hid (by simp)⟩
  case round =>
    obtain ⟨k, a, hk, rfl, rfl, hk4, ha, hz⟩ := hrel
    by_cases hlt : k < n
    · obtain ⟨g, o, b8, rfl, hgB, hcell, hd, hb⟩ := h.next hlt
      have hbl := hid (show sz7 (l.drop k) k a = if k = 4 then .opn else if b8.toNat < 128 then .told (a + b8.toNat % 128 * 2 ^ (7 * k)) (l.drop (k + 1)) else sz7 (l.drop (k + 1)) (k + 1) (a + b8.toNat % 128 * 2 ^ (7 * k)) from by rw [hd, sz7])
      have HB := hid h
      have HL := hid hl
      clear h hl hd
      by_cases h4 : k = 4
      · subst h4
        go_wp2_with fail
        refine bodyPost_ret (by simp [results, Tryd.results15, go_sem]; rfl) rfl ?_
        unfold Sz7End; rw [hz.out, hbl.out]; exact ⟨⟨0, rfl⟩, rfl⟩
      · have hk3 : k = 0 ∨ k = 1 ∨ k = 2 ∨ k = 3 := by omega
        generalize b8.toNat = b at hcell hb hbl
        obtain ⟨acc, hacc, hlt2⟩ : ∃ acc : Nat, acc = a + b % 128 * 2 ^ (7 * k) ∧ acc < 2 ^ (7 * (k + 1)) := ⟨_, rfl, acc_lt ha⟩
        have h28 : acc < 268435456 := Nat.lt_of_lt_of_le hlt2 (by rcases hk3 with rfl | rfl | rfl | rfl <;> decide)
        have ew : wrap64 ((a : Int) + wrap64 ((b : Int) % 128 * 2 ^ (7 * k))) = (acc : Int) := by
          have e0 : ((b : Int) % 128 * 2 ^ (7 * k)) = ((b % 128 * 2 ^ (7 * k) : Nat) : Int) := by simp
          have e1 : wrap64 ((b % 128 * 2 ^ (7 * k) : Nat) : Int) = ((b % 128 * 2 ^ (7 * k) : Nat) : Int) := wrap64_eq (by omega) (by omega)
          rw [e0, e1, wrap64_eq (by omega) (by omega)]
          omega
        rw [← hacc] at hbl
        have EW := hid ew
        have HC := hid hacc; have H3 := hid hlt2
        clear ew hacc hlt2
        by_cases h128 : b < 128
        · have e1 : ((b : Int) < 128) := by omega
          have hcut : Hid (∀ m, Bytes (w.drewN m) B (if c = k + 1 then some ⟨g, o, none⟩ else some ⟨g, o + (k + 1), none⟩) (n - (k + 1)) (l.drop (k + 1))) := hid fun m => by
            have := (HB.out.cutAt (k := k + 1) (cap := c) (by omega) hc).drewN m
            simpa [Lib.addr_add] using this
          go_wp2_with fail
          rw [EW.out]
          go_quiet (fail)
          go_wp2_with fail
          all_goals
            refine bodyPost_ret (by simp [results, Tryd.results15, go_sem]; rfl) rfl ?_
            unfold Sz7End; rw [hz.out, hbl.out, if_neg h4, if_pos h128]
            have hr : (l.drop (k + 1)).length = n - (k + 1) := by rw [List.length_drop, HL.out]
            refine ⟨⟨_, rfl⟩, if c = k + 1 then some ⟨g, o, none⟩ else some ⟨g, o + (k + 1), none⟩, ?_, ?_⟩
            · rw [hr, show n - (n - (k + 1)) = k + 1 from by omega]; simp [h]
            · rw [hr]; exact hcut.out 0
        · have e1 : ¬ ((b : Int) < 128) := by omega
          have hn2 := hid (show sz7 l 0 0 = sz7 (l.drop (k + 1)) (k + 1) acc from by rw [hz.out, hbl.out, if_neg h4, if_neg h128])
          go_wp2_with fail
          rw [EW.out]
          go_round
          case rel => exact ⟨k + 1, acc, by omega, by go_num, rfl, by omega, H3.out, hn2⟩
          case measure => simp [RowKit.intOf]; omega
    · have hz2 : Hid (sz7 l 0 0 = .refused) := hid (by rw [hz.out, sz7_end (by omega)])
      clear hz
      have H := hid h; clear h
      go_wp2_with fail
      refine bodyPost_ret (by simp [results, Tryd.results15, go_sem]; rfl) rfl ?_
      unfold Sz7End; rw [hz2.out]; exact ⟨⟨0, rfl⟩, rfl⟩
end Go.Proofs.YtfanginpfppdeaaDoor.delta
