/- What the program's reading of a copy's place computes. -/
import Derived.Test.YtfanginpfppdeaaDoorDeltaLeb
import Derived.Test.YtfanginpfppdeaaDoorDeltaCopy
set_option linter.unusedVariables false
namespace Go.Proofs.YtfanginpfppdeaaDoor.delta
open Go.RowKit Lib patch mem

theorem below_drewN {B : Nat} {a w : World} (h : Below B a w) (k : Nat) : Below B a (w.drewN k) := ⟨h.os, h.tape, h.output, h.size, h.block⟩
theorem mask_test (c k : Nat) (hc : c < 256) (hk : k < 8) : (bits .and .u8 (c : Int) (2 ^ k) != 0) = c.testBit k := by
  have hp : 2 ^ k < 256 := Nat.lt_of_lt_of_le (Nat.pow_lt_pow_right (by omega) hk) (by decide)
  have e : ((2 : Int) ^ k) = ((2 ^ k : Nat) : Int) := by simp
  have h2 : c / 2 ^ k % 2 < 2 := Nat.mod_lt _ (by omega)
  have h3 : 0 < 2 ^ k := Nat.pow_pos (by omega)
  rw [e, u8_and_nat _ _ hc hp, nat_bit, Nat.testBit_eq_decide_div_mod_eq]
  generalize c / 2 ^ k % 2 = m at h2
  rcases (by omega : m = 0 ∨ m = 1) with rfl | rfl
  · simp
  · simp; omega
theorem add_lt {a b k : Nat} (ha : a < 2 ^ (8 * k)) (hb : b < 256) : a + b * 2 ^ (8 * k) < 2 ^ (8 * (k + 1)) := by
  rw [Nat.mul_add, Nat.pow_add]
  have h1 : b * 2 ^ (8 * k) ≤ 255 * 2 ^ (8 * k) := Nat.mul_le_mul_right _ (by omega)
  omega
theorem off_or {a b k : Nat} (hk : k < 4) (hb : b < 256) (ha : a < 2 ^ (8 * k)) : bits .or .u64 (a : Int) (IntKind.u64.wrap ((b : Int) * 2 ^ (8 * k))) = ((a + b * 2 ^ (8 * k) : Nat) : Int) := by
  have h1 := add_lt ha hb
  have h2 : 2 ^ (8 * (k + 1)) ≤ 2 ^ 32 := Nat.pow_le_pow_right (by omega) (by omega)
  have h3 : (2 : Nat) ^ 32 = 4294967296 := by decide
  rw [or_up (p := 0) a (b * 2 ^ (8 * k)) (by simp) (by omega), u64_or_nat _ _ (by omega) (by omega), Nat.or_comm, nat_join (8 * k) _ _ (Nat.mul_mod_left _ _) ha, Nat.add_comm]
/-- a table of masks and shifts: the bits from o on, the shifts from 0 on -/
def TabAt (w : World) (G o m : Nat) : Prop := ∃ T q, w.cell? ⟨G, 0, none⟩ = some (.slice (some ⟨T, q, none⟩) m m) ∧ T < w.heap.size ∧ ∀ k, k < m → w.cell? ⟨T, q + k * 2, none⟩ = some (.int .u8 (2 ^ (o + k) : Nat)) ∧ w.cell? ⟨T, q + k * 2 + 1, none⟩ = some (.int .u64 (8 * k : Nat))
/-- how the reading ends -/
def OffEnd (w : World) (B : Nat) (cap n : Nat) (t : TypeId) (p : Value) (fix : Nat → Nat) (r : Option (Nat × List UInt8)) (e : Ending) (w' : World) : Prop :=
  Below w.heap.size w w' ∧ match r with
    | some (m, r) => ∃ A', e = .returned (.tuple #[.int .u64 (fix m : Nat), .slice A' r.length (cap - (n - r.length)), .nilIface]) ∧ Bytes w B A' r.length r ∧ r.length ≤ n ∧ m < 4294967296
    | none => ∃ v, e = .returned (.tuple #[.int .u64 0, v, .iface t p])
set_option maxRecDepth 100000 in
set_option maxHeartbeats 4000000 in
theorem off_calls (code : Nat) (A : Option Addr) (n cap B : Nat) (l : List UInt8) (t : TypeId) (p : Value) (w : World) (hcode : code < 256) (h : Bytes w B A n l) (hBw : B ≤ w.heap.size) (hc : n ≤ cap) (hn : n ≤ 140737488351232)
    (hE : w.cell? ⟨0, 0, none⟩ = some (.iface t p)) (hEl : 0 < w.heap.size) (hT : TabAt w 3 0 4) (hTl : 3 < w.heap.size) :
    Calls Tryd.prog 24 #[.int .u8 code, .slice A n cap] w (OffEnd w B cap n t p (fun m => m) (rd code 0 4 0 l 0)) := by
  have HB := hid h
  have HL := hid h.len
  clear h
  obtain ⟨T, q, hT1, hTs, hT2⟩ := hT
  have HT := hid hT2
  clear hT2
  go_enter Tryd.func24, Tryd.ntmps24
  go_wp2_with fail
  go_loopw [1, 7, 9, 12] (fun sl acc _ idx wr => ∃ (k a m : Nat) (A' : Option Addr) (r : List UInt8), k ≤ 4 ∧ idx = .int .i64 k ∧ acc = .int .u64 a ∧ sl = .slice A' m (cap - (n - m)) ∧ m ≤ n ∧ a < 2 ^ (8 * k) ∧ Below w.heap.size w wr ∧
      Bytes w B A' m r ∧ Hid (rd code 0 4 0 l 0 = rd code 0 (4 - k) k r a)) (fun _ _ _ idx _ => 4 - (RowKit.intOf idx).toNat)
  case atStart => exact ⟨0, 0, n, A, l, by omega, rfl, rfl, by simp, by omega, by simp, Below.refl _ _, HB.out, hid rfl⟩
  case round =>
    obtain ⟨k, a, m, A', r, hk, rfl, rfl, rfl, hm, ha, hb, hBr, hz⟩ := hrel
    have hTw := (hb.cell (p := ⟨T, q + k * 2, none⟩) hTs)
    have hTw1 := (hb.cell (p := ⟨T, q + k * 2 + 1, none⟩) hTs)
    have hEw := (hb.cell (p := ⟨0, 0, none⟩) hEl).trans hE
    have HBr := hid (hBr.below ⟨hb.1, hb.2, hb.3, hb.4, fun j hj => hb.5 j (by omega)⟩)
    have HB0 := hid hBr
    have Hb := hid hb
    have HA := hid ha
    have hsz := hb.size
    clear hBr hb ha
    by_cases hlt : k < 4
    · obtain ⟨hm1, hm2⟩ := HT.out k hlt
      rw [hm1] at hTw
      rw [hm2] at hTw1
      clear hm1 hm2
      have ht := mask_test code k hcode (by omega)
      have hEa : ∀ o, (wr.alloc o).cell? ⟨0, 0, none⟩ = some (.iface t p) := fun o => (World.cell?_alloc_lt wr o _ (by simp; omega)).trans hEw
      have hba := hid (fun o => Hb.out.alloc (by omega) o)
      cases hbit : code.testBit k with
      | false =>
        rw [hbit] at ht
        have hz2 := hid (show rd code 0 4 0 l 0 = rd code 0 (4 - (k + 1)) (k + 1) r a from by rw [hz.out, show 4 - k = (4 - (k + 1)) + 1 by omega, rd_succ, Nat.zero_add, hbit]; simp)
        have hlt2 : Hid (a < 2 ^ (8 * (k + 1))) := hid (Nat.lt_of_lt_of_le HA.out (Nat.pow_le_pow_right (by omega) (by omega)))
        clear hbit
        go_wp2_with fail
        go_roundw
        case rel => exact ⟨k + 1, a, m, A', r, by omega, by go_num, rfl, rfl, hm, hlt2.out, hba.out _, HB0.out, hz2⟩
        case measure => simp [RowKit.intOf]; omega
      | true =>
        rw [hbit] at ht
        have HT2 := hid hbit
        clear hbit
        by_cases hm0 : m = 0
        · have hz2 : Hid (rd code 0 4 0 l 0 = none) := hid (by
            have hr : r = [] := List.eq_nil_of_length_eq_zero (by rw [HB0.out.len]; exact hm0)
            rw [hz.out, hr, show 4 - k = (4 - (k + 1)) + 1 by omega, rd_succ, Nat.zero_add, HT2.out]; simp)
          subst hm0
          go_wp2_with fail
          go_quiet (fail)
          go_wp2_with fail
          refine bodyPost_ret (by simp [results, Tryd.results24, go_sem]; rfl) rfl ?_
          unfold OffEnd; rw [hz2.out]
          exact ⟨below_drewN (hba.out _) _, _, rfl⟩
        · obtain ⟨g, o, b8, rfl, hgB, hcell, hd, hb⟩ := HBr.out.next (k := 0) (by omega)
          have hr : Hid (r = b8 :: r.drop 1) := hid (by simpa using hd)
          clear hd
          simp only [Nat.add_zero] at hcell
          have hmz : ((m : Int) == 0) = false := by simpa using hm0
          have hca : ∀ x, (wr.alloc x).cell? ⟨g, o, none⟩ = some (.int .u8 b8.toNat) := fun x => (World.cell?_alloc_lt wr x _ (by simp; omega)).trans hcell
          obtain ⟨A3, hA3, hs3⟩ := slice_from .i64 (some ⟨g, o, none⟩) m (cap - (n - m)) 1 (by omega)
          have hcut := hid (hA3 _ _ _ HB0.out (by omega))
          clear hA3
          simp only [Int.natCast_one] at hs3
          have hz2 := hid (show rd code 0 4 0 l 0 = rd code 0 (4 - (k + 1)) (k + 1) (r.drop 1) (a + b8.toNat * 2 ^ (8 * k)) from by
            rw [hz.out, hr.out, show 4 - k = (4 - (k + 1)) + 1 by omega, rd_succ, Nat.zero_add, HT2.out]; simp)
          have hlt2 := hid (add_lt HA.out hb)
          have hor := off_or hlt hb HA.out
          generalize b8.toNat = b at *
          generalize a + b * 2 ^ (8 * k) = acc at *
          go_wp2_with fail
          go_quiet (fail)
          go_wp2_with fail
          go_roundw
          case rel => exact ⟨k + 1, acc, m - 1, A3, r.drop 1, by omega, by go_num, rfl, by rw [show cap - (n - m) - 1 = cap - (n - (m - 1)) by omega], by omega, hlt2.out, below_drewN (hba.out _) _, hcut.out, hz2⟩
          case measure => simp [RowKit.intOf]; omega
    · have hk4 : k = 4 := by omega
      subst hk4
      have hz2 : Hid (rd code 0 4 0 l 0 = some (a, r)) := hid (by rw [hz.out]; rfl)
      have hrl : Hid (r.length = m) := hid HB0.out.len
      go_wp2_with fail
      refine bodyPost_ret (by simp [results, Tryd.results24, go_sem]; rfl) rfl ?_
      unfold OffEnd; rw [hz2.out]
      exact ⟨Hb.out, A', by rw [hrl.out], by rw [hrl.out]; exact HB0.out, by rw [hrl.out]; exact hm, HA.out⟩
end Go.Proofs.YtfanginpfppdeaaDoor.delta
