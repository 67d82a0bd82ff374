/- What the program's reading of a copy's size computes. -/
import Derived.Test.YtfanginpfppdeaaDoorDeltaOff
set_option linter.unusedVariables false
namespace Go.Proofs.YtfanginpfppdeaaDoor.delta
open Go.RowKit Lib patch mem

set_option maxRecDepth 100000 in
set_option maxHeartbeats 4000000 in
theorem siz_calls (code : Nat) (A : Option Addr) (n cap B : Nat) (l : List UInt8) (t : TypeId) (p : Value) (w : World) (hcode : code < 256) (h : Bytes w B A n l) (hBw : B ≤ w.heap.size) (hc : n ≤ cap) (hn : n ≤ 140737488351232)
    (hE : w.cell? ⟨0, 0, none⟩ = some (.iface t p)) (hEl : 0 < w.heap.size) (hT : TabAt w 4 4 3) (hTl : 4 < w.heap.size) :
    Calls Tryd.prog 25 #[.int .u8 code, .slice A n cap] w (OffEnd w B cap n t p (copySize) (rd code 4 3 0 l 0)) := by
  have HB := hid h
  have HL := hid h.len
  clear h
  obtain ⟨T, q, hT1, hTs, hT2⟩ := hT
  have HT := hid hT2
  clear hT2
  go_enter Tryd.func25, Tryd.ntmps25
  go_wp2_with fail
  go_loopw [1, 7, 9, 12] (fun sl acc _ idx wr => ∃ (k a m : Nat) (A' : Option Addr) (r : List UInt8), k ≤ 3 ∧ idx = .int .i64 k ∧ acc = .int .u64 a ∧ sl = .slice A' m (cap - (n - m)) ∧ m ≤ n ∧ a < 2 ^ (8 * k) ∧ Below w.heap.size w wr ∧
      Bytes w B A' m r ∧ Hid (rd code 4 3 0 l 0 = rd code 4 (3 - k) k r a)) (fun _ _ _ idx _ => 3 - (RowKit.intOf idx).toNat)
  case atStart => exact ⟨0, 0, n, A, l, by omega, rfl, rfl, by simp, by omega, by simp, Below.refl _ _, HB.out, hid rfl⟩
  case round =>
    obtain ⟨k, a, m, A', r, hk, rfl, rfl, rfl, hm, ha, hb, hBr, hz⟩ := hrel
    have hTw := (hb.cell (p := ⟨T, q + k * 2, none⟩) hTs)
    have hTw1 := (hb.cell (p := ⟨T, q + k * 2 + 1, none⟩) hTs)
    have hEw := (hb.cell (p := ⟨0, 0, none⟩) hEl).trans hE
    have HBr := hid (hBr.below ⟨hb.1, hb.2, hb.3, hb.4, fun j hj => hb.5 j (by omega)⟩)
    have HB0 := hid hBr
    have Hb := hid hb
    have HA := hid ha
    have hsz := hb.size
    clear hBr hb ha
    by_cases hlt : k < 3
    · obtain ⟨hm1, hm2⟩ := HT.out k hlt
      rw [hm1] at hTw
      rw [hm2] at hTw1
      clear hm1 hm2
      have ht := mask_test code (4 + k) hcode (by omega)
      have hEa : ∀ o, (wr.alloc o).cell? ⟨0, 0, none⟩ = some (.iface t p) := fun o => (World.cell?_alloc_lt wr o _ (by simp; omega)).trans hEw
      have hba := hid (fun o => Hb.out.alloc (by omega) o)
      cases hbit : code.testBit (4 + k) with
      | false =>
        rw [hbit] at ht
        have hz2 := hid (show rd code 4 3 0 l 0 = rd code 4 (3 - (k + 1)) (k + 1) r a from by rw [hz.out, show 3 - k = (3 - (k + 1)) + 1 by omega, rd_succ, hbit]; simp)
        have hlt2 : Hid (a < 2 ^ (8 * (k + 1))) := hid (Nat.lt_of_lt_of_le HA.out (Nat.pow_le_pow_right (by omega) (by omega)))
        clear hbit
        go_wp2_with fail
        go_roundw
        case rel => exact ⟨k + 1, a, m, A', r, by omega, by go_num, rfl, rfl, hm, hlt2.out, hba.out _, HB0.out, hz2⟩
        case measure => simp [RowKit.intOf]; omega
      | true =>
        rw [hbit] at ht
        have HT2 := hid hbit
        clear hbit
        by_cases hm0 : m = 0
        · have hz2 : Hid (rd code 4 3 0 l 0 = none) := hid (by
            have hr : r = [] := List.eq_nil_of_length_eq_zero (by rw [HB0.out.len]; exact hm0)
            rw [hz.out, hr, show 3 - k = (3 - (k + 1)) + 1 by omega, rd_succ, HT2.out]; simp)
          subst hm0
          go_wp2_with fail
          go_quiet (fail)
          go_wp2_with fail
          refine bodyPost_ret (by simp [results, Tryd.results25, go_sem]; rfl) rfl ?_
          unfold OffEnd; rw [hz2.out]
          exact ⟨below_drewN (hba.out _) _, _, rfl⟩
        · obtain ⟨g, o, b8, rfl, hgB, hcell, hd, hb⟩ := HBr.out.next (k := 0) (by omega)
          have hr : Hid (r = b8 :: r.drop 1) := hid (by simpa using hd)
          clear hd
          simp only [Nat.add_zero] at hcell
          have hmz : ((m : Int) == 0) = false := by simpa using hm0
          have hca : ∀ x, (wr.alloc x).cell? ⟨g, o, none⟩ = some (.int .u8 b8.toNat) := fun x => (World.cell?_alloc_lt wr x _ (by simp; omega)).trans hcell
          obtain ⟨A3, hA3, hs3⟩ := slice_from .i64 (some ⟨g, o, none⟩) m (cap - (n - m)) 1 (by omega)
          have hcut := hid (hA3 _ _ _ HB0.out (by omega))
          clear hA3
          simp only [Int.natCast_one] at hs3
          have hz2 := hid (show rd code 4 3 0 l 0 = rd code 4 (3 - (k + 1)) (k + 1) (r.drop 1) (a + b8.toNat * 2 ^ (8 * k)) from by
            rw [hz.out, hr.out, show 3 - k = (3 - (k + 1)) + 1 by omega, rd_succ, HT2.out]; simp)
          have hlt2 := hid (add_lt HA.out hb)
          have hor := off_or (by omega) hb HA.out
          generalize b8.toNat = b at *
          generalize a + b * 2 ^ (8 * k) = acc at *
          go_wp2_with fail
          go_quiet (fail)
          go_wp2_with fail
          go_roundw
          case rel => exact ⟨k + 1, acc, m - 1, A3, r.drop 1, by omega, by go_num, rfl, by rw [show cap - (n - m) - 1 = cap - (n - (m - 1)) by omega], by omega, hlt2.out, below_drewN (hba.out _) _, hcut.out, hz2⟩
          case measure => simp [RowKit.intOf]; omega
    · have hk4 : k = 3 := by omega
      subst hk4
      have hz2 : Hid (rd code 4 3 0 l 0 = some (a, r)) := hid (by rw [hz.out]; rfl)
      have hrl : Hid (r.length = m) := hid HB0.out.len
      have h24 := hid (Nat.lt_of_lt_of_le HA.out (by decide : 2 ^ (8 * 3) ≤ 4294967296))
      by_cases ha0 : a = 0
      · subst ha0
        go_wp2_with fail
        refine bodyPost_ret (by simp [results, Tryd.results25, go_sem]; rfl) rfl ?_
        unfold OffEnd; rw [hz2.out]
        exact ⟨Hb.out, A', by rw [hrl.out, show copySize 0 = 65536 from rfl]; simp, by rw [hrl.out]; exact HB0.out, by rw [hrl.out]; exact hm, h24.out⟩
      · have ea : ((a : Int) == 0) = false := by simpa using ha0
        have HA0 := hid ha0
        clear ha0
        go_wp2_with fail
        refine bodyPost_ret (by simp [results, Tryd.results25, go_sem]; rfl) rfl ?_
        unfold OffEnd; rw [hz2.out]
        exact ⟨Hb.out, A', by rw [hrl.out]; unfold copySize; rw [if_neg HA0.out], by rw [hrl.out]; exact HB0.out, by rw [hrl.out]; exact hm, h24.out⟩
end Go.Proofs.YtfanginpfppdeaaDoor.delta
