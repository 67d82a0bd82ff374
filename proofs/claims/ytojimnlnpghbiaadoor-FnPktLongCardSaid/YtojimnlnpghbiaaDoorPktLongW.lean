/- FnPktLong, walked, second half. -/
import Derived.Test.YtojimnlnpghbiaaDoorPktLong
set_option linter.unusedVariables false
attribute [local go_sem ↓] Go.wp_at_zero Go.wp_at_succ
namespace Go.Proofs.YtojimnlnpghbiaaDoor.pkt
open Go.RowKit Lib frm mem rd text

theorem rows_one {w : World} {R B : Nat} {D : Option Addr} {d : Nat} {l : List UInt8} (h : w.cell? ⟨R, 0, none⟩ = some (.slice D l.length d)) (hR : R < B) (hd : l.length ≤ d) (hl : Bytes w B D l.length l) : Rows w B (some ⟨R, 0, none⟩) 1 [l] := by
  refine ⟨[.slice D l.length d], ⟨rfl, fun _ => ⟨_, rfl, hR, fun j u hu => ?_⟩⟩, .cons ⟨D, d, rfl, hd, hl⟩ .nil, fun _ => ⟨_, _, rfl⟩⟩
  match j, hu with
  | 0, hu =>
    simp at hu
    subst hu
    exact h
/-- a row of 65516 cells, k of them written -/
def Long (w : World) (L : Nat) (v : Value) (k : Nat) : Prop := ∃ cs : List Value, cs.length = 65516 ∧ cs.take k = List.replicate k v ∧ Blk w L 5 cs.toArray
theorem Long.of_own {w : World} {B L : Nat} {v : Value} {xs : List Value} (h : w.ownsRow B 5 1 (.slice (some ⟨L, 0, none⟩) 65516 65516) 65516 xs) : Long w L v 0 := by
  rcases h.2 with ⟨h1, _⟩ | ⟨g, cap, cur, h1, _, hg, _, _, hcs, _⟩
  · cases h1
  · injection h1 with h1 h2 h3
    injection h1 with h1
    injection h1 with h1
    subst h1
    exact ⟨cur.toList, by rw [Array.length_toList, hcs, ← h3], by simp, hg⟩
theorem Long.at_ {w : World} {L k : Nat} {v : Value} (h : Long w L v k) (hk : k < 65516) : (∃ u, w.cell? ⟨L, k, none⟩ = some u) ∧ w.frozen? ⟨L, k, none⟩ = false ∧ Long (w.setCell ⟨L, k, none⟩ v) L v (k + 1) := by
  obtain ⟨cs, hl, ht, hb⟩ := h
  refine ⟨⟨cs[k], hb.cell k (by simp)⟩, hb.frozen k, cs.set k v, by simpa using hl, ?_, ?_⟩
  · rw [List.take_succ_eq_append_getElem (by simp; omega), List.take_set_of_le (Nat.le_refl _), ht, List.getElem_set_self, List.replicate_succ']
  · have := hb.set_ k v
    simpa using this
theorem Long.bytes {w : World} {L B n : Nat} {x : UInt8} {l : List UInt8} (h : Long w L (.int .u8 x.toNat) n) (hn : n = 65516) (hl : l = List.replicate n x) (hB : L < B) : Bytes w B (some ⟨L, 0, none⟩) n l := by
  obtain ⟨cs, hc, ht, hb⟩ := h
  rw [List.take_of_length_le (by omega)] at ht
  subst hl
  refine ⟨⟨by simp [Lib.byteCells], fun _ => ⟨_, rfl, hB, fun j u hu => ?_⟩⟩, fun _ => ⟨_, _, rfl⟩⟩
  rw [Lib.addr_add, Nat.zero_add]
  refine hb.cell j ?_
  rw [ht, ← hu, List.getElem?_toArray]
  unfold Lib.byteCells
  rw [List.map_replicate]
theorem Long.below {w w' : World} {L k : Nat} {v : Value} (h : Long w L v k) (hb : Below w.heap.size w w') : Long w' L v k := by
  obtain ⟨cs, h1, h2, h3⟩ := h
  exact ⟨cs, h1, h2, h3.below hb h3.lt⟩
theorem more_to (n : Int) : ∃ m : Nat, 0 < m ∧ m ≤ 9 ∧ wrap64 (1 + (wrap64 (n.tmod 9 + 9)).tmod 9) = (m : Int) := by
  have h1 : -9 < n.tmod 9 := Int.lt_tmod_of_pos n (by omega)
  have h2 : n.tmod 9 < 9 := Int.tmod_lt_of_pos n (by omega)
  generalize n.tmod 9 = a at *
  have e1 : wrap64 (a + 9) = a + 9 := by unfold wrap64; omega
  rw [e1]
  have h3 : 0 ≤ (a + 9).tmod 9 := Int.tmod_nonneg 9 (by omega)
  have h4 : (a + 9).tmod 9 < 9 := Int.tmod_lt_of_pos (a + 9) (by omega)
  generalize (a + 9).tmod 9 = b at *
  refine ⟨(1 + b).toNat, by omega, by omega, ?_⟩
  unfold wrap64
  omega
theorem first_of {P : Program} {w : World} {B n c : Nat} {a : Addr} {l : List UInt8} (h : Bytes w B (some a) n l) : (Builtin.firstCells 1 n (.slice (some a) n c)).run P w.drew = .ok (Lib.byteCells l).toArray w.drew := by
  refine run_firstCells_some (P := P) (w := w.drew) 1 n a n c (Lib.byteCells l) h.1.1 fun j v hj => ?_
  have hn : 0 < n := by
    have h1 := h.1.1
    have := (List.getElem?_eq_some_iff.1 hj).1
    omega
  obtain ⟨ad, e, _, hc⟩ := h.1.2 hn
  injection e with e
  subst e
  exact hc j v hj
set_option maxRecDepth 100000 in
set_option maxHeartbeats 4000000 in
theorem long_calls (x : UInt8) (more : Int) (pe pu pl : Addr) (w : World) (hT : Two w pe pu) (hE : errCell w pl) (hg : 1 < w.heap.size) :
    Calls Tryd.prog 3 #[.int .u8 x.toNat, .int .i64 more] w (Yes w) := by
  obtain ⟨i0, hi, hz0, hz1, hz2⟩ := info_parts mem.infoByte
  have HT := hid hT
  have HE := hid (And.intro hE hg)
  clear hT hE hg
  go_enter Tryd.func3, Tryd.ntmps3
  go_wp2_with (at_make; refine wpList_make_full _ rfl _ _ 22 rfl w.heap.size 5 i0 _ 1 Tryd.underlying22 hi hz0 hz1 .i64 .i64 65516 65516 65516 rfl rfl rfl rfl (by rw [hz2]; decide) (by decide) (Nat.le_refl _) ?_; intro w1 hown hgr; have H1 := hid (And.intro (Long.of_own (v := .int .u8 x.toNat) hown) hgr); clear hown hgr)
  have hb1 : Below w.heap.size w w1 := (Below.refl _ _).grown H1.out.2 (Nat.le_refl _) (by simp)
  obtain ⟨L, hL⟩ : ∃ L, L = w.heap.size := ⟨_, rfl⟩
  have HB1 := hid hb1
  have HL0 := hid (show Long w1 L (.int .u8 x.toNat) 0 by rw [hL]; exact H1.out.1)
  have HLe := hid (show w.heap.size ≤ L by omega)
  rw [← hL]
  clear hb1 hL H1
  go_wp2_with fail
  go_loopw [16] (fun iv wr => ∃ k : Nat, k ≤ 65516 ∧ iv = .int .i64 (k : Int) ∧ Long wr L (.int .u8 x.toNat) k ∧ Below w.heap.size w wr) (fun iv _ => 65516 - (RowKit.intOf iv).toNat)
  case atStart => exact ⟨0, by omega, rfl, HL0.out, HB1.out⟩
  case round =>
    obtain ⟨k, hk, rfl, hlo, hb⟩ := hrel
    have HLo := hid hlo
    have HB := hid hb
    clear hlo hb
    by_cases hlt : k < 65516
    · obtain ⟨⟨u, hc⟩, hf, hnext⟩ := HLo.out.at_ hlt
      have HN := hid hnext
      have hlt' : (k : Int) < 65516 := by omega
      have hk0 : (0 : Int) ≤ k := by omega
      clear hnext
      go_wp2_with fail
      go_roundw
      case rel => exact ⟨k + 1, by omega, by go_num, HN.out, HB.out.setCell HLe.out _⟩
      case measure => simp [RowKit.intOf]; omega
    · have hkk : k = 65516 := by omega
      have HLg := hid (show Long wr L (.int .u8 x.toNat) 65516 by rw [← hkk]; exact HLo.out)
      have hlt' : ¬ (k : Int) < 65516 := by omega
      obtain ⟨lg, hlg⟩ : ∃ lg, lg = List.replicate 65516 x := ⟨_, rfl⟩
      have hlen : Hid (lg.length = 65516) := hid (by rw [hlg, List.length_replicate])
      have hgood : Hid (Good lg) := hid ⟨by rw [hlen.out]; omega, by rw [hlg]; exact isErr_rep x _ (by omega)⟩
      have HLD := hid hlg
      clear hlg hkk HLo hlt hk
      go_wp2_with fail
      obtain ⟨R, hR⟩ : ∃ R, R = wr.heap.size := ⟨_, rfl⟩
      have hc2 : (wr.alloc (.cells #[.slice (some ⟨L, 0, none⟩) 65516 65516] 22)).cell? ⟨R, 0, none⟩ = some (.slice (some ⟨L, 0, none⟩) 65516 65516) := by rw [hR, Lib.cell_of_heap (heap_alloc_new wr _)]; rfl
      have hb2 : Below w.heap.size w (wr.alloc (.cells #[.slice (some ⟨L, 0, none⟩) 65516 65516] 22)) := HB.out.alloc HB.out.size _
      have hl2 : Long (wr.alloc (.cells #[.slice (some ⟨L, 0, none⟩) 65516 65516] 22)) L (.int .u8 x.toNat) 65516 := HLg.out.below ((Below.refl _ _).alloc (Nat.le_refl _) _)
      have hr2 : R < (wr.alloc (.cells #[.slice (some ⟨L, 0, none⟩) 65516 65516] 22)).heap.size := by simp [hR]
      rw [← hR]
      generalize wr.alloc _ = w2 at *
      have hy2 := hl2.bytes (B := w2.heap.size) rfl HLD.out (by obtain ⟨_, _, _, h⟩ := hl2; exact h.lt)
      have hrows : Rows w2 w2.heap.size (some ⟨R, 0, none⟩) 1 [lg] := rows_one (d := 65516) (D := some ⟨L, 0, none⟩) (by rw [hlen.out]; exact hc2) hr2 (by rw [hlen.out]; exact Nat.le_refl _) (by rw [hlen.out]; exact hy2)
      have p1 := hid (writeLines_calls (some ⟨R, 0, none⟩) 1 1 [lg] w2 hrows (by omega) (by intro q hq; simp at hq; subst hq; exact hgood.out.1))
      have HB2 := hid hb2
      have HY2 := hid hy2
      clear hb2 hl2 hr2 hy2 hrows hR hc2 HLg HB HL0 HB1
      refine p1.out.mono ?_
      rintro e w3 ⟨hb3, v1, rfl, ho3⟩
      obtain ⟨A1, c1, rfl, hc1, hy1, _⟩ := own_bytes ho3
      have HB3 := hid (below_more HB2.out hb3)
      have HY3 := hid ((HY2.out.below hb3).more hb3.size)
      have hll := lines_len [lg] (by intro q hq; simp at hq; subst hq; exact hgood.out.1)
      have r1 := hid (readLines_calls A1 _ c1 _ [lg] pe pu w3 hy1 hc1 (by simp at hll; omega) rfl (by intro q hq; simp at hq; subst hq; exact hgood.out) (by simp) (HT.out.below_ HB3.out))
      clear hb3 ho3 hc1 hy1 p1 HY2 hll
      go_wp2_with fail
      refine r1.out.mono ?_
      rintro e w4 ⟨v4, vs4, rfl, ho4, hr4, hb4⟩
      have HB4 := hid (below_more HB3.out hb4)
      obtain ⟨A4, c4, rfl, hc4, hR4⟩ := rows_of_own ho4 (hr4.mono fun v l h => rowV_B h) (Nat.le_refl _)
      have HR4 := hid hR4
      have HY4 := hid ((HY3.out.below hb4).more hb4.size)
      clear r1 ho4 hr4 hb4 hc4 hR4
      obtain ⟨m, hm0, hm9, hm⟩ : ∃ m : Nat, 0 < m ∧ m ≤ 9 ∧ wrap64 (1 + (wrap64 (more.tmod 9 + 9)).tmod 9) = (m : Int) := more_to more
      have hrun := fun ty => run_append_grow_zeros (P := Tryd.prog) w4 22 3 ty 5 i0 _ .i64 .i64 Tryd.underlying22 Tryd.underlying3 hi hz0 (some ⟨L, 0, none⟩) 65516 65516 (Lib.byteCells lg) (by rw [hz1]; exact first_of HY4.out) m hm0 (by rw [hz1]; omega) (by omega) (by omega) (by rw [hz2]; omega) (by rw [hz2]; exact next_ok m hm0 hm9)
      have HM := hid (And.intro hm0 hm9)
      clear hm0 hm9
      generalize hcap : grownCap w4 (65516 + m) 65516 5 = cap at hrun
      generalize hcs : (Lib.byteCells lg).toArray ++ Builtin.zeroCells _ m ++ Builtin.zeroCells _ (cap - (65516 + m)) = cs at hrun
      clear hcap hcs
      have HRUN := hid hrun
      clear hrun
      go_wp2_with (at_builtin; refine wpList_append_run rfl (.tmp 36) (.tmp 41) 22 3 rfl (.slice (some ⟨L, 0, none⟩) 65516 65516) (.int .i64 (m : Int)) (.slice (some ⟨w4.heap.size, 0, none⟩) (65516 + m) cap) (w4.drew.alloc (.cells cs 5)) rfl (congrArg (Value.int .i64) hm) (HRUN.out _) ?_)
      have hb6 : Below w4.heap.size w4 ((w4.alloc (.cells cs 5)).alloc (.cells #[.slice (some ⟨w4.heap.size, 0, none⟩) (65516 + m) cap] 22)).drew := by
        have h := ((Below.refl w4.heap.size w4).alloc (Nat.le_refl _) (.cells cs 5)).alloc (by simp) (.cells #[.slice (some ⟨w4.heap.size, 0, none⟩) (65516 + m) cap] 22)
        exact ⟨h.os, h.tape, h.output, h.size, h.block⟩
      have hc6 : ((w4.alloc (.cells cs 5)).alloc (.cells #[.slice (some ⟨w4.heap.size, 0, none⟩) (65516 + m) cap] 22)).drew.cell? ⟨w4.heap.size + 1, 0, none⟩ = some (.slice (some ⟨w4.heap.size, 0, none⟩) (65516 + m) cap) := by
        simp
      have hr6 : w4.heap.size + 1 < ((w4.alloc (.cells cs 5)).alloc (.cells #[.slice (some ⟨w4.heap.size, 0, none⟩) (65516 + m) cap] 22)).drew.heap.size := by
        show _ < ((w4.alloc (.cells cs 5)).alloc (.cells #[.slice (some ⟨w4.heap.size, 0, none⟩) (65516 + m) cap] 22)).heap.size
        simp
      generalize ((w4.alloc (.cells cs 5)).alloc (.cells #[.slice (some ⟨w4.heap.size, 0, none⟩) (65516 + m) cap] 22)).drew = w6 at *
      have hbw := below_more HB4.out hb6
      have q1 := hid (write_long (w4.heap.size + 1) (65516 + m) cap _ pl w6 (by have := HM.out; omega) ((hbw.cell (p := ⟨_, 0, none⟩) HE.out.2).trans HE.out.1) (Nat.lt_of_lt_of_le HE.out.2 hbw.size) hc6 hr6)
      have HR6 := hid (two_frame (B := 0) HR4.out hb6)
      have HY6 := hid ((HY4.out.below hb6).more hb6.size)
      have HB6 := hid hbw
      clear hb6 hc6 hr6 hbw HRUN
      refine q1.out.mono ?_
      rintro e w7 ⟨hb7, v7, rfl⟩
      have hR7 := two_frame (B := 0) HR6.out hb7
      have hY7 := (HY6.out.below hb7).more hb7.size
      have HB7 := hid (below_more HB6.out hb7)
      obtain ⟨g, o, D, d, p, rfl, hg, hcell, _, hp, hpd, hbp⟩ := hR7.next (k := 0) (by simp)
      obtain rfl : lg = p := by simpa using hp
      have hcell' : w7.cell? ⟨g, o, none⟩ = some (.slice D lg.length d) := hcell
      have s1 := deltaSame_calls D (some ⟨L, 0, none⟩) d 65516 _ _ lg w7 hbp (by rw [hlen.out]; exact hY7)
      rw [hlen.out] at s1 hcell'
      have HS1 := hid s1
      clear s1 hcell hR7 hY7 hb7 q1 hp hpd hbp hg
      go_wp2_with fail
      refine HS1.out.mono ?_
      rintro e w8 ⟨rfl, hx⟩
      obtain rfl : w7 = w8 := hx.symm
      clear hx
      go_wp2_with fail
      go_ret
      exact ⟨rfl, HB7.out⟩
end Go.Proofs.YtojimnlnpghbiaaDoor.pkt
