/- spec.ChunkLines. -/
import Derived.Test.YtkjfndkcagkhaaaDoorSdText
import Derived.Test.YtkjfndkcagkhaaaDoorPktWrite
set_option linter.unusedVariables false
attribute [local go_sem ↓] Go.wp_at_zero Go.wp_at_succ
namespace Go.Proofs.YtkjfndkcagkhaaaDoor.side
open Go.RowKit Lib frm mem text pkt rd opn

theorem lines_snoc (ps : List (List UInt8)) (p : List UInt8) : lines (ps ++ [p]) = lines ps ++ line p := by simp [lines]
theorem lines_len (xs : List ChD) (h : ∀ x ∈ xs, x.t.length ≤ 60000) : (lines (xs.map payOf)).length ≤ 60005 * xs.length := by
  induction xs with
  | nil => simp [lines]
  | cons x xs ih =>
    have h1 := h x (by simp)
    have h2 := ih (fun y hy => h y (by simp [hy]))
    have e : lines ((x :: xs).map payOf) = line (payOf x) ++ lines (xs.map payOf) := by simp [lines]
    rw [e, List.length_append, List.length_cons, line_len]
    have h3 : (payOf x).length = x.t.length + 1 := rfl
    omega
theorem lit_own (w : World) (v : Value) : (w.alloc (.cells #[v] U8)).ownsRow w.heap.size U8 1 (.slice (some ⟨w.heap.size, 0, none⟩) 1 1) 1 [v] :=
  ⟨rfl, .inr ⟨w.heap.size, 1, #[v], rfl, Nat.le_refl _, heap_alloc_new w _, Nat.le_refl _, by decide, rfl, rfl⟩⟩
attribute [local go_sem] ChD.cells
set_option maxRecDepth 100000 in
set_option maxHeartbeats 8000000 in
theorem chunkLines_calls (B : Nat) (A : Option Addr) (n c : Nat) (xs : List ChD) (w : World) (h : ChSl w B A n xs) (hB : B ≤ w.heap.size) (hn : n ≤ 60) (hl : ∀ x ∈ xs, ChOk x) :
    Calls Tryd.prog 18 #[.slice A n c] w (OwnText w (lines (xs.map payOf))) := by
  obtain ⟨i0, hi, hz0, hz1, hz2⟩ := info_parts mem.infoByte
  have hn' : (n : Int) ≤ 60 := by omega
  have H := hid h
  have HL := hid hl
  have HBB := hid hB
  have HN : Hid (n = xs.length) := hid h.1.2.1.symm
  clear h hl hn hB
  go_enter Tryd.func18, Tryd.ntmps18
  go_wp2_with fail
  go_loopw [3, 8] (fun vv iv wr => ∃ (k N : Nat), k ≤ n ∧ iv = .int .i64 k ∧ Hid (Below w.heap.size w wr) ∧ Hid (N = (lines ((xs.take k).map payOf)).length) ∧ Hid (wr.ownsRow w.heap.size U8 1 vv N (byteCells (lines ((xs.take k).map payOf))))) (fun _ iv _ => n - (RowKit.intOf iv).toNat)
  case atStart => exact ⟨0, 0, by omega, rfl, hid (Below.refl _ _), hid (by simp [lines]), hid (World.ownsRow_nil _ _ _ _)⟩
  case round =>
    obtain ⟨k, N, hk, rfl, hK, hN, hO⟩ := hrel
    by_cases hlt : k < n
    · obtain ⟨g, o, x, D, d, rfl, hxk, hmem, hR, hxt, hd, hBt⟩ := H.out.at_ (hK.out.mono HBB.out) hlt
      have HR := hid hR
      have HX := hid hxk
      have HO1 := hid (show x.tv.oneCell' = true by rw [hxt]; rfl)
      obtain ⟨q, hq⟩ : ∃ q, q = x.t.length := ⟨_, rfl⟩
      have hok := HL.out x hmem
      have hq' : q ≤ 60000 := by have := hok.l; omega
      have hN' : N ≤ 3600300 := by
        rw [hN.out]
        have := lines_len (xs.take k) (fun y hy => (HL.out y (List.mem_of_mem_take hy)).l)
        have h2 : (xs.take k).length ≤ k := by simp; omega
        omega
      rw [← hq] at hxt hBt
      have HXT := hid hxt
      have HQ := hid hq
      have HBT := hid hBt
      have HCH := hid hok.c
      have hlt' : (k : Int) < n := by omega
      clear hR hxk hmem hxt hd hBt hq hok
      rcases HCH.out with hc | hc
      · have HC := hid hc
        have HPX : Hid (payOf x = 1 :: x.t) := hid (by unfold payOf; rw [hc]; rfl)
        clear hc
        go_wp2_with (first
          | (refine wpList_load_mid rfl Cty (.tmp 10) rfl g (o + k * 2) rfl x.cells _ HR.out Tryd.underlying73 rfl infoC ?_)
          | (refine wpList_store_kept rfl Cty (.tmp 5) (.tmp 11) rfl wr.heap.size x.cells.toArray rfl rfl Cty _ (Blk.new wr Cty _) (ch_sz x) rfl (ch_all x HO1.out) ?_; intro w2 h1 h2 h3; have HBK2 := hid h1.out; have q0 : w2.cell? ⟨wr.heap.size, 0, none⟩ = some (.int .i64 1) := (by rw [← HC.out]; exact h1.out.cell 0 rfl); have q1 : (w2.alloc (.cells #[.int .u8 1] U8)).cell? ⟨wr.heap.size, 1, none⟩ = some (.slice D q d) := (by rw [← HXT.out]; exact (h1.out.alloc _).cell 1 rfl); have hk2 : Kept [] wr w2 := ((Kept.refl [] wr).alloc _).trans h2.out (by simp); have HK2 := hid (hK.out.trans (hk2.below hK.out.size (by simp))); have HO2 := hid (own_kept hO.out hk2 (by simp)); have HB2 := hid ((HBT.out.below (((hk2.alloc (.cells #[.int .u8 1] U8))).below (Nat.le_trans HBB.out hK.out.size) (by simp))).1); clear h1 h2 h3 hk2)
          | (at_builtin; refine wpList_append_any _ rfl (.tmp 16) (.tmp 18) _ rfl w2.heap.size U8 i0 _ 1 1 Tryd.underlying25 hi hz0 hz1 hz2 (by rfl) (by omega) (.slice (some ⟨w2.heap.size, 0, none⟩) 1 1) 1 [.int .u8 1] rfl (lit_own w2 (.int .u8 1)) B D q d (byteCells x.t) rfl HB2.out (cells_one _) (by simp only [maxLen]; omega) (by omega) (by simp) ?_; intro v6 w6 hown6 hg6 hat6; obtain ⟨A6, c6, rfl, -⟩ := row_some hown6; have H6 := hid (And.intro hown6 hg6); clear hown6 hg6 hat6)
          | fail)
        have hp6 : w6.ownsRow w2.heap.size U8 1 (.slice A6 (1 + q) c6) (1 + q) (byteCells (1 :: x.t)) := by have := H6.out.1; simpa [byteCells] using this
        obtain ⟨A7, c7, e7, -, hb7, -⟩ := own_bytes hp6
        injection e7 with e7 _ e8
        subst e7 e8
        have hpl : (1 :: x.t : List UInt8).length = 1 + q := by rw [List.length_cons, ← HQ.out]; omega
        have hk6 : Kept [w2.heap.size] (w2.alloc (.cells #[.int .u8 1] U8)) w6 := by have := own_grown (lit_own w2 (.int .u8 1)) H6.out.2; simpa [Value.ownBlock] using this
        have hk26 : Kept [] w2 w6 := ((Kept.refl [] w2).alloc _).trans hk6 (by simp)
        have HK6 := hid (HK2.out.trans (hk26.below HK2.out.size (by simp)))
        have HO6 := hid (own_kept HO2.out hk26 (by simp))
        have c7' := line_calls A6 c6 w6.heap.size (1 :: x.t) w6 (by rw [hpl]; exact hb7) (Nat.le_refl _) (by rw [hpl]; omega)
        rw [hpl] at c7'
        have C7 := hid c7'
        clear hp6 hb7 hpl hk6 hk26 c7' q0 q1
        refine C7.out.mono ?_
        rintro e w8 ⟨A8, c8, rfl, hc8, hb8, hbl8⟩
        have HB8 := hid hb8.1
        have hll : (line (1 :: x.t)).length ≤ 60005 := by rw [line_len, List.length_cons, ← HQ.out]; omega
        obtain ⟨r, hr⟩ : ∃ r, r = (line (1 :: x.t)).length := ⟨_, rfl⟩
        rw [← hr] at hll HB8 ⊢
        have HRR := hid hr
        have HK8 := hid (HK6.out.trans ((Kept.of_below (S := []) hbl8).below HK6.out.size (by simp)))
        have HO8 := hid (own_kept HO6.out (Kept.of_below (S := []) hbl8) (by simp))
        clear hc8 hb8 hbl8 hr
        go_wp2_with (at_builtin; refine wpList_append_any _ rfl (.tmp 12) (.tmp 20) _ rfl w.heap.size U8 i0 _ 1 1 Tryd.underlying25 hi hz0 hz1 hz2 (by rfl) (by omega) u3 N _ rfl HO8.out w8.heap.size A8 r c8 (byteCells (line (1 :: x.t))) rfl HB8.out (cells_one _) (by simp only [maxLen]; omega) (by omega) HK8.out.size ?_; intro v9 w9 hown9 hg9 hat9; have H9 := hid (And.intro hown9 hg9); clear hown9 hg9 hat9)
        have hT : lines ((xs.take (k + 1)).map payOf) = lines ((xs.take k).map payOf) ++ line (1 :: x.t) := by rw [take_snoc HX.out, List.map_append, List.map_singleton, lines_snoc, HPX.out]
        have HN9 := hid (show N + r = (lines ((xs.take (k + 1)).map payOf)).length by rw [hT, List.length_append, ← hN.out, ← HRR.out])
        have HO9 : Hid (w9.ownsRow w.heap.size U8 1 v9 (N + r) (byteCells (lines ((xs.take (k + 1)).map payOf)))) := hid (by rw [hT]; have := H9.out.1; simpa [byteCells] using this)
        have HK9 := hid (below_own HK8.out HO8.out H9.out.2)
        clear hT
        go_roundw
        case rel => exact ⟨k + 1, N + r, by omega, by go_num, HK9, HN9, HO9⟩
        case measure => simp [RowKit.intOf]; omega
      · have HC := hid hc
        have HPX : Hid (payOf x = 2 :: x.t) := hid (by unfold payOf; rw [hc]; rfl)
        clear hc
        go_wp2_with (first
          | (refine wpList_load_mid rfl Cty (.tmp 10) rfl g (o + k * 2) rfl x.cells _ HR.out Tryd.underlying73 rfl infoC ?_)
          | (refine wpList_store_kept rfl Cty (.tmp 5) (.tmp 11) rfl wr.heap.size x.cells.toArray rfl rfl Cty _ (Blk.new wr Cty _) (ch_sz x) rfl (ch_all x HO1.out) ?_; intro w2 h1 h2 h3; have HBK2 := hid h1.out; have q0 : w2.cell? ⟨wr.heap.size, 0, none⟩ = some (.int .i64 2) := (by rw [← HC.out]; exact h1.out.cell 0 rfl); have q1 : (w2.alloc (.cells #[.int .u8 2] U8)).cell? ⟨wr.heap.size, 1, none⟩ = some (.slice D q d) := (by rw [← HXT.out]; exact (h1.out.alloc _).cell 1 rfl); have hk2 : Kept [] wr w2 := ((Kept.refl [] wr).alloc _).trans h2.out (by simp); have HK2 := hid (hK.out.trans (hk2.below hK.out.size (by simp))); have HO2 := hid (own_kept hO.out hk2 (by simp)); have HB2 := hid ((HBT.out.below (((hk2.alloc (.cells #[.int .u8 2] U8))).below (Nat.le_trans HBB.out hK.out.size) (by simp))).1); clear h1 h2 h3 hk2)
          | (at_builtin; refine wpList_append_any _ rfl (.tmp 16) (.tmp 18) _ rfl w2.heap.size U8 i0 _ 1 1 Tryd.underlying25 hi hz0 hz1 hz2 (by rfl) (by omega) (.slice (some ⟨w2.heap.size, 0, none⟩) 1 1) 1 [.int .u8 2] rfl (lit_own w2 (.int .u8 2)) B D q d (byteCells x.t) rfl HB2.out (cells_one _) (by simp only [maxLen]; omega) (by omega) (by simp) ?_; intro v6 w6 hown6 hg6 hat6; obtain ⟨A6, c6, rfl, -⟩ := row_some hown6; have H6 := hid (And.intro hown6 hg6); clear hown6 hg6 hat6)
          | fail)
        have hp6 : w6.ownsRow w2.heap.size U8 1 (.slice A6 (1 + q) c6) (1 + q) (byteCells (2 :: x.t)) := by have := H6.out.1; simpa [byteCells] using this
        obtain ⟨A7, c7, e7, -, hb7, -⟩ := own_bytes hp6
        injection e7 with e7 _ e8
        subst e7 e8
        have hpl : (2 :: x.t : List UInt8).length = 1 + q := by rw [List.length_cons, ← HQ.out]; omega
        have hk6 : Kept [w2.heap.size] (w2.alloc (.cells #[.int .u8 2] U8)) w6 := by have := own_grown (lit_own w2 (.int .u8 2)) H6.out.2; simpa [Value.ownBlock] using this
        have hk26 : Kept [] w2 w6 := ((Kept.refl [] w2).alloc _).trans hk6 (by simp)
        have HK6 := hid (HK2.out.trans (hk26.below HK2.out.size (by simp)))
        have HO6 := hid (own_kept HO2.out hk26 (by simp))
        have c7' := line_calls A6 c6 w6.heap.size (2 :: x.t) w6 (by rw [hpl]; exact hb7) (Nat.le_refl _) (by rw [hpl]; omega)
        rw [hpl] at c7'
        have C7 := hid c7'
        clear hp6 hb7 hpl hk6 hk26 c7' q0 q1
        refine C7.out.mono ?_
        rintro e w8 ⟨A8, c8, rfl, hc8, hb8, hbl8⟩
        have HB8 := hid hb8.1
        have hll : (line (2 :: x.t)).length ≤ 60005 := by rw [line_len, List.length_cons, ← HQ.out]; omega
        obtain ⟨r, hr⟩ : ∃ r, r = (line (2 :: x.t)).length := ⟨_, rfl⟩
        rw [← hr] at hll HB8 ⊢
        have HRR := hid hr
        have HK8 := hid (HK6.out.trans ((Kept.of_below (S := []) hbl8).below HK6.out.size (by simp)))
        have HO8 := hid (own_kept HO6.out (Kept.of_below (S := []) hbl8) (by simp))
        clear hc8 hb8 hbl8 hr
        go_wp2_with (at_builtin; refine wpList_append_any _ rfl (.tmp 12) (.tmp 20) _ rfl w.heap.size U8 i0 _ 1 1 Tryd.underlying25 hi hz0 hz1 hz2 (by rfl) (by omega) u3 N _ rfl HO8.out w8.heap.size A8 r c8 (byteCells (line (2 :: x.t))) rfl HB8.out (cells_one _) (by simp only [maxLen]; omega) (by omega) HK8.out.size ?_; intro v9 w9 hown9 hg9 hat9; have H9 := hid (And.intro hown9 hg9); clear hown9 hg9 hat9)
        have hT : lines ((xs.take (k + 1)).map payOf) = lines ((xs.take k).map payOf) ++ line (2 :: x.t) := by rw [take_snoc HX.out, List.map_append, List.map_singleton, lines_snoc, HPX.out]
        have HN9 := hid (show N + r = (lines ((xs.take (k + 1)).map payOf)).length by rw [hT, List.length_append, ← hN.out, ← HRR.out])
        have HO9 : Hid (w9.ownsRow w.heap.size U8 1 v9 (N + r) (byteCells (lines ((xs.take (k + 1)).map payOf)))) := hid (by rw [hT]; have := H9.out.1; simpa [byteCells] using this)
        have HK9 := hid (below_own HK8.out HO8.out H9.out.2)
        clear hT
        go_roundw
        case rel => exact ⟨k + 1, N + r, by omega, by go_num, HK9, HN9, HO9⟩
        case measure => simp [RowKit.intOf]; omega
    · have hlt' : ¬ (k : Int) < n := by omega
      obtain rfl : k = n := by omega
      have e : xs.take k = xs := List.take_of_length_le (by have := HN.out; omega)
      have hO' := hO.out
      have hN' := hN.out
      rw [e] at hO' hN'
      have H9 := hid hO'
      have HN9 := hid hN'
      clear hO' hN' e
      go_wp2_with fail
      go_ret
      refine ⟨_, rfl, hK.out, ?_⟩
      rw [← HN9.out]; exact H9.out
end Go.Proofs.YtkjfndkcagkhaaaDoor.side
