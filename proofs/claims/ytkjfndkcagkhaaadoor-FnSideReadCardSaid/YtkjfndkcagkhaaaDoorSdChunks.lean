/- spec.Chunks: what it tells. -/
import Derived.Test.YtkjfndkcagkhaaaDoorSdRl
set_option linter.unusedVariables false
attribute [local go_sem ↓] Go.wp_at_zero Go.wp_at_succ
namespace Go.Proofs.YtkjfndkcagkhaaaDoor.side
open Go.RowKit Lib frm mem text pkt rd opn

theorem infoCh : (Tryd.prog.info? Cty).map (fun i => (i.zero, i.size, i.bytes)) = some (some (.agg #[.int .i64 0, .slice none 0 0]), 2, 32) := by kernel_rfl
theorem two_new (w : World) (a b : Value) (e : TypeId) : Reads (w.alloc (.cells #[a, b] e)) (w.heap.size + 1) 2 (some ⟨w.heap.size, 0, none⟩) 1 [a, b] :=
  ⟨rfl, fun _ => ⟨_, rfl, by simp, fun j u hu => by
    rw [Lib.addr_add, Nat.zero_add, Lib.cell_of_heap (heap_alloc_new w _) j]
    match j, hu with
    | 0, hu => exact hu
    | 1, hu => exact hu⟩⟩
theorem own_at {w : World} {base n : Nat} {e : TypeId} {v : Value} {vs : List Value} (h : w.ownsRow base e 1 v n vs) {k : Nat} (hk : k < n) : ∃ g o c u, v = .slice (some ⟨g, o, none⟩) n c ∧ vs[k]? = some u ∧ w.cell? ⟨g, o + k, none⟩ = some u := by
  rcases id h with ⟨hl, ⟨rfl, h0⟩ | ⟨g, cap, cur, rfl, hBg, hg, hnc, hcm, hcs, htk⟩⟩
  · omega
  · have hkl : k < vs.length := by omega
    refine ⟨g, 0, cap, vs[k], rfl, List.getElem?_eq_getElem hkl, ?_⟩
    have := h.cells (g := g) rfl k vs[k] (List.getElem?_eq_getElem hkl)
    rwa [Lib.addr_add] at this
def ChunksIs (ls : List (List UInt8)) (most : Nat) (w : World) (e : Ending) (w' : World) : Prop := Below w.heap.size w w' ∧ ∃ v b, e = .returned (.tuple #[v, .bool b]) ∧ (b = true → ∀ p ∈ ls, p.length ≤ most)
set_option maxRecDepth 100000 in
set_option maxHeartbeats 8000000 in
theorem chunks_calls (B : Nat) (A0 : Option Addr) (n0 c0 most : Nat) (ls : List (List UInt8)) (w : World) (h : Bytes w B A0 n0 (lines ls)) (hc0 : n0 ≤ c0) (hB : B ≤ w.heap.size) (hn : n0 ≤ 140737488355328) (hls : ls.length ≤ 60) (hok : ∀ p ∈ ls, pkt.Good p ∧ ∃ t, t ≠ [] ∧ (p = 1 :: t ∨ p = 2 :: t)) (hmo : most ≤ 100000) :
    Calls Tryd.prog 19 #[.slice A0 n0 c0, .int .i64 most] w (ChunksIs ls most w) := by
  obtain ⟨i0, hi, hz0, hz1, hz2⟩ := info_parts infoCh
  have c1 := hid (readLines_calls B A0 n0 c0 ls w h hc0 hB hn hls (fun p hp => by obtain ⟨hg, t, ht, h | h⟩ := hok p hp; exact ⟨hg, by rw [h]; simp⟩; exact ⟨hg, by rw [h]; simp⟩))
  have hmo' : (most : Int) ≤ 100000 := by omega
  obtain ⟨n, hnn⟩ : ∃ n, n = ls.length := ⟨_, rfl⟩
  have HN := hid hnn
  have hn60 : (n : Int) ≤ 60 := by omega
  have HOK := hid hok
  have HB := hid hB
  clear h hc0 hB hn hls hok hnn hmo
  go_enter Tryd.func19, Tryd.ntmps19
  go_wp2_with fail
  refine c1.out.mono ?_
  rintro e w1 ⟨v, vs, rfl, hb1, hown, hall⟩
  rw [← HN.out] at hown
  obtain ⟨A, c, rfl, hnc⟩ := row_some hown
  have HO := hid hown
  have HA := hid hall
  have HB1 := hid hb1
  have HBW := hid (Nat.le_trans HB.out hb1.size)
  clear hown hall hb1 c1 hnc
  go_wp2_with fail
  go_loopw [8, 20] (fun vv iv wr => ∃ (k : Nat) (xs : List Value), k ≤ n ∧ iv = .int .i64 k ∧ Hid (Below w1.heap.size w1 wr) ∧ Hid (wr.ownsRow w1.heap.size Cty 2 vv k xs) ∧ Hid (∀ i p, i < k → ls[i]? = some p → p.length ≤ most)) (fun _ iv _ => n - (RowKit.intOf iv).toNat)
  case atStart => exact ⟨0, [], by omega, rfl, hid (Below.refl _ _), hid (World.ownsRow_nil _ _ _ _), hid (fun i p h => absurd h (by omega))⟩
  case round =>
    obtain ⟨k, xs, hk, rfl, hK, hR, hP⟩ := hrel
    by_cases hlt : k < n
    · obtain ⟨g2, o2, c2, u, e2, hu, hcell⟩ := own_at HO.out hlt
      obtain ⟨p, hp⟩ : ∃ p, ls[k]? = some p := ⟨_, List.getElem?_eq_getElem (by have := HN.out; omega)⟩
      obtain ⟨A3, c3, rfl, hc3, hb3⟩ := HA.out.at_ hu hp
      injection e2 with eA _ ec
      subst eA
      obtain ⟨hg, t, ht, hpt⟩ := HOK.out p (List.mem_of_getElem? hp)
      have hpl : p.length = t.length + 1 := by rcases hpt with rfl | rfl <;> rfl
      have ht0 := List.length_pos_iff.2 ht
      have hb3' := hb3.below (hK.out.mono HBW.out)
      obtain ⟨g3, o3, b, rfl, _, hc0, hdr, _⟩ := hb3'.next (k := 0) (by omega)
      obtain ⟨z, hz, hz1', hz2'⟩ : ∃ z : Int, z = (b.toNat : Int) ∧ 1 ≤ z ∧ z ≤ 3 := by
        rcases hpt with rfl | rfl
        · simp at hdr; subst hdr; exact ⟨1, rfl, by omega, by omega⟩
        · simp at hdr; subst hdr; exact ⟨2, rfl, by omega, by omega⟩
      rw [← hz, Nat.add_zero] at hc0
      have hcl := (hK.out.cell (p := ⟨g2, o2 + k, none⟩) (World.block_lt_of_cell? _ _ hcell)).trans hcell
      obtain ⟨q, hq⟩ : ∃ q, q = p.length := ⟨_, rfl⟩
      rw [← hq] at hcl hc3
      have hq2 : 2 ≤ q := by omega
      have hqb : q ≤ 65516 := by have := hg.1; omega
      have hqi : (1 : Int) ≤ q := by omega
      have hq0 : ¬ ((q : Int) = 0) := by omega
      have hc31 : ¬ (c3 = 1) := by omega
      have hqn : 0 < q := by omega
      have hwz : IntKind.i64.wrap z = z := IntWalk.i64_in _ (by omega)
      have hq0b : ((q : Int) == 0) = false := by simp; omega
      have hza : decide (z < 1) = false := by simp; omega
      have hzb : decide (3 < z) = false := by simp; omega
      have HX := hid hp
      have HQ := hid hq
      have hlt' : (k : Int) < n := by omega
      clear hu hp hb3 hcell hg ht hpt hpl ht0 hb3' hdr hz hq ec
      by_cases hbig : (most : Int) < q
      · go_wp2_with fail
        go_ret2
        exact ⟨HB1.out.trans (hK.out.mono HB1.out.size), _, _, rfl, nofun⟩
      · have HS := hid (show q ≤ most by omega)
        go_wp2_with fail
        clear hcl
        obtain ⟨C, hC0, hC1, hCk, hCo⟩ : ∃ C : World → Prop, C wr.drew ∧ (∀ w', C w' → w'.cell? ⟨g3, o3, none⟩ = some (.int .u8 z)) ∧ (∀ w' w'', C w' → Kept [] w' w'' → C w'') ∧ (∀ w', C w' → Kept [] wr w') :=
          ⟨fun w' => Kept [] wr w', (Kept.refl _ wr).drew, fun w' h => (h.cell (p := ⟨g3, o3, none⟩) (World.block_lt_of_cell? _ _ hc0) (by simp)).trans hc0, fun _ _ h h' => h.trans_ h', fun _ h => h⟩
        try dsimp only [Act.put]
        refine tail.wp_region_mix C 7 0 1 u8 (by kernel_rfl) (by kernel_rfl) hC0 (fun _ _ _ h => h) (Or.inl ⟨by rfl, fun _ => by rfl⟩) ?_
        simp only [Act.put, List.setIfInBounds_toArray, List.set_cons_zero, List.set_cons_succ, List.take_succ_cons, List.take_zero, List.drop_succ_cons, List.drop_zero]
        iterate 7
          refine ⟨?_, Or.inl ⟨by rfl, fun wq hq => ?_⟩, fun _ _ _ h => h, ?_⟩
          rotate_left
          · have e0 := hC1 wq hq
            go_simp
            rfl
          simp only [Act.put, List.setIfInBounds_toArray, List.set_cons_zero, List.set_cons_succ]
        refine tail.wpPre_nil ?_
        refine wpQuiet_nil ?_
        intro w4 hc4
        refine tail.wpListC_step rfl fun K hK4 => ?_
        go_simp
        refine hK4 _ _ (hCk _ _ hc4 ((Kept.refl [] w4).alloc _)) ?_
        clear hK4 K
        refine tail.wpListC_zero ?_
        have HK4 := hid (hCo _ hc4)
        clear hC0 hC1 hCk hCo hc4 C
        have HR4 := hid (own_kept hR.out HK4.out (by simp))
        have HRA := hid (own_kept hR.out (HK4.out.alloc (.cells #[.int .i64 z, .slice (some ⟨g3, o3 + 1, none⟩) (q - 1) (c3 - 1)] Cty)) (by simp))
        have HKA := hid (hK.out.trans ((HK4.out.alloc (.cells #[.int .i64 z, .slice (some ⟨g3, o3 + 1, none⟩) (q - 1) (c3 - 1)] Cty)).below hK.out.size (by simp)))
        have HRd := hid (two_new w4 (.int .i64 z) (.slice (some ⟨g3, o3 + 1, none⟩) (q - 1) (c3 - 1)) Cty)
        go_wp2_with (at_builtin; refine wpList_append_any _ rfl (.tmp 45) (.tmp 53) _ rfl w1.heap.size Cty i0 _ 2 32 Tryd.underlying35 hi hz0 hz1 hz2 (by rfl) (by omega) u8 k xs rfl HRA.out (w4.heap.size + 1) (some ⟨w4.heap.size, 0, none⟩) 1 1 [.int .i64 z, .slice (some ⟨g3, o3 + 1, none⟩) (q - 1) (c3 - 1)] rfl HRd.out (by simp [Value.oneCell']) (by simp only [maxLen]; omega) (by omega) HKA.out.size ?_; intro v6 w6 hown6 hg6 hat6; have H6 := hid (And.intro hown6 hg6); clear hown6 hg6 hat6)
        have HB6 := hid (below_own HKA.out HRA.out H6.out.2)
        have HO6 := hid H6.out.1
        have HP6 := hid (all_snoc hP.out HX.out (by have := HS.out; have := HQ.out; omega : p.length ≤ most))
        go_roundw
        case rel => exact ⟨k + 1, _, by omega, by go_num, HB6, HO6, HP6⟩
        case measure => simp [RowKit.intOf]; omega
    · have hnl : ¬ (k : Int) < n := by omega
      obtain rfl : k = n := by omega
      have HP := hid (of_all HN.out hP.out)
      go_wp2_with fail
      go_ret2
      exact ⟨HB1.out.trans (hK.out.mono HB1.out.size), _, _, rfl, fun _ => HP.out⟩
end Go.Proofs.YtkjfndkcagkhaaaDoor.side
