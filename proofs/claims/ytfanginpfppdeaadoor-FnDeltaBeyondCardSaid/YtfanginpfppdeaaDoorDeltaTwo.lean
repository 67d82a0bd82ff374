/- FnDeltaCopy and FnDeltaBeyond answer true. -/
import Derived.Test.YtfanginpfppdeaaDoorDeltaWrite
import Derived.Deep.RegionHeld3
set_option linter.unusedVariables false
namespace Go.Proofs.YtfanginpfppdeaaDoor.delta
open Go.RowKit Lib patch mem

theorem step_at {w : World} {f s : Nat} {wd : Int} : StepAt (w.alloc (.cells #[.bool true, .int .i64 f, .int .i64 s, .slice none 0 0, .int .i64 wd] 30)) w.heap.size f s wd := by
  have h := fun j => Lib.cell_of_heap (b := w.heap.size) (heap_alloc_new w (.cells #[.bool true, .int .i64 f, .int .i64 s, .slice none 0 0, .int .i64 wd] 30)) j
  exact ⟨by rw [alloc_size]; omega, (h 0).trans rfl, (h 1).trans rfl, (h 2).trans rfl, (h 3).trans rfl, (h 4).trans rfl⟩
theorem step_on {w w2 : World} {f s : Nat} {wd : Int} {o : Obj} (h : Below ((w.alloc (.cells #[.bool true, .int .i64 f, .int .i64 s, .slice none 0 0, .int .i64 wd] 30)).alloc o).heap.size ((w.alloc (.cells #[.bool true, .int .i64 f, .int .i64 s, .slice none 0 0, .int .i64 wd] 30)).alloc o) w2) :
    StepAt w2 w.heap.size f s wd := by
  have h1 := step_at (w := w) (f := f) (s := s) (wd := wd)
  have h2 := h1.below (B := w.heap.size + 1) (by omega) ((Below.refl _ _).alloc (by rw [alloc_size]; omega) o)
  exact h2.below (by rw [alloc_size, alloc_size]; omega) h
theorem StepAt.grown {w w' : World} {g f s : Nat} {wd : Int} {row : Option Nat} (h : StepAt w g f s wd) (hg : w.grownBy w' row) (hr : ∀ k, row = some k → g < k) : StepAt w' g f s wd := by
  have hc : ∀ j, w'.cell? ⟨g, j, none⟩ = w.cell? ⟨g, j, none⟩ := fun j => World.cell?_of_block (a := ⟨g, j, none⟩) (hg.block g h.lt (fun e => by have := hr _ e.symm; omega))
  exact ⟨Nat.lt_of_lt_of_le h.lt hg.size, (hc 0).trans h.c0, (hc 1).trans h.c1, (hc 2).trans h.c2, (hc 3).trans h.c3, (hc 4).trans h.c4⟩
theorem base_ne {base : List UInt8} {n : Nat} (h : base.length = n) (hn : 0 < n) : base ≠ [] := by rintro rfl; simp at h; omega
theorem mul_small {b m : Nat} (hb : b ≤ 1000000) (hm : m ≤ 16) : (b + 1) * m ≤ 16000016 := by
  have : (b + 1) * m ≤ 1000001 * 16 := Nat.mul_le_mul (by omega) hm
  omega
set_option maxRecDepth 100000 in
set_option maxHeartbeats 8000000 in
theorem copy_calls (f s wd : Int) (A : Option Addr) (n c : Nat) (base : List UInt8) (t : TypeId) (p0 p1 p2 : Value) (w : World) (hE : Env w w.heap.size t p0 p1 p2) (h : Bytes w w.heap.size A n base) (hnc : n ≤ c) :
    Calls Tryd.prog 5 #[.slice A n c, .int .i64 f, .int .i64 s, .int .i64 wd] w fun e w' => e = .returned (.bool true) ∧ Below w.heap.size w w' := by
  have HA := hid h
  have HE := hid hE
  clear h hE
  by_cases h0 : 2147483647 < n
  · have e0 : (2147483647 : Int) < n := by omega
    go_enter Tryd.func5, Tryd.ntmps5
    go_wp2_with fail
    go_ret
    exact ⟨rfl, Below.refl _ _⟩
  · have e0 : ¬ (2147483647 : Int) < n := by omega
    have hbA : Hid (∀ o, Below w.heap.size w (w.alloc o)) := hid fun o => (Below.refl w.heap.size w).alloc (Nat.le_refl _) o
    have hbB : Hid (∀ o o', Below w.heap.size w ((w.alloc o).alloc o')) := hid fun o o' => (hbA.out o).alloc (hbA.out o).size o'
    go_enter Tryd.func5, Tryd.ntmps5
    go_wp2_with fail
    refine (small_calls A n c (w.heap.size + 1) _ (by rw [Lib.cell_of_heap new_at]; rfl)).mono ?_
    rintro e w1 ⟨rfl, rfl⟩
    by_cases h1 : n ≤ 1000000
    · have e1 : decide (n ≤ 1000000) = true := by simpa using h1
      rw [e1]
      go_wp2_with fail
      refine (good_calls f s wd A n c _ h1).mono ?_
      rintro e w2 ⟨rfl, hb2⟩
      have HB2 := hid (below_up (hbB.out _ _) hb2 (Nat.le_refl _))
      have HB2' := hid hb2
      clear hb2
      by_cases h2 : good f s n
      · have e2 : decide (good f s n) = true := by simpa using h2
        rw [e2]
        obtain ⟨g1, g2, g3, g4, g5⟩ := h2
        obtain ⟨f, rfl⟩ : ∃ k : Nat, f = k := ⟨f.toNat, by omega⟩
        obtain ⟨s, rfl⟩ : ∃ k : Nat, s = k := ⟨s.toNat, by omega⟩
        clear e2
        have hba := hid (HB2.out.alloc HB2.out.size (.cells #[.bool true, .int .i64 f, .int .i64 s, .slice none 0 0, .int .i64 wd] 30))
        have hcall := delta_calls f s wd (fun k => (bits .and .i64 (wd / 2 ^ k) 1 == 1)) A n c w2.heap.size base (w2.alloc (.cells #[.bool true, .int .i64 f, .int .i64 s, .slice none 0 0, .int .i64 wd] 30)) ((HA.out.below hba.out).more hba.out.size) hnc h1 step_at (by omega) (fun k _ => rfl)
        have HC := hid hcall
        have hfs : f + s ≤ n := by omega
        have HG := hid (And.intro g2 g3)
        have hst := step_on HB2'.out
        have c0 := hst.c0
        have c1 := hst.c1
        have c2 := hst.c2
        have c3 := hst.c3
        have c4 := hst.c4
        clear hst HB2'
        clear hcall g1 g2 g3 g4 g5
        go_wp2_with fail
        refine HC.out.mono ?_
        rintro e w3 ⟨hb3, v3, rfl, ho3⟩
        obtain ⟨A3, cc3, rfl, hc3, hB3⟩ := own_bytes ho3
        have hlen := oneCopy_len n f s (fun k => (bits .and .i64 (wd / 2 ^ k) 1 == 1))
        have HB3 := hid (below_up hba.out hb3 (Nat.le_refl _))
        have HBy := hid hB3
        have HPA : Hid (patch base (oneCopy n f s (fun k => (bits .and .i64 (wd / 2 ^ k) 1 == 1))) = some ((base.drop f).take s)) := hid (by
          have hbl := HA.out.len
          have hg := HG.out
          rw [← hbl, patch_one base f s _ (base_ne hbl (by omega)) (by omega) (by omega) (by omega) (by omega), if_neg (by omega)])
        clear hb3 ho3 hB3 c0 c1 c2 c3 c4 HC
        generalize oneCopy n f s (fun k => (bits .and .i64 (wd / 2 ^ k) 1 == 1)) = dl at *
        generalize hdl : dl.length = m at *
        go_wp2_with fail
        refine (impl_calls A A3 n c m cc3 16000016 base dl t p0 p1 p2 w3 ((HE.out.below HB3.out).more HB3.out.size) ((HA.out.below HB3.out).more HB3.out.size) HBy.out hnc hc3 (by omega) (by omega) (mul_small (by rw [HA.out.len]; omega) (by omega)) (by omega)).mono ?_
        rintro e w4 ⟨hb4, h4⟩
        rw [HPA.out] at h4
        obtain ⟨v4, rfl, ho4⟩ := h4
        have hml : ((base.drop f).take s).length = s := by have := HA.out.len; simp; omega
        rw [hml] at ho4
        clear hml
        obtain ⟨A4, cc4, rfl, hc4, hB4⟩ := own_bytes ho4
        have HB4 := hid (below_up HB3.out hb4 (Nat.le_refl _))
        have HBy4 := hid hB4
        obtain ⟨A7, hA7, hs7⟩ := slice_mid .i64 .i64 A n c f (f + s) (by omega) (by omega) hnc
        rw [show f + s - f = s by omega] at hs7 hA7
        simp only [Int.natCast_add] at hs7
        have hmid := hid (hA7 _ _ _ (HA.out.below HB4.out))
        clear hb4 ho4 hB4 hA7
        go_wp2_with fail
        refine (deltaSame_calls A4 A7 _ cc4 s (c - f) _ _ ((base.drop f).take s) w4 HBy4.out hmid.out).mono ?_
        rintro e w5 ⟨rfl, rfl⟩
        go_wp2_with fail
        go_ret
        exact ⟨rfl, HB4.out⟩
      · have e2 : decide (good f s n) = false := by simpa using h2
        rw [e2]
        go_wp2_with fail
        refine (deltaWorks_calls t p0 p1 p2 w2 ((HE.out.below HB2.out).more HB2.out.size)).mono ?_
        rintro e w3 ⟨rfl, hb3⟩
        have HB3 := hid (below_up HB2.out hb3 (Nat.le_refl _))
        clear hb3
        go_wp2_with fail
        go_ret
        exact ⟨rfl, HB3.out⟩
    · have e1 : decide (n ≤ 1000000) = false := by simpa using h1
      rw [e1]
      go_wp2_with fail
      refine (deltaWorks_calls t p0 p1 p2 _ ((HE.out.below (hbB.out _ _)).more (hbB.out _ _).size)).mono ?_
      rintro e w3 ⟨rfl, hb3⟩
      have HB3 := hid (below_up (hbB.out _ _) hb3 (Nat.le_refl _))
      clear hb3
      go_wp2_with fail
      go_ret
      exact ⟨rfl, HB3.out⟩
set_option maxRecDepth 100000 in
set_option maxHeartbeats 8000000 in
theorem beyond_calls (f s : Int) (A : Option Addr) (n c : Nat) (base : List UInt8) (t : TypeId) (p0 p1 p2 : Value) (w : World) (hE : Env w w.heap.size t p0 p1 p2) (h : Bytes w w.heap.size A n base) (hnc : n ≤ c) :
    Calls Tryd.prog 4 #[.slice A n c, .int .i64 f, .int .i64 s] w fun e w' => e = .returned (.bool true) ∧ Below w.heap.size w w' := by
  obtain ⟨i0, hi, hz0, hz1, hz2⟩ := info_parts infoByte
  have HA := hid h
  have HE := hid hE
  clear h hE
  have hbA : Hid (∀ o, Below w.heap.size w (w.alloc o)) := hid fun o => (Below.refl w.heap.size w).alloc (Nat.le_refl _) o
  have hbB : Hid (∀ o o', Below w.heap.size w ((w.alloc o).alloc o')) := hid fun o o' => (hbA.out o).alloc (hbA.out o).size o'
  by_cases h0 : 2147483647 < n
  · have e0 : (2147483647 : Int) < n := by omega
    go_enter Tryd.func4, Tryd.ntmps4
    go_wp2_with fail
    go_ret
    exact ⟨rfl, Below.refl _ _⟩
  · have e0 : ¬ (2147483647 : Int) < n := by omega
    by_cases hn0 : n = 0
    · subst hn0
      go_enter Tryd.func4, Tryd.ntmps4
      go_wp2_with fail
      refine (deltaWorks_calls t p0 p1 p2 _ ((HE.out.below (hbA.out _)).more (hbA.out _).size)).mono ?_
      rintro e w3 ⟨rfl, hb3⟩
      have HB3 := hid (below_up (hbA.out _) hb3 (Nat.le_refl _))
      clear hb3
      go_wp2_with fail
      go_ret
      exact ⟨rfl, HB3.out⟩
    · have en : ((n : Int) == 0) = false := by simpa using hn0
      go_enter Tryd.func4, Tryd.ntmps4
      go_wp2_with fail
      refine (small_calls A n c (w.heap.size + 1) _ (by rw [Lib.cell_of_heap new_at]; rfl)).mono ?_
      rintro e w1 ⟨rfl, rfl⟩
      by_cases h1 : n ≤ 1000000
      · have e1 : decide (n ≤ 1000000) = true := by simpa using h1
        rw [e1]
        by_cases hall : 0 ≤ f ∧ f < 16777216 ∧ 1 ≤ s ∧ s ≤ 65536 ∧ (n : Int) < f + s
        · obtain ⟨g1, g2, g3, g4, g5⟩ := hall
          have k1 : ¬ f < 0 := by omega
          have k2 : ¬ (16777216 : Int) ≤ f := by omega
          have k3 : ¬ s < 1 := by omega
          have k4 : ¬ (65536 : Int) < s := by omega
          have k5 : ¬ f + s ≤ (n : Int) := by omega
          have kw : wrap64 (f + s) = f + s := wrap64_eq (by omega) (by omega)
          have h1' := h1
          have HG := hid (And.intro h1 (And.intro hn0 (And.intro g1 (And.intro g2 (And.intro g3 (And.intro g4 g5))))))
          clear g1 g2 g3 g4 g5 h1'
          go_wp2_with fail
          obtain ⟨f, rfl⟩ : ∃ k : Nat, f = k := ⟨f.toNat, by have := HG.out; omega⟩
          obtain ⟨s, rfl⟩ : ∃ k : Nat, s = k := ⟨s.toNat, by have := HG.out; omega⟩
          have hst := step_on (Below.refl ((w.alloc (.cells #[.bool true, .int .i64 f, .int .i64 s, .slice none 0 0, .int .i64 0] 30)).alloc (.cells #[.slice A n c] 22)).heap.size ((w.alloc (.cells #[.bool true, .int .i64 f, .int .i64 s, .slice none 0 0, .int .i64 0] 30)).alloc (.cells #[.slice A n c] 22)))
          have hbb := hbB.out (.cells #[.bool true, .int .i64 f, .int .i64 s, .slice none 0 0, .int .i64 0] 30) (.cells #[.slice A n c] 22)
          have hn28 : n < 268435456 := by omega
          have hs28 : s < 268435456 := by have := HG.out; omega
          have hs24 : s < 16777216 := by have := HG.out; omega
          have hf32 : f < 4294967296 := by have := HG.out; omega
          have ln := enc7_len 3 n
          have ls := enc7_len 3 s
          have lb := stepBytes_len f s (fun k => (bits .and .i64 (0 / 2 ^ k) 1 == 1))
          have hmax1 : (enc7 3 n).length + (enc7 3 s).length ≤ maxLen := by simp only [maxLen]; omega
          have hmax2 : ((enc7 3 n).length + (enc7 3 s).length) * 1 ≤ 140737488355328 := by omega
          have hmax3 : (enc7 3 n).length + (enc7 3 s).length + (stepBytes f s (fun k => (bits .and .i64 (0 / 2 ^ k) 1 == 1))).length ≤ maxLen := by simp only [maxLen]; omega
          have hmax4 : ((enc7 3 n).length + (enc7 3 s).length + (stepBytes f s (fun k => (bits .and .i64 (0 / 2 ^ k) 1 == 1))).length) * 1 ≤ 140737488355328 := by omega
          clear k1 k2 k3 k4 k5 kw h0 h1 hn0 en e1 e0
          generalize hwb : (w.alloc (.cells #[.bool true, .int .i64 f, .int .i64 s, .slice none 0 0, .int .i64 0] 30)).alloc (.cells #[.slice A n c] 22) = wb at *
          have hwsz : w.heap.size < wb.drew.heap.size := by show w.heap.size < wb.heap.size; rw [← hwb, alloc_size, alloc_size]; omega
          have hbd : Below w.heap.size w wb.drew := hbb.trans ⟨rfl, rfl, rfl, Nat.le_refl _, fun _ _ => rfl⟩
          have c0 := hst.c0
          have c1 := hst.c1
          have c2 := hst.c2
          have c3 := hst.c3
          have c4 := hst.c4
          have HST : Hid (StepAt wb.drew w.heap.size f s 0) := hid ⟨hst.lt, c0, c1, c2, c3, c4⟩
          clear hst hwb
          go_region_held3 (fun w' => w'.cell? ⟨w.heap.size, 0, none⟩ = some (.bool true) ∧ w'.cell? ⟨w.heap.size, 1, none⟩ = some (.int .i64 f) ∧ w'.cell? ⟨w.heap.size, 2, none⟩ = some (.int .i64 s) ∧ w'.cell? ⟨w.heap.size, 3, none⟩ = some (.slice none 0 0) ∧ w'.cell? ⟨w.heap.size, 4, none⟩ = some (.int .i64 0))
            (first
              | go_keep
              | exact ⟨hk2.out.c0, hk2.out.c1, hk2.out.c2, hk2.out.c3, hk2.out.c4⟩
              | exact ⟨hk3.out.c0, hk3.out.c1, hk3.out.c2, hk3.out.c3, hk3.out.c4⟩
              | exact ⟨hk4.out.c0, hk4.out.c1, hk4.out.c2, hk4.out.c3, hk4.out.c4⟩
              | exact ⟨hk5.out.c0, hk5.out.c1, hk5.out.c2, hk5.out.c3, hk5.out.c4⟩
              | exact ⟨hk6.out.c0, hk6.out.c1, hk6.out.c2, hk6.out.c3, hk6.out.c4⟩)
            (first
              | (go_at_call_of 11 (Value.int .i64 (n : Int)); refine (size7_calls n wb.drew hn28).mono ?_; rintro e w2 ⟨hb2, v2, rfl, ho2⟩; obtain ⟨A1, c1, rfl⟩ := own_shape ho2; have hk2 := hid (HST.out.below hwsz hb2); have HB2 := hid (below_up hbd hb2 (Nat.le_refl _)); have HO2 := hid ho2; have HZ2 := hid hb2.size; clear hb2 ho2)
              | (go_at_call_of 11 (Value.int .i64 (s : Int)); refine (size7_calls s w2 hs28).mono ?_; rintro e w3 ⟨hb3, v3, rfl, ho3⟩; obtain ⟨A3, c3, rfl, hc3, hB3⟩ := own_bytes ho3; have hk3 := hid (hk2.out.below hk2.out.lt hb3); have HB3 := hid (below_up HB2.out hb3 (Nat.le_refl _)); have HBy3 := hid hB3; have HO3 := hid (own_below HO2.out hb3); have HZ3 := hid (Nat.le_trans HZ2.out hb3.size); clear hb3 ho3 hB3)
              | (refine step_append_any _ (by rfl) (.tmp 53) (.tmp 55) _ (by rfl) wb.drew.heap.size 5 i0 _ 1 1 Tryd.underlying22 hi hz0 hz1 hz2 rfl (by omega) (.slice A1 (enc7 3 n).length c1) (enc7 3 n).length (byteCells (enc7 3 n)) (by rfl) HO3.out _ A3 (enc7 3 s).length c3 (byteCells (enc7 3 s)) (by rfl) HBy3.out.1 (cells_one _) hmax1 hmax2 HZ3.out ?_; intro v4 w4 hown4 hg4 hat4; rw [← byteCells_append] at hown4; obtain ⟨A4, c4', rfl⟩ := own_shape hown4; have hk4 := hid (hk3.out.grown hg4 (fun k hk => Nat.lt_of_lt_of_le hwsz (HO3.out.lt k hk).1)); have HB4 := hid (HB3.out.grown hg4 HB3.out.size fun g hg => Nat.le_trans hbd.size (HO3.out.lt g hg).1); have HO4 := hid hown4; have HZ4 := hid (Nat.le_trans HZ3.out hg4.size); clear hown4 hg4 hat4)
              | (go_at_call 12; refine (step_calls f s 0 (fun k => (bits .and .i64 (0 / 2 ^ k) 1 == 1)) none 0 0 w4 hf32 hs24 (fun k _ => rfl)).mono ?_; rintro e w5 ⟨hb5, v5, rfl, ho5⟩; obtain ⟨A5, c5, rfl, hc5, hB5⟩ := own_bytes ho5; have hk5 := hid (hk4.out.below hk4.out.lt hb5); have HB5 := hid (below_up HB4.out hb5 (Nat.le_refl _)); have HBy5 := hid hB5; have HO5 := hid (own_below HO4.out hb5); have HZ5 := hid (Nat.le_trans HZ4.out hb5.size); clear hb5 ho5 hB5)
              | (refine step_append_any _ (by rfl) (.tmp 56) (.tmp 58) _ (by rfl) wb.drew.heap.size 5 i0 _ 1 1 Tryd.underlying22 hi hz0 hz1 hz2 rfl (by omega) (.slice A4 ((enc7 3 n).length + (enc7 3 s).length) c4') ((enc7 3 n).length + (enc7 3 s).length) (byteCells (enc7 3 n ++ enc7 3 s)) (by rfl) HO5.out _ A5 (stepBytes f s (fun k => (bits .and .i64 (0 / 2 ^ k) 1 == 1))).length c5 (byteCells (stepBytes f s (fun k => (bits .and .i64 (0 / 2 ^ k) 1 == 1)))) (by rfl) HBy5.out.1 (cells_one _) hmax3 hmax4 HZ5.out ?_; intro v6 w6 hown6 hg6 hat6; rw [← byteCells_append] at hown6; have hk6 := hid (hk5.out.grown hg6 (fun k hk => Nat.lt_of_lt_of_le hwsz (HO5.out.lt k hk).1)); have HB6 := hid (HB5.out.grown hg6 HB5.out.size fun g hg => Nat.le_trans hbd.size (HO5.out.lt g hg).1); have HO6 := hid hown6; clear hown6 hg6 hat6))
          have hlen : (oneCopy n f s (fun k => (bits .and .i64 (0 / 2 ^ k) 1 == 1))).length = (enc7 3 n).length + (enc7 3 s).length + (stepBytes f s (fun k => (bits .and .i64 (0 / 2 ^ k) 1 == 1))).length := by unfold oneCopy; simp only [List.length_append]
          have HPA : Hid (patch base (oneCopy n f s (fun k => (bits .and .i64 (0 / 2 ^ k) 1 == 1))) = none) := hid (by
            have hbl := HA.out.len
            have hg := HG.out
            rw [← hbl, patch_one base f s _ (base_ne hbl (by omega)) (by omega) (by omega) (by omega) (by omega), if_pos (by omega)])
          have ho6 : w6.ownsRow wb.drew.heap.size 5 1 v6 (oneCopy n f s (fun k => (bits .and .i64 (0 / 2 ^ k) 1 == 1))).length (byteCells (oneCopy n f s (fun k => (bits .and .i64 (0 / 2 ^ k) 1 == 1)))) := by rw [hlen]; exact HO6.out
          have hl16 := oneCopy_len n f s (fun k => (bits .and .i64 (0 / 2 ^ k) 1 == 1))
          obtain ⟨A6, c6, rfl, hc6, hB6⟩ := own_bytes ho6
          have HBy6 := hid hB6
          clear ho6 hB6 hlen hmax1 hmax2 hmax3 hmax4 ln ls lb hk2 hk3 hk4 hk5 hk6 HB2 HB3 HB4 HB5 HO2 HO3 HO4 HO5 HO6 HBy3 HBy5 HZ2 HZ3 HZ4 HZ5 hs28 hs24 hf32
          generalize oneCopy n f s (fun k => (bits .and .i64 (0 / 2 ^ k) 1 == 1)) = dl at *
          generalize hdl : dl.length = m at *
          go_wp2_with fail
          refine (impl_calls A A6 n c m c6 16000016 base dl t p0 p1 p2 w6 ((HE.out.below HB6.out).more HB6.out.size) ((HA.out.below HB6.out).more HB6.out.size) HBy6.out hnc hc6 (by omega) (by omega) (mul_small (by rw [HA.out.len]; have := HG.out; omega) (by omega)) (by omega)).mono ?_
          rintro e w7 ⟨hb7, h7⟩
          rw [HPA.out] at h7
          obtain ⟨v7, rfl⟩ := h7
          have HB7 := hid (below_up HB6.out hb7 (Nat.le_refl _))
          clear hb7
          go_wp2_with fail
          refine (deltaWorks_calls t p0 p1 p2 w7 ((HE.out.below HB7.out).more HB7.out.size)).mono ?_
          rintro e w8 ⟨rfl, hb8⟩
          have HB8 := hid (below_up HB7.out hb8 (Nat.le_refl _))
          clear hb8
          go_wp2_with fail
          go_ret
          exact ⟨rfl, HB8.out⟩
        · by_cases k1 : f < 0
          · clear hall
            go_wp2_with fail
            refine (deltaWorks_calls t p0 p1 p2 _ ((HE.out.below (hbB.out _ _)).more (hbB.out _ _).size)).mono ?_
            rintro e w3 ⟨rfl, hb3⟩
            have HB3 := hid (below_up (hbB.out _ _) hb3 (Nat.le_refl _))
            clear hb3
            go_wp2_with fail
            go_ret
            exact ⟨rfl, HB3.out⟩
          · by_cases k2 : (16777216 : Int) ≤ f
            · clear hall
              go_wp2_with fail
              refine (deltaWorks_calls t p0 p1 p2 _ ((HE.out.below (hbB.out _ _)).more (hbB.out _ _).size)).mono ?_
              rintro e w3 ⟨rfl, hb3⟩
              have HB3 := hid (below_up (hbB.out _ _) hb3 (Nat.le_refl _))
              clear hb3
              go_wp2_with fail
              go_ret
              exact ⟨rfl, HB3.out⟩
            · by_cases k3 : s < 1
              · clear hall
                go_wp2_with fail
                refine (deltaWorks_calls t p0 p1 p2 _ ((HE.out.below (hbB.out _ _)).more (hbB.out _ _).size)).mono ?_
                rintro e w3 ⟨rfl, hb3⟩
                have HB3 := hid (below_up (hbB.out _ _) hb3 (Nat.le_refl _))
                clear hb3
                go_wp2_with fail
                go_ret
                exact ⟨rfl, HB3.out⟩
              · by_cases k4 : (65536 : Int) < s
                · clear hall
                  go_wp2_with fail
                  refine (deltaWorks_calls t p0 p1 p2 _ ((HE.out.below (hbB.out _ _)).more (hbB.out _ _).size)).mono ?_
                  rintro e w3 ⟨rfl, hb3⟩
                  have HB3 := hid (below_up (hbB.out _ _) hb3 (Nat.le_refl _))
                  clear hb3
                  go_wp2_with fail
                  go_ret
                  exact ⟨rfl, HB3.out⟩
                · have k5 : f + s ≤ (n : Int) := by omega
                  have kw : wrap64 (f + s) = f + s := wrap64_eq (by omega) (by omega)
                  clear hall
                  go_wp2_with fail
                  refine (deltaWorks_calls t p0 p1 p2 _ ((HE.out.below (hbB.out _ _)).more (hbB.out _ _).size)).mono ?_
                  rintro e w3 ⟨rfl, hb3⟩
                  have HB3 := hid (below_up (hbB.out _ _) hb3 (Nat.le_refl _))
                  clear hb3
                  go_wp2_with fail
                  go_ret
                  exact ⟨rfl, HB3.out⟩
      · have e1 : decide (n ≤ 1000000) = false := by simpa using h1
        rw [e1]
        go_wp2_with fail
        refine (deltaWorks_calls t p0 p1 p2 _ ((HE.out.below (hbB.out _ _)).more (hbB.out _ _).size)).mono ?_
        rintro e w3 ⟨rfl, hb3⟩
        have HB3 := hid (below_up (hbB.out _ _) hb3 (Nat.le_refl _))
        clear hb3
        go_wp2_with fail
        go_ret
        exact ⟨rfl, HB3.out⟩
end Go.Proofs.YtfanginpfppdeaaDoor.delta
