/- zzSha1.step: a block taken in. -/
import Derived.Test.YtdbkafpflicdiaaDoorShaBase
set_option linter.unusedVariables false
namespace Go.Proofs.YtdbkafpflicdiaaDoor.sha
open Go.RowKit Lib mem frm

abbrev ShaT : TypeId := 78
/-- the seven cells of a hash -/
def seven (s : Five) (bv : Value) (long : Nat) : Array Value := #[.int .u32 s.a, .int .u32 s.b, .int .u32 s.c, .int .u32 s.d, .int .u32 s.e, bv, .int .u64 long]
/-- what a step's walk holds -/
structure IS (w wr : World) (sb : Nat) (cs : Array Value) (wb : Nat) (ar : Array Value) : Prop where
  kept : Kept [] w wr
  s : Blk wr sb ShaT cs
  a : Blk wr wb T80 ar
  wN : w.heap.size ≤ wb
theorem IS.nil_ {w wr wr' : World} {sb wb : Nat} {cs ar : Array Value} (h : IS w wr sb cs wb ar) (hk : Kept [] wr wr') : IS w wr' sb cs wb ar := ⟨h.kept.trans_ hk, h.s.kept hk (by simp), h.a.kept hk (by simp), h.wN⟩
theorem IS.put {w wr : World} {sb wb : Nat} {cs ar : Array Value} (h : IS w wr sb cs wb ar) (k : Nat) (x : Value) : IS w (wr.setCell ⟨wb, k, none⟩ x) sb cs wb (ar.setIfInBounds k x) := by
  have hk : Kept [wb] wr (wr.setCell ⟨wb, k, none⟩ x) := (Kept.refl [wb] wr).setCell (.inl (by simp)) _
  refine ⟨h.kept.setCell (.inr h.wN) _, h.s.kept hk ?_, h.a.set_ k x, h.wN⟩
  have := h.s.ne_ h.a (by decide)
  simpa using this
theorem rot1 (x : Int) : rotI 1 x = bits .or .u32 (x * 2 % 4294967296) (x / 2147483648) := by simp [rotI, u]
theorem rot5 (x : Int) : rotI 5 x = bits .or .u32 (x * 32 % 4294967296) (x / 134217728) := by simp [rotI, u]
theorem rot30 (x : Int) : rotI 30 x = bits .or .u32 (x * 1073741824 % 4294967296) (x / 4) := by simp [rotI, u]
def Stepped (w : World) (sb : Nat) (s : Five) (bv : Value) (long : Nat) (e : Ending) (w' : World) : Prop := e = .returned (.tuple #[]) ∧ Kept [sb] w w' ∧ Blk w' sb ShaT (seven s bv long)
set_option maxRecDepth 100000 in
set_option maxHeartbeats 16000000 in
theorem step_calls (sb g o c B : Nat) (st : Five) (bv : Value) (long : Nat) (bl : List UInt8) (w : World) (hS : Blk w sb ShaT (seven st bv long)) (hB : Bytes w B (some ⟨g, o, none⟩) 64 bl) (hBw : B ≤ w.heap.size) :
    Calls Tryd.prog 66 #[.pointer (some ⟨sb, 0, none⟩), .slice (some ⟨g, o, none⟩) 64 c] w (Stepped w sb (compress bl st) bv long) := by
  have hcell : ∀ w', Kept [] w w' → ∀ i, i < 64 → w'.cell? ⟨g, o + i, none⟩ = some (.int .u8 (byteAt bl i)) := fun w' hk i hi => by
    obtain ⟨g', o', b, e, _, h2, h3, _⟩ := (hB.below (hk.below hBw (by simp))).next hi
    cases e
    rw [h2]
    have hl := hB.len
    have : bl[i]? = some b := by
      have h4 := congrArg List.head? h3
      simpa [List.head?_drop] using h4
    simp [byteAt, List.getD, this]
  have HCE := hid hcell
  obtain ⟨wb, hwb⟩ : ∃ wb, wb = w.heap.size := ⟨_, rfl⟩
  obtain ⟨w5, hw5⟩ : ∃ w5, w5 = w.alloc (.cells Tryd.zeroCells121 T80) := ⟨_, rfl⟩
  have HI0 : Hid (IS w w5 sb (seven st bv long) wb (arr 80 (wAt bl) 0)) := hid ⟨by rw [hw5]; exact (Kept.refl [] w).alloc _, by rw [hw5]; exact hS.alloc _, by rw [hw5, hwb, ← zero80]; exact Blk.new w T80 _, by omega⟩
  have HW5 := hid (And.intro hw5 hwb)
  have HLT := hid hS.lt
  clear hS hB hBw hcell hwb hw5
  go_enter Tryd.func66, Tryd.ntmps66
  go_wp2_with fail
  rw [← HW5.out.1, ← HW5.out.2]
  go_loopw [5] (fun iv wr => ∃ k : Nat, k ≤ 16 ∧ iv = .int .i64 k ∧ Hid (IS w wr sb (seven st bv long) wb (arr 80 (wAt bl) k))) (fun iv _ => 16 - (RowKit.intOf iv).toNat)
  case atStart => exact ⟨0, by omega, rfl, HI0⟩
  case round =>
    obtain ⟨k, hk, rfl, hI⟩ := hrel
    obtain ⟨wo, rfl⟩ : ∃ wo, wo = wr := ⟨_, rfl⟩
    by_cases hk16 : k < 16
    · have hk16' : (k : Int) < 16 := by omega
      have hk80 : (k : Int) < 80 := by omega
      obtain ⟨x0, hx0⟩ : ∃ x, x = 4 * k := ⟨_, rfl⟩
      obtain ⟨x1, hx1⟩ : ∃ x, x = 4 * k + 1 := ⟨_, rfl⟩
      obtain ⟨x2, hx2⟩ : ∃ x, x = 4 * k + 2 := ⟨_, rfl⟩
      obtain ⟨x3, hx3⟩ : ∃ x, x = 4 * k + 3 := ⟨_, rfl⟩
      have e0 : 4 * (k : Int) = (x0 : Int) := by omega
      have e1 : (x0 : Int) + 1 = (x1 : Int) := by omega
      have e2 : (x0 : Int) + 2 = (x2 : Int) := by omega
      have e3 : (x0 : Int) + 3 = (x3 : Int) := by omega
      have b0 : (x0 : Int) < 64 := by omega
      have b1 : (x1 : Int) < 64 := by omega
      have b2 : (x2 : Int) < 64 := by omega
      have b3 : (x3 : Int) < 64 := by omega
      have hw : ∀ x : Int, 0 ≤ x → x < 64 → IntKind.i64.wrap x = x := fun x h1 h2 => IntWalk.i64_in _ (by omega)
      have w0' : IntKind.i64.wrap (x0 : Int) = (x0 : Int) := hw _ (by omega) b0
      have w1' : IntKind.i64.wrap (x1 : Int) = (x1 : Int) := hw _ (by omega) b1
      have w2' : IntKind.i64.wrap (x2 : Int) = (x2 : Int) := hw _ (by omega) b2
      have w3' : IntKind.i64.wrap (x3 : Int) = (x3 : Int) := hw _ (by omega) b3
      have HWD : Hid (be4 (byteAt bl x0) (byteAt bl x1) (byteAt bl x2) (byteAt bl x3) = wAt bl k) := hid (by rw [wAt_low _ k hk16, hx0, hx1, hx2, hx3]; rfl)
      obtain ⟨C, hC0, hCf, hCo⟩ : ∃ C : World → Prop, C wo.drew ∧ (∀ w', C w' → w'.cell? ⟨g, o + x0, none⟩ = some (.int .u8 (byteAt bl x0)) ∧ w'.cell? ⟨g, o + x1, none⟩ = some (.int .u8 (byteAt bl x1)) ∧ w'.cell? ⟨g, o + x2, none⟩ = some (.int .u8 (byteAt bl x2)) ∧ w'.cell? ⟨g, o + x3, none⟩ = some (.int .u8 (byteAt bl x3))) ∧ (∀ w', C w' → Kept [] wo w') :=
        ⟨fun w' => Kept [] wo w', (Kept.refl _ wo).drew, fun w' h => ⟨HCE.out w' (hI.out.kept.trans_ h) x0 (by omega), HCE.out w' (hI.out.kept.trans_ h) x1 (by omega), HCE.out w' (hI.out.kept.trans_ h) x2 (by omega), HCE.out w' (hI.out.kept.trans_ h) x3 (by omega)⟩, fun _ h => h⟩
      have HK := hid hk16
      clear hx0 hx1 hx2 hx3 hw hk hk16
      go_wp2_with fail
      try dsimp only [Act.put]
      refine tail.wp_region_mix C 33 0 0 (.int .i64 k) (by kernel_rfl) (by kernel_rfl) hC0 (fun _ _ _ h => h) (Or.inl ⟨by rfl, fun _ => by rfl⟩) ?_
      simp only [Act.put, List.setIfInBounds_toArray, List.set_cons_zero, List.set_cons_succ, List.take_succ_cons, List.take_zero, List.drop_succ_cons, List.drop_zero]
      iterate 33
        refine ⟨?_, Or.inl ⟨by rfl, fun wq hq => ?_⟩, fun _ _ _ h => h, ?_⟩
        rotate_left
        · obtain ⟨q0, q1, q2, q3⟩ := hCf wq hq
          go_simp
          rfl
        simp only [Act.put, List.setIfInBounds_toArray, List.set_cons_zero, List.set_cons_succ]
      refine tail.wpPre_nil ?_
      refine wpQuiet_nil ?_
      intro w6 hc6
      refine tail.wpListC_zero ?_
      have hwd : bits .or .u32 (bits .or .u32 (bits .or .u32 (IntKind.u32.wrap (IntKind.u32.wrap (byteAt bl x0) * 16777216)) (IntKind.u32.wrap (IntKind.u32.wrap (byteAt bl x1) * 65536))) (IntKind.u32.wrap (IntKind.u32.wrap (byteAt bl x2) * 256))) (IntKind.u32.wrap (byteAt bl x3)) = wAt bl k := by
        simp only [IntKind.wrap_u32']
        exact HWD.out
      rw [hwd]
      have hI9 := hI.out.nil_ (hCo _ hc6)
      have hc9 : w6.cell? ⟨wb, k, none⟩ = some (.int .u32 0) := by rw [Lib.cell_of_heap hI9.a k]; simp [arr, show k < 80 by have := HK.out; omega]
      have hf9 : w6.frozen? ⟨wb, k, none⟩ = false := hI9.a.frozen k
      have HI9 := hid (hI9.put k (.int .u32 (wAt bl k)))
      rw [arr_set] at HI9
      clear hC0 hCf hCo hc6 e0 e1 e2 e3 b0 b1 b2 b3 w0' w1' w2' w3' hI9 hwd
      go_wp2_with fail
      go_roundw
      case rel => exact ⟨k + 1, by have := HK.out; omega, by go_num, HI9⟩
      case measure => have := HK.out; simp [RowKit.intOf]; omega
    · obtain rfl : k = 16 := by omega
      have hk16' : ¬ ((16 : Nat) : Int) < 16 := by omega
      clear hk hk16
      go_wp2_with fail
      go_loopw [6] (fun iv wr => ∃ i : Nat, 16 ≤ i ∧ i ≤ 80 ∧ iv = .int .i64 i ∧ Hid (IS w wr sb (seven st bv long) wb (arr 80 (wAt bl) i))) (fun iv _ => 80 - (RowKit.intOf iv).toNat)
      case atStart => exact ⟨16, by omega, by omega, rfl, hI⟩
      case round =>
        obtain ⟨i, hi1, hi2, rfl, hI8⟩ := hrel
        obtain ⟨wd, rfl⟩ : ∃ wd, wd = wr := ⟨_, rfl⟩
        by_cases hi80 : i < 80
        · have hi80' : (i : Int) < 80 := by omega
          obtain ⟨k, hik⟩ : ∃ k, i = k + 16 := ⟨i - 16, by omega⟩
          obtain ⟨j3, hj3⟩ : ∃ j, j = k + 13 := ⟨_, rfl⟩
          obtain ⟨j8, hj8⟩ : ∃ j, j = k + 8 := ⟨_, rfl⟩
          obtain ⟨j14, hj14⟩ : ∃ j, j = k + 2 := ⟨_, rfl⟩
          have HW := hid (wAt_high bl k (by omega))
          rw [← hik, ← hj3, ← hj8, ← hj14] at HW
          have e3 : (i : Int) - 3 = (j3 : Int) := by omega
          have e8 : (i : Int) - 8 = (j8 : Int) := by omega
          have e14 : (i : Int) - 14 = (j14 : Int) := by omega
          have e16 : (i : Int) - 16 = (k : Int) := by omega
          have b3 : (j3 : Int) < 80 := by omega
          have b8 : (j8 : Int) < 80 := by omega
          have b14 : (j14 : Int) < 80 := by omega
          have b16 : (k : Int) < 80 := by omega
          have hw : ∀ x : Int, 0 ≤ x → x < 80 → IntKind.i64.wrap x = x := fun x h1 h2 => IntWalk.i64_in _ (by omega)
          have w3' : IntKind.i64.wrap (j3 : Int) = (j3 : Int) := hw _ (by omega) b3
          have w8' : IntKind.i64.wrap (j8 : Int) = (j8 : Int) := hw _ (by omega) b8
          have w14' : IntKind.i64.wrap (j14 : Int) = (j14 : Int) := hw _ (by omega) b14
          have w16' : IntKind.i64.wrap (k : Int) = (k : Int) := hw _ (by omega) b16
          have hcell : ∀ j, j < i → wd.cell? ⟨wb, j, none⟩ = some (.int .u32 (wAt bl j)) := fun j hj => by
            rw [Lib.cell_of_heap hI8.out.a j, arr_get _ hj (by omega)]
          have q0 := hcell j3 (by omega)
          have q1 := hcell j8 (by omega)
          have q2 := hcell j14 (by omega)
          have q3 := hcell k (by omega)
          have HI8 := hid (And.intro hi1 hi80)
          clear hw hcell hik hj3 hj8 hj14 hi1 hi2 hi80
          go_wp2_with fail
          go_quiet (fail)
          clear q0 q1 q2 q3 e3 e8 e14 e16 b3 b8 b14 b16 w3' w8' w14' w16'
          have hIq := hI8.out.nil_ ((Kept.refl [] wd).drewN nq)
          generalize wd.drewN nq = we at *
          obtain ⟨y, hy⟩ : ∃ y, y = bits .xor .u32 (bits .xor .u32 (bits .xor .u32 (wAt bl j3) (wAt bl j8)) (wAt bl j14)) (wAt bl k) := ⟨_, rfl⟩
          rw [← hy]
          have HY : Hid (bits .or .u32 (y * 2 % 4294967296) (y / 2147483648) = wAt bl i) := hid (by rw [HW.out, hy]; exact (rot1 _).symm)
          have hc9 : we.cell? ⟨wb, i, none⟩ = some (.int .u32 0) := by rw [Lib.cell_of_heap hIq.a i]; simp [arr, show i < 80 from HI8.out.2]
          have hf9 : we.frozen? ⟨wb, i, none⟩ = false := hIq.a.frozen i
          have HI9 := hid (hIq.put i (.int .u32 (wAt bl i)))
          rw [arr_set] at HI9
          clear hy hIq hI8
          go_wp2_with fail
          go_roundw
          case rel => exact ⟨i + 1, by have := HI8.out.1; omega, by have := HI8.out.2; omega, by go_num, by rw [HY.out]; exact HI9⟩
          case measure => have := HI8.out.2; simp [RowKit.intOf]; omega
        · obtain rfl : i = 80 := by omega
          have hi80' : ¬ ((80 : Nat) : Int) < 80 := by omega
          clear hi1 hi2 hi80
          have q0 : wd.cell? ⟨sb, 0, none⟩ = some (.int .u32 st.a) := hI8.out.s.cell 0 rfl
          have q1 : wd.cell? ⟨sb, 1, none⟩ = some (.int .u32 st.b) := hI8.out.s.cell 1 rfl
          have q2 : wd.cell? ⟨sb, 2, none⟩ = some (.int .u32 st.c) := hI8.out.s.cell 2 rfl
          have q3 : wd.cell? ⟨sb, 3, none⟩ = some (.int .u32 st.d) := hI8.out.s.cell 3 rfl
          have q4 : wd.cell? ⟨sb, 4, none⟩ = some (.int .u32 st.e) := hI8.out.s.cell 4 rfl
          go_wp2_with fail
          go_quiet (fail)
          have HI10 := hid (hI8.out.nil_ ((Kept.refl [] wd).drewN nq))
          generalize wd.drewN nq = we at *
          clear q0 q1 q2 q3 q4 hI8
          go_wp2_with fail
          go_loopw [13, 8, 9, 10, 11, 12] (fun iv va vb vc vd ve wr => ∃ k : Nat, k ≤ 80 ∧ iv = .int .i64 k ∧ va = .int .u32 (rd bl st k).a ∧ vb = .int .u32 (rd bl st k).b ∧ vc = .int .u32 (rd bl st k).c ∧ vd = .int .u32 (rd bl st k).d ∧ ve = .int .u32 (rd bl st k).e ∧ Hid (IS w wr sb (seven st bv long) wb (arr 80 (wAt bl) 80))) (fun iv _ _ _ _ _ _ => 80 - (RowKit.intOf iv).toNat)
          case atStart => exact ⟨0, by omega, rfl, rfl, rfl, rfl, rfl, rfl, HI10⟩
          case round =>
            obtain ⟨k, hk, rfl, rfl, rfl, rfl, rfl, rfl, hI⟩ := hrel
            obtain ⟨wf, rfl⟩ : ∃ wf, wf = wr := ⟨_, rfl⟩
            by_cases hk80 : k < 80
            · have hk80' : (k : Int) < 80 := by omega
              have hcw : wf.cell? ⟨wb, k, none⟩ = some (.int .u32 (wAt bl k)) := by rw [Lib.cell_of_heap hI.out.a k, arr_get _ hk80 hk80]
              have hnx : rd bl st (k + 1) = stepI k (wAt bl k) (rd bl st k) := rfl
              obtain ⟨s, hs⟩ : ∃ s, s = rd bl st k := ⟨_, rfl⟩
              rw [← hs] at hnx ⊢
              have HNX := hid hnx
              have HK := hid hk80
              clear hnx hs hk hk80
              by_cases h20 : k < 20
              · have h20' : (k : Int) < 20 := by omega
                go_wp2_with fail
                go_roundw
                case rel =>
                  refine ⟨k + 1, by have := HK.out; omega, by go_num, ?_, ?_, ?_, ?_, ?_, hI⟩
                  all_goals rw [HNX.out]
                  all_goals first | rfl | (simp only [stepI, fI, kI, h20, if_true, if_false, rot5, rot30]; first | done | rfl | (rw [step_sum]; first | done | rfl))
                case measure => have := HK.out; simp [RowKit.intOf]; omega
              · have h20' : ¬ (k : Int) < 20 := by omega
                by_cases h40 : k < 40
                · have h40' : (k : Int) < 40 := by omega
                  go_wp2_with fail
                  go_roundw
                  case rel =>
                    refine ⟨k + 1, by have := HK.out; omega, by go_num, ?_, ?_, ?_, ?_, ?_, hI⟩
                    all_goals rw [HNX.out]
                    all_goals first | rfl | (simp only [stepI, fI, kI, h20, h40, if_true, if_false, rot5, rot30]; first | done | rfl | (rw [step_sum]; first | done | rfl))
                  case measure => have := HK.out; simp [RowKit.intOf]; omega
                · have h40' : ¬ (k : Int) < 40 := by omega
                  by_cases h60 : k < 60
                  · have h60' : (k : Int) < 60 := by omega
                    go_wp2_with fail
                    go_roundw
                    case rel =>
                      refine ⟨k + 1, by have := HK.out; omega, by go_num, ?_, ?_, ?_, ?_, ?_, hI⟩
                      all_goals rw [HNX.out]
                      all_goals first | rfl | (simp only [stepI, fI, kI, h20, h40, h60, if_true, if_false, rot5, rot30]; first | done | rfl | (rw [step_sum]; first | done | rfl))
                    case measure => have := HK.out; simp [RowKit.intOf]; omega
                  · have h60' : ¬ (k : Int) < 60 := by omega
                    go_wp2_with fail
                    go_roundw
                    case rel =>
                      refine ⟨k + 1, by have := HK.out; omega, by go_num, ?_, ?_, ?_, ?_, ?_, hI⟩
                      all_goals rw [HNX.out]
                      all_goals first | rfl | (simp only [stepI, fI, kI, h20, h40, h60, if_true, if_false, rot5, rot30]; first | done | rfl | (rw [step_sum]; first | done | rfl))
                    case measure => have := HK.out; simp [RowKit.intOf]; omega
            · obtain rfl : k = 80 := by omega
              have hk80' : ¬ ((80 : Nat) : Int) < 80 := by omega
              obtain ⟨r, hr⟩ : ∃ r, r = rd bl st 80 := ⟨_, rfl⟩
              rw [← hr]
              have HC : Hid (compress bl st = ⟨u (st.a + r.a), u (st.b + r.b), u (st.c + r.c), u (st.d + r.d), u (st.e + r.e)⟩) := hid (by rw [hr]; rfl)
              clear hk hk80 hr
              go_wp2_with fail
              have HB0 : Hid (Blk wf sb ShaT #[.int .u32 st.a, .int .u32 st.b, .int .u32 st.c, .int .u32 st.d, .int .u32 st.e, bv, .int .u64 long]) := hid hI.out.s
              have HK0 : Hid (Kept [sb] w wf) := hid (hI.out.kept.more (by simp))
              obtain ⟨C, hC0, hCf, hCo⟩ : ∃ C : World → Prop, C wf.drew ∧ (∀ w', C w' → w'.cell? ⟨sb, 0, none⟩ = some (.int .u32 st.a)) ∧ (∀ w', C w' → Kept [] wf w') :=
                ⟨fun w' => Kept [] wf w', (Kept.refl _ wf).drew, fun w' h => (HB0.out.kept h (by simp)).cell 0 rfl, fun _ h => h⟩
              try dsimp only [Act.put]
              refine tail.wp_region_mix C 8 0 0 (.pointer (some ⟨sb, 0, none⟩)) (by kernel_rfl) (by kernel_rfl) hC0 (fun _ _ _ h => h) (Or.inl ⟨by rfl, fun _ => by rfl⟩) ?_
              simp only [Act.put, List.setIfInBounds_toArray, List.set_cons_zero, List.set_cons_succ, List.take_succ_cons, List.take_zero, List.drop_succ_cons, List.drop_zero]
              iterate 8
                refine ⟨?_, Or.inl ⟨by rfl, fun wq hq => ?_⟩, fun _ _ _ h => h, ?_⟩
                rotate_left
                · have q0 := hCf wq hq
                  go_simp
                  rfl
                simp only [Act.put, List.setIfInBounds_toArray, List.set_cons_zero, List.set_cons_succ]
              refine tail.wpPre_nil ?_
              refine wpQuiet_nil ?_
              intro y0 hc
              refine tail.wpListC_zero ?_
              have hB' := HB0.out.kept (hCo _ hc) (by simp)
              have q0 : y0.cell? ⟨sb, 0, none⟩ = some (.int .u32 st.a) := hB'.cell 0 rfl
              have f0 : y0.frozen? ⟨sb, 0, none⟩ = false := hB'.frozen 0
              have HB1 : Hid (Blk (y0.setCell ⟨sb, 0, none⟩ (.int .u32 ((st.a + r.a) % 4294967296))) sb ShaT #[.int .u32 ((st.a + r.a) % 4294967296), .int .u32 st.b, .int .u32 st.c, .int .u32 st.d, .int .u32 st.e, bv, .int .u64 long]) := hid (by simpa using hB'.set_ 0 (.int .u32 ((st.a + r.a) % 4294967296)))
              have HK1 : Hid (Kept [sb] w (y0.setCell ⟨sb, 0, none⟩ (.int .u32 ((st.a + r.a) % 4294967296)))) := hid ((HK0.out.trans (hCo _ hc) (by simp)).setCell (.inl (by simp)) _)
              clear hC0 hCf hCo hc hB' HB0 HK0
              go_wp2_with fail
              clear q0 f0
              obtain ⟨z1, hz1⟩ : ∃ z, z = y0.setCell ⟨sb, 0, none⟩ (.int .u32 ((st.a + r.a) % 4294967296)) := ⟨_, rfl⟩
              rw [← hz1] at HB1 HK1 ⊢
              clear hz1
              obtain ⟨C, hC0, hCf, hCo⟩ : ∃ C : World → Prop, C z1.drew ∧ (∀ w', C w' → w'.cell? ⟨sb, 1, none⟩ = some (.int .u32 st.b)) ∧ (∀ w', C w' → Kept [] z1 w') :=
                ⟨fun w' => Kept [] z1 w', (Kept.refl _ z1).drew, fun w' h => (HB1.out.kept h (by simp)).cell 1 rfl, fun _ h => h⟩
              try dsimp only [Act.put]
              refine tail.wp_region_mix C 8 0 0 (.pointer (some ⟨sb, 0, none⟩)) (by kernel_rfl) (by kernel_rfl) hC0 (fun _ _ _ h => h) (Or.inl ⟨by rfl, fun _ => by rfl⟩) ?_
              simp only [Act.put, List.setIfInBounds_toArray, List.set_cons_zero, List.set_cons_succ, List.take_succ_cons, List.take_zero, List.drop_succ_cons, List.drop_zero]
              iterate 8
                refine ⟨?_, Or.inl ⟨by rfl, fun wq hq => ?_⟩, fun _ _ _ h => h, ?_⟩
                rotate_left
                · have q0 := hCf wq hq
                  go_simp
                  rfl
                simp only [Act.put, List.setIfInBounds_toArray, List.set_cons_zero, List.set_cons_succ]
              refine tail.wpPre_nil ?_
              refine wpQuiet_nil ?_
              intro y1 hc
              refine tail.wpListC_zero ?_
              have hB' := HB1.out.kept (hCo _ hc) (by simp)
              have q1 : y1.cell? ⟨sb, 1, none⟩ = some (.int .u32 st.b) := hB'.cell 1 rfl
              have f1 : y1.frozen? ⟨sb, 1, none⟩ = false := hB'.frozen 1
              have HB2 : Hid (Blk (y1.setCell ⟨sb, 1, none⟩ (.int .u32 ((st.b + r.b) % 4294967296))) sb ShaT #[.int .u32 ((st.a + r.a) % 4294967296), .int .u32 ((st.b + r.b) % 4294967296), .int .u32 st.c, .int .u32 st.d, .int .u32 st.e, bv, .int .u64 long]) := hid (by simpa using hB'.set_ 1 (.int .u32 ((st.b + r.b) % 4294967296)))
              have HK2 : Hid (Kept [sb] w (y1.setCell ⟨sb, 1, none⟩ (.int .u32 ((st.b + r.b) % 4294967296)))) := hid ((HK1.out.trans (hCo _ hc) (by simp)).setCell (.inl (by simp)) _)
              clear hC0 hCf hCo hc hB' HB1 HK1
              go_wp2_with fail
              clear q1 f1
              obtain ⟨z2, hz2⟩ : ∃ z, z = y1.setCell ⟨sb, 1, none⟩ (.int .u32 ((st.b + r.b) % 4294967296)) := ⟨_, rfl⟩
              rw [← hz2] at HB2 HK2 ⊢
              clear hz2
              obtain ⟨C, hC0, hCf, hCo⟩ : ∃ C : World → Prop, C z2.drew ∧ (∀ w', C w' → w'.cell? ⟨sb, 2, none⟩ = some (.int .u32 st.c)) ∧ (∀ w', C w' → Kept [] z2 w') :=
                ⟨fun w' => Kept [] z2 w', (Kept.refl _ z2).drew, fun w' h => (HB2.out.kept h (by simp)).cell 2 rfl, fun _ h => h⟩
              try dsimp only [Act.put]
              refine tail.wp_region_mix C 8 0 0 (.pointer (some ⟨sb, 0, none⟩)) (by kernel_rfl) (by kernel_rfl) hC0 (fun _ _ _ h => h) (Or.inl ⟨by rfl, fun _ => by rfl⟩) ?_
              simp only [Act.put, List.setIfInBounds_toArray, List.set_cons_zero, List.set_cons_succ, List.take_succ_cons, List.take_zero, List.drop_succ_cons, List.drop_zero]
              iterate 8
                refine ⟨?_, Or.inl ⟨by rfl, fun wq hq => ?_⟩, fun _ _ _ h => h, ?_⟩
                rotate_left
                · have q0 := hCf wq hq
                  go_simp
                  rfl
                simp only [Act.put, List.setIfInBounds_toArray, List.set_cons_zero, List.set_cons_succ]
              refine tail.wpPre_nil ?_
              refine wpQuiet_nil ?_
              intro y2 hc
              refine tail.wpListC_zero ?_
              have hB' := HB2.out.kept (hCo _ hc) (by simp)
              have q2 : y2.cell? ⟨sb, 2, none⟩ = some (.int .u32 st.c) := hB'.cell 2 rfl
              have f2 : y2.frozen? ⟨sb, 2, none⟩ = false := hB'.frozen 2
              have HB3 : Hid (Blk (y2.setCell ⟨sb, 2, none⟩ (.int .u32 ((st.c + r.c) % 4294967296))) sb ShaT #[.int .u32 ((st.a + r.a) % 4294967296), .int .u32 ((st.b + r.b) % 4294967296), .int .u32 ((st.c + r.c) % 4294967296), .int .u32 st.d, .int .u32 st.e, bv, .int .u64 long]) := hid (by simpa using hB'.set_ 2 (.int .u32 ((st.c + r.c) % 4294967296)))
              have HK3 : Hid (Kept [sb] w (y2.setCell ⟨sb, 2, none⟩ (.int .u32 ((st.c + r.c) % 4294967296)))) := hid ((HK2.out.trans (hCo _ hc) (by simp)).setCell (.inl (by simp)) _)
              clear hC0 hCf hCo hc hB' HB2 HK2
              go_wp2_with fail
              clear q2 f2
              obtain ⟨z3, hz3⟩ : ∃ z, z = y2.setCell ⟨sb, 2, none⟩ (.int .u32 ((st.c + r.c) % 4294967296)) := ⟨_, rfl⟩
              rw [← hz3] at HB3 HK3 ⊢
              clear hz3
              obtain ⟨C, hC0, hCf, hCo⟩ : ∃ C : World → Prop, C z3.drew ∧ (∀ w', C w' → w'.cell? ⟨sb, 3, none⟩ = some (.int .u32 st.d)) ∧ (∀ w', C w' → Kept [] z3 w') :=
                ⟨fun w' => Kept [] z3 w', (Kept.refl _ z3).drew, fun w' h => (HB3.out.kept h (by simp)).cell 3 rfl, fun _ h => h⟩
              try dsimp only [Act.put]
              refine tail.wp_region_mix C 8 0 0 (.pointer (some ⟨sb, 0, none⟩)) (by kernel_rfl) (by kernel_rfl) hC0 (fun _ _ _ h => h) (Or.inl ⟨by rfl, fun _ => by rfl⟩) ?_
              simp only [Act.put, List.setIfInBounds_toArray, List.set_cons_zero, List.set_cons_succ, List.take_succ_cons, List.take_zero, List.drop_succ_cons, List.drop_zero]
              iterate 8
                refine ⟨?_, Or.inl ⟨by rfl, fun wq hq => ?_⟩, fun _ _ _ h => h, ?_⟩
                rotate_left
                · have q0 := hCf wq hq
                  go_simp
                  rfl
                simp only [Act.put, List.setIfInBounds_toArray, List.set_cons_zero, List.set_cons_succ]
              refine tail.wpPre_nil ?_
              refine wpQuiet_nil ?_
              intro y3 hc
              refine tail.wpListC_zero ?_
              have hB' := HB3.out.kept (hCo _ hc) (by simp)
              have q3 : y3.cell? ⟨sb, 3, none⟩ = some (.int .u32 st.d) := hB'.cell 3 rfl
              have f3 : y3.frozen? ⟨sb, 3, none⟩ = false := hB'.frozen 3
              have HB4 : Hid (Blk (y3.setCell ⟨sb, 3, none⟩ (.int .u32 ((st.d + r.d) % 4294967296))) sb ShaT #[.int .u32 ((st.a + r.a) % 4294967296), .int .u32 ((st.b + r.b) % 4294967296), .int .u32 ((st.c + r.c) % 4294967296), .int .u32 ((st.d + r.d) % 4294967296), .int .u32 st.e, bv, .int .u64 long]) := hid (by simpa using hB'.set_ 3 (.int .u32 ((st.d + r.d) % 4294967296)))
              have HK4 : Hid (Kept [sb] w (y3.setCell ⟨sb, 3, none⟩ (.int .u32 ((st.d + r.d) % 4294967296)))) := hid ((HK3.out.trans (hCo _ hc) (by simp)).setCell (.inl (by simp)) _)
              clear hC0 hCf hCo hc hB' HB3 HK3
              go_wp2_with fail
              clear q3 f3
              obtain ⟨z4, hz4⟩ : ∃ z, z = y3.setCell ⟨sb, 3, none⟩ (.int .u32 ((st.d + r.d) % 4294967296)) := ⟨_, rfl⟩
              rw [← hz4] at HB4 HK4 ⊢
              clear hz4
              obtain ⟨C, hC0, hCf, hCo⟩ : ∃ C : World → Prop, C z4.drew ∧ (∀ w', C w' → w'.cell? ⟨sb, 4, none⟩ = some (.int .u32 st.e)) ∧ (∀ w', C w' → Kept [] z4 w') :=
                ⟨fun w' => Kept [] z4 w', (Kept.refl _ z4).drew, fun w' h => (HB4.out.kept h (by simp)).cell 4 rfl, fun _ h => h⟩
              try dsimp only [Act.put]
              refine tail.wp_region_mix C 8 0 0 (.pointer (some ⟨sb, 0, none⟩)) (by kernel_rfl) (by kernel_rfl) hC0 (fun _ _ _ h => h) (Or.inl ⟨by rfl, fun _ => by rfl⟩) ?_
              simp only [Act.put, List.setIfInBounds_toArray, List.set_cons_zero, List.set_cons_succ, List.take_succ_cons, List.take_zero, List.drop_succ_cons, List.drop_zero]
              iterate 8
                refine ⟨?_, Or.inl ⟨by rfl, fun wq hq => ?_⟩, fun _ _ _ h => h, ?_⟩
                rotate_left
                · have q0 := hCf wq hq
                  go_simp
                  rfl
                simp only [Act.put, List.setIfInBounds_toArray, List.set_cons_zero, List.set_cons_succ]
              refine tail.wpPre_nil ?_
              refine wpQuiet_nil ?_
              intro y4 hc
              refine tail.wpListC_zero ?_
              have hB' := HB4.out.kept (hCo _ hc) (by simp)
              have q4 : y4.cell? ⟨sb, 4, none⟩ = some (.int .u32 st.e) := hB'.cell 4 rfl
              have f4 : y4.frozen? ⟨sb, 4, none⟩ = false := hB'.frozen 4
              have HB5 : Hid (Blk (y4.setCell ⟨sb, 4, none⟩ (.int .u32 ((st.e + r.e) % 4294967296))) sb ShaT #[.int .u32 ((st.a + r.a) % 4294967296), .int .u32 ((st.b + r.b) % 4294967296), .int .u32 ((st.c + r.c) % 4294967296), .int .u32 ((st.d + r.d) % 4294967296), .int .u32 ((st.e + r.e) % 4294967296), bv, .int .u64 long]) := hid (by simpa using hB'.set_ 4 (.int .u32 ((st.e + r.e) % 4294967296)))
              have HK5 : Hid (Kept [sb] w (y4.setCell ⟨sb, 4, none⟩ (.int .u32 ((st.e + r.e) % 4294967296)))) := hid ((HK4.out.trans (hCo _ hc) (by simp)).setCell (.inl (by simp)) _)
              clear hC0 hCf hCo hc hB' HB4 HK4
              go_wp2_with fail
              clear q4 f4
              go_end0
              exact ⟨rfl, HK5.out, by rw [HC.out]; exact HB5.out⟩
end Go.Proofs.YtdbkafpflicdiaaDoor.sha
