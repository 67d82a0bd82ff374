/- impl.indexOf. Printed by gen_of.py. -/
import Derived.Test.YtnidjkmfnojlaaaDoorIdxRow
import Derived.Test.YtnidjkmfnojlaaaDoorTail
set_option linter.unusedVariables false
attribute [local go_sem ↓] Go.wp_at_zero Go.wp_at_succ
namespace Go.Proofs.YtnidjkmfnojlaaaDoor.idx
open Go.RowKit Lib frm mem opn hash strs

def IdxIs (w : World) (n : Nat) (fs : List FileD) (e : Ending) (w' : World) : Prop := e = .returned (.pointer (some ⟨w.heap.size, 0, none⟩)) ∧ Kept [] w w' ∧ ∃ v ps, IdxAt w' (w.heap.size + 1) w.heap.size n fs v ps
theorem infoPtr : (Tryd.prog.info? Pty).map (fun i => (i.size, i.bytes, i.zero)) = some (1, 8, some (.pointer none)) := by kernel_rfl
set_option maxRecDepth 100000 in
set_option maxHeartbeats 8000000 in
theorem indexOf_calls (A : Option Addr) (n c : Nat) (fs : List FileD) (w : World) (hF : Files w w.heap.size A n fs) (hn : n ≤ 1000) (hp : ∀ f ∈ fs, plainB f = true)
    (ev : Value) (hE : w.cell? ⟨7, 0, none⟩ = some ev) (hlt : 7 < w.heap.size) :
    Calls Tryd.prog 18 #[.int .u32 2, .slice A n c] w (IdxIs w n fs) := by
  have hb : (n : Int) ≤ 1000 := by omega
  obtain ⟨i0, hi, hz0, hz1, hz2⟩ : ∃ i : TypeInfo, Tryd.prog.info? Pty = some i ∧ i.zero = some (.pointer none) ∧ i.size = 1 ∧ i.bytes = 8 := by
    cases h : Tryd.prog.info? Pty with
    | none => have := infoPtr; rw [h] at this; cases this
    | some i => have := infoPtr; rw [h] at this; simp at this; exact ⟨i, rfl, this.2.2, this.1, this.2.1⟩
  have HF := hid hF
  have HP := hid hp
  have HE := hid hE
  have HLT := hid hlt
  clear hF hp hE hlt
  go_enter Tryd.func18, Tryd.ntmps18
  go_wp2_with fail
  go_loopw [13] (fun iv wr => ∃ k : Nat, k ≤ n ∧ iv = .int .i64 k ∧ Hid (Kept [] w wr) ∧ Hid (w.heap.size < wr.heap.size) ∧ ∃ v ps, Hid (IdxAt wr (w.heap.size + 1) w.heap.size k fs v ps)) (fun iv _ => n - (RowKit.intOf iv).toNat)
  case atStart => exact ⟨0, by omega, rfl, hid ((Kept.refl _ _).alloc _), hid (by simp), .slice none 0 0, [], hid ⟨Blk.new _ _ _, World.ownsRow_nil _ _ _ _, rfl, fun i f h => absurd h (by omega)⟩⟩
  case round =>
    obtain ⟨k, hk, rfl, hK, hS, v, ps, hI⟩ := hrel
    by_cases hlt : k < n
    · obtain ⟨g, o, f, rfl, hg, hfk, hmem, hc⟩ := HF.out.at_ hlt
      have HR : Hid (wr.rangeAt g (o + k * 15) f.cells) := hid (cells_kept hK.out hg hc)
      have HFk := hid hfk
      have hpl := plain_of (HP.out f hmem)
      obtain ⟨b0, b1, b2, b3, b4, b5, b6, b7, b8, b9, b10, b11, b12, b13, b14, b15, b16, b17, b18, b19, hhash⟩ := raw20 hpl.hs
      have c1 := hid (fun w => timeOf_calls f.s1 f.n1 w hpl.a1 hpl.a2 hpl.a3 hpl.a4)
      have c2 := hid (fun w => timeOf_calls f.s2 f.n2 w hpl.b1 hpl.b2 hpl.b3 hpl.b4)
      have c3 : Hid (∀ w', Kept [] w w' → Calls Tryd.prog 30 #[.string f.hash] w' (fun e w'' => e = .returned (.agg #[.int .u8 b0.toNat, .int .u8 b1.toNat, .int .u8 b2.toNat, .int .u8 b3.toNat, .int .u8 b4.toNat, .int .u8 b5.toNat, .int .u8 b6.toNat, .int .u8 b7.toNat, .int .u8 b8.toNat, .int .u8 b9.toNat, .int .u8 b10.toNat, .int .u8 b11.toNat, .int .u8 b12.toNat, .int .u8 b13.toNat, .int .u8 b14.toNat, .int .u8 b15.toNat, .int .u8 b16.toNat, .int .u8 b17.toNat, .int .u8 b18.toNat, .int .u8 b19.toNat]) ∧ Kept [] w' w'')) :=
        hid (fun w' hk => (newHash_calls f.hash w' ev ((hk.cell (p := ⟨7, 0, none⟩) HLT.out (by simp)).trans HE.out) (Nat.lt_of_lt_of_le HLT.out hk.size) hpl.hs).mono (fun e w'' h => by unfold HashIs at h; rw [hhash] at h; exact h))
      have hhashH := hid hhash
      clear hc hfk hmem hpl hhash
      unfold timeV at c1 c2
      go_wp2_with (first
          | (refine wpList_load_mid rfl Fty (.tmp 15) rfl g (o + k * 15) rfl f.cells _ HR.out Tryd.underlying29 rfl infoFile ?_)
          | (refine wpList_store_kept rfl Fty (.tmp 7) (.tmp 16) rfl wr.heap.size f.cells.toArray rfl rfl Fty _ (Blk.new wr Fty _) (file_sz f) rfl (file_all f) ?_; intro w2 h1 h2 h3; have HB2 := hid h1.out; have HK2 := hid ((hK.out.alloc _).trans h2.out (by simp; exact hK.out.size)); have HI2 : Hid (IdxAt w2 (w.heap.size + 1) w.heap.size k fs v ps) := hid (hI.out.kept (((Kept.refl [] wr).alloc _).trans h2.out (by simp))); have hS2 : Hid (wr.heap.size < w2.heap.size) := hid (by rw [h3.out]; simp); clear h1 h2 h3))
      obtain ⟨f0, f1, f2, f3, f4, f5, f6, f7, f8, f9, f10, f11, f12, f13, f14⟩ := blk15 HB2.out
      have q2 : w2.cell? ⟨w.heap.size, 1, none⟩ = some v := HI2.out.1.cell 1 rfl
      have hne : w.heap.size ≠ wr.heap.size := Nat.ne_of_lt hS.out
      obtain ⟨C, hC0, hCf, hCk, hCo⟩ : ∃ C : World → Prop, C w2.drew ∧ (∀ w', C w' → w'.cell? ⟨wr.heap.size, 0, none⟩ = some (.int .i64 f.s1) ∧ w'.cell? ⟨wr.heap.size, 1, none⟩ = some (.int .i64 f.n1) ∧ w'.cell? ⟨wr.heap.size, 2, none⟩ = some (.int .i64 f.s2) ∧ w'.cell? ⟨wr.heap.size, 3, none⟩ = some (.int .i64 f.n2) ∧ w'.cell? ⟨wr.heap.size, 4, none⟩ = some (.int .u32 f.dev) ∧ w'.cell? ⟨wr.heap.size, 5, none⟩ = some (.int .u32 f.ino) ∧ w'.cell? ⟨wr.heap.size, 6, none⟩ = some (.int .u32 f.mode) ∧ w'.cell? ⟨wr.heap.size, 7, none⟩ = some (.int .u32 f.uid) ∧ w'.cell? ⟨wr.heap.size, 8, none⟩ = some (.int .u32 f.gid) ∧ w'.cell? ⟨wr.heap.size, 9, none⟩ = some (.int .u32 f.sz) ∧ w'.cell? ⟨wr.heap.size, 10, none⟩ = some (.string f.hash) ∧ w'.cell? ⟨wr.heap.size, 11, none⟩ = some (.string f.name) ∧ w'.cell? ⟨wr.heap.size, 12, none⟩ = some (.int .i64 f.stage) ∧ w'.cell? ⟨wr.heap.size, 13, none⟩ = some (.bool f.skip) ∧ w'.cell? ⟨wr.heap.size, 14, none⟩ = some (.bool f.intent) ∧ w'.cell? ⟨w.heap.size, 1, none⟩ = some v) ∧ (∀ w' w'', C w' → Kept [] w' w'' → C w'') ∧ (∀ w', C w' → Kept [] w2 w') :=
        ⟨fun w' => Kept [] w2 w', (Kept.refl _ w2).drew, fun w' h => (by obtain ⟨d0, d1, d2, d3, d4, d5, d6, d7, d8, d9, d10, d11, d12, d13, d14⟩ := blk15 (HB2.out.kept h (by simp)); exact ⟨d0, d1, d2, d3, d4, d5, d6, d7, d8, d9, d10, d11, d12, d13, d14, (HI2.out.1.kept h (by simp)).cell 1 rfl⟩), fun _ _ h h' => h.trans_ h', fun _ h => h⟩
      dsimp only [Act.put]
      refine tail.wp_region_mix C 4 30 2 (.pointer (some ⟨w.heap.size, 0, none⟩)) (by kernel_rfl) (by kernel_rfl) hC0 (fun _ _ _ h => h) (Or.inl ⟨by rfl, fun _ => by rfl⟩) ?_
      simp only [Act.put, List.setIfInBounds_toArray, List.set_cons_zero, List.set_cons_succ, List.take_succ_cons, List.take_zero, List.drop_succ_cons, List.drop_zero]
      iterate 4
        refine ⟨?_, Or.inl ⟨by rfl, fun wq hq => ?_⟩, fun _ _ _ h => h, ?_⟩
        rotate_left
        · obtain ⟨d0, d1, d2, d3, d4, d5, d6, d7, d8, d9, d10, d11, d12, d13, d14, d15⟩ := hCf wq hq
          go_simp
          rfl
        simp only [Act.put, List.setIfInBounds_toArray, List.set_cons_zero, List.set_cons_succ]
      refine tail.wpPre_nil ?_
      repeat
        first
        | go_big_quiet_skip
        | (go_big_quiet_want
           go_big_quiet_op
           first
           | go_big_quiet_on
           | (apply Exists.intro
              refine ⟨fun wq hq => ?_, ?_⟩
              (first
                  | (go_at_call_of 29 (Value.agg #[Value.int .i64 f.s1, Value.int .i64 f.n1]); refine (c1.out wq).mono ?_; rintro e w3 ⟨rfl, hk3⟩; exact ⟨rfl, hCk _ _ hq hk3⟩)
                  | (go_at_call_of 29 (Value.agg #[Value.int .i64 f.s2, Value.int .i64 f.n2]); refine (c2.out wq).mono ?_; rintro e w3 ⟨rfl, hk3⟩; exact ⟨rfl, hCk _ _ hq hk3⟩)
                  | (go_at_call 30; refine (c3.out wq (HK2.out.trans_ (hCo _ hq))).mono ?_; rintro e w3 ⟨rfl, hk3⟩; exact ⟨rfl, hCk _ _ hq hk3⟩)
                  | (with_reducible rfl)
                  | (obtain ⟨d0, d1, d2, d3, d4, d5, d6, d7, d8, d9, d10, d11, d12, d13, d14, d15⟩ := hCf wq hq; go_simp; (with_reducible first | rfl | exact hq | exact ⟨rfl, hq⟩)))
              go_big_quiet_on))
      refine wpQuiet_nil ?_
      intro w5 hz
      have HK5 : Hid (Kept [] w2 w5) := hid (hCo _ hz)
      have hB5 := HI2.out.1.kept HK5.out (by simp)
      have q5 := hB5.cell 1 rfl
      have HB5 := hid (HB2.out.kept HK5.out (by simp))
      have HI5 := hid (HI2.out.kept HK5.out)
      have hS5 : Hid (w.heap.size + 1 ≤ w5.heap.size) := hid (by have h1 := HK5.out.size; have h2 := hS2.out; have h3 := hS.out; omega)
      have hC6 : ∀ o o', C ((w5.alloc o).alloc o') := fun o o' => hCk _ _ hz (((Kept.refl [] w5).alloc o).alloc o')
      have hC5 : ∀ o, C (w5.alloc o) := fun o => hCk _ _ hz ((Kept.refl [] w5).alloc o)
      clear hC0 hCf hCk hCo hz hB5
      refine tail.wpListC_step rfl fun K hK => ?_
      go_simp
      refine hK _ _ (hC5 _) ?_
      clear hK K
      refine tail.wpListC_step rfl fun K hK => ?_
      go_simp
      refine hK _ _ (hC6 _ _) ?_
      clear hK K
      refine tail.wpListC_zero ?_
      clear hC5 hC6
      go_wp2_with (at_builtin; refine wpList_append_any _ rfl (.tmp 21) (.tmp 53) _ rfl (w.heap.size + 1) Pty i0 _ 1 8 Tryd.underlying58 hi hz0 hz1 hz2 rfl (by omega) v k ps rfl (HI5.out.kept (((Kept.refl [] w5).alloc _).alloc _)).2.1 (w5.heap.size + 2) (some ⟨w5.heap.size + 1, 0, none⟩) 1 1 [.pointer (some ⟨w5.heap.size, 0, none⟩)] rfl (two_ptr w5 _ _ Pty) (by simp [Value.oneCell']) (by simp only [maxLen]; omega) (by omega) (by have := hS5.out; simp; omega) ?_; intro v6 w6 hown6 hg6 hat6; obtain ⟨A6, c6, rfl, -⟩ := own_form hown6; have HB6 : Hid (Blk w6 wr.heap.size Fty f.cells.toArray) := hid (blk_grown ((HB5.out.alloc _).alloc _) (HI5.out.kept (((Kept.refl [] w5).alloc _).alloc _)).2.1 hg6 (by decide)); have hb6 := blk_grown ((HI5.out.1.alloc _).alloc _) (HI5.out.kept (((Kept.refl [] w5).alloc _).alloc _)).2.1 hg6 (by decide); have q6 := hb6.cell 1 rfl; have z6 := hb6.frozen 1; have H6 := hid (And.intro hown6 hg6); clear hb6 hown6 hg6 hat6)
      have HI7 := hid (HI5.out.more hS5.out HFk.out _ (by unfold entryCells; rw [hhashH.out]; rfl) H6.out.1 H6.out.2)
      have HK7 := hid (kept_more w (HK2.out.trans_ HK5.out) HI5.out.2.1 (Nat.le_succ _) H6.out.2 ⟨w.heap.size, 1, none⟩ (Nat.le_refl _) (.slice A6 (k + 1) c6))
      have HS7 := hid (by_size H6.out.2 hS5.out ⟨w.heap.size, 1, none⟩ (.slice A6 (k + 1) c6))
      clear H6 HB6 q6 z6
      go_roundw
      case rel => exact ⟨k + 1, by omega, by go_num, HK7, HS7, _, _, HI7⟩
      case measure => simp [RowKit.intOf]; omega
    · go_wp2_with fail
      go_ret
      have : k = n := by omega
      subst this
      exact ⟨rfl, hK.out, v, ps, hI.out⟩
end Go.Proofs.YtnidjkmfnojlaaaDoor.idx
