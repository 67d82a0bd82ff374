/- impl.fileOf. Printed by gen_find.py. -/
import Derived.Test.YtnidjkmfnojlaaaDoorIdxRet
set_option linter.unusedVariables false
attribute [local go_sem ↓] Go.wp_at_zero Go.wp_at_succ
namespace Go.Proofs.YtnidjkmfnojlaaaDoor.idx
open Go.RowKit Lib frm mem opn hash strs
theorem entry_cells {w : World} {b : Nat} {f : FileD} (h : Blk w b Ety (entryCells f).toArray) (hh : Hex40 f.hash) : w.rangeAt b 0 (hashCells f.hash) ∧ w.cell? ⟨b, 20, none⟩ = some (.string f.name) ∧ w.cell? ⟨b, 21, none⟩ = some (.int .i64 (f.s1 + 62135596800)) ∧ w.cell? ⟨b, 22, none⟩ = some (.int .i64 f.n1) ∧ w.cell? ⟨b, 23, none⟩ = some (.int .i64 0) ∧ w.cell? ⟨b, 24, none⟩ = some (.int .i64 (f.s2 + 62135596800)) ∧ w.cell? ⟨b, 25, none⟩ = some (.int .i64 f.n2) ∧ w.cell? ⟨b, 26, none⟩ = some (.int .i64 0) ∧ w.cell? ⟨b, 27, none⟩ = some (.int .u32 f.dev) ∧ w.cell? ⟨b, 28, none⟩ = some (.int .u32 f.ino) ∧ w.cell? ⟨b, 29, none⟩ = some (.int .u32 f.mode) ∧ w.cell? ⟨b, 30, none⟩ = some (.int .u32 f.uid) ∧ w.cell? ⟨b, 31, none⟩ = some (.int .u32 f.gid) ∧ w.cell? ⟨b, 32, none⟩ = some (.int .u32 f.sz) ∧ w.cell? ⟨b, 33, none⟩ = some (.int .i64 f.stage) ∧ w.cell? ⟨b, 34, none⟩ = some (.bool f.skip) ∧ w.cell? ⟨b, 35, none⟩ = some (.bool f.intent) := by
  have hl := hashCells_len hh
  have hc : ∀ i u, (entryCells f)[i]? = some u → w.cell? ⟨b, i, none⟩ = some u := fun i u hu => h.cell i (by simpa using hu)
  refine ⟨fun i u hu => by rw [Nat.zero_add]; exact hc i u (by unfold entryCells; rw [List.getElem?_append_left (List.getElem?_eq_some_iff.1 hu).1]; exact hu), hc 20 _ ?_, hc 21 _ ?_, hc 22 _ ?_, hc 23 _ ?_, hc 24 _ ?_, hc 25 _ ?_, hc 26 _ ?_, hc 27 _ ?_, hc 28 _ ?_, hc 29 _ ?_, hc 30 _ ?_, hc 31 _ ?_, hc 32 _ ?_, hc 33 _ ?_, hc 34 _ ?_, hc 35 _ ?_⟩
  all_goals
    unfold entryCells
    rw [List.getElem?_append_right (by rw [hl]; decide), hl]
    rfl
attribute [local go_sem] FileD.cells
set_option maxRecDepth 100000 in
set_option maxHeartbeats 8000000 in
theorem fileOf_calls (b : Nat) (f : FileD) (w : World) (hb : Blk w b Ety (entryCells f).toArray) (hp : Plain f) :
    Calls Tryd.prog 20 #[.pointer (some ⟨b, 0, none⟩)] w (Gives (.agg f.cells.toArray) w) := by
  have c1 := hid (fun w => stampOf_calls f.s1 f.n1 w hp.a1 hp.a2 hp.a3 hp.a4)
  have c2 := hid (fun w => stampOf_calls f.s2 f.n2 w hp.b1 hp.b2 hp.b3 hp.b4)
  have c3 := hid (fun w => hashText_calls f.hash w hp.hs)
  unfold timeV at c1 c2
  have hlt := hb.lt
  have hne : b ≠ w.heap.size := Nat.ne_of_lt hlt
  have hne' : w.heap.size ≠ b := Nat.ne_of_gt hlt
  have hu1 := Tryd.underlying69
  have hi1 : (Tryd.prog.info? Hty).map (·.size) = some (hashCells f.hash).length := by rw [infoHash, hashCells_len hp.hs]
  have hl1 := hashCells_len hp.hs
  have ho1 := hash_one f.hash
  have HF : Hid (∀ w', Kept [w.heap.size] w w' → w'.rangeAt b 0 (hashCells f.hash) ∧ w'.cell? ⟨b, 20, none⟩ = some (.string f.name) ∧ w'.cell? ⟨b, 21, none⟩ = some (.int .i64 (f.s1 + 62135596800)) ∧ w'.cell? ⟨b, 22, none⟩ = some (.int .i64 f.n1) ∧ w'.cell? ⟨b, 23, none⟩ = some (.int .i64 0) ∧ w'.cell? ⟨b, 24, none⟩ = some (.int .i64 (f.s2 + 62135596800)) ∧ w'.cell? ⟨b, 25, none⟩ = some (.int .i64 f.n2) ∧ w'.cell? ⟨b, 26, none⟩ = some (.int .i64 0) ∧ w'.cell? ⟨b, 27, none⟩ = some (.int .u32 f.dev) ∧ w'.cell? ⟨b, 28, none⟩ = some (.int .u32 f.ino) ∧ w'.cell? ⟨b, 29, none⟩ = some (.int .u32 f.mode) ∧ w'.cell? ⟨b, 30, none⟩ = some (.int .u32 f.uid) ∧ w'.cell? ⟨b, 31, none⟩ = some (.int .u32 f.gid) ∧ w'.cell? ⟨b, 32, none⟩ = some (.int .u32 f.sz) ∧ w'.cell? ⟨b, 33, none⟩ = some (.int .i64 f.stage) ∧ w'.cell? ⟨b, 34, none⟩ = some (.bool f.skip) ∧ w'.cell? ⟨b, 35, none⟩ = some (.bool f.intent)) := hid (fun w' hk => entry_cells (hb.kept hk (by simpa using hne)) hp.hs)
  have HK0 : Hid (Kept [w.heap.size] w (w.alloc (.cells #[.int .i64 0, .int .i64 0, .int .i64 0, .int .i64 0, .int .u32 0, .int .u32 0, .int .u32 0, .int .u32 0, .int .u32 0, .int .u32 0, .string ⟨#[]⟩, .string ⟨#[]⟩, .int .i64 0, .bool false, .bool false] Fty))) := hid ((Kept.refl _ w).alloc _)
  have HZ := hid (Blk.new w Fty #[.int .i64 0, .int .i64 0, .int .i64 0, .int .i64 0, .int .u32 0, .int .u32 0, .int .u32 0, .int .u32 0, .int .u32 0, .int .u32 0, .string ⟨#[]⟩, .string ⟨#[]⟩, .int .i64 0, .bool false, .bool false])
  clear hb hp
  go_enter Tryd.func20, Tryd.ntmps20
  go_wp2_with fail
  obtain ⟨w1, hw1⟩ : ∃ w1, w1 = w.alloc (.cells #[.int .i64 0, .int .i64 0, .int .i64 0, .int .i64 0, .int .u32 0, .int .u32 0, .int .u32 0, .int .u32 0, .int .u32 0, .int .u32 0, .string ⟨#[]⟩, .string ⟨#[]⟩, .int .i64 0, .bool false, .bool false] Fty) := ⟨_, rfl⟩
  rw [← hw1] at HK0 HZ ⊢
  have HK1 : Hid (Kept [] w w1) := hid (by rw [hw1]; exact (Kept.refl _ w).alloc _)
  clear hw1
  go_region_held3 (fun w' => w'.rangeAt b 0 (hashCells f.hash) ∧ w'.cell? ⟨b, 20, none⟩ = some (.string f.name) ∧ w'.cell? ⟨b, 21, none⟩ = some (.int .i64 (f.s1 + 62135596800)) ∧ w'.cell? ⟨b, 22, none⟩ = some (.int .i64 f.n1) ∧ w'.cell? ⟨b, 23, none⟩ = some (.int .i64 0) ∧ w'.cell? ⟨b, 24, none⟩ = some (.int .i64 (f.s2 + 62135596800)) ∧ w'.cell? ⟨b, 25, none⟩ = some (.int .i64 f.n2) ∧ w'.cell? ⟨b, 26, none⟩ = some (.int .i64 0) ∧ w'.cell? ⟨b, 27, none⟩ = some (.int .u32 f.dev) ∧ w'.cell? ⟨b, 28, none⟩ = some (.int .u32 f.ino) ∧ w'.cell? ⟨b, 29, none⟩ = some (.int .u32 f.mode) ∧ w'.cell? ⟨b, 30, none⟩ = some (.int .u32 f.uid) ∧ w'.cell? ⟨b, 31, none⟩ = some (.int .u32 f.gid) ∧ w'.cell? ⟨b, 32, none⟩ = some (.int .u32 f.sz) ∧ w'.cell? ⟨b, 33, none⟩ = some (.int .i64 f.stage) ∧ w'.cell? ⟨b, 34, none⟩ = some (.bool f.skip) ∧ w'.cell? ⟨b, 35, none⟩ = some (.bool f.intent))
    ((refine HF.out _ ?_; first | (with_reducible exact HK0.out.drew) | (repeat (first | (with_reducible exact HK5.out) | (with_reducible exact HK4.out) | (with_reducible exact HK3.out) | (refine Kept.setCell ?_ (.inl (by simp)) _)))))
    (first
      | (go_at_call 31; have HX := HL3; refine (c2.out _).mono ?_; rintro e w4 ⟨rfl, hk4⟩; have HL4 := hid (HL3.out.trans_ hk4); have HK4 := hid (HK0.out.trans HL4.out (by simp)); clear hk4 HX)
      | (go_at_call 31; refine (c1.out _).mono ?_; rintro e w3 ⟨rfl, hk3⟩; have HL3 := hid (((Kept.refl [] w1).drew).trans_ hk3); have HK3 := hid (HK0.out.trans HL3.out (by simp)); clear hk3)
      | (go_at_call 32; refine (c3.out _).mono ?_; rintro e w5 ⟨rfl, hk5⟩; have HL5 := hid (HL4.out.trans_ hk5); have HK5 := hid (HK0.out.trans HL5.out (by simp)); have HZ5 := hid (HZ.out.kept HL5.out (by simp)); have z0 : w5.cell? ⟨w.heap.size, 0, none⟩ = some (.int .i64 0) := HZ5.out.cell 0 rfl; have y0 := HZ5.out.frozen 0; have z1 : w5.cell? ⟨w.heap.size, 1, none⟩ = some (.int .i64 0) := HZ5.out.cell 1 rfl; have y1 := HZ5.out.frozen 1; have z2 : w5.cell? ⟨w.heap.size, 2, none⟩ = some (.int .i64 0) := HZ5.out.cell 2 rfl; have y2 := HZ5.out.frozen 2; have z3 : w5.cell? ⟨w.heap.size, 3, none⟩ = some (.int .i64 0) := HZ5.out.cell 3 rfl; have y3 := HZ5.out.frozen 3; have z4 : w5.cell? ⟨w.heap.size, 4, none⟩ = some (.int .u32 0) := HZ5.out.cell 4 rfl; have y4 := HZ5.out.frozen 4; have z5 : w5.cell? ⟨w.heap.size, 5, none⟩ = some (.int .u32 0) := HZ5.out.cell 5 rfl; have y5 := HZ5.out.frozen 5; have z6 : w5.cell? ⟨w.heap.size, 6, none⟩ = some (.int .u32 0) := HZ5.out.cell 6 rfl; have y6 := HZ5.out.frozen 6; have z7 : w5.cell? ⟨w.heap.size, 7, none⟩ = some (.int .u32 0) := HZ5.out.cell 7 rfl; have y7 := HZ5.out.frozen 7; have z8 : w5.cell? ⟨w.heap.size, 8, none⟩ = some (.int .u32 0) := HZ5.out.cell 8 rfl; have y8 := HZ5.out.frozen 8; have z9 : w5.cell? ⟨w.heap.size, 9, none⟩ = some (.int .u32 0) := HZ5.out.cell 9 rfl; have y9 := HZ5.out.frozen 9; have z10 : w5.cell? ⟨w.heap.size, 10, none⟩ = some (.string ⟨#[]⟩) := HZ5.out.cell 10 rfl; have y10 := HZ5.out.frozen 10; have z11 : w5.cell? ⟨w.heap.size, 11, none⟩ = some (.string ⟨#[]⟩) := HZ5.out.cell 11 rfl; have y11 := HZ5.out.frozen 11; have z12 : w5.cell? ⟨w.heap.size, 12, none⟩ = some (.int .i64 0) := HZ5.out.cell 12 rfl; have y12 := HZ5.out.frozen 12; have z13 : w5.cell? ⟨w.heap.size, 13, none⟩ = some (.bool false) := HZ5.out.cell 13 rfl; have y13 := HZ5.out.frozen 13; have z14 : w5.cell? ⟨w.heap.size, 14, none⟩ = some (.bool false) := HZ5.out.cell 14 rfl; have y14 := HZ5.out.frozen 14; clear hk5)
      | fail)
  go_wp2_with fail
  trace_state
  refine file_ret (g := w.heap.size) (f := f) rfl rfl (file_stored f HZ5.out) ?_
  exact ⟨rfl, by repeat (first | (with_reducible exact HK1.out.trans_ HL5.out) | (refine Kept.setCell ?_ (.inr (Nat.le_refl _)) _))⟩
end Go.Proofs.YtnidjkmfnojlaaaDoor.idx
