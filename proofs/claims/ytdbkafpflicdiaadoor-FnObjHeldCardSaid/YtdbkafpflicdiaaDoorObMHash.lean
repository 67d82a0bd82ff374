/- plumbing.MemoryObject.Hash. -/
import Derived.Test.YtdbkafpflicdiaaDoorObMem
import Derived.Test.YtdbkafpflicdiaaDoorHeld
import Derived.Test.YtdbkafpflicdiaaDoorTail
set_option linter.unusedVariables false
namespace Go.Proofs.YtdbkafpflicdiaaDoor.ob
open Go.RowKit Lib mem frm row sha

theorem own_bytes {w : World} {B n : Nat} {v : Value} {l : List UInt8} (h : w.ownsRow B 5 1 v n (byteCells l)) : ∃ A c, v = .slice A n c ∧ n ≤ c ∧ Bytes w w.heap.size A n l := by
  rcases Nat.eq_zero_or_pos n with h0 | h0
  · subst h0
    have hl : l = [] := by have := h.1; simpa [byteCells] using this
    subst hl
    rcases h.2 with ⟨rfl, _⟩ | ⟨g, cap, cur, rfl, _⟩
    · exact ⟨none, 0, rfl, Nat.le_refl _, ⟨Reads.none_, fun h => absurd h (by omega)⟩⟩
    · exact ⟨_, cap, rfl, Nat.zero_le _, ⟨Reads.none_, fun h => absurd h (by omega)⟩⟩
  · rcases h.2 with ⟨_, h1⟩ | ⟨g, cap, cur, hv, _, _, hnc, _⟩
    · have := h.1; rw [h1] at this; simp at this; omega
    · subst hv
      exact ⟨_, cap, rfl, hnc, ⟨Reads.of_own h, fun _ => ⟨g, 0, rfl⟩⟩⟩
theorem blk_setCells {b : Nat} {t : TypeId} : ∀ (vs : List Value) (o : Nat) (w : World) (cs : Array Value), Blk w b t cs → ∃ cs', Blk (w.setCells b o vs) b t cs'
  | [], _, _, cs, h => ⟨cs, h⟩
  | v :: r, o, w, cs, h => blk_setCells r (o + 1) _ _ (h.set_ o v)
theorem kept_setCells {b : Nat} : ∀ (vs : List Value) (o : Nat) (w : World), Kept [b] w (w.setCells b o vs)
  | [], _, w => Kept.refl _ w
  | v :: r, o, w => ((Kept.refl [b] w).setCell (p := ⟨b, o, none⟩) (.inl (by simp)) v).trans_ (kept_setCells r (o + 1) _)
theorem moC_range {w : World} {ob k : Nat} {v : Value} {z : Nat} (h : Blk w ob MT (moC k v z)) : w.rangeAt ob 1 zero20 := fun j v hv => by
  refine h.cell (1 + j) ?_
  have hj : j < 20 := by have := (List.getElem?_eq_some_iff.1 hv).1; simpa [zero20] using this
  have : v = .int .u8 0 := List.eq_of_mem_replicate (List.mem_of_getElem? hv)
  subst this
  rcases (by omega : j = 0 ∨ j = 1 ∨ j = 2 ∨ j = 3 ∨ j = 4 ∨ j = 5 ∨ j = 6 ∨ j = 7 ∨ j = 8 ∨ j = 9 ∨ j = 10 ∨ j = 11 ∨ j = 12 ∨ j = 13 ∨ j = 14 ∨ j = 15 ∨ j = 16 ∨ j = 17 ∨ j = 18 ∨ j = 19) with rfl | rfl | rfl | rfl | rfl | rfl | rfl | rfl | rfl | rfl | rfl | rfl | rfl | rfl | rfl | rfl | rfl | rfl | rfl | rfl <;> rfl
theorem moC_there {w : World} {ob k : Nat} {v : Value} {z : Nat} (h : Blk w ob MT (moC k v z)) : w.there ob 1 20 := fun j hj => by
  have h1 := moC_range h j (.int .u8 0) (by unfold zero20; rw [List.getElem?_replicate, if_pos hj])
  exact ⟨by rw [h1]; rfl, h.frozen _⟩
theorem eq_zero (w : World) : (binOp .eql Hty (.agg zero20.toArray) (.agg zero20.toArray)).run Tryd.prog w = .ok (.bool true) w := by kernel_rfl
def Hashed (w : World) (ob k : Nat) (l : List UInt8) (e : Ending) (w' : World) : Prop := e = .returned (.agg (byteCells (objHash k l)).toArray) ∧ Kept [ob] w w' ∧ w'.cell? ⟨ob, 22, none⟩ = some (.int .i64 l.length)
set_option maxRecDepth 100000 in
set_option maxHeartbeats 8000000 in
theorem mhash_calls (w0 w : World) (ob k : Nat) (l : List UInt8) (A : Option Addr) (c : Nat) (h : MO w0 w ob k l (.slice A l.length c)) (h1 : 1 ≤ k) (h4 : k ≤ 4) (hlim : l.length ≤ 1000000) (hT : Lib.TabIs Tryd.prog w "internal/strconv.uint64pow10" .u64 Lib.pow10Tab) :
    Calls Tryd.prog 14 #[.pointer (some ⟨ob, 0, none⟩)] w (Hashed w ob k l) := by
  obtain ⟨w1, hw1⟩ : ∃ w1, w1 = w.alloc (.cells zero20.toArray Hty) := ⟨_, rfl⟩
  have hk1 : Kept [] w w1 := by rw [hw1]; exact (Kept.refl [] w).alloc _
  have hb1 : Blk w1 w.heap.size Hty zero20.toArray := by rw [hw1]; exact Blk.new w Hty _
  have HM1 := hid (h.kept hk1)
  have HW1 : Hid (w.alloc (.cells #[.int .u8 0, .int .u8 0, .int .u8 0, .int .u8 0, .int .u8 0, .int .u8 0, .int .u8 0, .int .u8 0, .int .u8 0, .int .u8 0, .int .u8 0, .int .u8 0, .int .u8 0, .int .u8 0, .int .u8 0, .int .u8 0, .int .u8 0, .int .u8 0, .int .u8 0, .int .u8 0] 37) = w1) := hid (by rw [hw1]; rfl)
  have HK1 := hid hk1
  have HB1 := hid hb1
  have HKK := hid (And.intro h1 (And.intro h4 hlim))
  have HT := hid (Lib.tabBelow_of_tabIs hT)
  clear hw1 hk1 hb1 h h1 h4 hlim hT
  go_enter Tryd.func14, Tryd.ntmps14
  go_wp2_with fail
  rw [HW1.out]
  obtain ⟨n, hn⟩ : ∃ n, n = l.length := ⟨_, rfl⟩
  have hm := HM1.out
  rw [← hn] at hm
  have HM2 : Hid (Blk w1 ob MT (moC k (.slice A n c) n)) := hid (by have := hm.b; rw [← hn] at this; exact this)
  have HN := hid hn
  clear hn hm
  have hez := eq_zero
  obtain ⟨C, hC0, hCf, hCo⟩ : ∃ C : World → Prop, C w1.drew ∧ (∀ w', C w' → w'.rangeAt ob 1 zero20 ∧ w'.cell? ⟨ob, 0, none⟩ = some (.int .i8 k) ∧ w'.cell? ⟨ob, 21, none⟩ = some (.slice A n c) ∧ w'.cell? ⟨ob, 22, none⟩ = some (.int .i64 n)) ∧ (∀ w', C w' → Kept [] w1 w') :=
    ⟨fun w' => Kept [] w1 w', (Kept.refl _ w1).drew, fun w' h => ⟨moC_range (HM2.out.kept h (by simp)), (HM2.out.kept h (by simp)).cell 0 rfl, (HM2.out.kept h (by simp)).cell 21 rfl, (HM2.out.kept h (by simp)).cell 22 rfl⟩, fun _ h => h⟩
  try dsimp only [Act.put]
  refine wp_region_held_drew (S := C) (by kernel_rfl) hC0 (fun _ => ?_)
  refine held.take 0 (.pointer (some ⟨ob, 0, none⟩)) rfl (by kernel_rfl) (fun _ _ _ h => h) (Or.inl ⟨by kernel_rfl, fun wq hq => by obtain ⟨-, e1, e2, e3⟩ := hCf wq hq; go_simp⟩) hC0 ?_
  refine held.take 1 (.pointer (some ⟨ob, 0, none⟩)) rfl (by kernel_rfl) (fun _ _ _ h => h) (Or.inl ⟨by kernel_rfl, fun wq hq => by obtain ⟨-, e1, e2, e3⟩ := hCf wq hq; go_simp⟩) hC0 ?_
  refine held.take 2 (.pointer (some ⟨ob, 1, none⟩)) rfl (by kernel_rfl) (fun _ _ _ h => h) (Or.inl ⟨by kernel_rfl, fun wq hq => by obtain ⟨-, e1, e2, e3⟩ := hCf wq hq; go_simp⟩) hC0 ?_
  refine held.take 3 (.agg zero20.toArray) rfl (by kernel_rfl) (fun _ _ _ h => h) (yieldsIf_load_mid rfl Hty (.tmp 5) rfl ob 1 rfl zero20 _ (fun w' h => (hCf w' h).1) Tryd.underlying37 rfl infoHash) hC0 ?_
  refine held.take 4 (.agg zero20.toArray) rfl (by kernel_rfl) (fun _ _ _ h => h) (Or.inl ⟨by kernel_rfl, fun wq hq => by go_simp; rfl⟩) hC0 ?_
  refine held.take 5 (.bool true) rfl (by kernel_rfl) (fun _ _ _ h => h) (Or.inl ⟨by kernel_rfl, fun wq hq => by obtain ⟨-, e1, e2, e3⟩ := hCf wq hq; go_simp⟩) hC0 ?_
  refine held.take 6 (.bool true) rfl (by kernel_rfl) (fun _ _ _ h => h) (Or.inl ⟨by kernel_rfl, fun wq hq => by obtain ⟨-, e1, e2, e3⟩ := hCf wq hq; go_simp⟩) hC0 ?_
  refine held.take 7 (.pointer (some ⟨ob, 0, none⟩)) rfl (by kernel_rfl) (fun _ _ _ h => h) (Or.inl ⟨by kernel_rfl, fun wq hq => by obtain ⟨-, e1, e2, e3⟩ := hCf wq hq; go_simp⟩) hC0 ?_
  refine held.take 8 (.pointer (some ⟨ob, 0, none⟩)) rfl (by kernel_rfl) (fun _ _ _ h => h) (Or.inl ⟨by kernel_rfl, fun wq hq => by obtain ⟨-, e1, e2, e3⟩ := hCf wq hq; go_simp⟩) hC0 ?_
  refine held.take 9 (.pointer (some ⟨ob, 21, none⟩)) rfl (by kernel_rfl) (fun _ _ _ h => h) (Or.inl ⟨by kernel_rfl, fun wq hq => by obtain ⟨-, e1, e2, e3⟩ := hCf wq hq; go_simp⟩) hC0 ?_
  refine held.take 10 (.slice A n c) rfl (by kernel_rfl) (fun _ _ _ h => h) (Or.inl ⟨by kernel_rfl, fun wq hq => by obtain ⟨-, e1, e2, e3⟩ := hCf wq hq; go_simp⟩) hC0 ?_
  refine held.take 11 (.int .i64 n) rfl (by kernel_rfl) (fun _ _ _ h => h) (Or.inl ⟨by kernel_rfl, fun wq hq => by obtain ⟨-, e1, e2, e3⟩ := hCf wq hq; go_simp⟩) hC0 ?_
  refine held.take 12 (.pointer (some ⟨ob, 0, none⟩)) rfl (by kernel_rfl) (fun _ _ _ h => h) (Or.inl ⟨by kernel_rfl, fun wq hq => by obtain ⟨-, e1, e2, e3⟩ := hCf wq hq; go_simp⟩) hC0 ?_
  refine held.take 13 (.pointer (some ⟨ob, 0, none⟩)) rfl (by kernel_rfl) (fun _ _ _ h => h) (Or.inl ⟨by kernel_rfl, fun wq hq => by obtain ⟨-, e1, e2, e3⟩ := hCf wq hq; go_simp⟩) hC0 ?_
  refine held.take 14 (.pointer (some ⟨ob, 22, none⟩)) rfl (by kernel_rfl) (fun _ _ _ h => h) (Or.inl ⟨by kernel_rfl, fun wq hq => by obtain ⟨-, e1, e2, e3⟩ := hCf wq hq; go_simp⟩) hC0 ?_
  refine held.take 15 (.int .i64 n) rfl (by kernel_rfl) (fun _ _ _ h => h) (Or.inl ⟨by kernel_rfl, fun wq hq => by obtain ⟨-, e1, e2, e3⟩ := hCf wq hq; go_simp⟩) hC0 ?_
  refine held.take 16 (.bool true) rfl (by kernel_rfl) (fun _ _ _ h => h) (Or.inl ⟨by kernel_rfl, fun wq hq => by obtain ⟨-, e1, e2, e3⟩ := hCf wq hq; go_simp⟩) hC0 ?_
  refine held.take 17 (.bool true) rfl (by kernel_rfl) (fun _ _ _ h => h) (Or.inl ⟨by kernel_rfl, fun wq hq => by obtain ⟨-, e1, e2, e3⟩ := hCf wq hq; go_simp⟩) hC0 ?_
  refine wpAnyH_done (by kernel_rfl) ?_ _
  have hk2 : Kept [] w1 w1.drew := hCo _ hC0
  have HM3 := hid (HM2.out.kept hk2 (by simp))
  have HB3 := hid (HB1.out.kept hk2 (by simp))
  have HK3 := hid (HK1.out.trans_ hk2)
  have HP3 : Hid (Bytes w1.drew w1.drew.heap.size A n l) := hid (by
    have h9 := (HM1.out.kept hk2).o.2
    obtain ⟨A9, c9, h10, -, hb9⟩ := own_bytes h9
    cases h10
    rw [HN.out]; exact hb9)
  rename_i xC
  clear xC
  clear hC0 hCf hCo hk2 HM2 HM1 HB1 HK1 HW1 hez
  generalize w1.drew = w2 at *
  dsimp [Act.put]
  generalize (Value.agg zero20.toArray) = zz
  simp only [Exit.then]
  go_step
  simp only [List.setIfInBounds_toArray, List.set_cons_succ, List.set_cons_zero]
  go_step
  have HCC := hid (fun (w' : World) (h : Kept [] w2 w') => compute_calls k n c w2.heap.size A l w' HKK.out.1 HKK.out.2.1 (HP3.out.below h.nil_below) h.size (by have := HKK.out.2.2; have := HN.out; omega) (HT.out w' ((HK3.out.trans_ h).below (Nat.le_refl _) (by simp))))
  obtain ⟨C, hC0, hCf, hCk, hCo⟩ : ∃ C : World → Prop, C w2.drew ∧ (∀ w', C w' → w'.cell? ⟨ob, 0, none⟩ = some (.int .i8 k) ∧ w'.cell? ⟨ob, 21, none⟩ = some (.slice A n c)) ∧ (∀ w' w'', C w' → Kept [] w' w'' → C w'') ∧ (∀ w', C w' → Kept [] w2 w') :=
    ⟨fun w' => Kept [] w2 w', (Kept.refl _ w2).drew, fun w' h => ⟨(HM3.out.kept h (by simp)).cell 0 rfl, (HM3.out.kept h (by simp)).cell 21 rfl⟩, fun _ _ h h' => h.trans_ h', fun _ h => h⟩
  refine tail.wp_region_mix C 8 0 1 (.pointer (some ⟨ob, 0, none⟩)) (by kernel_rfl) (by kernel_rfl) hC0 (fun _ _ _ h => h) (Or.inl ⟨by rfl, fun _ => by rfl⟩) ?_
  simp only [Act.put, List.setIfInBounds_toArray, List.set_cons_zero, List.set_cons_succ, List.take_succ_cons, List.take_zero, List.drop_succ_cons, List.drop_zero]
  iterate 8
    refine ⟨?_, Or.inl ⟨by rfl, fun wq hq => ?_⟩, fun _ _ _ h => h, ?_⟩
    rotate_left
    · obtain ⟨e1, e2⟩ := hCf wq hq
      go_simp
      rfl
    simp only [Act.put, List.setIfInBounds_toArray, List.set_cons_zero, List.set_cons_succ]
  refine tail.wpPre_nil ?_
  refine wpQuiet_nil ?_
  intro w3 hc3
  have HK4 := hid (hCo _ hc3)
  refine tail.wpListC_step rfl fun K hK => ?_
  go_simp
  refine (HCC.out w3 HK4.out).mono ?_
  rintro e w4 ⟨rfl, hk5⟩
  have hc4 := hCk _ _ hc3 hk5
  refine hK _ _ hc4 ?_
  clear hK K
  refine tail.wpListC_zero ?_
  have HK5 := hid (hCo _ hc4)
  clear hc4 hc3 hk5 hC0 hCf hCk hCo C HK4 HCC
  have hm5 := HM3.out.kept HK5.out (by simp)
  have hn0 : ob ≠ w.heap.size := HM3.out.ne_ HB3.out (by decide)
  have hlc : (byteCells (objHash k l)).length = 20 := by simp [byteCells, objHash, sha1_len]
  have hth : w4.there ob 1 (byteCells (objHash k l)).toArray.size := by simpa [hlc] using moC_there hm5
  have hHSz : (Tryd.prog.info? Hty).map (·.size) = some (byteCells (objHash k l)).toArray.size := by rw [infoHash]; simp [hlc]
  have HOld : Hid (zero20.toArray.size = (byteCells (objHash k l)).toArray.size) := hid (by simp [hlc, zero20])
  have HOne := hid (all_one (cells_one (objHash k l)))
  have HTH := hid hth
  have HSz := hid hHSz
  have HLC := hid hlc
  have HM5 := hid hm5
  have HN0 := hid hn0
  have HB5 := hid (HB3.out.kept HK5.out (by simp))
  have HK6 := hid (HK3.out.trans_ HK5.out)
  clear hm5 hn0 hlc hth hHSz HM3 HB3 HK3 HP3 HK5
  have HW5 : Hid (∀ w5, w5 = w4.setCells ob 1 (byteCells (objHash k l)).toArray.toList → w5.rangeAt ob 1 (byteCells (objHash k l)) ∧ Kept [ob] w w5 ∧ Blk w5 w.heap.size Hty zero20.toArray ∧ w5.cell? ⟨ob, 22, none⟩ = some (.int .i64 n)) := hid (by
    intro w5 h5
    rw [h5]
    have hk := kept_setCells (b := ob) (byteCells (objHash k l)).toArray.toList 1 w4
    refine ⟨?_, (HK6.out.more (by simp)).trans_ hk, HB5.out.kept hk (by simp; exact fun h => HN0.out h.symm), ?_⟩
    · have := World.rangeAt_setCells_same w4 ob 1 (byteCells (objHash k l)).toArray.toList (by have := HTH.out; simpa using this)
      simpa using this
    · rw [World.cell?_setCells_out ob (byteCells (objHash k l)).toArray.toList 1 w4 ⟨ob, 22, none⟩ (fun _ _ => Or.inr (by show 1 + (byteCells (objHash k l)).toArray.toList.length ≤ 22; have := HLC.out; simp at this ⊢; omega))]
      exact HM5.out.cell 22 rfl)
  go_wp2_with (first
    | (refine wpList_store_mid rfl Hty (.tmp 32) (.tmp 30) rfl ob 1 (byteCells (objHash k l)).toArray rfl rfl HTH.out HSz.out HOne.out ?_; obtain ⟨w5, h5⟩ : ∃ w5, w5 = w4.setCells ob 1 (byteCells (objHash k l)).toArray.toList := ⟨_, rfl⟩; rw [← h5]; obtain ⟨r1, r2, r3, r4⟩ := HW5.out w5 h5; have R1 := hid r1; have R2 := hid r2; have R3 := hid r3; have R4 := hid r4; clear h5 r1 r2 r3 r4 HW5)
    | (refine wpList_load_mid rfl Hty (.tmp 35) rfl ob 1 rfl (byteCells (objHash k l)) _ R1.out Tryd.underlying37 rfl (by have := HSz.out; simpa using this) ?_)
    | (refine wpList_store_row rfl Hty (.tmp 2) (.tmp 36) rfl w.heap.size (byteCells (objHash k l)).toArray rfl rfl Hty zero20.toArray R3.out HSz.out HOld.out HOne.out ?_)
    | fail)
  have hb6 : (w5.setRow w.heap.size (byteCells (objHash k l)).toArray).heap[w.heap.size]? = some (.cells (byteCells (objHash k l)).toArray Hty (0, 0)) := setRow_heap w5 w.heap.size _ _ Hty _ R3.out
  refine bodyPost_ret (results_cell_row rfl _ _ w.heap.size Hty (byteCells (objHash k l)).toArray (0, 0) _ rfl hb6 Tryd.underlying37 rfl HSz.out) rfl ?_
  have hk7 : Kept [w.heap.size] w5 (w5.setRow w.heap.size (byteCells (objHash k l)).toArray) := kept_setRow _
  refine ⟨rfl, R2.out.trans hk7 (by simp), ?_⟩
  rw [← HN.out]
  have hob : ob < w5.heap.size := World.block_lt_of_cell? w5 _ R4.out
  exact (hk7.cell (p := ⟨ob, 22, none⟩) hob (by simpa using HN0.out)).trans R4.out
end Go.Proofs.YtdbkafpflicdiaaDoor.ob
