/- (*bytes.Buffer).Grow of a new buffer. -/
import Derived.Test.YtfanginpfppdeaaDoorShelf
import Derived.WalkKit
import Derived.Lib.Hide
import Derived.ProofKit
import Derived.WalkSmall
import Derived.RowKitTokens
import Derived.Below
import Derived.Lib.BufferWrite
import Derived.Lib.BufferMore
set_option linter.unusedVariables false
namespace Go.Proofs.YtfanginpfppdeaaDoor.delta
open Go.RowKit Lib

def NewBuf (B b : Nat) (w : World) : Prop := B ≤ b ∧ B ≤ w.heap.size ∧ ∃ lr, w.heap[b]? = some (.cells #[.slice none 0 0, .int .i64 0, .int .i8 lr] 52 (0, 0))
set_option maxRecDepth 100000 in
set_option maxHeartbeats 4000000 in
theorem grow0_calls (B b : Nat) (w : World) (h : NewBuf B b w) :
    Calls Tryd.prog 30 #[.pointer (some ⟨b, 0, none⟩), .int .i64 (0 : Nat)] w fun e w' => e = .returned (.int .i64 0) ∧ (∃ xs, IsBuffer 52 5 B b xs w') ∧ Below B w w' := by
  obtain ⟨hB, hBw, lr, hbk⟩ := h
  have hIs : IsBuffer 52 5 B b [] w := ⟨hB, _, _, hbk, World.ownsRow_nil _ _ _ _, by simp [Value.ownBlock]⟩
  have HIs := hid hIs
  clear hIs
  go_enter Tryd.func30, Tryd.ntmps30
  go_wp2_with fail
  refine (Tryd.Buffer_Len B b [] w HIs.out).mono ?_
  rintro e w1 ⟨rfl, k, hw1⟩
  have hbk1 : w1.heap[b]? = some (.cells #[.slice none 0 0, .int .i64 0, .int .i8 lr] 52 (0, 0)) := by rw [hw1]; exact hbk
  have hb1 := hid (show Below B w w1 from by rw [hw1]; exact ⟨rfl, rfl, rfl, Nat.le_refl _, fun _ _ => rfl⟩)
  clear hw1
  have c0 : w1.cell? ⟨b, 0, none⟩ = some (.slice none 0 0) := by rw [Lib.cell_of_heap hbk1]; rfl
  have c1 : w1.cell? ⟨b, 1, none⟩ = some (.int .i64 0) := by rw [Lib.cell_of_heap hbk1]; rfl
  have f0 : w1.frozen? ⟨b, 0, none⟩ = false := Lib.frozen_of_heap hbk1 0
  have HK := hid hbk1
  clear hbk1 hbk
  go_wp2_with fail
  refine (Tryd.Buffer_tryGrow_room b none 0 0 0 w1 c0 f0 (Nat.le_refl _) (Nat.zero_le _) (Nat.le_refl _)).mono ?_
  rintro e w2 ⟨rfl, hw2⟩
  have HW2 := hid hw2
  clear hw2
  go_wp2_with fail
  go_ret
  refine ⟨rfl, ⟨[], ?_⟩, ?_⟩
  · rw [HW2.out]
    exact ⟨hB, .slice none 0 0, lr, Lib.heap_setCell_same (i := 0) HK.out _, World.ownsRow_nil _ _ _ _, by simp [Value.ownBlock]⟩
  · rw [HW2.out]; exact hb1.out.setCell (p := ⟨b, 0, none⟩) hB _
theorem growAny_calls (B b n : Nat) (w : World) (h : NewBuf B b w) (hn : n ≤ 65536) :
    Calls Tryd.prog 30 #[.pointer (some ⟨b, 0, none⟩), .int .i64 n] w fun e w' => e = .returned (.int .i64 0) ∧ (∃ xs, IsBuffer 52 5 B b xs w') ∧ Below B w w' := by
  rcases Nat.eq_zero_or_pos n with rfl | hp
  · exact grow0_calls B b w h
  · obtain ⟨hB, hBw, lr, hbk⟩ := h
    rcases Nat.lt_or_ge 64 n with h64 | h64
    · refine (Tryd.Buffer_grow_nil_big_kept B b n lr w hB hBw hbk h64 (by omega)).mono ?_
      rintro e w' ⟨h1, ⟨xs, _, h2, h3, _⟩⟩
      exact ⟨h1, ⟨xs, h2⟩, h3⟩
    · refine (Tryd.Buffer_grow_nil_small_kept B b n lr w hB hBw hbk hp h64).mono ?_
      rintro e w' ⟨h1, ⟨xs, _, h2, h3, _⟩⟩
      exact ⟨h1, ⟨xs, h2⟩, h3⟩
set_option maxRecDepth 100000 in
set_option maxHeartbeats 4000000 in
theorem bufGrow_calls (B b n : Nat) (w : World) (h : NewBuf B b w) (hn : n ≤ 65536) :
    Calls Tryd.prog 22 #[.pointer (some ⟨b, 0, none⟩), .int .i64 n] w fun e w' => e = .returned (.tuple #[]) ∧ IsBuffer 52 5 B b [] w' ∧ Below B w w' := by
  have H := hid h
  clear h
  have e0 : ¬ ((n : Int) < 0) := by omega
  go_enter Tryd.func22, Tryd.ntmps22
  go_wp2_with fail
  refine (growAny_calls B b n w H.out hn).mono ?_
  rintro e w1 ⟨rfl, ⟨xs, hbuf⟩, hb⟩
  have HB := hid hb
  clear hb
  obtain ⟨hB, lr, hcs⟩ := hbuf.cases
  clear hbuf
  rcases hcs with ⟨rfl, hbk⟩ | ⟨g, cap, cur, hbk, hBg, hg, hnc, hcm, hcs, htk, hgb⟩
  · have c0 : w1.cell? ⟨b, 0, none⟩ = some (.slice none 0 0) := by rw [Lib.cell_of_heap hbk]; rfl
    have f0 : w1.frozen? ⟨b, 0, none⟩ = false := Lib.frozen_of_heap hbk 0
    have HK := hid hbk
    clear hbk
    go_wp2_with fail
    go_end0
    refine ⟨rfl, ?_, ?_⟩
    · exact ⟨hB, .slice none 0 0, lr, Lib.heap_setCell_same (i := 0) HK.out _, World.ownsRow_nil _ _ _ _, by simp [Value.ownBlock]⟩
    · exact HB.out.setCell (p := ⟨b, 0, none⟩) hB _
  · have c0 : w1.cell? ⟨b, 0, none⟩ = some (.slice (some ⟨g, 0, none⟩) xs.length cap) := by rw [Lib.cell_of_heap hbk]; rfl
    have f0 : w1.frozen? ⟨b, 0, none⟩ = false := Lib.frozen_of_heap hbk 0
    have HK := hid hbk
    have HG := hid hg
    have HC := hid hcs
    clear hbk hg hcs htk
    go_wp2_with fail
    go_end0
    refine ⟨rfl, ?_, ?_⟩
    · refine ⟨hB, .slice (some ⟨g, 0, none⟩) 0 cap, lr, Lib.heap_setCell_same (i := 0) HK.out _, ⟨by simp, .inr ⟨g, cap, cur, rfl, hBg, ?_, Nat.zero_le _, hcm, by rw [HC.out]; simp, by simp⟩⟩, by simp [Value.ownBlock]; exact hgb⟩
      rw [Below.heap_setCell _ _ _ _ hgb]; exact HG.out
    · exact HB.out.setCell (p := ⟨b, 0, none⟩) hB _
end Go.Proofs.YtfanginpfppdeaaDoor.delta
