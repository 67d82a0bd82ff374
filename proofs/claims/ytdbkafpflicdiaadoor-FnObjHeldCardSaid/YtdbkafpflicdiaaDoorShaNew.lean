/- zzSha1.Reset, New. -/
import Derived.Test.YtdbkafpflicdiaaDoorShaWrite
set_option linter.unusedVariables false
namespace Go.Proofs.YtdbkafpflicdiaaDoor.sha
open Go.RowKit Lib mem frm row

def WasReset (w : World) (sb : Nat) (e : Ending) (w' : World) : Prop := e = .returned (.tuple #[]) ∧ Kept [sb] w w' ∧ Blk w' sb ShaT (seven init (.slice none 0 0) 0)
set_option maxRecDepth 100000 in
set_option maxHeartbeats 4000000 in
theorem reset_calls (sb : Nat) (x0 x1 x2 x3 x4 x5 x6 : Value) (w : World) (h : Blk w sb ShaT #[x0, x1, x2, x3, x4, x5, x6]) :
    Calls Tryd.prog 27 #[.pointer (some ⟨sb, 0, none⟩)] w (WasReset w sb) := by
  have H := hid h
  have f0 := h.frozen 0
  have f1 := h.frozen 1
  have f2 := h.frozen 2
  have f3 := h.frozen 3
  have f4 := h.frozen 4
  have f5 := h.frozen 5
  have f6 := h.frozen 6
  have c0 : w.cell? ⟨sb, 0, none⟩ = some x0 := h.cell 0 rfl
  have c1 : w.cell? ⟨sb, 1, none⟩ = some x1 := h.cell 1 rfl
  have c2 : w.cell? ⟨sb, 2, none⟩ = some x2 := h.cell 2 rfl
  have c3 : w.cell? ⟨sb, 3, none⟩ = some x3 := h.cell 3 rfl
  have c4 : w.cell? ⟨sb, 4, none⟩ = some x4 := h.cell 4 rfl
  have c5 : w.cell? ⟨sb, 5, none⟩ = some x5 := h.cell 5 rfl
  have c6 : w.cell? ⟨sb, 6, none⟩ = some x6 := h.cell 6 rfl
  clear h
  go_enter Tryd.func27, Tryd.ntmps27
  go_wp2_with fail
  have hs := ((((((H.out.set_ 0 (.int .u32 1732584193)).set_ 1 (.int .u32 4023233417)).set_ 2 (.int .u32 2562383102)).set_ 3 (.int .u32 271733878)).set_ 4 (.int .u32 3285377520)).set_ 5 (.slice none 0 0)).set_ 6 (.int .u64 0)
  have hk : Kept [sb] w (((((((w.setCell ⟨sb, 0, none⟩ (.int .u32 1732584193)).setCell ⟨sb, 1, none⟩ (.int .u32 4023233417)).setCell ⟨sb, 2, none⟩ (.int .u32 2562383102)).setCell ⟨sb, 3, none⟩ (.int .u32 271733878)).setCell ⟨sb, 4, none⟩ (.int .u32 3285377520)).setCell ⟨sb, 5, none⟩ (.slice none 0 0)).setCell ⟨sb, 6, none⟩ (.int .u64 0)) :=
    ((((((((Kept.refl [sb] w).setCell (.inl (by simp)) _).setCell (.inl (by simp)) _).setCell (.inl (by simp)) _).setCell (.inl (by simp)) _).setCell (.inl (by simp)) _).setCell (.inl (by simp)) _).setCell (.inl (by simp)) _)
  clear f0 f1 f2 f3 f4 f5 f6 c0 c1 c2 c3 c4 c5 c6
  go_end0
  exact ⟨rfl, hk, by simpa [seven, init] using hs⟩
def New' (w : World) (e : Ending) (w' : World) : Prop := ∃ sb, w.heap.size ≤ sb ∧ e = .returned (.iface 73 (.pointer (some ⟨sb, 0, none⟩))) ∧ Kept [] w w' ∧ Blk w' sb ShaT (seven init (.slice none 0 0) 0)
set_option maxRecDepth 100000 in
set_option maxHeartbeats 4000000 in
theorem new_calls (kind : Int) (w : World) : Calls Tryd.prog 24 #[.int .i64 kind] w (New' w) := by
  have HN := hid (reset_calls w.heap.size (.int .u32 0) (.int .u32 0) (.int .u32 0) (.int .u32 0) (.int .u32 0) (.slice none 0 0) (.int .u64 0) (w.alloc (.cells #[.int .u32 0, .int .u32 0, .int .u32 0, .int .u32 0, .int .u32 0, .slice none 0 0, .int .u64 0] ShaT)) (Blk.new w ShaT _))
  go_enter Tryd.func24, Tryd.ntmps24
  go_wp2_with (first
    | (refine HN.out.mono ?_; rintro e w5 ⟨rfl, hk5, hs5⟩)
    | fail)
  refine bodyPost_ret (by simp [results, Tryd.results24, go_sem]; rfl) rfl ?_
  exact ⟨w.heap.size, Nat.le_refl _, rfl, ((Kept.refl [] w).alloc _).trans hk5 (by simp), hs5⟩
end Go.Proofs.YtdbkafpflicdiaaDoor.sha
