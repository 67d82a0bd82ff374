/- impl.FindFile. -/
import Derived.Test.YtnidjkmfnojlaaaDoorIdxOf
import Derived.Test.YtnidjkmfnojlaaaDoorIdxRet
import Derived.Test.YtnidjkmfnojlaaaDoorIdxFind
set_option linter.unusedVariables false
attribute [local go_sem ↓] Go.wp_at_zero Go.wp_at_succ
namespace Go.Proofs.YtnidjkmfnojlaaaDoor.idx
open Go.RowKit Lib frm mem opn hash strs
def zeroF : FileD := ⟨0, 0, 0, 0, 0, 0, 0, 0, 0, 0, ⟨#[]⟩, ⟨#[]⟩, 0, false, false⟩
def FileOf : Prop := ∀ (b : Nat) (f : FileD) (w : World), Blk w b Ety (entryCells f).toArray → Plain f → Calls Tryd.prog 20 #[.pointer (some ⟨b, 0, none⟩)] w (Gives (.agg f.cells.toArray) w)
def FindIs (w : World) (fs : List FileD) (nm : ByteArray) (e : Ending) (w' : World) : Prop :=
  Kept [] w w' ∧ ((∃ f, Found fs nm f ∧ e = .returned (.tuple #[.agg f.cells.toArray, .bool true])) ∨ ((∀ f ∈ fs, f.name ≠ nm) ∧ e = .returned (.tuple #[.agg zeroF.cells.toArray, .bool false])))
set_option maxRecDepth 100000 in
set_option maxHeartbeats 4000000 in
theorem findFile_calls (c3 : FileOf) (A : Option Addr) (n c : Nat) (fs : List FileD) (nm : ByteArray) (w : World) (hF : Files w w.heap.size A n fs) (hn : n ≤ 1000) (hp : ∀ f ∈ fs, plainB f = true)
    (ev : Value) (hE : w.cell? ⟨7, 0, none⟩ = some ev) (hlt : 7 < w.heap.size)
    (t : TypeId) (pv : Value) (hN : w.cell? ⟨0, 0, none⟩ = some (.iface t pv)) (hlt2 : 0 < w.heap.size) :
    Calls Tryd.prog 8 #[.slice A n c, .string nm] w (FindIs w fs nm) := by
  have C3 := hid c3
  have HP := hid hp
  have hl : fs.length = n := hF.2.1
  have c1 := hid (fun w1 (hk : Kept [] w w1) => indexOf_calls A n c fs w1 ⟨(hF.1.keep fun p hp => hk.cell hp (by simp)).more hk.size, hF.2⟩ hn hp ev ((hk.cell (p := ⟨7, 0, none⟩) hlt (by simp)).trans hE) (Nat.lt_of_lt_of_le hlt hk.size))
  have HN := hid (fun w1 (hk : Kept [] w w1) => (hk.cell (p := ⟨0, 0, none⟩) hlt2 (by simp)).trans hN)
  clear hF hp hE hlt hN hlt2 c3
  go_enter Tryd.func8, Tryd.ntmps8
  go_wp2_with fail
  refine (c1.out _ ((Kept.refl _ _).alloc _)).mono ?_
  rintro e w1 ⟨rfl, hk1, v, ps, hI⟩
  have HK1 := hid (((Kept.refl [] w).alloc _).trans_ hk1)
  have HB1 := hid ((Blk.new w Fty zeroFile).kept hk1 (by simp))
  have HI : Hid (IdxAt w1 (w.heap.size + 1 + 1) (w.heap.size + 1) n fs v ps) := hid (by simpa using hI)
  clear hk1 hI
  go_wp2_with fail
  refine (entry_calls _ _ n fs v ps nm w1 HI.out hn hl (fun f hf => (plain_of (HP.out f hf)).hs) (.iface t pv) (HN.out _ HK1.out)).mono ?_
  rintro e w2 ⟨hk2, ⟨b, f, hfo, rfl, hb⟩ | ⟨hno, rfl⟩⟩
  · have HK2 := hid (HK1.out.trans_ hk2)
    have HB2 := hid (HB1.out.kept hk2 (by simp))
    have HFo := hid hfo
    have c3 := hid (C3.out b f w2 hb (plain_of (HP.out f (by obtain ⟨i, hi, _⟩ := hfo; exact List.mem_of_getElem? hi))))
    clear hk2 hfo hb
    go_wp2_with fail
    refine c3.out.mono ?_
    rintro e w3 ⟨rfl, hk3⟩
    have HK3 := hid (HK2.out.trans_ hk3)
    have HB3 := HB2.out.kept hk3 (by simp)
    clear hk3
    have z0 : w3.cell? ⟨w.heap.size, 0, none⟩ = some (.int .i64 0) := HB3.cell 0 rfl
    have y0 := HB3.frozen 0
    have z1 : w3.cell? ⟨w.heap.size, 1, none⟩ = some (.int .i64 0) := HB3.cell 1 rfl
    have y1 := HB3.frozen 1
    have z2 : w3.cell? ⟨w.heap.size, 2, none⟩ = some (.int .i64 0) := HB3.cell 2 rfl
    have y2 := HB3.frozen 2
    have z3 : w3.cell? ⟨w.heap.size, 3, none⟩ = some (.int .i64 0) := HB3.cell 3 rfl
    have y3 := HB3.frozen 3
    have z4 : w3.cell? ⟨w.heap.size, 4, none⟩ = some (.int .u32 0) := HB3.cell 4 rfl
    have y4 := HB3.frozen 4
    have z5 : w3.cell? ⟨w.heap.size, 5, none⟩ = some (.int .u32 0) := HB3.cell 5 rfl
    have y5 := HB3.frozen 5
    have z6 : w3.cell? ⟨w.heap.size, 6, none⟩ = some (.int .u32 0) := HB3.cell 6 rfl
    have y6 := HB3.frozen 6
    have z7 : w3.cell? ⟨w.heap.size, 7, none⟩ = some (.int .u32 0) := HB3.cell 7 rfl
    have y7 := HB3.frozen 7
    have z8 : w3.cell? ⟨w.heap.size, 8, none⟩ = some (.int .u32 0) := HB3.cell 8 rfl
    have y8 := HB3.frozen 8
    have z9 : w3.cell? ⟨w.heap.size, 9, none⟩ = some (.int .u32 0) := HB3.cell 9 rfl
    have y9 := HB3.frozen 9
    have z10 : w3.cell? ⟨w.heap.size, 10, none⟩ = some (.string ⟨#[]⟩) := HB3.cell 10 rfl
    have y10 := HB3.frozen 10
    have z11 : w3.cell? ⟨w.heap.size, 11, none⟩ = some (.string ⟨#[]⟩) := HB3.cell 11 rfl
    have y11 := HB3.frozen 11
    have z12 : w3.cell? ⟨w.heap.size, 12, none⟩ = some (.int .i64 0) := HB3.cell 12 rfl
    have y12 := HB3.frozen 12
    have z13 : w3.cell? ⟨w.heap.size, 13, none⟩ = some (.bool false) := HB3.cell 13 rfl
    have y13 := HB3.frozen 13
    have z14 : w3.cell? ⟨w.heap.size, 14, none⟩ = some (.bool false) := HB3.cell 14 rfl
    have y14 := HB3.frozen 14
    have HB3 := hid HB3
    dsimp only [FileD.cells]
    go_wp2_with fail
    refine find_ret (g := w.heap.size) (f := f) rfl rfl rfl (file_stored f HB3.out) ?_
    exact ⟨by repeat (first | (with_reducible exact HK3.out) | (refine Kept.setCell ?_ (.inr (Nat.le_refl _)) _)), .inl ⟨f, HFo.out, rfl⟩⟩
  · have HK2 := hid (HK1.out.trans_ hk2)
    have HB2 := HB1.out.kept hk2 (by simp)
    have HNo := hid hno
    have z0 : w2.cell? ⟨w.heap.size, 0, none⟩ = some (.int .i64 0) := HB2.cell 0 rfl
    have y0 := HB2.frozen 0
    have z1 : w2.cell? ⟨w.heap.size, 1, none⟩ = some (.int .i64 0) := HB2.cell 1 rfl
    have y1 := HB2.frozen 1
    have z2 : w2.cell? ⟨w.heap.size, 2, none⟩ = some (.int .i64 0) := HB2.cell 2 rfl
    have y2 := HB2.frozen 2
    have z3 : w2.cell? ⟨w.heap.size, 3, none⟩ = some (.int .i64 0) := HB2.cell 3 rfl
    have y3 := HB2.frozen 3
    have z4 : w2.cell? ⟨w.heap.size, 4, none⟩ = some (.int .u32 0) := HB2.cell 4 rfl
    have y4 := HB2.frozen 4
    have z5 : w2.cell? ⟨w.heap.size, 5, none⟩ = some (.int .u32 0) := HB2.cell 5 rfl
    have y5 := HB2.frozen 5
    have z6 : w2.cell? ⟨w.heap.size, 6, none⟩ = some (.int .u32 0) := HB2.cell 6 rfl
    have y6 := HB2.frozen 6
    have z7 : w2.cell? ⟨w.heap.size, 7, none⟩ = some (.int .u32 0) := HB2.cell 7 rfl
    have y7 := HB2.frozen 7
    have z8 : w2.cell? ⟨w.heap.size, 8, none⟩ = some (.int .u32 0) := HB2.cell 8 rfl
    have y8 := HB2.frozen 8
    have z9 : w2.cell? ⟨w.heap.size, 9, none⟩ = some (.int .u32 0) := HB2.cell 9 rfl
    have y9 := HB2.frozen 9
    have z10 : w2.cell? ⟨w.heap.size, 10, none⟩ = some (.string ⟨#[]⟩) := HB2.cell 10 rfl
    have y10 := HB2.frozen 10
    have z11 : w2.cell? ⟨w.heap.size, 11, none⟩ = some (.string ⟨#[]⟩) := HB2.cell 11 rfl
    have y11 := HB2.frozen 11
    have z12 : w2.cell? ⟨w.heap.size, 12, none⟩ = some (.int .i64 0) := HB2.cell 12 rfl
    have y12 := HB2.frozen 12
    have z13 : w2.cell? ⟨w.heap.size, 13, none⟩ = some (.bool false) := HB2.cell 13 rfl
    have y13 := HB2.frozen 13
    have z14 : w2.cell? ⟨w.heap.size, 14, none⟩ = some (.bool false) := HB2.cell 14 rfl
    have y14 := HB2.frozen 14
    have HB2 := hid HB2
    clear hk2 hno
    go_wp2_with fail
    refine find_ret (g := w.heap.size) (f := zeroF) rfl rfl rfl (file_stored zeroF HB2.out) ?_
    exact ⟨by repeat (first | (with_reducible exact HK2.out) | (refine Kept.setCell ?_ (.inr (Nat.le_refl _)) _)), .inr ⟨HNo.out, rfl⟩⟩
end Go.Proofs.YtnidjkmfnojlaaaDoor.idx
