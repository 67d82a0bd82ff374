/- plumbing.MemoryObject: SetType, Write, Size, Hash, Reader. -/
import Derived.Test.YtdbkafpflicdiaaDoorObComp
import Derived.Test.YtdbkafpflicdiaaDoorRd
set_option linter.unusedVariables false
namespace Go.Proofs.YtdbkafpflicdiaaDoor.ob
open Go.RowKit Lib mem frm row sha

abbrev MT : TypeId := 39
/-- the cells of an object -/
def moC (k : Nat) (v : Value) (z : Nat) : Array Value := #[.int .i8 k, .int .u8 0, .int .u8 0, .int .u8 0, .int .u8 0, .int .u8 0, .int .u8 0, .int .u8 0, .int .u8 0, .int .u8 0, .int .u8 0, .int .u8 0, .int .u8 0, .int .u8 0, .int .u8 0, .int .u8 0, .int .u8 0, .int .u8 0, .int .u8 0, .int .u8 0, .int .u8 0, v, .int .i64 z]
structure MO (w0 w : World) (ob k : Nat) (l : List UInt8) (v : Value) : Prop where
  kp : Kept [] w0 w
  b : Blk w ob MT (moC k v l.length)
  o : Own w0 w v l.length l
  n : w0.heap.size ≤ ob
theorem MO.kept {w0 w w' : World} {ob k : Nat} {l : List UInt8} {v : Value} (h : MO w0 w ob k l v) (hk : Kept [] w w') : MO w0 w' ob k l v := ⟨h.kp.trans_ hk, h.b.kept hk (by simp), h.o.kept hk (by simp), h.n⟩
theorem MO.own_ne {w0 w : World} {ob k : Nat} {l : List UInt8} {v : Value} (h : MO w0 w ob k l v) : ∀ x, v.ownBlock = some x → x ≠ ob := by
  intro x hx
  rcases h.o.2 with ⟨_, ⟨rfl, _⟩ | ⟨g, cap, cur, rfl, _, hg, _⟩⟩
  · cases hx
  · cases hx
    intro e
    subst e
    exact (Blk.ne_ h.b (show Blk w g 5 cur from hg) (by decide)) rfl
set_option maxRecDepth 100000 in
set_option maxHeartbeats 2000000 in
theorem setType_calls (ob k : Nat) (v : Value) (z : Nat) (w : World) (h : Blk w ob MT (moC 0 v z)) : Calls Tryd.prog 11 #[.pointer (some ⟨ob, 0, none⟩), .int .i8 k] w fun e w' => e = .returned (.tuple #[]) ∧ Kept [ob] w w' ∧ Blk w' ob MT (moC k v z) := by
  have c0 : w.cell? ⟨ob, 0, none⟩ = some (.int .i8 0) := h.cell 0 rfl
  have f0 := h.frozen 0
  have hs : Blk (w.setCell ⟨ob, 0, none⟩ (.int .i8 k)) ob MT (moC k v z) := by simpa [moC] using h.set_ 0 (.int .i8 k)
  have hk : Kept [ob] w (w.setCell ⟨ob, 0, none⟩ (.int .i8 k)) := (Kept.refl [ob] w).setCell (.inl (by simp)) _
  have HS := hid hs
  have HK := hid hk
  clear h hs hk
  go_enter Tryd.func11, Tryd.ntmps11
  go_wp2_with fail
  clear c0 f0
  go_end0
  exact ⟨rfl, HK.out, HS.out⟩
set_option maxRecDepth 100000 in
set_option maxHeartbeats 4000000 in
theorem mwrite_calls (w0 w : World) (ob k n c B : Nat) (l p : List UInt8) (v : Value) (A : Option Addr) (h : MO w0 w ob k l v) (hp : Bytes w B A n p) (hlim : l.length + n ≤ 1000000) :
    Calls Tryd.prog 12 #[.pointer (some ⟨ob, 0, none⟩), .slice A n c] w fun e w' => e = .returned (.tuple #[.int .i64 n, .nilIface]) ∧ ∃ v', MO w0 w' ob k (l ++ p) v' := by
  obtain ⟨i0, hi, hz0, hz1, hz2⟩ := info_parts infoU8
  obtain ⟨m, hm⟩ : ∃ m, m = l.length := ⟨_, rfl⟩
  have hb := h.b
  have ho := h.o
  rw [← hm] at hb ho hlim
  have c21 : w.cell? ⟨ob, 21, none⟩ = some v := hb.cell 21 rfl
  have HB := hid hb
  have HO := hid ho
  have HP := hid hp
  have HPL := hid hp.len
  have HM := hid hm
  have HH := hid h
  have HL := hid hlim
  have hlim' : (m : Int) + n ≤ 1000000 := by omega
  clear h hp hb ho hm hlim
  go_enter Tryd.func12, Tryd.ntmps12
  go_wp2_with (first
    | (at_builtin; refine wpList_append_any _ rfl (.tmp 10) (.tmp 11) 26 rfl w0.heap.size 5 i0 (.int .u8 0) 1 1 Tryd.underlying26 hi hz0 hz1 hz2 rfl (by decide) v m (byteCells l) rfl HO.out.2 B A n c (byteCells p) rfl HP.out.1 (cells_one _) (by have := HL.out; unfold maxLen; omega) (by have := HL.out; omega) HH.out.kp.size ?_; intro v2 w2 h1 h2 h3; obtain ⟨A2, c2, rfl⟩ := own_shape h1; have HO2 : Hid (Own w0 w2 (.slice A2 (m + n) c2) (m + n) (l ++ p)) := hid (Own.push HO.out.1 HPL.out h1); have hk2 : Kept v.ownBlock.toList w w2 := Kept.of_grown_own (S := v.ownBlock.toList) h2 (fun g hg => .inl (by simp [hg])); have hb2 := HB.out.kept hk2 (fun hx => HH.out.own_ne ob (by simpa using hx) rfl); have HK2 : Hid (Kept [] w0 w2) := hid (HO.out.kept_new HH.out.kp h2); have c21' : w2.cell? ⟨ob, 21, none⟩ = some v := hb2.cell 21 rfl; have f21' : w2.frozen? ⟨ob, 21, none⟩ = false := hb2.frozen 21; have c22' : w2.cell? ⟨ob, 22, none⟩ = some (.int .i64 m) := hb2.cell 22 rfl; have f22' : w2.frozen? ⟨ob, 22, none⟩ = false := hb2.frozen 22; have HB2 := hid hb2; clear h1 h2 h3 hk2 hb2)
    | fail)
  refine bodyPost_ret (by simp [results, Tryd.results12, go_sem]; rfl) rfl ?_
  have hk2 : Kept [ob] w2 ((w2.setCell ⟨ob, 21, none⟩ (.slice A2 (m + n) c2)).setCell ⟨ob, 22, none⟩ (.int .i64 ((m : Int) + n))) := ((Kept.refl [ob] w2).setCell (.inl (by simp)) _).setCell (.inl (by simp)) _
  have hbb := (HB2.out.set_ 21 (.slice A2 (m + n) c2)).set_ 22 (.int .i64 ((m : Int) + n))
  have hl : (l ++ p).length = m + n := by rw [List.length_append, ← HM.out, HPL.out]
  refine ⟨rfl, .slice A2 (m + n) c2, HK2.out.trans hk2 (fun x hx => .inr (by simp at hx; rw [hx]; exact HH.out.n)), ?_, ?_, HH.out.n⟩
  · rw [hl]
    simpa [moC] using hbb
  · rw [hl]
    exact HO2.out.kept hk2 (fun x hx t cs hb e => by
      obtain rfl : x = ob := by simpa using hx
      subst e
      exact (Blk.ne_ hb HB2.out (by decide)) rfl)
set_option maxRecDepth 100000 in
set_option maxHeartbeats 2000000 in
theorem size_calls (ob z : Nat) (w : World) (c0 : w.cell? ⟨ob, 22, none⟩ = some (.int .i64 z)) : Calls Tryd.prog 16 #[.pointer (some ⟨ob, 0, none⟩)] w fun e w' => e = .returned (.int .i64 z) ∧ w' = w := by
  go_enter Tryd.func16, Tryd.ntmps16
  go_wp2_with fail
  go_ret
  exact ⟨rfl, rfl⟩
theorem newReader_calls (A : Option Addr) (n c : Nat) (w : World) : Calls Tryd.prog 59 #[.slice A n c] w fun e w' => e = .returned (.pointer (some ⟨w.heap.size, 0, none⟩)) ∧ w' = w.alloc (.cells #[.slice A n c, .int .i64 0, .int .i64 (-1)] 116) := by
  go_enter Tryd.func59, Tryd.ntmps59
  go_wp2_with fail
  go_ret
  exact ⟨rfl, rfl⟩
abbrev NC : TypeId := 114
set_option maxRecDepth 100000 in
set_option maxHeartbeats 2000000 in
theorem reader_calls (ob k : Nat) (A : Option Addr) (n c z : Nat) (w : World) (h : Blk w ob MT (moC k (.slice A n c) z)) : Calls Tryd.prog 57 #[.pointer (some ⟨ob, 0, none⟩)] w fun e w' => e = .returned (.tuple #[.iface NC (.agg #[.pointer (some ⟨w.heap.size, 0, none⟩)]), .nilIface]) ∧ w' = w.alloc (.cells #[.slice A n c, .int .i64 0, .int .i64 (-1)] 116) := by
  have c0 : w.cell? ⟨ob, 21, none⟩ = some (.slice A n c) := h.cell 21 rfl
  have c1 := hid (newReader_calls A n c w)
  clear h
  go_enter Tryd.func57, Tryd.ntmps57
  go_wp2_with fail
  refine c1.out.mono ?_
  rintro e w' ⟨rfl, rfl⟩
  go_wp2_with fail
  go_ret2
  exact ⟨rfl, rfl⟩
end Go.Proofs.YtdbkafpflicdiaaDoor.ob
