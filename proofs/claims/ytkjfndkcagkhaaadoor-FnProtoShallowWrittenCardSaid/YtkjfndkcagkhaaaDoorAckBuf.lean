/- A bufio.Reader over a bytes.Reader: made, read, at its end. -/
import Derived.Test.YtkjfndkcagkhaaaDoorRd
import Derived.BigRegion
import Derived.Laws.MakeOwn
set_option linter.unusedVariables false
attribute [local go_sem ↓] Go.wp_at_zero Go.wp_at_succ
namespace Go.Proofs.YtkjfndkcagkhaaaDoor.ack
open Go.RowKit Lib frm mem rd

/-- what a bufio.Reader is -/
def rdC (G q : Nat) (r wv : Nat) (err : Value) (lb ls : Int) : Array Value := #[.slice (some ⟨G, 0, none⟩) 4096 4096, .iface 81 (.pointer (some ⟨q, 0, none⟩)), .int .i64 r, .int .i64 wv, err, .int .i64 lb, .int .i64 ls]
def Rb (w : World) (R G q : Nat) (r wv : Nat) (err : Value) (lb ls : Int) : Prop := Blk w R 169 (rdC G q r wv err lb ls)
def ErrOut (w : World) (R G q r wv : Nat) (err : Value) (lb ls : Int) (e : Ending) (w' : World) : Prop := e = .returned err ∧ Rb w' R G q r wv .nilIface lb ls ∧ Kept [R] w w'
set_option maxRecDepth 100000 in
theorem readErr_calls (R G q r wv : Nat) (err : Value) (lb ls : Int) (w : World) (h : Rb w R G q r wv err lb ls) :
    Calls Tryd.prog 126 #[.pointer (some ⟨R, 0, none⟩)] w (ErrOut w R G q r wv err lb ls) := by
  have h4 : w.cell? ⟨R, 4, none⟩ = some err := h.cell 4 rfl
  have f4 : w.frozen? ⟨R, 4, none⟩ = false := h.frozen 4
  have HB := hid h
  clear h
  go_enter Tryd.func126, Tryd.ntmps126
  go_wp2_with fail
  go_ret
  refine ⟨rfl, ?_, (Kept.refl [R] w).setCell (p := ⟨R, 4, none⟩) (.inl (by simp)) _⟩
  have := HB.out.set_ 4 .nilIface
  unfold Rb
  simpa [rdC] using this
set_option maxRecDepth 100000 in
theorem bufReset_calls (R G q : Nat) (w : World) (h : Blk w R 169 #[.slice none 0 0, .nilIface, .int .i64 0, .int .i64 0, .nilIface, .int .i64 0, .int .i64 0]) :
    Calls Tryd.prog 111 #[.pointer (some ⟨R, 0, none⟩), .slice (some ⟨G, 0, none⟩) 4096 4096, .iface 81 (.pointer (some ⟨q, 0, none⟩))] w fun e w' => e = .returned (.tuple #[]) ∧ Rb w' R G q 0 0 .nilIface (-1) (-1) ∧ Kept [R] w w' := by
  have f : ∀ i, w.frozen? ⟨R, i, none⟩ = false := fun i => h.frozen i
  have h0 : w.cell? ⟨R, 0, none⟩ = some (.slice none 0 0) := h.cell 0 rfl
  have h1 : w.cell? ⟨R, 1, none⟩ = some .nilIface := h.cell 1 rfl
  have h2 : w.cell? ⟨R, 2, none⟩ = some (.int .i64 0) := h.cell 2 rfl
  have h3 : w.cell? ⟨R, 3, none⟩ = some (.int .i64 0) := h.cell 3 rfl
  have h4 : w.cell? ⟨R, 4, none⟩ = some .nilIface := h.cell 4 rfl
  have h5 : w.cell? ⟨R, 5, none⟩ = some (.int .i64 0) := h.cell 5 rfl
  have h6 : w.cell? ⟨R, 6, none⟩ = some (.int .i64 0) := h.cell 6 rfl
  have HB := hid h
  clear h
  go_enter Tryd.func111, Tryd.ntmps111
  go_wp2_with fail
  try go_end0
  refine ⟨rfl, ?_, ?_⟩
  · have := ((((((HB.out.set_ 0 (.slice (some ⟨G, 0, none⟩) 4096 4096)).set_ 1 (.iface 81 (.pointer (some ⟨q, 0, none⟩)))).set_ 2 (.int .i64 0)).set_ 3 (.int .i64 0)).set_ 4 .nilIface).set_ 5 (.int .i64 (-1))).set_ 6 (.int .i64 (-1))
    unfold Rb
    simpa [rdC] using this
  · exact (((((((Kept.refl [R] w).setCell (p := ⟨R, 0, none⟩) (.inl (by simp)) _).setCell (p := ⟨R, 1, none⟩) (.inl (by simp)) _).setCell (p := ⟨R, 2, none⟩) (.inl (by simp)) _).setCell (p := ⟨R, 3, none⟩) (.inl (by simp)) _).setCell (p := ⟨R, 4, none⟩) (.inl (by simp)) _).setCell (p := ⟨R, 5, none⟩) (.inl (by simp)) _).setCell (p := ⟨R, 6, none⟩) (.inl (by simp)) _
theorem size_alloc' (w : World) (o : Obj) : (w.alloc o).heap.size = w.heap.size + 1 := by simp
/-- a reader made over the reader in block q -/
def RdNew (q : Nat) (w : World) (e : Ending) (w' : World) : Prop :=
  e = .returned (.pointer (some ⟨w.heap.size, 0, none⟩)) ∧ Rb w' w.heap.size (w.heap.size + 1) q 0 0 .nilIface (-1) (-1) ∧ (∃ cs : List Value, cs.length = 4096 ∧ Blk w' (w.heap.size + 1) 5 cs.toArray) ∧ Kept [] w w' ∧ w.heap.size + 2 ≤ w'.heap.size
set_option maxRecDepth 100000 in
set_option maxHeartbeats 2000000 in
theorem newRd_calls (q : Nat) (w : World) : Calls Tryd.prog 83 #[.iface 81 (.pointer (some ⟨q, 0, none⟩)), .int .i64 4096] w (RdNew q w) := by
  have hta : ∀ w : World, (Instr.typeAssert (.iface 81 (.pointer (some ⟨q, 0, none⟩))) 84 113 true).run Tryd.prog w = .ok (.tuple #[.pointer none, .bool false]) w := fun _ => by kernel_rfl
  obtain ⟨i0, hi, hz0, hz1, hz2⟩ := info_parts mem.infoByte
  go_enter Tryd.func83, Tryd.ntmps83
  go_wp2_with (at_make; refine wpList_make_full _ rfl _ _ 25 rfl (w.heap.size + 1) 5 i0 _ 1 Tryd.underlying25 hi hz0 hz1 .i64 .i64 4096 4096 4096 rfl rfl rfl rfl (by rw [hz2]; decide) (by decide) (by simp) ?_; intro w1 hown hgr; have H1 := hid (And.intro hown hgr); clear hown hgr)
  have hk1 : Kept [] w w1 := ((Kept.refl [] w).alloc _).trans (T := []) (Kept.of_grown_none H1.out.2) (by simp)
  have hb1 : Blk w1 w.heap.size 169 #[.slice none 0 0, .nilIface, .int .i64 0, .int .i64 0, .nilIface, .int .i64 0, .int .i64 0] := Blk.kept (S := []) (Blk.new w _ _) (Kept.of_grown_none H1.out.2) (by simp)
  have hg1 : ∃ cs : List Value, cs.length = 4096 ∧ Blk w1 (w.heap.size + 1) 5 cs.toArray := by
    have ho := H1.out.1
    simp only [size_alloc'] at ho
    rcases ho.2 with ⟨h1, _⟩ | ⟨g, cap, cur, h1, _, hg, _, _, hcs, _⟩
    · cases h1
    · injection h1 with h1 h2 h3
      injection h1 with h1
      injection h1 with h1
      subst h1
      exact ⟨cur.toList, by rw [Array.length_toList, hcs, ← h3], hg⟩
  have c1 := hid (bufReset_calls w.heap.size (w.heap.size + 1) q w1 hb1)
  have HK1 := hid hk1
  have HG1 := hid hg1
  clear hk1 hb1 hg1 H1
  refine c1.out.mono ?_
  rintro e w2 ⟨rfl, hr, hk⟩
  have HR := hid hr
  have HK := hid hk
  clear hr hk c1
  go_wp2_with fail
  go_ret
  obtain ⟨cs, hc, hg⟩ := HG1.out
  have hk2 : Kept [] w w2 := HK1.out.trans HK.out (by simp)
  exact ⟨rfl, HR.out, ⟨cs, hc, hg.kept HK.out (by simp)⟩, hk2, by have := hg.lt; have := HK.out.size; omega⟩
set_option maxRecDepth 100000 in
theorem newReader_calls (q : Nat) (w : World) : Calls Tryd.prog 61 #[.iface 81 (.pointer (some ⟨q, 0, none⟩))] w (RdNew q w) := by
  have c1 := hid (newRd_calls q w)
  go_enter Tryd.func61, Tryd.ntmps61
  go_wp2_with fail
  refine c1.out.mono ?_
  rintro e w2 ⟨rfl, hr⟩
  have HR := hid hr
  clear hr
  go_wp2_with fail
  go_ret
  exact ⟨rfl, HR.out⟩
set_option maxRecDepth 100000 in
/-- 's[i:j]' ahead of the capacity's end -/
theorem slice_in (ki kj : IntKind) (G q c i j : Nat) (hi : i ≤ j) (hj : j ≤ q) (hc : q ≤ c) (hic : i < c) (w : World) : (Instr.sliceAt 25 (.slice (some ⟨G, 0, none⟩) q c) (some (.int ki i)) (some (.int kj j)) none).run Tryd.prog w = .ok (.slice (some ⟨G, i, none⟩) (j - i) (c - i)) w := by
  rw [run_sliceAt_slice (h := Tryd.underlying25), run_slice_lh (ht := Tryd.underlying25) (h0 := by omega) (h1 := by omega) (h2 := by omega), sizeByte]
  simp only [Result.andThen, sliced]
  rw [if_neg (by omega)]
  simp [Lib.addr_add]
/-- blocks apart -/
structure Apart (R G q D : Nat) : Prop where
  RG : R ≠ G
  Rq : R ≠ q
  RD : R ≠ D
  Gq : G ≠ q
  GD : G ≠ D
  qD : q ≠ D
/-- m bytes are read out of what the buffer holds from r on -/
def TookM (w : World) (R G q D r wv m : Nat) (t : TypeId) (cur' : List Value) (e : Ending) (w' : World) : Prop :=
  e = .returned (.tuple #[.int .i64 m, .nilIface]) ∧ (∃ lb, Rb w' R G q (r + m) wv .nilIface lb (-1)) ∧ Blk w' D t cur'.toArray ∧ Kept [R, D] w w'
set_option maxRecDepth 100000 in
set_option maxHeartbeats 8000000 in
theorem read_next (R G q D r wv m off dc : Nat) (lb ls : Int) (t : TypeId) (cur row : List Value) (l : List UInt8) (w : World) (hR : Rb w R G q r wv .nilIface lb ls) (ha : Apart R G q D) (hG : Blk w G 5 row.toArray) (hD : Blk w D t cur.toArray)
    (hm : 0 < m) (hmw : r + m ≤ wv) (hw : wv ≤ 4096) (hrl : row.length = 4096) (hl : ∀ j, j < m → row[r + j]? = (byteCells l)[j]?) (hll : l.length = m) (hfit : off + m ≤ cur.length) :
    Calls Tryd.prog 163 #[.pointer (some ⟨R, 0, none⟩), .slice (some ⟨D, off, none⟩) m dc] w (TookM w R G q D r wv m t (splice cur off (byteCells l))) := by
  have h0 : w.cell? ⟨R, 0, none⟩ = some (.slice (some ⟨G, 0, none⟩) 4096 4096) := hR.cell 0 rfl
  have h2 : w.cell? ⟨R, 2, none⟩ = some (.int .i64 (r : Int)) := hR.cell 2 rfl
  have h3 : w.cell? ⟨R, 3, none⟩ = some (.int .i64 (wv : Int)) := hR.cell 3 rfl
  have e1 : ¬ (m : Int) = 0 := by omega
  have e2 : ¬ (r : Int) = (wv : Int) := by omega
  have e2' : ((r : Int) == (wv : Int)) = false := by simp; omega
  have HR := hid hR
  have HA := hid ha
  have HG := hid hG
  have HD := hid hD
  clear hR ha hG hD
  go_enter Tryd.func163, Tryd.ntmps163
  go_wp2_with fail
  go_quiet (fail)
  go_wp2_with fail
  obtain ⟨w1, hw1⟩ : ∃ w1, w1 = w.drewN nq := ⟨_, rfl⟩
  rw [← hw1]
  have HR1 := hid (show Rb w1 R G q r wv .nilIface lb ls by rw [hw1]; exact HR.out)
  have HG1 := hid (show Blk w1 G 5 row.toArray by rw [hw1]; exact HG.out)
  have HD1 := hid (show Blk w1 D t cur.toArray by rw [hw1]; exact HD.out)
  have HK1 := hid (show Kept [] w w1 by rw [hw1]; exact (Kept.refl _ _).drewN _)
  clear hw1 HR HG HD h0 h2 h3
  have hsl := slice_in .i64 .i64 G 4096 4096 r wv (by omega) (by omega) (by omega) (by omega)
  have HX : Hid (w1.drew.cell? ⟨R, 0, none⟩ = some (.slice (some ⟨G, 0, none⟩) 4096 4096) ∧ w1.drew.cell? ⟨R, 2, none⟩ = some (.int .i64 (r : Int)) ∧ w1.drew.cell? ⟨R, 3, none⟩ = some (.int .i64 (wv : Int))) := hid ⟨HR1.out.cell 0 rfl, HR1.out.cell 2 rfl, HR1.out.cell 3 rfl⟩
  have hkk : (byteCells l).length = m := by rw [show (byteCells l).length = l.length by simp [byteCells]]; exact hll
  have hlen : Hid ((byteCells l).length = Nat.min (wv - r) m) := hid (by rw [hkk]; exact (Nat.min_eq_right (by omega)).symm)
  have hpos : Hid (0 < (byteCells l).length → some (⟨D, off, none⟩ : Addr) = some ⟨D, off, none⟩ ∧ ∃ ad, (some ⟨G, r, none⟩ : Option Addr) = some ad ∧ ∀ j v, (byteCells l)[j]? = some v → w1.drew.cell? (ad.add j) = some v) := hid (fun _ => ⟨rfl, _, rfl, fun j v hj => by
    have hjm : j < m := by have := (List.getElem?_eq_some_iff.1 hj).1; omega
    rw [Lib.addr_add]
    refine HG1.out.cell (r + j) ?_
    rw [List.getElem?_toArray, hl j hjm]
    exact hj⟩)
  obtain ⟨m1, rfl⟩ : ∃ m1, m = m1 + 1 := ⟨m - 1, by omega⟩
  obtain ⟨x, hx⟩ : ∃ x : UInt8, row[r + m1]? = some (.int .u8 x.toNat) := by
    have h := hl m1 (by omega)
    have h1 : m1 < l.length := by omega
    exact ⟨l[m1], by rw [h]; simp [byteCells, h1]⟩
  have HXr := hid hx
  have HN := hid (And.intro hmw (And.intro hw (And.intro hrl hfit)))
  obtain ⟨cs, hcs⟩ : ∃ cs, cs = byteCells l := ⟨_, rfl⟩
  have hone : Hid (∀ v ∈ cs, v.oneCell' = true) := hid (by rw [hcs]; exact cells_one _)
  rw [← hcs] at hlen hpos hkk ⊢
  have HKK := hid hkk
  have HCS := hid hcs
  have gm : (r : Int) + ((m1 + 1 : Nat) : Int) ≤ 4096 := by omega
  clear hl hll hkk hcs hx hmw hrl hfit
  go_region_held3 (fun w' => w'.cell? ⟨R, 0, none⟩ = some (.slice (some ⟨G, 0, none⟩) 4096 4096) ∧ w'.cell? ⟨R, 2, none⟩ = some (.int .i64 (r : Int)) ∧ w'.cell? ⟨R, 3, none⟩ = some (.int .i64 (wv : Int)))
    (exact HX.out)
    ((refine step_copy_kept (by rfl) _ _ _ _ (by rfl) 5 Tryd.underlying25 infoByte _ _ _ _ _ _ (by rfl) (by rfl) D off cur t (show Blk w1.drew D _ _ from HD1.out) cs hlen.out hpos.out (by have := HN.out; have := HKK.out; omega) hone.out ?_; intro w2 HG2 HK2 HZ2; have HR2 := hid (show Rb w2 R G q r wv .nilIface lb ls from Blk.kept (show Blk w1.drew R _ _ from HR1.out) HK2.out (by have := HA.out; simp [this.RD])); have HX := hid (And.intro (show w2.cell? ⟨R, 0, none⟩ = some (.slice (some ⟨G, 0, none⟩) 4096 4096) from HR2.out.cell 0 rfl) (And.intro (show w2.cell? ⟨R, 2, none⟩ = some (.int .i64 (r : Int)) from HR2.out.cell 2 rfl) (show w2.cell? ⟨R, 3, none⟩ = some (.int .i64 (wv : Int)) from HR2.out.cell 3 rfl))); have hz := HKK.out; have qr : w2.cell? ⟨R, 2, none⟩ = some (.int .i64 (r : Int)) := HR2.out.cell 2 rfl; have fr : w2.frozen? ⟨R, 2, none⟩ = false := HR2.out.frozen 2))
  all_goals
    go_wp2_with fail
    have hr3 : Rb (w2.setCell ⟨R, 2, none⟩ (.int .i64 ((r : Int) + ((m1 : Int) + 1)))) R G q (r + (m1 + 1)) wv .nilIface lb ls := by
      have := HR2.out.set_ 2 (.int .i64 ((r : Int) + ((m1 : Int) + 1)))
      unfold Rb
      simpa [rdC] using this
    have hg3 : Blk (w2.setCell ⟨R, 2, none⟩ (.int .i64 ((r : Int) + ((m1 : Int) + 1)))) G 5 row.toArray := Blk.far (p := ⟨R, 2, none⟩) (Blk.kept (show Blk w1.drew G _ _ from HG1.out) HK2.out (by have := HA.out; simp [this.GD])) HA.out.RG.symm _
    have hd3 : Blk (w2.setCell ⟨R, 2, none⟩ (.int .i64 ((r : Int) + ((m1 : Int) + 1)))) D t (splice cur off (byteCells l)).toArray := Blk.far (p := ⟨R, 2, none⟩) (by have := HG2.out; rw [HCS.out] at this; exact this) HA.out.RD.symm _
    have hk3 : Kept [R, D] w (w2.setCell ⟨R, 2, none⟩ (.int .i64 ((r : Int) + ((m1 : Int) + 1)))) := (((HK1.out.more (by simp)).drew).trans_ (HK2.out.more (by simp))).setCell (p := ⟨R, 2, none⟩) (.inl (by simp)) _
    obtain ⟨z, hz2⟩ : ∃ z : Int, z = (r : Int) + ((m1 : Int) + 1) := ⟨_, rfl⟩
    rw [← hz2] at hr3 hg3 hd3 hk3 ⊢
    obtain ⟨p, hp⟩ : ∃ p, p = r + m1 := ⟨_, rfl⟩
    have hzp : IntKind.i64.wrap (z - 1) = (p : Int) := by rw [IntWalk.i64_in _ (by omega)]; omega
    have hzp' : z - 1 = (p : Int) := by omega
    have hzp2 : IntKind.i64.wrap (p : Int) = (p : Int) := IntWalk.i64_in _ (by omega)
    have hp0 : (0 : Int) ≤ (p : Int) := by omega
    have hp1 : (p : Int) < 4096 := by omega
    have hz0 : Hid (z = ((r + (m1 + 1) : Nat) : Int)) := hid (by omega)
    have HXp : Hid (row[p]? = some (.int .u8 x.toNat)) := hid (by rw [hp]; exact HXr.out)
    generalize w2.setCell ⟨R, 2, none⟩ (.int .i64 z) = w3 at *
    have HR3 := hid hr3
    have HG3 := hid hg3
    have HD3 := hid hd3
    have HK3 := hid hk3
    have HXs : Hid (w3.drew.cell? ⟨R, 0, none⟩ = some (.slice (some ⟨G, 0, none⟩) 4096 4096) ∧ w3.drew.cell? ⟨R, 2, none⟩ = some (.int .i64 z) ∧ w3.drew.cell? ⟨G, p, none⟩ = some (.int .u8 x.toNat)) := hid ⟨hr3.cell 0 rfl, by rw [hz0.out]; exact hr3.cell 2 rfl, hg3.cell p (by rw [List.getElem?_toArray]; exact HXp.out)⟩
    have f5 : w3.drew.frozen? ⟨R, 5, none⟩ = false := hr3.frozen 5
    have q5 : w3.drew.cell? ⟨R, 5, none⟩ = some (.int .i64 lb) := hr3.cell 5 rfl
    have HXt : Hid (∀ u, (w3.drew.setCell ⟨R, 5, none⟩ u).cell? ⟨R, 0, none⟩ = some (.slice (some ⟨G, 0, none⟩) 4096 4096) ∧ (w3.drew.setCell ⟨R, 5, none⟩ u).cell? ⟨R, 2, none⟩ = some (.int .i64 z) ∧ (w3.drew.setCell ⟨R, 5, none⟩ u).cell? ⟨G, p, none⟩ = some (.int .u8 x.toNat)) := hid (fun u => ⟨(World.cell?_setCell_other _ ⟨R, 5, none⟩ ⟨R, 0, none⟩ u (by simp)).trans HXs.out.1, (World.cell?_setCell_other _ ⟨R, 5, none⟩ ⟨R, 2, none⟩ u (by simp)).trans HXs.out.2.1, (World.cell?_setCell_other _ ⟨R, 5, none⟩ ⟨G, p, none⟩ u (by intro e; injection e with e; exact HA.out.RG e)).trans HXs.out.2.2⟩)
    clear hr3 hg3 hd3 hk3 hz2 hp HX qr fr hz gm HR2 HG2 HK2 HZ2 hpos
    go_region_held3 (fun w' => w'.cell? ⟨R, 0, none⟩ = some (.slice (some ⟨G, 0, none⟩) 4096 4096) ∧ w'.cell? ⟨R, 2, none⟩ = some (.int .i64 z) ∧ w'.cell? ⟨G, p, none⟩ = some (.int .u8 x.toNat))
      (first | exact HXs.out | exact HXt.out _)
      (fail)
    have hr4 := hid (show Rb ((w3.setCell ⟨R, 5, none⟩ (.int .i64 (IntKind.i64.wrap x.toNat))).drew) R G q (r + (m1 + 1)) wv .nilIface (IntKind.i64.wrap x.toNat) ls by
      have := (show Blk w3 R _ _ from HR3.out).set_ 5 (.int .i64 (IntKind.i64.wrap x.toNat))
      unfold Rb
      refine Blk.drew ?_
      simpa [rdC] using this)
    have hd4 := hid (((show Blk w3 D _ _ from HD3.out).far (p := ⟨R, 5, none⟩) HA.out.RD.symm (.int .i64 (IntKind.i64.wrap x.toNat))).drew)
    have hk4 := hid ((HK3.out.setCell (p := ⟨R, 5, none⟩) (.inl (by simp)) (.int .i64 (IntKind.i64.wrap x.toNat))).drew)
    clear HXs HXt q5 f5 HR3 HG3 HD3 HK3
    generalize (w3.setCell ⟨R, 5, none⟩ (.int .i64 (IntKind.i64.wrap x.toNat))).drew = w4 at *
    have f6 : w4.frozen? ⟨R, 6, none⟩ = false := hr4.out.frozen 6
    have q6 : w4.cell? ⟨R, 6, none⟩ = some (.int .i64 ls) := hr4.out.cell 6 rfl
    go_wp2_with fail
    refine bodyPost_ret (by simp [results, Tryd.results163, go_sem]; rfl) rfl ?_
    have hd5 := (show Blk w4 D t _ from hd4.out).far (p := ⟨R, 6, none⟩) HA.out.RD.symm (.int .i64 (-1))
    have hk5 := (show Kept [R, D] w w4 from hk4.out).setCell (p := ⟨R, 6, none⟩) (.inl (by simp)) (.int .i64 (-1))
    refine ⟨rfl, ⟨IntKind.i64.wrap x.toNat, ?_⟩, hd5, hk5⟩
    have := hr4.out.set_ 6 (.int .i64 (-1))
    unfold Rb
    simpa [rdC] using this
/-- the first reading: the buffer is filled, and m bytes are taken of it -/
def TookF (w : World) (R G q D n c m : Nat) (A : Option Addr) (row' : List Value) (t : TypeId) (cur' : List Value) (e : Ending) (w' : World) : Prop :=
  e = .returned (.tuple #[.int .i64 m, .nilIface]) ∧ (∃ lb, Rb w' R G q m n .nilIface lb (-1)) ∧ Blk w' G 5 row'.toArray ∧ Rd w' q A n c n ∧ Blk w' D t cur'.toArray ∧ Kept [R, G, q, D] w w'
theorem splice_get (row cs : List Value) (j : Nat) (h : j < cs.length) (h2 : cs.length ≤ row.length) : (splice row 0 cs)[j]? = cs[j]? := by
  simp [splice, List.getElem?_append, h]
set_option maxRecDepth 100000 in
set_option maxHeartbeats 8000000 in
theorem read_first (B R G q D n c m off dc : Nat) (A : Option Addr) (lb ls : Int) (t : TypeId) (cur row : List Value) (l : List UInt8) (w : World) (hR : Rb w R G q 0 0 .nilIface lb ls) (ha : Apart R G q D) (hG : Blk w G 5 row.toArray) (hD : Blk w D t cur.toArray)
    (hq : Rd w q A n c 0) (hl : Bytes w B A n l) (hBq : B ≤ q) (hBG : B ≤ G) (hBR : B ≤ R) (hn0 : 0 < n) (hn : n ≤ 4096) (hnc : n ≤ c) (hm : 0 < m) (hmn : m ≤ n) (hm4 : m < 4096) (hrl : row.length = 4096) (hfit : off + m ≤ cur.length) :
    Calls Tryd.prog 163 #[.pointer (some ⟨R, 0, none⟩), .slice (some ⟨D, off, none⟩) m dc] w (TookF w R G q D n c m A (splice row 0 (byteCells l)) t (splice cur off (byteCells (l.take m)))) := by
  have hna : ∀ w : World, Sem.run Tryd.prog (nilAhead 328 81 (.pointer (some ⟨q, 0, none⟩)) "Read") w = .ok (some false) w := fun _ => by kernel_rfl
  have hme : ∀ w : World, Sem.run Tryd.prog (method 328 81 (.pointer (some ⟨q, 0, none⟩)) "Read") w = .ok (158, .pointer (some ⟨q, 0, none⟩)) w := fun _ => by kernel_rfl
  have c1 := hid (fun (w' : World) (h : Kept [R] w w') => read_some B q A n c 0 l G 0 4096 4096 n 5 row w' (hq.kept h (by have := ha.Rq; simp [this.symm])) hn0 (by omega) hnc (hl.below (h.below (Nat.le_trans hBR (Nat.le_of_lt hR.lt)) (by simpa using hBR))) hBq hBG ha.Gq.symm (hG.kept h (by have := ha.RG; simp [this.symm])) (by omega) (by omega))
  have h0 : w.cell? ⟨R, 0, none⟩ = some (.slice (some ⟨G, 0, none⟩) 4096 4096) := hR.cell 0 rfl
  have h2 : w.cell? ⟨R, 2, none⟩ = some (.int .i64 0) := hR.cell 2 rfl
  have h3 : w.cell? ⟨R, 3, none⟩ = some (.int .i64 0) := hR.cell 3 rfl
  have h4 : w.cell? ⟨R, 4, none⟩ = some .nilIface := hR.cell 4 rfl
  have f2 : w.frozen? ⟨R, 2, none⟩ = false := hR.frozen 2
  have f3 : w.frozen? ⟨R, 3, none⟩ = false := hR.frozen 3
  have e1 : ¬ (m : Int) = 0 := by omega
  have e2 : ¬ (4096 : Int) ≤ (m : Int) := by omega
  have e3 : ¬ (n : Int) < 0 := by omega
  have e4 : ¬ (n : Int) = 0 := by omega
  have HR := hid hR
  have HA := hid ha
  have HG := hid hG
  have HD := hid hD
  have HN0 := hid (And.intro hm (And.intro hmn (And.intro hn (And.intro hrl (And.intro hfit hl.len)))))
  clear hR ha hG hD hq hl hBq hBG hBR hn0 hnc hm hmn hm4 hrl hfit
  go_enter Tryd.func163, Tryd.ntmps163
  go_wp2_with fail
  go_quiet (fail)
  go_wp2_with fail
  obtain ⟨wa, hwa⟩ : ∃ wa, wa = ((w.drewN nq).setCell ⟨R, 2, none⟩ (.int .i64 0)).setCell ⟨R, 3, none⟩ (.int .i64 0) := ⟨_, rfl⟩
  rw [← hwa]
  have HRA := hid (show Rb wa R G q 0 0 .nilIface lb ls by
    rw [hwa]
    have := ((show Blk (w.drewN nq) R _ _ from HR.out).set_ 2 (.int .i64 0)).set_ 3 (.int .i64 0)
    unfold Rb
    simpa [rdC] using this)
  have HDA := hid (show Blk wa D t cur.toArray by rw [hwa]; exact (Blk.far (p := ⟨R, 2, none⟩) (show Blk (w.drewN nq) D _ _ from HD.out) HA.out.RD.symm _).far (p := ⟨R, 3, none⟩) HA.out.RD.symm _)
  have HKA := hid (show Kept [R] w wa by rw [hwa]; exact ((((Kept.refl [R] w).drewN nq).setCell (p := ⟨R, 2, none⟩) (.inl (by simp)) _).setCell (p := ⟨R, 3, none⟩) (.inl (by simp)) _))
  have HX := hid (And.intro (show wa.drew.cell? ⟨R, 0, none⟩ = some (.slice (some ⟨G, 0, none⟩) 4096 4096) from HRA.out.cell 0 rfl) (show wa.drew.cell? ⟨R, 1, none⟩ = some (.iface 81 (.pointer (some ⟨q, 0, none⟩))) from HRA.out.cell 1 rfl))
  clear hwa h0 h2 h3 h4 f2 f3
  go_region_held3 (fun w' => w'.cell? ⟨R, 0, none⟩ = some (.slice (some ⟨G, 0, none⟩) 4096 4096) ∧ w'.cell? ⟨R, 1, none⟩ = some (.iface 81 (.pointer (some ⟨q, 0, none⟩))))
    (first | exact HX.out | exact HXt.out _)
    (first
      | (go_at_call 158; refine (c1.out _ HKA.out.drew).mono ?_; rintro e w2 ⟨rfl, hq2, hg2, hk2⟩; have HQ2 := hid hq2; have HG2 := hid hg2; have HK2 := hid hk2; have HR2 := hid (show Rb w2 R G q 0 0 .nilIface lb ls from Blk.kept (show Blk wa.drew R _ _ from HRA.out) hk2 (by have := HA.out; simp [this.Rq, this.RG])); clear hq2 hg2 hk2; have HX := hid (And.intro (show w2.cell? ⟨R, 0, none⟩ = some (.slice (some ⟨G, 0, none⟩) 4096 4096) from HR2.out.cell 0 rfl) (show w2.cell? ⟨R, 1, none⟩ = some (.iface 81 (.pointer (some ⟨q, 0, none⟩))) from HR2.out.cell 1 rfl)); have f4 : w2.frozen? ⟨R, 4, none⟩ = false := HR2.out.frozen 4; have q4 : w2.cell? ⟨R, 4, none⟩ = some .nilIface := HR2.out.cell 4 rfl; have HXt := hid (fun u => And.intro ((World.cell?_setCell_other w2 ⟨R, 4, none⟩ ⟨R, 0, none⟩ u (by simp)).trans HX.out.1) ((World.cell?_setCell_other w2 ⟨R, 4, none⟩ ⟨R, 1, none⟩ u (by simp)).trans HX.out.2)))
      | fail)
  all_goals
    have hrb := hid (show Rb (w2.setCell ⟨R, 4, none⟩ .nilIface) R G q 0 0 .nilIface lb ls by
      have := (show Blk w2 R _ _ from HR2.out).set_ 4 .nilIface
      unfold Rb
      simpa [rdC] using this)
    have hgb := hid ((show Blk w2 G _ _ from HG2.out).far (p := ⟨R, 4, none⟩) HA.out.RG.symm .nilIface)
    have hdb := hid ((show Blk w2 D _ _ from HDA.out.drew.kept HK2.out (by have := HA.out; simp [this.qD.symm, this.GD.symm])).far (p := ⟨R, 4, none⟩) HA.out.RD.symm .nilIface)
    have hkb := hid ((((HKA.out.drew).more (T := [R, G, q]) (by simp)).trans_ (HK2.out.more (by simp))).setCell (p := ⟨R, 4, none⟩) (.inl (by simp)) .nilIface)
    have hqb := hid (HQ2.out.kept (S := [R]) ((Kept.refl [R] w2).setCell (p := ⟨R, 4, none⟩) (.inl (by simp)) .nilIface) (by have := HA.out.Rq; simp [this.symm]))
    clear f4 q4 HX HXt
    generalize w2.setCell ⟨R, 4, none⟩ .nilIface = wb at *
    have q3 : wb.cell? ⟨R, 3, none⟩ = some (.int .i64 0) := hrb.out.cell 3 rfl
    have f3 : wb.frozen? ⟨R, 3, none⟩ = false := hrb.out.frozen 3
    have ew : IntKind.i64.wrap (n : Int) = (n : Int) := IntWalk.i64_in _ (by omega)
    go_wp2_with fail
    obtain ⟨r, hr⟩ : ∃ r : Nat, r = 0 := ⟨_, rfl⟩
    obtain ⟨l2, hl2⟩ : ∃ l2, l2 = l.take m := ⟨_, rfl⟩
    obtain ⟨row2, hrow2⟩ : ∃ x, x = splice row 0 (byteCells l) := ⟨_, rfl⟩
    rw [← hl2, ← hrow2]
    obtain ⟨hm, hmn, hw, hrl0, hfit, hln⟩ := HN0.out
    have elt : (l.drop 0).take n = l := by rw [List.drop_zero, List.take_of_length_le (by omega)]
    have HR1 := hid (show Rb (wb.setCell ⟨R, 3, none⟩ (.int .i64 n)) R G q r n .nilIface lb ls by
      have := (show Blk wb R _ _ from hrb.out).set_ 3 (.int .i64 n)
      unfold Rb
      rw [hr]
      simpa [rdC] using this)
    have HG1 := hid ((show Blk wb G 5 row2.toArray from by have := hgb.out; rw [elt, ← hrow2] at this; exact this).far (p := ⟨R, 3, none⟩) HA.out.RG.symm (.int .i64 n))
    have HD1 := hid ((show Blk wb D t cur.toArray from hdb.out).far (p := ⟨R, 3, none⟩) HA.out.RD.symm (.int .i64 n))
    have HW1 := hid ((show Kept [R, G, q] w wb from hkb.out).setCell (p := ⟨R, 3, none⟩) (.inl (by simp)) (.int .i64 n))
    have HQ1 := hid (Rd.kept (S := [R]) (show Rd wb q A n c n by have := hqb.out; simpa using this) ((Kept.refl [R] wb).setCell (p := ⟨R, 3, none⟩) (.inl (by simp)) (.int .i64 n)) (by have := HA.out.Rq; simp [this.symm]))
    clear q3 f3 hrb hgb hdb hkb hqb HR2 HG2 HK2 HQ2
    generalize wb.setCell ⟨R, 3, none⟩ (.int .i64 n) = w1 at *
    have HGN := HG1
    have HK1 := hid (Kept.refl [] w1)
    have hrl : row2.length = 4096 := by rw [hrow2]; simp [splice, byteCells, hln]; omega
    have hmw : r + m ≤ n := by omega
    have hll : l2.length = m := by rw [hl2]; simp; omega
    have hl : ∀ j, j < m → row2[r + j]? = (byteCells l2)[j]? := fun j hj => by
      rw [hr, hrow2, Nat.zero_add, splice_get _ _ _ (by simp [byteCells]; omega) (by simp [byteCells]; omega), hl2]
      simp only [byteCells, List.map_take]
      rw [List.getElem?_take, if_pos hj]
    have HR0 := hid hr
    have HL2 := hid hl2
    have HROW := hid hrow2
    clear hrl0 hln hr hl2 hrow2 HN0 hmn elt
    have hsl := slice_in .i64 .i64 G 4096 4096 r n (by omega) (by omega) (by omega) (by omega)
    have HX : Hid (w1.drew.cell? ⟨R, 0, none⟩ = some (.slice (some ⟨G, 0, none⟩) 4096 4096) ∧ w1.drew.cell? ⟨R, 2, none⟩ = some (.int .i64 (r : Int)) ∧ w1.drew.cell? ⟨R, 3, none⟩ = some (.int .i64 (n : Int))) := hid ⟨HR1.out.cell 0 rfl, HR1.out.cell 2 rfl, HR1.out.cell 3 rfl⟩
    have hkk : (byteCells l2).length = m := by rw [show (byteCells l2).length = l2.length by simp [byteCells]]; exact hll
    have hlen : Hid ((byteCells l2).length = Nat.min (n - r) m) := hid (by rw [hkk]; exact (Nat.min_eq_right (by omega)).symm)
    have hpos : Hid (0 < (byteCells l2).length → some (⟨D, off, none⟩ : Addr) = some ⟨D, off, none⟩ ∧ ∃ ad, (some ⟨G, r, none⟩ : Option Addr) = some ad ∧ ∀ j v, (byteCells l2)[j]? = some v → w1.drew.cell? (ad.add j) = some v) := hid (fun _ => ⟨rfl, _, rfl, fun j v hj => by
      have hjm : j < m := by have := (List.getElem?_eq_some_iff.1 hj).1; omega
      rw [Lib.addr_add]
      refine HG1.out.cell (r + j) ?_
      rw [List.getElem?_toArray, hl j hjm]
      exact hj⟩)
    obtain ⟨m1, rfl⟩ : ∃ m1, m = m1 + 1 := ⟨m - 1, by omega⟩
    obtain ⟨x, hx⟩ : ∃ x : UInt8, row2[r + m1]? = some (.int .u8 x.toNat) := by
      have h := hl m1 (by omega)
      have h1 : m1 < l2.length := by omega
      exact ⟨l2[m1], by rw [h]; simp [byteCells, h1]⟩
    have HXr := hid hx
    have HN := hid (And.intro hmw (And.intro hw (And.intro hrl hfit)))
    obtain ⟨cs, hcs⟩ : ∃ cs, cs = byteCells l2 := ⟨_, rfl⟩
    have hone : Hid (∀ v ∈ cs, v.oneCell' = true) := hid (by rw [hcs]; exact cells_one _)
    rw [← hcs] at hlen hpos hkk ⊢
    have HKK := hid hkk
    have HCS := hid hcs
    have gm : (r : Int) + ((m1 + 1 : Nat) : Int) ≤ 4096 := by omega
    clear hl hll hkk hcs hx hmw hrl hfit
    go_region_held3 (fun w' => w'.cell? ⟨R, 0, none⟩ = some (.slice (some ⟨G, 0, none⟩) 4096 4096) ∧ w'.cell? ⟨R, 2, none⟩ = some (.int .i64 (r : Int)) ∧ w'.cell? ⟨R, 3, none⟩ = some (.int .i64 (n : Int)))
      (exact HX.out)
      ((refine step_copy_kept (by rfl) _ _ _ _ (by rfl) 5 Tryd.underlying25 infoByte _ _ _ _ _ _ (by rfl) (by rfl) D off cur t (show Blk w1.drew D _ _ from HD1.out) cs hlen.out hpos.out (by have := HN.out; have := HKK.out; omega) hone.out ?_; intro w2 HG2 HK2 HZ2; have HR2 := hid (show Rb w2 R G q r n .nilIface lb ls from Blk.kept (show Blk w1.drew R _ _ from HR1.out) HK2.out (by have := HA.out; simp [this.RD])); have HX := hid (And.intro (show w2.cell? ⟨R, 0, none⟩ = some (.slice (some ⟨G, 0, none⟩) 4096 4096) from HR2.out.cell 0 rfl) (And.intro (show w2.cell? ⟨R, 2, none⟩ = some (.int .i64 (r : Int)) from HR2.out.cell 2 rfl) (show w2.cell? ⟨R, 3, none⟩ = some (.int .i64 (n : Int)) from HR2.out.cell 3 rfl))); have hz := HKK.out; have qr : w2.cell? ⟨R, 2, none⟩ = some (.int .i64 (r : Int)) := HR2.out.cell 2 rfl; have fr : w2.frozen? ⟨R, 2, none⟩ = false := HR2.out.frozen 2))
    all_goals
      go_wp2_with fail
      have hr3 : Rb (w2.setCell ⟨R, 2, none⟩ (.int .i64 ((r : Int) + ((m1 : Int) + 1)))) R G q (r + (m1 + 1)) n .nilIface lb ls := by
        have := HR2.out.set_ 2 (.int .i64 ((r : Int) + ((m1 : Int) + 1)))
        unfold Rb
        simpa [rdC] using this
      have hg3 : Blk (w2.setCell ⟨R, 2, none⟩ (.int .i64 ((r : Int) + ((m1 : Int) + 1)))) G 5 row2.toArray := Blk.far (p := ⟨R, 2, none⟩) (Blk.kept (show Blk w1.drew G _ _ from HG1.out) HK2.out (by have := HA.out; simp [this.GD])) HA.out.RG.symm _
      have hd3 : Blk (w2.setCell ⟨R, 2, none⟩ (.int .i64 ((r : Int) + ((m1 : Int) + 1)))) D t (splice cur off (byteCells l2)).toArray := Blk.far (p := ⟨R, 2, none⟩) (by have := HG2.out; rw [HCS.out] at this; exact this) HA.out.RD.symm _
      have hk3 : Kept [R, D] w1 (w2.setCell ⟨R, 2, none⟩ (.int .i64 ((r : Int) + ((m1 : Int) + 1)))) := (((HK1.out.more (by simp)).drew).trans_ (HK2.out.more (by simp))).setCell (p := ⟨R, 2, none⟩) (.inl (by simp)) _
      obtain ⟨z, hz2⟩ : ∃ z : Int, z = (r : Int) + ((m1 : Int) + 1) := ⟨_, rfl⟩
      rw [← hz2] at hr3 hg3 hd3 hk3 ⊢
      obtain ⟨p, hp⟩ : ∃ p, p = r + m1 := ⟨_, rfl⟩
      have hzp : IntKind.i64.wrap (z - 1) = (p : Int) := by rw [IntWalk.i64_in _ (by omega)]; omega
      have hzp' : z - 1 = (p : Int) := by omega
      have hzp2 : IntKind.i64.wrap (p : Int) = (p : Int) := IntWalk.i64_in _ (by omega)
      have hp0 : (0 : Int) ≤ (p : Int) := by omega
      have hp1 : (p : Int) < 4096 := by omega
      have hz0 : Hid (z = ((r + (m1 + 1) : Nat) : Int)) := hid (by omega)
      have HXp : Hid (row2[p]? = some (.int .u8 x.toNat)) := hid (by rw [hp]; exact HXr.out)
      generalize w2.setCell ⟨R, 2, none⟩ (.int .i64 z) = w3 at *
      have HR3 := hid hr3
      have HG3 := hid hg3
      have HD3 := hid hd3
      have HK3 := hid hk3
      have HXs : Hid (w3.drew.cell? ⟨R, 0, none⟩ = some (.slice (some ⟨G, 0, none⟩) 4096 4096) ∧ w3.drew.cell? ⟨R, 2, none⟩ = some (.int .i64 z) ∧ w3.drew.cell? ⟨G, p, none⟩ = some (.int .u8 x.toNat)) := hid ⟨hr3.cell 0 rfl, by rw [hz0.out]; exact hr3.cell 2 rfl, hg3.cell p (by rw [List.getElem?_toArray]; exact HXp.out)⟩
      have f5 : w3.drew.frozen? ⟨R, 5, none⟩ = false := hr3.frozen 5
      have q5 : w3.drew.cell? ⟨R, 5, none⟩ = some (.int .i64 lb) := hr3.cell 5 rfl
      have HXt : Hid (∀ u, (w3.drew.setCell ⟨R, 5, none⟩ u).cell? ⟨R, 0, none⟩ = some (.slice (some ⟨G, 0, none⟩) 4096 4096) ∧ (w3.drew.setCell ⟨R, 5, none⟩ u).cell? ⟨R, 2, none⟩ = some (.int .i64 z) ∧ (w3.drew.setCell ⟨R, 5, none⟩ u).cell? ⟨G, p, none⟩ = some (.int .u8 x.toNat)) := hid (fun u => ⟨(World.cell?_setCell_other _ ⟨R, 5, none⟩ ⟨R, 0, none⟩ u (by simp)).trans HXs.out.1, (World.cell?_setCell_other _ ⟨R, 5, none⟩ ⟨R, 2, none⟩ u (by simp)).trans HXs.out.2.1, (World.cell?_setCell_other _ ⟨R, 5, none⟩ ⟨G, p, none⟩ u (by intro e; injection e with e; exact HA.out.RG e)).trans HXs.out.2.2⟩)
      clear hr3 hg3 hd3 hk3 hz2 hp HX qr fr hz gm HR2 HG2 HK2 HZ2 hpos
      go_region_held3 (fun w' => w'.cell? ⟨R, 0, none⟩ = some (.slice (some ⟨G, 0, none⟩) 4096 4096) ∧ w'.cell? ⟨R, 2, none⟩ = some (.int .i64 z) ∧ w'.cell? ⟨G, p, none⟩ = some (.int .u8 x.toNat))
        (first | exact HXs.out | exact HXt.out _)
        (fail)
      have hr4 := hid (show Rb ((w3.setCell ⟨R, 5, none⟩ (.int .i64 (IntKind.i64.wrap x.toNat))).drew) R G q (r + (m1 + 1)) n .nilIface (IntKind.i64.wrap x.toNat) ls by
        have := (show Blk w3 R _ _ from HR3.out).set_ 5 (.int .i64 (IntKind.i64.wrap x.toNat))
        unfold Rb
        refine Blk.drew ?_
        simpa [rdC] using this)
      have hd4 := hid (((show Blk w3 D _ _ from HD3.out).far (p := ⟨R, 5, none⟩) HA.out.RD.symm (.int .i64 (IntKind.i64.wrap x.toNat))).drew)
      have hk4 := hid ((HK3.out.setCell (p := ⟨R, 5, none⟩) (.inl (by simp)) (.int .i64 (IntKind.i64.wrap x.toNat))).drew)
      clear HXs HXt q5 f5 HR3 HG3 HD3 HK3
      generalize (w3.setCell ⟨R, 5, none⟩ (.int .i64 (IntKind.i64.wrap x.toNat))).drew = w4 at *
      have f6 : w4.frozen? ⟨R, 6, none⟩ = false := hr4.out.frozen 6
      have q6 : w4.cell? ⟨R, 6, none⟩ = some (.int .i64 ls) := hr4.out.cell 6 rfl
      go_wp2_with fail
      refine bodyPost_ret (by simp [results, Tryd.results163, go_sem]; rfl) rfl ?_
      have hd5 := (show Blk w4 D t _ from hd4.out).far (p := ⟨R, 6, none⟩) HA.out.RD.symm (.int .i64 (-1))
      have hk5 := (show Kept [R, D] w1 w4 from hk4.out).setCell (p := ⟨R, 6, none⟩) (.inl (by simp)) (.int .i64 (-1))
      have hgn := Blk.kept (show Blk w1 G 5 row2.toArray from HGN.out) hk5 (by have := HA.out; simp [this.RG.symm, this.GD])
      rw [HROW.out] at hgn
      rw [HL2.out] at hd5
      refine ⟨rfl, ⟨IntKind.i64.wrap x.toNat, ?_⟩, hgn, HQ1.out.kept hk5 (by have := HA.out; simp [this.Rq.symm, this.qD]), hd5, (HW1.out.more (by simp)).trans hk5 (by simp)⟩
      have h00 := HR0.out
      subst h00
      have := hr4.out.set_ 6 (.int .i64 (-1))
      unfold Rb
      simpa [rdC] using this

end Go.Proofs.YtkjfndkcagkhaaaDoor.ack
