/- bufio.Reader.ReadRune, UnreadRune. -/
import Derived.Test.YtojimnlnpghbiaaDoorRevEnd
set_option linter.unusedVariables false
attribute [local go_sem ↓] Go.wp_at_zero Go.wp_at_succ
namespace Go.Proofs.YtojimnlnpghbiaaDoor.rev
open Go.RowKit Lib frm mem rd

set_option maxRecDepth 100000 in
theorem slice_row (ki kj : IntKind) (G r v : Nat) (h1 : r < v) (h2 : v ≤ 4096) (w : World) :
    (Instr.sliceAt 22 (.slice (some ⟨G, 0, none⟩) 4096 4096) (some (.int ki r)) (some (.int kj v)) none).run Tryd.prog w = .ok (.slice (some ⟨G, r, none⟩) (v - r) (4096 - r)) w := by
  rw [run_sliceAt_slice (h := Tryd.underlying22), run_slice_lh (ht := Tryd.underlying22) (h0 := by omega) (h1 := by omega) (h2 := by omega), sizeByte]
  have h3 : ¬ 4096 = r := by omega
  simp [Result.andThen, sliced, h3, Addr.add]
  omega
/-- the row of a reader, and what is ahead in it -/
def Row (w : World) (G r : Nat) (l : List UInt8) : Prop := ∃ cs : List Value, cs.length = 4096 ∧ Blk w G 5 cs.toArray ∧ (cs.drop r).take l.length = byteCells l
theorem Row.bytes {w : World} {G r B : Nat} {l : List UInt8} (h : Row w G r l) (hB : G < B) (hl : r + l.length ≤ 4096) : Bytes w B (some ⟨G, r, none⟩) l.length l := by
  obtain ⟨cs, h1, h2, h3⟩ := h
  refine ⟨⟨by simp [Lib.byteCells], fun _ => ⟨_, rfl, hB, fun j u hu => ?_⟩⟩, fun _ => ⟨_, _, rfl⟩⟩
  rw [Lib.addr_add]
  refine h2.cell (r + j) ?_
  rw [show Lib.byteCells l = byteCells l from rfl, ← h3, List.getElem?_take] at hu
  split at hu
  · rw [List.getElem?_drop] at hu
    simpa using hu
  · cases hu
theorem Row.head {w : World} {G r : Nat} {x : UInt8} {t : List UInt8} (h : Row w G r (x :: t)) : w.cell? ⟨G, r, none⟩ = some (.int .u8 x.toNat) ∧ Row w G (r + 1) t := by
  obtain ⟨cs, h1, h2, h3⟩ := h
  have hc : cs.drop r = .int .u8 x.toNat :: (cs.drop r).drop 1 := by
    cases hd : cs.drop r with
    | nil => rw [hd] at h3; simp [byteCells] at h3
    | cons a bs =>
      rw [hd] at h3
      simp [byteCells] at h3
      simp [h3.1]
  refine ⟨h2.cell r ?_, cs, h1, h2, ?_⟩
  · have := congrArg (fun l => l[0]?) hc
    simpa using this
  · rw [hc] at h3
    simp [byteCells] at h3
    rw [show cs.drop (r + 1) = (cs.drop r).drop 1 by rw [List.drop_drop]]
    simpa [byteCells] using h3
theorem Row.kept {S : List Nat} {w w' : World} {G r : Nat} {l : List UInt8} (h : Row w G r l) (hk : Kept S w w') (hn : G ∉ S) : Row w' G r l := by
  obtain ⟨cs, h1, h2, h3⟩ := h
  exact ⟨cs, h1, h2.kept hk hn, h3⟩
theorem Row.far {w : World} {G r : Nat} {l : List UInt8} (h : Row w G r l) {p : Addr} (hp : G ≠ p.block) (u : Value) : Row (w.setCell p u) G r l := by
  obtain ⟨cs, h1, h2, h3⟩ := h
  exact ⟨cs, h1, h2.far hp u, h3⟩
/-- a letter read -/
def RuneOne (w : World) (R G q r wv : Nat) (x : UInt8) (t : List UInt8) (e : Ending) (w' : World) : Prop :=
  e = .returned (.tuple #[.int .i32 x.toNat, .int .i64 1, .nilIface]) ∧ Rb w' R G q (r + 1) wv .nilIface x.toNat 1 ∧ Row w' G (r + 1) t ∧ Kept [R] w w'
set_option maxRecDepth 100000 in
set_option maxHeartbeats 4000000 in
theorem rune_one (R G q r wv : Nat) (lb ls : Int) (x : UInt8) (t : List UInt8) (w : World) (hR : Rb w R G q r wv .nilIface lb ls) (hRG : R ≠ G) (hG : Row w G r (x :: t)) (hx : x.toNat < 128) (hl : r + (x :: t).length = wv) (hv : wv ≤ 4096) (hT : First w) (hTR : 7 ≠ R) :
    Calls Tryd.prog 86 #[.pointer (some ⟨R, 0, none⟩)] w (RuneOne w R G q r wv x t) := by
  have h0 : w.cell? ⟨R, 0, none⟩ = some (.slice (some ⟨G, 0, none⟩) 4096 4096) := hR.cell 0 rfl
  have h2 : w.cell? ⟨R, 2, none⟩ = some (.int .i64 (r : Int)) := hR.cell 2 rfl
  have h3 : w.cell? ⟨R, 3, none⟩ = some (.int .i64 (wv : Int)) := hR.cell 3 rfl
  have h4 : w.cell? ⟨R, 4, none⟩ = some .nilIface := hR.cell 4 rfl
  have h6 : w.cell? ⟨R, 6, none⟩ = some (.int .i64 ls) := hR.cell 6 rfl
  have f6 : w.frozen? ⟨R, 6, none⟩ = false := hR.frozen 6
  have hlt : r < wv := by simp at hl; omega
  have hsl := fun w => slice_row .i64 .i64 G r wv hlt hv w
  have hwv : wv - r = (x :: t).length := by omega
  have gr : (r : Int) < (wv : Int) := by omega
  have gv : (wv : Int) ≤ 4096 := by omega
  have cf := hid (fun (w' : World) (h : Row w' G r (x :: t)) (hT : First w') => full_ascii (G + 1) (some ⟨G, r, none⟩) (wv - r) (4096 - r) x t w' (by rw [hwv]; exact h.bytes (by omega) (by omega)) hx hT)
  have cd := hid (fun (w' : World) (h : Row w' G r (x :: t)) => decode_calls (G + 1) (some ⟨G, r, none⟩) (wv - r) (4096 - r) x t w' (by rw [hwv]; exact h.bytes (by omega) (by omega)) hx)
  have HR := hid hR
  have HG := hid hG
  have HT := hid hT
  have HD := hid (And.intro hRG hTR)
  clear hR hG hT hx hl hwv hRG hTR
  by_cases g1 : (wv : Int) < (r : Int) + 4
  · go_enter Tryd.func86, Tryd.ntmps86
    go_wp2_with fail
    refine wp_loop_rounds 1 ?_
    rw [rounds_succ]
    go_wp2_with fail
    go_quiet (first | (go_at_call 101; exact Calls.quiet_of_same (cf.out _ HG.out HT.out)))
    go_wp2_with fail
    have hra : Rb ((w.drewN nq).setCell ⟨R, 6, none⟩ (.int .i64 (-1))) R G q r wv .nilIface lb (-1) := by
      have := Blk.set_ (show Blk (w.drewN nq) R _ _ from HR.out) 6 (.int .i64 (-1))
      unfold Rb
      simpa [rdC] using this
    have hga : Row ((w.drewN nq).setCell ⟨R, 6, none⟩ (.int .i64 (-1))) G r (x :: t) := Row.far (show Row (w.drewN nq) G r _ from HG.out) (p := ⟨R, 6, none⟩) HD.out.1.symm _
    have hka : Kept [R] w ((w.drewN nq).setCell ⟨R, 6, none⟩ (.int .i64 (-1))) := ((Kept.refl [R] w).drewN nq).setCell (p := ⟨R, 6, none⟩) (.inl (by simp)) _
    generalize (w.drewN nq).setCell ⟨R, 6, none⟩ (.int .i64 (-1)) = wa at *
    have h0 : wa.cell? ⟨R, 0, none⟩ = some (.slice (some ⟨G, 0, none⟩) 4096 4096) := hra.cell 0 rfl
    have h2 : wa.cell? ⟨R, 2, none⟩ = some (.int .i64 (r : Int)) := hra.cell 2 rfl
    have h3 : wa.cell? ⟨R, 3, none⟩ = some (.int .i64 (wv : Int)) := hra.cell 3 rfl
    have f2 : wa.frozen? ⟨R, 2, none⟩ = false := hra.frozen 2
    have HRA := hid hra
    have HGA := hid hga
    have HKA := hid hka
    clear hra hga hka h4 h6 f6 HR HG
    have gne : ¬ (r : Int) = (wv : Int) := by omega
    go_quiet (fail)
    go_wp2_with fail
    have hrb : Rb (wa.drewN nq) R G q r wv .nilIface lb (-1) := HRA.out
    have hgb : Row (wa.drewN nq) G r (x :: t) := HGA.out
    have hkb : Kept [R] w (wa.drewN nq) := HKA.out.drewN nq
    generalize wa.drewN nq = wb at *
    have h0 : wb.cell? ⟨R, 0, none⟩ = some (.slice (some ⟨G, 0, none⟩) 4096 4096) := hrb.cell 0 rfl
    have h2 : wb.cell? ⟨R, 2, none⟩ = some (.int .i64 (r : Int)) := hrb.cell 2 rfl
    have h3 : wb.cell? ⟨R, 3, none⟩ = some (.int .i64 (wv : Int)) := hrb.cell 3 rfl
    have f2 : wb.frozen? ⟨R, 2, none⟩ = false := hrb.frozen 2
    have HRB := hid hrb
    have HGB := hid hgb
    have HKB := hid hkb
    clear hrb hgb hkb HRA HGA HKA
    go_quiet (first | (go_at_call 104; exact Calls.quiet_of_same (cd.out _ HGB.out)))
    go_wp2_with fail
    have hrc : Rb ((wb.drewN nq).setCell ⟨R, 2, none⟩ (.int .i64 ((r : Int) + 1))) R G q (r + 1) wv .nilIface lb (-1) := by
      have := Blk.set_ (show Blk (wb.drewN nq) R _ _ from HRB.out) 2 (.int .i64 ((r : Int) + 1))
      unfold Rb
      rw [show rdC G q (r + 1) wv .nilIface lb (-1) = (rdC G q r wv .nilIface lb (-1)).setIfInBounds 2 (.int .i64 ((r : Int) + 1)) by simp [rdC]]
      exact this
    have hgc : Row ((wb.drewN nq).setCell ⟨R, 2, none⟩ (.int .i64 ((r : Int) + 1))) G r (x :: t) := Row.far (show Row (wb.drewN nq) G r _ from HGB.out) (p := ⟨R, 2, none⟩) HD.out.1.symm _
    have hkc : Kept [R] w ((wb.drewN nq).setCell ⟨R, 2, none⟩ (.int .i64 ((r : Int) + 1))) := (HKB.out.drewN nq).setCell (p := ⟨R, 2, none⟩) (.inl (by simp)) _
    generalize (wb.drewN nq).setCell ⟨R, 2, none⟩ (.int .i64 ((r : Int) + 1)) = wc at *
    have h0 : wc.cell? ⟨R, 0, none⟩ = some (.slice (some ⟨G, 0, none⟩) 4096 4096) := hrc.cell 0 rfl
    have h2 : wc.cell? ⟨R, 2, none⟩ = some (.int .i64 ((r : Int) + 1)) := by have := hrc.cell 2 (v := .int .i64 ((r + 1 : Nat) : Int)) rfl; simpa using this
    have h5 : wc.cell? ⟨R, 5, none⟩ = some (.int .i64 lb) := hrc.cell 5 rfl
    have h6 : wc.cell? ⟨R, 6, none⟩ = some (.int .i64 (-1)) := hrc.cell 6 rfl
    have f5 : wc.frozen? ⟨R, 5, none⟩ = false := hrc.frozen 5
    have f6 : wc.frozen? ⟨R, 6, none⟩ = false := hrc.frozen 6
    have hb0 := hgc.head.1
    have HRC := hid hrc
    have HGC := hid hgc.head.2
    have HKC := hid hkc
    have ex : IntKind.i64.wrap (x.toNat : Int) = x.toNat := by rw [IntWalk.i64_in _ (by have := x.toNat_lt; omega)]
    clear hrc hgc hkc HRB HGB HKB f2 h3
    go_region
    all_goals
      go_wp2_with fail
      refine bodyPost_ret (by simp [results, Tryd.results86, go_sem]; rfl) rfl ?_
      refine ⟨rfl, ?_, ?_, ?_⟩
      · have := (HRC.out.set_ 5 (.int .i64 x.toNat)).set_ 6 (.int .i64 1)
        unfold Rb
        refine Blk.drew ?_
        simpa [rdC] using this
      · exact (HGC.out.far (p := ⟨R, 5, none⟩) HD.out.1.symm _).far (p := ⟨R, 6, none⟩) HD.out.1.symm _
      · exact ((HKC.out.setCell (p := ⟨R, 5, none⟩) (.inl (by simp)) _).setCell (p := ⟨R, 6, none⟩) (.inl (by simp)) _).drew
  · have g2 : decide ((wv : Int) < (r : Int) + 4) = false := decide_eq_false g1
    clear g1
    go_enter Tryd.func86, Tryd.ntmps86
    go_wp2_with fail
    refine wp_loop_rounds 1 ?_
    rw [rounds_succ]
    go_wp2_with fail
    go_quiet (fail)
    go_wp2_with fail
    have hra : Rb ((w.drewN nq).setCell ⟨R, 6, none⟩ (.int .i64 (-1))) R G q r wv .nilIface lb (-1) := by
      have := Blk.set_ (show Blk (w.drewN nq) R _ _ from HR.out) 6 (.int .i64 (-1))
      unfold Rb
      simpa [rdC] using this
    have hga : Row ((w.drewN nq).setCell ⟨R, 6, none⟩ (.int .i64 (-1))) G r (x :: t) := Row.far (show Row (w.drewN nq) G r _ from HG.out) (p := ⟨R, 6, none⟩) HD.out.1.symm _
    have hka : Kept [R] w ((w.drewN nq).setCell ⟨R, 6, none⟩ (.int .i64 (-1))) := ((Kept.refl [R] w).drewN nq).setCell (p := ⟨R, 6, none⟩) (.inl (by simp)) _
    generalize (w.drewN nq).setCell ⟨R, 6, none⟩ (.int .i64 (-1)) = wa at *
    have h0 : wa.cell? ⟨R, 0, none⟩ = some (.slice (some ⟨G, 0, none⟩) 4096 4096) := hra.cell 0 rfl
    have h2 : wa.cell? ⟨R, 2, none⟩ = some (.int .i64 (r : Int)) := hra.cell 2 rfl
    have h3 : wa.cell? ⟨R, 3, none⟩ = some (.int .i64 (wv : Int)) := hra.cell 3 rfl
    have f2 : wa.frozen? ⟨R, 2, none⟩ = false := hra.frozen 2
    have HRA := hid hra
    have HGA := hid hga
    have HKA := hid hka
    clear hra hga hka h4 h6 f6 HR HG
    have gne : ¬ (r : Int) = (wv : Int) := by omega
    go_quiet (fail)
    go_wp2_with fail
    have hrb : Rb (wa.drewN nq) R G q r wv .nilIface lb (-1) := HRA.out
    have hgb : Row (wa.drewN nq) G r (x :: t) := HGA.out
    have hkb : Kept [R] w (wa.drewN nq) := HKA.out.drewN nq
    generalize wa.drewN nq = wb at *
    have h0 : wb.cell? ⟨R, 0, none⟩ = some (.slice (some ⟨G, 0, none⟩) 4096 4096) := hrb.cell 0 rfl
    have h2 : wb.cell? ⟨R, 2, none⟩ = some (.int .i64 (r : Int)) := hrb.cell 2 rfl
    have h3 : wb.cell? ⟨R, 3, none⟩ = some (.int .i64 (wv : Int)) := hrb.cell 3 rfl
    have f2 : wb.frozen? ⟨R, 2, none⟩ = false := hrb.frozen 2
    have HRB := hid hrb
    have HGB := hid hgb
    have HKB := hid hkb
    clear hrb hgb hkb HRA HGA HKA
    go_quiet (first | (go_at_call 104; exact Calls.quiet_of_same (cd.out _ HGB.out)))
    go_wp2_with fail
    have hrc : Rb ((wb.drewN nq).setCell ⟨R, 2, none⟩ (.int .i64 ((r : Int) + 1))) R G q (r + 1) wv .nilIface lb (-1) := by
      have := Blk.set_ (show Blk (wb.drewN nq) R _ _ from HRB.out) 2 (.int .i64 ((r : Int) + 1))
      unfold Rb
      rw [show rdC G q (r + 1) wv .nilIface lb (-1) = (rdC G q r wv .nilIface lb (-1)).setIfInBounds 2 (.int .i64 ((r : Int) + 1)) by simp [rdC]]
      exact this
    have hgc : Row ((wb.drewN nq).setCell ⟨R, 2, none⟩ (.int .i64 ((r : Int) + 1))) G r (x :: t) := Row.far (show Row (wb.drewN nq) G r _ from HGB.out) (p := ⟨R, 2, none⟩) HD.out.1.symm _
    have hkc : Kept [R] w ((wb.drewN nq).setCell ⟨R, 2, none⟩ (.int .i64 ((r : Int) + 1))) := (HKB.out.drewN nq).setCell (p := ⟨R, 2, none⟩) (.inl (by simp)) _
    generalize (wb.drewN nq).setCell ⟨R, 2, none⟩ (.int .i64 ((r : Int) + 1)) = wc at *
    have h0 : wc.cell? ⟨R, 0, none⟩ = some (.slice (some ⟨G, 0, none⟩) 4096 4096) := hrc.cell 0 rfl
    have h2 : wc.cell? ⟨R, 2, none⟩ = some (.int .i64 ((r : Int) + 1)) := by have := hrc.cell 2 (v := .int .i64 ((r + 1 : Nat) : Int)) rfl; simpa using this
    have h5 : wc.cell? ⟨R, 5, none⟩ = some (.int .i64 lb) := hrc.cell 5 rfl
    have h6 : wc.cell? ⟨R, 6, none⟩ = some (.int .i64 (-1)) := hrc.cell 6 rfl
    have f5 : wc.frozen? ⟨R, 5, none⟩ = false := hrc.frozen 5
    have f6 : wc.frozen? ⟨R, 6, none⟩ = false := hrc.frozen 6
    have hb0 := hgc.head.1
    have HRC := hid hrc
    have HGC := hid hgc.head.2
    have HKC := hid hkc
    have ex : IntKind.i64.wrap (x.toNat : Int) = x.toNat := by rw [IntWalk.i64_in _ (by have := x.toNat_lt; omega)]
    clear hrc hgc hkc HRB HGB HKB f2 h3
    go_region
    all_goals
      go_wp2_with fail
      refine bodyPost_ret (by simp [results, Tryd.results86, go_sem]; rfl) rfl ?_
      refine ⟨rfl, ?_, ?_, ?_⟩
      · have := (HRC.out.set_ 5 (.int .i64 x.toNat)).set_ 6 (.int .i64 1)
        unfold Rb
        refine Blk.drew ?_
        simpa [rdC] using this
      · exact (HGC.out.far (p := ⟨R, 5, none⟩) HD.out.1.symm _).far (p := ⟨R, 6, none⟩) HD.out.1.symm _
      · exact ((HKC.out.setCell (p := ⟨R, 5, none⟩) (.inl (by simp)) _).setCell (p := ⟨R, 6, none⟩) (.inl (by simp)) _).drew
end Go.Proofs.YtojimnlnpghbiaaDoor.rev
