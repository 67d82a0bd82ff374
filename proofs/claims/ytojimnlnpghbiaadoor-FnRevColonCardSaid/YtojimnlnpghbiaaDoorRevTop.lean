/- The rows of the laws of revisions walked, out of their arguments and of what they list. -/
import Derived.Test.YtojimnlnpghbiaaDoorRevWays
import Derived.Test.YtojimnlnpghbiaaDoorSent
import Derived.Test.YtojimnlnpghbiaaDoorRows
set_option linter.unusedVariables false
namespace Go.Proofs.YtojimnlnpghbiaaDoor.rev
open Go.RowKit Lib frm mem rd Go.WideShapes Go.ChangeShapes Go.ChangeAt

theorem cell_lt {w : World} {b i : Nat} {v : Value} (h : w.cell? ⟨b, i, none⟩ = some v) : b < w.heap.size := by
  unfold World.cell? at h
  split at h
  · rename_i c t f hb
    exact Lib.lt_of_heap hb
  · cases h
theorem lits_numbers (k : IntKind) (l : List Nat) : Pinned.numbers k l = lits k (l.map fun (n : Nat) => (n : Int)) := by
  simp [Pinned.numbers, lits]
set_option maxRecDepth 100000 in
theorem first_all : ∀ k : Nat, k < 128 → (Pinned.utf8FirstZ.map fun (n : Nat) => (n : Int)).getD k 0 = 240 := by
  have h : ∀ k : Fin 128, (Pinned.utf8FirstZ.map fun (n : Nat) => (n : Int)).getD k.val 0 = 240 := by decide +kernel
  exact fun k hk => h ⟨k, hk⟩
set_option maxRecDepth 100000 in
theorem start_of {W : World} {r6 r9 r14 : List (String × DataW Unit)} (h6 : laidMet Tryd.prog (("io.EOF", Rows.laid_io_EOF) :: r6) W) (h9 : laidMet Tryd.prog (("unicode.properties", Rows.laid_unicode_properties) :: r9) W) (h14 : laidMet Tryd.prog (("unicode/utf8.first", Rows.laid_unicode_utf8_first) :: r14) W) : ∃ pv, Start W pv := by
  obtain ⟨pv, e1, _, _⟩ := laid.sent (g := 0) (by kernel_rfl) (by kernel_rfl) h6
  have hp : TabIs Tryd.prog W "unicode.properties" .u8 propertiesTab :=
    tabIs_of_head (zs := propertiesTab) (g := 9) (t := 95) (e := 5) (n := 256) (by kernel_rfl) (by kernel_rfl) (by kernel_rfl) (by kernel_rfl) (by kernel_rfl) (by kernel_rfl) h9
  have hf : TabIs Tryd.prog W "unicode/utf8.first" .u8 (Pinned.utf8FirstZ.map fun (n : Nat) => (n : Int)) := by
    have h14' : laidMet Tryd.prog (("unicode/utf8.first", .agg (Pinned.numbers .u8 Pinned.utf8FirstZ)) :: r14) W := h14
    rw [lits_numbers] at h14'
    exact tabIs_of_head (g := 7) (t := 95) (e := 5) (n := 256) (by kernel_rfl) (by kernel_rfl) (by kernel_rfl) (by kernel_rfl) (by kernel_rfl) (by kernel_rfl) h14'
  have hfl : (Pinned.utf8FirstZ.map fun (n : Nat) => (n : Int)).length = 256 := by decide +kernel
  have cf : ∀ k : Nat, k < 128 → W.cell? ⟨7, k, none⟩ = some (.int .u8 240) := fun k hk => by
    have := hf.cell (g := 7) (by kernel_rfl) k (by rw [hfl]; omega)
    rw [first_all k hk] at this
    exact this
  have cp : ∀ k : Nat, k < 256 → W.cell? ⟨9, k, none⟩ = some (.int .u8 (propertiesTab.getD k 0)) := fun k hk =>
    hp.cell (g := 9) (by kernel_rfl) k (by rw [propertiesTab_length]; exact hk)
  exact ⟨pv, ⟨cf, cell_lt (cf 0 (by omega)), e1, cell_lt e1, cell_lt (cp 0 (by omega)), fun x hx => cp x.toNat (by omega)⟩⟩
theorem start_row {laid : List (String × DataW Unit)} {W : World} (hL : laidMetH Tryd.prog laid W) (he : laid = Rows.fnRevNameRow.laid) : ∃ pv, Start W pv := by
  subst he
  have hl := laid.plainLaid hL (by kernel_rfl)
  have h6 := laid.laid_tail (laid.laid_tail (laid.laid_tail (laid.laid_tail (laid.laid_tail (laid.laid_tail hl)))))
  have h9 := laid.laid_tail (laid.laid_tail (laid.laid_tail h6))
  exact start_of h6 h9 (laid.laid_tail (laid.laid_tail (laid.laid_tail (laid.laid_tail (laid.laid_tail h9)))))
theorem yes_row {w w' : World} {e : Ending} (h : Yes w e w') : e = .returned (.bool true) ∧ Below w.heap.size w w' := ⟨h.1, h.2.nil_below⟩
theorem name_row (W : World) (a0 : ByteArray) (w0 : a0.size ≤ 140737488351232) (hL : laidMetH Tryd.prog Rows.fnRevNameRow.laid W) (hsh : W.ShapedOpen Tryd.prog) :
    Calls Tryd.prog 6 #[.string a0] W fun e w' => e = .returned (.bool true) ∧ Below W.heap.size W w' := by
  obtain ⟨pv, hs⟩ := start_row hL rfl
  exact (name_law a0 W pv hs w0).mono fun _ _ h => yes_row h
theorem parents_row (W : World) (a0 : ByteArray) (w0 : a0.size ≤ 140737488351232) (a1 : Int) (w1 : (Lit.int .i64 a1).wf = true) (hL : laidMetH Tryd.prog Rows.fnRevParentsRow.laid W) (hsh : W.ShapedOpen Tryd.prog) :
    Calls Tryd.prog 7 #[.string a0, .int .i64 a1] W fun e w' => e = .returned (.bool true) ∧ Below W.heap.size W w' := by
  obtain ⟨pv, hs⟩ := start_row hL rfl
  exact (parents_law a0 a1 W pv hs w0).mono fun _ _ h => yes_row h
theorem reflog_row (W : World) (a0 : ByteArray) (w0 : a0.size ≤ 140737488351232) (a1 : Int) (w1 : (Lit.int .i64 a1).wf = true) (hL : laidMetH Tryd.prog Rows.fnRevReflogRow.laid W) (hsh : W.ShapedOpen Tryd.prog) :
    Calls Tryd.prog 8 #[.string a0, .int .i64 a1] W fun e w' => e = .returned (.bool true) ∧ Below W.heap.size W w' := by
  obtain ⟨pv, hs⟩ := start_row hL rfl
  exact (reflog_law a0 a1 W pv hs w0).mono fun _ _ h => yes_row h
theorem colon_row (W : World) (a0 : ByteArray) (w0 : a0.size ≤ 140737488351232) (a1 : ByteArray) (w1 : a1.size ≤ 140737488351232) (a2 : Int) (w2 : (Lit.int .i64 a2).wf = true) (hL : laidMetH Tryd.prog Rows.fnRevColonRow.laid W) (hsh : W.ShapedOpen Tryd.prog) :
    Calls Tryd.prog 5 #[.string a0, .string a1, .int .i64 a2] W fun e w' => e = .returned (.bool true) ∧ Below W.heap.size W w' := by
  obtain ⟨pv, hs⟩ := start_row hL rfl
  exact (colon_law a0 a1 a2 W pv hs w0 w1).mono fun _ _ h => yes_row h
end Go.Proofs.YtojimnlnpghbiaaDoor.rev
