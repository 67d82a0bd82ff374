/- Configurations: what zzFits1 and its kin, IsConfWord, IsValue and areOptions say. Printed by gen_cfspec.py. -/
import Derived.Test.YtmhcbgmnhcfhfaaDoorCfData
import Derived.Test.YtmhcbgmnhcfhfaaDoorFrame
import Derived.Test.YtmhcbgmnhcfhfaaDoorStrs
import Derived.Deep.MidRow
import Derived.Laws.Tables
import Derived.Laws.Rows
import Derived.WalkKit
import Derived.Outline
set_option linter.unusedVariables false
namespace Go.Proofs.YtmhcbgmnhcfhfaaDoor.cf
open Go.RowKit Lib mem opn frm strs

/-- the answer, and what it tells -/
def Told (w : World) (F : Bool → Prop) (e : Ending) (w' : World) : Prop := Kept [] w w' ∧ ∃ b, e = .returned (.bool b) ∧ F b
def Any (_ : Bool) : Prop := True
abbrev Oty : TypeId := 108
abbrev Uty : TypeId := 36
abbrev Sty : TypeId := 34
theorem infoO : (Tryd.prog.info? Oty).map (·.size) = some 2 := by kernel_rfl
theorem infoU : (Tryd.prog.info? Uty).map (·.size) = some 2 := by kernel_rfl
theorem infoS : (Tryd.prog.info? Sty).map (·.size) = some 3 := by kernel_rfl
theorem all_of {cs : List Value} (h : ∀ v ∈ cs, v.oneCell' = true) : cs.toArray.all (·.oneCell') = true := Array.all_eq_true_iff_forall_mem.2 (fun v hv => h v (by simpa using hv))
theorem slice_one {A : Option Addr} {n c : Nat} : (Value.slice A n c).oneCell' = true := rfl
theorem OptSl.one {w : World} {B : Nat} {v : Value} {os : List OptD} (h : OptSl w B v os) : v.oneCell' = true := by obtain ⟨A, c, rfl, _⟩ := h; rfl
theorem SubSl.one {w : World} {B : Nat} {v : Value} {os : List SubD} (h : SubSl w B v os) : v.oneCell' = true := by obtain ⟨A, c, rfl, _⟩ := h; rfl
theorem opt_all (x : OptD) : x.cells.toArray.all (·.oneCell') = true := all_of (by intro v hv; simp only [OptD.cells, List.mem_cons, List.not_mem_nil, or_false] at hv; rcases hv with rfl | rfl <;> rfl)
theorem sub_all (x : SubD) (h : x.ov.oneCell' = true) : x.cells.toArray.all (·.oneCell') = true := all_of (by intro v hv; simp only [SubD.cells, List.mem_cons, List.not_mem_nil, or_false] at hv; rcases hv with rfl | rfl; rfl; exact h)
theorem sec_all (x : SecD) (h : x.ov.oneCell' = true) (h' : x.sv.oneCell' = true) : x.cells.toArray.all (·.oneCell') = true := all_of (by intro v hv; simp only [SecD.cells, List.mem_cons, List.not_mem_nil, or_false] at hv; rcases hv with rfl | rfl | rfl; rfl; exact h; exact h')
theorem opt_sz (x : OptD) : (Tryd.prog.info? Oty).map (·.size) = some x.cells.toArray.size := by rw [infoO]; rfl
theorem sub_sz (x : SubD) : (Tryd.prog.info? Uty).map (·.size) = some x.cells.toArray.size := by rw [infoU]; rfl
theorem sec_sz (x : SecD) : (Tryd.prog.info? Sty).map (·.size) = some x.cells.toArray.size := by rw [infoS]; rfl
/-- an element's cells in a world that keeps them -/
theorem at_kept {α : Type} {f : α → List Value} {size : Nat} {w w' : World} {B : Nat} {A : Option Addr} {n : Nat} {xs : List α} (h : Structs f size w B A n xs) (hs : ∀ x, (f x).length = size) (hk : Kept [] w w') (hB : B ≤ w.heap.size) {k : Nat} (hkn : k < n) :
    ∃ g o x, A = some ⟨g, o, none⟩ ∧ g < w.heap.size ∧ xs[k]? = some x ∧ x ∈ xs ∧ w'.rangeAt g (o + k * size) (f x) := by
  obtain ⟨g, o, x, h1, h2, h3, h4, h5⟩ := Structs.at_ h (fun x _ => hs x) hkn
  exact ⟨g, o, x, h1, by omega, h3, h4, fun i u hu => (hk.cell (p := ⟨g, o + k * size + i, none⟩) (by show g < _; omega) (by simp)).trans (by rw [Nat.add_assoc]; exact h5 i u hu)⟩
theorem wpList_store_kept {P : Program} {ops : Array Oper} {rest : List Oper} {o : Oper} {a : Act} {w : World} {Q : Exit → Act → World → Prop} (hgd : o.guard = none) (ty : TypeId) (x y : Operand) (ho : o.op = .store ty x y)
    (g : Nat) (cells : Array Value) (hx : a.eval x = .pointer (some ⟨g, 0, none⟩)) (hy : a.eval y = .agg cells)
    (t : TypeId) (old : Array Value) (hg : w.heap[g]? = some (.cells old t (0, 0))) (hi : (P.info? ty).map (·.size) = some cells.size)
    (hold : old.size = cells.size) (h1 : cells.all (·.oneCell') = true)
    (h : ∀ w', Hid (Blk w' g t cells) → Hid (Kept [g] w w') → Hid (w'.heap.size = w.heap.size) → wpList P ops Q rest (a.put o.dst undef) w') : wpList P ops Q (o :: rest) a w :=
  wpList_store_row hgd ty x y ho g cells hx hy t old hg hi hold h1 (h _ (hid (setRow_heap w g _ _ t _ hg)) (hid (kept_setRow _)) (hid (by simp [World.setRow])))
theorem blk_range {w : World} {g : Nat} {t : TypeId} {cs : List Value} (h : Blk w g t cs.toArray) : w.rangeAt g 0 cs := fun i u hu => by rw [Nat.zero_add]; exact h.cell i (by simpa using hu)

attribute [local go_sem] OptD.cells SubD.cells SecD.cells
/-- few enough of everything -/
structure Few (s : SecD) : Prop where
  o : s.opts.length ≤ 4294967295
  u : s.subs.length ≤ 4294967295
  p : ∀ x ∈ s.subs, x.opts.length ≤ 4294967295
end Go.Proofs.YtmhcbgmnhcfhfaaDoor.cf
