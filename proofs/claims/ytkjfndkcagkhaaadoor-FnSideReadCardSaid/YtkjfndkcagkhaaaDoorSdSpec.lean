/- Chunks: what a row's argument holds; zzFits40, zzFits41, sideGood. -/
import Derived.Test.YtkjfndkcagkhaaaDoorSdDmx
import Derived.Test.YtkjfndkcagkhaaaDoorOpen
import Derived.Deep.MidRow
import Derived.Laws.Tables
import Derived.Laws.Rows
set_option linter.unusedVariables false
attribute [local go_sem ↓] Go.wp_at_zero Go.wp_at_succ
namespace Go.Proofs.YtkjfndkcagkhaaaDoor.side
open Go.RowKit Lib frm mem text pkt rd opn

structure ChD where
  ch : Int
  tv : Value
  t : List UInt8
instance : Inhabited ChD := ⟨⟨0, .nilIface, []⟩⟩
def ChD.cells (x : ChD) : List Value := [.int .i64 x.ch, x.tv]
theorem ChD.len (x : ChD) : x.cells.length = 2 := rfl
abbrev Cty : TypeId := 73
/-- a slice of chunks -/
def ChSl (w : World) (B : Nat) (A : Option Addr) (n : Nat) (xs : List ChD) : Prop := Structs ChD.cells 2 w B A n xs ∧ ∀ x ∈ xs, ∃ A c, x.tv = .slice A x.t.length c ∧ x.t.length ≤ c ∧ Bytes w B A x.t.length x.t
theorem ChSl.below {w w' : World} {B n : Nat} {A : Option Addr} {xs : List ChD} (h : ChSl w B A n xs) (hb : Below B w w') : ChSl w' B A n xs :=
  ⟨h.1.below hb, fun x hx => by obtain ⟨A, c, e, hc, hb'⟩ := h.2 x hx; exact ⟨A, c, e, hc, hb'.below hb⟩⟩
theorem infoC : (Tryd.prog.info? Cty).map (·.size) = some 2 := by kernel_rfl
theorem ch_sz (x : ChD) : (Tryd.prog.info? Cty).map (·.size) = some x.cells.toArray.size := by rw [infoC]; rfl
theorem ch_all (x : ChD) (h : x.tv.oneCell' = true) : x.cells.toArray.all (·.oneCell') = true := Array.all_eq_true_iff_forall_mem.2 (by intro v hv; simp only [ChD.cells, List.mem_toArray, List.mem_cons, List.not_mem_nil, or_false] at hv; rcases hv with rfl | rfl; rfl; exact h)
theorem ChSl.at_ {w w' : World} {B n : Nat} {A : Option Addr} {xs : List ChD} (h : ChSl w B A n xs) (hb : Below B w w') {k : Nat} (hk : k < n) :
    ∃ g o x D d, A = some ⟨g, o, none⟩ ∧ xs[k]? = some x ∧ x ∈ xs ∧ w'.rangeAt g (o + k * 2) x.cells ∧ x.tv = .slice D x.t.length d ∧ x.t.length ≤ d ∧ Bytes w' B D x.t.length x.t := by
  obtain ⟨g, o, x, h1, h2, h3, h4, h5⟩ := (h.below hb).1.at_ (fun x _ => x.len) hk
  obtain ⟨D, d, e, hd, hb'⟩ := (h.below hb).2 x h4
  exact ⟨g, o, x, D, d, h1, h3, h4, fun i u hu => by rw [Nat.add_assoc]; exact h5 i u hu, e, hd, hb'⟩
theorem wpList_store_kept {P : Program} {ops : Array Oper} {rest : List Oper} {o : Oper} {a : Act} {w : World} {Q : Exit → Act → World → Prop} (hgd : o.guard = none) (ty : TypeId) (x y : Operand) (ho : o.op = .store ty x y)
    (g : Nat) (cells : Array Value) (hx : a.eval x = .pointer (some ⟨g, 0, none⟩)) (hy : a.eval y = .agg cells)
    (t : TypeId) (old : Array Value) (hg : w.heap[g]? = some (.cells old t (0, 0))) (hi : (P.info? ty).map (·.size) = some cells.size)
    (hold : old.size = cells.size) (h1 : cells.all (·.oneCell') = true)
    (h : ∀ w', Hid (Blk w' g t cells) → Hid (Kept [g] w w') → Hid (w'.heap.size = w.heap.size) → wpList P ops Q rest (a.put o.dst undef) w') : wpList P ops Q (o :: rest) a w :=
  wpList_store_row hgd ty x y ho g cells hx hy t old hg hi hold h1 (h _ (hid (setRow_heap w g _ _ t _ hg)) (hid (kept_setRow _)) (hid (by simp [World.setRow])))
theorem blk_range {w : World} {g : Nat} {t : TypeId} {cs : List Value} (h : Blk w g t cs.toArray) : w.rangeAt g 0 cs := fun i u hu => by rw [Nat.zero_add]; exact h.cell i (by simpa using hu)
/-- a test's answer, and what it tells -/
def Says (w : World) (F : Bool → Prop) (e : Ending) (w' : World) : Prop := Below w.heap.size w w' ∧ ∃ b, e = .returned (.bool b) ∧ F b
def Any (_ : Bool) : Prop := True
def payOf (x : ChD) : List UInt8 := (if x.ch = 1 then 1 else 2) :: x.t
structure ChOk (x : ChD) : Prop where
  c : x.ch = 1 ∨ x.ch = 2
  n : x.t ≠ []
  l : x.t.length ≤ 60000
def ChsOk (xs : List ChD) (b : Bool) : Prop := b = true → xs.length ≤ 60 ∧ ∀ x ∈ xs, ChOk x
end Go.Proofs.YtkjfndkcagkhaaaDoor.side
