/- Frames: all but some blocks stay as they were; copy into a block that is known whole. Of any program. -/
import Derived.Test.YtdbkafpflicdiaaDoorProg
import Derived.Below
import Derived.Laws.OwnMore
import Derived.Laws.CopyOwn
import Derived.Laws.Rows
import Derived.Deep.Draws
import Derived.OwnWalk
import Derived.Lib.Buffer
set_option linter.unusedVariables false
namespace Go.Proofs.YtdbkafpflicdiaaDoor.frm
open Go.RowKit

/-- all old blocks but those of S are as they were -/
structure Kept (S : List Nat) (w w' : World) : Prop where
  os : w'.os = w.os
  tape : w'.tape = w.tape
  output : w'.output = w.output
  size : w.heap.size ≤ w'.heap.size
  block : ∀ k, k < w.heap.size → k ∉ S → w'.heap[k]? = w.heap[k]?
section
variable {S T : List Nat} {w a b c : World}
theorem Kept.refl (S : List Nat) (w : World) : Kept S w w := ⟨rfl, rfl, rfl, Nat.le_refl _, fun _ _ _ => rfl⟩
/-- what is written behind may be new -/
theorem Kept.trans (h : Kept S a b) (k : Kept T b c) (hT : ∀ x ∈ T, x ∈ S ∨ a.heap.size ≤ x) : Kept S a c :=
  ⟨k.os.trans h.os, k.tape.trans h.tape, k.output.trans h.output, Nat.le_trans h.size k.size, fun i hi hn =>
    (k.block i (Nat.lt_of_lt_of_le hi h.size) (fun hm => by rcases hT i hm with h1 | h1; exact hn h1; omega)).trans (h.block i hi hn)⟩
theorem Kept.trans_ (h : Kept S a b) (k : Kept S b c) : Kept S a c := h.trans k fun _ hx => .inl hx
theorem Kept.more (h : Kept S a b) (hT : ∀ x ∈ S, x ∈ T ∨ a.heap.size ≤ x) : Kept T a b :=
  ⟨h.os, h.tape, h.output, h.size, fun i hi hn => h.block i hi (fun hm => by rcases hT i hm with h1 | h1; exact hn h1; omega)⟩
theorem Kept.of_below (h : Below a.heap.size a b) : Kept S a b := ⟨h.os, h.tape, h.output, h.size, fun i hi _ => h.block i hi⟩
theorem Kept.below {B : Nat} (h : Kept S a b) (hB : B ≤ a.heap.size) (hS : ∀ x ∈ S, B ≤ x) : Below B a b :=
  ⟨h.os, h.tape, h.output, h.size, fun i hi => h.block i (by omega) (fun hm => by have := hS i hm; omega)⟩
theorem Kept.nil_below (h : Kept [] a b) : Below a.heap.size a b := h.below (Nat.le_refl _) (by simp)
theorem Kept.of_grown {g : Nat} (h : a.grownBy b (some g)) : Kept [g] a b := ⟨h.os, h.tape, h.output, h.size, fun i hi hn => h.block i hi (by simpa using hn)⟩
theorem Kept.of_grown_none (h : a.grownBy b none) : Kept S a b := ⟨h.os, h.tape, h.output, h.size, fun i hi hn => h.block i hi (by simp)⟩
/-- an append's frame: the row's block, or none -/
theorem Kept.of_grown_own {r : Option Nat} (h : a.grownBy b r) (hr : ∀ g, r = some g → g ∈ S ∨ a.heap.size ≤ g) : Kept S a b :=
  ⟨h.os, h.tape, h.output, h.size, fun i hi hn => h.block i hi (fun e => by rcases hr i e.symm with h1 | h1; exact hn h1; omega)⟩
theorem Kept.alloc (h : Kept S a b) (o : Obj) : Kept S a (b.alloc o) := h.trans (T := []) (.of_below ((Below.refl _ _).alloc (Nat.le_refl _) o)) (by simp)
theorem Kept.drew (h : Kept S a b) : Kept S a b.drew := ⟨h.os, h.tape, h.output, h.size, h.block⟩
theorem Kept.drewN (h : Kept S a b) (n : Nat) : Kept S a (b.drewN n) := ⟨h.os, h.tape, h.output, h.size, h.block⟩
theorem Kept.setCell (h : Kept S a b) {p : Addr} (hp : p.block ∈ S ∨ a.heap.size ≤ p.block) (u : Value) : Kept S a (b.setCell p u) :=
  h.trans (T := [p.block]) ⟨rfl, rfl, rfl, by simp [World.setCell], fun k hk hn => Below.heap_setCell _ _ _ _ (by simpa using hn)⟩ (by simpa using hp)
theorem Kept.heap (h : Kept S a b) {k : Nat} {o : Obj} (hk : a.heap[k]? = some o) (hn : k ∉ S) : b.heap[k]? = some o := (h.block k (Lib.lt_of_heap hk) hn).trans hk
theorem Kept.cell (h : Kept S a b) {p : Addr} (hk : p.block < a.heap.size) (hn : p.block ∉ S) : b.cell? p = a.cell? p := by
  unfold World.cell?; rw [h.block _ hk hn]
theorem Kept.frozen (h : Kept S a b) {p : Addr} (hk : p.block < a.heap.size) (hn : p.block ∉ S) : b.frozen? p = a.frozen? p := by
  unfold World.frozen?; rw [h.block _ hk hn]
end
/-- block g holds just these cells, none of them frozen -/
def Blk (w : World) (g : Nat) (t : TypeId) (cs : Array Value) : Prop := w.heap[g]? = some (.cells cs t (0, 0))
section
variable {w w' : World} {g : Nat} {t : TypeId} {cs : Array Value}
theorem Blk.lt (h : Blk w g t cs) : g < w.heap.size := Lib.lt_of_heap h
theorem Blk.cell (h : Blk w g t cs) (i : Nat) {v : Value} (hv : cs[i]? = some v) : w.cell? ⟨g, i, none⟩ = some v := by
  rw [← hv]; exact Lib.cell_of_heap h i
theorem Blk.frozen (h : Blk w g t cs) (i : Nat) : w.frozen? ⟨g, i, none⟩ = false := Lib.frozen_of_heap h i
theorem Blk.new (w : World) (t : TypeId) (cs : Array Value) : Blk (w.alloc (.cells cs t)) w.heap.size t cs := heap_alloc_new w _
theorem Blk.alloc (h : Blk w g t cs) (o : Obj) : Blk (w.alloc o) g t cs := (Below.heap_alloc w o g h.lt).trans h
theorem Blk.drew (h : Blk w g t cs) : Blk w.drew g t cs := h
theorem Blk.set_ (h : Blk w g t cs) (i : Nat) (u : Value) : Blk (w.setCell ⟨g, i, none⟩ u) g t (cs.setIfInBounds i u) := by
  unfold Blk at h ⊢
  simp [World.setCell, Array.getElem?_modify, h]
theorem Blk.far (h : Blk w g t cs) {p : Addr} (hp : g ≠ p.block) (u : Value) : Blk (w.setCell p u) g t cs := (Below.heap_setCell w p u g hp).trans h
theorem Blk.kept {S : List Nat} (h : Blk w g t cs) (hk : Kept S w w') (hn : g ∉ S) : Blk w' g t cs := hk.heap h hn
theorem Blk.below {B : Nat} (h : Blk w g t cs) (hb : Below B w w') (hg : g < B) : Blk w' g t cs := (hb.block g hg).trans h
theorem Blk.ne_ {g' : Nat} {t' : TypeId} {cs' : Array Value} (h : Blk w g t cs) (h' : Blk w g' t' cs') (hne : t ≠ t') : g ≠ g' := by
  rintro rfl
  unfold Blk at h h'
  rw [h] at h'
  injection h' with h'
  injection h' with _ ht
  exact hne ht
end

theorem kept_setRow {w : World} {g : Nat} (cs : Array Value) : Kept [g] w (w.setRow g cs) :=
  ⟨rfl, rfl, rfl, by simp [World.setRow], fun k hk hn => setRow_other w g k cs (by simpa using hn)⟩
/-- copy into a block that is known whole, said up to that block alone -/
theorem wpList_copy_kept {P : Program} {w : World} {ops : Array Oper} {rest : List Oper} {o : Oper} {a : Act} {Q : Exit → Act → World → Prop} (hgd : o.guard = none) (d s : Operand) (dT sT : TypeId)
    (ho : o.op = .call { callee := .builtin .copy, args := #[d, s], argTypes := #[dT, sT] }) (elem : TypeId) (hu : P.underlying dT = some (.slice elem)) (hsz : (P.info? elem).map (·.size) = some 1)
    (dp sp : Option Addr) (dLen dCap sLen sCap : Nat) (hd : a.eval d = .slice dp dLen dCap) (hs : a.eval s = .slice sp sLen sCap)
    (g off : Nat) (cur : List Value) (t : TypeId) (hg : w.heap[g]? = some (.cells cur.toArray t (0, 0))) (cs : List Value) (hn : cs.length = Nat.min sLen dLen)
    (hpos : 0 < cs.length → dp = some ⟨g, off, none⟩ ∧ ∃ ad, sp = some ad ∧ ∀ j v, cs[j]? = some v → w.cell? (ad.add j) = some v)
    (hfit : off + cs.length ≤ cur.length) (h1 : ∀ v ∈ cs, v.oneCell' = true)
    (h : ∀ w', Hid (w'.heap[g]? = some (.cells (splice cur off cs).toArray t (0, 0))) → Hid (Kept [g] w w') → Hid (w'.heap.size = w.heap.size) → wpList P ops Q rest (a.put o.dst (goInt cs.length)) w') :
    wpList P ops Q (o :: rest) a w := by
  by_cases h0 : cs.length = 0
  · obtain rfl : cs = [] := List.eq_nil_of_length_eq_zero h0
    refine wpList_copy_nothing hgd d s dT sT ho elem hu hsz dp sp dLen dCap sLen sCap hd hs (by simpa using hn.symm) ?_
    exact h w (show _ = _ by simpa [splice] using hg) (show Kept _ _ _ from .refl _ _) (show _ = _ from rfl)
  · obtain ⟨rfl, ad, rfl, hsrc⟩ := hpos (by omega)
    refine wpList_copy_own hgd d s dT sT ho elem hu hsz g off dLen dCap ad sLen sCap hd hs cur.toArray t hg cs hn hsrc (by simpa using hfit) h1 ?_
    exact h _ (show _ = _ by simpa [splice] using setRow_heap w g _ _ t _ hg) (show Kept _ _ _ from kept_setRow _) (show _ = _ by simp [World.setRow])
end Go.Proofs.YtdbkafpflicdiaaDoor.frm
