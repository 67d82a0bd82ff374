/- SHA-1: what its walks share (rows of the call's own, arrays of words). -/
import Derived.Test.YtdbkafpflicdiaaDoorShaPure
import Derived.Test.YtdbkafpflicdiaaDoorSlices
import Derived.Test.YtdbkafpflicdiaaDoorFrame
import Derived.Test.YtdbkafpflicdiaaDoorTail
import Derived.WalkKit
import Derived.ProofKit
import Derived.Lib.Hide
import Derived.BigQuiet
import Derived.Deep.QuietTactic
import Derived.Deep.RegionHeld3
import Derived.Deep.DrawnRows
import Derived.LoopN
import Derived.Maps.AppendAt
import Derived.Laws.Tables
import Derived.Laws.Rows
import Derived.Deep.MidRow
set_option linter.unusedVariables false
namespace Go.Proofs.YtdbkafpflicdiaaDoor.sha
open Go.RowKit Lib mem frm

theorem mod_num (y : Int) : y % 256 = ((UInt8.ofNat (y % 256).toNat).toNat : Int) := by
  have h : (UInt8.ofNat (y % 256).toNat).toNat = (y % 256).toNat := by
    rw [UInt8.toNat_ofNat']; exact Nat.mod_eq_of_lt (by omega)
  rw [h]; omega
theorem infoU8 : (Tryd.prog.info? 5).map (fun i => (i.zero, i.size, i.bytes)) = some (some (.int .u8 0), 1, 1) := by kernel_rfl
def lenOf : Value → Nat
  | .slice _ n _ => n
  | _ => 0
theorem own_shape {w : World} {B n s : Nat} {e : TypeId} {v : Value} {vs : List Value} (h : w.ownsRow B e s v n vs) : ∃ A c, v = .slice A n c := by
  rcases id h with ⟨hl, ⟨rfl, h0⟩ | ⟨g, cap, cur, rfl, _⟩⟩
  · exact ⟨_, _, by rw [h0]⟩
  · exact ⟨_, _, rfl⟩
theorem own_new {w : World} {g B : Nat} {e : TypeId} (hg : w.heap[g]? = some (.cells #[] e (0, 0))) (hB : B ≤ g) : w.ownsRow B e 1 (.slice (some ⟨g, 0, none⟩) 0 0) 0 [] :=
  ⟨rfl, .inr ⟨g, 0, #[], rfl, hB, hg, Nat.le_refl _, by decide, rfl, rfl⟩⟩
/-- a row of bytes of the call's own -/
def Own (w0 w : World) (v : Value) (m : Nat) (l : List UInt8) : Prop := l.length = m ∧ w.ownsRow w0.heap.size 5 1 v m (byteCells l)
theorem byteCells_app (a b : List UInt8) : byteCells (a ++ b) = byteCells a ++ byteCells b := by simp [byteCells]
theorem Own.push {w0 w' : World} {v : Value} {m k : Nat} {l p : List UInt8} (hl : l.length = m) (hp : p.length = k) (h : w'.ownsRow w0.heap.size 5 1 v (m + k) (byteCells l ++ byteCells p)) : Own w0 w' v (m + k) (l ++ p) := ⟨by simp; omega, by rw [byteCells_app]; exact h⟩
theorem Own.kept_new {w0 w w' : World} {v : Value} {m : Nat} {l : List UInt8} (h : Own w0 w v m l) (hk : Kept [] w0 w) (hg : w.grownBy w' v.ownBlock) : Kept [] w0 w' :=
  hk.trans (Kept.of_grown_own (S := v.ownBlock.toList) hg (fun g hg => .inl (by simp [hg]))) (fun x hx => .inr (h.2.lt x (by simpa using hx)).1)
theorem Own.alloc {w0 w : World} {v : Value} {m : Nat} {l : List UInt8} (h : Own w0 w v m l) (o : Obj) : Own w0 (w.alloc o) v m l := ⟨h.1, h.2.alloc o⟩
theorem one_cell (w : World) (b : UInt8) : ∀ j u, (byteCells [b])[j]? = some u → (w.alloc (.cells #[.int .u8 (b.toNat : Int)] 5)).cell? ((⟨w.heap.size, 0, none⟩ : Addr).add j) = some u := cell_one_new _ _ _
/-- 'append(s, b)' of one byte -/
theorem wpList_push {w0 w : World} {ops : Array Oper} {rest : List Oper} {o : Oper} {a : Act} {Q : Exit → Act → World → Prop} (hg : o.guard = none) (s x : Operand) (ho : o.op = .call { callee := .builtin .append, args := #[s, x], argTypes := #[26, 26] })
    (v : Value) (m : Nat) (l : List UInt8) (b : UInt8) (z : Int) (hz : z = (b.toNat : Int)) (hown : Own w0 w v m l) (hk : Kept [] w0 w) (hs : a.eval s = v) (hx : a.eval x = .slice (some ⟨w.heap.size, 0, none⟩) 1 1) (hm : m + 1 ≤ 140737488355328)
    (hK : ∀ A c w', Hid (Own w0 w' (.slice A (m + 1) c) (m + 1) (l ++ [b])) → Hid (Kept [] w0 w') → wpList Tryd.prog ops Q rest (a.put o.dst (.slice A (m + 1) c)) w') : wpList Tryd.prog ops Q (o :: rest) a (w.alloc (.cells #[.int .u8 z] 5)) := by
  obtain ⟨i0, hi, hz0, hz1, hz2⟩ := info_parts infoU8
  subst hz
  refine wpList_append_own _ hg s x 26 ho w0.heap.size 5 i0 (.int .u8 0) 1 1 Tryd.underlying26 hi hz0 hz1 hz2 rfl (by decide) v m (byteCells l) hs (hown.alloc _).2 ⟨w.heap.size, 0, none⟩ 1 1 (byteCells [b]) hx rfl (one_cell w b) (cells_one _) (by unfold maxLen; omega) (by omega) (by have := hk.size; simp; omega) ?_
  intro v2 w2 h1 h2 _
  obtain ⟨A2, c2, rfl⟩ := own_shape h1
  exact hK A2 c2 w2 (hid (Own.push hown.1 rfl h1)) (hid ((hown.alloc _).kept_new (hk.alloc _) h2))
theorem byte_num (n y : Nat) : (n : Int) * 8 / 2 ^ y % 256 = ((UInt8.ofNat (n * 8 / 2 ^ y % 256)).toNat : Int) := by
  have h : (UInt8.ofNat (n * 8 / 2 ^ y % 256)).toNat = n * 8 / 2 ^ y % 256 := by
    rw [UInt8.toNat_ofNat']; exact Nat.mod_eq_of_lt (by omega)
  rw [h]
  simp
theorem be8_next (x j : Nat) (h : j < 8) : (be8 x).take (j + 1) = (be8 x).take j ++ [UInt8.ofNat (x / 2 ^ (56 - 8 * j) % 256)] := by
  rw [List.take_add_one]
  congr 1
  unfold be8
  rw [List.getElem?_map, List.getElem?_range h]; rfl
abbrev T5 : TypeId := 75
abbrev T80 : TypeId := 121
theorem Own.kept {w0 w w' : World} {v : Value} {m : Nat} {l : List UInt8} {S : List Nat} (h : Own w0 w v m l) (hk : Kept S w w') (hn : ∀ x ∈ S, ∀ t cs, Blk w x t cs → t ≠ 5) : Own w0 w' v m l := by
  refine ⟨h.1, ?_⟩
  rcases id h.2 with ⟨hl, ⟨rfl, h0⟩ | ⟨g, cap, cur, rfl, hBg, hg, hr⟩⟩
  · exact ⟨hl, .inl ⟨rfl, h0⟩⟩
  · exact ⟨hl, .inr ⟨g, cap, cur, rfl, hBg, hk.heap hg (fun hx => hn g hx _ _ hg rfl), hr⟩⟩
theorem Own.at_ {w0 w : World} {A : Option Addr} {m c : Nat} {l : List UInt8} (h : Own w0 w (.slice A m c) m l) (hm : 0 < m) : ∃ g, A = some ⟨g, 0, none⟩ ∧ m ≤ c := by
  rcases id h.2 with ⟨hl, ⟨h1, h0⟩ | ⟨g, cap, cur, h1, hBg, hg, hr⟩⟩
  · omega
  · cases h1; exact ⟨g, rfl, hr.1⟩
theorem Own.cell {w0 w : World} {g m c : Nat} {l : List UInt8} (h : Own w0 w (.slice (some ⟨g, 0, none⟩) m c) m l) {i : Nat} (hi : i < m) : w.cell? ⟨g, i, none⟩ = some (.int .u8 (byteAt l i)) := by
  have h1 := h.2.cells (g := g) rfl i (.int .u8 (byteAt l i)) (by
    have hl := h.1
    simp [byteCells, byteAt, List.getD, show i < l.length by omega])
  rwa [Lib.addr_add, Nat.zero_add] at h1
theorem byteAt_mid {P : List UInt8} {a i : Nat} (hi : i < 64) : byteAt ((P.drop a).take 64) i = byteAt P (a + i) := by
  simp [byteAt, List.getD, List.getElem?_take, hi, List.getElem?_drop]
/-- what a block's walk holds: the text, the state, the schedule -/
structure Inv (w wr : World) (v : Value) (m : Nat) (P : List UInt8) (hb : Nat) (st : Five) (wb : Nat) (cs : Array Value) : Prop where
  kept : Kept [] w wr
  own : Own w wr v m P
  h : Blk wr hb T5 (five st)
  a : Blk wr wb T80 cs
  hN : w.heap.size ≤ hb
  wN : w.heap.size ≤ wb
theorem Inv.nil_ {w wr wr' : World} {v : Value} {m hb wb : Nat} {P : List UInt8} {st : Five} {cs : Array Value} (h : Inv w wr v m P hb st wb cs) (hk : Kept [] wr wr') : Inv w wr' v m P hb st wb cs :=
  ⟨h.kept.trans_ hk, h.own.kept hk (by simp), h.h.kept hk (by simp), h.a.kept hk (by simp), h.hN, h.wN⟩
theorem Inv.put {w wr : World} {v : Value} {m hb wb : Nat} {P : List UInt8} {st : Five} {cs : Array Value} (h : Inv w wr v m P hb st wb cs) (k : Nat) (x : Value) : Inv w (wr.setCell ⟨wb, k, none⟩ x) v m P hb st wb (cs.setIfInBounds k x) := by
  have hk : Kept [wb] wr (wr.setCell ⟨wb, k, none⟩ x) := (Kept.refl [wb] wr).setCell (.inl (by simp)) _
  refine ⟨h.kept.setCell (.inr h.wN) _, h.own.kept hk (fun y hy t cs' hb' e => ?_), h.h.kept hk ?_, h.a.set_ k x, h.hN, h.wN⟩
  · obtain rfl : y = wb := by simpa using hy
    subst e
    exact h.a.ne_ hb' (by decide) rfl
  · have := h.h.ne_ h.a (by decide)
    simpa using this
theorem Inv.add {w wr : World} {v : Value} {m hb wb : Nat} {P : List UInt8} {st : Five} {cs : Array Value} (h : Inv w wr v m P hb st wb cs) (k : Nat) (x : Value) : Kept [] w (wr.setCell ⟨hb, k, none⟩ x) ∧ Own w (wr.setCell ⟨hb, k, none⟩ x) v m P ∧ Blk (wr.setCell ⟨hb, k, none⟩ x) hb T5 ((five st).setIfInBounds k x) := by
  have hk : Kept [hb] wr (wr.setCell ⟨hb, k, none⟩ x) := (Kept.refl [hb] wr).setCell (.inl (by simp)) _
  refine ⟨h.kept.setCell (.inr h.hN) _, h.own.kept hk (fun y hy t cs' hb' e => ?_), h.h.set_ k x⟩
  obtain rfl : y = hb := by simpa using hy
  subst e
  exact h.h.ne_ hb' (by decide) rfl
theorem step_sum (A F E K X : Int) : ((A + F + E + K) % 4294967296 + X) % 4294967296 = u (u (u (u (A + F) + E) + K) + X) := by unfold u; omega
theorem Inv.add5 {w wr : World} {v : Value} {m hb wb : Nat} {P : List UInt8} {st : Five} {cs : Array Value} (h : Inv w wr v m P hb st wb cs) (s : Five) :
    Kept [] w (((((wr.setCell ⟨hb, 0, none⟩ (.int .u32 s.a)).setCell ⟨hb, 1, none⟩ (.int .u32 s.b)).setCell ⟨hb, 2, none⟩ (.int .u32 s.c)).setCell ⟨hb, 3, none⟩ (.int .u32 s.d)).setCell ⟨hb, 4, none⟩ (.int .u32 s.e)) ∧
    Own w (((((wr.setCell ⟨hb, 0, none⟩ (.int .u32 s.a)).setCell ⟨hb, 1, none⟩ (.int .u32 s.b)).setCell ⟨hb, 2, none⟩ (.int .u32 s.c)).setCell ⟨hb, 3, none⟩ (.int .u32 s.d)).setCell ⟨hb, 4, none⟩ (.int .u32 s.e)) v m P ∧
    Blk (((((wr.setCell ⟨hb, 0, none⟩ (.int .u32 s.a)).setCell ⟨hb, 1, none⟩ (.int .u32 s.b)).setCell ⟨hb, 2, none⟩ (.int .u32 s.c)).setCell ⟨hb, 3, none⟩ (.int .u32 s.d)).setCell ⟨hb, 4, none⟩ (.int .u32 s.e)) hb T5 (five s) := by
  have hk : Kept [hb] wr (((((wr.setCell ⟨hb, 0, none⟩ (.int .u32 s.a)).setCell ⟨hb, 1, none⟩ (.int .u32 s.b)).setCell ⟨hb, 2, none⟩ (.int .u32 s.c)).setCell ⟨hb, 3, none⟩ (.int .u32 s.d)).setCell ⟨hb, 4, none⟩ (.int .u32 s.e)) :=
    (((((Kept.refl [hb] wr).setCell (.inl (by simp)) _).setCell (.inl (by simp)) _).setCell (.inl (by simp)) _).setCell (.inl (by simp)) _).setCell (.inl (by simp)) _
  refine ⟨h.kept.trans hk (fun x hx => .inr (by
    obtain rfl : x = hb := by simpa using hx
    exact h.hN)), h.own.kept hk (fun y hy t cs' hb' e => ?_), ?_⟩
  · obtain rfl : y = hb := by simpa using hy
    subst e
    exact h.h.ne_ hb' (by decide) rfl
  · have := ((((h.h.set_ 0 (.int .u32 s.a)).set_ 1 (.int .u32 s.b)).set_ 2 (.int .u32 s.c)).set_ 3 (.int .u32 s.d)).set_ 4 (.int .u32 s.e)
    simpa [five] using this
theorem info5 : (Tryd.prog.info? T5).map (·.size) = some 5 := by kernel_rfl
theorem blk5_range {w : World} {g : Nat} {s : Five} (h : Blk w g T5 (five s)) : w.rangeAt g 0 (five s).toList := fun i u hu => by rw [Nat.zero_add]; exact h.cell i (by simpa using hu)
def part (s : Five) (k : Nat) : List UInt8 := ([s.a, s.b, s.c, s.d, s.e].take k).flatMap numB
theorem part_all (s : Five) : part s 5 = outB s := by simp [part, outB]
set_option maxRecDepth 100000 in
theorem field_of (s : Five) (k : Nat) (hk : k < 5) : ∃ x, (∀ w, (Instr.index T5 (.agg (five s)) (.int .i64 k)).run Tryd.prog w = .ok (.int .u32 x) w) ∧ part s (k + 1) = part s k ++ numB x := by
  have : k = 0 ∨ k = 1 ∨ k = 2 ∨ k = 3 ∨ k = 4 := by omega
  rcases this with rfl | rfl | rfl | rfl | rfl
  all_goals refine ⟨_, fun w => ?_, by simp [part]; rfl⟩
  all_goals simp [Instr.index, run_underlying Tryd.underlying75, five]
  all_goals rfl
theorem arr_zero (m : Nat) (f g : Nat → Int) : arr m f 0 = arr m g 0 := by simp [arr]
set_option maxRecDepth 100000 in
theorem zero80 (f : Nat → Int) : Tryd.zeroCells121 = arr 80 f 0 := by rw [arr_zero 80 f (fun _ => 0)]; kernel_rfl
theorem low_word (P : List UInt8) (a k : Nat) (hk : k < 16) : be4 (byteAt P (a + 4 * k)) (byteAt P (a + 4 * k + 1)) (byteAt P (a + 4 * k + 2)) (byteAt P (a + 4 * k + 3)) = wAt ((P.drop a).take 64) k := by
  rw [wAt_low _ k hk]
  unfold word
  rw [byteAt_mid (by omega), byteAt_mid (by omega), byteAt_mid (by omega), byteAt_mid (by omega)]
  simp only [Nat.add_assoc]
theorem zero_more (n : Nat) : List.replicate n (0 : UInt8) ++ [0] = List.replicate (n + 1) 0 := by rw [List.replicate_succ', ]
end Go.Proofs.YtdbkafpflicdiaaDoor.sha
