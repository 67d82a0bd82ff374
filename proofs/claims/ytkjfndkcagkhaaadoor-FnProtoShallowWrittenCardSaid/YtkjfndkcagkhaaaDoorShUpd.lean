/- ShallowUpdate.Encode. -/
import Derived.Test.YtkjfndkcagkhaaaDoorShStr
import Derived.Test.YtkjfndkcagkhaaaDoorHash
import Derived.Test.YtkjfndkcagkhaaaDoorHeld
import Derived.Test.YtkjfndkcagkhaaaDoorText
set_option linter.unusedVariables false
attribute [local go_sem ↓] Go.wp_at_zero Go.wp_at_succ
namespace Go.Proofs.YtkjfndkcagkhaaaDoor.enc
open Go.RowKit Lib frm mem rd pkt text buf hash

theorem src_text {w : World} {A : Option Addr} {p : List UInt8} {c : Nat} (h : buf.Src w A p) : (convert 25 9 (.slice A p.length c)).run Tryd.prog w = .ok (.string ⟨p.toArray⟩) w := by
  obtain ⟨g, o, ob, rfl, h1, h2, h3⟩ := h
  exact run_convert_bytes_back w 25 9 5 _ c p Tryd.underlying25 Tryd.underlying5 Tryd.underlying9 (fun j hj => by rw [Lib.addr_add]; exact h3 j _ (by simp [byteCells, hj]))
/-- a word's bytes are made -/
def Word (w : World) (l : List UInt8) (e : Ending) (w' : World) : Prop := ∃ g c, e = .returned (.slice (some ⟨g, 0, none⟩) l.length c) ∧ buf.Src w' (some ⟨g, 0, none⟩) l ∧ Kept [] w w'
theorem word_src (w : World) (l : List UInt8) (z1 z2 : Nat) (hz : z2 ≠ 0) : buf.Src (w.alloc (.cells (byteCells l).toArray 5 (z1, z2))) (some ⟨w.heap.size, 0, none⟩) l :=
  ⟨w.heap.size, 0, _, rfl, heap_alloc_new w _, fun c e => by injection e with _ _ e; injection e with _ e; exact hz e, fun j u hu => by
    rw [Nat.zero_add, Lib.cell_of_heap (heap_alloc_new w _) j]; simpa using hu⟩
set_option maxRecDepth 100000 in
theorem shallow_calls (w : World) : Calls Tryd.prog 56 #[] w (Word w [115, 104, 97, 108, 108, 111, 119, 32]) := by
  have kc := fun (w : World) (C : Array Value) (n c : Nat) => Lib.run_convert_bytes_const (P := Tryd.prog) w 25 5 C n c Tryd.underlying25 Tryd.underlying5
  go_enter Tryd.func56, Tryd.ntmps56
  go_wp2_with fail
  go_ret
  exact ⟨_, _, rfl, word_src w [115, 104, 97, 108, 108, 111, 119, 32] _ _ (by decide), (Kept.refl [] w).alloc _⟩
set_option maxRecDepth 100000 in
theorem unshallow_calls (w : World) : Calls Tryd.prog 58 #[] w (Word w [117, 110, 115, 104, 97, 108, 108, 111, 119, 32]) := by
  have kc := fun (w : World) (C : Array Value) (n c : Nat) => Lib.run_convert_bytes_const (P := Tryd.prog) w 25 5 C n c Tryd.underlying25 Tryd.underlying5
  go_enter Tryd.func58, Tryd.ntmps58
  go_wp2_with fail
  go_ret
  exact ⟨_, _, rfl, word_src w [117, 110, 115, 104, 97, 108, 108, 111, 119, 32] _ _ (by decide), (Kept.refl [] w).alloc _⟩
/-- a list of names' hashes -/
def HsAt (w : World) (v : Value) (ss : List ByteArray) : Prop :=
  (∀ s ∈ ss, Hex40 s) ∧ ∃ A c, v = .slice A ss.length c ∧ (0 < ss.length → ∃ g cur, A = some ⟨g, 0, none⟩ ∧ w.heap[g]? = some (.cells cur Hty (0, 0)) ∧ ∀ k s, ss[k]? = some s → ∀ i u, (hashCells s)[i]? = some u → cur[k * 20 + i]? = some u)
theorem no_hash (cur : Array Value) : NoRow (.cells cur Hty (0, 0)) := fun c e => by injection e with _ e; exact absurd e (by decide)
theorem buf_hash {B b g : Nat} {bs : List Value} {w : World} {cur : Array Value} (h : IsBuffer 62 5 B b bs w) (hg : w.heap[g]? = some (.cells cur Hty (0, 0))) : g ≠ b := by
  rintro rfl
  obtain ⟨_, v, lr, hk, _⟩ := h
  rw [hk] at hg
  injection hg with hg
  injection hg with _ hg
  exact absurd hg (by decide)
theorem HsAt.fk {B b : Nat} {bs : List Value} {w w' : World} {v : Value} {ss : List ByteArray} (h : HsAt w v ss) (hb : IsBuffer 62 5 B b bs w) (hk : FK b w w') : HsAt w' v ss := by
  obtain ⟨h0, A, c, e, h1⟩ := h
  refine ⟨h0, A, c, e, fun hp => ?_⟩
  obtain ⟨g, cur, e2, h3, h4⟩ := h1 hp
  exact ⟨g, cur, e2, hk.keep g _ h3 (buf_hash hb h3) (no_hash cur), h4⟩
theorem HsAt.at_ {w : World} {v : Value} {ss : List ByteArray} (h : HsAt w v ss) {k : Nat} (hk : k < ss.length) : ∃ g c s, v = .slice (some ⟨g, 0, none⟩) ss.length c ∧ ss[k]? = some s ∧ Hex40 s ∧ w.rangeAt g (0 + k * 20) (hashCells s) := by
  obtain ⟨h0, A, c, e, h1⟩ := h
  obtain ⟨g, cur, rfl, h3, h4⟩ := h1 (by omega)
  refine ⟨g, c, ss[k], e, List.getElem?_eq_getElem hk, h0 _ (List.getElem_mem hk), fun i u hu => ?_⟩
  rw [Lib.cell_of_heap h3]
  rw [Nat.zero_add]
  exact h4 k _ (List.getElem?_eq_getElem hk) i u hu
/-- the lines of names behind a word -/
def lineOf (t : List UInt8) (s : ByteArray) : List UInt8 := line (t ++ s.data.toList ++ [10])
def linesOf (t : List UInt8) (ss : List ByteArray) : List UInt8 := (ss.map (lineOf t)).flatten
theorem linesOf_succ (t : List UInt8) (ss : List ByteArray) (k : Nat) (s : ByteArray) (h : ss[k]? = some s) : linesOf t (ss.take (k + 1)) = linesOf t (ss.take k) ++ lineOf t s := by
  have hk := (List.getElem?_eq_some_iff.1 h).1
  have e : ss[k] = s := (List.getElem?_eq_some_iff.1 h).2
  rw [List.take_succ_eq_append_getElem hk, e]
  simp [linesOf]
set_option maxRecDepth 100000 in
theorem newEnc_calls (b : Nat) (w : World) : Calls Tryd.prog 54 #[.iface 66 (.pointer (some ⟨b, 0, none⟩))] w fun e w' => e = .returned (.pointer (some ⟨w.heap.size, 0, none⟩)) ∧ w' = w.alloc (.cells #[.iface 66 (.pointer (some ⟨b, 0, none⟩))] 143) := by
  go_enter Tryd.func54, Tryd.ntmps54
  go_wp2_with fail
  go_ret
  exact ⟨rfl, rfl⟩
end Go.Proofs.YtkjfndkcagkhaaaDoor.enc
