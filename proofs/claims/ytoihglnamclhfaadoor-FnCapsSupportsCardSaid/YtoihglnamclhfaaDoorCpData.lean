/- Capabilities in memory: what a row's argument holds, opened. -/
import Derived.Test.YtoihglnamclhfaaDoorCpPlain
import Derived.Test.YtoihglnamclhfaaDoorOpen
import Derived.Test.YtoihglnamclhfaaDoorStrSl
import Derived.Test.YtoihglnamclhfaaDoorFrame
import Derived.Test.YtoihglnamclhfaaDoorRows
import Derived.Deep.Slices
import Derived.Deep.MidRow
set_option linter.unusedVariables false
namespace Go.Proofs.YtoihglnamclhfaaDoor.cap
open Go.RowKit Lib mem opn frm text Go.ChangeShapes Go.WideShapes Go.ChangeAt

structure CapD where
  name : ByteArray
  vv : Value
  vals : List (List UInt8)
def CapD.cells (o : CapD) : List Value := [.string o.name, o.vv]
instance : Inhabited CapD := ⟨⟨⟨#[]⟩, .nilIface, []⟩⟩
theorem CapD.len (o : CapD) : o.cells.length = 2 := rfl
def ValSl (w : World) (B : Nat) (v : Value) (vals : List (List UInt8)) : Prop := ∃ A c, v = .slice A vals.length c ∧ vals.length ≤ c ∧ Strs w B A vals.length vals
def CapSl (w : World) (B : Nat) (v : Value) (cs : List CapD) : Prop := ∃ A c, v = .slice A cs.length c ∧ cs.length ≤ c ∧ Structs CapD.cells 2 w B A cs.length cs ∧ ∀ s ∈ cs, ValSl w B s.vv s.vals
def LimC (M : Nat) (c : CapD) : Prop := c.name.size ≤ M ∧ c.vals.length ≤ M ∧ ∀ x ∈ c.vals, x.length ≤ M
def LimCs (M : Nat) (cs : List CapD) : Prop := cs.length ≤ M ∧ ∀ c ∈ cs, LimC M c
def LimN (cs : List CapD) : Prop := cs.length ≤ 140737488355328 ∧ ∀ c ∈ cs, c.name.size ≤ 140737488355328
def capOf (c : CapD) : Cap := ⟨c.name.data.toList, c.vals⟩
section
variable {w w' : World} {B B' : Nat} {v : Value}
theorem structs_more {α : Type} {f : α → List Value} {size n : Nat} {A : Option Addr} {xs : List α} (h : Structs f size w B A n xs) (hB : B ≤ B') : Structs f size w B' A n xs := ⟨h.1.more hB, h.2⟩
theorem ValSl.below {os : List (List UInt8)} (h : ValSl w B v os) (hb : Below B w w') : ValSl w' B v os := by obtain ⟨A, c, e, hc, h⟩ := h; exact ⟨A, c, e, hc, h.below hb⟩
theorem ValSl.more {os : List (List UInt8)} (h : ValSl w B v os) (hB : B ≤ B') : ValSl w B' v os := by obtain ⟨A, c, e, hc, h⟩ := h; exact ⟨A, c, e, hc, h.more hB⟩
theorem CapSl.below {ss : List CapD} (h : CapSl w B v ss) (hb : Below B w w') : CapSl w' B v ss := by obtain ⟨A, c, e, hc, h, k⟩ := h; exact ⟨A, c, e, hc, h.below hb, fun s hs => (k s hs).below hb⟩
theorem CapSl.more {ss : List CapD} (h : CapSl w B v ss) (hB : B ≤ B') : CapSl w B' v ss := by obtain ⟨A, c, e, hc, h, k⟩ := h; exact ⟨A, c, e, hc, structs_more h hB, fun s hs => (k s hs).more hB⟩
end
theorem cells2 {cs : List Value} (hl : cs.length = 2) {a b : Value} (h0 : cs[0]? = some a) (h1 : cs[1]? = some b) : cs = [a, b] := by
  match cs, hl with
  | [x, y], _ => simp at h0 h1; rw [h0, h1]
section
variable {H : Type} {enc : TypeId × Value → H} {w : World}
theorem open_rowz {P : Program} {α : Type} [Inhabited α] {f : α → List Value} {size : Nat} {t e : TypeId} (ht : P.underlying t = some (.slice e)) (hC : P.cellsOf e = size) (h1 : 0 < size) {by0 : Nat} (hby : P.bytesOf e = by0) (hb : 1 ≤ by0) {fuel : Nat} {v : Value} {x : DataW H × List MemPlace} {ok : α → Prop}
    (hf : DataW.trod enc P w 0 (fun _ => true) true fuel t [v] = some x) (hz : ∀ k ∈ x.1.weights P t, k ≤ reachBytes)
    (hQ : ∀ m cs y, cs.length = size → DataW.trod enc P w 0 (fun _ => true) true m e cs = some y → (∀ k ∈ y.1.weights P e, k ≤ reachBytes) → ∃ x : α, cs = f x ∧ ok x) :
    ∃ A c xs, v = .slice A xs.length c ∧ xs.length ≤ c ∧ Structs f size w w.heap.size A xs.length xs ∧ (∀ x ∈ xs, ok x) ∧ xs.length ≤ 140737488355328 := by
  have hv : ∃ A n c, v = .slice A n c := by
    rcases Deep.open_slice ht hf with ⟨hcs, hx⟩ | ⟨a, len, cap, m, k, D, Pl, hcs, _, hl, hm, hmm, hx, hcell⟩
    · exact ⟨_, _, _, by simpa using hcs⟩
    · exact ⟨_, _, _, by simpa using hcs⟩
  obtain ⟨A, n, c, rfl⟩ := hv
  obtain ⟨xs, h2, h3, h4, h5, h6⟩ := arg_structs (f := f) (ok := ok) ht hC h1 (d := x.1) (p := x.2) ⟨fuel, hf⟩ hz hQ
  have hl : xs.length = n := h5.2.1
  subst hl
  refine ⟨A, c, xs, rfl, h2, h5, fun x hx => (h6 x hx).1, ?_⟩
  rw [hby] at h4
  have h7 : c * 1 ≤ c * by0 := Nat.mul_le_mul (Nat.le_refl _) hb
  simp only [reachBytes] at h4
  omega
theorem ValSl.ofz {n : Nat} {v : Value} {y : DataW H × List MemPlace} (h : DataW.trod enc Tryd.prog w 0 (fun _ => true) true n 30 [v] = some y) : ∃ os, ValSl w w.heap.size v os := by
  have hv : ∃ A n c, v = .slice A n c := by
    rcases Deep.open_strs Tryd.underlying30 Tryd.underlying9 (by kernel_rfl) h with ⟨hcs, hx⟩ | ⟨a, len, cap, m, Sx, hcs, _⟩
    · exact ⟨_, _, _, by simpa using hcs⟩
    · exact ⟨_, _, _, by simpa using hcs⟩
  obtain ⟨A, m, c, rfl⟩ := hv
  obtain ⟨l, hc, _, hs, _⟩ := arg_strs Tryd.underlying30 Tryd.underlying9 (by kernel_rfl) (d := y.1) (p := y.2) ⟨n, h⟩
  have hl := hs.len
  subst hl
  exact ⟨l, A, c, rfl, hc, hs⟩
theorem CapD.ofz {m : Nat} {cs : List Value} {x : DataW H × List MemPlace} (hl : cs.length = 2) (h : DataW.trod enc Tryd.prog w 0 (fun _ => true) true m 48 cs = some x) (hz : ∀ k ∈ x.1.weights Tryd.prog 48, k ≤ reachBytes) :
    ∃ o : CapD, cs = o.cells ∧ ValSl w w.heap.size o.vv o.vals ∧ o.name.size ≤ 140737488355328 := by
  obtain ⟨n0, y0, h0, z0⟩ := field_in Tryd.underlying48 h 0 9 0 1 (by kernel_rfl) (by kernel_rfl)
  obtain ⟨n1, y1, h1, z1⟩ := field_in Tryd.underlying48 h 1 30 1 1 (by kernel_rfl) (by kernel_rfl)
  obtain ⟨k, c0, b0⟩ := leaf_string Tryd.underlying9 h0 (fun k hk => hz k (z0 k hk))
  obtain ⟨v, c1, t1⟩ := leaf_any (by omega) h1
  obtain ⟨os, ho⟩ := ValSl.ofz t1
  exact ⟨⟨k, v, os⟩, cells2 hl c0 c1, ho, by show k.size ≤ _; omega⟩
theorem CapSl.ofz {n : Nat} {v : Value} {y : DataW H × List MemPlace} (h : DataW.trod enc Tryd.prog w 0 (fun _ => true) true n 45 [v] = some y) (hz : ∀ k ∈ y.1.weights Tryd.prog 45, k ≤ reachBytes) : ∃ ss, CapSl w w.heap.size v ss ∧ LimN ss := by
  obtain ⟨A, c, xs, e, hc, h1, h2, h3⟩ := open_rowz (f := CapD.cells) (ok := fun s => ValSl w w.heap.size s.vv s.vals ∧ s.name.size ≤ 140737488355328) Tryd.underlying45 (by kernel_rfl) (by omega) (by0 := 40) (by kernel_rfl) (by omega) h hz (fun m cs y hl ht hw => CapD.ofz hl ht hw)
  exact ⟨xs, ⟨A, c, e, hc, h1, fun s hs => (h2 s hs).1⟩, h3, fun s hs => (h2 s hs).2⟩
end
end Go.Proofs.YtoihglnamclhfaaDoor.cap
