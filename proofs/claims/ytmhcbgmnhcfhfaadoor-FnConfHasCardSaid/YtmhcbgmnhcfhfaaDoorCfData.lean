/- Sections of a configuration: what a row's argument holds, opened, and its bulk. -/
import Derived.Test.YtmhcbgmnhcfhfaaDoorOpen
import Derived.Test.YtmhcbgmnhcfhfaaDoorRows
import Derived.Deep.Slices
set_option linter.unusedVariables false
namespace Go.Proofs.YtmhcbgmnhcfhfaaDoor.cf
open Go.RowKit Lib mem opn Go.ChangeShapes Go.WideShapes Go.ChangeAt

structure OptD where
  key : ByteArray
  val : ByteArray
def OptD.cells (o : OptD) : List Value := [.string o.key, .string o.val]
def OptD.m (o : OptD) : Nat := o.key.size + o.val.size + 3
structure SubD where
  name : ByteArray
  ov : Value
  opts : List OptD
def SubD.cells (s : SubD) : List Value := [.string s.name, s.ov]
def SubD.m (s : SubD) : Nat := s.name.size + 2 + (s.opts.map OptD.m).sum
structure SecD where
  name : ByteArray
  ov : Value
  opts : List OptD
  sv : Value
  subs : List SubD
def SecD.cells (s : SecD) : List Value := [.string s.name, s.ov, s.sv]
def SecD.m (s : SecD) : Nat := s.name.size + 2 + (s.opts.map OptD.m).sum + (s.subs.map SubD.m).sum
instance : Inhabited OptD := ⟨⟨⟨#[]⟩, ⟨#[]⟩⟩⟩
instance : Inhabited SubD := ⟨⟨⟨#[]⟩, .nilIface, []⟩⟩
instance : Inhabited SecD := ⟨⟨⟨#[]⟩, .nilIface, [], .nilIface, []⟩⟩
theorem OptD.len (o : OptD) : o.cells.length = 2 := rfl
theorem SubD.len (o : SubD) : o.cells.length = 2 := rfl
theorem SecD.len (o : SecD) : o.cells.length = 3 := rfl
/-- a slice of options -/
def OptSl (w : World) (B : Nat) (v : Value) (os : List OptD) : Prop := ∃ A c, v = .slice A os.length c ∧ Structs OptD.cells 2 w B A os.length os
def SubSl (w : World) (B : Nat) (v : Value) (ss : List SubD) : Prop := ∃ A c, v = .slice A ss.length c ∧ ss.length ≤ c ∧ Structs SubD.cells 2 w B A ss.length ss ∧ ∀ s ∈ ss, OptSl w B s.ov s.opts
def SecSl (w : World) (B : Nat) (v : Value) (ss : List SecD) : Prop := ∃ A c, v = .slice A ss.length c ∧ ss.length ≤ c ∧ Structs SecD.cells 3 w B A ss.length ss ∧ ∀ s ∈ ss, OptSl w B s.ov s.opts ∧ SubSl w B s.sv s.subs
section
variable {w w' : World} {B B' : Nat} {v : Value}
theorem structs_more {α : Type} {f : α → List Value} {size n : Nat} {A : Option Addr} {xs : List α} (h : Structs f size w B A n xs) (hB : B ≤ B') : Structs f size w B' A n xs := ⟨h.1.more hB, h.2⟩
theorem OptSl.below {os : List OptD} (h : OptSl w B v os) (hb : Below B w w') : OptSl w' B v os := by obtain ⟨A, c, e, h⟩ := h; exact ⟨A, c, e, h.below hb⟩
theorem SubSl.below {ss : List SubD} (h : SubSl w B v ss) (hb : Below B w w') : SubSl w' B v ss := by obtain ⟨A, c, e, hc, h, k⟩ := h; exact ⟨A, c, e, hc, h.below hb, fun s hs => (k s hs).below hb⟩
theorem SecSl.below {ss : List SecD} (h : SecSl w B v ss) (hb : Below B w w') : SecSl w' B v ss := by obtain ⟨A, c, e, hc, h, k⟩ := h; exact ⟨A, c, e, hc, h.below hb, fun s hs => ⟨(k s hs).1.below hb, (k s hs).2.below hb⟩⟩
theorem OptSl.more {os : List OptD} (h : OptSl w B v os) (hB : B ≤ B') : OptSl w B' v os := by obtain ⟨A, c, e, h⟩ := h; exact ⟨A, c, e, structs_more h hB⟩
theorem SubSl.more {ss : List SubD} (h : SubSl w B v ss) (hB : B ≤ B') : SubSl w B' v ss := by obtain ⟨A, c, e, hc, h, k⟩ := h; exact ⟨A, c, e, hc, structs_more h hB, fun s hs => (k s hs).more hB⟩
theorem SecSl.more {ss : List SecD} (h : SecSl w B v ss) (hB : B ≤ B') : SecSl w B' v ss := by obtain ⟨A, c, e, hc, h, k⟩ := h; exact ⟨A, c, e, hc, structs_more h hB, fun s hs => ⟨(k s hs).1.more hB, (k s hs).2.more hB⟩⟩
end
theorem bulk_one {H : Type} (d : DataW H) : 1 ≤ Rows.uptoBulk d := by
  cases d with
  | lit l => cases l <;> simp [Rows.uptoBulk]
  | nil => simp [Rows.uptoBulk]
  | ptr d => simp [Rows.uptoBulk]
  | slice elems spare => simp [Rows.uptoBulk]
  | agg parts => simp [Rows.uptoBulk]
  | iface t d => simp [Rows.uptoBulk]
  | map entries => simp [Rows.uptoBulk]
  | held h => simp [Rows.uptoBulk]
theorem sum_bulk {H α : Type} {μ : α → Nat} (X : Nat → α) (D : Nat → DataW H) (n : Nat) (h : ∀ i, i < n → μ (X i) ≤ Rows.uptoBulk (D i)) : (((List.range n).map X).map μ).sum ≤ Rows.uptoBulkAll ((List.range n).map D) := by
  have key : ∀ l : List Nat, (∀ i ∈ l, i < n) → ((l.map X).map μ).sum ≤ Rows.uptoBulkAll (l.map D) := by
    intro l
    induction l with
    | nil => intro _; simp [Rows.uptoBulkAll]
    | cons a r ih =>
      intro hl
      have h1 := h a (hl a (by simp))
      have h2 := ih (fun i hi => hl i (by simp [hi]))
      simp only [List.map_cons, List.sum_cons, Rows.uptoBulkAll]
      omega
  exact key _ (fun i hi => by simpa using hi)
section
variable {H : Type} {enc : TypeId × Value → H} {P : Program} {w : World}
theorem leaf_string_b {n ti o : Nat} {cs : List Value} {y : DataW H × List MemPlace} (ht : P.underlying ti = some .string) (h : DataW.trod enc P w 0 (fun _ => true) true n ti ((cs.drop o).take 1) = some y) : ∃ s : ByteArray, cs[o]? = some (.string s) ∧ s.size + 1 ≤ Rows.uptoBulk y.1 := by
  obtain ⟨s, h1, h2, _⟩ := DataW.trod_string ht h
  refine ⟨s, one_of h1, ?_⟩
  rw [h2]
  simp [Rows.uptoBulk]
theorem field_b {t : TypeId} {fs : Array Field} {fuel : Nat} {cs : List Value} {x : DataW H × List MemPlace} (ht : P.underlying t = some (.struct fs)) (h : DataW.trod enc P w 0 (fun _ => true) true fuel t cs = some x) :
    ∃ xs : List (DataW H × List MemPlace), x.1 = .agg (xs.map (·.1)) ∧ xs.length = fs.size ∧ ∀ (i : Nat) (ti : TypeId) (oi ci : Nat), (fs.toList[i]?).map (fun (f : Field) => (f.type, f.offset)) = some (ti, oi) → P.cellsOf ti = ci → ∃ n y, xs[i]? = some y ∧ DataW.trod enc P w 0 (fun _ => true) true n ti ((cs.drop oi).take ci) = some y := by
  obtain ⟨xs, n, hn, hx, hl, hxl, hf⟩ := DataW.trod_struct ht h
  refine ⟨xs, by rw [hx], hxl, fun i ti oi ci hi hc => ?_⟩
  obtain ⟨f, hfi, hfe⟩ := Option.map_eq_some_iff.1 hi
  have hfi' : fs[i]? = some f := by simpa using hfi
  simp only [Prod.mk.injEq] at hfe
  obtain ⟨rfl, rfl⟩ := hfe
  have h1 := hf i f hfi'
  have hil : i < xs.length := by rw [hxl]; exact (Array.getElem?_eq_some_iff.1 hfi').1
  rw [hc, List.getElem?_eq_getElem hil] at h1
  exact ⟨n, xs[i], List.getElem?_eq_getElem hil, h1⟩
theorem open_row {α : Type} [Inhabited α] {f : α → List Value} {size : Nat} {t e : TypeId} (ht : P.underlying t = some (.slice e)) (hC : P.cellsOf e = size) (h1 : 0 < size) {fuel : Nat} {v : Value} {x : DataW H × List MemPlace} {ok : α → Prop} {μ : α → Nat}
    (hf : DataW.trod enc P w 0 (fun _ => true) true fuel t [v] = some x) (hs : ∀ x : α, (f x).length = size)
    (hQ : ∀ m cs y, cs.length = size → DataW.trod enc P w 0 (fun _ => true) true m e cs = some y → ∃ x : α, cs = f x ∧ ok x ∧ μ x ≤ Rows.uptoBulk y.1) :
    ∃ A c xs, v = .slice A xs.length c ∧ xs.length ≤ c ∧ Structs f size w w.heap.size A xs.length xs ∧ (∀ x ∈ xs, ok x) ∧ (xs.map μ).sum + 1 ≤ Rows.uptoBulk x.1 := by
  rcases Deep.open_slice ht hf with ⟨hcs, hx⟩ | ⟨a, n, cap, m, k, D, Pl, hcs, _, hl, hm, hmm, hx, hcell⟩
  · simp at hcs
    subst hcs
    refine ⟨none, 0, [], rfl, Nat.le_refl _, ⟨⟨by simp, fun h => absurd h (by simp)⟩, rfl, fun h => absurd h (by simp)⟩, by simp, ?_⟩
    rw [hx]; simp [Rows.uptoBulk]
  · simp at hcs
    subst hcs
    simp only [if_true] at hmm
    subst hmm
    have hel : ∀ i, i < n → ∃ x : α, (∀ j, j < size → w.cell? ((a.add (i * size)).add j) = (f x)[j]?) ∧ ok x ∧ μ x ≤ Rows.uptoBulk (D i) := by
      intro i hi
      obtain ⟨cs', hc', ht'⟩ := hcell i (by omega)
      rw [hC] at hc'
      obtain ⟨_, hcl, hat⟩ := World.cells?_some hc'
      obtain ⟨x, hx1, hx2, hx3⟩ := hQ _ _ _ hcl ht'
      exact ⟨x, fun j hj => by rw [← hx1]; exact hat j hj, hx2, hx3⟩
    obtain ⟨X, hX⟩ := Deep.choose_lt hel
    have hlen := flat_len f size ((List.range n).map X) (fun x _ => hs x)
    have h9 : 0 < n → a = ⟨a.block, a.off, none⟩ ∧ a.block < w.heap.size := fun hn => by
      have h2 := (hX 0 hn).1 0 h1
      have h3 : (f (X 0))[0]? = some ((f (X 0))[0]'(by rw [hs]; exact h1)) := List.getElem?_eq_getElem _
      rw [h3] at h2
      have h4 := flat_of h2
      have ea : (a.add (0 * size)).add 0 = a := by simp [Addr.add]
      rw [ea] at h4
      exact h4
    have hln : ((List.range n).map X).length = n := by simp
    refine ⟨some a, m, (List.range n).map X, by rw [hln], by rw [hln]; exact hl, ?_, ?_, ?_⟩
    · rw [hln]
      refine ⟨⟨by rw [hlen]; simp, fun hn => ⟨a, rfl, (h9 hn).2, fun j u hu => ?_⟩⟩, hln, fun hn => ⟨a.block, a.off, by rw [← (h9 hn).1]⟩⟩
      obtain ⟨i, x, g1, g2, g3, g4⟩ := flat_at f size _ j u (fun x _ => hs x) hu
      have hin : i < n := by have := (List.getElem?_eq_some_iff.1 g1).1; simpa using this
      have hxe : X i = x := by simpa [hin] using g1
      have := (hX i hin).1 (j - i * size) g3
      rw [hxe, g4, add_of_add, show i * size + (j - i * size) = j by omega] at this
      exact this
    · intro x hx
      obtain ⟨i, hi, rfl⟩ := List.mem_map.1 hx
      exact (hX i (by simpa using hi)).2.1
    · rw [hx]
      have := sum_bulk X D n (fun i hi => (hX i hi).2.2)
      simp only [Rows.uptoBulk]
      omega
end
theorem cells2 {cs : List Value} {a b : Value} (hl : cs.length = 2) (h0 : cs[0]? = some a) (h1 : cs[1]? = some b) : cs = [a, b] := by
  match cs, hl with
  | [x, y], _ => simp at h0 h1; rw [h0, h1]
theorem cells3 {cs : List Value} {a b c : Value} (hl : cs.length = 3) (h0 : cs[0]? = some a) (h1 : cs[1]? = some b) (h2 : cs[2]? = some c) : cs = [a, b, c] := by
  match cs, hl with
  | [x, y, z], _ => simp at h0 h1 h2; rw [h0, h1, h2]
section
variable {H : Type} {enc : TypeId × Value → H} {w : World}
theorem bulk2 {a b : DataW H × List MemPlace} {xs : List (DataW H × List MemPlace)} (hl : xs.length = 2) (h0 : xs[0]? = some a) (h1 : xs[1]? = some b) : Rows.uptoBulk (.agg (xs.map (·.1)) : DataW H) = Rows.uptoBulk a.1 + Rows.uptoBulk b.1 + 1 := by
  match xs, hl with
  | [x, y], _ => simp at h0 h1; rw [h0, h1]; simp [Rows.uptoBulk, Rows.uptoBulkAll]
theorem bulk3 {a b c : DataW H × List MemPlace} {xs : List (DataW H × List MemPlace)} (hl : xs.length = 3) (h0 : xs[0]? = some a) (h1 : xs[1]? = some b) (h2 : xs[2]? = some c) : Rows.uptoBulk (.agg (xs.map (·.1)) : DataW H) = Rows.uptoBulk a.1 + Rows.uptoBulk b.1 + Rows.uptoBulk c.1 + 1 := by
  match xs, hl with
  | [x, y, z], _ => simp at h0 h1 h2; rw [h0, h1, h2]; simp [Rows.uptoBulk, Rows.uptoBulkAll]; omega
theorem OptD.of_trod {m : Nat} {cs : List Value} {x : DataW H × List MemPlace} (hl : cs.length = 2) (h : DataW.trod enc Tryd.prog w 0 (fun _ => true) true m 108 cs = some x) :
    ∃ o : OptD, cs = o.cells ∧ True ∧ o.m ≤ Rows.uptoBulk x.1 := by
  obtain ⟨xs, hx, hxl, hf⟩ := field_b Tryd.underlying108 h
  obtain ⟨n0, y0, e0, h0⟩ := hf 0 9 0 1 (by kernel_rfl) (by kernel_rfl)
  obtain ⟨n1, y1, e1, h1⟩ := hf 1 9 1 1 (by kernel_rfl) (by kernel_rfl)
  obtain ⟨k, c0, b0⟩ := leaf_string_b Tryd.underlying9 h0
  obtain ⟨v, c1, b1⟩ := leaf_string_b Tryd.underlying9 h1
  refine ⟨⟨k, v⟩, cells2 hl c0 c1, trivial, ?_⟩
  rw [hx, bulk2 hxl e0 e1]
  simp only [OptD.m]
  omega
theorem OptSl.of_trod {n : Nat} {v : Value} {y : DataW H × List MemPlace} (h : DataW.trod enc Tryd.prog w 0 (fun _ => true) true n 31 [v] = some y) : ∃ os, OptSl w w.heap.size v os ∧ (os.map OptD.m).sum + 1 ≤ Rows.uptoBulk y.1 := by
  obtain ⟨A, c, xs, e, _, h1, _, h2⟩ := open_row (f := OptD.cells) (ok := fun _ => True) (μ := OptD.m) Tryd.underlying31 (by kernel_rfl) (by omega) h OptD.len (fun m cs y hl ht => OptD.of_trod hl ht)
  exact ⟨xs, ⟨A, c, e, h1⟩, h2⟩
theorem SubD.of_trod {m : Nat} {cs : List Value} {x : DataW H × List MemPlace} (hl : cs.length = 2) (h : DataW.trod enc Tryd.prog w 0 (fun _ => true) true m 36 cs = some x) :
    ∃ o : SubD, cs = o.cells ∧ OptSl w w.heap.size o.ov o.opts ∧ o.m ≤ Rows.uptoBulk x.1 := by
  obtain ⟨xs, hx, hxl, hf⟩ := field_b Tryd.underlying36 h
  obtain ⟨n0, y0, e0, h0⟩ := hf 0 9 0 1 (by kernel_rfl) (by kernel_rfl)
  obtain ⟨n1, y1, e1, h1⟩ := hf 1 31 1 1 (by kernel_rfl) (by kernel_rfl)
  obtain ⟨k, c0, b0⟩ := leaf_string_b Tryd.underlying9 h0
  obtain ⟨v, c1, t1⟩ := leaf_any (by omega) h1
  obtain ⟨os, ho, b1⟩ := OptSl.of_trod t1
  refine ⟨⟨k, v, os⟩, cells2 hl c0 c1, ho, ?_⟩
  rw [hx, bulk2 hxl e0 e1]
  simp only [SubD.m]
  omega
theorem SubSl.of_trod {n : Nat} {v : Value} {y : DataW H × List MemPlace} (h : DataW.trod enc Tryd.prog w 0 (fun _ => true) true n 32 [v] = some y) : ∃ ss, SubSl w w.heap.size v ss ∧ (ss.map SubD.m).sum + 1 ≤ Rows.uptoBulk y.1 := by
  obtain ⟨A, c, xs, e, hc, h1, h3, h2⟩ := open_row (f := SubD.cells) (ok := fun s => OptSl w w.heap.size s.ov s.opts) (μ := SubD.m) Tryd.underlying32 (by kernel_rfl) (by omega) h SubD.len (fun m cs y hl ht => SubD.of_trod hl ht)
  exact ⟨xs, ⟨A, c, e, hc, h1, h3⟩, h2⟩
theorem SecD.of_trod {m : Nat} {cs : List Value} {x : DataW H × List MemPlace} (hl : cs.length = 3) (h : DataW.trod enc Tryd.prog w 0 (fun _ => true) true m 34 cs = some x) :
    ∃ o : SecD, cs = o.cells ∧ (OptSl w w.heap.size o.ov o.opts ∧ SubSl w w.heap.size o.sv o.subs) ∧ o.m ≤ Rows.uptoBulk x.1 := by
  obtain ⟨xs, hx, hxl, hf⟩ := field_b Tryd.underlying34 h
  obtain ⟨n0, y0, e0, h0⟩ := hf 0 9 0 1 (by kernel_rfl) (by kernel_rfl)
  obtain ⟨n1, y1, e1, h1⟩ := hf 1 31 1 1 (by kernel_rfl) (by kernel_rfl)
  obtain ⟨n2, y2, e2, h2⟩ := hf 2 32 2 1 (by kernel_rfl) (by kernel_rfl)
  obtain ⟨k, c0, b0⟩ := leaf_string_b Tryd.underlying9 h0
  obtain ⟨v, c1, t1⟩ := leaf_any (by omega) h1
  obtain ⟨u, c2, t2⟩ := leaf_any (by omega) h2
  obtain ⟨os, ho, b1⟩ := OptSl.of_trod t1
  obtain ⟨ss, hs, b2⟩ := SubSl.of_trod t2
  refine ⟨⟨k, v, os, u, ss⟩, cells3 hl c0 c1 c2, ⟨ho, hs⟩, ?_⟩
  rw [hx, bulk3 hxl e0 e1 e2]
  simp only [SecD.m]
  omega
theorem SecSl.of_trod {n : Nat} {v : Value} {y : DataW H × List MemPlace} (h : DataW.trod enc Tryd.prog w 0 (fun _ => true) true n 28 [v] = some y) : ∃ ss, SecSl w w.heap.size v ss ∧ (ss.map SecD.m).sum + 1 ≤ Rows.uptoBulk y.1 := by
  obtain ⟨A, c, xs, e, hc, h1, h3, h2⟩ := open_row (f := SecD.cells) (ok := fun s => OptSl w w.heap.size s.ov s.opts ∧ SubSl w w.heap.size s.sv s.subs) (μ := SecD.m) Tryd.underlying28 (by kernel_rfl) (by omega) h SecD.len (fun m cs y hl ht => SecD.of_trod hl ht)
  exact ⟨xs, ⟨A, c, e, hc, h1, h3⟩, h2⟩
end
end Go.Proofs.YtmhcbgmnhcfhfaaDoor.cf
