/- Slices of structs out of a row's arguments, whatever the structs hold: field by field, and the bound on each part. -/
import Derived.Test.YtoihglnamclhfaaDoorMem
import Derived.ProofKit
import Derived.SizedLaws
import Derived.Deep.Slices
import Derived.ChangeArms
set_option linter.unusedVariables false
namespace Go.Proofs.YtoihglnamclhfaaDoor.opn
open Go.RowKit Lib mem Go.ChangeShapes Go.WideShapes Go.ChangeAt

section
variable {H : Type} {enc : TypeId × Value → H} {P : Program} {w : World} {base : Nat} {spare : Nat → Bool} {held : Bool}
theorem drop_take_in (cs : List Value) (o c a b : Nat) (h : a + b ≤ c) : ((((cs.drop o).take c).drop a).take b) = (cs.drop (o + a)).take b := by
  rw [List.drop_take, List.take_take, List.drop_drop, Nat.min_eq_left (by omega)]
theorem field_in {t : TypeId} {fs : Array Field} {fuel : Nat} {cs : List Value} {x : DataW H × List MemPlace} (ht : P.underlying t = some (.struct fs)) (h : DataW.trod enc P w base spare held fuel t cs = some x) (i : Nat) (ti oi ci : Nat)
    (hi : (fs.toList[i]?).map (fun f => (f.type, f.offset)) = some (ti, oi)) (hc : P.cellsOf ti = ci) :
    ∃ n y, DataW.trod enc P w base spare held n ti ((cs.drop oi).take ci) = some y ∧ ∀ k ∈ y.1.weights P ti, k ∈ x.1.weights P t := by
  obtain ⟨xs, n, hn, hx, hl, hxl, hf⟩ := DataW.trod_struct ht h
  obtain ⟨f, hfi, hfe⟩ := Option.map_eq_some_iff.1 hi
  have hfi' : fs[i]? = some f := by simpa using hfi
  simp only [Prod.mk.injEq] at hfe
  obtain ⟨rfl, rfl⟩ := hfe
  have h1 := hf i f hfi'
  have hil : i < xs.length := by rw [hxl]; exact (Array.getElem?_eq_some_iff.1 hfi').1
  rw [hc, List.getElem?_eq_getElem hil] at h1
  refine ⟨n, xs[i], h1, fun k hk => ?_⟩
  rw [hx]
  simp only [DataW.weights, ht]
  exact DataW.weights_mem_each (j := i) (by rw [List.getElem?_map, hfi]; rfl) (by rw [List.getElem?_map, List.getElem?_eq_getElem hil]; rfl) k hk
theorem one_of {cs : List Value} {o : Nat} {v : Value} (h : (cs.drop o).take 1 = [v]) : cs[o]? = some v := by
  have := congrArg (·[0]?) h
  simpa [List.getElem?_take, List.getElem?_drop] using this
theorem leaf_int {k : IntKind} {n ti o : Nat} {cs : List Value} {y : DataW H × List MemPlace} (ht : P.underlying ti = some (.int k)) (h : DataW.trod enc P w base spare held n ti ((cs.drop o).take 1) = some y) : ∃ z, cs[o]? = some (.int k z) ∧ (Lit.int k z).wf = true := by
  obtain ⟨z, h1, _, h2⟩ := DataW.trod_int ht h
  exact ⟨z, one_of h1, h2⟩
theorem leaf_bool {n ti o : Nat} {cs : List Value} {y : DataW H × List MemPlace} (ht : P.underlying ti = some .bool) (h : DataW.trod enc P w base spare held n ti ((cs.drop o).take 1) = some y) : ∃ b, cs[o]? = some (.bool b) := by
  obtain ⟨z, h1, _⟩ := DataW.trod_bool ht h
  exact ⟨z, one_of h1⟩
theorem leaf_string {n ti o : Nat} {cs : List Value} {y : DataW H × List MemPlace} (ht : P.underlying ti = some .string) (h : DataW.trod enc P w base spare held n ti ((cs.drop o).take 1) = some y) (hz : ∀ k ∈ y.1.weights P ti, k ≤ reachBytes) : ∃ s : ByteArray, cs[o]? = some (.string s) ∧ s.size ≤ 140737488351232 := by
  obtain ⟨s, h1, h2, _⟩ := DataW.trod_string ht h
  refine ⟨s, one_of h1, ?_⟩
  rw [h2] at hz
  have := hz s.data.toList.length (by simp [DataW.weights])
  simpa [reachBytes] using this
theorem leaf_any {n ti o : Nat} {cs : List Value} {y : DataW H × List MemPlace} (hl : o < cs.length) (h : DataW.trod enc P w base spare held n ti ((cs.drop o).take 1) = some y) : ∃ v, cs[o]? = some v ∧ DataW.trod enc P w base spare held n ti [v] = some y := by
  refine ⟨cs[o], List.getElem?_eq_getElem hl, ?_⟩
  have e : (cs.drop o).take 1 = [cs[o]] := by rw [List.drop_eq_getElem_cons hl]; rfl
  rwa [e] at h
theorem weights_all {e : TypeId} {l : List (DataW H)} {i : Nat} {d : DataW H} (h : l[i]? = some d) : ∀ k ∈ d.weights P e, k ∈ DataW.weightsAll P e l := by
  induction l generalizing i with
  | nil => simp at h
  | cons a r ih =>
    intro k hk
    simp only [DataW.weightsAll, List.mem_append]
    cases i with
    | zero => simp at h; subst h; exact .inl hk
    | succ i => exact .inr (ih (by simpa using h) k hk)
theorem flat_at {α : Type} (f : α → List Value) (size : Nat) : ∀ (xs : List α) (j : Nat) (u : Value), (∀ x ∈ xs, (f x).length = size) → (xs.flatMap f)[j]? = some u → ∃ i x, xs[i]? = some x ∧ i * size ≤ j ∧ j - i * size < size ∧ (f x)[j - i * size]? = some u
  | [], j, u, _, h => by simp at h
  | x :: xs, j, u, hs, h => by
    have hx := hs x (List.mem_cons_self ..)
    rw [List.flatMap_cons] at h
    by_cases hj : j < size
    · rw [List.getElem?_append_left (by omega)] at h
      exact ⟨0, x, rfl, by omega, by omega, by simpa using h⟩
    · rw [List.getElem?_append_right (by omega), hx] at h
      obtain ⟨i, y, h1, h2, h3, h4⟩ := flat_at f size xs (j - size) u (fun y hy => hs y (List.mem_cons_of_mem _ hy)) h
      have e : (i + 1) * size = i * size + size := Nat.succ_mul i size
      refine ⟨i + 1, y, by simpa using h1, by omega, by omega, ?_⟩
      rw [show j - (i + 1) * size = j - size - i * size by omega]
      exact h4
theorem flat_get {α : Type} (f : α → List Value) (size : Nat) : ∀ (xs : List α) (k i : Nat) (x : α), (∀ x ∈ xs, (f x).length = size) → xs[k]? = some x → i < size → (xs.flatMap f)[k * size + i]? = (f x)[i]?
  | [], k, i, x, _, h, _ => by simp at h
  | a :: xs, 0, i, x, hs, h, hi => by
    obtain rfl : a = x := by simpa using h
    rw [List.flatMap_cons, List.getElem?_append_left (by rw [hs a (List.mem_cons_self ..)]; omega)]
    congr 1
    omega
  | a :: xs, k + 1, i, x, hs, h, hi => by
    have e : (k + 1) * size = k * size + size := Nat.succ_mul k size
    rw [List.flatMap_cons, List.getElem?_append_right (by rw [hs a (List.mem_cons_self ..)]; omega), hs a (List.mem_cons_self ..)]
    rw [← flat_get f size xs k i x (fun y hy => hs y (List.mem_cons_of_mem _ hy)) (by simpa using h) hi]
    congr 1
    omega
theorem flat_len {α : Type} (f : α → List Value) (size : Nat) : ∀ (xs : List α), (∀ x ∈ xs, (f x).length = size) → (xs.flatMap f).length = xs.length * size
  | [], _ => by simp
  | x :: xs, hs => by
    have := flat_len f size xs (fun y hy => hs y (List.mem_cons_of_mem _ hy))
    have e : (xs.length + 1) * size = xs.length * size + size := Nat.succ_mul _ size
    rw [List.flatMap_cons, List.length_append, this, hs x (List.mem_cons_self ..), List.length_cons]
    omega
theorem flat_of {w : World} {a : Addr} {v : Value} (h : w.cell? a = some v) : a = ⟨a.block, a.off, none⟩ ∧ a.block < w.heap.size := by
  unfold World.cell? at h
  split at h
  · rename_i c t f hb
    split at h
    · cases h
    · rename_i hs
      refine ⟨?_, ?_⟩
      · cases a with
        | mk b o s => simp at hs; subst hs; rfl
      · rcases Nat.lt_or_ge a.block w.heap.size with h' | h'
        · exact h'
        · simp [Array.getElem?_eq_none h'] at hb
  · cases h
/-- a slice that reads as a row of structs -/
def Structs {α : Type} (f : α → List Value) (size : Nat) (w : World) (B : Nat) (A : Option Addr) (n : Nat) (xs : List α) : Prop :=
  Reads w B size A n (xs.flatMap f) ∧ xs.length = n ∧ (0 < n → ∃ g o, A = some ⟨g, o, none⟩)
theorem Structs.at_ {α : Type} {f : α → List Value} {size : Nat} {w : World} {B : Nat} {A : Option Addr} {n : Nat} {xs : List α} (h : Structs f size w B A n xs) (hs : ∀ x ∈ xs, (f x).length = size) {k : Nat} (hk : k < n) :
    ∃ g o x, A = some ⟨g, o, none⟩ ∧ g < B ∧ xs[k]? = some x ∧ x ∈ xs ∧ ∀ i u, (f x)[i]? = some u → w.cell? ⟨g, o + (k * size + i), none⟩ = some u := by
  obtain ⟨h1, h2, h3⟩ := h
  obtain ⟨g, o, rfl⟩ := h3 (by omega)
  obtain ⟨ad, e, hb, hc⟩ := h1.2 (by omega)
  injection e with e
  subst e
  refine ⟨g, o, xs[k]'(by omega), rfl, hb, List.getElem?_eq_getElem (by omega), List.getElem_mem .., fun i u hu => ?_⟩
  have hi : i < size := by
    have := (List.getElem?_eq_some_iff.1 hu).1
    rw [hs _ (List.getElem_mem ..)] at this
    exact this
  have := hc (k * size + i) u (by rw [flat_get f size xs k i _ hs (List.getElem?_eq_getElem (by omega)) hi]; exact hu)
  rwa [Lib.addr_add] at this
theorem Structs.below {α : Type} {f : α → List Value} {size : Nat} {w w' : World} {B : Nat} {A : Option Addr} {n : Nat} {xs : List α} (h : Structs f size w B A n xs) (hb : Below B w w') : Structs f size w' B A n xs := ⟨h.1.below hb, h.2⟩
theorem arg_structs {α : Type} [Inhabited α] {f : α → List Value} {size : Nat} {t e : TypeId} (ht : P.underlying t = some (.slice e)) (hC : P.cellsOf e = size) (h1 : 0 < size) {A : Option Addr} {n c : Nat} {d : DataW H} {p : List MemPlace} {ok : α → Prop}
    (h0 : DataW.Trod enc P w 0 (fun _ => true) true t (.slice A n c) d p) (hz : ∀ k ∈ d.weights P t, k ≤ reachBytes)
    (hQ : ∀ m cs y, cs.length = size → DataW.trod enc P w 0 (fun _ => true) true m e cs = some y → (∀ k ∈ y.1.weights P e, k ≤ reachBytes) → ∃ x : α, cs = f x ∧ ok x) :
    ∃ xs : List α, n ≤ c ∧ c ≤ maxLen ∧ c * P.bytesOf e ≤ reachBytes ∧ Structs f size w w.heap.size A n xs ∧ (∀ x ∈ xs, ok x ∧ (f x).length = size) := by
  obtain ⟨fuel, hf⟩ := h0
  rcases Deep.open_slice ht hf with ⟨hcs, hx⟩ | ⟨a, len, cap, m, k, D, Pl, hcs, _, hl, hm, hmm, hx, hcell⟩
  · simp [Value.cells] at hcs
    obtain ⟨rfl, rfl, rfl⟩ := hcs
    exact ⟨[], Nat.le_refl _, by decide, by omega, ⟨⟨by simp, fun h => absurd h (by omega)⟩, rfl, fun h => absurd h (by omega)⟩, by simp⟩
  · simp [Value.cells] at hcs
    obtain ⟨rfl, rfl, rfl⟩ := hcs
    simp only [if_true] at hmm
    subst hmm
    simp only [Prod.mk.injEq] at hx
    rw [hx.1] at hz
    simp only [DataW.weights, ht] at hz
    have hw := hz _ (List.mem_cons_self ..)
    have hel : ∀ i, i < n → ∃ x : α, (∀ j, j < size → w.cell? ((a.add (i * size)).add j) = (f x)[j]?) ∧ ok x ∧ (f x).length = size := by
      intro i hi
      obtain ⟨cs', hc', ht'⟩ := hcell i (by omega)
      rw [hC] at hc'
      obtain ⟨_, hcl, hat⟩ := World.cells?_some hc'
      obtain ⟨x, hx1, hx2⟩ := hQ _ _ _ hcl ht' (fun k' hk' => hz k' (List.mem_cons_of_mem _ (List.mem_append_left _ (weights_all (i := i) (by simp [hi]) k' hk'))))
      exact ⟨x, fun j hj => by rw [← hx1]; exact hat j hj, hx2, by rw [← hx1]; exact hcl⟩
    obtain ⟨X, hX⟩ := Deep.choose_lt hel
    have hmem : ∀ x ∈ (List.range n).map X, ok x ∧ (f x).length = size := fun x hx => by
      obtain ⟨i, hi, rfl⟩ := List.mem_map.1 hx
      exact (hX i (by simpa using hi)).2
    have hlen := flat_len f size ((List.range n).map X) (fun x hx => (hmem x hx).2)
    have h9 : 0 < n → a = ⟨a.block, a.off, none⟩ ∧ a.block < w.heap.size := fun hn => by
      have h2 := (hX 0 hn).1 0 h1
      have h3 : (f (X 0))[0]? = some ((f (X 0))[0]'(by rw [(hX 0 hn).2.2]; exact h1)) := List.getElem?_eq_getElem _
      rw [h3] at h2
      have h4 := flat_of h2
      have ea : (a.add (0 * size)).add 0 = a := by simp [Addr.add]
      rw [ea] at h4
      exact h4
    refine ⟨(List.range n).map X, hl, hm, by have e : n + (m - n) = m := (by omega); simpa [e] using hw, ⟨⟨by rw [hlen]; simp, fun hn => ⟨a, rfl, (h9 hn).2, fun j u hu => ?_⟩⟩, by simp, fun hn => ⟨a.block, a.off, by rw [← (h9 hn).1]⟩⟩, hmem⟩
    obtain ⟨i, x, g1, g2, g3, g4⟩ := flat_at f size _ j u (fun x hx => (hmem x hx).2) hu
    have hin : i < n := by have := (List.getElem?_eq_some_iff.1 g1).1; simpa using this
    have hxe : X i = x := by simpa [hin] using g1
    have := (hX i hin).1 (j - i * size) g3
    rw [hxe, g4, add_of_add, show i * size + (j - i * size) = j by omega] at this
    exact this
end
end Go.Proofs.YtoihglnamclhfaaDoor.opn
