/- Slices of texts: what one reads as, and an argument of that type opened. -/
import Derived.Test.YtoihglnamclhfaaDoorMem
import Derived.Test.YtoihglnamclhfaaDoorText
import Derived.ProofKit
import Derived.ChangeSlices
import Derived.Deep.Strs
set_option linter.unusedVariables false
namespace Go.Proofs.YtoihglnamclhfaaDoor.mem
open Go.RowKit Lib Go.ChangeShapes Go.WideShapes Go.ChangeAt text

def strCells (l : List (List UInt8)) : List Value := l.map fun x => .string (ofL x)
/-- a slice that reads as texts -/
def Strs (w : World) (B : Nat) (A : Option Addr) (n : Nat) (l : List (List UInt8)) : Prop := Reads w B 1 A n (strCells l) ∧ (0 < n → ∃ g o, A = some ⟨g, o, none⟩)
section
variable {w w' : World} {B B' n : Nat} {A : Option Addr} {l : List (List UInt8)}
theorem Strs.len (h : Strs w B A n l) : l.length = n := by have := h.1.1; simpa [strCells] using this
theorem Strs.next (h : Strs w B A n l) {k : Nat} (hk : k < n) :
    ∃ g o x, A = some ⟨g, o, none⟩ ∧ g < B ∧ w.cell? ⟨g, o + k, none⟩ = some (.string (ofL x)) ∧ l.drop k = x :: l.drop (k + 1) ∧ l[k]? = some x := by
  have hl := h.len
  obtain ⟨ad, u, h1, hb, h2, h3⟩ := Reads.at_ (k := k) h.1 hk
  obtain ⟨g, o, h4⟩ := h.2 (by omega)
  have e : ad = ⟨g, o, none⟩ := by rw [h1] at h4; injection h4
  subst e
  rw [Lib.addr_add] at h3
  refine ⟨g, o, l[k], h1, hb, h3.trans ?_, List.drop_eq_getElem_cons (by omega), List.getElem?_eq_getElem (by omega)⟩
  rw [← h2]; simp [strCells, hl, hk]
theorem Strs.cutAt (h : Strs w B A n l) {k cap : Nat} (hk : k ≤ n) (hc : n ≤ cap) : Strs w B (if cap = k then A else A.map (·.add k)) (n - k) (l.drop k) := by
  have := Reads.cut (k := k) (cap := cap) h.1 hk hc
  simp only [Nat.mul_one] at this
  refine ⟨?_, fun hn => ?_⟩
  · rw [show strCells (l.drop k) = (strCells l).drop k from by simp [strCells]]
    exact this
  · obtain ⟨g, o, e⟩ := h.2 (by omega)
    rw [if_neg (by omega), e]
    exact ⟨g, o + k, by simp [Lib.addr_add]⟩
theorem Strs.nil_ : Strs w B A 0 [] := ⟨⟨by simp [strCells], fun h => absurd h (by omega)⟩, fun h => absurd h (by omega)⟩
theorem Strs.more (h : Strs w B A n l) (hB : B ≤ B') : Strs w B' A n l := ⟨h.1.more hB, h.2⟩
theorem Strs.below (h : Strs w B A n l) (hb : Below B w w') : Strs w' B A n l := ⟨h.1.below hb, h.2⟩
theorem Strs.grown {row : Option Nat} (h : Strs w B A n l) (hg : w.grownBy w' row) (hB : B ≤ w.heap.size) (hr : ∀ g, row = some g → B ≤ g) : Strs w' B A n l := ⟨h.1.grown hg hB hr, h.2⟩
theorem Strs.alloc (h : Strs w B A n l) (hB : B ≤ w.heap.size) (o : Obj) : Strs (w.alloc o) B A n l := ⟨h.1.alloc hB o, h.2⟩
theorem Strs.setCell (h : Strs w B A n l) {p : Addr} (hB : B ≤ p.block) (u : Value) : Strs (w.setCell p u) B A n l := ⟨h.1.setCell hB u, h.2⟩
theorem Strs.keep (h : Strs w B A n l) (hk : ∀ p : Addr, p.block < B → w'.cell? p = w.cell? p) : Strs w' B A n l := ⟨h.1.keep hk, h.2⟩
theorem strCells_one (l : List (List UInt8)) : ∀ u ∈ strCells l, u.oneCell' = true := by
  intro u hu; simp only [strCells, List.mem_map] at hu; obtain ⟨b, _, rfl⟩ := hu; rfl
end
theorem own_strs {w : World} {B n : Nat} {e : TypeId} {v : Value} {l : List (List UInt8)} (h : w.ownsRow B e 1 v n (strCells l)) : ∃ A c, v = .slice A n c ∧ n ≤ c ∧ Strs w w.heap.size A n l := by
  rcases id h with ⟨hl, ⟨rfl, h0⟩ | ⟨g, cap, cur, rfl, hBg, hg, hnc, hcm, hcs, htk⟩⟩
  · subst h0
    have : l = [] := List.eq_nil_of_length_eq_zero (by simpa [strCells] using hl)
    subst this
    exact ⟨_, _, rfl, Nat.le_refl _, Strs.nil_⟩
  · exact ⟨_, _, rfl, hnc, Reads.of_own h, fun _ => ⟨g, 0, rfl⟩⟩
theorem flat_cell {w : World} {a : Addr} {v : Value} (h : w.cell? a = some v) : a = ⟨a.block, a.off, none⟩ ∧ a.block < w.heap.size := by
  unfold World.cell? at h
  split at h
  · rename_i c t f hb
    split at h
    · cases h
    · rename_i hs
      refine ⟨?_, ?_⟩
      · cases a with
        | mk b o s => cases s with
          | none => rfl
          | some x => simp at hs
      · rcases Nat.lt_or_ge a.block w.heap.size with h' | h'
        · exact h'
        · simp [Array.getElem?_eq_none h'] at hb
  · cases h
theorem arg_strs {H : Type} {enc : TypeId × Value → H} {P : Program} {W : World} {t e : TypeId} (ht : P.underlying t = some (.slice e)) (he : P.underlying e = some .string) (hc : P.cellsOf e = 1) {A : Option Addr} {n c : Nat} {d : DataW H} {p : List MemPlace}
    (h0 : DataW.Trod enc P W 0 (fun _ => true) true t (.slice A n c) d p) :
    ∃ l, n ≤ c ∧ c ≤ maxLen ∧ Strs W W.heap.size A n l ∧ ∀ x ∈ l, x.length ≤ maxLen := by
  obtain ⟨fuel, hf⟩ := h0
  rcases Deep.open_strs ht he hc hf with ⟨hcs, hx⟩ | ⟨a, len, cap, m, Sx, hcs, _, hl, hm, hmm, hx, hcell⟩
  · simp [Value.cells] at hcs
    obtain ⟨rfl, rfl, rfl⟩ := hcs
    exact ⟨[], Nat.le_refl _, by decide, Strs.nil_, by simp⟩
  · simp [Value.cells] at hcs
    obtain ⟨rfl, rfl, rfl⟩ := hcs
    simp only [if_true] at hmm
    refine ⟨(List.range n).map fun i => (Sx i).data.toList, hl, hm, ?_, ?_⟩
    · refine ⟨⟨by simp [strCells], fun hn => ⟨a, rfl, (flat_cell (hcell 0 (by omega)).1).2 |> fun h => by simpa [block_of_add] using h, fun j u hu => ?_⟩⟩, fun hn => ?_⟩
      · have hj : j < n := by
          have := (List.getElem?_eq_some_iff.1 hu).1
          simpa [strCells] using this
        rw [(hcell j (by omega)).1]
        simp only [strCells, List.map_map, List.getElem?_map, List.getElem?_range hj] at hu
        simpa [ofL] using hu
      · have h1 := flat_cell (hcell 0 (by omega)).1
        have ea : a.add 0 = a := by unfold Addr.add; simp
        rw [ea] at h1
        exact ⟨_, _, by rw [h1.1]⟩
    · intro x hx
      simp only [List.mem_map, List.mem_range] at hx
      obtain ⟨i, hi, rfl⟩ := hx
      have := (hcell i (by omega)).2
      simpa using this
end Go.Proofs.YtoihglnamclhfaaDoor.mem
