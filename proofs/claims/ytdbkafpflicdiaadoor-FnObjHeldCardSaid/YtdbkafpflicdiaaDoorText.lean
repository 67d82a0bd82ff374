/- Plain functions over texts: where a text stands in another one, the pieces between a byte. Nothing of any program. -/
import Derived.Test.YtdbkafpflicdiaaDoorProg
set_option linter.unusedVariables false
namespace Go.Proofs.YtdbkafpflicdiaaDoor.text

/-- where p first stands in l -/
def find (p : List UInt8) : List UInt8 → Option Nat
  | [] => if p = [] then some 0 else none
  | c :: t => if p.isPrefixOf (c :: t) then some 0 else (find p t).map (· + 1)
theorem find_hit (p l : List UInt8) (h : p.isPrefixOf l = true) : find p l = some 0 := by
  cases l with
  | nil => cases p with | nil => rfl | cons a b => simp at h
  | cons c t => rw [find, if_pos h]
theorem find_miss (p : List UInt8) (c : UInt8) (t : List UInt8) (h : p.isPrefixOf (c :: t) = false) : find p (c :: t) = (find p t).map (· + 1) := by
  rw [find, if_neg (by simp [h])]
theorem find_short (p l : List UInt8) (h : l.length < p.length) : find p l = none := by
  induction l with
  | nil => rw [find, if_neg]; intro e; subst e; simp at h
  | cons c t ih =>
    have hp : p.isPrefixOf (c :: t) = false := by
      rw [Bool.eq_false_iff]; intro hp
      have := (List.isPrefixOf_iff_prefix.1 hp).length_le
      omega
    rw [find_miss _ _ _ hp, ih (by simp at h ⊢; omega)]; rfl
theorem prefix_take (p l : List UInt8) : p.isPrefixOf l = (l.take p.length == p) := by
  rw [Bool.eq_iff_iff, List.isPrefixOf_iff_prefix, beq_iff_eq, List.prefix_iff_eq_take]
  exact ⟨fun h => h.symm, fun h => h.symm⟩
theorem find_lt {p l : List UInt8} {i : Nat} (h : find p l = some i) : i + p.length ≤ l.length := by
  induction l generalizing i with
  | nil => rw [find] at h; split at h <;> simp at h; subst h; rename_i e; simp [e]
  | cons c t ih =>
    rw [find] at h
    split at h
    · rename_i hp; cases h
      have := (List.isPrefixOf_iff_prefix.1 hp).length_le
      omega
    · cases hf : find p t with
      | none => rw [hf] at h; cases h
      | some j => rw [hf] at h; cases h; have := ih hf; simp; omega
/-- does p stand in l -/
def has (p l : List UInt8) : Bool := (find p l).isSome
def findInt (p l : List UInt8) : Int := match find p l with | some i => i | none => -1

/-- what the search has still to look through -/
theorem find_drop_hit (p l : List UInt8) (i : Nat) (h : find p l = (find p (l.drop i)).map (· + i)) (hp : p.isPrefixOf (l.drop i) = true) : find p l = some i := by
  rw [h, find_hit _ _ hp]; simp
theorem find_drop_miss (p l : List UInt8) (i : Nat) (hi : i < l.length) (h : find p l = (find p (l.drop i)).map (· + i)) (hp : p.isPrefixOf (l.drop i) = false) :
    find p l = (find p (l.drop (i + 1))).map (· + (i + 1)) := by
  rw [h]
  rw [List.drop_eq_getElem_cons hi] at hp ⊢
  rw [find_miss _ _ _ hp]
  cases find p (l.drop (i + 1)) <;> simp; omega
theorem find_drop_none (p l : List UInt8) (i : Nat) (hi : i ≤ l.length) (h : find p l = (find p (l.drop i)).map (· + i)) (hs : l.length < i + p.length) : find p l = none := by
  rw [h, find_short p _ (by simp; omega)]; rfl

/-- the pieces of a text between bytes c -/
def pieces (c : UInt8) : List UInt8 → List (List UInt8)
  | [] => [[]]
  | x :: t => if x = c then [] :: pieces c t else (match pieces c t with | h :: r => (x :: h) :: r | [] => [[x]])
theorem pieces_ne (c : UInt8) (l : List UInt8) : pieces c l ≠ [] := by
  cases l with
  | nil => simp [pieces]
  | cons x t => rw [pieces]; split; simp; split <;> simp
theorem find_one (c x : UInt8) (t : List UInt8) : find [c] (x :: t) = if x = c then some 0 else (find [c] t).map (· + 1) := by
  rw [find]
  by_cases h : x = c
  · rw [if_pos h, if_pos (by simp [h])]
  · rw [if_neg h, if_neg (by simp; exact fun e => h e.symm)]
theorem pieces_none (c : UInt8) (l : List UInt8) (h : find [c] l = none) : pieces c l = [l] := by
  induction l with
  | nil => rfl
  | cons x t ih =>
    rw [find_one] at h
    by_cases hx : x = c
    · rw [if_pos hx] at h; cases h
    · rw [if_neg hx] at h
      rw [pieces, if_neg hx, ih (by simpa using h)]
theorem pieces_some (c : UInt8) (l : List UInt8) (i : Nat) (h : find [c] l = some i) : pieces c l = l.take i :: pieces c (l.drop (i + 1)) := by
  induction l generalizing i with
  | nil => rw [find] at h; simp at h
  | cons x t ih =>
    rw [find_one] at h
    by_cases hx : x = c
    · rw [if_pos hx] at h; cases h
      rw [pieces, if_pos hx]; rfl
    · rw [if_neg hx] at h
      cases hf : find [c] t with
      | none => rw [hf] at h; cases h
      | some j =>
        rw [hf] at h; cases h
        rw [pieces, if_neg hx, ih j hf]; rfl
theorem pieces_append (c : UInt8) (a b : List UInt8) (h : ∀ x ∈ a, x ≠ c) : pieces c (a ++ c :: b) = a :: pieces c b := by
  induction a with
  | nil => simp [pieces]
  | cons x t ih =>
    rw [List.cons_append, pieces, if_neg (h x (by simp)), ih (fun y hy => h y (by simp [hy]))]
theorem pieces_alone (c : UInt8) (a : List UInt8) (h : ∀ x ∈ a, x ≠ c) : pieces c a = [a] := by
  induction a with
  | nil => rfl
  | cons x t ih => rw [pieces, if_neg (h x (by simp)), ih (fun y hy => h y (by simp [hy]))]
theorem pieces_len (c : UInt8) (l : List UInt8) : (pieces c l).length ≤ l.length + 1 := by
  induction l with
  | nil => simp [pieces]
  | cons x t ih =>
    rw [pieces]; split
    · simp; omega
    · split
      · rename_i h; rw [h] at ih; simp at ih ⊢; omega
      · simp
def ofL (l : List UInt8) : ByteArray := ⟨l.toArray⟩
theorem ofL_data (s : ByteArray) : ofL s.data.toList = s := rfl
theorem data_ofL (l : List UInt8) : (ofL l).data.toList = l := rfl
theorem ofL_size (l : List UInt8) : (ofL l).size = l.length := by simp [ofL, ByteArray.size]
theorem extract_ofL (s : ByteArray) (i j : Nat) : (s.extract i j).data.toList = (s.data.toList.take j).drop i := by
  rw [ByteArray.data_extract, Array.toList_extract, List.extract_eq_take_drop, List.drop_take]
end Go.Proofs.YtdbkafpflicdiaaDoor.text
