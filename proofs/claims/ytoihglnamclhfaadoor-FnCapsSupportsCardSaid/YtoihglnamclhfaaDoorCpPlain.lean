/- Capabilities as plain data: the text of a list, and its pieces. Nothing of any program. -/
import Derived.Test.YtoihglnamclhfaaDoorText
import Derived.Lib.BytesSpace
set_option linter.unusedVariables false
namespace Go.Proofs.YtoihglnamclhfaaDoor.cap
open text

/-- a letter, a digit, or one of . / : - _ -/
def wordB (c : UInt8) : Bool := (97 ≤ c && c ≤ 122) || (65 ≤ c && c ≤ 90) || (48 ≤ c && c ≤ 57) || c == 46 || c == 47 || c == 58 || c == 45 || c == 95
def Word (s : List UInt8) : Prop := (∀ c ∈ s, wordB c = true) ∧ 1 ≤ s.length ∧ s.length ≤ 60
structure Cap where
  name : List UInt8
  vals : List (List UInt8)
def agentN : List UInt8 := [97, 103, 101, 110, 116]
def symrefN : List UInt8 := [115, 121, 109, 114, 101, 102]
def bytesOf (s : String) : List UInt8 := s.toUTF8.data.toList
/-- the names that have no value -/
def plainN : List (List UInt8) := [
  [109, 117, 108, 116, 105, 95, 97, 99, 107],
  [109, 117, 108, 116, 105, 95, 97, 99, 107, 95, 100, 101, 116, 97, 105, 108, 101, 100],
  [110, 111, 45, 100, 111, 110, 101],
  [116, 104, 105, 110, 45, 112, 97, 99, 107],
  [115, 105, 100, 101, 45, 98, 97, 110, 100],
  [115, 105, 100, 101, 45, 98, 97, 110, 100, 45, 54, 52, 107],
  [111, 102, 115, 45, 100, 101, 108, 116, 97],
  [115, 104, 97, 108, 108, 111, 119],
  [110, 111, 45, 112, 114, 111, 103, 114, 101, 115, 115],
  [105, 110, 99, 108, 117, 100, 101, 45, 116, 97, 103],
  [114, 101, 112, 111, 114, 116, 45, 115, 116, 97, 116, 117, 115],
  [100, 101, 108, 101, 116, 101, 45, 114, 101, 102, 115],
  [113, 117, 105, 101, 116],
  [97, 116, 111, 109, 105, 99],
  [97, 108, 108, 111, 119, 45, 116, 105, 112, 45, 115, 104, 97, 49, 45, 105, 110, 45, 119, 97, 110, 116],
  [97, 108, 108, 111, 119, 45, 114, 101, 97, 99, 104, 97, 98, 108, 101, 45, 115, 104, 97, 49, 45, 105, 110, 45, 119, 97, 110, 116]]
def GoodC (c : Cap) : Prop := (∀ v ∈ c.vals, Word v) ∧ (c.name = agentN ∧ c.vals.length = 1 ∨ c.name = symrefN ∧ 1 ≤ c.vals.length ∧ c.vals.length ≤ 60 ∨ c.name ∈ plainN ∧ c.vals = [])
def GoodL (l : List Cap) : Prop := (∀ c ∈ l, GoodC c) ∧ (l.map Cap.name).Nodup ∧ l.length ≤ 60
/-- the pieces that tell of one -/
def items (c : Cap) : List (List UInt8) := if c.vals = [] then [c.name] else c.vals.map fun v => c.name ++ 61 :: v
def addT (T s : List UInt8) : List UInt8 := if T = [] then s else T ++ 32 :: s
def capsText (l : List Cap) : List UInt8 := (l.flatMap items).foldl addT []
/-- a name or a value: bytes of words, some -/
def Some1 (s : List UInt8) : Prop := (∀ c ∈ s, wordB c = true) ∧ 1 ≤ s.length ∧ s.length ≤ 60
theorem good_name {c : Cap} (h : GoodC c) : Some1 c.name := by
  obtain ⟨_, h | h | h⟩ := h
  · rw [h.1]; unfold agentN Some1; decide
  · rw [h.1]; unfold symrefN Some1; decide
  · have : ∀ n ∈ plainN, (n.all wordB && decide (1 ≤ n.length) && decide (n.length ≤ 60)) = true := by unfold plainN; decide
    have := this _ h.1
    simp only [Bool.and_eq_true, decide_eq_true_eq, List.all_eq_true] at this
    exact ⟨this.1.1, this.1.2, this.2⟩
/-- a byte that is no blank and below 128 -/
def inkB (c : UInt8) : Bool := 33 ≤ c && c ≤ 126
set_option maxRecDepth 100000 in
theorem ink_fin : ∀ n : Fin 256, wordB (UInt8.ofNat n.val) = true → inkB (UInt8.ofNat n.val) = true := by decide
theorem ink_of_word {c : UInt8} (h : wordB c = true) : inkB c = true := by
  have := ink_fin ⟨c.toNat, c.toNat_lt⟩
  simp only [UInt8.ofNat_toNat] at this
  exact this h
theorem word_ne {c : UInt8} (h : wordB c = true) : c ≠ 61 ∧ c ≠ 32 := by
  constructor <;> rintro rfl <;> revert h <;> decide
def Ink (s : List UInt8) : Prop := (∀ c ∈ s, inkB c = true) ∧ 1 ≤ s.length ∧ s.length ≤ 121
theorem items_ink {c : Cap} (h : GoodC c) : ∀ s ∈ items c, Ink s := by
  have hn := good_name h
  unfold items
  split
  · intro s hs
    obtain rfl : s = c.name := by simpa using hs
    exact ⟨fun b hb => ink_of_word (hn.1 b hb), hn.2.1, by have := hn.2.2; omega⟩
  · intro s hs
    obtain ⟨v, hv, rfl⟩ := List.mem_map.1 hs
    have h1 := h.1 v hv
    refine ⟨fun b hb => ?_, by simp; omega, by have := h1.2.2; have := hn.2.2; simp; omega⟩
    rcases List.mem_append.1 hb with hb | hb
    · exact ink_of_word (hn.1 b hb)
    · rcases List.mem_cons.1 hb with rfl | hb
      · decide
      · exact ink_of_word (h1.1 b hb)
theorem items_ne (c : Cap) : items c ≠ [] := by unfold items; split <;> simp_all
theorem items_len {c : Cap} (h : GoodC c) : (items c).length ≤ 60 := by
  unfold items
  split
  · simp
  · rcases h.2 with h2 | h2 | h2
    · simp; omega
    · simp; omega
    · simp [h2.2]
/-- all pieces -/
theorem all_ink {l : List Cap} (h : GoodL l) : ∀ s ∈ l.flatMap items, Ink s := by
  intro s hs
  obtain ⟨c, hc, hs⟩ := List.mem_flatMap.1 hs
  exact items_ink (h.1 c hc) s hs
theorem flat_le : ∀ {l : List Cap}, (∀ c ∈ l, GoodC c) → (l.flatMap items).length ≤ l.length * 60
  | [], _ => by simp
  | c :: l, h => by
    have h1 := items_len (h c (by simp))
    have h2 := flat_le (l := l) fun c hc => h c (by simp [hc])
    simp only [List.flatMap_cons, List.length_append, List.length_cons]
    omega
theorem all_len {l : List Cap} (h : GoodL l) : (l.flatMap items).length ≤ 3600 := by
  have h1 := flat_le h.1
  have h2 := h.2.2
  omega
/-- joined with blanks -/
theorem foldl_addT (T : List UInt8) (hT : T ≠ []) : ∀ l : List (List UInt8), l.foldl addT T = T ++ l.flatMap (fun s => 32 :: s)
  | [] => by simp
  | s :: l => by
    rw [List.foldl_cons, show addT T s = T ++ 32 :: s from by unfold addT; rw [if_neg hT], foldl_addT _ (by simp) l]
    simp
theorem fold_cons (s : List UInt8) (l : List (List UInt8)) (hs : s ≠ []) : (s :: l).foldl addT [] = s ++ l.flatMap (fun s => 32 :: s) := by
  rw [List.foldl_cons, show addT [] s = s from by unfold addT; rw [if_pos rfl], foldl_addT _ hs]
theorem fold_snoc (l : List (List UInt8)) (s : List UInt8) : (l ++ [s]).foldl addT [] = addT (l.foldl addT []) s := by rw [List.foldl_append]; rfl
theorem pieces_join : ∀ (l : List (List UInt8)) (s : List UInt8), (∀ x ∈ s, x ≠ 32) → (∀ t ∈ l, ∀ x ∈ t, x ≠ 32) → pieces 32 (s ++ l.flatMap (fun s => 32 :: s)) = s :: l
  | [], s, hs, _ => by simpa using pieces_alone 32 s hs
  | t :: l, s, hs, h => by
    rw [List.flatMap_cons, List.cons_append, pieces_append 32 s _ hs, pieces_join l t (h t (by simp)) fun u hu => h u (by simp [hu])]
theorem ink_ne {s : List UInt8} (h : Ink s) : ∀ x ∈ s, x ≠ 32 := by
  intro x hx e
  have := h.1 x hx
  subst e
  revert this; decide
theorem text_pieces {L : List (List UInt8)} (h : ∀ s ∈ L, Ink s) (hL : L ≠ []) : pieces 32 (L.foldl addT []) = L := by
  cases L with
  | nil => exact absurd rfl hL
  | cons s l =>
    have hs := h s (by simp)
    rw [fold_cons s l (by intro e; have := hs.2.1; rw [e] at this; simp at this)]
    exact pieces_join l s (ink_ne hs) fun t ht => ink_ne (h t (by simp [ht]))
theorem text_ne {L : List (List UInt8)} (h : ∀ s ∈ L, Ink s) (hL : L ≠ []) : L.foldl addT [] ≠ [] := by
  intro e
  have h1 := text_pieces h hL
  rw [e] at h1
  have h2 : L = [[]] := h1.symm.trans (by simp [pieces])
  have := (h [] (by rw [h2]; simp)).2.1
  simp at this
theorem flat_len (l : List (List UInt8)) (h : ∀ s ∈ l, s.length ≤ 121) : (l.flatMap (fun s => (32 : UInt8) :: s)).length ≤ l.length * 122 := by
  induction l with
  | nil => simp
  | cons s l ih =>
    have := ih fun t ht => h t (by simp [ht])
    have := h s (by simp)
    simp only [List.flatMap_cons, List.length_append, List.length_cons]
    omega
theorem text_len {L : List (List UInt8)} (h : ∀ s ∈ L, Ink s) : (L.foldl addT []).length ≤ L.length * 122 := by
  cases L with
  | nil => simp
  | cons s l =>
    have hs := h s (by simp)
    rw [fold_cons s l (by intro e; have := hs.2.1; rw [e] at this; simp at this)]
    have := flat_len l fun t ht => (h t (by simp [ht])).2.2
    have := hs.2.2
    simp only [List.length_append, List.length_cons]
    omega
/-- ASCII, and ink at both ends -/
def Ascii (s : List UInt8) : Prop := ∀ c ∈ s, c.toNat < 128
theorem ink_ascii {c : UInt8} (h : inkB c = true) : c.toNat < 128 := by
  simp only [inkB, Bool.and_eq_true, decide_eq_true_eq, UInt8.le_iff_toNat_le] at h
  have e : (126 : UInt8).toNat = 126 := rfl
  omega
theorem text_ascii {L : List (List UInt8)} (h : ∀ s ∈ L, Ink s) : Ascii (L.foldl addT []) := by
  cases L with
  | nil => intro c hc; simp at hc
  | cons s l =>
    have hs := h s (by simp)
    rw [fold_cons s l (by intro e; have := hs.2.1; rw [e] at this; simp at this)]
    intro c hc
    rcases List.mem_append.1 hc with hc | hc
    · exact ink_ascii (hs.1 c hc)
    · obtain ⟨t, ht, hc⟩ := List.mem_flatMap.1 hc
      rcases List.mem_cons.1 hc with rfl | hc
      · decide
      · exact ink_ascii ((h t (by simp [ht])).1 c hc)
theorem last_of_flat (l : List (List UInt8)) (s : List UInt8) (hs : Ink s) (h : ∀ t ∈ l, Ink t) : ∃ c, (s ++ l.flatMap (fun s => (32 : UInt8) :: s)).getLast? = some c ∧ inkB c = true := by
  induction l generalizing s with
  | nil =>
    have hne : s ≠ [] := by intro e; have := hs.2.1; rw [e] at this; simp at this
    refine ⟨s.getLast hne, by simp [List.getLast?_eq_some_getLast hne], hs.1 _ (List.getLast_mem hne)⟩
  | cons t l ih =>
    obtain ⟨c, h1, h2⟩ := ih t (h t (by simp)) fun u hu => h u (by simp [hu])
    refine ⟨c, ?_, h2⟩
    rw [List.flatMap_cons, List.cons_append]
    have hne : t ++ l.flatMap (fun s => (32 : UInt8) :: s) ≠ [] := by intro e; rw [e] at h1; simp at h1
    rw [List.getLast?_append, List.getLast?_cons, h1]
    rfl
theorem text_ends {L : List (List UInt8)} (h : ∀ s ∈ L, Ink s) (hL : L ≠ []) : ∃ T, T = L.foldl addT [] ∧ (∃ c, T[0]? = some c ∧ inkB c = true) ∧ ∃ c, T[T.length - 1]? = some c ∧ inkB c = true := by
  refine ⟨_, rfl, ?_⟩
  cases L with
  | nil => exact absurd rfl hL
  | cons s l =>
    have hs := h s (by simp)
    rw [fold_cons s l (by intro e; have := hs.2.1; rw [e] at this; simp at this)]
    constructor
    · cases s with
      | nil => have := hs.2.1; simp at this
      | cons c s => exact ⟨c, rfl, hs.1 c (by simp)⟩
    · obtain ⟨c, h1, h2⟩ := last_of_flat l s hs fun t ht => h t (by simp [ht])
      exact ⟨c, by rw [← List.getLast?_eq_getElem?]; exact h1, h2⟩
/-- the parts of one piece -/
theorem find_eq {n v : List UInt8} (hn : ∀ x ∈ n, x ≠ 61) : find [61] (n ++ 61 :: v) = some n.length := by
  induction n with
  | nil => rw [List.nil_append, find_one, if_pos rfl]; rfl
  | cons x n ih =>
    rw [List.cons_append, find_one, if_neg (hn x (by simp)), ih fun y hy => hn y (by simp [hy])]
    simp
theorem find_no {n : List UInt8} (hn : ∀ x ∈ n, x ≠ 61) : find [61] n = none := by
  induction n with
  | nil => rw [find]; simp
  | cons x n ih => rw [find_one, if_neg (hn x (by simp)), ih fun y hy => hn y (by simp [hy])]; rfl
/-- in two at the first =, if there is one -/
def cut2 (s : List UInt8) : List (List UInt8) := match find [61] s with | some i => [s.take i, s.drop (i + 1)] | none => [s]
theorem cut2_name {n : List UInt8} (h : Some1 n) : cut2 n = [n] := by
  unfold cut2
  rw [find_no fun x hx => (word_ne (h.1 x hx)).1]
theorem cut2_val {n v : List UInt8} (h : Some1 n) : cut2 (n ++ 61 :: v) = [n, v] := by
  unfold cut2
  rw [find_eq fun x hx => (word_ne (h.1 x hx)).1]
  simp
end Go.Proofs.YtoihglnamclhfaaDoor.cap
