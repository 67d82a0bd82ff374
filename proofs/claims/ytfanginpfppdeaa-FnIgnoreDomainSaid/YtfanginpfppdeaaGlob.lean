/- Patterns of names: a star for any text, a question mark for a byte. Plain Lean, nothing of any program. -/
import Derived.Test.YtfanginpfppdeaaText
set_option linter.unusedVariables false
namespace Go.Proofs.Ytfanginpfppdeaa.glob
open text

/-- is a name one of a pattern -/
def glob : List UInt8 → List UInt8 → Bool
  | [], n => n.isEmpty
  | c :: p, n => if c = 42 then (List.range (n.length + 1)).any fun i => glob p (n.drop i) else match n with
    | [] => false
    | x :: t => (c == 63 || c == x) && glob p t
theorem glob_star (p n : List UInt8) : glob (42 :: p) n = true ↔ ∃ i, i ≤ n.length ∧ glob p (n.drop i) = true := by
  have e : glob (42 :: p) n = (List.range (n.length + 1)).any fun i => glob p (n.drop i) := by rw [glob.eq_def]; simp
  rw [e, List.any_eq_true]
  simp only [List.mem_range]
  exact ⟨fun ⟨i, h, g⟩ => ⟨i, by omega, g⟩, fun ⟨i, h, g⟩ => ⟨i, by omega, g⟩⟩
theorem glob_nil (p : List UInt8) (c : UInt8) (h : c ≠ 42) : glob (c :: p) [] = false := by rw [glob.eq_def]; simp [h]
theorem glob_cons (p t : List UInt8) (c x : UInt8) (h : c ≠ 42) : glob (c :: p) (x :: t) = ((c == 63 || c == x) && glob p t) := by rw [glob.eq_def]; simp [h]
theorem glob_star_drop (p n : List UInt8) (k : Nat) (h : glob (42 :: p) (n.drop k) = true) : glob (42 :: p) n = true := by
  obtain ⟨i, hi, hg⟩ := (glob_star _ _).1 h
  rw [List.drop_drop] at hg
  rw [List.length_drop] at hi
  rcases Nat.lt_or_ge n.length (k + i) with h1 | h1
  · exact (glob_star _ _).2 ⟨n.length, Nat.le_refl _, by rw [List.drop_of_length_le (by omega)] at hg; rw [List.drop_of_length_le (Nat.le_refl _)]; exact hg⟩
  · exact (glob_star _ _).2 ⟨k + i, h1, hg⟩
/-- what is left of a text behind a piece without stars -/
def chunkAt : List UInt8 → List UInt8 → Option (List UInt8)
  | [], n => some n
  | _ :: _, [] => none
  | c :: p, x :: t => if c == 63 || c == x then chunkAt p t else none
theorem chunkAt_drop : ∀ (c n t : List UInt8), chunkAt c n = some t → t = n.drop c.length ∧ c.length ≤ n.length := by
  intro c
  induction c with
  | nil => intro n t h; simp [chunkAt] at h; simp [h]
  | cons a c ih =>
    intro n t h
    cases n with
    | nil => simp [chunkAt] at h
    | cons x n =>
      rw [chunkAt] at h
      split at h
      · have := ih _ _ h; simpa using this
      · cases h
theorem glob_chunk : ∀ (c r n : List UInt8), (∀ x ∈ c, x ≠ 42) → glob (c ++ r) n = match chunkAt c n with | none => false | some t => glob r t := by
  intro c
  induction c with
  | nil => intro r n _; rfl
  | cons a c ih =>
    intro r n h
    have ha := h a (by simp)
    cases n with
    | nil => rw [List.cons_append, glob_nil _ _ ha]; rfl
    | cons x n =>
      rw [List.cons_append, glob_cons _ _ _ _ ha, chunkAt]
      cases hx : (a == 63 || a == x) with
      | true => rw [if_pos rfl, Bool.true_and]; exact ih r n (fun y hy => h y (by simp [hy]))
      | false => simp
/-- a text without its stars in front -/
def unstar : List UInt8 → List UInt8
  | [] => []
  | c :: p => if c = 42 then unstar p else c :: p
def starred : List UInt8 → Bool
  | [] => false
  | c :: _ => c == 42
def chunkOf (p : List UInt8) : List UInt8 := (unstar p).takeWhile (· != 42)
def restOf (p : List UInt8) : List UInt8 := (unstar p).dropWhile (· != 42)
theorem chunk_rest (p : List UInt8) : chunkOf p ++ restOf p = unstar p := List.takeWhile_append_dropWhile
theorem chunk_plain (p : List UInt8) : ∀ x ∈ chunkOf p, x ≠ 42 := by
  intro x hx
  have h1 : (chunkOf p).all (· != 42) = true := List.all_takeWhile
  simpa using List.all_eq_true.1 h1 x hx
theorem rest_head (p : List UInt8) : restOf p = [] ∨ ∃ q, restOf p = 42 :: q := by
  unfold restOf
  cases h : (unstar p).dropWhile (· != 42) with
  | nil => exact .inl rfl
  | cons a q =>
    have := List.head_dropWhile_not (fun x => x != 42) (l := unstar p) (by rw [h]; simp)
    have ha : a = 42 := by simpa [h] using this
    exact .inr ⟨q, by rw [ha]⟩
theorem unstar_starred : ∀ (p n : List UInt8), starred p = true → (glob p n = true ↔ ∃ i, i ≤ n.length ∧ glob (unstar p) (n.drop i) = true) := by
  intro p
  induction p with
  | nil => intro n h; cases h
  | cons c p ih =>
    intro n h
    have hc : c = 42 := by simpa [starred] using h
    subst hc
    rw [unstar, if_pos rfl, glob_star]
    cases hs : starred p with
    | true =>
      constructor
      · rintro ⟨i, hi, hg⟩
        obtain ⟨j, hj, hg⟩ := (ih _ hs).1 hg
        rw [List.drop_drop] at hg
        rw [List.length_drop] at hj
        exact ⟨i + j, by omega, hg⟩
      · rintro ⟨i, hi, hg⟩
        exact ⟨i, hi, (ih _ hs).2 ⟨0, by omega, by simpa using hg⟩⟩
    | false =>
      have : unstar p = p := by
        cases p with
        | nil => rfl
        | cons c p => rw [unstar, if_neg (by simpa [starred] using hs)]
      rw [this]
theorem unstar_not (p : List UInt8) (h : starred p = false) : unstar p = p := by
  cases p with
  | nil => rfl
  | cons c p => rw [unstar, if_neg (by simpa [starred] using h)]
/-- a try at one place -/
def tryAt (p n : List UInt8) (i : Nat) : Bool := match chunkAt (chunkOf p) (n.drop i) with | none => false | some t => glob (restOf p) t
theorem glob_not (p n : List UInt8) (h : starred p = false) : glob p n = tryAt p n 0 := by
  unfold tryAt
  rw [List.drop_zero, ← glob_chunk _ _ _ (chunk_plain p), chunk_rest, unstar_not p h]
theorem glob_yes (p n : List UInt8) (h : starred p = true) : glob p n = true ↔ ∃ i, i ≤ n.length ∧ tryAt p n i = true := by
  rw [unstar_starred p n h]
  unfold tryAt
  constructor
  · rintro ⟨i, hi, hg⟩
    rw [← chunk_rest, glob_chunk _ _ _ (chunk_plain p)] at hg
    exact ⟨i, hi, hg⟩
  · rintro ⟨i, hi, hg⟩
    rw [← glob_chunk _ _ _ (chunk_plain p), chunk_rest] at hg
    exact ⟨i, hi, hg⟩
/-- a star at the end takes all -/
theorem glob_end (p n : List UInt8) (h : starred p = true) (hc : chunkOf p = []) : glob p n = true := by
  have hr : restOf p = [] := by
    rcases rest_head p with hr | ⟨q, hr⟩
    · exact hr
    · have h1 := chunk_rest p
      rw [hc, hr, List.nil_append] at h1
      exfalso
      have : ∀ l : List UInt8, ∀ q, unstar l ≠ 42 :: q := by
        intro l
        induction l with
        | nil => intro q h; cases h
        | cons c l ih => intro q h; rw [unstar] at h; split at h; exact ih q h; rename_i hx; cases h; exact hx rfl
      exact this p q h1.symm
  exact (glob_yes p n h).2 ⟨n.length, Nat.le_refl _, by unfold tryAt; rw [hc, hr, List.drop_of_length_le (Nat.le_refl _)]; rfl⟩
/-- the first place where a piece fits tells all, if a star follows; else the text must end there -/
theorem first_fit (p n t : List UInt8) (i : Nat) (hr : restOf p ≠ []) (h : chunkAt (chunkOf p) (n.drop i) = some t) (hb : ∀ j, j < i → tryAt p n j = false) (hi : i ≤ n.length) :
    (∃ j, j ≤ n.length ∧ tryAt p n j = true) ↔ glob (restOf p) t = true := by
  constructor
  · rintro ⟨j, hj, hg⟩
    rcases Nat.lt_or_ge j i with h1 | h1
    · rw [hb j h1] at hg; cases hg
    · obtain ⟨q, hq⟩ := (rest_head p).resolve_left hr
      unfold tryAt at hg
      cases hc : chunkAt (chunkOf p) (n.drop j) with
      | none => rw [hc] at hg; cases hg
      | some u =>
        rw [hc] at hg
        simp only at hg
        rw [hq] at hg ⊢
        obtain ⟨e1, l1⟩ := chunkAt_drop _ _ _ h
        obtain ⟨e2, l2⟩ := chunkAt_drop _ _ _ hc
        refine glob_star_drop q t (j - i) ?_
        rw [e1, List.drop_drop, List.drop_drop] 
        rw [e2, List.drop_drop] at hg
        rwa [show i + ((chunkOf p).length + (j - i)) = j + (chunkOf p).length by omega]
  · intro hg
    exact ⟨i, hi, by unfold tryAt; rw [h]; exact hg⟩
end Go.Proofs.Ytfanginpfppdeaa.glob
