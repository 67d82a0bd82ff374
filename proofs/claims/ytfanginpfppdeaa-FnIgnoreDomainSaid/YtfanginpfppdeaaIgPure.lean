/- What patterns of paths take: plain Lean, nothing of any program. -/
import Derived.Test.YtfanginpfppdeaaGlob
set_option linter.unusedVariables false
namespace Go.Proofs.Ytfanginpfppdeaa.glob
open text

/-- a byte that may stand in a pattern -/
def okc (x : UInt8) : Prop := (97 ≤ x.toNat ∧ x.toNat ≤ 122) ∨ (65 ≤ x.toNat ∧ x.toNat ≤ 90) ∨ (48 ≤ x.toNat ∧ x.toNat ≤ 57) ∨ x.toNat = 46 ∨ x.toNat = 42 ∨ x.toNat = 63
/-- no two stars beside one another -/
def nodbl (l : List UInt8) : Prop := ∀ i : Nat, l[i]? = some 42 → l[i + 1]? ≠ some 42
structure Glob (l : List UInt8) : Prop where
  ok : ∀ x ∈ l, okc x
  ne : l ≠ []
  len : l.length ≤ 40
  dbl : nodbl l
structure Name (l : List UInt8) : Prop where
  glob : Glob l
  no42 : ∀ x ∈ l, x ≠ 42
  no63 : ∀ x ∈ l, x ≠ 63
theorem nodbl_find : ∀ (l : List UInt8), nodbl l → has [42, 42] l = false := by
  intro l
  induction l with
  | nil => intro _; rfl
  | cons a l ih =>
    intro h
    have hp : List.isPrefixOf [42, 42] (a :: l) = false := by
      rw [Bool.eq_false_iff]
      intro hp
      have := List.isPrefixOf_iff_prefix.1 hp
      obtain ⟨t, ht⟩ := this
      have h0 := h 0 (by rw [← ht]; rfl)
      apply h0
      rw [← ht]; rfl
    have h1 := ih (fun i hi => by have := h (i + 1); simpa using this (by simpa using hi))
    unfold has at h1 ⊢
    rw [find_miss _ _ _ hp]
    cases hf : find [42, 42] l with
    | none => rfl
    | some j => rw [hf] at h1; cases h1
theorem nodbl_ne {l : List UInt8} (h : nodbl l) : l ≠ [42, 42] := by rintro rfl; exact h 0 rfl rfl
/-- patterns of names taken one after another; two stars may stand at the end -/
def gm (d dir : Bool) : List (List UInt8) → List (List UInt8) → Bool → Bool
  | [], q, m => m && !(d && !dir && q.isEmpty)
  | p :: ps, q, m => if p = [42, 42] ∧ ps = [] then m && !(d && !dir && q.isEmpty) else match q with
    | [] => false
    | x :: t => if glob p x then gm d dir ps t true else false
theorem gm_step (d dir : Bool) (p : List UInt8) (ps q : List (List UInt8)) (m : Bool) (h : ¬ (p = [42, 42] ∧ ps = [])) : gm d dir (p :: ps) q m = match q with
    | [] => false
    | x :: t => if glob p x then gm d dir ps t true else false := by
  rw [gm.eq_def]
  simp only []
  rw [if_neg h]
theorem gm_end (d dir : Bool) (q : List (List UInt8)) (m : Bool) : gm d dir [[42, 42]] q m = (m && !(d && !dir && q.isEmpty)) := by
  rw [gm.eq_def]
  simp only []
  rw [if_pos (by simp)]
/-- one pattern of a name, anywhere in a path -/
def sm (d dir : Bool) (p : List UInt8) : List (List UInt8) → Bool
  | [] => false
  | x :: t => if glob p x then !(d && !dir && t.isEmpty) else sm d dir p t
/-- a pattern as it is read: whether it takes folders alone, its body -/
def tailed (p : List UInt8) : Bool := p.getLast? == some 47
def bodyOf (p : List UInt8) : List UInt8 := if tailed p then p.dropLast else p
def takes (p : List UInt8) (q : List (List UInt8)) (dir : Bool) : Bool :=
  if has [47] (bodyOf p) then gm (tailed p) dir (pieces 47 (bodyOf p)) q false else sm (tailed p) dir (bodyOf p) q
def matchRes (p : List UInt8) (domain path : List (List UInt8)) (dir : Bool) : Nat :=
  if domain.length < path.length ∧ path.take domain.length = domain ∧ takes p (path.drop domain.length) dir = true then 1 else 0
/-- the front of a path, name by name -/
def fits : List (List UInt8) → List (List UInt8) → Bool
  | [], _ => true
  | _ :: _, [] => false
  | p :: ps, x :: t => glob p x && fits ps t
theorem fits_len : ∀ (ps q : List (List UInt8)), fits ps q = true → ps.length ≤ q.length := by
  intro ps
  induction ps with
  | nil => intro q _; simp
  | cons p ps ih =>
    intro q h
    cases q with
    | nil => cases h
    | cons x t =>
      rw [fits, Bool.and_eq_true] at h
      have := ih t h.2
      simp; omega
theorem gm_fits (d dir : Bool) : ∀ (ps q : List (List UInt8)) (m : Bool), (∀ p ∈ ps, p ≠ [42, 42]) → gm d dir ps q m = ((m || !ps.isEmpty) && fits ps q && !(d && !dir && decide (q.length = ps.length))) := by
  intro ps
  induction ps with
  | nil =>
    intro q m _
    rw [gm, fits]
    cases q <;> simp
  | cons p ps ih =>
    intro q m h
    rw [gm_step _ _ _ _ _ _ (fun hh => h p (by simp) hh.1)]
    cases q with
    | nil => simp [fits]
    | cons x t =>
      simp only
      rw [fits]
      cases hg : glob p x with
      | false => simp
      | true =>
        rw [if_pos rfl, ih t true (fun y hy => h y (by simp [hy]))]
        simp
/-- texts with slashes between -/
def joined : List (List UInt8) → List UInt8
  | [] => []
  | [p] => p
  | p :: q :: ps => p ++ 47 :: joined (q :: ps)
theorem pieces_joined : ∀ (ps : List (List UInt8)), ps ≠ [] → (∀ p ∈ ps, ∀ x ∈ p, x ≠ 47) → pieces 47 (joined ps) = ps := by
  intro ps
  induction ps with
  | nil => intro h; exact absurd rfl h
  | cons p ps ih =>
    intro _ h
    cases ps with
    | nil => exact pieces_alone 47 p (h p (by simp))
    | cons q ps =>
      rw [joined, pieces_append 47 p _ (h p (by simp)), ih (by simp) (fun y hy => h y (by simp [hy]))]
theorem ok47 {x : UInt8} (h : okc x) : x ≠ 47 ∧ x ≠ 91 ∧ x ≠ 92 ∧ x ≠ 93 ∧ x ≠ 33 ∧ x ≠ 32 ∧ x.toNat < 128 := by
  have hx : ∀ n, n < 256 → x.toNat ≠ n → x ≠ UInt8.ofNat n := fun n hn h e => by subst e; simp at h; omega
  unfold okc at h
  refine ⟨hx 47 (by omega) (by omega), hx 91 (by omega) (by omega), hx 92 (by omega) (by omega), hx 93 (by omega) (by omega), hx 33 (by omega) (by omega), hx 32 (by omega) (by omega), by omega⟩
theorem joined_mem : ∀ (ps : List (List UInt8)) (x : UInt8), x ∈ joined ps → x = 47 ∨ ∃ p ∈ ps, x ∈ p := by
  intro ps
  induction ps with
  | nil => intro x h; cases h
  | cons p ps ih =>
    intro x h
    cases ps with
    | nil => exact .inr ⟨p, by simp, h⟩
    | cons q ps =>
      rw [joined, List.mem_append, List.mem_cons] at h
      rcases h with h | h | h
      · exact .inr ⟨p, by simp, h⟩
      · exact .inl h
      · rcases ih x h with h | ⟨r, hr, hx⟩
        · exact .inl h
        · exact .inr ⟨r, by simp [hr], hx⟩
theorem joined_last : ∀ (ps : List (List UInt8)), ps ≠ [] → (∀ p ∈ ps, Glob p) → ∃ x, (joined ps).getLast? = some x ∧ okc x := by
  intro ps
  induction ps with
  | nil => intro h; exact absurd rfl h
  | cons p ps ih =>
    intro _ h
    cases ps with
    | nil =>
      have hp := h p (by simp)
      rw [joined]
      exact ⟨p.getLast hp.ne, List.getLast?_eq_some_getLast hp.ne, hp.ok _ (List.getLast_mem _)⟩
    | cons q ps =>
      obtain ⟨x, hx, hk⟩ := ih (by simp) (fun y hy => h y (by simp [hy]))
      refine ⟨x, ?_, hk⟩
      rw [joined, List.getLast?_append, List.getLast?_cons]
      simp [hx]
theorem joined_tailed (ps : List (List UInt8)) (h0 : ps ≠ []) (h : ∀ p ∈ ps, Glob p) : tailed (joined ps) = false ∧ tailed (joined ps ++ [47]) = true := by
  obtain ⟨x, hx, hk⟩ := joined_last ps h0 h
  unfold tailed
  rw [hx]
  refine ⟨?_, by simp⟩
  have := (ok47 hk).1
  simpa using this
theorem has_slash : ∀ (l : List UInt8), (∀ x ∈ l, x ≠ 47) → has [47] l = false := by
  intro l
  induction l with
  | nil => intro _; rfl
  | cons a l ih =>
    intro h
    have h1 := ih (fun x hx => h x (by simp [hx]))
    unfold has at h1 ⊢
    rw [find_one, if_neg (h a (by simp))]
    cases hf : find [47] l with
    | none => rfl
    | some j => rw [hf] at h1; cases h1
theorem has_slash_mem : ∀ (l : List UInt8), 47 ∈ l → has [47] l = true := by
  intro l
  induction l with
  | nil => intro h; cases h
  | cons a l ih =>
    intro h
    unfold has at ih ⊢
    rw [find_one]
    by_cases ha : a = 47
    · rw [if_pos ha]; rfl
    · rw [if_neg ha]
      have := ih (by rcases List.mem_cons.1 h with h | h; exact absurd h.symm ha; exact h)
      cases hf : find [47] l with
      | none => rw [hf] at this; cases this
      | some j => rfl
theorem joined_slash : ∀ (ps : List (List UInt8)), 2 ≤ ps.length → 47 ∈ joined ps := by
  intro ps h
  match ps, h with
  | p :: q :: ps, _ => rw [joined]; simp
def tailOf (folder : Bool) : List UInt8 := if folder then [47] else []
theorem body_joined (ps : List (List UInt8)) (folder : Bool) (h0 : ps ≠ []) (h : ∀ p ∈ ps, Glob p) : tailed (joined ps ++ tailOf folder) = folder ∧ bodyOf (joined ps ++ tailOf folder) = joined ps := by
  obtain ⟨h1, h2⟩ := joined_tailed ps h0 h
  unfold bodyOf tailOf
  cases folder with
  | false => simp [h1]
  | true => simp [h2]
/-- FnIgnoreFront -/
def front (ps : List (List UInt8)) (folder : Bool) (q : List (List UInt8)) (dir : Bool) : Bool := fits ps q && (!folder || decide (ps.length < q.length) || dir)
theorem takes_front (ps q : List (List UInt8)) (folder dir : Bool) (h2 : 2 ≤ ps.length) (h : ∀ p ∈ ps, Glob p) : takes (joined ps ++ tailOf folder) q dir = front ps folder q dir := by
  have h0 : ps ≠ [] := by rintro rfl; simp at h2
  obtain ⟨e1, e2⟩ := body_joined ps folder h0 h
  unfold takes
  rw [e1, e2, has_slash_mem _ (joined_slash ps h2), if_pos rfl, pieces_joined ps h0 (fun p hp x hx => (ok47 ((h p hp).ok x hx)).1), gm_fits _ _ _ _ _ (fun p hp => nodbl_ne (h p hp).dbl)]
  unfold front
  have hne : ps.isEmpty = false := by cases ps with | nil => exact absurd rfl h0 | cons a l => rfl
  rw [hne]
  cases hf : fits ps q with
  | false => simp
  | true =>
    have := fits_len ps q hf
    by_cases he : q.length = ps.length
    · have hn : ¬ ps.length < q.length := by omega
      cases folder <;> cases dir <;> simp [he]
    · have hn : ps.length < q.length := by omega
      cases folder <;> cases dir <;> simp [he, hn]
/-- FnIgnoreBelow -/
theorem takes_below (p : List UInt8) (q : List (List UInt8)) (dir : Bool) (h : Glob p) (hq : q ≠ []) : takes (p ++ [47, 42, 42]) q dir = glob p (q.headD []) := by
  have ht : tailed (p ++ [47, 42, 42]) = false := by unfold tailed; rw [List.getLast?_append]; rfl
  have hb : bodyOf (p ++ [47, 42, 42]) = p ++ [47, 42, 42] := by unfold bodyOf; rw [ht]; rfl
  unfold takes
  rw [hb, ht, has_slash_mem _ (by simp), if_pos rfl]
  have e : pieces 47 (p ++ [47, 42, 42]) = [p, [42, 42]] := by
    rw [pieces_append 47 p [42, 42] (fun x hx => (ok47 (h.ok x hx)).1)]
    rfl
  rw [e]
  cases q with
  | nil => exact absurd rfl hq
  | cons x t =>
    rw [gm_step _ _ _ _ _ _ (fun hh => nodbl_ne h.dbl hh.1)]
    simp only [List.headD_cons]
    cases glob p x with
    | false => rfl
    | true => rw [if_pos rfl, gm_end]; simp
end Go.Proofs.Ytfanginpfppdeaa.glob
