/- A delta of git, in plain Lean: its sizes, its instructions, what they make of a base. Nothing of any program. -/
import Derived.Test.YtfanginpfppdeaaDoorProg
set_option linter.unusedVariables false
namespace Go.Proofs.YtfanginpfppdeaaDoor.patch

/-- a number in groups of 7 bits, as the program reads it (none: it is too long) -/
def leb : List UInt8 → Nat → Nat → Option (Nat × List UInt8)
  | [], _, acc => some (acc, [])
  | b :: t, i, acc => if 57 < 7 * i then none else
      if b.toNat < 128 ∨ t = [] then some (acc + b.toNat % 128 * 2 ^ (7 * i), t) else leb t (i + 1) (acc + b.toNat % 128 * 2 ^ (7 * i))
/-- the same, as the format's words read it: told, refused (it ends too soon), or nothing is said of it -/
inductive R7 where
  | told (n : Nat) (l : List UInt8)
  | refused
  | opn
def sz7 : List UInt8 → Nat → Nat → R7
  | [], _, _ => .refused
  | b :: t, i, acc => if i = 4 then .opn else
      if b.toNat < 128 then .told (acc + b.toNat % 128 * 2 ^ (7 * i)) t else sz7 t (i + 1) (acc + b.toNat % 128 * 2 ^ (7 * i))
theorem leb_of_sz7 : ∀ (l : List UInt8) (i acc n : Nat) (r : List UInt8), i ≤ 4 → sz7 l i acc = .told n r → leb l i acc = some (n, r) := by
  intro l
  induction l with
  | nil => intro i acc n r _ h; simp [sz7] at h
  | cons b t ih =>
    intro i acc n r hi h
    rw [sz7] at h
    split at h
    · cases h
    · rename_i h4
      rw [leb, if_neg (by omega)]
      split at h
      · rename_i hb
        rw [if_pos (.inl hb)]
        cases h; rfl
      · rename_i hb
        have ht : t ≠ [] := by rintro rfl; simp [sz7] at h
        rw [if_neg (by simp only [not_or]; exact ⟨hb, ht⟩)]
        exact ih _ _ _ _ (by omega) h
theorem sz7_length : ∀ (l : List UInt8) (i acc n : Nat) (r : List UInt8), sz7 l i acc = .told n r → r.length < l.length := by
  intro l
  induction l with
  | nil => intro i acc n r h; simp [sz7] at h
  | cons b t ih =>
    intro i acc n r h
    rw [sz7] at h
    split at h
    · cases h
    · split at h
      · cases h; simp
      · have := ih _ _ _ _ h; simp; omega
theorem leb_length : ∀ (l : List UInt8) (i acc n : Nat) (r : List UInt8), leb l i acc = some (n, r) → r.length ≤ l.length := by
  intro l
  induction l with
  | nil => intro i acc n r h; simp [leb] at h; simp [h.2]
  | cons b t ih =>
    intro i acc n r h
    rw [leb] at h
    split at h
    · cases h
    · split at h
      · cases h; simp
      · have := ih _ _ _ _ h; simp; omega

/-- the bytes that the bits o, o+1 .. of a code tell of, the low one first -/
def rd (c o : Nat) : Nat → Nat → List UInt8 → Nat → Option (Nat × List UInt8)
  | 0, _, l, acc => some (acc, l)
  | n + 1, k, l, acc => if c.testBit (o + k) then (match l with
      | [] => none
      | b :: t => rd c o n (k + 1) t (acc + b.toNat * 2 ^ (8 * k)))
    else rd c o n (k + 1) l acc
theorem rd_succ (c o n k : Nat) (l : List UInt8) (acc : Nat) : rd c o (n + 1) k l acc = if c.testBit (o + k) then (match l with
      | [] => none
      | b :: t => rd c o n (k + 1) t (acc + b.toNat * 2 ^ (8 * k)))
    else rd c o n (k + 1) l acc := by cases l <;> simp [rd]
theorem rd_length (c o : Nat) : ∀ (n k : Nat) (l : List UInt8) (acc m : Nat) (r : List UInt8), rd c o n k l acc = some (m, r) → r.length ≤ l.length := by
  intro n
  induction n with
  | zero => intro k l acc m r h; simp [rd] at h; simp [h.2]
  | succ n ih =>
    intro k l acc m r h
    rw [rd_succ] at h
    split at h
    · cases l with
      | nil => cases h
      | cons b t => have := ih _ _ _ _ _ h; simp; omega
    · exact ih _ _ _ _ _ h
theorem rd_lt (c o : Nat) : ∀ (n k : Nat) (l : List UInt8) (acc m : Nat) (r : List UInt8), acc < 2 ^ (8 * k) → rd c o n k l acc = some (m, r) → m < 2 ^ (8 * (k + n)) := by
  intro n
  induction n with
  | zero => intro k l acc m r ha h; simp [rd] at h; simpa [← h.1] using ha
  | succ n ih =>
    intro k l acc m r ha h
    have hp : (2 : Nat) ^ (8 * (k + 1)) = 2 ^ (8 * k) * 256 := by rw [Nat.mul_add, Nat.pow_add]
    rw [rd_succ] at h
    split at h
    · cases l with
      | nil => cases h
      | cons b t =>
        have hb : b.toNat < 256 := b.toNat_lt
        have h1 : b.toNat * 2 ^ (8 * k) ≤ 255 * 2 ^ (8 * k) := Nat.mul_le_mul_right _ (by omega)
        have := ih _ _ _ _ _ (by omega) h
        rwa [show k + 1 + n = k + (n + 1) by omega] at this
    · have := ih _ _ _ _ _ (by omega) h
      rwa [show k + 1 + n = k + (n + 1) by omega] at this

/-- the place and the size of a copy, read in one go over seven bits -/
def rc (c : Nat) : Nat → Nat → List UInt8 → Nat → Nat → Option (Nat × Nat × List UInt8)
  | 0, _, l, f, s => some (f, s, l)
  | n + 1, k, [], f, s => if c.testBit k then none else rc c n (k + 1) [] f s
  | n + 1, k, b :: t, f, s => if c.testBit k then (if k < 4 then rc c n (k + 1) t (f + b.toNat * 2 ^ (8 * k)) s else rc c n (k + 1) t f (s + b.toNat * 2 ^ (8 * (k - 4))))
      else rc c n (k + 1) (b :: t) f s
theorem rc_off (c n k : Nat) (l : List UInt8) (f s : Nat) (h : c.testBit k = false) : rc c (n + 1) k l f s = rc c n (k + 1) l f s := by
  cases l <;> simp [rc, h]
theorem rc_nil (c n k f s : Nat) (h : c.testBit k = true) : rc c (n + 1) k [] f s = none := by simp [rc, h]
theorem rc_from (c n k : Nat) (b : UInt8) (t : List UInt8) (f s : Nat) (h : c.testBit k = true) (hk : k < 4) : rc c (n + 1) k (b :: t) f s = rc c n (k + 1) t (f + b.toNat * 2 ^ (8 * k)) s := by
  simp [rc, h, hk]
theorem rc_size (c n k : Nat) (b : UInt8) (t : List UInt8) (f s : Nat) (h : c.testBit k = true) (hk : ¬ k < 4) : rc c (n + 1) k (b :: t) f s = rc c n (k + 1) t f (s + b.toNat * 2 ^ (8 * (k - 4))) := by
  simp [rc, h, hk]
theorem rc_late (c : Nat) : ∀ (m k : Nat) (l : List UInt8) (f s : Nat), rc c m (4 + k) l f s = (rd c 4 m k l s).map fun x => (f, x.1, x.2) := by
  intro m
  induction m with
  | zero => intro k l f s; rfl
  | succ m ih =>
    intro k l f s
    rw [rd_succ]
    cases hb : c.testBit (4 + k) with
    | false => rw [rc_off _ _ _ _ _ _ hb, show 4 + k + 1 = 4 + (k + 1) by omega, ih]; simp
    | true =>
      cases l with
      | nil => rw [rc_nil _ _ _ _ _ hb]; simp
      | cons b t => rw [rc_size _ _ _ _ _ _ _ hb (by omega), show 4 + k + 1 = 4 + (k + 1) by omega, ih, show 4 + k - 4 = k by omega]; simp
theorem rc_early (c : Nat) : ∀ (m k : Nat) (l : List UInt8) (f : Nat), k + m = 4 → rc c (m + 3) k l f 0 = (rd c 0 m k l f).bind fun x => (rd c 4 3 0 x.2 0).map fun y => (x.1, y.1, y.2) := by
  intro m
  induction m with
  | zero =>
    intro k l f h
    have e : k = 4 + 0 := by omega
    subst e
    rw [rc_late]; rfl
  | succ m ih =>
    intro k l f h
    rw [rd_succ, show m + 1 + 3 = (m + 3) + 1 by omega]
    cases hb : c.testBit k with
    | false => rw [rc_off _ _ _ _ _ _ hb, ih _ _ _ (by omega)]; simp [hb]
    | true =>
      cases l with
      | nil => rw [rc_nil _ _ _ _ _ hb]; simp [hb]
      | cons b t => rw [rc_from _ _ _ _ _ _ _ hb (by omega), ih _ _ _ (by omega)]; simp [hb]
theorem rc_whole (c : Nat) (l : List UInt8) : rc c 7 0 l 0 0 = (rd c 0 4 0 l 0).bind fun x => (rd c 4 3 0 x.2 0).map fun y => (x.1, y.1, y.2) := rc_early c 4 0 l 0 rfl
/-- the size of a copy: 0 says 65536 -/
def copySize (n : Nat) : Nat := if n = 0 then 65536 else n
/-- the instructions of a delta applied till nothing remains to be made (none: refused); what stands behind them is left -/
def go (base : List UInt8) : Nat → List UInt8 → Nat → List UInt8 → Option (List UInt8 × List UInt8)
  | 0, d, _, out => some (out, d)
  | _ + 1, d, 0, out => some (out, d)
  | _ + 1, [], _ + 1, _ => none
  | f + 1, c :: t, rem + 1, out =>
    if c.toNat < 128 then
      if c.toNat = 0 then none
      else if t.length < c.toNat ∨ rem + 1 < c.toNat then none
      else go base f (t.drop c.toNat) (rem + 1 - c.toNat) (out ++ t.take c.toNat)
    else match rc c.toNat 7 0 t 0 0 with
      | none => none
      | some (from_, n, t2) => if rem + 1 < copySize n ∨ base.length < from_ + copySize n then none
        else go base f t2 (rem + 1 - copySize n) (out ++ (base.drop from_).take (copySize n))
/-- what a delta makes of a base, as the program does it -/
def patch (base delta : List UInt8) : Option (List UInt8) :=
  if base = [] ∨ delta.length < 2 then none
  else match leb delta 0 0 with
    | none => none
    | some (n, d1) => if n ≠ base.length then none else match leb d1 0 0 with
      | none => none
      | some (want, d2) => match go base (d2.length + 1) d2 want [] with
        | none => none
        | some (out, r) => if r = [] then some out else none
/-- the same, by the format's words -/
inductive RP where
  | told (out : List UInt8)
  | refused
  | opn
def patched (base delta : List UInt8) : RP :=
  match sz7 delta 0 0 with
  | .refused => .opn
  | .opn => .opn
  | .told size d1 => match sz7 d1 0 0 with
    | .refused => .opn
    | .opn => .opn
    | .told want d2 =>
      if base = [] ∨ want = 0 ∨ 1000000 < want ∨ 1000000 < base.length ∨ 1000000 < delta.length then .opn
      else if size ≠ base.length then .refused
      else match go base (d2.length + 1) d2 want [] with
        | none => .refused
        | some (out, r) => if r = [] then .told out else .opn
theorem patch_of_told {base delta out : List UInt8} (h : patched base delta = .told out) : patch base delta = some out := by
  unfold patched at h
  split at h
  · cases h
  · cases h
  · rename_i size d1 h1
    split at h
    · cases h
    · cases h
    · rename_i want d2 h2
      split at h
      · cases h
      · rename_i hg
        split at h
        · cases h
        · rename_i hs
          have l1 := sz7_length _ _ _ _ _ h1
          have l2 := sz7_length _ _ _ _ _ h2
          unfold patch
          rw [if_neg (by simp only [not_or] at hg ⊢; exact ⟨hg.1, by omega⟩), leb_of_sz7 _ _ _ _ _ (by omega) h1]
          simp only
          rw [if_neg hs, leb_of_sz7 _ _ _ _ _ (by omega) h2]
          simp only
          split at h
          · cases h
          · rename_i o r hgo
            split at h
            · rename_i hr
              cases h
              simp [hr]
            · cases h
theorem patch_of_refused {base delta : List UInt8} (h : patched base delta = .refused) : patch base delta = none := by
  unfold patched at h
  split at h
  · cases h
  · cases h
  · rename_i size d1 h1
    split at h
    · cases h
    · cases h
    · rename_i want d2 h2
      have l1 := sz7_length _ _ _ _ _ h1
      have l2 := sz7_length _ _ _ _ _ h2
      unfold patch
      split
      · rfl
      · rw [leb_of_sz7 _ _ _ _ _ (by omega) h1]
        simp only
        split
        · rfl
        · rename_i hs
          rw [leb_of_sz7 _ _ _ _ _ (by omega) h2]
          simp only
          split at h
          · cases h
          · cases hgo : go base (d2.length + 1) d2 want [] with
            | none => rfl
            | some x => rw [hgo] at h; simp only at h; split at h <;> cases h
/-- one round of 'go', said at a head of the list -/
theorem go_zero (base d out : List UInt8) (f : Nat) : go base f d 0 out = some (out, d) := by cases f <;> rfl
theorem go_nil (base out : List UInt8) (f rem : Nat) (h : 0 < rem) : go base (f + 1) [] rem out = none := by
  cases rem with
  | zero => omega
  | succ r => rfl
theorem go_cons (base t out : List UInt8) (c : UInt8) (f rem : Nat) (h : 0 < rem) : go base (f + 1) (c :: t) rem out =
    if c.toNat < 128 then
      if c.toNat = 0 then none
      else if t.length < c.toNat ∨ rem < c.toNat then none
      else go base f (t.drop c.toNat) (rem - c.toNat) (out ++ t.take c.toNat)
    else match rc c.toNat 7 0 t 0 0 with
      | none => none
      | some (from_, n, t2) => if rem < copySize n ∨ base.length < from_ + copySize n then none
        else go base f t2 (rem - copySize n) (out ++ (base.drop from_).take (copySize n)) := by
  cases rem with
  | zero => omega
  | succ r => rfl
end Go.Proofs.YtfanginpfppdeaaDoor.patch
