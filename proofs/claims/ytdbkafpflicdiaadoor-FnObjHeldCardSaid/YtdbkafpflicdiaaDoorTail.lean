/- A region that draws its order: operations that are quiet in a class of worlds (calls that make memory among them), and behind them a tail that waits for all: one walk serves every order. Of any program. -/
import Derived.Test.YtdbkafpflicdiaaDoorProg
import Derived.StillTail
import Derived.Deep.Quiet
import Derived.OrdersHeld
set_option linter.unusedVariables false
namespace Go.Proofs.YtdbkafpflicdiaaDoor.tail

section
variable {P : Program} {ops : Array Oper} {md : Region.Mode} {C : World → Prop}
/-- whatever order the head's operations come up in, L holds behind f of them -/
def headAny (P : Program) (md : Region.Mode) (ops : Array Oper) (C : World → Prop) (n : Nat) (L : Array Bool → Act → Prop) : Nat → Array Bool → Act → Prop
  | 0 => L
  | f + 1 => fun listed a => Region.ready md ops listed ≠ [] ∧ ∀ i, i ∈ Region.ready md ops listed → i < n ∧ qOp P ops C i (headAny P md ops C n L f (listed.setIfInBounds i true)) a

theorem headAny_all {n g : Nat} {L : Array Bool → Act → Prop} {Q : Exit → Act → World → Prop} (hL : ∀ listed a w, C w → L listed a → wpAny P md ops Q g listed a w) (f : Nat) :
    ∀ (listed : Array Bool) (a : Act) (w : World), C w → headAny P md ops C n L f listed a → wpAny P md ops Q (f + g) listed a w := by
  induction f with
  | zero => intro listed a w hw h; rw [Nat.zero_add]; exact hL _ _ _ hw h
  | succ f ih =>
    intro listed a w hw h
    have e : f + 1 + g = (f + g) + 1 := by omega
    rw [e]
    exact ⟨fun h0 => absurd h0 h.1, fun i hi => wpOp_of_qOp hw (fun a' w' hw' h' => ih _ a' w' hw' h') (h.2 i hi).2⟩

/-- what the other operations must be for one to be taken ahead of them -/
def Free (md : Region.Mode) (ops : Array Oper) (i : Nat) (oi : Oper) (listed : Array Bool) : Prop :=
  ∀ j oj, ops[j]? = some oj → j ≠ i → listed.getD j true = false → (∀ e ∈ oj.after, Region.binds md e = true → e.on ≠ i) → oi.apart ops oj = true
theorem Free.set {i j : Nat} {oi : Oper} {listed : Array Bool} (h : Free md ops i oi listed) (hj : listed.getD j true = false) : Free md ops i oi (listed.setIfInBounds j true) := by
  intro k ok hk hki hun hno
  refine h k ok hk hki ?_ hno
  by_cases e : j = k
  · rw [← e]; exact hj
  · rw [getD_set_ne true e] at hun; exact hun
theorem take_first {m n i : Nat} {oi : Oper} {v : Value} {L : Array Bool → Act → Prop} (hi : ops[i]? = some oi) (hsel : ∀ (j : Nat) (o : Oper) cs b, ops[j]? = some o → o.op ≠ .select cs b)
    (hw : ∀ listed, HeadInv md ops n listed → ∀ i, m ≤ i → i < n → listed.getD i true = false → ∀ t, n ≤ t → t ∉ Region.ready md ops listed) (hmi : m ≤ i) (hin : i < n) (hdone : ∀ listed a, L listed a → ∀ j ∈ Region.ready md ops listed, n ≤ j) (f : Nat) :
    ∀ (listed : Array Bool) (a : Act), HeadInv md ops n listed → Free md ops i oi listed → i ∈ Region.ready md ops listed → YieldsIn P ops C oi v a →
      headAny P md ops C n L f (listed.setIfInBounds i true) (a.put oi.dst v) → headAny P md ops C n L (f + 1) listed a := by
  induction f with
  | zero =>
    intro listed a inv _ hr hy H
    refine ⟨fun h => (by rw [h] at hr; cases hr), fun j hj => ?_⟩
    by_cases e : j = i
    · rw [e]; exact ⟨hin, hy.qOp hi H⟩
    · have h1 := hdone _ _ H j (ready_mono hj e)
      exact absurd hj (hw _ inv i hmi hin (mem_ready.1 hr).1 j h1)
  | succ f ih =>
    intro listed a inv hfree hr hy H
    refine ⟨fun h => (by rw [h] at hr; cases hr), fun j hj => ?_⟩
    by_cases e : j = i
    · rw [e]; exact ⟨hin, hy.qOp hi H⟩
    · have hjn : j < n := Nat.lt_of_not_le fun h => hw _ inv i hmi hin (mem_ready.1 hr).1 j h hj
      refine ⟨hjn, ?_⟩
      obtain ⟨hjun, oj, hoj, hall⟩ := mem_ready.1 hj
      have hun := (mem_ready.1 hr).1
      have hno : ∀ e ∈ oj.after, Region.binds md e = true → e.on ≠ i := fun e he hb h => by
        have h1 := hall e he hb
        rw [h, getD_both hun] at h1
        cases h1
      have h2 := qOp_put hoj (hfree j oj hoj e hjun hno) (fun cs b => hsel i oi cs b hi) (fun cs b => hsel j oj cs b hoj) hy (H.2 j (ready_mono hj e)).2
      refine qOp_mono (fun a' h3 => ih _ a' (inv.set hj hjn) (hfree.set hjun) (ready_mono hr (Ne.symm e)) h3.1 ?_) h2
      rw [Array.setIfInBounds_comm _ _ e]
      exact h3.2
theorem head_lex {m n g : Nat} {Lq : Act → Prop} (hsel : Region.noSelect ops = true) (hw : ∀ listed, HeadInv md ops n listed → ∀ i, m ≤ i → i < n → listed.getD i true = false → ∀ t, n ≤ t → t ∉ Region.ready md ops listed) (l : List Oper) :
    ∀ (k : Nat) (listed : Array Bool) (a : Act), m ≤ k → (∀ j, j < l.length → l[j]? = ops[k + j]?) → k + l.length = n → HeadInv md ops n listed → Region.lexHead md ops g l.length k listed = true →
      wpQuiet P ops C Lq l a → headAny P md ops C n (fun listed' a' => Region.seqB md ops g n listed' = true ∧ Lq a') l.length listed a := by
  induction l with
  | nil =>
    intro k listed a _ _ hk _ hB h
    have e : k = n := by simpa using hk
    subst e
    exact ⟨by simpa [Region.lexHead] using hB, h⟩
  | cons o l ih =>
    intro k listed a hmk hl hk inv hB h
    have h0 : ops[k]? = some o := by simpa using (hl 0 (by simp)).symm
    simp only [List.length_cons, Region.lexHead, Bool.and_eq_true] at hB
    simp only [List.length_cons] at hk
    have hr : k ∈ Region.ready md ops listed := by simpa using hB.1.1
    have hkn : k < n := by omega
    have hst : qOp P ops C k (wpQuiet P ops C Lq l) a := by unfold qOp; simp only [h0]; exact h
    obtain ⟨v, hy, hK⟩ := yieldsIn_of_qOp h0 hst
    refine take_first h0 (Region.noSelect_spec hsel) hw hmk hkn (fun _ _ hL => seqB_ready hL.1) l.length listed a inv (Region.free_spec h0 hB.1.2) hr hy ?_
    exact ih (k + 1) _ _ (by omega) (fun j hj => by have := hl (j + 1) (by simp only [List.length_cons]; omega); simpa [Nat.add_assoc, Nat.add_comm 1 j] using this) (by omega) (inv.set hr hkn) hB.2 hK
/-- the region: its first n operations are quiet in the class C, the others come up in their order -/
theorem wp_region_tail {id : Nat} {Q : Exit → Act → World → Prop} {a : Act} {w : World} {l : List Oper} (C : World → Prop) (n : Nat) (hm : P.follows .mixedOrders = true) (hB : Region.lexTailB .any l.toArray n = true) (hC : C w.drew)
    (h : wpQuiet P l.toArray C (fun a' => ∀ w', C w' → wpList P l.toArray Q (l.drop n) a' w') (l.take n) a) : (Code.region id l.toArray true).wp P Q a w := by
  simp only [Region.lexTailB, Bool.and_eq_true, decide_eq_true_eq] at hB
  obtain ⟨⟨⟨⟨hsel, hn⟩, hs⟩, hc⟩, hlex⟩ := hB
  have hn' : n < l.length := by simpa using hn
  have htl : (l.take n).length = n := by simp; omega
  have inv : HeadInv .any l.toArray n (Array.replicate l.toArray.size false) :=
    ⟨by simp, fun j oj _ hl => (by rw [getD_replicate_false] at hl; cases hl), fun t _ ht => getD_in (by simpa using ht) (getD_replicate_false _ _)⟩
  have H := head_lex (m := 0) (md := .any) (g := l.toArray.size - n) hsel (fun listed inv i _ hi hu t ht => tail_waits hs hc hn inv _ i rfl hi hu t ht) (l.take n) 0 _ a (Nat.le_refl _) (fun j hj => by rw [htl] at hj; simp [hj]) (by simpa using htl) inv (by rw [htl]; exact hlex) h
  refine wp_region_any hm ?_
  have K := headAny_all (Q := Q) (g := l.toArray.size - n) (fun listed a' w' hw' hL => by
    have h1 := wpAny_of_seq (md := .any) (Q' := Q) (l.drop n) n listed a' w' (fun j => by simp [List.getElem?_drop]) (by rw [show (l.drop n).length = l.toArray.size - n by simp]; exact hL.1) (hL.2 w' hw')
    rwa [show (l.drop n).length = l.toArray.size - n by simp] at h1) _ _ _ w.drew hC H
  rw [htl, show n + (l.toArray.size - n) = l.toArray.size by omega] at K
  exact K
/-- all but the first m of the head are waited for -/
def sinkFrom (md : Region.Mode) (ops : Array Oper) (m n : Nat) : Bool :=
  (List.range n).all fun i => decide (i < m) || (List.range (n + 1)).any fun j => decide (i < j) && Region.waitsFor md ops j i
theorem waits_from {m n : Nat} (hs : sinkFrom md ops m n = true) (hc : Region.chainB md ops n = true) (hn : n < ops.size) (listed : Array Bool) (inv : HeadInv md ops n listed) :
    ∀ (d i : Nat), n - i = d → m ≤ i → i < n → listed.getD i true = false → ∀ t, n ≤ t → t ∉ Region.ready md ops listed := by
  intro d
  induction d using Nat.strongRecOn with
  | _ d ih =>
    intro i hd hmi hi hun t ht hr
    obtain ⟨_, ot, hot, hall⟩ := mem_ready.1 hr
    have htlt : t < ops.size := (Array.getElem?_eq_some_iff.1 hot).1
    by_cases htn : t = n
    · have h1 := List.all_eq_true.1 hs i (List.mem_range.2 hi)
      rcases Bool.or_eq_true_iff.1 h1 with h1 | h1
      · have := of_decide_eq_true h1; omega
      · obtain ⟨j, hj, hj2⟩ := List.any_eq_true.1 h1
        rw [Bool.and_eq_true, decide_eq_true_eq] at hj2
        obtain ⟨oj, hoj, e, he, hb, hon⟩ := Region.waitsFor_spec hj2.2
        have hjn : j < n + 1 := List.mem_range.1 hj
        by_cases hjt : j = t
        · have h2 := hall e (by rw [hjt] at hoj; rw [hoj] at hot; cases hot; exact he) hb
          rw [hon, getD_both hun] at h2
          cases h2
        · cases hl : listed.getD j false with
          | true =>
            have h2 := inv.closed j oj hoj hl e he hb
            rw [hon, getD_both hun] at h2
            cases h2
          | false => exact ih (n - j) (by omega) j rfl (by omega) (by omega) (getD_in (by rw [inv.size]; omega) hl) t ht hr
    · have h1 := List.all_eq_true.1 hc t (List.mem_range.2 htlt)
      rcases Bool.or_eq_true_iff.1 h1 with h1 | h1
      · have := of_decide_eq_true h1; omega
      · obtain ⟨o', ho', e, he, hb, hon⟩ := Region.waitsFor_spec h1
        rw [ho'] at hot
        cases hot
        have h2 := hall e he hb
        rw [hon, getD_both (inv.tail (t - 1) (by omega) (by omega))] at h2
        cases h2
def tail1B (ops : Array Oper) (n : Nat) : Bool :=
  Region.noSelect ops && decide (n < ops.size) && decide (0 < n) && sinkFrom .any ops 1 n && Region.chainB .any ops n && Region.free .any ops (Array.replicate ops.size false) 0 && (Region.ready .any ops (Array.replicate ops.size false)).contains 0
    && Region.lexHead .any ops (ops.size - n) (n - 1) 1 ((Array.replicate ops.size false).setIfInBounds 0 true)
/-- the same where the first operation, which asks nothing of the world, is not waited for by the tail's first -/
theorem wp_region_tail1 {id : Nat} {Q : Exit → Act → World → Prop} {a : Act} {w : World} {o : Oper} {l : List Oper} (C : World → Prop) (n : Nat) (v : Value) (hm : P.follows .mixedOrders = true) (hB : tail1B (o :: l).toArray (n + 1) = true) (hC : C w.drew)
    (hQ : ∀ c a w, Q (.panic c) (a.put o.dst v) w → Q (.panic c) a w) (hy : Yields P (o :: l).toArray o v a)
    (h : wpQuiet P (o :: l).toArray C (fun a' => ∀ w', C w' → wpList P (o :: l).toArray Q (l.drop n) a' w') (l.take n) (a.put o.dst v)) : (Code.region id (o :: l).toArray true).wp P Q a w := by
  simp only [tail1B, Bool.and_eq_true, decide_eq_true_eq, Nat.add_sub_cancel] at hB
  obtain ⟨⟨⟨⟨⟨⟨⟨hsel, hn⟩, _⟩, hs⟩, hc⟩, hfree⟩, hready⟩, hlex⟩ := hB
  have hsz : (o :: l).toArray.size = l.length + 1 := by simp
  have hn' : n < l.length := by rw [hsz] at hn; omega
  have htl : (l.take n).length = n := by simp; omega
  have inv : HeadInv .any (o :: l).toArray (n + 1) (Array.replicate (o :: l).toArray.size false) :=
    ⟨by simp, fun j oj _ hl => (by rw [getD_replicate_false] at hl; cases hl), fun t _ ht => getD_in (by simpa using ht) (getD_replicate_false _ _)⟩
  have hr0 : 0 ∈ Region.ready .any (o :: l).toArray (Array.replicate (o :: l).toArray.size false) := by simpa using hready
  have H := head_lex (m := 1) (md := .any) (g := (o :: l).toArray.size - (n + 1)) hsel (fun listed inv i hmi hi hu t ht => waits_from hs hc hn listed inv _ i rfl hmi hi hu t ht) (l.take n) 1 _ (a.put o.dst v) (Nat.le_refl _) (fun j hj => by rw [htl] at hj; simp [hj, Nat.add_comm 1 j]) (by rw [htl]; omega) (inv.set hr0 (by omega)) (by rw [htl]; exact hlex) h
  refine wp_region_any hm ?_
  have K := headAny_all (Q := Q) (g := (o :: l).toArray.size - (n + 1)) (fun listed a' w' hw' hL => by
    have h1 := wpAny_of_seq (md := .any) (Q' := Q) (l.drop n) (n + 1) listed a' w' (fun j => by simp [List.getElem?_drop, Nat.add_right_comm n 1 j]) (by rw [show (l.drop n).length = (o :: l).toArray.size - (n + 1) by simp]; exact hL.1) (hL.2 w' hw')
    rwa [show (l.drop n).length = (o :: l).toArray.size - (n + 1) by simp] at h1) _ _ _ w.drew hC H
  rw [htl] at K
  have e : (o :: l).toArray.size = (n + ((o :: l).toArray.size - (n + 1))) + 1 := by rw [hsz]; omega
  have T := wpAny_take (P := P) (md := .any) (fuel := n + ((o :: l).toArray.size - (n + 1))) (i := 0) (oi := o) (v := v) (by simp) hsel hfree hready hQ hy K
  rw [← e] at T
  exact T
/-- whatever order is picked from here on; C holds until operation q has come up -/
def wpAnyS (P : Program) (md : Region.Mode) (ops : Array Oper) (Q : Exit → Act → World → Prop) (C : World → Prop) (q : Nat) : Nat → Array Bool → Act → World → Prop
  | 0, listed, a, w => Region.ready md ops listed = [] ∧ Q .normal a w
  | f + 1, listed, a, w => (Region.ready md ops listed = [] → Q .normal a w) ∧ ∀ i, i ∈ Region.ready md ops listed →
      wpOp P ops Q i (fun a' w' => ((listed.setIfInBounds i true).getD q false = true ∨ C w') ∧ wpAnyS P md ops Q C q f (listed.setIfInBounds i true) a' w') a w
theorem wpAnyS_any {Q : Exit → Act → World → Prop} {q : Nat} (f : Nat) : ∀ (listed : Array Bool) (a : Act) (w : World), wpAnyS P md ops Q C q f listed a w → wpAny P md ops Q f listed a w := by
  induction f with
  | zero => exact fun _ _ _ h => h
  | succ f ih => exact fun _ _ _ h => ⟨h.1, fun i hi => wpOp_mono (fun a' w' h' => ih _ a' w' h'.2) (h.2 i hi)⟩
theorem takeS {Q : Exit → Act → World → Prop} {q m i : Nat} {oi : Oper} {v : Value} (hi : ops[i]? = some oi) (hsel : ∀ (j : Nat) (o : Oper) cs b, ops[j]? = some o → o.op ≠ .select cs b)
    (hQ : ∀ c a w, Q (.panic c) (a.put oi.dst v) w → Q (.panic c) a w) (hq : q < ops.size)
    (hw : ∀ listed, HeadInv md ops q listed → ∀ i, m ≤ i → i < q → listed.getD i true = false → ∀ t, q ≤ t → t ∉ Region.ready md ops listed) (hmi : m ≤ i) (hiq : i < q) (f : Nat) :
    ∀ (listed : Array Bool) (a : Act) (w : World), HeadInv md ops q listed → Free md ops i oi listed → i ∈ Region.ready md ops listed → YieldsIf P ops C oi v a → C w →
      wpAnyS P md ops Q C q f (listed.setIfInBounds i true) (a.put oi.dst v) w → wpAnyS P md ops Q C q (f + 1) listed a w := by
  have yield_ : ∀ (listed : Array Bool) (a : Act) (w : World) (K : Act → World → Prop), YieldsIf P ops C oi v a → C w → K (a.put oi.dst v) w → wpOp P ops Q i (fun a' w' => ((listed.setIfInBounds i true).getD q false = true ∨ C w') ∧ K a' w') a w :=
    fun listed a w K hy hC hK => hy.wpOp hi hC ⟨.inr hC, hK⟩
  induction f with
  | zero =>
    intro listed a w inv _ hr hy hC H
    refine ⟨fun h => (by rw [h] at hr; cases hr), fun j hj => ?_⟩
    by_cases e : j = i
    · rw [e]; exact yield_ listed a w _ hy hC H
    · have h1 := ready_mono hj e
      rw [H.1] at h1
      cases h1
  | succ f ih =>
    intro listed a w inv hfree hr hy hC H
    refine ⟨fun h => (by rw [h] at hr; cases hr), fun j hj => ?_⟩
    by_cases e : j = i
    · rw [e]; exact yield_ listed a w _ hy hC H
    · have hun := (mem_ready.1 hr).1
      have hjq : j < q := Nat.lt_of_not_le fun h => hw _ inv i hmi hiq hun j h hj
      obtain ⟨hjun, oj, hoj, hall⟩ := mem_ready.1 hj
      have hno : ∀ e ∈ oj.after, Region.binds md e = true → e.on ≠ i := fun e he hb h => by
        have h1 := hall e he hb
        rw [h, getD_both hun] at h1
        cases h1
      have h2 := wpOp_putIf (S := C) hoj (hfree j oj hoj e hjun hno) (fun cs b => hsel i oi cs b hi) (fun cs b => hsel j oj cs b hoj) hQ hy (H.2 j (ready_mono hj e))
      refine wpOp_mono (fun a' w' h3 => ?_) h2
      obtain ⟨h4, h5, h6⟩ := h3
      have hqu : ((listed.setIfInBounds i true).setIfInBounds j true).getD q false = false := by
        rw [getD_set_ne false (Nat.ne_of_lt hjq), getD_set_ne false (Nat.ne_of_lt hiq)]
        exact getD_both (inv.tail q (Nat.le_refl _) hq)
      have hC' : C w' := by
        rcases h5 with h5 | h5
        · rw [hqu] at h5; cases h5
        · exact h5
      refine ⟨.inr hC', ih _ a' w' (inv.set hj hjq) (hfree.set hjun) (ready_mono hr (Ne.symm e)) h4 hC' ?_⟩
      rw [Array.setIfInBounds_comm _ _ e]
      exact h6
theorem headS {n g q : Nat} {L : Array Bool → Act → Prop} {Q : Exit → Act → World → Prop} (hL : ∀ listed a w, C w → L listed a → wpAnyS P md ops Q C q g listed a w) (f : Nat) :
    ∀ (listed : Array Bool) (a : Act) (w : World), C w → headAny P md ops C n L f listed a → wpAnyS P md ops Q C q (f + g) listed a w := by
  induction f with
  | zero => intro listed a w hw h; rw [Nat.zero_add]; exact hL _ _ _ hw h
  | succ f ih =>
    intro listed a w hw h
    have e : f + 1 + g = (f + g) + 1 := by omega
    rw [e]
    exact ⟨fun h0 => absurd h0 h.1, fun i hi => wpOp_of_qOp hw (fun a' w' hw' h' => ⟨.inr hw', ih _ a' w' hw' h'⟩) (h.2 i hi).2⟩
/-- one by one; C behind each of the first k -/
def wpListC (P : Program) (ops : Array Oper) (Q : Exit → Act → World → Prop) (C : World → Prop) : Nat → List Oper → Act → World → Prop
  | k + 1, o :: rest => fun a w => if Region.wanted o (yielded ops a.tmps) = true then o.wp P a w (fun a' w' => C w' ∧ wpListC P ops Q C k rest a' w') Q else C w ∧ wpListC P ops Q C k rest (a.put o.dst undef) w
  | _, l => wpList P ops Q l
theorem seqS {Q : Exit → Act → World → Prop} {q : Nat} (l : List Oper) : ∀ (k n : Nat) (listed : Array Bool) (a : Act) (w : World), n + k = q → (n ≥ q → q < ops.size → n > q → listed.getD q false = true) → (∀ j, l[j]? = ops[n + j]?) → listed.size = ops.size →
    Region.seqB md ops l.length n listed = true → wpListC P ops Q C k l a w → wpAnyS P md ops Q C q l.length listed a w := by
  have plain : ∀ (l : List Oper) (n : Nat) (listed : Array Bool) (a : Act) (w : World), q ≤ n → (q < n → listed.getD q false = true) → (∀ j, l[j]? = ops[n + j]?) → listed.size = ops.size → Region.seqB md ops l.length n listed = true → wpList P ops Q l a w → wpAnyS P md ops Q C q l.length listed a w := by
    intro l
    induction l with
    | nil => intro n listed a w _ _ _ _ hB h; exact ⟨by simpa [Region.seqB] using hB, h⟩
    | cons o l ih =>
      intro n listed a w hqn hq hl hsz hB h
      have h0 : ops[n]? = some o := by simpa using (hl 0).symm
      have hns : n < ops.size := (Array.getElem?_eq_some_iff.1 h0).1
      simp only [List.length_cons, Region.seqB, Bool.and_eq_true, decide_eq_true_eq] at hB
      have hq' : (listed.setIfInBounds n true).getD q false = true := by
        by_cases e : n = q
        · subst e; simp [hsz, hns]
        · exact getD_set_true (hq (by omega))
      refine ⟨fun h1 => (by rw [hB.1] at h1; cases h1), fun i hi => ?_⟩
      rw [hB.1] at hi
      obtain rfl : i = n := by simpa using hi
      have hw : wpOp P ops Q i (wpList P ops Q l) a w := by unfold wpOp; simp only [h0]; exact h
      exact wpOp_mono (fun a' w' h' => ⟨.inl hq', ih (i + 1) _ a' w' (by omega) (fun _ => hq') (fun j => by have := hl (j + 1); simpa [Nat.add_assoc, Nat.add_comm 1 j] using this) (by simpa using hsz) hB.2 h'⟩) hw
  induction l with
  | nil =>
    intro k n listed a w _ _ _ _ hB h
    cases k <;> exact ⟨by simpa [Region.seqB] using hB, h⟩
  | cons o l ih =>
    intro k n listed a w hk hq hl hsz hB h
    cases k with
    | zero => exact plain (o :: l) n listed a w (by omega) (fun h => by omega) hl hsz hB h
    | succ k =>
      have h0 : ops[n]? = some o := by simpa using (hl 0).symm
      simp only [List.length_cons, Region.seqB, Bool.and_eq_true, decide_eq_true_eq] at hB
      refine ⟨fun h1 => (by rw [hB.1] at h1; cases h1), fun i hi => ?_⟩
      rw [hB.1] at hi
      obtain rfl : i = n := by simpa using hi
      have hw : wpOp P ops Q i (fun a' w' => C w' ∧ wpListC P ops Q C k l a' w') a w := by
        unfold wpOp
        simp only [h0]
        unfold wpListC at h
        split
        · rename_i hwt; rw [if_pos hwt] at h; exact .inl h
        · rename_i hwt; rw [if_neg hwt] at h; exact h
      refine wpOp_mono (fun a' w' h' => ⟨.inr h'.1, ih k (i + 1) _ a' w' (by omega) (fun h => by omega) (fun j => by have := hl (j + 1); simpa [Nat.add_assoc, Nat.add_comm 1 j] using this) (by simpa using hsz) hB.2 h'.2⟩) hw
theorem wpListC_zero {Q : Exit → Act → World → Prop} {l : List Oper} {a : Act} {w : World} (h : wpList P ops Q l a w) : wpListC P ops Q C 0 l a w := h
theorem wpListC_step {Q : Exit → Act → World → Prop} {k : Nat} {o : Oper} {rest : List Oper} {a : Act} {w : World} (hg : o.guard = none) (h : ∀ K : Act → World → Prop, (∀ a' w', C w' → wpListC P ops Q C k rest a' w' → K a' w') → o.wp P a w K Q) : wpListC P ops Q C (k + 1) (o :: rest) a w := by
  unfold wpListC
  rw [if_pos (by simp [Region.wanted, hg])]
  exact h _ fun _ _ h1 h2 => ⟨h1, h2⟩
/-- operations that leave the world as it is, one value in all worlds of the class -/
def wpPre (P : Program) (ops : Array Oper) (Q : Exit → Act → World → Prop) (C : World → Prop) (K : Act → Prop) : List Oper → Act → Prop
  | [] => K
  | o :: l => fun a => ∃ v, YieldsIf P ops C o v a ∧ (∀ c a w, Q (.panic c) (a.put o.dst v) w → Q (.panic c) a w) ∧ wpPre P ops Q C K l (a.put o.dst v)
theorem wpPre_nil {Q : Exit → Act → World → Prop} {K : Act → Prop} {a : Act} (h : K a) : wpPre P ops Q C K [] a := h
def mixB (ops : Array Oper) (p n q : Nat) : Bool :=
  Region.noSelect ops && decide (n ≤ q) && decide (q < ops.size) && decide (p + 1 ≤ n) && sinkFrom .any ops 1 q && Region.chainB .any ops q && sinkFrom .any ops (p + 1) n && Region.chainB .any ops n
    && Region.free .any ops (Array.replicate ops.size false) 0 && (Region.ready .any ops (Array.replicate ops.size false)).contains 0 && Region.lexHead .any ops (ops.size - n) (n - 1) 1 ((Array.replicate ops.size false).setIfInBounds 0 true)
theorem pre_all {Q : Exit → Act → World → Prop} {p n q g : Nat} {Lq : Act → Prop} (hsel : Region.noSelect ops = true) (hq : q < ops.size) (hnq : n ≤ q)
    (hwq : ∀ listed, HeadInv md ops q listed → ∀ i, 1 ≤ i → i < q → listed.getD i true = false → ∀ t, q ≤ t → t ∉ Region.ready md ops listed)
    (hwn : ∀ listed, HeadInv md ops n listed → ∀ i, p + 1 ≤ i → i < n → listed.getD i true = false → ∀ t, n ≤ t → t ∉ Region.ready md ops listed)
    (hd : List Oper) (hend : ∀ listed a w, C w → listed.size = ops.size → Region.seqB md ops g n listed = true → Lq a → wpAnyS P md ops Q C q g listed a w) (pre : List Oper) :
    ∀ (k : Nat) (listed : Array Bool) (a : Act) (w : World), 1 ≤ k → k + pre.length = p + 1 → k + pre.length + hd.length = n → (∀ j, j < (pre ++ hd).length → (pre ++ hd)[j]? = ops[k + j]?) → HeadInv md ops q listed → HeadInv md ops n listed → C w →
      Region.lexHead md ops g (pre ++ hd).length k listed = true → wpPre P ops Q C (wpQuiet P ops C Lq hd) pre a → wpAnyS P md ops Q C q ((pre ++ hd).length + g) listed a w := by
  induction pre with
  | nil =>
    intro k listed a w h1 hp hn hl invq invn hC hB h
    simp only [List.nil_append] at hl hB ⊢
    have H := head_lex (m := p + 1) (md := md) (g := g) hsel hwn hd k listed a (by simp at hp; omega) hl (by simpa using hn) invn hB h
    have H2 : headAny P md ops C n (fun listed' a' => (Region.seqB md ops g n listed' = true ∧ Lq a')) hd.length listed a := H
    -- the size of the list is kept by what comes up: carried beside
    have key : ∀ (f : Nat) (listed : Array Bool) (a : Act), listed.size = ops.size → headAny P md ops C n (fun listed' a' => Region.seqB md ops g n listed' = true ∧ Lq a') f listed a → headAny P md ops C n (fun listed' a' => listed'.size = ops.size ∧ Region.seqB md ops g n listed' = true ∧ Lq a') f listed a := by
      intro f
      induction f with
      | zero => exact fun _ _ hs h => ⟨hs, h⟩
      | succ f ih => exact fun _ _ hs h => ⟨h.1, fun i hi => ⟨(h.2 i hi).1, qOp_mono (fun a' h' => ih _ a' (by simpa using hs) h') (h.2 i hi).2⟩⟩
    exact headS (fun listed a w hC hL => hend listed a w hC hL.1 hL.2.1 hL.2.2) hd.length listed a w hC (key _ _ _ invq.size H2)
  | cons o pre ih =>
    intro k listed a w h1 hp hn hl invq invn hC hB h
    have h0 : ops[k]? = some o := by simpa using (hl 0 (by simp)).symm
    simp only [List.cons_append, List.length_cons, Region.lexHead, Bool.and_eq_true] at hB
    simp only [List.length_cons] at hp hn
    have hr : k ∈ Region.ready md ops listed := by simpa using hB.1.1
    obtain ⟨v, hy, hQ, hK⟩ := h
    have e : ((o :: pre) ++ hd).length + g = ((pre ++ hd).length + g) + 1 := by simp only [List.cons_append, List.length_cons]; omega
    rw [e]
    refine takeS h0 (Region.noSelect_spec hsel) hQ hq hwq h1 (by omega) _ listed a w invq (Region.free_spec h0 hB.1.2) hr hy hC ?_
    exact ih (k + 1) _ _ w (by omega) (by omega) (by omega) (fun j hj => by have := hl (j + 1) (by simp only [List.cons_append, List.length_cons]; omega); simpa [Nat.add_assoc, Nat.add_comm 1 j] using this) (invq.set hr (by omega)) (invn.set hr (by omega)) hC hB.2 hK
/-- a region 'x.f = append(x.f, &T{.. calls ..})' and its like: the first operation asks nothing of the world; p more only read what C tells; then come those that are quiet in C; then the rest in their order, C being kept ahead of operation q -/
theorem wp_region_mix {id : Nat} {Q : Exit → Act → World → Prop} {a : Act} {w : World} {o : Oper} {l : List Oper} (C : World → Prop) (p h k : Nat) (v : Value) (hm : P.follows .mixedOrders = true) (hB : mixB (o :: l).toArray p (p + h + 1) (p + h + 1 + k) = true) (hC : C w.drew)
    (hQ : ∀ c a w, Q (.panic c) (a.put o.dst v) w → Q (.panic c) a w) (hy : Yields P (o :: l).toArray o v a)
    (H : wpPre P (o :: l).toArray Q C (wpQuiet P (o :: l).toArray C (fun a' => ∀ w', C w' → wpListC P (o :: l).toArray Q C k ((l.drop p).drop h) a' w') ((l.drop p).take h)) (l.take p) (a.put o.dst v)) : (Code.region id (o :: l).toArray true).wp P Q a w := by
  simp only [mixB, Bool.and_eq_true, decide_eq_true_eq, Nat.add_sub_cancel] at hB
  obtain ⟨⟨⟨⟨⟨⟨⟨⟨⟨⟨hsel, hnq⟩, hq⟩, hpn⟩, hsq⟩, hcq⟩, hsn⟩, hcn⟩, hfree⟩, hready⟩, hlex⟩ := hB
  have hsz : (o :: l).toArray.size = l.length + 1 := by simp
  have hll : p + h + k < l.length := by rw [hsz] at hq; omega
  have htp : (l.take p).length = p := by simp; omega
  have hth : ((l.drop p).take h).length = h := by simp; omega
  have htd : ((l.drop p).drop h).length = (o :: l).toArray.size - (p + h + 1) := by rw [List.length_drop, List.length_drop, hsz]; omega
  have inv : ∀ n, HeadInv .any (o :: l).toArray n (Array.replicate (o :: l).toArray.size false) := fun n =>
    ⟨by simp, fun j oj _ hl => (by rw [getD_replicate_false] at hl; cases hl), fun t _ ht => getD_in (by simpa using ht) (getD_replicate_false _ _)⟩
  have hr0 : 0 ∈ Region.ready .any (o :: l).toArray (Array.replicate (o :: l).toArray.size false) := by simpa using hready
  have hcat : l.take p ++ (l.drop p).take h = l.take (p + h) := (List.take_add (l := l) (i := p) (j := h)).symm
  have hcl : (l.take p ++ (l.drop p).take h).length = p + h := by rw [List.length_append, htp, hth]
  refine wp_region_any hm ?_
  have K := pre_all (P := P) (C := C) (Q := Q) (p := p) (n := p + h + 1) (q := p + h + 1 + k) (g := (o :: l).toArray.size - (p + h + 1)) (md := .any) (Lq := fun a' => ∀ w', C w' → wpListC P (o :: l).toArray Q C k ((l.drop p).drop h) a' w') hsel hq hnq
    (fun listed inv i hmi hi hu t ht => waits_from hsq hcq hq listed inv _ i rfl hmi hi hu t ht) (fun listed inv i hmi hi hu t ht => waits_from hsn hcn (by omega) listed inv _ i rfl hmi hi hu t ht) ((l.drop p).take h)
    (fun listed a' w' hC' hs hB' hL => by
      have := seqS (P := P) (C := C) (Q := Q) (md := .any) (ops := (o :: l).toArray) (q := p + h + 1 + k) ((l.drop p).drop h) k (p + h + 1) listed a' w' rfl (fun _ _ h => by omega) (fun j => by rw [show p + h + 1 + j = (p + (h + j)) + 1 by omega, List.getElem?_drop, List.getElem?_drop]; simp) hs (by rw [htd]; exact hB') (hL w' hC')
      rwa [htd] at this)
    (l.take p) 1 _ (a.put o.dst v) w.drew (Nat.le_refl _) (by rw [htp]; omega) (by rw [htp, hth]; omega) (fun j hj => by
      rw [hcl] at hj
      rw [hcat, List.getElem?_take, if_pos hj, Nat.add_comm 1 j]
      simp) ((inv _).set hr0 (by omega)) ((inv _).set hr0 (by omega)) hC (by rw [hcl]; exact hlex) H
  rw [hcl] at K
  have e : (o :: l).toArray.size = (p + h + ((o :: l).toArray.size - (p + h + 1))) + 1 := by rw [hsz]; omega
  have T := wpAny_take (P := P) (md := .any) (fuel := p + h + ((o :: l).toArray.size - (p + h + 1))) (i := 0) (oi := o) (v := v) (by simp) hsel hfree hready hQ hy (wpAnyS_any _ _ _ _ K)
  rw [← e] at T
  exact T
end
end Go.Proofs.YtdbkafpflicdiaaDoor.tail
