/- Contract of ReferenceName.Validate at texts of ASCII. -/
import Derived.Test.YtplhhgcejajmoaaDoorSearchPlumb
import Derived.Deep.AppendLies
set_option linter.unusedVariables false
namespace Go.Proofs.YtplhhgcejajmoaaDoor.refname
open Go.RowKit Lib strs text searchPlumb Go.WideShapes

def heads : List UInt8 := [114, 101, 102, 115, 47, 104, 101, 97, 100, 115, 47]
def tags : List UInt8 := [114, 101, 102, 115, 47, 116, 97, 103, 115, 47]
def headL : List UInt8 := [72, 69, 65, 68]
def seps : List UInt8 := [126, 94, 58, 63, 42, 91, 32, 9, 10]
def badPart (l : List UInt8) : Bool := prefixOf l [46] || (has [46, 46] l || (control l || (anyOf seps l || (has [64, 123] l || (l == [64] || (has [92] l || suffixOf l [46, 108, 111, 99, 107]))))))
def partOk (bt : Bool) (i : Nat) (l : List UInt8) : Bool := !l.isEmpty && !badPart l && !(bt && prefixOf l [45] && i == 2)
def partsOk (bt : Bool) (ps : List (List UInt8)) : Bool := (List.range ps.length).all fun i => partOk bt i (ps.getD i [])
def bt (l : List UInt8) : Bool := prefixOf l heads || prefixOf l tags
def valid (l : List UInt8) : Bool := if l = [] then false else if l = headL then true else !suffixOf l [46] && decide (2 ≤ (pieces 47 l).length) && partsOk (bt l) (pieces 47 l)

theorem branch_calls (s : ByteArray) (w : World) (hs : s.size ≤ 9223372036854775807) :
    Calls Tryd.prog 25 #[.string s] w fun e w' => e = .returned (.bool (prefixOf s.data.toList heads)) ∧ w = w' := by
  go_enter Tryd.func25, Tryd.ntmps25
  go_wp2_with fail
  refine (HasPrefix_calls s _ _ hs).mono ?_
  rintro e w' ⟨rfl, rfl⟩
  go_wp2_with fail
  go_ret
  exact ⟨rfl, rfl⟩
theorem tag_calls (s : ByteArray) (w : World) (hs : s.size ≤ 9223372036854775807) :
    Calls Tryd.prog 26 #[.string s] w fun e w' => e = .returned (.bool (prefixOf s.data.toList tags)) ∧ w = w' := by
  go_enter Tryd.func26, Tryd.ntmps26
  go_wp2_with fail
  refine (HasPrefix_calls s _ _ hs).mono ?_
  rintro e w' ⟨rfl, rfl⟩
  go_wp2_with fail
  go_ret
  exact ⟨rfl, rfl⟩
theorem pc0 (l : List UInt8) (w : World) (h : (ofL l).size ≤ 1048576) : Calls Tryd.prog 27 #[.string (ofL l), .string ⟨#[46]⟩] w fun e w' => e = .returned (.bool (prefixOf l [46])) ∧ w = w' := HasPrefix_calls (ofL l) ⟨#[46]⟩ w (by omega)
theorem pcm (l : List UInt8) (w : World) (h : (ofL l).size ≤ 1048576) : Calls Tryd.prog 27 #[.string (ofL l), .string ⟨#[45]⟩] w fun e w' => e = .returned (.bool (prefixOf l [45])) ∧ w = w' := HasPrefix_calls (ofL l) ⟨#[45]⟩ w (by omega)
theorem pc1 (l : List UInt8) (w : World) (h : (ofL l).size ≤ 1048576) : Calls Tryd.prog 28 #[.string (ofL l), .string ⟨#[46, 46]⟩] w fun e w' => e = .returned (.bool (has [46, 46] l)) ∧ w = w' := contains_calls (ofL l) ⟨#[46, 46]⟩ w (by omega) (by decide)
theorem pc2 (l : List UInt8) (w : World) (h : (ofL l).size ≤ 1048576) : Calls Tryd.prog 29 #[.string (ofL l)] w fun e w' => e = .returned (.bool (control l)) ∧ w = w' := control_calls (ofL l) w (by omega)
def ascii (l : List UInt8) : Bool := l.all (· < 128)
theorem ascii_at (l : List UInt8) (h : ascii l = true) (k : Nat) (hk : k < (ofL l).size) : (ofL l)[k].toNat < 128 := by
  unfold ascii at h
  have := List.all_eq_true.1 h (ofL l)[k] (by
    rw [show (ofL l)[k] = (ofL l).data[k] from rfl]
    have := Array.getElem_mem_toList (xs := (ofL l).data) (i := k) hk
    rwa [data_ofL] at this)
  simpa [UInt8.lt_iff_toNat_lt] using this
theorem seps_at (k : Nat) (hk : k < (⟨#[126, 94, 58, 63, 42, 91, 32, 9, 10]⟩ : ByteArray).size) : (⟨#[126, 94, 58, 63, 42, 91, 32, 9, 10]⟩ : ByteArray)[k].toNat < 128 := by
  exact ascii_at seps (by decide) k hk
theorem pc3 (l : List UInt8) (w : World) (h : (ofL l).size ≤ 1048576) (ha : ascii l = true) : Calls Tryd.prog 30 #[.string (ofL l), .string ⟨#[126, 94, 58, 63, 42, 91, 32, 9, 10]⟩] w fun e w' => e = .returned (.bool (anyOf seps l)) ∧ Below w.heap.size w w' :=
  containsAny_calls (ofL l) ⟨#[126, 94, 58, 63, 42, 91, 32, 9, 10]⟩ w (by omega) (by decide) (ascii_at l ha) seps_at
theorem pc4 (l : List UInt8) (w : World) (h : (ofL l).size ≤ 1048576) : Calls Tryd.prog 28 #[.string (ofL l), .string ⟨#[64, 123]⟩] w fun e w' => e = .returned (.bool (has [64, 123] l)) ∧ w = w' := contains_calls (ofL l) ⟨#[64, 123]⟩ w (by omega) (by decide)
theorem pc6 (l : List UInt8) (w : World) (h : (ofL l).size ≤ 1048576) : Calls Tryd.prog 28 #[.string (ofL l), .string ⟨#[92]⟩] w fun e w' => e = .returned (.bool (has [92] l)) ∧ w = w' := contains_calls (ofL l) ⟨#[92]⟩ w (by omega) (by decide)
theorem pc7 (l : List UInt8) (w : World) (h : (ofL l).size ≤ 1048576) : Calls Tryd.prog 23 #[.string (ofL l), .string ⟨#[46, 108, 111, 99, 107]⟩] w fun e w' => e = .returned (.bool (suffixOf l [46, 108, 111, 99, 107])) ∧ w = w' := HasSuffix_calls (ofL l) ⟨#[46, 108, 111, 99, 107]⟩ w (by omega)
theorem partsOk_no (b : Bool) (ps : List (List UInt8)) (k : Nat) (hk : k < ps.length) (h : partOk b k (ps.getD k []) = false) : partsOk b ps = false := by
  unfold partsOk
  rw [List.all_eq_false]
  exact ⟨k, List.mem_range.2 hk, by simpa using h⟩
theorem partsOk_yes (b : Bool) (ps : List (List UInt8)) (h : ∀ k, k < ps.length → partOk b k (ps.getD k []) = true) : partsOk b ps = true := by
  unfold partsOk
  rw [List.all_eq_true]
  exact fun k hk => h k (List.mem_range.1 hk)
theorem pieces_mem (c : UInt8) (l : List UInt8) : ∀ p ∈ pieces c l, ∀ x ∈ p, x ∈ l := by
  induction l with
  | nil => intro p hp x hx; simp [pieces] at hp; subst hp; cases hx
  | cons y t ih =>
    intro p hp x hx
    rw [pieces] at hp
    split at hp
    · rcases List.mem_cons.1 hp with rfl | hp
      · cases hx
      · exact List.mem_cons_of_mem _ (ih p hp x hx)
    · split at hp
      · rename_i hd r e
        rcases List.mem_cons.1 hp with rfl | hp
        · rcases List.mem_cons.1 hx with rfl | hx
          · exact List.mem_cons_self
          · exact List.mem_cons_of_mem _ (ih hd (by rw [e]; exact List.mem_cons_self) x hx)
        · exact List.mem_cons_of_mem _ (ih p (by rw [e]; exact List.mem_cons_of_mem _ hp) x hx)
      · simp at hp; subst hp; simp at hx; subst hx; exact List.mem_cons_self
theorem pieces_size (c : UInt8) (l : List UInt8) : ∀ p ∈ pieces c l, p.length ≤ l.length := by
  induction l with
  | nil => intro p hp; simp [pieces] at hp; subst hp; simp
  | cons y t ih =>
    intro p hp
    rw [pieces] at hp
    split at hp
    · rcases List.mem_cons.1 hp with rfl | hp
      · simp
      · have := ih p hp; simp; omega
    · split at hp
      · rename_i hd r e
        rcases List.mem_cons.1 hp with rfl | hp
        · have := ih hd (by rw [e]; exact List.mem_cons_self); simp; omega
        · have := ih p (by rw [e]; exact List.mem_cons_of_mem _ hp); simp; omega
      · simp at hp; subst hp; simp
theorem getD_mem {α : Type} (l : List α) (d : α) (k : Nat) (h : k < l.length) : l.getD k d ∈ l := by
  rw [List.getD_eq_getElem?_getD, List.getElem?_eq_getElem h]; exact List.getElem_mem h

/-- what a round of the walk over the pieces has shown -/
def Upto (b : Bool) (ps : List (List UInt8)) (k : Nat) : Prop := ∀ i, i < k → partOk b i (ps.getD i []) = true
def Err (w : World) (a : Addr) : Prop := w.cell? ⟨0, 0, none⟩ = some (.iface 83 (.pointer (some a)))
def AtRound (g cap : Nat) (ps : List (List UInt8)) (w wr : World) (b : Bool) (a : Addr) (k : Nat) : Prop :=
  wr.ownsRow w.heap.size 9 1 (.slice (some ⟨g, 0, none⟩) ps.length cap) ps.length (strVals ps) ∧ Below w.heap.size w wr ∧ Err wr a ∧ Upto b ps k
def Res (w : World) (e : Ending) (w' : World) (a : Addr) (v : Bool) : Prop :=
  e = .returned (if v = true then .nilIface else .iface 83 (.pointer (some a))) ∧ Below w.heap.size w w'
theorem res_no {w w' : World} {e : Ending} {a : Addr} {v : Bool} (he : e = .returned (.iface 83 (.pointer (some a)))) (hv : v = false) (hb : Below w.heap.size w w') : Res w e w' a v := by
  subst hv; exact ⟨he, hb⟩
theorem res_yes {w w' : World} {e : Ending} {a : Addr} {v : Bool} (he : e = .returned .nilIface) (hv : v = true) (hb : Below w.heap.size w w') : Res w e w' a v := by
  subst hv; exact ⟨he, hb⟩
theorem AtRound.cellAt {g cap : Nat} {ps : List (List UInt8)} {w wr : World} {b : Bool} {a : Addr} {k : Nat} (h : AtRound g cap ps w wr b a k) (hk : k < ps.length) : wr.cell? ⟨g, k, none⟩ = some (.string (ofL (ps.getD k []))) := by
  rw [h.1.cellAt k (by omega)]
  simp [strVals, List.getElem?_map, List.getElem?_eq_getElem hk, List.getD_eq_getElem?_getD]
theorem AtRound.later {g cap : Nat} {ps : List (List UInt8)} {w wr w1 : World} {b : Bool} {a : Addr} {k : Nat} (h : AtRound g cap ps w wr b a k) (hb : Below wr.heap.size wr w1) : AtRound g cap ps w w1 b a k := by
  obtain ⟨h1, h2, h3, h4⟩ := h
  refine ⟨h1.kept (row := none) ⟨hb.os, hb.tape, hb.output, hb.size, fun i hi _ => hb.block i hi⟩ (.inr (by simp [Value.ownBlock])), h2.trans (hb.mono h2.size), ?_, h4⟩
  exact cell_later hb h3
theorem AtRound.next {g cap : Nat} {ps : List (List UInt8)} {w wr : World} {b : Bool} {a : Addr} {k : Nat} (h : AtRound g cap ps w wr b a k) (hp : partOk b k (ps.getD k []) = true) : AtRound g cap ps w wr b a (k + 1) :=
  ⟨h.1, h.2.1, h.2.2.1, fun i hi => by
    rcases Nat.lt_or_ge i k with h' | h'
    · exact h.2.2.2 i h'
    · obtain rfl : i = k := by omega
      exact hp⟩
theorem partOk_mk (b : Bool) (i : Nat) (l : List UInt8) (hz : l ≠ []) (hb : badPart l = false) (h : (b && prefixOf l [45] && i == 2) = false) : partOk b i l = true := by
  unfold partOk; rw [hb, h]; cases l with | nil => exact absurd rfl hz | cons _ _ => rfl
theorem valid_no1 (l : List UInt8) (h0 : l ≠ []) (h1 : l ≠ headL) (h : suffixOf l [46] = true) : valid l = false := by simp [valid, h0, h1, h]
theorem valid_no2 (l : List UInt8) (h0 : l ≠ []) (h1 : l ≠ headL) (h : (pieces 47 l).length < 2) : valid l = false := by
  have e : decide (2 ≤ (pieces 47 l).length) = false := decide_eq_false (Nat.not_le.2 h)
  unfold valid; rw [if_neg h0, if_neg h1, e]; simp
theorem valid_no3 (l : List UInt8) (h0 : l ≠ []) (h1 : l ≠ headL) (h : partsOk (bt l) (pieces 47 l) = false) : valid l = false := by
  unfold valid; rw [if_neg h0, if_neg h1, h]; simp
theorem valid_yes (l : List UInt8) (h0 : l ≠ []) (h1 : l ≠ headL) (h2 : suffixOf l [46] = false) (h3 : ¬ (pieces 47 l).length < 2) (h : partsOk (bt l) (pieces 47 l) = true) : valid l = true := by
  have e : decide (2 ≤ (pieces 47 l).length) = true := decide_eq_true (Nat.not_lt.1 h3)
  unfold valid; rw [if_neg h0, if_neg h1, h, h2, e]; rfl

end Go.Proofs.YtplhhgcejajmoaaDoor.refname
