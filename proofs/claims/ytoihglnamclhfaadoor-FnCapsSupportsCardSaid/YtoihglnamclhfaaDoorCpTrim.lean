/- bytes.TrimSpace of a text without blanks at its ends; the run of the pieces. -/
import Derived.Test.YtoihglnamclhfaaDoorCpPlain
import Derived.Test.YtoihglnamclhfaaDoorShelf
import Derived.Test.YtoihglnamclhfaaDoorMem
import Derived.Test.YtoihglnamclhfaaDoorCpAdd
set_option linter.unusedVariables false
namespace Go.Proofs.YtoihglnamclhfaaDoor.cap
open Go.RowKit Lib frm mf mem text

set_option maxRecDepth 100000 in
theorem sp_fin : ∀ n : Fin 256, inkB (UInt8.ofNat n.val) = true → Lib.isSp (UInt8.ofNat n.val) = false := by decide
theorem sp_of_ink {c : UInt8} (h : inkB c = true) : Lib.isSp c = false := by
  have := sp_fin ⟨c.toNat, c.toNat_lt⟩
  simp only [UInt8.ofNat_toNat] at this
  exact this h
def ints (L : List UInt8) : List Int := L.map fun c => (c.toNat : Int)
theorem bytesOf_ints (L : List UInt8) : Lib.bytesOf (ints L) = L := by
  unfold ints Lib.bytesOf
  rw [List.map_map]
  conv => rhs; rw [← List.map_id L]
  apply List.map_congr_left
  intro a _
  simp
theorem ints_at {L : List UInt8} {i : Nat} (h : i < L.length) : (ints L).getD i 0 = (L[i].toNat : Int) := by
  unfold ints
  simp [List.getD, h]
/-- no blank at an end, all below 128 -/
def Trim (L : List UInt8) : Prop := Ascii L ∧ (L ≠ [] → (∃ c, L[0]? = some c ∧ inkB c = true) ∧ ∃ c, L[L.length - 1]? = some c ∧ inkB c = true)
theorem trim_calls (b o c : Nat) (L : List UInt8) (w : World) (B : Nat) (h : Bytes w B (some ⟨b, o, none⟩) L.length L) (hc : L.length ≤ c) (hz : L.length ≤ 1000000) (hT : Trim L) (htab : Lib.TabIs Tryd.prog w "bytes.asciiSpace" .u8 Lib.asciiSpaceTab) :
    Calls Tryd.prog 69 #[.slice (some ⟨b, o, none⟩) L.length c] w fun e w' => e = .returned (if L = [] then .slice none 0 0 else .slice (some ⟨b, o, none⟩) L.length c) ∧ w' = w := by
  have h1 := Tryd.bytes_TrimSpace b o L.length c (ints L) w (by simp [ints]) hc (by omega) (fun i hi => by
    obtain ⟨g, o', x, e, _, h2, h3, _⟩ := h.next hi
    cases e
    rw [h2, ints_at hi]
    have : x = L[i] := by
      have h4 := congrArg List.head? h3
      simpa [List.head?_drop, hi] using h4.symm
    rw [this]) (fun i hi => by
    rw [ints_at hi]
    have := hT.1 L[i] (List.getElem_mem _)
    omega) htab
  rw [bytesOf_ints] at h1
  by_cases h0 : L = []
  · subst h0
    rw [if_pos rfl]
    have e : Lib.bytesTrimSpace b o c [] = .slice none 0 0 := by unfold Lib.bytesTrimSpace; simp
    rw [e] at h1
    exact h1
  · rw [if_neg h0]
    obtain ⟨⟨x, hx, hxi⟩, y, hy, hyi⟩ := hT.2 h0
    have hl : 0 < L.length := List.length_pos_iff.2 h0
    have e : Lib.bytesTrimSpace b o c L = .slice (some ⟨b, o, none⟩) L.length c := by
      rw [Lib.bytesTrimSpace_cut b o c L 0 (L.length - 1) (by omega) (by omega) (fun j x hj _ => absurd hj (by omega)) (fun z hz => by rw [hx] at hz; cases hz; exact sp_of_ink hxi) (fun z hz => by rw [hy] at hz; cases hz; exact sp_of_ink hyi) (fun j z hj hz => by
        have := (List.getElem?_eq_some_iff.1 hz).1; omega)]
      simp; omega
    rw [e] at h1
    exact h1

/-- what comes of the names ns where the pieces R are still to come -/
inductive Runs : List ByteArray → List (List UInt8) → List ByteArray → Prop
  | nil {ns} : Runs ns [] ns
  | plain {ns n R ns'} : n ∈ plainN → ofL n ∉ ns → Runs (ns ++ [ofL n]) R ns' → Runs ns (n :: R) ns'
  | val {ns n v R ns'} : n = agentN ∨ n = symrefN → v ≠ [] → ofL n ∉ ns → Runs (ns ++ [ofL n]) R ns' → Runs ns ((n ++ 61 :: v) :: R) ns'
  | again {ns v R ns'} : v ≠ [] → symS ∈ ns → Runs ns R ns' → Runs ns ((symrefN ++ 61 :: v) :: R) ns'
def namesOf (l : List Cap) : List ByteArray := l.map fun c => ofL c.name
theorem symS_is : ofL symrefN = symS := rfl
theorem word_nil {v : List UInt8} (h : Word v) : v ≠ [] := by intro e; have := h.2.1; rw [e] at this; simp at this
theorem again_all : ∀ (vs : List (List UInt8)) (ns : List ByteArray) (R : List (List UInt8)) (ns' : List ByteArray), (∀ v ∈ vs, Word v) → symS ∈ ns → Runs ns R ns' → Runs ns (vs.map (fun v => symrefN ++ 61 :: v) ++ R) ns'
  | [], _, _, _, _, _, h => h
  | v :: vs, ns, R, ns', hv, hs, h => .again (word_nil (hv v (by simp))) hs (again_all vs ns R ns' (fun x hx => hv x (by simp [hx])) hs h)
theorem runs_all : ∀ (l : List Cap) (ns : List ByteArray), (∀ c ∈ l, GoodC c) → (l.map Cap.name).Nodup → (∀ c ∈ l, ofL c.name ∉ ns) → Runs ns (l.flatMap items) (ns ++ namesOf l)
  | [], ns, _, _, _ => by simpa [namesOf] using Runs.nil
  | c :: l, ns, hg, hd, hn => by
    have h1 := hg c (by simp)
    simp only [List.map_cons, List.nodup_cons] at hd
    have hrest := runs_all l (ns ++ [ofL c.name]) (fun x hx => hg x (by simp [hx])) hd.2 (fun x hx hm => by
      rcases List.mem_append.1 hm with hm | hm
      · exact hn x (by simp [hx]) hm
      · have e : ofL x.name = ofL c.name := by simpa using hm
        have e2 : x.name = c.name := by have := congrArg (fun b : ByteArray => b.data.toList) e; simpa [data_ofL] using this
        exact hd.1 (by rw [← e2]; exact List.mem_map_of_mem hx))
    have e3 : ns ++ namesOf (c :: l) = (ns ++ [ofL c.name]) ++ namesOf l := by simp [namesOf]
    rw [e3, List.flatMap_cons]
    rcases h1.2 with ⟨hnm, hv⟩ | ⟨hnm, hv, _⟩ | ⟨hnm, hv⟩
    · obtain ⟨v, hv2⟩ := List.length_eq_one_iff.1 hv
      have : items c = [c.name ++ 61 :: v] := by unfold items; rw [hv2]; rfl
      rw [this]
      exact .val (.inl hnm) (word_nil (h1.1 v (by rw [hv2]; simp))) (hn c (by simp)) hrest
    · cases hvs : c.vals with
      | nil => rw [hvs] at hv; simp at hv
      | cons v vs =>
        have : items c = (c.name ++ 61 :: v) :: vs.map (fun v => symrefN ++ 61 :: v) := by unfold items; rw [hvs, hnm]; rfl
        rw [this, List.cons_append]
        refine .val (.inr hnm) (word_nil (h1.1 v (by rw [hvs]; simp))) (hn c (by simp)) ?_
        refine again_all vs _ _ _ (fun x hx => h1.1 x (by rw [hvs]; simp [hx])) (by rw [hnm]; simp [symS_is]) hrest
    · have : items c = [c.name] := by unfold items; rw [if_pos hv]
      rw [this]
      exact .plain hnm (hn c (by simp)) hrest
set_option maxRecDepth 100000 in
theorem plain_known : ∀ n ∈ plainN, inSet knownL (ofL n) = true ∧ inSet reqL (ofL n) = false ∧ n.length ≤ 60 := by unfold plainN; decide
theorem val_known (n : List UInt8) (h : n = agentN ∨ n = symrefN) : inSet knownL (ofL n) = true ∧ inSet reqL (ofL n) = true ∧ n.length ≤ 60 := by
  rcases h with rfl | rfl <;> decide
theorem some1_val (n : List UInt8) (h : n = agentN ∨ n = symrefN) : Some1 n := by
  rcases h with rfl | rfl <;> (unfold Some1; decide)
theorem some1_plain (n : List UInt8) (h : n ∈ plainN) : Some1 n := by
  have : ∀ n ∈ plainN, (n.all wordB && decide (1 ≤ n.length) && decide (n.length ≤ 60)) = true := by unfold plainN; decide
  have := this _ h
  simp only [Bool.and_eq_true, decide_eq_true_eq, List.all_eq_true] at this
  exact ⟨this.1.1, this.1.2, this.2⟩
end Go.Proofs.YtoihglnamclhfaaDoor.cap
