/- What the tests of patterns and paths compute. -/
import Derived.Test.YtfanginpfppdeaaMatchC
import Derived.Test.YtfanginpfppdeaaIgPure
import Derived.Test.YtfanginpfppdeaaStrSl
set_option linter.unusedVariables false
namespace Go.Proofs.Ytfanginpfppdeaa.glob
open Go.RowKit Lib text strs mem

/-- a test's answer, and what it tells -/
def Told (w : World) (F : Bool → Prop) (e : Ending) (w' : World) : Prop := w' = w ∧ ∃ b, e = .returned (.bool b) ∧ F b
def NoByte (c : UInt8) (l : List UInt8) (b : Bool) : Prop := b = false → ∀ x ∈ l, x ≠ c
def IsGlob (l : List UInt8) (b : Bool) : Prop := b = true → Glob l
theorem told_no {w : World} {l : List UInt8} : Told w (IsGlob l) (.returned (.bool false)) w := ⟨rfl, false, rfl, nofun⟩
set_option maxRecDepth 100000 in
theorem has_calls (S : ByteArray) (c : UInt8) (w : World) (hs : S.size ≤ 140737488351232) :
    Calls Try.prog 16 #[.string S, .int .u8 c.toNat] w (Told w (NoByte c S.data.toList)) := by
  go_enter Try.func16, Try.ntmps16
  go_wp2_with fail
  go_loop [8] (fun iv => ∃ k : Nat, k ≤ S.size ∧ iv = .int .i64 k ∧ Hid (∀ x ∈ S.data.toList.take k, x ≠ c)) (fun iv => S.size - (RowKit.intOf iv).toNat)
  case atStart => exact ⟨0, by omega, rfl, hid (by simp)⟩
  case round =>
    obtain ⟨k, hk, rfl, hh⟩ := hrel
    by_cases hlt : k < S.size
    · by_cases hx : S[k].toNat = c.toNat
      · have q : (S[k].toNat : Int) = (c.toNat : Int) := by omega
        go_wp2_with fail
        go_ret
        exact ⟨rfl, true, rfl, nofun⟩
      · have q : ((S[k].toNat : Int) == (c.toNat : Int)) = false := by rw [beq_eq_false_iff_ne]; omega
        have hh2 : Hid (∀ x ∈ S.data.toList.take (k + 1), x ≠ c) := hid (by
          intro x hx2
          rw [List.take_add_one, List.mem_append] at hx2
          rcases hx2 with h | h
          · exact hh.out x h
          · rw [get_list S k hlt] at h
            simp at h
            subst h
            intro e
            apply hx
            rw [e])
        clear hx
        go_wp2_with fail
        go_round
        case rel => exact ⟨k + 1, by omega, by go_num, hh2⟩
        case measure => simp [RowKit.intOf]; omega
    · have hh2 : Hid (∀ x ∈ S.data.toList, x ≠ c) := hid (by have := hh.out; rwa [List.take_of_length_le (by simp; omega)] at this)
      go_wp2_with fail
      go_ret
      exact ⟨rfl, false, rfl, fun _ => hh2.out⟩
theorem classes13 (c : Int) : c < 42 ∨ c = 42 ∨ (42 < c ∧ c < 46) ∨ c = 46 ∨ c = 47 ∨ (48 ≤ c ∧ c ≤ 57) ∨ (57 < c ∧ c < 63) ∨ c = 63 ∨ c = 64 ∨ (65 ≤ c ∧ c ≤ 90) ∨ (90 < c ∧ c < 97) ∨ (97 ≤ c ∧ c ≤ 122) ∨ 122 < c := by omega
/-- what holds of the front of a pattern -/
structure Front (l : List UInt8) (k : Nat) : Prop where
  ok : ∀ x ∈ l.take k, okc x
  dbl : ∀ i, i + 1 < k → l[i]? = some 42 → l[i + 1]? ≠ some 42
theorem Front.next {S : ByteArray} {k : Nat} (h : Front S.data.toList k) (hlt : k < S.size) (hok : okc S[k]) (hd : 0 < k → S[k] = 42 → S.data.toList[k - 1]? ≠ some 42) : Front S.data.toList (k + 1) := by
  refine ⟨fun x hx => ?_, fun i hi h1 h2 => ?_⟩
  · rw [List.take_add_one, List.mem_append] at hx
    rcases hx with hx | hx
    · exact h.ok x hx
    · rw [get_list S k hlt] at hx
      simp at hx
      subst hx
      exact hok
  · rcases Nat.lt_or_ge (i + 1) k with h3 | h3
    · exact h.dbl i h3 h1 h2
    · obtain rfl : k = i + 1 := by omega
      rw [get_list S (i + 1) hlt] at h2
      have := hd (by omega) (Option.some.inj h2)
      rw [Nat.add_sub_cancel] at this
      exact this h1
theorem Front.whole {S : ByteArray} {k : Nat} (h : Front S.data.toList k) (hk : S.size ≤ k) (h0 : ¬ S.size = 0) (h40 : S.size ≤ 40) : Glob S.data.toList := by
  refine ⟨fun x hx => h.ok x (by rw [List.take_of_length_le (by rw [list_size]; exact hk)]; exact hx), list_ne h0, by rw [list_size]; exact h40, fun i h1 h2 => ?_⟩
  have hlt : i + 1 < S.data.toList.length := by
    rcases Nat.lt_or_ge (i + 1) S.data.toList.length with h | h
    · exact h
    · rw [List.getElem?_eq_none h] at h2; cases h2
  rw [list_size] at hlt
  exact h.dbl i (by omega) h1 h2
theorem get_nat {S : ByteArray} {k n : Nat} (hn : n < 256) (hlt : k < S.size) (h : S[k].toNat ≠ n) : S.data.toList[k]? ≠ some (UInt8.ofNat n) := by
  rw [get_list S k hlt]
  intro e
  have e2 := Option.some.inj e
  apply h
  rw [e2]; simp [UInt8.toNat_ofNat', Nat.mod_eq_of_lt hn]
set_option maxRecDepth 100000 in
set_option maxHeartbeats 8000000 in
theorem isGlob_calls (S : ByteArray) (w : World) (hs : S.size ≤ 140737488351232) :
    Calls Try.prog 7 #[.string S] w (Told w (IsGlob S.data.toList)) := by
  go_enter Try.func7, Try.ntmps7
  go_wp2_with fail
  go_loop [3, 8] (fun sv iv => ∃ k st : Nat, k ≤ S.size ∧ iv = .int .i64 k ∧ sv = .int .i64 st ∧ st ≤ k ∧ Hid (Front S.data.toList k)) (fun _ iv => S.size - (RowKit.intOf iv).toNat)
  case atStart => exact ⟨0, 0, by omega, rfl, rfl, by omega, hid ⟨by simp, by omega⟩⟩
  case round =>
    obtain ⟨k, st, hk, rfl, rfl, hst, hh⟩ := hrel
    by_cases hlt : k < S.size
    · rcases classes13 S[k].toNat with hc | hc | ⟨hc, hd⟩ | hc | hc | ⟨hc, hd⟩ | ⟨hc, hd⟩ | hc | hc | ⟨hc, hd⟩ | ⟨hc, hd⟩ | ⟨hc, hd⟩ | hc
      all_goals first | have e48 : decide (48 ≤ (S[k].toNat : Int)) = false := decide_eq_false (by omega) | have e48 : decide (48 ≤ (S[k].toNat : Int)) = true := decide_eq_true (by omega)
      all_goals first | have e57 : decide ((S[k].toNat : Int) ≤ 57) = false := decide_eq_false (by omega) | have e57 : decide ((S[k].toNat : Int) ≤ 57) = true := decide_eq_true (by omega)
      all_goals first | have e65 : decide (65 ≤ (S[k].toNat : Int)) = false := decide_eq_false (by omega) | have e65 : decide (65 ≤ (S[k].toNat : Int)) = true := decide_eq_true (by omega)
      all_goals first | have e90 : decide ((S[k].toNat : Int) ≤ 90) = false := decide_eq_false (by omega) | have e90 : decide ((S[k].toNat : Int) ≤ 90) = true := decide_eq_true (by omega)
      all_goals first | have e97 : decide (97 ≤ (S[k].toNat : Int)) = false := decide_eq_false (by omega) | have e97 : decide (97 ≤ (S[k].toNat : Int)) = true := decide_eq_true (by omega)
      all_goals first | have e122 : decide ((S[k].toNat : Int) ≤ 122) = false := decide_eq_false (by omega) | have e122 : decide ((S[k].toNat : Int) ≤ 122) = true := decide_eq_true (by omega)
      all_goals first | have q42 : ((S[k].toNat : Int) == 42) = false := beq_eq_false_iff_ne.2 (by omega) | have q42 : ((S[k].toNat : Int) == 42) = true := beq_iff_eq.2 (by omega)
      all_goals first | have q46 : ((S[k].toNat : Int) == 46) = false := beq_eq_false_iff_ne.2 (by omega) | have q46 : ((S[k].toNat : Int) == 46) = true := beq_iff_eq.2 (by omega)
      all_goals first | have q63 : ((S[k].toNat : Int) == 63) = false := beq_eq_false_iff_ne.2 (by omega) | have q63 : ((S[k].toNat : Int) == 63) = true := beq_iff_eq.2 (by omega)
      all_goals first | have HO : Hid (okc S[k]) := hid (by unfold okc; omega) | have HO := hid True.intro
      case inr.inl =>
        by_cases h0 : 0 < k
        · have ei : ((k : Int) - 1).toNat = k - 1 := by omega
          have hl1 : k - 1 < S.size := by omega
          by_cases hp : S[k - 1].toNat = 42
          · have qp : (S[k - 1].toNat : Int) = 42 := by omega
            go_wp2_with fail
            go_ret
            exact told_no
          · have qp : ((S[k - 1].toNat : Int) == 42) = false := beq_eq_false_iff_ne.2 (by omega)
            have hn := hid (hh.out.next hlt HO.out (fun _ _ => get_nat (n := 42) (by omega) hl1 hp))
            clear hp
            go_wp2_with fail
            go_round
            case rel => exact ⟨k + 1, st + 1, by omega, by go_num, by go_num, by omega, hn⟩
            case measure => simp [RowKit.intOf]; omega
        · obtain rfl : k = 0 := by omega
          have hn := hid (hh.out.next hlt HO.out (fun h _ => absurd h (by omega)))
          go_wp2_with fail
          go_round
          case rel => exact ⟨1, st + 1, by omega, rfl, by go_num, by omega, hn⟩
          case measure => simp [RowKit.intOf]; omega
      all_goals go_wp2_with fail
      all_goals first
        | (go_round; (case rel => exact ⟨k + 1, st, by omega, by go_num, rfl, by omega, hid (hh.out.next hlt HO.out (fun _ e => absurd (congrArg UInt8.toNat e) (by show ¬ S[k].toNat = 42; omega)))⟩); (case measure => simp [RowKit.intOf]; omega))
        | (go_ret; exact told_no)
    · by_cases h0 : S.size = 0
      · have q0 : (S.toList.isEmpty) = true := by rw [empty_toList]; exact decide_eq_true h0
        go_wp2_with fail
        go_ret
        exact told_no
      · have q0 : (S.toList.isEmpty) = false := by rw [empty_toList]; exact decide_eq_false h0
        by_cases h40 : S.size ≤ 40
        · have hw := hid (hh.out.whole (by omega) h0 h40)
          have q40 : (S.size : Int) ≤ 40 := by omega
          go_wp2_with fail
          go_ret
          exact ⟨rfl, _, rfl, fun _ => hw.out⟩
        · have q40 : ¬ (S.size : Int) ≤ 40 := by omega
          go_wp2_with fail
          go_ret
          exact told_no
end Go.Proofs.Ytfanginpfppdeaa.glob
