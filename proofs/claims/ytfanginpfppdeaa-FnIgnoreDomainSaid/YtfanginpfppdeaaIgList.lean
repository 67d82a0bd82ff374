/- What the tests of lists of patterns and of paths compute, and the patterns joined. -/
import Derived.Test.YtfanginpfppdeaaIgSpec
set_option linter.unusedVariables false
namespace Go.Proofs.Ytfanginpfppdeaa.glob
open Go.RowKit Lib text strs mem

def AllGlobs (l : List (List UInt8)) (b : Bool) : Prop := b = true → (∀ x ∈ l, Glob x) ∧ l ≠ [] ∧ l.length ≤ 100
def IsPath (l : List (List UInt8)) (b : Bool) : Prop := b = true → (∀ x ∈ l, Name x) ∧ l ≠ [] ∧ l.length ≤ 100
def Fits (l : List (List UInt8)) (b : Bool) : Prop := b = true → l.length ≤ 2147483647 ∧ ∀ x ∈ l, x.length ≤ 2147483647
theorem all_next {l : List (List UInt8)} {F : List UInt8 → Prop} {k : Nat} {x : List UInt8} (h : ∀ y ∈ l.take k, F y) (hx : l[k]? = some x) (hf : F x) : ∀ y ∈ l.take (k + 1), F y := by
  intro y hy
  rw [List.take_add_one, List.mem_append] at hy
  rcases hy with hy | hy
  · exact h y hy
  · rw [hx] at hy; simp at hy; subst hy; exact hf
theorem all_whole {l : List (List UInt8)} {F : List UInt8 → Prop} {k : Nat} (h : ∀ y ∈ l.take k, F y) (hk : l.length ≤ k) : ∀ y ∈ l, F y := by
  rwa [List.take_of_length_le hk] at h
set_option maxRecDepth 100000 in
set_option maxHeartbeats 4000000 in
theorem fits_calls (A : Option Addr) (n c B : Nat) (l : List (List UInt8)) (w : World) (h : Strs w B A n l) :
    Calls Try.prog 6 #[.slice A n c] w (Told w (Fits l)) := by
  have HL := hid h.len
  have HS := hid h
  clear h
  by_cases h0 : 2147483647 < n
  · have e0 : (2147483647 : Int) < n := by omega
    go_enter Try.func6, Try.ntmps6
    go_wp2_with fail
    go_ret
    exact ⟨rfl, false, rfl, nofun⟩
  · have e0 : ¬ (2147483647 : Int) < n := by omega
    go_enter Try.func6, Try.ntmps6
    go_wp2_with fail
    go_loop [10] (fun iv => ∃ k : Nat, k ≤ n ∧ iv = .int .i64 k ∧ Hid (∀ x ∈ l.take k, x.length ≤ 2147483647)) (fun iv => n - (RowKit.intOf iv).toNat)
    case atStart => exact ⟨0, by omega, rfl, hid (by simp)⟩
    case round =>
      obtain ⟨k, hk, rfl, hh⟩ := hrel
      by_cases hlt : k < n
      · obtain ⟨g, o, x, rfl, hg, hcell, _, hx⟩ := HS.out.next hlt
        have HX := hid hx
        clear hx
        by_cases hx2 : 2147483647 < (ofL x).size
        · have e1 : (2147483647 : Int) < (ofL x).size := by omega
          go_wp2_with fail
          go_ret
          exact ⟨rfl, false, rfl, nofun⟩
        · have e1 : ¬ (2147483647 : Int) < (ofL x).size := by omega
          have hh2 := hid (all_next hh.out HX.out (by rw [ofL_size] at hx2; omega))
          go_wp2_with fail
          go_round
          case rel => exact ⟨k + 1, by omega, by go_num, hh2⟩
          case measure => simp [RowKit.intOf]; omega
      · have hh2 := hid (all_whole hh.out (by rw [HL.out]; omega))
        go_wp2_with fail
        go_ret
        exact ⟨rfl, true, rfl, fun _ => ⟨by rw [HL.out]; omega, hh2.out⟩⟩
set_option maxRecDepth 100000 in
set_option maxHeartbeats 4000000 in
theorem areGlobs_calls (A : Option Addr) (n c B : Nat) (l : List (List UInt8)) (w : World) (h : Strs w B A n l) (hn : n ≤ 2147483647) (hlen : ∀ x ∈ l, x.length ≤ 2147483647) :
    Calls Try.prog 11 #[.slice A n c] w (Told w (AllGlobs l)) := by
  have HL := hid h.len
  have HS := hid h
  have HLen := hid hlen
  clear h hlen
  go_enter Try.func11, Try.ntmps11
  go_wp2_with fail
  go_loop [7] (fun iv => ∃ k : Nat, k ≤ n ∧ iv = .int .i64 k ∧ Hid (∀ x ∈ l.take k, Glob x)) (fun iv => n - (RowKit.intOf iv).toNat)
  case atStart => exact ⟨0, by omega, rfl, hid (by simp)⟩
  case round =>
    obtain ⟨k, hk, rfl, hh⟩ := hrel
    by_cases hlt : k < n
    · obtain ⟨g, o, x, rfl, hg, hcell, _, hx⟩ := HS.out.next hlt
      have HX := hid hx
      have HXL := hid (HLen.out x (List.mem_of_getElem? hx))
      clear hx
      go_wp2_with fail
      refine (isGlob_calls (ofL x) w (by rw [ofL_size]; have := HXL.out; omega)).mono ?_
      rintro e w' ⟨rfl, b, rfl, hb⟩
      have HBb := hid hb
      clear hb
      cases b with
      | true =>
        have hh2 := hid (all_next hh.out HX.out (HBb.out rfl))
        go_wp2_with fail
        go_round
        case rel => exact ⟨k + 1, by omega, by go_num, hh2⟩
        case measure => simp [RowKit.intOf]; omega
      | false =>
        go_wp2_with fail
        go_ret
        exact ⟨rfl, false, rfl, nofun⟩
    · have hh2 := hid (all_whole hh.out (by rw [HL.out]; omega))
      by_cases h0 : n = 0
      · subst h0
        go_wp2_with fail
        go_ret
        exact ⟨rfl, false, rfl, nofun⟩
      · have e1 : (0 : Int) < n := by omega
        by_cases h100 : n ≤ 100
        · have e2 : (n : Int) ≤ 100 := by omega
          go_wp2_with fail
          go_ret
          exact ⟨rfl, _, rfl, fun _ => ⟨hh2.out, by intro e; have := HL.out; rw [e] at this; simp at this; omega, by rw [HL.out]; exact h100⟩⟩
        · have e2 : ¬ (n : Int) ≤ 100 := by omega
          go_wp2_with fail
          go_ret
          exact ⟨rfl, false, rfl, nofun⟩
set_option maxRecDepth 100000 in
set_option maxHeartbeats 4000000 in
theorem isPath_calls (A : Option Addr) (n c B : Nat) (l : List (List UInt8)) (w : World) (h : Strs w B A n l) (hn : n ≤ 2147483647) (hlen : ∀ x ∈ l, x.length ≤ 2147483647) :
    Calls Try.prog 8 #[.slice A n c] w (Told w (IsPath l)) := by
  have HL := hid h.len
  have HS := hid h
  have HLen := hid hlen
  clear h hlen
  go_enter Try.func8, Try.ntmps8
  go_wp2_with fail
  go_loop [7] (fun iv => ∃ k : Nat, k ≤ n ∧ iv = .int .i64 k ∧ Hid (∀ x ∈ l.take k, Name x)) (fun iv => n - (RowKit.intOf iv).toNat)
  case atStart => exact ⟨0, by omega, rfl, hid (by simp)⟩
  case round =>
    obtain ⟨k, hk, rfl, hh⟩ := hrel
    by_cases hlt : k < n
    · obtain ⟨g, o, x, rfl, hg, hcell, _, hx⟩ := HS.out.next hlt
      have HX := hid hx
      have HXL := hid (HLen.out x (List.mem_of_getElem? hx))
      clear hx
      have hxs : (ofL x).size ≤ 140737488351232 := by rw [ofL_size]; have := HXL.out; omega
      go_wp2_with fail
      refine (isGlob_calls (ofL x) w hxs).mono ?_
      rintro e w' ⟨rfl, b, rfl, hb⟩
      have HBb := hid hb
      clear hb
      cases b with
      | true =>
        go_wp2_with fail
        refine (has_calls (ofL x) 42 w' hxs).mono ?_
        rintro e w1 ⟨rfl, b1, rfl, hb1⟩
        have HB1 := hid hb1
        clear hb1
        cases b1 with
        | true =>
          go_wp2_with fail
          go_ret
          exact ⟨rfl, false, rfl, nofun⟩
        | false =>
          go_wp2_with fail
          refine (has_calls (ofL x) 63 w1 hxs).mono ?_
          rintro e w2 ⟨rfl, b2, rfl, hb2⟩
          have HB2 := hid hb2
          clear hb2
          cases b2 with
          | true =>
            go_wp2_with fail
            go_ret
            exact ⟨rfl, false, rfl, nofun⟩
          | false =>
            have hh2 := hid (all_next hh.out HX.out ⟨HBb.out rfl, HB1.out rfl, HB2.out rfl⟩)
            go_wp2_with fail
            go_round
            case rel => exact ⟨k + 1, by omega, by go_num, hh2⟩
            case measure => simp [RowKit.intOf]; omega
      | false =>
        go_wp2_with fail
        go_ret
        exact ⟨rfl, false, rfl, nofun⟩
    · have hh2 := hid (all_whole hh.out (by rw [HL.out]; omega))
      by_cases h0 : n = 0
      · subst h0
        go_wp2_with fail
        go_ret
        exact ⟨rfl, false, rfl, nofun⟩
      · have e1 : (0 : Int) < n := by omega
        by_cases h100 : n ≤ 100
        · have e2 : (n : Int) ≤ 100 := by omega
          go_wp2_with fail
          go_ret
          exact ⟨rfl, _, rfl, fun _ => ⟨hh2.out, by intro e; have := HL.out; rw [e] at this; simp at this; omega, by rw [HL.out]; exact h100⟩⟩
        · have e2 : ¬ (n : Int) ≤ 100 := by omega
          go_wp2_with fail
          go_ret
          exact ⟨rfl, false, rfl, nofun⟩
end Go.Proofs.Ytfanginpfppdeaa.glob
