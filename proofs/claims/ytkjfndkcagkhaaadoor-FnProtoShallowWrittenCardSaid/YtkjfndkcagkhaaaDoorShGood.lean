/- laws.zzFits16, spec.GoodHashes. -/
import Derived.Test.YtkjfndkcagkhaaaDoorShHash
import Derived.Test.YtkjfndkcagkhaaaDoorAckLaw
set_option linter.unusedVariables false
attribute [local go_sem ↓] Go.wp_at_zero Go.wp_at_succ
namespace Go.Proofs.YtkjfndkcagkhaaaDoor.enc
open Go.RowKit Lib frm mem rd text buf hash ack

def Told (w : World) (F : Bool → Prop) (e : Ending) (w' : World) : Prop := w' = w ∧ ∃ b, e = .returned (.bool b) ∧ F b
def Fits (l : List (List UInt8)) (b : Bool) : Prop := b = true → l.length ≤ 2147483647 ∧ ∀ x ∈ l, x.length ≤ 2147483647
def Good (l : List (List UInt8)) (b : Bool) : Prop := b = true → l.length ≤ 1000 ∧ ∀ s ∈ names l, Hex40 s
theorem all_next {l : List (List UInt8)} {F : List UInt8 → Prop} {k : Nat} {x : List UInt8} (h : ∀ y ∈ l.take k, F y) (hx : l[k]? = some x) (hf : F x) : ∀ y ∈ l.take (k + 1), F y := by
  intro y hy
  rw [List.take_add_one, List.mem_append] at hy
  rcases hy with hy | hy
  · exact h y hy
  · rw [hx] at hy; simp at hy; subst hy; exact hf
theorem all_whole {l : List (List UInt8)} {F : List UInt8 → Prop} {k : Nat} (h : ∀ y ∈ l.take k, F y) (hk : l.length ≤ k) : ∀ y ∈ l, F y := by
  rwa [List.take_of_length_le hk] at h
set_option maxRecDepth 100000 in
set_option maxHeartbeats 4000000 in
theorem fits_calls (A : Option Addr) (n c B : Nat) (l : List (List UInt8)) (w : World) (h : Strs w B A n l) :
    Calls Tryd.prog 7 #[.slice A n c] w (Told w (Fits l)) := by
  have HL := hid h.len
  have HS := hid h
  clear h
  by_cases h0 : 2147483647 < n
  · have e0 : (2147483647 : Int) < n := by omega
    go_enter Tryd.func7, Tryd.ntmps7
    go_wp2_with fail
    go_ret
    exact ⟨rfl, false, rfl, nofun⟩
  · have e0 : ¬ (2147483647 : Int) < n := by omega
    go_enter Tryd.func7, Tryd.ntmps7
    go_wp2_with fail
    go_loop [10] (fun iv => ∃ k : Nat, k ≤ n ∧ iv = .int .i64 k ∧ Hid (∀ x ∈ l.take k, x.length ≤ 2147483647)) (fun iv => n - (RowKit.intOf iv).toNat)
    case atStart => exact ⟨0, by omega, rfl, hid (by simp)⟩
    case round =>
      obtain ⟨k, hk, rfl, hh⟩ := hrel
      by_cases hlt : k < n
      · obtain ⟨g, o, x, rfl, hg, hcell, _, hx⟩ := HS.out.next hlt
        have HX := hid hx
        clear hx
        by_cases hx2 : 2147483647 < (ofL x).size
        · have e1 : (2147483647 : Int) < (ofL x).size := by omega
          go_wp2_with fail
          go_ret
          exact ⟨rfl, false, rfl, nofun⟩
        · have e1 : ¬ (2147483647 : Int) < (ofL x).size := by omega
          have hh2 := hid (all_next hh.out HX.out (by rw [ofL_size] at hx2; omega))
          go_wp2_with fail
          go_round
          case rel => exact ⟨k + 1, by omega, by go_num, hh2⟩
          case measure => simp [RowKit.intOf]; omega
      · have hh2 := hid (all_whole hh.out (by rw [HL.out]; omega))
        go_wp2_with fail
        go_ret
        exact ⟨rfl, true, rfl, fun _ => ⟨by rw [HL.out]; omega, hh2.out⟩⟩
/-- an answer, of whatever kind -/
def AnyB (w : World) (F : Bool → Prop) (e : Ending) (w' : World) : Prop := Kept [] w w' ∧ ∃ b, e = .returned (.bool b) ∧ F b
set_option maxRecDepth 100000 in
set_option maxHeartbeats 4000000 in
theorem rising_calls (A : Option Addr) (n c : Nat) (l : List (List UInt8)) (w : World) (h : Strs w w.heap.size A n l) (hn : n ≤ 2147483647) :
    Calls Tryd.prog 27 #[.slice A n c] w (AnyB w fun _ => True) := by
  have HL := hid h.len
  have HS := hid h
  have e0 : (n : Int) ≤ 2147483647 := by omega
  clear h
  go_enter Tryd.func27, Tryd.ntmps27
  go_wp2_with fail
  go_loopw [3] (fun iv wr => ∃ k : Nat, 1 ≤ k ∧ (k ≤ n ∨ k = 1) ∧ iv = .int .i64 k ∧ Hid (Kept [] w wr)) (fun iv _ => n - (RowKit.intOf iv).toNat)
  case atStart => exact ⟨1, by omega, by omega, rfl, hid (Kept.refl _ _)⟩
  case round =>
    obtain ⟨k, hk1, hk, rfl, hK⟩ := hrel
    by_cases hlt : k < n
    · have hs := HS.out.below (hK.out.below (Nat.le_refl _) (by simp))
      obtain ⟨g, o, x, rfl, hg, hc, _, hx⟩ := hs.next hlt
      obtain ⟨m, hm, hmn, hmw⟩ : ∃ m : Nat, (k : Int) - 1 = m ∧ (m : Int) < n ∧ IntKind.i64.wrap ((k : Int) - 1) = m := ⟨k - 1, by omega, by omega, by rw [IntWalk.i64_in _ (by omega)]; omega⟩
      obtain ⟨g2, o2, y, e2, hg2, hc2, _, hy⟩ := hs.next (k := m) (by omega)
      injection e2 with e2
      injection e2 with eg eo _
      subst eg eo
      have hlt' : (k : Int) < n := by omega
      have hm0 : (0 : Int) ≤ m := by omega
      have hk0 : (0 : Int) ≤ k := by omega
      clear hx hy hs hg hg2
      go_wp2_with fail
      go_quiet (fail)
      have HK2 : ∀ q, Hid (Kept [] w (wr.drewN q)) := fun q => hid (hK.out.drewN q)
      cases hb : Op.bytesLess (ofL y).toList (ofL x).toList with
      | true =>
        go_wp2_with fail
        go_roundw
        case rel => exact ⟨k + 1, by omega, by omega, by go_num, HK2 _⟩
        case measure => simp [RowKit.intOf]; omega
      | false =>
        go_wp2_with fail
        go_ret
        exact ⟨(HK2 _).out, _, rfl, trivial⟩
    · have hnl : ¬ (k : Int) < n := by omega
      go_wp2_with fail
      go_ret
      exact ⟨hK.out, _, rfl, trivial⟩
set_option maxRecDepth 100000 in
set_option maxHeartbeats 4000000 in
theorem goodHashes_calls (A : Option Addr) (n c : Nat) (l : List (List UInt8)) (w : World) (h : Strs w w.heap.size A n l) (hn : n ≤ 2147483647) (hlen : ∀ x ∈ l, x.length ≤ 2147483647) :
    Calls Tryd.prog 8 #[.slice A n c] w (AnyB w (Good l)) := by
  have HL := hid h.len
  have HS := hid h
  have HM := hid hlen
  have e0 : (n : Int) ≤ 2147483647 := by omega
  have c2 := hid (rising_calls A n c l w h hn)
  clear h hlen hn
  go_enter Tryd.func8, Tryd.ntmps8
  go_wp2_with fail
  go_loop [7] (fun iv => ∃ k : Nat, k ≤ n ∧ iv = .int .i64 k ∧ Hid (∀ x ∈ l.take k, Hex40 (ofL x))) (fun iv => n - (RowKit.intOf iv).toNat)
  case atStart => exact ⟨0, by omega, rfl, hid (by simp)⟩
  case round =>
    obtain ⟨k, hk, rfl, hh⟩ := hrel
    by_cases hlt : k < n
    · obtain ⟨g, o, x, rfl, hg, hcell, _, hx⟩ := HS.out.next hlt
      have hx2 := HM.out x (List.mem_of_getElem? hx)
      have HX := hid hx
      have hlt' : (k : Int) < n := by omega
      have c1 := hid (goodHash_calls (ofL x) w (by rw [ofL_size]; omega))
      clear hx hx2
      go_wp2_with fail
      refine c1.out.mono ?_
      rintro e w' ⟨⟨b, rfl, hb⟩, rfl⟩
      have HB := hid hb
      clear hb
      cases b with
      | false =>
        go_wp2_with fail
        go_ret
        exact ⟨Kept.refl _ _, false, rfl, nofun⟩
      | true =>
        have hh2 := hid (all_next hh.out HX.out (HB.out rfl))
        go_wp2_with fail
        go_round
        case rel => exact ⟨k + 1, by omega, by go_num, hh2⟩
        case measure => simp [RowKit.intOf]; omega
    · have hh2 := hid (all_whole hh.out (by rw [HL.out]; omega))
      have hnl : ¬ (k : Int) < n := by omega
      go_wp2_with fail
      refine c2.out.mono ?_
      rintro e w2 ⟨hk2, b, rfl, -⟩
      have HK2 := hid hk2
      clear hk2
      cases b with
      | false =>
        go_wp2_with fail
        go_ret
        exact ⟨HK2.out, false, rfl, nofun⟩
      | true =>
        by_cases h1000 : (n : Int) ≤ 1000
        · go_wp2_with fail
          go_ret
          refine ⟨HK2.out, true, rfl, fun _ => ⟨by rw [HL.out]; omega, fun s hs => ?_⟩⟩
          obtain ⟨x, hx, rfl⟩ := List.mem_map.1 hs
          exact hh2.out x hx
        · go_wp2_with fail
          go_ret
          exact ⟨HK2.out, _, rfl, fun h => by have h9 := of_decide_eq_true h; omega⟩
end Go.Proofs.YtkjfndkcagkhaaaDoor.enc
