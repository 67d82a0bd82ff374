/- capability.List.validate: what is good passes. -/
import Derived.Test.YtoihglnamclhfaaDoorCpKnown
import Derived.Test.YtoihglnamclhfaaDoorCpData
set_option linter.unusedVariables false
namespace Go.Proofs.YtoihglnamclhfaaDoor.cap
open Go.RowKit Lib frm mf mem text

abbrev ListT : TypeId := 121
abbrev EntT : TypeId := 174
set_option maxRecDepth 100000 in
set_option maxHeartbeats 4000000 in
theorem noEmpty_calls (lp A : Option Addr) (n c B : Nat) (l : List (List UInt8)) (w : World) (h : Strs w B A n l) (hn : n ≤ 1000) (hne : ∀ x ∈ l, x ≠ []) :
    Calls Tryd.prog 128 #[.pointer lp, .slice A n c] w fun e w' => e = .returned .nilIface ∧ w' = w := by
  have HS := hid h
  have HN := hid hne
  have hn' : (n : Int) ≤ 1000 := by omega
  clear h hne
  go_enter Tryd.func128, Tryd.ntmps128
  go_wp2_with fail
  go_loop [9] (fun iv => ∃ k : Nat, k ≤ n ∧ iv = .int .i64 k) (fun iv => n - (RowKit.intOf iv).toNat)
  case atStart => exact ⟨0, by omega, rfl⟩
  case round =>
    obtain ⟨k, hk, rfl⟩ := hrel
    by_cases hlt : k < n
    · obtain ⟨g, o, x, rfl, hg, hcell, _, hx⟩ := HS.out.next hlt
      have hlt' : (k : Int) < n := by omega
      have hx0 : (ofL x).toList.isEmpty = false := by
        have := HN.out x (List.mem_of_getElem? hx)
        rw [ByteArray.toList_eq]
        show x.isEmpty = false
        cases x <;> simp_all
      clear hx hg
      go_wp2_with fail
      go_round
      case rel => exact ⟨k + 1, by omega, by go_num⟩
      case measure => simp [RowKit.intOf]; omega
    · have hnl : ¬ (k : Int) < n := by omega
      go_wp2_with fail
      go_ret
      exact ⟨rfl, rfl⟩
def Fine (w : World) (e : Ending) (w' : World) : Prop := e = .returned .nilIface ∧ Kept [] w w'
set_option maxRecDepth 100000 in
set_option maxHeartbeats 4000000 in
theorem valid0_calls (lp : Option Addr) (s : ByteArray) (w : World) (hs : s.size ≤ maxLen) (hk : inSet knownL s = true) (hr : inSet reqL s = false) :
    Calls Tryd.prog 99 #[.pointer lp, .string s, .slice none 0 0] w (Fine w) := by
  have c1 := hid (fun w => by have := known_calls s w hs; rwa [hk] at this)
  have c2 := hid (fun w => by have := req_calls s w hs; rwa [hr] at this)
  have c3 := hid (fun w => multi_calls s w hs)
  have c4 := hid (fun w => noEmpty_calls lp none 0 0 0 [] w Strs.nil_ (by omega) (by simp))
  clear hk hr hs
  generalize inSet multiL s = mu at *
  go_enter Tryd.func99, Tryd.ntmps99
  go_wp2_with fail
  refine (c1.out _).mono ?_
  rintro e w1 ⟨rfl, hk1⟩
  have HK1 := hid hk1
  clear hk1
  go_wp2_with fail
  refine (c2.out _).mono ?_
  rintro e w2 ⟨rfl, hk2⟩
  have HK2 := hid (HK1.out.trans_ hk2)
  clear hk2
  go_wp2_with fail
  refine (c2.out _).mono ?_
  rintro e w3 ⟨rfl, hk3⟩
  have HK3 := hid (HK2.out.trans_ hk3)
  clear hk3
  go_wp2_with fail
  refine (c3.out _).mono ?_
  rintro e w4 ⟨rfl, hk4⟩
  have HK4 := hid (HK3.out.trans_ hk4)
  clear hk4
  cases mu
  all_goals
    go_wp2_with fail
    refine (c4.out _).mono ?_
    rintro e w5 ⟨rfl, hw5⟩
    obtain rfl : w4 = w5 := hw5.symm
    go_wp2_with fail
    go_ret
    exact ⟨rfl, HK4.out⟩
set_option maxRecDepth 100000 in
set_option maxHeartbeats 4000000 in
theorem valid1_calls (lp A : Option Addr) (c : Nat) (v : List UInt8) (s : ByteArray) (w : World) (hv : Strs w w.heap.size A 1 [v]) (hv0 : v ≠ []) (hs : s.size ≤ maxLen) (hk : inSet knownL s = true) (hr : inSet reqL s = true) :
    Calls Tryd.prog 99 #[.pointer lp, .string s, .slice A 1 c] w (Fine w) := by
  have c1 := hid (fun w => by have := known_calls s w hs; rwa [hk] at this)
  have c2 := hid (fun w => by have := req_calls s w hs; rwa [hr] at this)
  have c3 := hid (fun w => multi_calls s w hs)
  have c4 := hid (fun w' (hk : Kept [] w w') => noEmpty_calls lp A 1 c _ [v] w' (hv.below (hk.below (Nat.le_refl _) (by simp))) (by omega) (by simpa using hv0))
  clear hk hr hs hv hv0
  generalize inSet multiL s = mu at *
  go_enter Tryd.func99, Tryd.ntmps99
  go_wp2_with fail
  refine (c1.out _).mono ?_
  rintro e w1 ⟨rfl, hk1⟩
  have HK1 := hid hk1
  clear hk1
  go_wp2_with fail
  refine (c2.out _).mono ?_
  rintro e w2 ⟨rfl, hk2⟩
  have HK2 := hid (HK1.out.trans_ hk2)
  clear hk2
  go_wp2_with fail
  refine (c2.out _).mono ?_
  rintro e w3 ⟨rfl, hk3⟩
  have HK3 := hid (HK2.out.trans_ hk3)
  clear hk3
  go_wp2_with fail
  refine (c3.out _).mono ?_
  rintro e w4 ⟨rfl, hk4⟩
  have HK4 := hid (HK3.out.trans_ hk4)
  clear hk4
  cases mu
  all_goals
    go_wp2_with fail
    refine (c4.out _ HK4.out).mono ?_
    rintro e w5 ⟨rfl, hw5⟩
    obtain rfl : w4 = w5 := hw5.symm
    go_wp2_with fail
    go_ret
    exact ⟨rfl, HK4.out⟩
set_option maxRecDepth 100000 in
set_option maxHeartbeats 4000000 in
theorem supports_calls (lb mb n : Nat) (f : ByteArray → Option Value) (s : ByteArray) (w : World) (hs : s.size ≤ maxLen) (hL : w.cell? ⟨lb, 0, none⟩ = some (.map (some mb))) (hM : MapF Tryd.prog CapT w mb n f) :
    Calls Tryd.prog 48 #[.pointer (some ⟨lb, 0, none⟩), .string s] w fun e w' => e = .returned (.bool (f s).isSome) ∧ w' = w := by
  have HM := hid hM
  have HS := hid hs
  clear hM hs
  go_enter Tryd.func48, Tryd.ntmps48
  go_wp2_with (first
    | (at_lookup; refine wpList_look_ok _ rfl (.tmp 11) _ 119 rfl CapT 124 Tryd.underlying86 Tryd.underlying119 (.pointer none) (fun _ => by kernel_rfl) _ code_nil mb n f rfl HM.out s rfl HS.out ?_)
    | fail)
  go_ret
  exact ⟨rfl, rfl⟩
end Go.Proofs.YtoihglnamclhfaaDoor.cap
