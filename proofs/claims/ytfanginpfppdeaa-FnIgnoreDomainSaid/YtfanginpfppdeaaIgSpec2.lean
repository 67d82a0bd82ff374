/- What the spec's own words for patterns compute: a name, the front of a path, patterns with slashes between. -/
import Derived.Test.YtfanginpfppdeaaIgList
set_option linter.unusedVariables false
namespace Go.Proofs.Ytfanginpfppdeaa.glob
open Go.RowKit Lib text strs mem

def Yields (w : World) (b : Bool) (e : Ending) (w' : World) : Prop := e = .returned (.bool b) ∧ ∃ k, w' = w.drewN k
theorem globs_empty {p : ByteArray} (h : ¬ 0 < p.size) (n : List UInt8) : glob p.data.toList n = n.isEmpty := by rw [nil_list p h, glob]
theorem isEmpty_list {n : ByteArray} : n.toList.isEmpty = n.data.toList.isEmpty := by rw [ByteArray.toList_eq]
theorem star_no {p n : List UInt8} (h : ∀ j, j < n.length + 1 → glob p (n.drop j) = false) : glob (42 :: p) n = false := by
  rw [Bool.eq_false_iff]
  intro hg
  obtain ⟨i, hi, hx⟩ := (glob_star p n).1 hg
  rw [h i (by omega)] at hx; cases hx
set_option maxRecDepth 100000 in
set_option maxHeartbeats 4000000 in
theorem globs_calls : ∀ (m : Nat) (p n : ByteArray) (w : World), p.size = m → p.size ≤ 140737488351232 → n.size ≤ 140737488351232 →
    Calls Try.prog 10 #[.string p, .string n] w (Yields w (glob p.data.toList n.data.toList)) := by
  intro m
  induction m with
  | zero =>
    intro p n w hm hp hn
    have h0 : ¬ 0 < p.size := by omega
    have ep : p.toList.isEmpty = true := by rw [empty_toList]; exact decide_eq_true hm
    rw [globs_empty h0, ← isEmpty_list]
    clear h0
    go_enter Try.func10, Try.ntmps10
    go_wp2_with fail
    go_ret
    exact ⟨rfl, 0, rfl⟩
  | succ m ih =>
    intro p n w hm hp hn
    have h0 : 0 < p.size := by omega
    have ep : p.toList.isEmpty = false := by rw [empty_toList]; exact decide_eq_false (by omega)
    have hcl := hid (cons_list p h0)
    have hps : (p.extract 1 p.size).size = m := by simp; omega
    have HPS := hid hps
    clear hps hm
    by_cases h42 : p[0].toNat = 42
    · have q42 : (p[0].toNat : Int) = 42 := by omega
      have HE : Hid (p.data.toList = 42 :: (p.extract 1 p.size).data.toList) := hid (by have h1 := hcl.out; rw [show p[0] = 42 from eq_int h42] at h1; rw [ext_drop]; exact h1)
      clear h42
      go_enter Try.func10, Try.ntmps10
      go_wp2_with fail
      go_loopw [5] (fun iv wr => ∃ k : Nat, k ≤ n.size + 1 ∧ iv = .int .i64 k ∧ (∃ d, wr = w.drewN d) ∧ Hid (∀ j, j < k → glob (p.extract 1 p.size).data.toList (n.data.toList.drop j) = false)) (fun iv _ => n.size + 1 - (RowKit.intOf iv).toNat)
      case atStart => exact ⟨0, by omega, rfl, ⟨0, rfl⟩, hid (by omega)⟩
      case round =>
        obtain ⟨k, hk, rfl, hw, hh⟩ := hrel
        have HW := hid hw
        clear hw
        by_cases hlt : k < n.size + 1
        · have q1 : (k : Int) ≤ n.size := by omega
          have q2 : (0 : Int) ≤ (k : Int) := by omega
          have q3 : (1 : Int) ≤ (p.size : Int) := by omega
          have hx := ih (p.extract 1 p.size) (n.extract k n.size)
          have hx2 : ∀ d, Calls Try.prog 10 #[.string (p.extract 1 p.size), .string (n.extract k n.size)] (wr.drewN d) (fun e w'' => e = .returned (.bool (glob (p.extract 1 p.size).data.toList (n.data.toList.drop k))) ∧ ∃ m, w'' = (wr.drewN d).drewN m) := fun d => by
            rw [← ext_drop n k]
            exact hx _ HPS.out (by simp; omega) (by simp; omega)
          have HX := hid hx2
          clear hx hx2
          go_wp2_with fail
          go_quiet ((go_at_call 10; exact Calls.quiet_of (HX.out _)))
          cases hg : glob (p.extract 1 p.size).data.toList (n.data.toList.drop k) with
          | true =>
            have hr : Hid (glob p.data.toList n.data.toList = true) := hid (by rw [HE.out]; exact (glob_star _ _).2 ⟨k, by rw [list_size]; omega, hg⟩)
            clear hg
            go_wp2_with fail
            go_ret
            rw [hr.out]
            exact ⟨rfl, drew_more HW.out _⟩
          | false =>
            have hh2 : Hid (∀ j, j < k + 1 → glob (p.extract 1 p.size).data.toList (n.data.toList.drop j) = false) := hid fun j hj => by
              rcases Nat.lt_or_ge j k with h | h
              · exact hh.out j h
              · obtain rfl : j = k := by omega
                exact hg
            clear hg
            go_wp2_with fail
            go_roundw
            case rel => exact ⟨k + 1, by omega, by go_num, drew_more HW.out _, hh2⟩
            case measure => simp [RowKit.intOf]; omega
        · have hr : Hid (glob p.data.toList n.data.toList = false) := hid (by rw [HE.out]; exact star_no fun j hj => hh.out j (by rw [list_size] at hj; omega))
          go_wp2_with fail
          go_ret
          rw [hr.out]
          exact ⟨rfl, HW.out⟩
    · have q42 : ((p[0].toNat : Int) == 42) = false := by rw [beq_eq_false_iff_ne]; omega
      have hne : p[0] ≠ 42 := by intro e; apply h42; rw [e]; rfl
      by_cases n0 : 0 < n.size
      · have en : n.toList.isEmpty = false := by rw [empty_toList]; exact decide_eq_false (by omega)
        have hnl := hid (cons_list n n0)
        have HG : Hid (glob p.data.toList n.data.toList = ((p[0] == 63 || p[0] == n[0]) && glob (p.extract 1 p.size).data.toList (n.extract 1 n.size).data.toList)) := hid (by
          rw [ext_drop, ext_drop]
          have h1 := hcl.out
          have h2 := hnl.out
          rw [h1, h2]
          rw [glob_cons _ _ _ _ hne]
          rfl)
        have hx : ∀ d, Calls Try.prog 10 #[.string (p.extract 1 p.size), .string (n.extract 1 n.size)] (w.drewN d) (fun e w'' => e = .returned (.bool (glob (p.extract 1 p.size).data.toList (n.extract 1 n.size).data.toList)) ∧ ∃ m, w'' = (w.drewN d).drewN m) := fun d => ih _ _ (w.drewN d) HPS.out (by simp; omega) (by simp; omega)
        have q1 : (1 : Int) ≤ (p.size : Int) := by omega
        have q2 : (1 : Int) ≤ (n.size : Int) := by omega
        generalize glob (p.extract 1 p.size).data.toList (n.extract 1 n.size).data.toList = gb at hx HG
        have HX := hid hx
        clear hx h42
        by_cases h63 : p[0].toNat = 63
        · have q63 : ((p[0].toNat : Int) == 63) = true := by rw [beq_iff_eq]; omega
          have HR : Hid (glob p.data.toList n.data.toList = gb) := hid (by rw [HG.out]; have : p[0] = 63 := eq_int h63; simp [this])
          clear h63
          go_enter Try.func10, Try.ntmps10
          go_wp2_with fail
          go_quiet ((go_at_call 10; exact Calls.quiet_of (HX.out _)))
          go_wp2_with fail
          go_ret
          rw [HR.out]
          exact ⟨rfl, _, rfl⟩
        · have q63 : ((p[0].toNat : Int) == 63) = false := by rw [beq_eq_false_iff_ne]; omega
          have n63 : (p[0] == 63) = false := by rw [beq_eq_false_iff_ne]; intro e; apply h63; rw [e]; rfl
          by_cases hxy : p[0].toNat = n[0].toNat
          · have qxy : ((p[0].toNat : Int) == (n[0].toNat : Int)) = true := by rw [beq_iff_eq]; omega
            have HR : Hid (glob p.data.toList n.data.toList = gb) := hid (by rw [HG.out]; have : p[0] = n[0] := UInt8.toNat_inj.1 hxy; simp [this])
            clear h63 n63 hxy hne
            go_enter Try.func10, Try.ntmps10
            go_wp2_with fail
            go_quiet ((go_at_call 10; exact Calls.quiet_of (HX.out _)))
            go_wp2_with fail
            go_ret
            rw [HR.out]
            exact ⟨rfl, _, rfl⟩
          · have qxy : ((p[0].toNat : Int) == (n[0].toNat : Int)) = false := by rw [beq_eq_false_iff_ne]; omega
            have HR : Hid (glob p.data.toList n.data.toList = false) := hid (by rw [HG.out, n63]; have : (p[0] == n[0]) = false := (by rw [beq_eq_false_iff_ne]; intro e; apply hxy; rw [e]); simp [this])
            clear h63 n63 hxy hne
            go_enter Try.func10, Try.ntmps10
            go_wp2_with fail
            go_quiet (fail)
            go_wp2_with fail
            go_ret
            rw [HR.out]
            exact ⟨rfl, _, rfl⟩
      · have en : n.toList.isEmpty = true := by rw [empty_toList]; exact decide_eq_true (by omega)
        have HR : Hid (glob p.data.toList n.data.toList = false) := hid (by rw [nil_list n n0, hcl.out, glob_nil _ _ hne])
        clear hne h42
        go_enter Try.func10, Try.ntmps10
        go_wp2_with fail
        go_quiet (fail)
        go_wp2_with fail
        go_ret
        rw [HR.out]
        exact ⟨rfl, _, rfl⟩
end Go.Proofs.Ytfanginpfppdeaa.glob
