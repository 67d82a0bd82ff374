/- spec.IsConfWord, spec.IsValue, spec.areOptions: what they tell. -/
import Derived.Test.YtmhcbgmnhcfhfaaDoorCfSpec
import Derived.Deep.LoopGhost
set_option linter.unusedVariables false
namespace Go.Proofs.YtmhcbgmnhcfhfaaDoor.cf
open Go.RowKit Lib mem opn frm strs

def wordC (c : UInt8) : Bool := decide (97 ≤ c.toNat ∧ c.toNat ≤ 122)
def valC (c : UInt8) : Bool := alnum c || decide (c.toNat = 46)
def WordOk (s : ByteArray) : Prop := s.data.toList.all wordC = true ∧ s.size ≤ 1000
def ValOk (s : ByteArray) : Prop := s.data.toList.all valC = true ∧ s.size ≤ 1000
/-- the answer, and what it tells; the world is as it was -/
def Says (w : World) (F : Prop) (e : Ending) (w' : World) : Prop := w = w' ∧ ∃ b, e = .returned (.bool b) ∧ (b = true → F)
set_option maxRecDepth 100000 in
set_option maxHeartbeats 1000000 in
theorem isConfWord_calls (s : ByteArray) (w : World) (hs : s.size ≤ 4294967295) : Calls Tryd.prog 21 #[.string s] w (Says w (WordOk s)) := by
  have hs' : (s.size : Int) ≤ 4294967295 := by omega
  go_enter Tryd.func21, Tryd.ntmps21
  go_wp2_with fail
  go_loop [6] (fun iv => ∃ k : Nat, k ≤ s.size ∧ iv = .int .i64 k ∧ Hid ((s.data.toList.take k).all wordC = true)) (fun iv => s.size - (RowKit.intOf iv).toNat)
  case atStart => exact ⟨0, by omega, rfl, hid (by simp)⟩
  case round =>
    obtain ⟨k, hk, rfl, hh⟩ := hrel
    by_cases hlt : k < s.size
    · have H1 := hid (all_take_succ wordC s k hlt hh.out)
      have hlt' : (k : Int) < s.size := by omega
      by_cases a1 : s[k].toNat < 97
      · have e97 : decide ((s[k].toNat : Int) < 97) = true := decide_eq_true (by omega)
        go_wp2_with fail
        go_ret
        exact ⟨rfl, false, rfl, nofun⟩
      · have e97 : decide ((s[k].toNat : Int) < 97) = false := decide_eq_false (by omega)
        by_cases a2 : s[k].toNat ≤ 122
        · have e122 : decide (122 < (s[k].toNat : Int)) = false := decide_eq_false (by omega)
          have HB := hid (H1.out (by unfold wordC; exact decide_eq_true (by omega)))
          go_wp2_with fail
          go_round
          case rel => exact ⟨k + 1, by omega, by go_num, HB⟩
          case measure => simp [RowKit.intOf]; omega
        · have e122 : decide (122 < (s[k].toNat : Int)) = true := decide_eq_true (by omega)
          go_wp2_with fail
          go_ret
          exact ⟨rfl, false, rfl, nofun⟩
    · have hlt' : ¬ (k : Int) < s.size := by omega
      have HA : Hid (s.data.toList.all wordC = true) := hid (by have := hh.out; rwa [List.take_of_length_le (by simp; omega)] at this)
      by_cases hsz : s.size ≤ 1000
      · have hz : decide ((s.size : Int) ≤ 1000) = true := decide_eq_true (by omega)
        go_wp2_with fail
        all_goals (go_ret; exact ⟨rfl, _, rfl, fun _ => ⟨HA.out, hsz⟩⟩)
      · have hz : decide ((s.size : Int) ≤ 1000) = false := decide_eq_false (by omega)
        go_wp2_with fail
        all_goals (go_ret; refine ⟨rfl, _, rfl, fun h => ?_⟩; simp at h; try omega)
theorem small_one (c : UInt8) : small [c] = alnum c := by simp [small]
theorem one_of_extract (s : ByteArray) (k : Nat) (h : k < s.size) : (s.extract k (k + 1)).data.toList = [s[k]] := by
  rw [ByteArray.data_extract, Array.toList_extract, List.extract_eq_take_drop, List.drop_eq_getElem_cons (by simpa using h), show k + 1 - k = 1 by omega]
  rfl
set_option maxRecDepth 100000 in
set_option maxHeartbeats 1000000 in
theorem isValue_calls (s : ByteArray) (w : World) (hs : s.size ≤ 4294967295) : Calls Tryd.prog 22 #[.string s] w (Says w (ValOk s)) := by
  have hs' : (s.size : Int) ≤ 4294967295 := by omega
  go_enter Tryd.func22, Tryd.ntmps22
  go_wp2_with fail
  go_loop [6] (fun iv => ∃ k : Nat, k ≤ s.size ∧ iv = .int .i64 k ∧ Hid ((s.data.toList.take k).all valC = true)) (fun iv => s.size - (RowKit.intOf iv).toNat)
  case atStart => exact ⟨0, by omega, rfl, hid (by simp)⟩
  case round =>
    obtain ⟨k, hk, rfl, hh⟩ := hrel
    by_cases hlt : k < s.size
    · have H1 := hid (all_take_succ valC s k hlt hh.out)
      have hlt' : (k : Int) < s.size := by omega
      have hk1 : (k : Int) + 1 ≤ s.size := by omega
      have hn : ((k : Int) + 1).toNat = k + 1 := by omega
      have c1 := hid (show ∀ w : World, Calls Tryd.prog 39 #[.string (s.extract k (k + 1))] w fun e w' => e = .returned (.bool (alnum s[k])) ∧ w = w' from fun w => by
        have := small_calls (s.extract k (k + 1)) w (by simp; omega)
        rwa [one_of_extract s k hlt, small_one] at this)
      cases hb : alnum s[k] with
      | true =>
        have HB := hid (H1.out (by unfold valC; rw [hb]; rfl))
        rw [hb] at c1
        clear hb
        go_wp2_with fail
        refine (c1.out _).mono ?_
        rintro e w' ⟨rfl, rfl⟩
        go_wp2_with fail
        go_round
        case rel => exact ⟨k + 1, by omega, by go_num, HB⟩
        case measure => simp [RowKit.intOf]; omega
      | false =>
        rw [hb] at c1
        by_cases a1 : s[k].toNat = 46
        · have e46 : ((s[k].toNat : Int) != 46) = false := by simp; omega
          have HB := hid (H1.out (by unfold valC; rw [hb, a1]; rfl))
          have HA1 := hid a1
          clear hb a1
          go_wp2_with fail
          refine (c1.out _).mono ?_
          rintro e w' ⟨rfl, rfl⟩
          go_wp2_with fail
          go_round
          case rel => exact ⟨k + 1, by omega, by go_num, HB⟩
          case measure => simp [RowKit.intOf]; omega
        · have e46 : ((s[k].toNat : Int) != 46) = true := by simp; omega
          clear hb
          go_wp2_with fail
          refine (c1.out _).mono ?_
          rintro e w' ⟨rfl, rfl⟩
          go_wp2_with fail
          go_ret
          exact ⟨rfl, false, rfl, nofun⟩
    · have hlt' : ¬ (k : Int) < s.size := by omega
      have HA : Hid (s.data.toList.all valC = true) := hid (by have := hh.out; rwa [List.take_of_length_le (by simp; omega)] at this)
      by_cases hsz : s.size ≤ 1000
      · have hz : decide ((s.size : Int) ≤ 1000) = true := decide_eq_true (by omega)
        go_wp2_with fail
        all_goals (go_ret; exact ⟨rfl, _, rfl, fun _ => ⟨HA.out, hsz⟩⟩)
      · have hz : decide ((s.size : Int) ≤ 1000) = false := decide_eq_false (by omega)
        go_wp2_with fail
        all_goals (go_ret; refine ⟨rfl, _, rfl, fun h => ?_⟩; simp at h; try omega)
structure OptOk (o : OptD) : Prop where
  k : WordOk o.key
  v : ValOk o.val
def OptsOk (os : List OptD) (b : Bool) : Prop := b = true → os.length ≤ 1000 ∧ ∀ o ∈ os, OptOk o
attribute [local go_sem] OptD.cells
set_option maxRecDepth 100000 in
set_option maxHeartbeats 4000000 in
theorem areOptions_calls (B : Nat) (v : Value) (xs : List OptD) (w : World) (h : OptSl w B v xs) (hB : B ≤ w.heap.size) (hn : xs.length ≤ 4294967295) (hz : ∀ o ∈ xs, o.key.size ≤ 4294967295 ∧ o.val.size ≤ 4294967295) :
    Calls Tryd.prog 38 #[v] w (Told w (OptsOk xs)) := by
  obtain ⟨A, c, rfl, hF⟩ := h
  have HF := hid hF
  have HZ := hid hz
  have hn' : (xs.length : Int) ≤ 4294967295 := by omega
  have HBB := hid hB
  obtain ⟨n, hnn⟩ : ∃ n, n = xs.length := ⟨_, rfl⟩
  have HNN := hid hnn
  rw [← hnn] at HF hn' ⊢
  clear hF hn hB hnn hz
  go_enter Tryd.func38, Tryd.ntmps38
  go_wp2_with fail
  go_loopw [7] (fun iv wr => ∃ k : Nat, k ≤ n ∧ iv = .int .i64 k ∧ Hid (Kept [] w wr) ∧ Hid (∀ i o, i < k → xs[i]? = some o → OptOk o)) (fun iv _ => n - (RowKit.intOf iv).toNat)
  case atStart => exact ⟨0, by omega, rfl, hid (Kept.refl _ _), hid (fun i o h => absurd h (by omega))⟩
  case round =>
    obtain ⟨k, hk, rfl, hK, hP⟩ := hrel
    by_cases hlt : k < n
    · obtain ⟨g, o, x, rfl, hg, hxk, hmem, hR⟩ := at_kept HF.out OptD.len hK.out HBB.out hlt
      have HR := hid hR
      have hx := HZ.out x hmem
      have c1 := hid (fun w => isConfWord_calls x.key w hx.1)
      have c2 := hid (fun w => isValue_calls x.val w hx.2)
      have HXK := hid hxk
      have hlt' : (k : Int) < n := by omega
      clear hR hxk hg hx
      go_wp2_with (first
        | (refine wpList_load_mid rfl Oty (.tmp 9) rfl g (o + k * 2) rfl x.cells _ HR.out Tryd.underlying108 rfl infoO ?_)
        | (refine wpList_store_kept rfl Oty (.tmp 4) (.tmp 10) rfl wr.heap.size x.cells.toArray rfl rfl Oty _ (Blk.new wr Oty _) (opt_sz x) rfl (opt_all x) ?_; intro w2 h1 h2 h3; have q0 : w2.cell? ⟨wr.heap.size, 0, none⟩ = some (.string x.key) := h1.out.cell 0 rfl; have q1 : w2.cell? ⟨wr.heap.size, 1, none⟩ = some (.string x.val) := h1.out.cell 1 rfl; have HK2 := hid ((hK.out.alloc _).trans h2.out (by simp; exact hK.out.size)); clear h1 h2 h3))
      refine (c1.out _).mono ?_
      rintro e w3 ⟨rfl, b, rfl, hb⟩
      cases b with
      | false =>
        clear hb
        go_wp2_with fail
        go_ret
        exact ⟨HK2.out, _, rfl, nofun⟩
      | true =>
        have HW := hid (hb rfl)
        clear hb
        go_wp2_with fail
        refine (c2.out _).mono ?_
        rintro e w3 ⟨rfl, b, rfl, hb⟩
        cases b with
        | false =>
          clear hb
          go_wp2_with fail
          go_ret
          exact ⟨HK2.out, _, rfl, nofun⟩
        | true =>
          have HV := hid (hb rfl)
          clear hb
          go_wp2_with fail
          go_roundw
          case rel => exact ⟨k + 1, by omega, by go_num, HK2, hid (fun i y hi hy => by
            rcases Nat.lt_succ_iff_lt_or_eq.mp hi with h | rfl
            · exact hP.out i y h hy
            · rw [HXK.out] at hy; cases hy; exact ⟨HW.out, HV.out⟩)⟩
          case measure => simp [RowKit.intOf]; omega
    · have hlt' : ¬ (k : Int) < n := by omega
      have HP : Hid (∀ o ∈ xs, OptOk o) := hid (fun o ho => by
        obtain ⟨i, hi, rfl⟩ := List.getElem_of_mem ho
        exact hP.out i _ (by have := HNN.out; omega) (List.getElem?_eq_getElem hi))
      by_cases hsz : n ≤ 1000
      · have hz : decide ((n : Int) ≤ 1000) = true := decide_eq_true (by omega)
        go_wp2_with fail
        go_ret
        exact ⟨hK.out, _, rfl, fun _ => ⟨by rw [← HNN.out]; exact hsz, HP.out⟩⟩
      · have hz : decide ((n : Int) ≤ 1000) = false := decide_eq_false (by omega)
        go_wp2_with fail
        go_ret
        exact ⟨hK.out, _, rfl, fun h => by cases h⟩
end Go.Proofs.YtmhcbgmnhcfhfaaDoor.cf
