/- FnObjIsHash: a name has 40 digits in base 16: the walk. -/
import Derived.Test.YtplhhgcejajmoaaDoorRows
import Derived.Test.YtplhhgcejajmoaaDoorShelf
import Derived.Test.YtplhhgcejajmoaaDoorStrs
import Derived.Test.YtplhhgcejajmoaaDoorErr
import Derived.ProofKit
import Derived.LaidEql
import Derived.MakeChecks
set_option linter.unusedVariables false
namespace Go.Proofs.YtplhhgcejajmoaaDoor.isHash
open Go.ChangeShapes Go.WideShapes Go.ChangeAt Go.RowKit Lib strs

/-- a digit in base 16, with capital letters -/
def hexd (c : UInt8) : Bool := (48 ≤ c && c ≤ 57) || (97 ≤ c && c ≤ 102) || (65 ≤ c && c ≤ 70)
theorem hexd_iff (c : UInt8) : hexd c = true ↔ (48 ≤ (c.toNat : Int) ∧ (c.toNat : Int) ≤ 57) ∨ (97 ≤ (c.toNat : Int) ∧ (c.toNat : Int) ≤ 102) ∨ (65 ≤ (c.toNat : Int) ∧ (c.toNat : Int) ≤ 70) := by
  simp [hexd, UInt8.le_iff_toNat_le]; omega
theorem v_hexd : ∀ n : Fin 256, decide (15 < Hx.v (UInt8.ofNat n.val)) = !hexd (UInt8.ofNat n.val) := by decide +kernel
theorem v_iff (c : UInt8) : (15 < Hx.v c) ↔ hexd c = false := by
  have h := v_hexd ⟨c.toNat, c.toNat_lt⟩
  simp only [UInt8.ofNat_toNat] at h
  cases hc : hexd c <;> simp [hc] at h <;> simp <;> omega
def okB : Hx.Out → Bool
  | .ok => true
  | _ => false
theorem decode_ok (n : Nat) : ∀ l : List UInt8, l.length = 2 * n → okB (Hx.decode l).2 = l.all hexd := by
  induction n with
  | zero => intro l h; obtain rfl : l = [] := List.eq_nil_of_length_eq_zero (by omega); rw [Hx.decode_nil]; rfl
  | succ n ih =>
    intro l h
    match l, h with
    | p :: q :: t, h =>
      rw [Hx.decode_two]
      by_cases h1 : 15 < Hx.v p
      · rw [if_pos h1]; simp [okB, (v_iff p).1 h1]
      · rw [if_neg h1]
        have e1 : hexd p = true := by cases e : hexd p with | true => rfl | false => exact absurd ((v_iff p).2 e) h1
        by_cases h2 : 15 < Hx.v q
        · rw [if_pos h2]; simp [okB, (v_iff q).1 h2]
        · rw [if_neg h2]
          have e2 : hexd q = true := by cases e : hexd q with | true => rfl | false => exact absurd ((v_iff q).2 e) h2
          simp only [List.all_cons, e1, e2, Bool.true_and]
          exact ih t (by simp only [List.length_cons] at h; omega)

def allHex (s : ByteArray) : Bool := s.data.toList.all hexd
theorem plain_calls (s : ByteArray) (w : World) (a : Addr) (hE : w.cell? ⟨2, 0, none⟩ = some (.iface 83 (.pointer (some a)))) (h40 : s.size = 40) :
    Calls Tryd.prog 15 #[.string s] w fun e w' => e = .returned (.bool (allHex s)) ∧ Below w.heap.size w w' := by
  have H40 := hid h40
  have hb : (s.size : Int) ≤ 40 := by omega
  have hc : ((s.size : Int) == 40) = true := by simp; omega
  have HD := hid (decode_ok 20 s.data.toList (by simpa using h40))
  clear h40
  go_enter Tryd.func15, Tryd.ntmps15
  go_wp2_with fail
  refine (Tryd.hex_DecodeString s _ _ hE (by omega)).mono ?_
  rintro e w' ⟨rfl, _, hb'⟩
  cases ho : (Hx.decode s.data.toList).2 with
  | ok =>
    have HO := hid ho; clear ho
    have HB := hid hb'; clear hb'
    simp only [Hx.errVal]
    go_wp2_with fail
    go_ret
    refine ⟨ret_bool ?_, HB.out⟩
    unfold allHex; rw [← HD.out, HO.out]; rfl
  | bad c =>
    have HO := hid ho; clear ho
    have HB := hid hb'; clear hb'
    simp only [Hx.errVal]
    go_wp2_with fail
    go_ret
    refine ⟨ret_bool ?_, HB.out⟩
    unfold allHex; rw [← HD.out, HO.out]; rfl
  | odd =>
    have HO := hid ho; clear ho
    have HB := hid hb'; clear hb'
    simp only [Hx.errVal]
    go_wp2_with fail
    go_ret
    refine ⟨ret_bool ?_, HB.out⟩
    unfold allHex; rw [← HD.out, HO.out]; rfl
theorem plain_no (s : ByteArray) (w : World) (h40 : ¬ s.size = 40) :
    Calls Tryd.prog 15 #[.string s] w fun e w' => e = .returned (.bool false) ∧ Below w.heap.size w w' := by
  have hc : ((s.size : Int) == 40) = false := by simp; omega
  clear h40
  go_enter Tryd.func15, Tryd.ntmps15
  go_wp2_with fail
  go_ret
  exact ⟨rfl, Below.refl _ _⟩

def isB (s : ByteArray) : Bool := decide (s.size = 40) && allHex s
theorem impl_calls (s : ByteArray) (w : World) (a : Addr) (hE : w.cell? ⟨2, 0, none⟩ = some (.iface 83 (.pointer (some a)))) :
    Calls Tryd.prog 6 #[.string s] w fun e w' => e = .returned (.bool (isB s)) ∧ Below w.heap.size w w' := by
  by_cases h : s.size = 40
  · have hr : Hid (isB s = allHex s) := hid (by simp [isB, h])
    have H := hid h; clear h
    go_enter Tryd.func6, Tryd.ntmps6
    go_wp2_with fail
    refine (plain_calls s _ a hE H.out).mono ?_
    rintro e w' ⟨rfl, hb⟩
    have HB := hid hb; clear hb
    go_wp2_with fail
    go_ret
    exact ⟨ret_bool hr.out.symm, HB.out⟩
  · have hr : Hid (isB s = false) := hid (by simp [isB, h])
    go_enter Tryd.func6, Tryd.ntmps6
    go_wp2_with fail
    refine (plain_no s _ h).mono ?_
    rintro e w' ⟨rfl, hb⟩
    have HB := hid hb; clear hb
    go_wp2_with fail
    go_ret
    exact ⟨ret_bool hr.out.symm, HB.out⟩
theorem hclasses (c : Int) : c < 48 ∨ (48 ≤ c ∧ c ≤ 57) ∨ (57 < c ∧ c < 65) ∨ (65 ≤ c ∧ c ≤ 70) ∨ (70 < c ∧ c < 97) ∨ (97 ≤ c ∧ c ≤ 102) ∨ 102 < c := by omega
theorem want_step (s : ByteArray) (k : Nat) (hk : k < s.size) (b : Bool) (h : b = (decide (s.size = 40) && (s.data.toList.take k).all hexd)) :
    (b && hexd s[k]) = (decide (s.size = 40) && (s.data.toList.take (k + 1)).all hexd) := by
  rw [List.take_succ_eq_append_getElem (by simpa using hk), List.all_append, h]
  simp only [List.all_cons, List.all_nil, Bool.and_true, Array.getElem_toList, Bool.and_assoc]
  rfl
set_option maxHeartbeats 2000000 in
theorem law_main (s : ByteArray) (w : World) (a : Addr) (hE : w.cell? ⟨2, 0, none⟩ = some (.iface 83 (.pointer (some a)))) (hs : s.size ≤ 1000000) :
    Calls Tryd.prog 3 #[.string s] w fun e w' => e = .returned (.bool true) ∧ Below w.heap.size w w' := by
  go_enter Tryd.func3, Tryd.ntmps3
  go_wp2_with fail
  go_loop [3, 17] (fun v i => ∃ (k : Nat) (b : Bool), k ≤ s.size ∧ i = .int .i64 k ∧ v = .bool b ∧ Hid (b = (decide (s.size = 40) && (s.data.toList.take k).all hexd))) (fun _ i => s.size - (RowKit.intOf i).toNat)
  case atStart => exact ⟨0, ((s.size : Int) == 40), by omega, rfl, rfl, hid (by rw [Bool.eq_iff_iff]; simp; omega)⟩
  case round =>
    obtain ⟨k, b, hk, rfl, rfl, hb⟩ := hrel
    by_cases hlt : k < s.size
    · have H := hid (want_step s k hlt b hb)
      clear hb
      cases b with
      | false =>
        go_wp2_with fail
        go_round
        case rel => exact ⟨k + 1, false, by omega, by go_num, rfl, H.out⟩
        case measure => simp [RowKit.intOf]; omega
      | true =>
        have H3 := hid (hexd_iff s[k])
        rcases hclasses s[k].toNat with hc | ⟨hc, hd⟩ | ⟨hc, hd⟩ | ⟨hc, hd⟩ | ⟨hc, hd⟩ | ⟨hc, hd⟩ | hc
        all_goals first | have e57 : decide ((s[k].toNat : Int) ≤ 57) = false := decide_eq_false (by omega) | have e57 : decide ((s[k].toNat : Int) ≤ 57) = true := decide_eq_true (by omega)
        all_goals first | have e70 : decide ((s[k].toNat : Int) ≤ 70) = false := decide_eq_false (by omega) | have e70 : decide ((s[k].toNat : Int) ≤ 70) = true := decide_eq_true (by omega)
        all_goals first | have e102 : decide ((s[k].toNat : Int) ≤ 102) = false := decide_eq_false (by omega) | have e102 : decide ((s[k].toNat : Int) ≤ 102) = true := decide_eq_true (by omega)
        all_goals go_wp2_with fail
        all_goals go_round
        all_goals first | exact ⟨k + 1, true, by omega, by go_num, rfl, hid (by rw [← H.out, H3.out.2 (by omega)]; rfl)⟩ | exact ⟨k + 1, false, by omega, by go_num, rfl, hid (by rw [← H.out, show hexd s[k] = false from Bool.eq_false_iff.2 (fun h => by have := H3.out.1 h; omega)]; rfl)⟩ | (simp [RowKit.intOf]; omega)
    · have hr : Hid (b = isB s) := hid (by
        have := hb.out
        rw [List.take_of_length_le (by simp; omega)] at this
        exact this)
      clear hb
      go_wp2_with fail
      refine (impl_calls s _ a hE).mono ?_
      rintro e w' ⟨rfl, hb⟩
      have HB := hid hb; clear hb
      go_wp2_with fail
      go_ret
      exact ⟨ret_bool (by rw [hr.out]; simp), HB.out⟩

theorem law_calls (W : World) (s : ByteArray) (hs : s.size ≤ 140737488351232) (hL : laidMetH Tryd.prog Rows.fnObjIsHashRow.laid W) (hsh : W.ShapedOpen Tryd.prog) :
    Calls Tryd.prog 3 #[.string s] W fun e w' => e = .returned (.bool true) ∧ Below W.heap.size W w' := by
  obtain ⟨a, hE⟩ := err.sentinel (g := 2) (by kernel_rfl) (by kernel_rfl) (err.plainLaid hL (by kernel_rfl))
  clear hL hsh
  by_cases c1 : 2147483647 < s.size
  · clear hE
    go_enter Tryd.func3, Tryd.ntmps3
    go_wp2_with fail
    go_ret
    exact ⟨rfl, Below.refl _ _⟩
  by_cases c2 : 1000000 < s.size
  · clear hE
    go_enter Tryd.func3, Tryd.ntmps3
    go_wp2_with fail
    go_ret
    exact ⟨rfl, Below.refl _ _⟩
  exact law_main s W a hE (by omega)
end Go.Proofs.YtplhhgcejajmoaaDoor.isHash
