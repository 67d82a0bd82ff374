/- A number in decimal, two digits, a zone: what the spec's words compute. -/
import Derived.Test.YtojimnlnpghbiaaDoorText
import Derived.WalkKit
import Derived.Lib.Hide
import Derived.ProofKit
import Derived.WalkSmall
import Derived.RowKitTokens
import Derived.Below
import Derived.Lib.ItoaNum
import Derived.Laws.BytesString
import Derived.Laws.IdiomStrings
set_option linter.unusedVariables false
namespace Go.Proofs.YtojimnlnpghbiaaDoor.who
open Go.RowKit Lib text

def Wrote (w : World) (l : List UInt8) (e : Ending) (w' : World) : Prop := w' = w ∧ ∃ s : ByteArray, e = .returned (.string s) ∧ s.data.toList = l
theorem digit (n : Nat) (h : n < 10) : (Utf8.encode (48 + (n : Int))).data.toList = [UInt8.ofNat (48 + n)] := by
  have e : (48 : Int) + (n : Int) = ((48 + n : Nat) : Int) := by omega
  have e1 : (48 + n : Nat) < 128 := by omega
  rw [e]
  generalize 48 + n = r at e1
  have v : Utf8.valid (r : Int) = true := by simp [Utf8.valid]; omega
  simp [Utf8.encode, v, e1]
theorem append_list (a b : ByteArray) : (a ++ b).data.toList = a.data.toList ++ b.data.toList := by simp
theorem list_size (s : ByteArray) : s.data.toList.length = s.size := by simp
theorem dec_len : ∀ (m n : Nat), n < 10 ^ (m + 1) → (decDigits n).length ≤ m + 1 := by
  intro m
  induction m with
  | zero => intro n h; rw [decDigits, dif_pos (by simpa using h)]; simp
  | succ m ih =>
    intro n h
    rw [decDigits]
    split
    · simp
    · have h2 : n / 10 < 10 ^ (m + 1) := by
        rw [Nat.pow_succ] at h
        exact Nat.div_lt_of_lt_mul (by omega)
      have := ih _ h2
      rw [List.length_append, List.length_singleton]
      omega
set_option maxRecDepth 100000 in
set_option maxHeartbeats 4000000 in
theorem decimal_calls : ∀ (m n : Nat) (w : World), n < 10 ^ (m + 1) → m ≤ 15 → Calls Tryd.prog 19 #[.int .i64 n] w (Wrote w (decDigits n)) := by
  intro m
  induction m with
  | zero =>
    intro n w h _
    have h10 : n < 10 := by simpa using h
    have hd := hid (digit n h10)
    have hq := hid (decDigits_one h10)
    have e1 : (n : Int) < 10 := by omega
    clear h
    go_enter Tryd.func19, Tryd.ntmps19
    go_wp2_with fail
    go_ret
    exact ⟨rfl, _, rfl, by rw [hd.out, hq.out]⟩
  | succ m ih =>
    intro n w h hm
    by_cases h10 : n < 10
    · have hd := hid (digit n h10)
      have hq := hid (decDigits_one h10)
      have e1 : (n : Int) < 10 := by omega
      clear h
      go_enter Tryd.func19, Tryd.ntmps19
      go_wp2_with fail
      go_ret
      exact ⟨rfl, _, rfl, by rw [hd.out, hq.out]⟩
    · have h2 : n / 10 < 10 ^ (m + 1) := by
        rw [Nat.pow_succ] at h
        exact Nat.div_lt_of_lt_mul (by omega)
      have hl := dec_len m (n / 10) h2
      have hx := hid (ih (n / 10) w h2 (by omega))
      have hq : Hid (decDigits n = decDigits (n / 10) ++ [UInt8.ofNat (48 + n % 10)]) := hid (by rw [decDigits, dif_neg h10])
      have hd : Hid ((Utf8.encode (48 + (n : Int) % 10)).data.toList = [UInt8.ofNat (48 + n % 10)]) := hid (by
        rw [show (n : Int) % 10 = ((n % 10 : Nat) : Int) by omega]
        exact digit (n % 10) (Nat.mod_lt _ (by omega)))
      have hb : (n : Int) < 100000000000000000 := by
        have h9 : n < 100000000000000000 := Nat.lt_of_lt_of_le h (Nat.le_trans (Nat.pow_le_pow_right (by omega) (show m + 1 + 1 ≤ 17 by omega)) (by decide))
        omega
      have e1 : ¬ (n : Int) < 10 := by omega
      have e2 : (n : Int) / 10 = ((n / 10 : Nat) : Int) := by omega
      have r1 : (0 : Int) ≤ (n : Int) % 10 := by omega
      have r2 : (n : Int) % 10 < 10 := by omega
      have HLn := hid hl
      have E2 := hid e2
      clear h h2 ih hl h10 e2
      go_enter Tryd.func19, Tryd.ntmps19
      go_wp2_with fail
      rw [E2.out]
      refine hx.out.mono ?_
      rintro e w1 ⟨rfl, s, rfl, hs⟩
      have HS := hid hs
      have hss : (s.size : Int) ≤ 17 := by have := congrArg List.length hs; have h9 := HLn.out; rw [list_size] at this; omega
      clear hm
      have hen : (Utf8.encode (48 + (n : Int) % 10)).size = 1 := by rw [← list_size, hd.out]; rfl
      clear hs
      go_wp2_with fail
      go_ret
      exact ⟨rfl, _, rfl, by rw [append_list, HS.out, hd.out, hq.out]⟩
end Go.Proofs.YtojimnlnpghbiaaDoor.who
