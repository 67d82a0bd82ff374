/- Packet lines: what they are, digit by digit. Plain Lean. -/
import Derived.Test.YtoihglnamclhfaaDoorText
set_option linter.unusedVariables false
namespace Go.Proofs.YtoihglnamclhfaaDoor.pkt
open text

/-- a digit in base 16 -/
def hexd (k : Nat) : UInt8 := if k < 10 then UInt8.ofNat (48 + k) else UInt8.ofNat (87 + k)
def hex4 (n : Nat) : List UInt8 := [hexd (n / 4096 % 16), hexd (n / 256 % 16), hexd (n / 16 % 16), hexd (n % 16)]
/-- the packet line of a payload -/
def line (p : List UInt8) : List UInt8 := if p = [] then [48, 48, 48, 48] else hex4 (p.length + 4) ++ p
def lines (ps : List (List UInt8)) : List UInt8 := ps.flatMap line
/-- a payload that tells of an error -/
def isErr (p : List UInt8) : Bool := p.take 4 == [69, 82, 82, 32]
/-- a payload that is spoken of -/
def Good (p : List UInt8) : Prop := p.length ≤ 65516 ∧ isErr p = false
theorem hexd_toNat (k : Nat) (h : k < 16) : (hexd k).toNat = if k < 10 then 48 + k else 87 + k := by
  unfold hexd
  split
  · rw [UInt8.toNat_ofNat', Nat.mod_eq_of_lt (by omega)]
  · rw [UInt8.toNat_ofNat', Nat.mod_eq_of_lt (by omega)]
theorem hex4_len (n : Nat) : (hex4 n).length = 4 := rfl
theorem line_nil : line [] = [48, 48, 48, 48] := by simp [line]
theorem line_cons {p : List UInt8} (h : p ≠ []) : line p = hex4 (p.length + 4) ++ p := by rw [line, if_neg h]
theorem zero4 : hex4 0 = [48, 48, 48, 48] := by decide
/-- one way to say both: the head is the digits of a number, 0 for the empty payload -/
def lenOf (p : List UInt8) : Nat := if p = [] then 0 else p.length + 4
theorem line_eq (p : List UInt8) : line p = hex4 (lenOf p) ++ p := by
  unfold line lenOf
  split
  · rename_i h; subst h; rw [zero4]; rfl
  · rfl
theorem lenOf_lt {p : List UInt8} (h : p.length ≤ 65516) : lenOf p < 65536 := by unfold lenOf; split <;> omega
theorem hex4_val (n : Nat) (h : n < 65536) : n / 4096 % 16 * 4096 + n / 256 % 16 * 256 + n / 16 % 16 * 16 + n % 16 = n := by omega
theorem line_len (p : List UInt8) : (line p).length = p.length + 4 := by rw [line_eq]; simp [hex4_len]; omega
theorem lines_cons (p : List UInt8) (ps : List (List UInt8)) : lines (p :: ps) = line p ++ lines ps := by simp [lines]
theorem lines_append (a b : List (List UInt8)) : lines (a ++ b) = lines a ++ lines b := by simp [lines]
theorem lines_len (ps : List (List UInt8)) (h : ∀ p ∈ ps, p.length ≤ 65516) : (lines ps).length ≤ 65520 * ps.length := by
  induction ps with
  | nil => simp [lines]
  | cons p ps ih =>
    rw [lines_cons, List.length_append, line_len, List.length_cons]
    have := ih (fun q hq => h q (List.mem_cons_of_mem _ hq))
    have := h p (List.mem_cons_self ..)
    omega
end Go.Proofs.YtoihglnamclhfaaDoor.pkt
