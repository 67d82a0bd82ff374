/- Parser.checkRefFormat at words and numbers. -/
import Derived.Test.YtojimnlnpghbiaaDoorRevNew
set_option linter.unusedVariables false
attribute [local go_sem ↓] Go.wp_at_zero Go.wp_at_succ
namespace Go.Proofs.YtojimnlnpghbiaaDoor.rev
open Go.RowKit Lib frm mem rd

def NoErr (w : World) (e : Ending) (w' : World) : Prop := e = .returned .nilIface ∧ w' = w
set_option maxRecDepth 100000 in
set_option maxHeartbeats 2000000 in
theorem check_word (v : Value) (t pt : Nat) (lit buf : ByteArray) (w : World) (ht : t = 19 ∨ t = 11) (hp : pt = 0 ∨ pt = 19 ∨ pt = 11) :
    Calls Tryd.prog 77 #[v, .int .i64 t, .string lit, .int .i64 pt, .string buf, .bool false] w (NoErr w) := by
  rcases ht with rfl | rfl <;> rcases hp with rfl | rfl | rfl
  all_goals
    go_enter Tryd.func77, Tryd.ntmps77
    go_wp2_with fail
    go_ret
    exact ⟨rfl, rfl⟩
set_option maxRecDepth 100000 in
set_option maxHeartbeats 2000000 in
theorem check_end_short (v : Value) (t pt : Nat) (lit buf : ByteArray) (w : World) (ht : t = 0 ∨ t = 3 ∨ t = 6 ∨ t = 17 ∨ t = 4) (hp : pt = 19 ∨ pt = 11) (hb : buf.size ≤ 4) :
    Calls Tryd.prog 77 #[v, .int .i64 t, .string lit, .int .i64 pt, .string buf, .bool true] w (NoErr w) := by
  have g : ¬ (4 : Int) < (buf.size : Int) := by omega
  have g2 : decide ((4 : Int) < (buf.size : Int)) = false := decide_eq_false g
  clear hb
  rcases ht with rfl | rfl | rfl | rfl | rfl <;> rcases hp with rfl | rfl
  all_goals
    go_enter Tryd.func77, Tryd.ntmps77
    go_wp2_with fail
    go_ret
    exact ⟨rfl, rfl⟩
set_option maxRecDepth 100000 in
set_option maxHeartbeats 2000000 in
theorem check_end_long (v : Value) (t pt m : Nat) (lit buf : ByteArray) (w : World) (ht : t = 0 ∨ t = 3 ∨ t = 6 ∨ t = 17 ∨ t = 4) (hp : pt = 19 ∨ pt = 11) (hb : 4 < buf.size) (hb2 : buf.size ≤ 4096) (hm : m = buf.size - 5)
    (hne : (buf.extract m buf.size).toList ≠ [46, 108, 111, 99, 107]) :
    Calls Tryd.prog 77 #[v, .int .i64 t, .string lit, .int .i64 pt, .string buf, .bool true] w (NoErr w) := by
  have g : (4 : Int) < (buf.size : Int) := by omega
  have g6 : wrap64 ((buf.size : Int) - 5) = (m : Int) := by unfold wrap64; omega
  have g7 : (0 : Int) ≤ (m : Int) ∧ (m : Int) ≤ (buf.size : Int) := by omega
  have g5 : ((buf.extract m buf.size).toList == [46, 108, 111, 99, 107]) = false := beq_eq_false_iff_ne.2 hne
  clear hb hb2 hm hne
  rcases ht with rfl | rfl | rfl | rfl | rfl <;> rcases hp with rfl | rfl
  all_goals
    go_enter Tryd.func77, Tryd.ntmps77
    go_wp2_with fail
    go_ret
    exact ⟨rfl, rfl⟩
end Go.Proofs.YtojimnlnpghbiaaDoor.rev
