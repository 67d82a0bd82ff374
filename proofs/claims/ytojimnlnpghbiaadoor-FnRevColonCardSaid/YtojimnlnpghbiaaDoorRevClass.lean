/- Letters and digits: what unicode's tests say of them. -/
import Derived.Test.YtojimnlnpghbiaaDoorRevPunct
set_option linter.unusedVariables false
attribute [local go_sem ↓] Go.wp_at_zero Go.wp_at_succ
namespace Go.Proofs.YtojimnlnpghbiaaDoor.rev
open Go.RowKit Lib frm mem rd

/-- a letter's row in the table: a digit's, a small letter's, a mark's -/
def Zs (z : Int) : Prop := z = 132 ∨ z = 192 ∨ z = 130 ∨ z = 136
def AtZ (w : World) (x : UInt8) (z : Int) : Prop := w.cell? ⟨9, x.toNat, none⟩ = some (.int .u8 z)
def Says (w : World) (b : Bool) (e : Ending) (w' : World) : Prop := e = .returned (.bool b) ∧ w' = w
set_option maxRecDepth 100000 in
theorem number_calls (x : UInt8) (z : Int) (w : World) (hx : x.toNat < 128) (hz : Zs z) (hc : AtZ w x z) : Calls Tryd.prog 90 #[.int .i32 x.toNat] w (Says w (decide (z = 132))) := by
  unfold AtZ at hc
  have h0 : (0 : Int) ≤ x.toNat := by omega
  have h1 : (x.toNat : Int) ≤ 255 := by omega
  have e1 : IntKind.u32.wrap (x.toNat : Int) = x.toNat := by rw [IntKind.wrap_u32]; omega
  have e2 : IntKind.u8.wrap (x.toNat : Int) = x.toNat := by rw [IntKind.wrap_u8]; omega
  have h2 : (x.toNat : Int) < 256 := by omega
  generalize x.toNat = k at *
  clear hx
  rcases hz with rfl | rfl | rfl | rfl
  all_goals
    go_enter Tryd.func90, Tryd.ntmps90
    go_wp2_with fail
    go_ret
    exact ⟨rfl, rfl⟩
set_option maxRecDepth 100000 in
theorem control_calls (x : UInt8) (z : Int) (w : World) (hx : x.toNat < 128) (hz : Zs z) (hc : AtZ w x z) : Calls Tryd.prog 87 #[.int .i32 x.toNat] w (Says w false) := by
  unfold AtZ at hc
  have h0 : (0 : Int) ≤ x.toNat := by omega
  have h1 : (x.toNat : Int) ≤ 255 := by omega
  have e1 : IntKind.u32.wrap (x.toNat : Int) = x.toNat := by rw [IntKind.wrap_u32]; omega
  have e2 : IntKind.u8.wrap (x.toNat : Int) = x.toNat := by rw [IntKind.wrap_u8]; omega
  have h2 : (x.toNat : Int) < 256 := by omega
  generalize x.toNat = k at *
  clear hx
  rcases hz with rfl | rfl | rfl | rfl
  all_goals
    go_enter Tryd.func87, Tryd.ntmps87
    go_wp2_with fail
    go_ret
    exact ⟨rfl, rfl⟩
set_option maxRecDepth 100000 in
theorem letter_calls (x : UInt8) (z : Int) (w : World) (hx : x.toNat < 128) (hz : Zs z) (hc : AtZ w x z) : Calls Tryd.prog 88 #[.int .i32 x.toNat] w (Says w (decide (z = 192))) := by
  unfold AtZ at hc
  have h0 : (0 : Int) ≤ x.toNat := by omega
  have h1 : (x.toNat : Int) ≤ 255 := by omega
  have e1 : IntKind.u32.wrap (x.toNat : Int) = x.toNat := by rw [IntKind.wrap_u32]; omega
  have e2 : IntKind.u8.wrap (x.toNat : Int) = x.toNat := by rw [IntKind.wrap_u8]; omega
  have h2 : (x.toNat : Int) < 256 := by omega
  generalize x.toNat = k at *
  clear hx
  rcases hz with rfl | rfl | rfl | rfl
  all_goals
    go_enter Tryd.func88, Tryd.ntmps88
    go_wp2_with fail
    go_ret
    exact ⟨rfl, rfl⟩
set_option maxRecDepth 100000 in
theorem space_calls (x : UInt8) (w : World) (hx : x.toNat < 128) (hx2 : 33 ≤ x.toNat) : Calls Tryd.prog 49 #[.int .i32 x.toNat] w (Says w false) := by
  have h0 : (0 : Int) ≤ x.toNat := by omega
  have h1 : (x.toNat : Int) ≤ 255 := by omega
  have e1 : IntKind.u32.wrap (x.toNat : Int) = x.toNat := by rw [IntKind.wrap_u32]; omega
  have g1 : ¬ (x.toNat : Int) = 9 := by omega
  have g2 : ¬ (x.toNat : Int) = 10 := by omega
  have g3 : ¬ (x.toNat : Int) = 11 := by omega
  have g4 : ¬ (x.toNat : Int) = 12 := by omega
  have g5 : ¬ (x.toNat : Int) = 13 := by omega
  have g6 : ¬ (x.toNat : Int) = 32 := by omega
  have g7 : ¬ (x.toNat : Int) = 133 := by omega
  have g8 : ¬ (x.toNat : Int) = 160 := by omega
  generalize x.toNat = k at *
  clear hx hx2
  go_enter Tryd.func49, Tryd.ntmps49
  go_wp2_with fail
  go_ret
  exact ⟨rfl, rfl⟩
end Go.Proofs.YtojimnlnpghbiaaDoor.rev
