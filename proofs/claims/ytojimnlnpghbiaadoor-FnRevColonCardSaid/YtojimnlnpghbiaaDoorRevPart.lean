/- impl.partOf. -/
import Derived.Test.YtojimnlnpghbiaaDoorRevColon
set_option linter.unusedVariables false
attribute [local go_sem ↓] Go.wp_at_zero Go.wp_at_succ
namespace Go.Proofs.YtojimnlnpghbiaaDoor.rev
open Go.RowKit Lib frm mem rd

/-- the parts that the laws speak of -/
inductive Rv
  | ref (s : ByteArray)
  | reflog (n : Nat)
  | checkout (n : Nat)
  | cpath (s : ByteArray)
  | cstage (s : ByteArray) (n : Nat)
  | creg (s : ByteArray) (b : Bool)
/-- as the package has it -/
def Rv.v : Rv → Value
  | .ref s => refV s
  | .reflog n => reflogV n
  | .checkout n => checkoutV n
  | .cpath s => pathV s
  | .cstage s n => stageV s n
  | .creg s b => regV s b
/-- as it is told: its four cells -/
def Rv.cells : Rv → List Value
  | .ref s => [.string ⟨#[82, 101, 102]⟩, .string s, .int .i64 0, .bool false]
  | .reflog n => [.string ⟨#[65, 116, 82, 101, 102, 108, 111, 103]⟩, .string ⟨#[]⟩, .int .i64 n, .bool false]
  | .checkout n => [.string ⟨#[65, 116, 67, 104, 101, 99, 107, 111, 117, 116]⟩, .string ⟨#[]⟩, .int .i64 n, .bool false]
  | .cpath s => [.string ⟨#[67, 111, 108, 111, 110, 80, 97, 116, 104]⟩, .string s, .int .i64 0, .bool false]
  | .cstage s n => [.string ⟨#[67, 111, 108, 111, 110, 83, 116, 97, 103, 101, 80, 97, 116, 104]⟩, .string s, .int .i64 n, .bool false]
  | .creg s b => [.string ⟨#[67, 111, 108, 111, 110, 82, 101, 103]⟩, .string s, .int .i64 0, .bool b]
def Rv.part (r : Rv) : Value := .agg r.cells.toArray
def PartIs (r : Rv) (w : World) (e : Ending) (w' : World) : Prop := e = .returned r.part ∧ Kept [] w w'
set_option maxRecDepth 100000 in
set_option maxHeartbeats 4000000 in
theorem part_ref (s : ByteArray) (w : World) : Calls Tryd.prog 42 #[Rv.v (.ref s)] w (PartIs (.ref s) w) := by
  unfold Rv.v refV reflogV checkoutV pathV stageV regV
  have htareff0 : ∀ w : World, (Instr.typeAssert (.iface 105 (.string s)) 88 105 true).run Tryd.prog w = .ok (.tuple #[.string s, .bool true]) w := fun _ => by kernel_rfl
  go_enter Tryd.func42, Tryd.ntmps42
  go_wp2_with fail
  refine bodyPost_ret (v := Rv.part (.ref s)) (by simp [results, Tryd.results42, go_sem]; rfl) rfl ?_
  exact ⟨rfl, by repeat (first | exact Kept.refl _ _ | refine Kept.alloc ?_ _ | (refine Kept.setCell ?_ (.inr (by simp)) _))⟩
set_option maxRecDepth 100000 in
set_option maxHeartbeats 4000000 in
theorem part_reflog (n : Nat) (w : World) : Calls Tryd.prog 42 #[Rv.v (.reflog n)] w (PartIs (.reflog n) w) := by
  unfold Rv.v refV reflogV checkoutV pathV stageV regV
  have htarefg0 : ∀ w : World, (Instr.typeAssert (.iface 113 (.agg #[.int .i64 n])) 88 105 true).run Tryd.prog w = .ok (.tuple #[.string ⟨#[]⟩, .bool false]) w := fun _ => by kernel_rfl
  have htarefg1 : ∀ w : World, (Instr.typeAssert (.iface 113 (.agg #[.int .i64 n])) 88 107 true).run Tryd.prog w = .ok (.tuple #[.agg #[.int .i64 0], .bool false]) w := fun _ => by kernel_rfl
  have htarefg2 : ∀ w : World, (Instr.typeAssert (.iface 113 (.agg #[.int .i64 n])) 88 108 true).run Tryd.prog w = .ok (.tuple #[.agg #[.int .i64 0], .bool false]) w := fun _ => by kernel_rfl
  have htarefg3 : ∀ w : World, (Instr.typeAssert (.iface 113 (.agg #[.int .i64 n])) 88 110 true).run Tryd.prog w = .ok (.tuple #[.agg #[.string ⟨#[]⟩, .bool false], .bool false]) w := fun _ => by kernel_rfl
  have htarefg4 : ∀ w : World, (Instr.typeAssert (.iface 113 (.agg #[.int .i64 n])) 88 112 true).run Tryd.prog w = .ok (.tuple #[.agg #[.string ⟨#[]⟩], .bool false]) w := fun _ => by kernel_rfl
  have htarefg5 : ∀ w : World, (Instr.typeAssert (.iface 113 (.agg #[.int .i64 n])) 88 113 true).run Tryd.prog w = .ok (.tuple #[.agg #[.int .i64 n], .bool true]) w := fun _ => by kernel_rfl
  go_enter Tryd.func42, Tryd.ntmps42
  go_wp2_with fail
  refine bodyPost_ret (v := Rv.part (.reflog n)) (by simp [results, Tryd.results42, go_sem]; rfl) rfl ?_
  exact ⟨rfl, by repeat (first | exact Kept.refl _ _ | refine Kept.alloc ?_ _ | (refine Kept.setCell ?_ (.inr (by simp)) _))⟩
set_option maxRecDepth 100000 in
set_option maxHeartbeats 4000000 in
theorem part_checkout (n : Nat) (w : World) : Calls Tryd.prog 42 #[Rv.v (.checkout n)] w (PartIs (.checkout n) w) := by
  unfold Rv.v refV reflogV checkoutV pathV stageV regV
  have htachet0 : ∀ w : World, (Instr.typeAssert (.iface 114 (.agg #[.int .i64 n])) 88 105 true).run Tryd.prog w = .ok (.tuple #[.string ⟨#[]⟩, .bool false]) w := fun _ => by kernel_rfl
  have htachet1 : ∀ w : World, (Instr.typeAssert (.iface 114 (.agg #[.int .i64 n])) 88 107 true).run Tryd.prog w = .ok (.tuple #[.agg #[.int .i64 0], .bool false]) w := fun _ => by kernel_rfl
  have htachet2 : ∀ w : World, (Instr.typeAssert (.iface 114 (.agg #[.int .i64 n])) 88 108 true).run Tryd.prog w = .ok (.tuple #[.agg #[.int .i64 0], .bool false]) w := fun _ => by kernel_rfl
  have htachet3 : ∀ w : World, (Instr.typeAssert (.iface 114 (.agg #[.int .i64 n])) 88 110 true).run Tryd.prog w = .ok (.tuple #[.agg #[.string ⟨#[]⟩, .bool false], .bool false]) w := fun _ => by kernel_rfl
  have htachet4 : ∀ w : World, (Instr.typeAssert (.iface 114 (.agg #[.int .i64 n])) 88 112 true).run Tryd.prog w = .ok (.tuple #[.agg #[.string ⟨#[]⟩], .bool false]) w := fun _ => by kernel_rfl
  have htachet5 : ∀ w : World, (Instr.typeAssert (.iface 114 (.agg #[.int .i64 n])) 88 113 true).run Tryd.prog w = .ok (.tuple #[.agg #[.int .i64 0], .bool false]) w := fun _ => by kernel_rfl
  have htachet6 : ∀ w : World, (Instr.typeAssert (.iface 114 (.agg #[.int .i64 n])) 88 114 true).run Tryd.prog w = .ok (.tuple #[.agg #[.int .i64 n], .bool true]) w := fun _ => by kernel_rfl
  go_enter Tryd.func42, Tryd.ntmps42
  go_wp2_with fail
  refine bodyPost_ret (v := Rv.part (.checkout n)) (by simp [results, Tryd.results42, go_sem]; rfl) rfl ?_
  exact ⟨rfl, by repeat (first | exact Kept.refl _ _ | refine Kept.alloc ?_ _ | (refine Kept.setCell ?_ (.inr (by simp)) _))⟩
set_option maxRecDepth 100000 in
set_option maxHeartbeats 4000000 in
theorem part_cpath (s : ByteArray) (w : World) : Calls Tryd.prog 42 #[Rv.v (.cpath s)] w (PartIs (.cpath s) w) := by
  unfold Rv.v refV reflogV checkoutV pathV stageV regV
  have htacpah0 : ∀ w : World, (Instr.typeAssert (.iface 126 (.agg #[.string s])) 88 105 true).run Tryd.prog w = .ok (.tuple #[.string ⟨#[]⟩, .bool false]) w := fun _ => by kernel_rfl
  have htacpah1 : ∀ w : World, (Instr.typeAssert (.iface 126 (.agg #[.string s])) 88 107 true).run Tryd.prog w = .ok (.tuple #[.agg #[.int .i64 0], .bool false]) w := fun _ => by kernel_rfl
  have htacpah2 : ∀ w : World, (Instr.typeAssert (.iface 126 (.agg #[.string s])) 88 108 true).run Tryd.prog w = .ok (.tuple #[.agg #[.int .i64 0], .bool false]) w := fun _ => by kernel_rfl
  have htacpah3 : ∀ w : World, (Instr.typeAssert (.iface 126 (.agg #[.string s])) 88 110 true).run Tryd.prog w = .ok (.tuple #[.agg #[.string ⟨#[]⟩, .bool false], .bool false]) w := fun _ => by kernel_rfl
  have htacpah4 : ∀ w : World, (Instr.typeAssert (.iface 126 (.agg #[.string s])) 88 112 true).run Tryd.prog w = .ok (.tuple #[.agg #[.string ⟨#[]⟩], .bool false]) w := fun _ => by kernel_rfl
  have htacpah5 : ∀ w : World, (Instr.typeAssert (.iface 126 (.agg #[.string s])) 88 113 true).run Tryd.prog w = .ok (.tuple #[.agg #[.int .i64 0], .bool false]) w := fun _ => by kernel_rfl
  have htacpah6 : ∀ w : World, (Instr.typeAssert (.iface 126 (.agg #[.string s])) 88 114 true).run Tryd.prog w = .ok (.tuple #[.agg #[.int .i64 0], .bool false]) w := fun _ => by kernel_rfl
  have htacpah7 : ∀ w : World, (Instr.typeAssert (.iface 126 (.agg #[.string s])) 88 116 true).run Tryd.prog w = .ok (.tuple #[.agg #[.string ⟨#[]⟩], .bool false]) w := fun _ => by kernel_rfl
  have htacpah8 : ∀ w : World, (Instr.typeAssert (.iface 126 (.agg #[.string s])) 88 117 true).run Tryd.prog w = .ok (.tuple #[.agg #[.string ⟨#[]⟩], .bool false]) w := fun _ => by kernel_rfl
  have htacpah9 : ∀ w : World, (Instr.typeAssert (.iface 126 (.agg #[.string s])) 88 121 true).run Tryd.prog w = .ok (.tuple #[.agg #[.int .i64 0, .int .i64 0, .int .i64 0], .bool false]) w := fun _ => by kernel_rfl
  have htacpah10 : ∀ w : World, (Instr.typeAssert (.iface 126 (.agg #[.string s])) 88 124 true).run Tryd.prog w = .ok (.tuple #[.agg #[.string ⟨#[]⟩, .bool false], .bool false]) w := fun _ => by kernel_rfl
  have htacpah11 : ∀ w : World, (Instr.typeAssert (.iface 126 (.agg #[.string s])) 88 126 true).run Tryd.prog w = .ok (.tuple #[.agg #[.string s], .bool true]) w := fun _ => by kernel_rfl
  go_enter Tryd.func42, Tryd.ntmps42
  go_wp2_with fail
  refine bodyPost_ret (v := Rv.part (.cpath s)) (by simp [results, Tryd.results42, go_sem]; rfl) rfl ?_
  exact ⟨rfl, by repeat (first | exact Kept.refl _ _ | refine Kept.alloc ?_ _ | (refine Kept.setCell ?_ (.inr (by simp)) _))⟩
set_option maxRecDepth 100000 in
set_option maxHeartbeats 4000000 in
theorem part_cstage (s : ByteArray) (n : Nat) (w : World) : Calls Tryd.prog 42 #[Rv.v (.cstage s n)] w (PartIs (.cstage s n) w) := by
  unfold Rv.v refV reflogV checkoutV pathV stageV regV
  have htacste0 : ∀ w : World, (Instr.typeAssert (.iface 128 (.agg #[.string s, .int .i64 n])) 88 105 true).run Tryd.prog w = .ok (.tuple #[.string ⟨#[]⟩, .bool false]) w := fun _ => by kernel_rfl
  have htacste1 : ∀ w : World, (Instr.typeAssert (.iface 128 (.agg #[.string s, .int .i64 n])) 88 107 true).run Tryd.prog w = .ok (.tuple #[.agg #[.int .i64 0], .bool false]) w := fun _ => by kernel_rfl
  have htacste2 : ∀ w : World, (Instr.typeAssert (.iface 128 (.agg #[.string s, .int .i64 n])) 88 108 true).run Tryd.prog w = .ok (.tuple #[.agg #[.int .i64 0], .bool false]) w := fun _ => by kernel_rfl
  have htacste3 : ∀ w : World, (Instr.typeAssert (.iface 128 (.agg #[.string s, .int .i64 n])) 88 110 true).run Tryd.prog w = .ok (.tuple #[.agg #[.string ⟨#[]⟩, .bool false], .bool false]) w := fun _ => by kernel_rfl
  have htacste4 : ∀ w : World, (Instr.typeAssert (.iface 128 (.agg #[.string s, .int .i64 n])) 88 112 true).run Tryd.prog w = .ok (.tuple #[.agg #[.string ⟨#[]⟩], .bool false]) w := fun _ => by kernel_rfl
  have htacste5 : ∀ w : World, (Instr.typeAssert (.iface 128 (.agg #[.string s, .int .i64 n])) 88 113 true).run Tryd.prog w = .ok (.tuple #[.agg #[.int .i64 0], .bool false]) w := fun _ => by kernel_rfl
  have htacste6 : ∀ w : World, (Instr.typeAssert (.iface 128 (.agg #[.string s, .int .i64 n])) 88 114 true).run Tryd.prog w = .ok (.tuple #[.agg #[.int .i64 0], .bool false]) w := fun _ => by kernel_rfl
  have htacste7 : ∀ w : World, (Instr.typeAssert (.iface 128 (.agg #[.string s, .int .i64 n])) 88 116 true).run Tryd.prog w = .ok (.tuple #[.agg #[.string ⟨#[]⟩], .bool false]) w := fun _ => by kernel_rfl
  have htacste8 : ∀ w : World, (Instr.typeAssert (.iface 128 (.agg #[.string s, .int .i64 n])) 88 117 true).run Tryd.prog w = .ok (.tuple #[.agg #[.string ⟨#[]⟩], .bool false]) w := fun _ => by kernel_rfl
  have htacste9 : ∀ w : World, (Instr.typeAssert (.iface 128 (.agg #[.string s, .int .i64 n])) 88 121 true).run Tryd.prog w = .ok (.tuple #[.agg #[.int .i64 0, .int .i64 0, .int .i64 0], .bool false]) w := fun _ => by kernel_rfl
  have htacste10 : ∀ w : World, (Instr.typeAssert (.iface 128 (.agg #[.string s, .int .i64 n])) 88 124 true).run Tryd.prog w = .ok (.tuple #[.agg #[.string ⟨#[]⟩, .bool false], .bool false]) w := fun _ => by kernel_rfl
  have htacste11 : ∀ w : World, (Instr.typeAssert (.iface 128 (.agg #[.string s, .int .i64 n])) 88 126 true).run Tryd.prog w = .ok (.tuple #[.agg #[.string ⟨#[]⟩], .bool false]) w := fun _ => by kernel_rfl
  have htacste12 : ∀ w : World, (Instr.typeAssert (.iface 128 (.agg #[.string s, .int .i64 n])) 88 128 true).run Tryd.prog w = .ok (.tuple #[.agg #[.string s, .int .i64 n], .bool true]) w := fun _ => by kernel_rfl
  go_enter Tryd.func42, Tryd.ntmps42
  go_wp2_with fail
  refine bodyPost_ret (v := Rv.part (.cstage s n)) (by simp [results, Tryd.results42, go_sem]; rfl) rfl ?_
  exact ⟨rfl, by repeat (first | exact Kept.refl _ _ | refine Kept.alloc ?_ _ | (refine Kept.setCell ?_ (.inr (by simp)) _))⟩
set_option maxRecDepth 100000 in
set_option maxHeartbeats 4000000 in
theorem part_creg (s : ByteArray) (b : Bool) (w : World) : Calls Tryd.prog 42 #[Rv.v (.creg s b)] w (PartIs (.creg s b) w) := by
  unfold Rv.v refV reflogV checkoutV pathV stageV regV
  have htacreg0 : ∀ w : World, (Instr.typeAssert (.iface 124 (.agg #[.string s, .bool b])) 88 105 true).run Tryd.prog w = .ok (.tuple #[.string ⟨#[]⟩, .bool false]) w := fun _ => by kernel_rfl
  have htacreg1 : ∀ w : World, (Instr.typeAssert (.iface 124 (.agg #[.string s, .bool b])) 88 107 true).run Tryd.prog w = .ok (.tuple #[.agg #[.int .i64 0], .bool false]) w := fun _ => by kernel_rfl
  have htacreg2 : ∀ w : World, (Instr.typeAssert (.iface 124 (.agg #[.string s, .bool b])) 88 108 true).run Tryd.prog w = .ok (.tuple #[.agg #[.int .i64 0], .bool false]) w := fun _ => by kernel_rfl
  have htacreg3 : ∀ w : World, (Instr.typeAssert (.iface 124 (.agg #[.string s, .bool b])) 88 110 true).run Tryd.prog w = .ok (.tuple #[.agg #[.string ⟨#[]⟩, .bool false], .bool false]) w := fun _ => by kernel_rfl
  have htacreg4 : ∀ w : World, (Instr.typeAssert (.iface 124 (.agg #[.string s, .bool b])) 88 112 true).run Tryd.prog w = .ok (.tuple #[.agg #[.string ⟨#[]⟩], .bool false]) w := fun _ => by kernel_rfl
  have htacreg5 : ∀ w : World, (Instr.typeAssert (.iface 124 (.agg #[.string s, .bool b])) 88 113 true).run Tryd.prog w = .ok (.tuple #[.agg #[.int .i64 0], .bool false]) w := fun _ => by kernel_rfl
  have htacreg6 : ∀ w : World, (Instr.typeAssert (.iface 124 (.agg #[.string s, .bool b])) 88 114 true).run Tryd.prog w = .ok (.tuple #[.agg #[.int .i64 0], .bool false]) w := fun _ => by kernel_rfl
  have htacreg7 : ∀ w : World, (Instr.typeAssert (.iface 124 (.agg #[.string s, .bool b])) 88 116 true).run Tryd.prog w = .ok (.tuple #[.agg #[.string ⟨#[]⟩], .bool false]) w := fun _ => by kernel_rfl
  have htacreg8 : ∀ w : World, (Instr.typeAssert (.iface 124 (.agg #[.string s, .bool b])) 88 117 true).run Tryd.prog w = .ok (.tuple #[.agg #[.string ⟨#[]⟩], .bool false]) w := fun _ => by kernel_rfl
  have htacreg9 : ∀ w : World, (Instr.typeAssert (.iface 124 (.agg #[.string s, .bool b])) 88 121 true).run Tryd.prog w = .ok (.tuple #[.agg #[.int .i64 0, .int .i64 0, .int .i64 0], .bool false]) w := fun _ => by kernel_rfl
  have htacreg10 : ∀ w : World, (Instr.typeAssert (.iface 124 (.agg #[.string s, .bool b])) 88 124 true).run Tryd.prog w = .ok (.tuple #[.agg #[.string s, .bool b], .bool true]) w := fun _ => by kernel_rfl
  go_enter Tryd.func42, Tryd.ntmps42
  go_wp2_with fail
  refine bodyPost_ret (v := Rv.part (.creg s b)) (by simp [results, Tryd.results42, go_sem]; rfl) rfl ?_
  exact ⟨rfl, by repeat (first | exact Kept.refl _ _ | refine Kept.alloc ?_ _ | (refine Kept.setCell ?_ (.inr (by simp)) _))⟩
theorem part_calls (r : Rv) (w : World) : Calls Tryd.prog 42 #[r.v] w (PartIs r w) := by
  cases r with
  | ref s => exact part_ref s w
  | reflog n => exact part_reflog n w
  | checkout n => exact part_checkout n w
  | cpath s => exact part_cpath s w
  | cstage s n => exact part_cstage s n w
  | creg s b => exact part_creg s b w
end Go.Proofs.YtojimnlnpghbiaaDoor.rev
