/- Parser.validateFullRevision at the lists that the laws speak of. -/
import Derived.Test.YtojimnlnpghbiaaDoorRevPart
set_option linter.unusedVariables false
attribute [local go_sem ↓] Go.wp_at_zero Go.wp_at_succ
namespace Go.Proofs.YtojimnlnpghbiaaDoor.rev
open Go.RowKit Lib frm mem rd

def Fine (w : World) (e : Ending) (w' : World) : Prop := e = .returned .nilIface ∧ ∃ n, w' = w.drewN n
inductive Good : List Rv → Prop
  | ref (s : ByteArray) : Good [.ref s]
  | reflog (s : ByteArray) (n : Nat) : Good [.ref s, .reflog n]
  | checkout (n : Nat) : Good [.checkout n]
  | cpath (s t : ByteArray) : Good [.ref s, .cpath t]
  | cstage (s : ByteArray) (n : Nat) : Good [.cstage s n]
  | creg (s : ByteArray) (b : Bool) : Good [.creg s b]
set_option maxRecDepth 100000 in
set_option maxHeartbeats 4000000 in
theorem val_ref (s : ByteArray) (v : Value) (rb g cap : Nat) (w : World) (hc : w.cell? ⟨rb, 0, none⟩ = some (.slice (some ⟨g, 0, none⟩) 1 cap)) (h0 : w.cell? ⟨g, 0, none⟩ = some (Rv.v (.ref s))) :
    Calls Tryd.prog 58 #[v, .pointer (some ⟨rb, 0, none⟩)] w (Fine w) := by
  unfold Rv.v refV reflogV checkoutV pathV stageV regV at h0
  have htareff0 : ∀ w : World, (Instr.typeAssert (.iface 105 (.string s)) 88 105 true).run Tryd.prog w = .ok (.tuple #[.string s, .bool true]) w := fun _ => by kernel_rfl
  go_enter Tryd.func58, Tryd.ntmps58
  go_wp2_with fail
  refine wp_loop_rounds 3 ?_
  rw [rounds_succ]
  go_wp2_with fail
  rw [rounds_succ]
  go_wp2_with fail
  go_ret
  exact ⟨rfl, 0, rfl⟩
set_option maxRecDepth 100000 in
set_option maxHeartbeats 4000000 in
theorem val_reflog (s : ByteArray) (n : Nat) (v : Value) (rb g cap : Nat) (w : World) (hc : w.cell? ⟨rb, 0, none⟩ = some (.slice (some ⟨g, 0, none⟩) 2 cap)) (h0 : w.cell? ⟨g, 0, none⟩ = some (Rv.v (.ref s))) (h1 : w.cell? ⟨g, 1, none⟩ = some (Rv.v (.reflog n))) :
    Calls Tryd.prog 58 #[v, .pointer (some ⟨rb, 0, none⟩)] w (Fine w) := by
  unfold Rv.v refV reflogV checkoutV pathV stageV regV at h0 h1
  have htareff0 : ∀ w : World, (Instr.typeAssert (.iface 105 (.string s)) 88 105 true).run Tryd.prog w = .ok (.tuple #[.string s, .bool true]) w := fun _ => by kernel_rfl
  have htarefg0 : ∀ w : World, (Instr.typeAssert (.iface 113 (.agg #[.int .i64 n])) 88 105 true).run Tryd.prog w = .ok (.tuple #[.string ⟨#[]⟩, .bool false]) w := fun _ => by kernel_rfl
  have htarefg1 : ∀ w : World, (Instr.typeAssert (.iface 113 (.agg #[.int .i64 n])) 88 121 true).run Tryd.prog w = .ok (.tuple #[.agg #[.int .i64 0, .int .i64 0, .int .i64 0], .bool false]) w := fun _ => by kernel_rfl
  have htarefg2 : ∀ w : World, (Instr.typeAssert (.iface 113 (.agg #[.int .i64 n])) 88 113 true).run Tryd.prog w = .ok (.tuple #[.agg #[.int .i64 n], .bool true]) w := fun _ => by kernel_rfl
  go_enter Tryd.func58, Tryd.ntmps58
  go_wp2_with fail
  refine wp_loop_rounds 3 ?_
  rw [rounds_succ]
  go_wp2_with fail
  rw [rounds_succ]
  go_wp2_with fail
  go_ret
  exact ⟨rfl, 0, rfl⟩
set_option maxRecDepth 100000 in
set_option maxHeartbeats 4000000 in
theorem val_checkout (n : Nat) (v : Value) (rb g cap : Nat) (w : World) (hc : w.cell? ⟨rb, 0, none⟩ = some (.slice (some ⟨g, 0, none⟩) 1 cap)) (h0 : w.cell? ⟨g, 0, none⟩ = some (Rv.v (.checkout n))) :
    Calls Tryd.prog 58 #[v, .pointer (some ⟨rb, 0, none⟩)] w (Fine w) := by
  unfold Rv.v refV reflogV checkoutV pathV stageV regV at h0
  have htachet0 : ∀ w : World, (Instr.typeAssert (.iface 114 (.agg #[.int .i64 n])) 88 105 true).run Tryd.prog w = .ok (.tuple #[.string ⟨#[]⟩, .bool false]) w := fun _ => by kernel_rfl
  have htachet1 : ∀ w : World, (Instr.typeAssert (.iface 114 (.agg #[.int .i64 n])) 88 121 true).run Tryd.prog w = .ok (.tuple #[.agg #[.int .i64 0, .int .i64 0, .int .i64 0], .bool false]) w := fun _ => by kernel_rfl
  have htachet2 : ∀ w : World, (Instr.typeAssert (.iface 114 (.agg #[.int .i64 n])) 88 113 true).run Tryd.prog w = .ok (.tuple #[.agg #[.int .i64 0], .bool false]) w := fun _ => by kernel_rfl
  have htachet3 : ∀ w : World, (Instr.typeAssert (.iface 114 (.agg #[.int .i64 n])) 88 114 true).run Tryd.prog w = .ok (.tuple #[.agg #[.int .i64 n], .bool true]) w := fun _ => by kernel_rfl
  go_enter Tryd.func58, Tryd.ntmps58
  go_wp2_with fail
  refine wp_loop_rounds 3 ?_
  rw [rounds_succ]
  go_wp2_with fail
  go_ret
  exact ⟨rfl, 0, rfl⟩
set_option maxRecDepth 100000 in
set_option maxHeartbeats 4000000 in
theorem val_cpath (s : ByteArray) (t : ByteArray) (v : Value) (rb g cap : Nat) (w : World) (hc : w.cell? ⟨rb, 0, none⟩ = some (.slice (some ⟨g, 0, none⟩) 2 cap)) (h0 : w.cell? ⟨g, 0, none⟩ = some (Rv.v (.ref s))) (h1 : w.cell? ⟨g, 1, none⟩ = some (Rv.v (.cpath t))) :
    Calls Tryd.prog 58 #[v, .pointer (some ⟨rb, 0, none⟩)] w (Fine w) := by
  unfold Rv.v refV reflogV checkoutV pathV stageV regV at h0 h1
  have htareff0 : ∀ w : World, (Instr.typeAssert (.iface 105 (.string s)) 88 105 true).run Tryd.prog w = .ok (.tuple #[.string s, .bool true]) w := fun _ => by kernel_rfl
  have htacpah0 : ∀ w : World, (Instr.typeAssert (.iface 126 (.agg #[.string t])) 88 105 true).run Tryd.prog w = .ok (.tuple #[.string ⟨#[]⟩, .bool false]) w := fun _ => by kernel_rfl
  have htacpah1 : ∀ w : World, (Instr.typeAssert (.iface 126 (.agg #[.string t])) 88 121 true).run Tryd.prog w = .ok (.tuple #[.agg #[.int .i64 0, .int .i64 0, .int .i64 0], .bool false]) w := fun _ => by kernel_rfl
  have htacpah2 : ∀ w : World, (Instr.typeAssert (.iface 126 (.agg #[.string t])) 88 113 true).run Tryd.prog w = .ok (.tuple #[.agg #[.int .i64 0], .bool false]) w := fun _ => by kernel_rfl
  have htacpah3 : ∀ w : World, (Instr.typeAssert (.iface 126 (.agg #[.string t])) 88 114 true).run Tryd.prog w = .ok (.tuple #[.agg #[.int .i64 0], .bool false]) w := fun _ => by kernel_rfl
  have htacpah4 : ∀ w : World, (Instr.typeAssert (.iface 126 (.agg #[.string t])) 88 116 true).run Tryd.prog w = .ok (.tuple #[.agg #[.string ⟨#[]⟩], .bool false]) w := fun _ => by kernel_rfl
  have htacpah5 : ∀ w : World, (Instr.typeAssert (.iface 126 (.agg #[.string t])) 88 117 true).run Tryd.prog w = .ok (.tuple #[.agg #[.string ⟨#[]⟩], .bool false]) w := fun _ => by kernel_rfl
  have htacpah6 : ∀ w : World, (Instr.typeAssert (.iface 126 (.agg #[.string t])) 88 107 true).run Tryd.prog w = .ok (.tuple #[.agg #[.int .i64 0], .bool false]) w := fun _ => by kernel_rfl
  have htacpah7 : ∀ w : World, (Instr.typeAssert (.iface 126 (.agg #[.string t])) 88 108 true).run Tryd.prog w = .ok (.tuple #[.agg #[.int .i64 0], .bool false]) w := fun _ => by kernel_rfl
  have htacpah8 : ∀ w : World, (Instr.typeAssert (.iface 126 (.agg #[.string t])) 88 110 true).run Tryd.prog w = .ok (.tuple #[.agg #[.string ⟨#[]⟩, .bool false], .bool false]) w := fun _ => by kernel_rfl
  have htacpah9 : ∀ w : World, (Instr.typeAssert (.iface 126 (.agg #[.string t])) 88 124 true).run Tryd.prog w = .ok (.tuple #[.agg #[.string ⟨#[]⟩, .bool false], .bool false]) w := fun _ => by kernel_rfl
  have htacpah10 : ∀ w : World, (Instr.typeAssert (.iface 126 (.agg #[.string t])) 88 126 true).run Tryd.prog w = .ok (.tuple #[.agg #[.string t], .bool true]) w := fun _ => by kernel_rfl
  go_enter Tryd.func58, Tryd.ntmps58
  go_wp2_with fail
  refine wp_loop_rounds 3 ?_
  rw [rounds_succ]
  go_wp2_with fail
  rw [rounds_succ]
  go_wp2_with fail
  go_ret
  exact ⟨rfl, 0, rfl⟩
set_option maxRecDepth 100000 in
set_option maxHeartbeats 4000000 in
theorem val_cstage (s : ByteArray) (n : Nat) (v : Value) (rb g cap : Nat) (w : World) (hc : w.cell? ⟨rb, 0, none⟩ = some (.slice (some ⟨g, 0, none⟩) 1 cap)) (h0 : w.cell? ⟨g, 0, none⟩ = some (Rv.v (.cstage s n))) :
    Calls Tryd.prog 58 #[v, .pointer (some ⟨rb, 0, none⟩)] w (Fine w) := by
  unfold Rv.v refV reflogV checkoutV pathV stageV regV at h0
  have htacste0 : ∀ w : World, (Instr.typeAssert (.iface 128 (.agg #[.string s, .int .i64 n])) 88 105 true).run Tryd.prog w = .ok (.tuple #[.string ⟨#[]⟩, .bool false]) w := fun _ => by kernel_rfl
  have htacste1 : ∀ w : World, (Instr.typeAssert (.iface 128 (.agg #[.string s, .int .i64 n])) 88 121 true).run Tryd.prog w = .ok (.tuple #[.agg #[.int .i64 0, .int .i64 0, .int .i64 0], .bool false]) w := fun _ => by kernel_rfl
  have htacste2 : ∀ w : World, (Instr.typeAssert (.iface 128 (.agg #[.string s, .int .i64 n])) 88 113 true).run Tryd.prog w = .ok (.tuple #[.agg #[.int .i64 0], .bool false]) w := fun _ => by kernel_rfl
  have htacste3 : ∀ w : World, (Instr.typeAssert (.iface 128 (.agg #[.string s, .int .i64 n])) 88 114 true).run Tryd.prog w = .ok (.tuple #[.agg #[.int .i64 0], .bool false]) w := fun _ => by kernel_rfl
  have htacste4 : ∀ w : World, (Instr.typeAssert (.iface 128 (.agg #[.string s, .int .i64 n])) 88 116 true).run Tryd.prog w = .ok (.tuple #[.agg #[.string ⟨#[]⟩], .bool false]) w := fun _ => by kernel_rfl
  have htacste5 : ∀ w : World, (Instr.typeAssert (.iface 128 (.agg #[.string s, .int .i64 n])) 88 117 true).run Tryd.prog w = .ok (.tuple #[.agg #[.string ⟨#[]⟩], .bool false]) w := fun _ => by kernel_rfl
  have htacste6 : ∀ w : World, (Instr.typeAssert (.iface 128 (.agg #[.string s, .int .i64 n])) 88 107 true).run Tryd.prog w = .ok (.tuple #[.agg #[.int .i64 0], .bool false]) w := fun _ => by kernel_rfl
  have htacste7 : ∀ w : World, (Instr.typeAssert (.iface 128 (.agg #[.string s, .int .i64 n])) 88 108 true).run Tryd.prog w = .ok (.tuple #[.agg #[.int .i64 0], .bool false]) w := fun _ => by kernel_rfl
  have htacste8 : ∀ w : World, (Instr.typeAssert (.iface 128 (.agg #[.string s, .int .i64 n])) 88 110 true).run Tryd.prog w = .ok (.tuple #[.agg #[.string ⟨#[]⟩, .bool false], .bool false]) w := fun _ => by kernel_rfl
  have htacste9 : ∀ w : World, (Instr.typeAssert (.iface 128 (.agg #[.string s, .int .i64 n])) 88 124 true).run Tryd.prog w = .ok (.tuple #[.agg #[.string ⟨#[]⟩, .bool false], .bool false]) w := fun _ => by kernel_rfl
  have htacste10 : ∀ w : World, (Instr.typeAssert (.iface 128 (.agg #[.string s, .int .i64 n])) 88 126 true).run Tryd.prog w = .ok (.tuple #[.agg #[.string ⟨#[]⟩], .bool false]) w := fun _ => by kernel_rfl
  have htacste11 : ∀ w : World, (Instr.typeAssert (.iface 128 (.agg #[.string s, .int .i64 n])) 88 128 true).run Tryd.prog w = .ok (.tuple #[.agg #[.string s, .int .i64 n], .bool true]) w := fun _ => by kernel_rfl
  go_enter Tryd.func58, Tryd.ntmps58
  go_wp2_with fail
  refine wp_loop_rounds 3 ?_
  rw [rounds_succ]
  go_wp2_with fail
  go_ret
  exact ⟨rfl, 0, rfl⟩
set_option maxRecDepth 100000 in
set_option maxHeartbeats 4000000 in
theorem val_creg (s : ByteArray) (b : Bool) (v : Value) (rb g cap : Nat) (w : World) (hc : w.cell? ⟨rb, 0, none⟩ = some (.slice (some ⟨g, 0, none⟩) 1 cap)) (h0 : w.cell? ⟨g, 0, none⟩ = some (Rv.v (.creg s b))) :
    Calls Tryd.prog 58 #[v, .pointer (some ⟨rb, 0, none⟩)] w (Fine w) := by
  unfold Rv.v refV reflogV checkoutV pathV stageV regV at h0
  have htacreg0 : ∀ w : World, (Instr.typeAssert (.iface 124 (.agg #[.string s, .bool b])) 88 105 true).run Tryd.prog w = .ok (.tuple #[.string ⟨#[]⟩, .bool false]) w := fun _ => by kernel_rfl
  have htacreg1 : ∀ w : World, (Instr.typeAssert (.iface 124 (.agg #[.string s, .bool b])) 88 121 true).run Tryd.prog w = .ok (.tuple #[.agg #[.int .i64 0, .int .i64 0, .int .i64 0], .bool false]) w := fun _ => by kernel_rfl
  have htacreg2 : ∀ w : World, (Instr.typeAssert (.iface 124 (.agg #[.string s, .bool b])) 88 113 true).run Tryd.prog w = .ok (.tuple #[.agg #[.int .i64 0], .bool false]) w := fun _ => by kernel_rfl
  have htacreg3 : ∀ w : World, (Instr.typeAssert (.iface 124 (.agg #[.string s, .bool b])) 88 114 true).run Tryd.prog w = .ok (.tuple #[.agg #[.int .i64 0], .bool false]) w := fun _ => by kernel_rfl
  have htacreg4 : ∀ w : World, (Instr.typeAssert (.iface 124 (.agg #[.string s, .bool b])) 88 116 true).run Tryd.prog w = .ok (.tuple #[.agg #[.string ⟨#[]⟩], .bool false]) w := fun _ => by kernel_rfl
  have htacreg5 : ∀ w : World, (Instr.typeAssert (.iface 124 (.agg #[.string s, .bool b])) 88 117 true).run Tryd.prog w = .ok (.tuple #[.agg #[.string ⟨#[]⟩], .bool false]) w := fun _ => by kernel_rfl
  have htacreg6 : ∀ w : World, (Instr.typeAssert (.iface 124 (.agg #[.string s, .bool b])) 88 107 true).run Tryd.prog w = .ok (.tuple #[.agg #[.int .i64 0], .bool false]) w := fun _ => by kernel_rfl
  have htacreg7 : ∀ w : World, (Instr.typeAssert (.iface 124 (.agg #[.string s, .bool b])) 88 108 true).run Tryd.prog w = .ok (.tuple #[.agg #[.int .i64 0], .bool false]) w := fun _ => by kernel_rfl
  have htacreg8 : ∀ w : World, (Instr.typeAssert (.iface 124 (.agg #[.string s, .bool b])) 88 110 true).run Tryd.prog w = .ok (.tuple #[.agg #[.string ⟨#[]⟩, .bool false], .bool false]) w := fun _ => by kernel_rfl
  have htacreg9 : ∀ w : World, (Instr.typeAssert (.iface 124 (.agg #[.string s, .bool b])) 88 124 true).run Tryd.prog w = .ok (.tuple #[.agg #[.string s, .bool b], .bool true]) w := fun _ => by kernel_rfl
  go_enter Tryd.func58, Tryd.ntmps58
  go_wp2_with fail
  refine wp_loop_rounds 3 ?_
  rw [rounds_succ]
  go_wp2_with fail
  go_ret
  exact ⟨rfl, 0, rfl⟩
/-- the parts are a revision -/
theorem valid_calls (v : Value) (rb base : Nat) (rs : List Rv) (sl : Value) (w : World) (hg : Good rs) (hc : w.cell? ⟨rb, 0, none⟩ = some sl) (ho : w.ownsRow base 88 1 sl rs.length (rs.map Rv.v)) :
    Calls Tryd.prog 58 #[v, .pointer (some ⟨rb, 0, none⟩)] w (Fine w) := by
  have key : ∃ g cap, sl = .slice (some ⟨g, 0, none⟩) rs.length cap ∧ ∀ j u, (rs.map Rv.v)[j]? = some u → w.cell? ⟨g, j, none⟩ = some u := by
    rcases id ho with ⟨hl, ⟨h1, h2⟩ | ⟨b, c, cur, h1, _⟩⟩
    · exfalso
      cases hg <;> exact absurd h2 (by simp)
    · subst h1
      exact ⟨b, c, rfl, fun j u hu => by have := ho.cells (g := b) rfl j u hu; rwa [Lib.addr_add, Nat.zero_add] at this⟩
  obtain ⟨g, cap, rfl, hcell⟩ := key
  cases hg with
  | ref s => exact val_ref s v rb g cap w hc (hcell 0 _ rfl)
  | reflog s n => exact val_reflog s n v rb g cap w hc (hcell 0 _ rfl) (hcell 1 _ rfl)
  | checkout n => exact val_checkout n v rb g cap w hc (hcell 0 _ rfl)
  | cpath s t => exact val_cpath s t v rb g cap w hc (hcell 0 _ rfl) (hcell 1 _ rfl)
  | cstage s n => exact val_cstage s n v rb g cap w hc (hcell 0 _ rfl)
  | creg s b => exact val_creg s b v rb g cap w hc (hcell 0 _ rfl)
end Go.Proofs.YtojimnlnpghbiaaDoor.rev
