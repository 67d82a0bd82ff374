/- bytes.Buffer.Bytes of an exact buffer. -/
import Derived.Test.YtkjfndkcagkhaaaDoorSdDemux
set_option linter.unusedVariables false
attribute [local go_sem ↓] Go.wp_at_zero Go.wp_at_succ
namespace Go.Proofs.YtkjfndkcagkhaaaDoor.side
open Go.RowKit Lib frm mem text pkt rd

set_option maxRecDepth 100000 in
theorem bufBytes_calls (b : Nat) (v : Value) (l : List UInt8) (w : World) (h : Bx w b v l) : Calls Tryd.prog 31 #[.pointer (some ⟨b, 0, none⟩)] w fun e w' => e = .returned v ∧ ∃ k, w' = w.drewN k := by
  obtain ⟨lr, hb, ho⟩ := h
  obtain ⟨A, c, rfl, _⟩ := row_some ho
  have k0 : w.cell? ⟨b, 0, none⟩ = some (.slice A l.length c) := hb.cell 0 rfl
  have k1 : w.cell? ⟨b, 1, none⟩ = some (.int .i64 0) := hb.cell 1 rfl
  have hz := slice_zero .i64 A l.length c
  clear hb ho
  go_enter Tryd.func31, Tryd.ntmps31
  go_wp2_with fail
  go_quiet (fail)
  go_wp2_with fail
  refine bodyPost_ret (by simp [results, Tryd.results31, go_sem]; rfl) rfl ?_
  exact ⟨rfl, _, rfl⟩
end Go.Proofs.YtkjfndkcagkhaaaDoor.side
