/- Times and zones, and the signature made of someone: what they compute. -/
import Derived.Test.YtmhcbgmnhcfhfaaDoorWhoText
import Derived.Deep.RegionHeld3
import Derived.Deep.DrawnRows
set_option linter.unusedVariables false
namespace Go.Proofs.YtmhcbgmnhcfhfaaDoor.who
open Go.RowKit Lib text

def Gives (w : World) (v : Value) (e : Ending) (w' : World) : Prop := e = .returned v ∧ Below w.heap.size w w'
theorem below_more {a b c : World} (h : Below a.heap.size a b) (k : Below b.heap.size b c) : Below a.heap.size a c :=
  h.trans ⟨k.os, k.tape, k.output, k.size, fun i hi => k.block i (Nat.lt_of_lt_of_le hi h.size)⟩
theorem below_alloc (w : World) (o : Obj) : Below w.heap.size w (w.alloc o) := (Below.refl _ _).alloc (Nat.le_refl _) o
set_option maxRecDepth 100000 in
theorem unix_calls (t : Int) (w : World) (h0 : 0 ≤ t) (h1 : t < 1099511627776) :
    Calls Tryd.prog 30 #[.int .i64 t, .int .i64 0] w (Gives w (.agg #[.int .i64 (t + 62135596800), .int .i64 0, .int .i64 0])) := by
  have hb := hid (below_alloc w)
  go_enter Tryd.func30, Tryd.ntmps30
  go_wp2_with fail
  exact bodyPost_ret (v := .agg #[.int .i64 (t + 62135596800), .int .i64 0, .int .i64 0]) (by simp [results, Tryd.results30, go_sem]) rfl ⟨rfl, hb.out _⟩
set_option maxRecDepth 100000 in
theorem fixedZone_calls (n : ByteArray) (z : Int) (w : World) :
    Calls Tryd.prog 32 #[.string n, .int .i64 z] w (Gives w (.agg #[.int .i64 z])) := by
  have hb := hid (below_alloc w)
  go_enter Tryd.func32, Tryd.ntmps32
  go_wp2_with fail
  exact bodyPost_ret (v := .agg #[.int .i64 z]) (by simp [results, Tryd.results32, go_sem]) rfl ⟨rfl, hb.out _⟩
set_option maxRecDepth 100000 in
theorem in_calls (s n z0 z : Int) (w : World) :
    Calls Tryd.prog 31 #[.agg #[.int .i64 s, .int .i64 n, .int .i64 z0], .agg #[.int .i64 z]] w (Gives w (.agg #[.int .i64 s, .int .i64 n, .int .i64 z])) := by
  have hb := hid (fun a b c => below_more (below_more (below_alloc w a) (below_alloc _ b)) (below_alloc _ c))
  go_enter Tryd.func31, Tryd.ntmps31
  go_wp2_with fail
  exact bodyPost_ret (v := .agg #[.int .i64 s, .int .i64 n, .int .i64 z]) (by simp [results, Tryd.results31, go_sem]) rfl ⟨rfl, hb.out _ _ _⟩
set_option maxRecDepth 100000 in
theorem timeUnix_calls (t n z : Int) (w : World) (h0 : 0 ≤ t) (h1 : t < 1099511627776) :
    Calls Tryd.prog 48 #[.agg #[.int .i64 (t + 62135596800), .int .i64 n, .int .i64 z]] w (Gives w (.int .i64 t)) := by
  have hb := hid (below_alloc w)
  have e1 : IntKind.i64.wrap (t + 62135596800 - 62135596800) = t := by rw [IntWalk.i64_in _ (by omega)]; omega
  go_enter Tryd.func48, Tryd.ntmps48
  go_wp2_with fail
  go_ret
  exact ⟨by trace_state; simp, hb.out _⟩
end Go.Proofs.YtmhcbgmnhcfhfaaDoor.who
