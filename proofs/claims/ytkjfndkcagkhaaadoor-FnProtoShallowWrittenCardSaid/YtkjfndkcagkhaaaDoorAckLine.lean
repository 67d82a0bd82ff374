/- The line of an ACK: bytes in it. -/
import Derived.Test.YtkjfndkcagkhaaaDoorAckScan
set_option linter.unusedVariables false
attribute [local go_sem ↓] Go.wp_at_zero Go.wp_at_succ
namespace Go.Proofs.YtkjfndkcagkhaaaDoor.ack
open Go.RowKit Lib frm mem rd pkt

def Made3 (w : World) (l : List UInt8) (e : Ending) (w' : World) : Prop := ∃ g, e = .returned (.slice (some ⟨g, 0, none⟩) 3 3) ∧ Bytes w' w'.heap.size (some ⟨g, 0, none⟩) 3 l ∧ Kept [] w w'
set_option maxRecDepth 100000 in
theorem ack_calls (w : World) : Calls Tryd.prog 106 #[] w (Made3 w [65, 67, 75]) := by
  have kc := fun (w : World) (C : Array Value) (n c : Nat) => Lib.run_convert_bytes_const (P := Tryd.prog) w 25 5 C n c Tryd.underlying25 Tryd.underlying5
  go_enter Tryd.func106, Tryd.ntmps106
  go_wp2_with fail
  go_ret
  refine ⟨_, rfl, ⟨⟨rfl, fun _ => ⟨_, rfl, by simp, fun j u hu => ?_⟩⟩, fun _ => ⟨_, _, rfl⟩⟩, (Kept.refl [] w).alloc _⟩
  rw [Lib.addr_add, Nat.zero_add, Lib.cell_of_heap (heap_alloc_new w _) j]
  match j, hu with
  | 0, hu => exact hu
  | 1, hu => exact hu
  | 2, hu => exact hu
set_option maxRecDepth 100000 in
theorem equal_true {B B' : Nat} {A D : Option Addr} {n c m d : Nat} {a : List UInt8} (w : World) (h1 : Bytes w B A n a) (h2 : Bytes w B' D m a) :
    Calls Tryd.prog 97 #[.slice A n c, .slice D m d] w fun e w' => e = .returned (.bool true) ∧ w' = w := by
  have k1 := text_of_bytes (c := c) h1
  have k2 := text_of_bytes (c := d) h2
  obtain ⟨x, hx⟩ : ∃ x : ByteArray, x = ⟨a.toArray⟩ := ⟨_, rfl⟩
  rw [← hx] at k1 k2
  clear hx h1 h2
  go_enter Tryd.func97, Tryd.ntmps97
  go_wp2_with fail
  go_ret
  exact ⟨rfl, rfl⟩
/-- one byte of a slice, as a text -/
theorem at_one (A : Option Addr) (n c i : Nat) (hi : i < n) (hc : n ≤ c) : ∃ A', (∀ w B l, Bytes w B A n l → (convert 25 9 (.slice A' 1 (c - i))).run Tryd.prog w = .ok (.string ⟨#[l.getD i 0]⟩) w) ∧
    (∀ w, (Instr.sliceAt 25 (.slice A n c) (some (.int .i64 i)) (some (.int .i64 (i + 1 : Nat))) none).run Tryd.prog w = .ok (.slice A' 1 (c - i)) w) := by
  obtain ⟨A', h1, h2⟩ := slice_mid .i64 .i64 A n c i (i + 1) (by omega) (by omega) hc
  rw [show i + 1 - i = 1 by omega] at h1 h2
  refine ⟨A', fun w B l h => ?_, h2⟩
  have hb := h1 w B l h
  have := text_of_bytes (c := c - i) hb
  have hl := h.len
  have e : (l.drop i).take 1 = [l.getD i 0] := by
    have hil : i < l.length := by omega
    rw [List.drop_eq_getElem_cons hil]
    simp [List.take, hil, List.getD]
  rw [e] at this
  exact this
set_option maxRecDepth 100000 in
set_option maxHeartbeats 2000000 in
theorem blank_calls (B g : Nat) (A : Option Addr) (n c : Nat) (l : List UInt8) (w : World) (h : Bytes w B A n l) (hn : 4 ≤ n) (hnc : n ≤ c) (hn1 : n ≤ 4096) (h0 : l.getD 0 0 = 65) (h1 : l.getD 1 0 = 67) (h2 : l.getD 2 0 = 75) (h3 : l.getD 3 0 = 32)
    (hg : Bytes w w.heap.size (some ⟨g, 0, none⟩) 1 [32]) : Calls Tryd.prog 124 #[.slice A n c, .slice (some ⟨g, 0, none⟩) 1 1] w fun e w' => e = .returned (.int .i64 3) ∧ Kept [] w w' := by
  obtain ⟨A0, c0, s0⟩ := at_one A n c 0 (by omega) hnc
  obtain ⟨A1, c1, s1⟩ := at_one A n c 1 (by omega) hnc
  obtain ⟨A2, c2, s2⟩ := at_one A n c 2 (by omega) hnc
  obtain ⟨A3, c3, s3⟩ := at_one A n c 3 (by omega) hnc
  have hb : ∀ k, Bytes (w.drewN k) B A n l := fun k => ⟨h.1.drewN k, h.2⟩
  have k0 := fun k => c0 (w.drewN k) B l (hb k)
  have k1 := fun k => c1 (w.drewN k) B l (hb k)
  have k2 := fun k => c2 (w.drewN k) B l (hb k)
  have k3 := fun k => c3 (w.drewN k) B l (hb k)
  have kg := fun k => text_of_bytes (c := 1) (show Bytes (w.drewN k) w.heap.size (some ⟨g, 0, none⟩) 1 [32] from ⟨hg.1.drewN k, hg.2⟩)
  rw [h0] at k0; rw [h1] at k1; rw [h2] at k2; rw [h3] at k3
  have t0 : ∀ w, (Instr.sliceAt 25 (.slice A n c) (some (.int .i64 0)) (some (.int .i64 1)) none).run Tryd.prog w = .ok (.slice A0 1 c) w := s0
  have t1 : ∀ w, (Instr.sliceAt 25 (.slice A n c) (some (.int .i64 1)) (some (.int .i64 2)) none).run Tryd.prog w = .ok (.slice A1 1 (c - 1)) w := s1
  have t2 : ∀ w, (Instr.sliceAt 25 (.slice A n c) (some (.int .i64 2)) (some (.int .i64 3)) none).run Tryd.prog w = .ok (.slice A2 1 (c - 2)) w := s2
  have t3 : ∀ w, (Instr.sliceAt 25 (.slice A n c) (some (.int .i64 3)) (some (.int .i64 4)) none).run Tryd.prog w = .ok (.slice A3 1 (c - 3)) w := s3
  have k0' : ∀ k, (convert 25 9 (.slice A0 1 c)).run Tryd.prog (w.drewN k) = .ok (.string ⟨#[65]⟩) (w.drewN k) := k0
  have r0 : (1 : Int) ≤ (n : Int) := by omega
  have r1 : (2 : Int) ≤ (n : Int) := by omega
  have r2 : (3 : Int) ≤ (n : Int) := by omega
  have r3 : (4 : Int) ≤ (n : Int) := by omega
  clear c0 c1 c2 c3 s0 s1 s2 s3 hb h h0 h1 h2 h3 hg k0 hn hnc hn1
  go_enter Tryd.func124, Tryd.ntmps124
  go_wp2_with fail
  refine wp_loop_rounds 4 ?_
  rw [rounds_succ]
  go_wp2_with fail
  go_quiet (fail)
  go_wp2_with fail
  rw [rounds_succ]
  go_wp2_with fail
  go_quiet (fail)
  go_wp2_with fail
  rw [rounds_succ]
  go_wp2_with fail
  go_quiet (fail)
  go_wp2_with fail
  rw [rounds_succ]
  go_wp2_with fail
  go_quiet (fail)
  go_wp2_with fail
  go_ret
  exact ⟨rfl, ((Kept.refl [] w).drewN _).drewN _⟩
end Go.Proofs.YtkjfndkcagkhaaaDoor.ack
