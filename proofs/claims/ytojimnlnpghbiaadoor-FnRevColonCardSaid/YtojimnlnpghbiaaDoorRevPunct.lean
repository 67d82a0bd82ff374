/- scanner.scan at the end and at each mark. Printed by gen_scan.py. -/
import Derived.Test.YtojimnlnpghbiaaDoorRevState
set_option linter.unusedVariables false
attribute [local go_sem ↓] Go.wp_at_zero Go.wp_at_succ
namespace Go.Proofs.YtojimnlnpghbiaaDoor.rev
open Go.RowKit Lib frm mem rd

/-- the scanner's block -/
def Sc (w : World) (S R : Nat) : Prop := w.cell? ⟨S, 0, none⟩ = some (.pointer (some ⟨R, 0, none⟩))
theorem neq_same (w : World) (p : Addr) : (binOp .neq 46 (.iface 202 (.pointer (some p))) (.iface 202 (.pointer (some p)))).run Tryd.prog w = .ok (.bool false) w := by
  obtain ⟨i, hi, hc⟩ : ∃ i, Tryd.prog.info? 202 = some i ∧ i.comparable = true := by
    have h : (Tryd.prog.info? 202).map (·.comparable) = some true := by kernel_rfl
    cases hh : Tryd.prog.info? 202 with
    | none => rw [hh] at h; cases h
    | some i => rw [hh] at h; exact ⟨i, rfl, by simpa using h⟩
  obtain ⟨j, hj⟩ : ∃ j, Tryd.prog.info? 204 = some j := by
    have h : (Tryd.prog.info? 204).map (·.size) = some 1 := by kernel_rfl
    cases hh : Tryd.prog.info? 204 with
    | none => rw [hh] at h; cases h
    | some i => exact ⟨i, rfl⟩
  simp only [binOp]
  simp [Op.equal, Op.maxDepth, run_equalIn_iface_ptr_same w 9998 p Tryd.underlying46 Tryd.underlying202 hi hc hj]
/-- a token, and what lies ahead -/
def Tok (p : Pl) (k : Nat) (s : ByteArray) (l : List UInt8) (w : World) (e : Ending) (w' : World) : Prop := e = .returned (.tuple #[.int .i64 k, .string s, .nilIface]) ∧ Rn p l w' ∧ Kept p.bs w w'
set_option maxRecDepth 100000 in
set_option maxHeartbeats 2000000 in
theorem scan_end (p : Pl) (S : Nat) (w : World) (he : Env p w) (hS : Sc w S p.R) (h : Rn p [] w) :
    Calls Tryd.prog 71 #[.pointer (some ⟨S, 0, none⟩)] w (Tok p 0 ⟨#[]⟩ [] w) := by
  have h0 : w.cell? ⟨S, 0, none⟩ = some (.pointer (some ⟨p.R, 0, none⟩)) := hS
  have c1 := hid (read_end p w he h)
  have HE := hid he
  clear hS h he
  go_enter Tryd.func71, Tryd.ntmps71
  go_wp2_with fail
  refine c1.out.mono ?_
  rintro e w1 ⟨rfl, hr, hk⟩
  have hv := (HE.out.kept hk).eof
  have hne := fun w => neq_same w p.pv
  have HR := hid hr
  have HK := hid hk
  clear hr hk c1
  go_wp2_with fail
  refine bodyPost_ret (by simp [results, Tryd.results71, go_sem]; rfl) rfl ?_
  exact ⟨rfl, HR.out, HK.out⟩
set_option maxRecDepth 100000 in
set_option maxHeartbeats 2000000 in
theorem scan_58 (p : Pl) (S : Nat) (t : List UInt8) (w : World) (he : Env p w) (hS : Sc w S p.R) (h : Fr p (58 :: t) w ∨ Rn p (58 :: t) w) :
    Calls Tryd.prog 71 #[.pointer (some ⟨S, 0, none⟩)] w (Tok p 6 ⟨#[58]⟩ t w) := by
  have h0 : w.cell? ⟨S, 0, none⟩ = some (.pointer (some ⟨p.R, 0, none⟩)) := hS
  have hcv : ∀ w : World, (convert 21 9 (.int .i32 58)).run Tryd.prog w = .ok (.string ⟨#[58]⟩) w := fun w => by kernel_rfl
  have c1 := hid (read_one p 58 t w he h (by decide))
  clear hS h he
  go_enter Tryd.func71, Tryd.ntmps71
  go_wp2_with fail
  refine c1.out.mono ?_
  rintro e w1 ⟨rfl, hr, hk⟩
  have HR := hid hr
  have HK := hid hk
  clear hr hk c1
  go_wp2_with fail
  refine bodyPost_ret (by simp [results, Tryd.results71, go_sem]; rfl) rfl ?_
  exact ⟨rfl, HR.out.run, HK.out⟩
set_option maxRecDepth 100000 in
set_option maxHeartbeats 2000000 in
theorem scan_126 (p : Pl) (S : Nat) (t : List UInt8) (w : World) (he : Env p w) (hS : Sc w S p.R) (h : Fr p (126 :: t) w ∨ Rn p (126 :: t) w) :
    Calls Tryd.prog 71 #[.pointer (some ⟨S, 0, none⟩)] w (Tok p 17 ⟨#[126]⟩ t w) := by
  have h0 : w.cell? ⟨S, 0, none⟩ = some (.pointer (some ⟨p.R, 0, none⟩)) := hS
  have hcv : ∀ w : World, (convert 21 9 (.int .i32 126)).run Tryd.prog w = .ok (.string ⟨#[126]⟩) w := fun w => by kernel_rfl
  have c1 := hid (read_one p 126 t w he h (by decide))
  clear hS h he
  go_enter Tryd.func71, Tryd.ntmps71
  go_wp2_with fail
  refine c1.out.mono ?_
  rintro e w1 ⟨rfl, hr, hk⟩
  have HR := hid hr
  have HK := hid hk
  clear hr hk c1
  go_wp2_with fail
  refine bodyPost_ret (by simp [results, Tryd.results71, go_sem]; rfl) rfl ?_
  exact ⟨rfl, HR.out.run, HK.out⟩
set_option maxRecDepth 100000 in
set_option maxHeartbeats 2000000 in
theorem scan_94 (p : Pl) (S : Nat) (t : List UInt8) (w : World) (he : Env p w) (hS : Sc w S p.R) (h : Fr p (94 :: t) w ∨ Rn p (94 :: t) w) :
    Calls Tryd.prog 71 #[.pointer (some ⟨S, 0, none⟩)] w (Tok p 4 ⟨#[94]⟩ t w) := by
  have h0 : w.cell? ⟨S, 0, none⟩ = some (.pointer (some ⟨p.R, 0, none⟩)) := hS
  have hcv : ∀ w : World, (convert 21 9 (.int .i32 94)).run Tryd.prog w = .ok (.string ⟨#[94]⟩) w := fun w => by kernel_rfl
  have c1 := hid (read_one p 94 t w he h (by decide))
  clear hS h he
  go_enter Tryd.func71, Tryd.ntmps71
  go_wp2_with fail
  refine c1.out.mono ?_
  rintro e w1 ⟨rfl, hr, hk⟩
  have HR := hid hr
  have HK := hid hk
  clear hr hk c1
  go_wp2_with fail
  refine bodyPost_ret (by simp [results, Tryd.results71, go_sem]; rfl) rfl ?_
  exact ⟨rfl, HR.out.run, HK.out⟩
set_option maxRecDepth 100000 in
set_option maxHeartbeats 2000000 in
theorem scan_47 (p : Pl) (S : Nat) (t : List UInt8) (w : World) (he : Env p w) (hS : Sc w S p.R) (h : Fr p (47 :: t) w ∨ Rn p (47 :: t) w) :
    Calls Tryd.prog 71 #[.pointer (some ⟨S, 0, none⟩)] w (Tok p 15 ⟨#[47]⟩ t w) := by
  have h0 : w.cell? ⟨S, 0, none⟩ = some (.pointer (some ⟨p.R, 0, none⟩)) := hS
  have hcv : ∀ w : World, (convert 21 9 (.int .i32 47)).run Tryd.prog w = .ok (.string ⟨#[47]⟩) w := fun w => by kernel_rfl
  have c1 := hid (read_one p 47 t w he h (by decide))
  clear hS h he
  go_enter Tryd.func71, Tryd.ntmps71
  go_wp2_with fail
  refine c1.out.mono ?_
  rintro e w1 ⟨rfl, hr, hk⟩
  have HR := hid hr
  have HK := hid hk
  clear hr hk c1
  go_wp2_with fail
  refine bodyPost_ret (by simp [results, Tryd.results71, go_sem]; rfl) rfl ?_
  exact ⟨rfl, HR.out.run, HK.out⟩
set_option maxRecDepth 100000 in
set_option maxHeartbeats 2000000 in
theorem scan_123 (p : Pl) (S : Nat) (t : List UInt8) (w : World) (he : Env p w) (hS : Sc w S p.R) (h : Fr p (123 :: t) w ∨ Rn p (123 :: t) w) :
    Calls Tryd.prog 71 #[.pointer (some ⟨S, 0, none⟩)] w (Tok p 12 ⟨#[123]⟩ t w) := by
  have h0 : w.cell? ⟨S, 0, none⟩ = some (.pointer (some ⟨p.R, 0, none⟩)) := hS
  have hcv : ∀ w : World, (convert 21 9 (.int .i32 123)).run Tryd.prog w = .ok (.string ⟨#[123]⟩) w := fun w => by kernel_rfl
  have c1 := hid (read_one p 123 t w he h (by decide))
  clear hS h he
  go_enter Tryd.func71, Tryd.ntmps71
  go_wp2_with fail
  refine c1.out.mono ?_
  rintro e w1 ⟨rfl, hr, hk⟩
  have HR := hid hr
  have HK := hid hk
  clear hr hk c1
  go_wp2_with fail
  refine bodyPost_ret (by simp [results, Tryd.results71, go_sem]; rfl) rfl ?_
  exact ⟨rfl, HR.out.run, HK.out⟩
set_option maxRecDepth 100000 in
set_option maxHeartbeats 2000000 in
theorem scan_125 (p : Pl) (S : Nat) (t : List UInt8) (w : World) (he : Env p w) (hS : Sc w S p.R) (h : Fr p (125 :: t) w ∨ Rn p (125 :: t) w) :
    Calls Tryd.prog 71 #[.pointer (some ⟨S, 0, none⟩)] w (Tok p 5 ⟨#[125]⟩ t w) := by
  have h0 : w.cell? ⟨S, 0, none⟩ = some (.pointer (some ⟨p.R, 0, none⟩)) := hS
  have hcv : ∀ w : World, (convert 21 9 (.int .i32 125)).run Tryd.prog w = .ok (.string ⟨#[125]⟩) w := fun w => by kernel_rfl
  have c1 := hid (read_one p 125 t w he h (by decide))
  clear hS h he
  go_enter Tryd.func71, Tryd.ntmps71
  go_wp2_with fail
  refine c1.out.mono ?_
  rintro e w1 ⟨rfl, hr, hk⟩
  have HR := hid hr
  have HK := hid hk
  clear hr hk c1
  go_wp2_with fail
  refine bodyPost_ret (by simp [results, Tryd.results71, go_sem]; rfl) rfl ?_
  exact ⟨rfl, HR.out.run, HK.out⟩
set_option maxRecDepth 100000 in
set_option maxHeartbeats 2000000 in
theorem scan_45 (p : Pl) (S : Nat) (t : List UInt8) (w : World) (he : Env p w) (hS : Sc w S p.R) (h : Fr p (45 :: t) w ∨ Rn p (45 :: t) w) :
    Calls Tryd.prog 71 #[.pointer (some ⟨S, 0, none⟩)] w (Tok p 10 ⟨#[45]⟩ t w) := by
  have h0 : w.cell? ⟨S, 0, none⟩ = some (.pointer (some ⟨p.R, 0, none⟩)) := hS
  have hcv : ∀ w : World, (convert 21 9 (.int .i32 45)).run Tryd.prog w = .ok (.string ⟨#[45]⟩) w := fun w => by kernel_rfl
  have c1 := hid (read_one p 45 t w he h (by decide))
  clear hS h he
  go_enter Tryd.func71, Tryd.ntmps71
  go_wp2_with fail
  refine c1.out.mono ?_
  rintro e w1 ⟨rfl, hr, hk⟩
  have HR := hid hr
  have HK := hid hk
  clear hr hk c1
  go_wp2_with fail
  refine bodyPost_ret (by simp [results, Tryd.results71, go_sem]; rfl) rfl ?_
  exact ⟨rfl, HR.out.run, HK.out⟩
set_option maxRecDepth 100000 in
set_option maxHeartbeats 2000000 in
theorem scan_64 (p : Pl) (S : Nat) (t : List UInt8) (w : World) (he : Env p w) (hS : Sc w S p.R) (h : Fr p (64 :: t) w ∨ Rn p (64 :: t) w) :
    Calls Tryd.prog 71 #[.pointer (some ⟨S, 0, none⟩)] w (Tok p 3 ⟨#[64]⟩ t w) := by
  have h0 : w.cell? ⟨S, 0, none⟩ = some (.pointer (some ⟨p.R, 0, none⟩)) := hS
  have hcv : ∀ w : World, (convert 21 9 (.int .i32 64)).run Tryd.prog w = .ok (.string ⟨#[64]⟩) w := fun w => by kernel_rfl
  have c1 := hid (read_one p 64 t w he h (by decide))
  clear hS h he
  go_enter Tryd.func71, Tryd.ntmps71
  go_wp2_with fail
  refine c1.out.mono ?_
  rintro e w1 ⟨rfl, hr, hk⟩
  have HR := hid hr
  have HK := hid hk
  clear hr hk c1
  go_wp2_with fail
  refine bodyPost_ret (by simp [results, Tryd.results71, go_sem]; rfl) rfl ?_
  exact ⟨rfl, HR.out.run, HK.out⟩
set_option maxRecDepth 100000 in
set_option maxHeartbeats 2000000 in
theorem scan_33 (p : Pl) (S : Nat) (t : List UInt8) (w : World) (he : Env p w) (hS : Sc w S p.R) (h : Fr p (33 :: t) w ∨ Rn p (33 :: t) w) :
    Calls Tryd.prog 71 #[.pointer (some ⟨S, 0, none⟩)] w (Tok p 9 ⟨#[33]⟩ t w) := by
  have h0 : w.cell? ⟨S, 0, none⟩ = some (.pointer (some ⟨p.R, 0, none⟩)) := hS
  have hcv : ∀ w : World, (convert 21 9 (.int .i32 33)).run Tryd.prog w = .ok (.string ⟨#[33]⟩) w := fun w => by kernel_rfl
  have c1 := hid (read_one p 33 t w he h (by decide))
  clear hS h he
  go_enter Tryd.func71, Tryd.ntmps71
  go_wp2_with fail
  refine c1.out.mono ?_
  rintro e w1 ⟨rfl, hr, hk⟩
  have HR := hid hr
  have HK := hid hk
  clear hr hk c1
  go_wp2_with fail
  refine bodyPost_ret (by simp [results, Tryd.results71, go_sem]; rfl) rfl ?_
  exact ⟨rfl, HR.out.run, HK.out⟩
end Go.Proofs.YtojimnlnpghbiaaDoor.rev
