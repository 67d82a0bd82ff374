/- Packet lines as they are read: digits, the head of a line. -/
import Derived.Test.YtoihglnamclhfaaDoorRd
import Derived.Test.YtoihglnamclhfaaDoorPktPure
set_option linter.unusedVariables false
attribute [local go_sem ↓] Go.wp_at_zero Go.wp_at_succ
namespace Go.Proofs.YtoihglnamclhfaaDoor.pkt
open Go.RowKit Lib frm mem rd text

def Digit (w : World) (k : Nat) (e : Ending) (w' : World) : Prop := e = .returned (.tuple #[.int .u8 k, .nilIface]) ∧ w' = w
set_option maxRecDepth 100000 in
theorem digit_calls (k : Nat) (w : World) (h : k < 16) : Calls Tryd.prog 138 #[.int .u8 (hexd k).toNat] w (Digit w k) := by
  rw [hexd_toNat k h]
  by_cases h10 : k < 10
  · rw [if_pos h10]
    have e1 : (48 : Int) ≤ ((48 + k : Nat) : Int) := by omega
    have e2 : ((48 + k : Nat) : Int) ≤ 57 := by omega
    have e3 : IntKind.u8.wrap (((48 + k : Nat) : Int) - 48) = (k : Int) := by unfold IntKind.wrap; simp [IntKind.signed, IntKind.bits]; omega
    generalize hc : ((48 + k : Nat) : Int) = c at e1 e2 e3 ⊢
    clear hc h h10
    go_enter Tryd.func138, Tryd.ntmps138
    go_wp2_with fail
    go_ret2
    exact ⟨rfl, rfl⟩
  · rw [if_neg h10]
    have e1 : (48 : Int) ≤ ((87 + k : Nat) : Int) := by omega
    have e2 : ¬ ((87 + k : Nat) : Int) ≤ 57 := by omega
    have e4 : (97 : Int) ≤ ((87 + k : Nat) : Int) := by omega
    have e5 : ((87 + k : Nat) : Int) ≤ 102 := by omega
    have e3 : ((87 + k : Nat) : Int) - 97 + 10 = (k : Int) := by omega
    generalize hc : ((87 + k : Nat) : Int) = c at e1 e2 e3 e4 e5 ⊢
    have E3 := hid e3
    clear hc h h10 e3
    go_enter Tryd.func138, Tryd.ntmps138
    go_wp2_with fail
    go_ret2
    refine ⟨?_, rfl⟩
    rw [← E3.out]
    rfl
/-- what four digits say -/
def Number (w : World) (n : Nat) (e : Ending) (w' : World) : Prop := e = .returned (.tuple #[.int .i64 n, .nilIface]) ∧ Kept [] w w'
set_option maxRecDepth 100000 in
set_option maxHeartbeats 1000000 in
theorem hexDecode_calls (a b c d : Nat) (w : World) (ha : a < 16) (hb : b < 16) (hc : c < 16) (hd : d < 16) :
    Calls Tryd.prog 121 #[.agg #[.int .u8 (hexd a).toNat, .int .u8 (hexd b).toNat, .int .u8 (hexd c).toNat, .int .u8 (hexd d).toNat]] w (Number w (a * 4096 + b * 256 + c * 16 + d)) := by
  have c0 := hid (fun w => digit_calls a w ha)
  have c1 := hid (fun w => digit_calls b w hb)
  have c2 := hid (fun w => digit_calls c w hc)
  have c3 := hid (fun w => digit_calls d w hd)
  have ha' : (a : Int) < 16 := by omega
  have hb' : (b : Int) < 16 := by omega
  have hc' : (c : Int) < 16 := by omega
  have hd' : (d : Int) < 16 := by omega
  have HK := hid (fun o => (Kept.refl [] w).alloc o)
  clear ha hb hc hd
  generalize hexd a = xa at *
  generalize hexd b = xb at *
  generalize hexd c = xc at *
  generalize hexd d = xd at *
  go_enter Tryd.func121, Tryd.ntmps121
  go_wp2_with fail
  refine wp_loop_rounds 5 ?_
  rw [rounds_succ]
  go_wp2_with fail
  refine (c0.out _).mono ?_
  rintro e x ⟨rfl, rfl⟩
  go_wp2_with fail
  rw [rounds_succ]
  go_wp2_with fail
  refine (c1.out _).mono ?_
  rintro e x ⟨rfl, rfl⟩
  go_wp2_with fail
  rw [rounds_succ]
  go_wp2_with fail
  refine (c2.out _).mono ?_
  rintro e x ⟨rfl, rfl⟩
  go_wp2_with fail
  rw [rounds_succ]
  go_wp2_with fail
  refine (c3.out _).mono ?_
  rintro e x ⟨rfl, rfl⟩
  go_wp2_with fail
  rw [rounds_succ]
  go_wp2_with fail
  go_ret2
  refine ⟨?_, HK.out _⟩
  rw [show ((a * 4096 + b * 256 + c * 16 + d : Nat) : Int) = 16 * (16 * (16 * (a : Int) + b) + c) + d by omega]
  rfl
/-- a Scanner in block S, over the Reader in block R -/
def Sc (w : World) (S R : Nat) (ev pv : Value) : Prop := ∃ x0 x1 x2 x3, Blk w S 162 #[.iface 91 (.pointer (some ⟨R, 0, none⟩)), ev, pv, x0, x1, x2, x3]
theorem Sc.kept {w w' : World} {S R : Nat} {ev pv : Value} {K : List Nat} (h : Sc w S R ev pv) (hk : Kept K w w') (hn : S ∉ K) : Sc w' S R ev pv := by
  obtain ⟨x0, x1, x2, x3, h⟩ := h; exact ⟨x0, x1, x2, x3, h.kept hk hn⟩
theorem Sc.lt {w : World} {S R : Nat} {ev pv : Value} (h : Sc w S R ev pv) : S < w.heap.size := by obtain ⟨x0, x1, x2, x3, h⟩ := h; exact h.lt
/-- the head of a line has been read: q bytes are to come -/
def Head (w : World) (S R : Nat) (ev pv : Value) (A : Option Addr) (n c i q : Nat) (e : Ending) (w' : World) : Prop :=
  e = .returned (.tuple #[.int .i64 q, .nilIface]) ∧ Sc w' S R ev pv ∧ Rd w' R A n c (i + 4) ∧ Kept [R, S] w w'
/-- nothing is there any more -/
def NoHead (w : World) (v : Value) (e : Ending) (w' : World) : Prop := e = .returned (.tuple #[.int .i64 0, v]) ∧ Kept [] w w'
set_option maxRecDepth 100000 in
set_option maxHeartbeats 2000000 in
theorem head_end (S R : Nat) (ev pv : Value) (A : Option Addr) (n c i : Nat) (p pu : Addr) (w : World) (hS : Sc w S R ev pv) (hR : Rd w R A n c i) (hi : n ≤ i) (hn : i ≤ 140737488355328) (hE : Eof w (.iface 246 (.pointer (some p)))) (hg : 2 < w.heap.size)
    (hU : w.cell? ⟨7, 0, none⟩ = some (.iface 246 (.pointer (some pu)))) (hUg : 7 < w.heap.size)
    (hne : ∀ w', Kept [] w w' → (binOp .eql 58 (.iface 246 (.pointer (some p))) (.iface 246 (.pointer (some pu)))).run Tryd.prog w' = .ok (.bool false) w') :
    Calls Tryd.prog 92 #[.pointer (some ⟨S, 0, none⟩)] w (NoHead w (.iface 246 (.pointer (some p)))) := by
  have c1 := hid (fun (w' : World) (h : Kept [] w w') D dc => full_end R A D n c i 4 (dc + 4) p w' (hR.kept h (by simp)) hi (by omega) hn (by omega) (by omega) ⟨(h.cell (p := ⟨2, 0, none⟩) hg (by simp)).trans hE.1, hE.2⟩ (Nat.lt_of_lt_of_le hg h.size))
  obtain ⟨x0, x1, x2, x3, hb⟩ := hS
  have h0 : w.drew.cell? ⟨S, 0, none⟩ = some (.iface 91 (.pointer (some ⟨R, 0, none⟩))) := hb.cell 0 rfl
  have H0 := hid h0
  have HU := hid (fun (w' : World) (h : Kept [] w w') => (h.cell (p := ⟨7, 0, none⟩) hUg (by simp)).trans hU)
  have HB := hid (fun (w' : World) (h : Kept [] w w') => (h.cell (p := ⟨S, 0, none⟩) hb.lt (by simp)).trans h0)
  have HN := hid hne
  clear hR hi hn hE hg hU hUg hb h0 hne
  go_enter Tryd.func92, Tryd.ntmps92
  go_wp2_with fail
  go_region_held3 (fun w' => w'.cell? ⟨S, 0, none⟩ = some (.iface 91 (.pointer (some ⟨R, 0, none⟩))))
    (exact H0.out)
    ((go_at_call 93; refine (c1.out _ ((Kept.refl _ _).drew) _ 0).mono ?_; rintro e y1 ⟨rfl, h3⟩; have H3 := hid ((Kept.refl [] w).drew.trans_ h3); have H0 := hid (HB.out _ H3.out); clear h3))
  all_goals
    have q1 := HU.out _ H3.out
    have q2 := HN.out _ H3.out
    go_wp2_with fail
    go_ret2
    exact ⟨rfl, H3.out⟩
set_option maxRecDepth 100000 in
set_option maxHeartbeats 4000000 in
theorem head_line (B S R : Nat) (ev pv : Value) (A : Option Addr) (n c i q : Nat) (l : List UInt8) (w : World) (hS : Sc w S R ev pv) (hR : Rd w R A n c i) (hi : i + 4 ≤ n) (hn : n ≤ 140737488355328) (hnc : n ≤ c) (hl : Bytes w B A n l) (hBR : B ≤ R) (hBS : B ≤ S) (hRS : R ≠ S)
    (hq : (l.drop i).take 4 = hex4 q) (hq1 : q = 0 ∨ (4 < q ∧ q ≤ 65524)) :
    Calls Tryd.prog 92 #[.pointer (some ⟨S, 0, none⟩)] w (Head w S R ev pv A n c i (q - 4)) := by
  obtain ⟨x0, x1, x2, x3, hb⟩ := hS
  have hb' : Blk w.drew S 162 ([.iface 91 (.pointer (some ⟨R, 0, none⟩)), ev, pv, x0, x1, x2, x3] : List Value).toArray := hb
  have c1 := hid (full_all B R A n c i l S 3 4 4 162 _ w.drew hR hi (by omega) hn hnc (by omega) hl hBR hBS hRS hb' (by simp))
  rw [hq] at c1
  have c2 := hid (fun w => hexDecode_calls (q / 4096 % 16) (q / 256 % 16) (q / 16 % 16) (q % 16) w (by omega) (by omega) (by omega) (by omega))
  have hv : q / 4096 % 16 * 4096 + q / 256 % 16 * 256 + q / 16 % 16 * 16 + q % 16 = q := hex4_val q (by omega)
  rw [hv] at c2
  have h0 : w.drew.cell? ⟨S, 0, none⟩ = some (.iface 91 (.pointer (some ⟨R, 0, none⟩))) := hb.cell 0 rfl
  have H0 := hid h0
  have hsp : splice ([.iface 91 (.pointer (some ⟨R, 0, none⟩)), ev, pv, x0, x1, x2, x3] : List Value) 3 (byteCells (hex4 q)) = [.iface 91 (.pointer (some ⟨R, 0, none⟩)), ev, pv, .int .u8 (hexd (q / 4096 % 16)).toNat, .int .u8 (hexd (q / 256 % 16)).toNat, .int .u8 (hexd (q / 16 % 16)).toNat, .int .u8 (hexd (q % 16)).toNat] := rfl
  rw [hsp] at c1
  have HQ1 := hid hq1
  generalize hexd (q / 4096 % 16) = a0 at *
  generalize hexd (q / 256 % 16) = a1 at *
  generalize hexd (q / 16 % 16) = a2 at *
  generalize hexd (q % 16) = a3 at *
  clear hR hi hn hnc hl hq hb h0 hb' hsp hv hq1
  go_enter Tryd.func92, Tryd.ntmps92
  go_wp2_with fail
  go_region_held3 (fun w' => w'.cell? ⟨S, 0, none⟩ = some (.iface 91 (.pointer (some ⟨R, 0, none⟩))))
    (exact H0.out)
    ((go_at_call 93; refine c1.out.mono ?_; rintro e y1 ⟨rfl, h1, h2, h3⟩; have H1 := hid h1; have H2 := hid h2; have H3 := hid ((Kept.refl [R, S] w).drew.trans_ h3); have H0 := hid (show y1.cell? ⟨S, 0, none⟩ = some (.iface 91 (.pointer (some ⟨R, 0, none⟩))) from h2.cell 0 rfl); clear h1 h2 h3))
  all_goals
    have k3 : y1.cell? ⟨S, 3, none⟩ = some (.int .u8 a0.toNat) := H2.out.cell 3 rfl
    have k4 : y1.cell? ⟨S, 4, none⟩ = some (.int .u8 a1.toNat) := H2.out.cell 4 rfl
    have k5 : y1.cell? ⟨S, 5, none⟩ = some (.int .u8 a2.toNat) := H2.out.cell 5 rfl
    have k6 : y1.cell? ⟨S, 6, none⟩ = some (.int .u8 a3.toNat) := H2.out.cell 6 rfl
    go_wp2_with fail
    refine (c2.out _).mono ?_
    rintro e y2 ⟨rfl, h3⟩
    have H4 := hid h3
    clear h3 k3 k4 k5 k6
    rcases HQ1.out with h | h
    · subst h
      go_wp2_with fail
      go_ret2
      exact ⟨rfl, ⟨_, _, _, _, H2.out.kept H4.out (by simp)⟩, H1.out.kept H4.out (by simp), H3.out.trans H4.out (by simp)⟩
    · obtain ⟨q', rfl⟩ : ∃ q', q = q' + 5 := ⟨q - 5, by omega⟩
      have e1 : ¬ ((q' + 5 : Nat) : Int) = 0 := by omega
      have e2 : ¬ ((q' + 5 : Nat) : Int) ≤ 4 := by omega
      have e3 : ¬ (65524 : Int) < ((q' + 5 : Nat) : Int) := by omega
      have e4 : ((q' + 5 : Nat) : Int) - 4 = ((q' + 5 - 4 : Nat) : Int) := by omega
      have E4 := hid e4
      clear h e4
      generalize hz : ((q' + 5 : Nat) : Int) = z at *
      have HZ := hid hz
      clear hz
      go_wp2_with fail
      go_ret2
      refine ⟨?_, ⟨_, _, _, _, H2.out.kept H4.out (by simp)⟩, H1.out.kept H4.out (by simp), H3.out.trans H4.out (by simp)⟩
      rw [← E4.out]
      rfl
end Go.Proofs.YtoihglnamclhfaaDoor.pkt
