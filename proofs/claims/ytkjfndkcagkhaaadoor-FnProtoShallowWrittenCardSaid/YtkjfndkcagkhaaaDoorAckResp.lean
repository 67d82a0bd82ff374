/- ServerResponse.Decode of one ACK. -/
import Derived.Test.YtkjfndkcagkhaaaDoorAckDec
set_option linter.unusedVariables false
attribute [local go_sem ↓] Go.wp_at_zero Go.wp_at_succ
namespace Go.Proofs.YtkjfndkcagkhaaaDoor.ack
open Go.RowKit Lib frm mem rd pkt hash

set_option maxRecDepth 100000 in
set_option maxHeartbeats 4000000 in
theorem decLine_calls (B X : Nat) (A : Option Addr) (c : Nat) (s : ByteArray) (w : World) (hX : Blk w X Sty #[.slice none 0 0]) (hl : Bytes w B A 45 (ackText s)) (hB : B ≤ w.heap.size) (hc : 45 ≤ c) (hs : Hex40 s)
    (ev : Value) (hE : w.cell? ⟨12, 0, none⟩ = some ev) (hlt : 12 < w.heap.size) :
    Calls Tryd.prog 81 #[.pointer (some ⟨X, 0, none⟩), .slice A 45 c] w (AckDone w X s) := by
  obtain ⟨A3, hA3, hsl⟩ := slice_mid .i64 .i64 A 45 c 0 3 (by omega) (by omega) hc
  have hsl' : ∀ w, (Instr.sliceAt 25 (.slice A 45 c) (some (.int .i64 0)) (some (.int .i64 3)) none).run Tryd.prog w = .ok (.slice A3 3 c) w := hsl
  have c1 := hid (fun (w' : World) => ack_calls w')
  have c2 := hid (fun (w' : World) (g : Nat) (hk : Kept [] w w') (hg : Bytes w' w'.heap.size (some ⟨g, 0, none⟩) 3 [65, 67, 75]) => equal_true (c := c) (d := 3) w' (hA3 w' B (ackText s) (hl.below (hk.below hB (by simp)))) hg)
  have c3 := hid (fun (w' : World) (hk : Kept [] w w') => ackLine_calls B X A c s w' (hX.kept hk (by simp)) (hl.below (hk.below hB (by simp))) (Nat.le_trans hB hk.size) hc hs ev ((hk.cell (p := ⟨12, 0, none⟩) hlt (by simp)).trans hE) (Nat.lt_of_lt_of_le hlt hk.size))
  clear hsl hA3 hX hl hB hc hs hE hlt
  go_enter Tryd.func81, Tryd.ntmps81
  go_wp2_with fail
  go_region_held3 (fun _ => True) (trivial)
    (first
      | (go_at_call 106; refine (c1.out _).mono ?_; rintro e w1 ⟨g, rfl, hg, hk⟩; have HG := hid hg; have HK := hid ((Kept.refl [] w).drew.trans_ hk); clear hg hk)
      | (go_at_call 97; refine (c2.out _ _ HK.out HG.out).mono ?_; rintro e w7 ⟨rfl, h7⟩; obtain rfl : w1 = w7 := h7.symm)
      | fail)
  all_goals
    go_wp2_with fail
    refine (c3.out _ HK.out).mono ?_
    rintro e w2 ⟨rfl, A6, c6, h1, h2, h3⟩
    have H := hid (And.intro h1 (And.intro h2 h3))
    clear h1 h2 h3
    go_wp2_with fail
    go_ret
    exact ⟨rfl, A6, c6, H.out.1, own_low H.out.2.1 HK.out.size, (HK.out.more (by simp)).trans_ H.out.2.2⟩
/-- a Scanner is made -/
def ScNew (w : World) (R : Nat) (e : Ending) (w' : World) : Prop := e = .returned (.pointer (some ⟨w.heap.size, 0, none⟩)) ∧ Sb w' w.heap.size R .nilIface (.slice none 0 0) ∧ Kept [] w w'
set_option maxRecDepth 100000 in
theorem newScanner_calls (R : Nat) (w : World) : Calls Tryd.prog 49 #[.iface 113 (.pointer (some ⟨R, 0, none⟩))] w (ScNew w R) := by
  go_enter Tryd.func49, Tryd.ntmps49
  go_wp2_with fail
  go_ret
  exact ⟨rfl, ⟨_, _, _, _, Blk.new w _ _⟩, (Kept.refl [] w).alloc _⟩
set_option maxRecDepth 100000 in
theorem scBytes_calls (S R : Nat) (ev pv : Value) (w : World) (h : Sb w S R ev pv) : Calls Tryd.prog 51 #[.pointer (some ⟨S, 0, none⟩)] w fun e w' => e = .returned pv ∧ w' = w := by
  obtain ⟨x0, x1, x2, x3, hb⟩ := h
  have h2 : w.cell? ⟨S, 2, none⟩ = some pv := hb.cell 2 rfl
  clear hb
  go_enter Tryd.func51, Tryd.ntmps51
  go_wp2_with fail
  go_ret
  exact ⟨rfl, rfl⟩
set_option maxRecDepth 100000 in
theorem scErr_calls (S R : Nat) (ev pv : Value) (w : World) (h : Sb w S R ev pv) : Calls Tryd.prog 52 #[.pointer (some ⟨S, 0, none⟩)] w fun e w' => e = .returned ev ∧ w' = w := by
  obtain ⟨x0, x1, x2, x3, hb⟩ := h
  have h2 : w.cell? ⟨S, 1, none⟩ = some ev := hb.cell 1 rfl
  clear hb
  go_enter Tryd.func52, Tryd.ntmps52
  go_wp2_with fail
  go_ret
  exact ⟨rfl, rfl⟩
set_option maxRecDepth 100000 in
set_option maxHeartbeats 4000000 in
theorem stop_calls (X R G q k : Nat) (hk : 0 < k) (hk2 : k ≤ 4096) (A : Option Addr) (n c : Nat) (lb ls : Int) (p : Addr) (cur : List Value) (w : World) (hR : Rb w R G q k k .nilIface lb ls) (hq : Rd w q A n c n) (hn : n ≤ 4096)
    (hE : Eof w (.iface 184 (.pointer (some p)))) (hg : 0 < w.heap.size) (hgR : 0 ≠ R) (hgG : 0 ≠ G) (ha : Apart3 R G q) (hG : Blk w G 5 cur.toArray) (hfit : cur.length = 4096) :
    Calls Tryd.prog 82 #[.pointer (some ⟨X, 0, none⟩), .pointer (some ⟨R, 0, none⟩)] w fun e w' => e = .returned (.tuple #[.bool true, .nilIface]) ∧ Kept [R, G] w w' := by
  have c1 := hid (peek_end R G q k hk hk2 A n c lb ls _ cur w hR hq hn hE hg hgR hgG ha hG hfit)
  have HE := hid (fun (w' : World) (h : Kept [R, G] w w') => (h.cell (p := ⟨0, 0, none⟩) hg (by simp only [List.mem_cons, List.not_mem_nil, or_false, not_or]; exact ⟨hgR, hgG⟩)).trans hE.1)
  have q2 := fun w => eq_same w p
  clear hk hk2 hR hq hn hE hg hgR hgG ha hG hfit
  go_enter Tryd.func82, Tryd.ntmps82
  go_wp2_with fail
  refine c1.out.mono ?_
  rintro e w1 ⟨sv, rfl, h1⟩
  have q1 := HE.out _ h1
  have HK := hid h1
  clear h1
  go_wp2_with fail
  go_ret2
  exact ⟨rfl, HK.out⟩
end Go.Proofs.YtkjfndkcagkhaaaDoor.ack
