/- sideband.Demuxer.nextPackData. -/
import Derived.Test.YtkjfndkcagkhaaaDoorSdStep
import Derived.Test.YtkjfndkcagkhaaaDoorTail
set_option linter.unusedVariables false
attribute [local go_sem ↓] Go.wp_at_zero Go.wp_at_succ
namespace Go.Proofs.YtkjfndkcagkhaaaDoor.side
open Go.RowKit Lib frm mem text pkt rd

set_option maxRecDepth 100000 in
set_option maxHeartbeats 4000000 in
/-- what is pending is handed on -/
theorem npd_pend (K : Cst) (w : World) (ls : List (List UInt8)) (pend prog : List UInt8) (PA : Option Addr) (pn pc i : Nat) (ev pv pb : Value) (hK : K.Fine) (h : St K w ls pend prog PA pn pc i ev pv pb) (h0 : pend ≠ []) :
    Calls Tryd.prog 85 #[.pointer (some ⟨K.D, 0, none⟩)] w (NextIs K w ls pend prog PA pb) := by
  obtain ⟨X, m, rfl, hm, hb, hat⟩ := id h.pd
  have hl0 : 0 < pend.length := List.length_pos_iff.2 h0
  have c1 := hid (getPending_some K.D _ _ _ _ _ X pend.length m w hl0 h.dm)
  obtain ⟨w1, hw1⟩ : ∃ w1, w1 = w.setCell ⟨K.D, 4, none⟩ (.slice none 0 0) := ⟨_, rfl⟩
  rw [← hw1] at c1
  have hS1 : St K w1 ls [] prog PA pn pc i ev (.slice none 0 0) pb := by rw [hw1]; exact h.pend_ hK (p2 := []) (X := none) (m := 0) (Nat.le_refl _) Bytes.nil_ (fun x hx => by simp [blkOf] at hx)
  have hk1 : Kept [K.D] w w1 := by rw [hw1]; exact (Kept.refl [K.D] w).setCell (p := ⟨K.D, 4, none⟩) (.inl (by simp)) _
  have hb1 : Bytes w1 w1.heap.size X pend.length pend := (bytes_keep hb hk1 (Nat.le_refl _) (fun x hx => by
    obtain ⟨_, h4⟩ := pay_typed h.pay (hat x hx h0)
    have := Blk.ne_ h4 h.dm (by decide)
    simpa using this)).more hk1.size
  have H := hid (And.intro hS1 (And.intro hk1 (And.intro hb1 (And.intro hm hat))))
  have hl' : ¬ ((pend.length : Int) = 0) := by omega
  have HL0 := hid hl0
  have HN0 := hid h0
  have HF := hid (h.foot_lo hK)
  clear h hm hb hat hl0 h0 hw1 hS1 hk1 hb1
  go_enter Tryd.func85, Tryd.ntmps85
  go_wp2_with fail
  refine c1.out.mono ?_
  rintro e w2 ⟨rfl, hw2⟩
  obtain rfl : w1 = w2 := hw2.symm
  clear hw2 c1
  go_wp2_with fail
  go_ret2
  obtain ⟨hS1, hk1, hb1, hm, hat⟩ := H.out
  exact ⟨pend, X, m, ls, prog, PA, pn, pc, i, ev, _, pb, ⟨hS1, hk1.more (by simp [foot]), fun y hy => .inl hy, hm, hb1, hat⟩, .inl ⟨rfl, ⟨rfl, rfl, by omega, fun e => absurd e HN0.out⟩⟩⟩
set_option maxRecDepth 100000 in
set_option maxHeartbeats 4000000 in
/-- nothing comes any more -/
theorem npd_end (K : Cst) (w : World) (prog : List UInt8) (PA : Option Addr) (pn pc i : Nat) (ev pv pb : Value) (hK : K.Fine) (h : St K w [] [] prog PA pn pc i ev pv pb) :
    Calls Tryd.prog 85 #[.pointer (some ⟨K.D, 0, none⟩)] w (NextIs K w [] [] prog PA pb) := by
  obtain ⟨X, m, rfl, hm, hb, hat⟩ := id h.pd
  have c1 := hid (getPending_none K.D _ _ _ _ _ X m w h.dm)
  obtain ⟨⟨_, h1⟩, ⟨_, h2⟩, ⟨_, h3⟩, lr, _, hrow⟩ := h.blks
  have hSR : K.S ≠ K.R := Blk.ne_ h1 h2 (by decide)
  have hin : K.n ≤ i := by
    have := congrArg List.length h.rest
    rw [List.length_drop, h.inp.len] at this
    simp [lines] at this
    omega
  have c2 := hid (scan_end K.S K.R ev (.slice PA pn pc) K.A K.n K.c i K.pe K.pu w h.sc h.rd hin (by have := h.le; have := hK.n; omega) h.two hSR (by have := hK.eof; have := hK.S; omega))
  have k2 : w.cell? ⟨K.D, 2, none⟩ = some (.pointer (some ⟨K.S, 0, none⟩)) := h.dm.cell 2 rfl
  have HS := hid h
  have HD := hid (show K.S ≠ K.D from Blk.ne_ h1 h.dm (by decide))
  clear h hm hb hat h1 h2 h3 hrow hSR hin
  go_enter Tryd.func85, Tryd.ntmps85
  go_wp2_with fail
  refine c1.out.mono ?_
  rintro e w2 ⟨rfl, hw2⟩
  obtain rfl : w = w2 := hw2.symm
  clear hw2 c1
  go_wp2_with fail
  refine c2.out.mono ?_
  rintro e w2 ⟨rfl, hs2, hr2, hk2⟩
  have q2 : w2.cell? ⟨K.D, 2, none⟩ = some (.pointer (some ⟨K.S, 0, none⟩)) := (HS.out.dm.kept hk2 (by simpa using HD.out.symm)).cell 2 rfl
  have c3 := hid (err_calls K.S K.R _ _ w2 hs2)
  have H2 := hid (And.intro hs2 (And.intro hr2 hk2))
  have qE : w2.cell? ⟨0, 0, none⟩ = some (.iface 184 (.pointer (some K.pe))) := (HS.out.two.below (hk2.below HS.out.lo (by simpa using hK.S)) hK.eof hK.unx hK.pe hK.pu).eof
  clear hs2 hr2 hk2 c2 k2
  go_wp2_with fail
  refine c3.out.mono ?_
  rintro e w3 ⟨rfl, hw3⟩
  obtain rfl : w2 = w3 := hw3.symm
  clear hw3 c3
  go_wp2_with fail
  go_quiet (fail)
  go_wp2_with fail
  refine bodyPost_ret (by simp [results, Tryd.results85, go_sem]; rfl) rfl ?_
  obtain ⟨hs2, hr2, hk2⟩ := H2.out
  have h := HS.out
  have hbel : Below K.B w w2 := hk2.below h.lo (by simpa using hK.S)
  obtain ⟨⟨_, h1⟩, ⟨_, h2⟩, ⟨_, h3⟩, lr, _, hrow⟩ := h.blks
  have hS2 : St K w2 [] [] prog PA pn pc i .nilIface (.slice X 0 m) pb := by
    obtain ⟨X', m', hpv, hm', _, _⟩ := h.pd
    exact ⟨hs2, h.pay.kept hk2 (fun x hx => by simpa using (h.pay.no x hx).2.1), h.pn, hr2, h.le, h.rest, h.ok, h.inp.below hbel, h.dm.kept hk2 (by simpa using HD.out.symm), h.px.kept hk2 (by simpa using Blk.ne_ h3 h1 (by decide)) (fun x hx => by
      obtain ⟨_, h5⟩ := row_typed hrow hx
      simpa using Blk.ne_ h5 h1 (by decide)), ⟨X', m', hpv, hm', Bytes.nil_, fun x _ h0 => absurd rfl h0⟩, h.ap, h.lop, h.two.below hbel hK.eof hK.unx hK.pe hK.pu, Nat.le_trans h.lo hk2.size⟩
  have hkd : Kept [] w2 (w2.drewN nq) := (Kept.refl [] w2).drewN nq
  exact ⟨[], none, 0, [], prog, PA, pn, pc, i, _, _, pb, ⟨hS2.kept0 hK hkd, (hk2.trans hkd (by simp)).more (by simp [foot]), fun y hy => .inl hy, Nat.le_refl _, Bytes.nil_, fun y hy => by simp [blkOf] at hy⟩, .inr ⟨rfl, rfl, rfl, rfl, rfl, rfl⟩⟩
end Go.Proofs.YtkjfndkcagkhaaaDoor.side
