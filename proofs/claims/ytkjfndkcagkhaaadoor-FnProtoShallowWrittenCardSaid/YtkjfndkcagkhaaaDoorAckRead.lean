/- ServerResponse.Decode, packp.ZZReadAcks. -/
import Derived.Test.YtkjfndkcagkhaaaDoorAckResp
set_option linter.unusedVariables false
attribute [local go_sem ↓] Go.wp_at_zero Go.wp_at_succ
namespace Go.Proofs.YtkjfndkcagkhaaaDoor.ack
open Go.RowKit Lib frm mem rd pkt hash

/-- the bytes of the line of an ACK -/
def ackLine (s : ByteArray) : List UInt8 := line (ackText s)
/-- what a world must have below B for a reading -/
structure Ground (w : World) (B : Nat) (pe pu : Addr) (ev : Value) : Prop where
  two : Two w pe pu
  g1 : 0 < B
  g2 : 4 < B
  g3 : 12 < B
  p1 : pe.block < B
  p2 : pu.block < B
  ev : w.cell? ⟨12, 0, none⟩ = some ev
theorem Ground.below {w w' : World} {B : Nat} {pe pu : Addr} {ev : Value} (h : Ground w B pe pu ev) (hb : Below B w w') : Ground w' B pe pu ev :=
  ⟨h.two.below hb h.g1 h.g2 h.p1 h.p2, h.g1, h.g2, h.g3, h.p1, h.p2, (hb.cell (p := ⟨12, 0, none⟩) h.g3).trans h.ev⟩
def AckRead (w : World) (X R G q : Nat) (s : ByteArray) (e : Ending) (w' : World) : Prop :=
  e = .returned .nilIface ∧ ∃ A c, Blk w' X Sty #[.slice A 1 c] ∧ w'.ownsRow w.heap.size Hty 20 (.slice A 1 c) 1 (hashCells s) ∧ Kept [X, R, G, q] w w'
theorem ackText_len {s : ByteArray} (h : Hex40 s) : (ackText s).length = 45 := by
  have : s.data.toList.length = 40 := by simpa using h.1
  simp [ackText, this]
theorem ackLine_take (s : ByteArray) (h : Hex40 s) : ((ackLine s).drop 0).take (4 + (ackText s).length) = line (ackText s) := by
  have hl := ackText_len h
  have : (line (ackText s)).length = 49 := by
    rw [line_eq, List.length_append, hex4_len, hl]
  rw [List.drop_zero, hl]
  exact List.take_of_length_le (by rw [show ackLine s = line (ackText s) from rfl, this]; omega)
theorem ack_good (s : ByteArray) (h : Hex40 s) : pkt.Good (ackText s) := ⟨by rw [ackText_len h]; omega, rfl⟩
set_option maxRecDepth 100000 in
set_option maxHeartbeats 4000000 in
theorem decode_calls (B X R G q : Nat) (A : Option Addr) (c : Nat) (s : ByteArray) (w : World) (hs : Hex40 s) (hX : Blk w X Sty #[.slice none 0 0]) (hBX : B ≤ X) (hXR : X ≠ R) (hXG : X ≠ G) (hXq : X ≠ q) (hf : Far B R G q 49 c) (hS : Src w B R G q A 49 c 0 (ackLine s))
    (pe pu : Addr) (ev : Value) (hG : Ground w B pe pu ev) :
    Calls Tryd.prog 60 #[.pointer (some ⟨X, 0, none⟩), .pointer (some ⟨R, 0, none⟩), .bool false] w (AckRead w X R G q s) := by
  have hBw : B ≤ w.heap.size := Nat.le_trans hBX (Nat.le_of_lt hX.lt)
  have hat := ackText_len hs
  obtain ⟨hRlt, hGlt, hqlt⟩ : R < w.heap.size ∧ G < w.heap.size ∧ q < w.heap.size := by
    obtain ⟨⟨lb, ls, u1⟩, ⟨row, _, _, u2⟩, u3, u4⟩ := hS
    exact ⟨u1.lt, u2.lt, u3.lt⟩
  have hd : Dst B R G q w.heap.size := ⟨hBw, Nat.ne_of_lt hRlt, Nat.ne_of_lt hGlt, Nat.ne_of_lt hqlt⟩
  have hXS : X ≠ w.heap.size := Nat.ne_of_lt hX.lt
  have c0 := hid (newScanner_calls R w)
  have c1 := hid (fun (w' : World) (hk : Kept [] w w') (h2 : Sb w' w.heap.size R .nilIface (.slice none 0 0)) => bscan_line B w.heap.size R G q .nilIface A 49 c 0 (ackLine s) (ackText s) pe pu w' h2 hf (hS.kept hf hk (by simp)) hd (by omega) (hG.below (hk.below hBw (by simp))).two hG.g1 (ackLine_take s hs) (by omega) (by omega) (ack_good s hs))
  have HB := hid (And.intro hBw hBX)
  have HXN := hid (And.intro hXR (And.intro hXG (And.intro hXq hXS)))
  have HD := hid hd
  have HF := hid hf
  have HG := hid hG
  have HX := hid hX
  clear hBw hd hS hG hX hBX hXR hXG hXq hXS hf
  have HAT := hid hat
  have HS := hid hs
  have HLT := hid (And.intro hRlt (And.intro hGlt hqlt))
  clear hat hs hRlt hGlt hqlt
  go_enter Tryd.func60, Tryd.ntmps60
  go_wp2_with fail
  refine c0.out.mono ?_
  rintro e w1 ⟨rfl, hb1, hk1⟩
  have HB1 := hid hb1
  have HK1 := hid hk1
  clear hb1 hk1
  go_wp2_with fail
  refine wp_loop_rounds 1 ?_
  rw [rounds_succ]
  go_wp2_with fail
  refine (c1.out _ HK1.out HB1.out).mono ?_
  rintro e w2 ⟨rfl, g, pc, h1, h2, h3, h4, h5, h6⟩
  have hat := HAT.out
  rw [hat] at h1 h3 h4 h5
  have HB2 := hid h1
  have HBy := hid (And.intro h2 (And.intro h3 h4))
  have HS2 := hid h5
  have HK2 := hid (HK1.out.more (T := [R, G, q, w.heap.size]) (by simp) |>.trans_ h6)
  have hbel : Below B w w2 := HK2.out.below HB.out.1 (by have h1 := HF.out; have h2 := HD.out; intro x hx; simp only [List.mem_cons, List.not_mem_nil, or_false] at hx; rcases hx with rfl | rfl | rfl | rfl; exact h1.BR; exact h1.BG; exact h1.Bq; exact h2.B)
  have HBel := hid hbel
  have HX2 := hid (HX.out.kept HK2.out (by have := HXN.out; simp [this.1, this.2.1, this.2.2.1, this.2.2.2]))
  clear h1 h2 h3 h4 h5 h6 hat hbel HB1 HK1 c0 c1
  go_wp2_with fail
  refine (scBytes_calls w.heap.size R _ _ w2 HB2.out).mono ?_
  rintro e w3 ⟨rfl, h3⟩
  obtain rfl : w2 = w3 := h3.symm
  clear h3
  go_wp2_with fail
  refine (decLine_calls w2.heap.size X (some ⟨g, 0, none⟩) pc s w2 HX2.out HBy.out.2.2 (Nat.le_refl _) HBy.out.2.1 HS.out ev (HG.out.below HBel.out).ev (Nat.lt_of_lt_of_le (Nat.lt_of_lt_of_le HG.out.g3 HB.out.1) HK2.out.size)).mono ?_
  rintro e w3 ⟨rfl, A6, c6, h1, h2, h3⟩
  have HX3 := hid h1
  have HO3 := hid h2
  have HK3 := hid h3
  have HS3 := hid (HS2.out.kept HF.out h3 (by have := HXN.out; simp [HB.out.2, this.1, this.2.1, this.2.2.1]))
  clear h1 h2 h3
  go_wp2_with fail
  obtain ⟨⟨lb, ls, u1⟩, ⟨row, u2, _, u3⟩, u4, u5⟩ := HS3.out
  have HG3 := hid ((HG.out.below HBel.out).below (HK3.out.below (Nat.le_trans HB.out.1 HK2.out.size) (by have := HB.out.2; simpa using this)))
  refine (stop_calls X R G q 49 (by omega) (by omega) A 49 c lb ls pe row w3 u1 u4 (by omega) ⟨HG3.out.two.eof, _, rfl⟩ HG3.out.two.eofg (by have := HG.out.g1; have := HF.out.BR; omega) (by have := HG.out.g1; have := HF.out.BG; omega) HF.out.ap u3 u2).mono ?_
  clear u1 u2 u3 u4 u5
  rintro e w4 ⟨rfl, h4⟩
  have HK4 := hid h4
  clear h4
  go_wp2_with fail
  refine (scErr_calls w.heap.size R .nilIface (.slice (some ⟨g, 0, none⟩) 45 pc) w4 ?_).mono ?_
  · exact (HB2.out.kept HK3.out (by have := HXN.out; simp [this.2.2.2.symm])).kept HK4.out (by have := HD.out; simp [this.R.symm, this.G.symm])
  rintro e w5 ⟨rfl, h5⟩
  obtain rfl : w4 = w5 := h5.symm
  clear h5
  go_wp2_with fail
  go_ret
  have hl := HLT.out
  have hz := HK2.out.size
  refine ⟨rfl, A6, c6, HX3.out.kept HK4.out (by have := HXN.out; simp [this.1, this.2.1]), own_keepK (own_low HO3.out hz) HK4.out (by intro x hx; simp only [List.mem_cons, List.not_mem_nil, or_false] at hx; rcases hx with rfl | rfl; exact hl.1; exact hl.2.1), ?_⟩
  have h23 : Kept [X, R, G, q, w.heap.size] w w3 := (HK2.out.more (by simp)).trans_ (HK3.out.more (by simp))
  have h24 := h23.trans_ (HK4.out.more (T := [X, R, G, q, w.heap.size]) (by simp))
  refine ⟨h24.os, h24.tape, h24.output, h24.size, fun b hb hn => h24.block b hb ?_⟩
  intro hm
  simp only [List.mem_cons, List.not_mem_nil, or_false, not_or] at hm hn
  rcases hm with h | h | h | h | h
  · exact hn.1 h
  · exact hn.2.1 h
  · exact hn.2.2.1 h
  · exact hn.2.2.2 h
  · omega
set_option maxRecDepth 100000 in
theorem newBytesRd_calls (A : Option Addr) (n c : Nat) (w : World) : Calls Tryd.prog 40 #[.slice A n c] w fun e w' => e = .returned (.pointer (some ⟨w.heap.size, 0, none⟩)) ∧ w' = w.alloc (.cells #[.slice A n c, .int .i64 0, .int .i64 (-1)] 119) := by
  go_enter Tryd.func40, Tryd.ntmps40
  go_wp2_with fail
  go_ret
  exact ⟨rfl, rfl⟩
set_option maxRecDepth 100000 in
set_option maxHeartbeats 4000000 in
/-- packp.ZZReadAcks -/
theorem zzRead_calls (B : Nat) (A : Option Addr) (c : Nat) (s : ByteArray) (w : World) (hs : Hex40 s) (hl : Bytes w B A 49 (ackLine s)) (hB : B ≤ w.heap.size) (hc : 49 ≤ c) (pe pu : Addr) (ev : Value) (hG : Ground w B pe pu ev) :
    Calls Tryd.prog 33 #[.slice A 49 c, .bool false] w fun e w' => ∃ g' c', e = .returned (.tuple #[.slice (some ⟨g', 0, none⟩) 1 c', .nilIface]) ∧ w'.rangeAt g' 0 (hashCells s) ∧ g' < w'.heap.size ∧ Kept [] w w' := by
  have HL := hid hl
  have HB := hid hB
  have HC := hid hc
  have HG := hid hG
  have HS := hid hs
  clear hl hB hc hG hs
  go_enter Tryd.func33, Tryd.ntmps33
  go_wp2_with fail
  refine (newBytesRd_calls A 49 c _).mono ?_
  rintro e w1 ⟨rfl, h1⟩
  have hq1 : Rd w1 (w.heap.size + 1) A 49 c 0 := by rw [h1]; exact ⟨-1, by have := Blk.new (w.alloc (.cells #[.slice none 0 0] Sty)) 119 #[.slice A 49 c, .int .i64 0, .int .i64 (-1)]; simpa using this⟩
  have hX1 : Blk w1 w.heap.size Sty #[.slice none 0 0] := by rw [h1]; exact (Blk.new w _ _).alloc _
  have hk1 : Kept [] w w1 := by rw [h1]; exact ((Kept.refl [] w).alloc _).alloc _
  have hz1 : w1.heap.size = w.heap.size + 2 := by rw [h1]; simp
  have HQ1 := hid hq1
  have HX1 := hid hX1
  have HK1 := hid hk1
  have HZ1 := hid hz1
  have hsz : (w.alloc (.cells #[.slice none 0 0] Sty)).heap.size = w.heap.size + 1 := by simp
  clear h1 hq1 hX1 hk1 hz1
  go_wp2_with fail
  refine (newReader_calls (w.heap.size + 1) w1).mono ?_
  rintro e w2 ⟨rfl, h1, h2, h3, h4⟩
  have HR2 := hid h1
  have HG2 := hid h2
  have HK2 := hid h3
  have HZ2 := hid h4
  clear h1 h2 h3 h4
  go_wp2_with fail
  have hz1 := HZ1.out
  have hb := HB.out
  refine (decode_calls B w.heap.size w1.heap.size (w1.heap.size + 1) (w.heap.size + 1) A c s w2 HS.out (HX1.out.kept HK2.out (by simp)) hb (by omega) (by omega) (by omega) ⟨⟨by omega, by omega, by omega⟩, by omega, by omega, by omega, by omega, by omega, HC.out⟩ ?_ pe pu ev (HG.out.below ((HK1.out.trans_ HK2.out).below hb (by simp)))).mono ?_
  · obtain ⟨cs, hcs, hg2⟩ := HG2.out
    exact ⟨⟨_, _, HR2.out⟩, ⟨cs, hcs, fun h => absurd h (by omega), hg2⟩, HQ1.out.kept HK2.out (by simp), HL.out.below ((HK1.out.trans_ HK2.out).below hb (by simp))⟩
  rintro e w3 ⟨rfl, A6, c6, h1, h2, h3⟩
  have HX3 := hid h1
  have HO3 := hid h2
  have HK3 := hid ((HK1.out.trans_ HK2.out).trans h3 (by intro x hx; simp only [List.mem_cons, List.not_mem_nil, or_false] at hx; exact .inr (by omega)))
  have q3 : w3.cell? ⟨w.heap.size, 0, none⟩ = some (.slice A6 1 c6) := h1.cell 0 rfl
  clear h1 h2 h3
  go_wp2_with fail
  go_ret2
  obtain ⟨g', cap, hv, _, hlt⟩ := HO3.out.form (by omega)
  injection hv with e1 e2 e3
  subst e1
  have hrd := Reads.of_own HO3.out
  refine ⟨g', c6, rfl, fun i u hu => ?_, hlt, HK3.out⟩
  obtain ⟨ad, e, _, hc⟩ := hrd.2 (by omega)
  injection e with e
  subst e
  have := hc i u hu
  rwa [Lib.addr_add] at this
end Go.Proofs.YtkjfndkcagkhaaaDoor.ack
