/- A packet line through a bufio.Reader: Scan, once. -/
import Derived.Test.YtkjfndkcagkhaaaDoorAckSrc
import Derived.Test.YtkjfndkcagkhaaaDoorPktScan
set_option linter.unusedVariables false
attribute [local go_sem ↓] Go.wp_at_zero Go.wp_at_succ
namespace Go.Proofs.YtkjfndkcagkhaaaDoor.ack
open Go.RowKit Lib frm mem rd pkt

/-- a Scanner in block S, over the bufio.Reader in block R -/
def Sb (w : World) (S R : Nat) (ev pv : Value) : Prop := ∃ x0 x1 x2 x3, Blk w S 133 #[.iface 113 (.pointer (some ⟨R, 0, none⟩)), ev, pv, x0, x1, x2, x3]
theorem Sb.kept {w w' : World} {S R : Nat} {ev pv : Value} {K : List Nat} (h : Sb w S R ev pv) (hk : Kept K w w') (hn : S ∉ K) : Sb w' S R ev pv := by
  obtain ⟨x0, x1, x2, x3, h⟩ := h; exact ⟨x0, x1, x2, x3, h.kept hk hn⟩
theorem Sb.lt {w : World} {S R : Nat} {ev pv : Value} (h : Sb w S R ev pv) : S < w.heap.size := by obtain ⟨x0, x1, x2, x3, h⟩ := h; exact h.lt
/-- the head of a line has been read: z bytes are to come -/
def HeadB (w : World) (B S R G q : Nat) (ev pv : Value) (A : Option Addr) (n c i z : Nat) (l : List UInt8) (e : Ending) (w' : World) : Prop :=
  e = .returned (.tuple #[.int .i64 z, .nilIface]) ∧ Sb w' S R ev pv ∧ Src w' B R G q A n c (i + 4) l ∧ Kept [R, G, q, S] w w'
set_option maxRecDepth 100000 in
set_option maxHeartbeats 4000000 in
theorem bhead_line (B S R G q : Nat) (ev pv : Value) (A : Option Addr) (n c i z : Nat) (l : List UInt8) (w : World) (hS : Sb w S R ev pv) (hf : Far B R G q n c) (hR : Src w B R G q A n c i l) (hi : i + 4 ≤ n) (hd : Dst B R G q S)
    (hq : (l.drop i).take 4 = hex4 z) (hq1 : 4 < z ∧ z ≤ 65524) :
    Calls Tryd.prog 72 #[.pointer (some ⟨S, 0, none⟩)] w (HeadB w B S R G q ev pv A n c i (z - 4) l) := by
  obtain ⟨x0, x1, x2, x3, hb⟩ := hS
  have hb' : Blk w.drew S 133 ([.iface 113 (.pointer (some ⟨R, 0, none⟩)), ev, pv, x0, x1, x2, x3] : List Value).toArray := hb
  have c1 := hid (bfull B R G q S A n c i 4 3 4 l 133 _ w.drew hf (hR.kept hf (Kept.refl [] w).drew (by simp)) hd hb' (by omega) hi (by omega) (by omega) (by simp))
  rw [hq] at c1
  have c2 := hid (fun w => hexDecode_calls (z / 4096 % 16) (z / 256 % 16) (z / 16 % 16) (z % 16) w (by omega) (by omega) (by omega) (by omega))
  have hv : z / 4096 % 16 * 4096 + z / 256 % 16 * 256 + z / 16 % 16 * 16 + z % 16 = z := hex4_val z (by omega)
  rw [hv] at c2
  have h0 : w.drew.cell? ⟨S, 0, none⟩ = some (.iface 113 (.pointer (some ⟨R, 0, none⟩))) := hb.cell 0 rfl
  have H0 := hid h0
  have hsp : splice ([.iface 113 (.pointer (some ⟨R, 0, none⟩)), ev, pv, x0, x1, x2, x3] : List Value) 3 (byteCells (hex4 z)) = [.iface 113 (.pointer (some ⟨R, 0, none⟩)), ev, pv, .int .u8 (hexd (z / 4096 % 16)).toNat, .int .u8 (hexd (z / 256 % 16)).toNat, .int .u8 (hexd (z / 16 % 16)).toNat, .int .u8 (hexd (z % 16)).toNat] := rfl
  rw [hsp] at c1
  have HQ1 := hid hq1
  generalize hexd (z / 4096 % 16) = a0 at *
  generalize hexd (z / 256 % 16) = a1 at *
  generalize hexd (z / 16 % 16) = a2 at *
  generalize hexd (z % 16) = a3 at *
  clear hR hi hq hb h0 hb' hsp hv hq1
  go_enter Tryd.func72, Tryd.ntmps72
  go_wp2_with fail
  go_region_held3 (fun w' => w'.cell? ⟨S, 0, none⟩ = some (.iface 113 (.pointer (some ⟨R, 0, none⟩))))
    (exact H0.out)
    ((go_at_call 73; refine c1.out.mono ?_; rintro e y1 ⟨rfl, h1, h2, h3⟩; have H1 := hid h1; have H2 := hid h2; have H3 := hid ((Kept.refl [R, G, q, S] w).drew.trans_ h3); have H0 := hid (show y1.cell? ⟨S, 0, none⟩ = some (.iface 113 (.pointer (some ⟨R, 0, none⟩))) from h2.cell 0 rfl); clear h1 h2 h3))
  all_goals
    have k3 : y1.cell? ⟨S, 3, none⟩ = some (.int .u8 a0.toNat) := H2.out.cell 3 rfl
    have k4 : y1.cell? ⟨S, 4, none⟩ = some (.int .u8 a1.toNat) := H2.out.cell 4 rfl
    have k5 : y1.cell? ⟨S, 5, none⟩ = some (.int .u8 a2.toNat) := H2.out.cell 5 rfl
    have k6 : y1.cell? ⟨S, 6, none⟩ = some (.int .u8 a3.toNat) := H2.out.cell 6 rfl
    go_wp2_with fail
    refine (c2.out _).mono ?_
    rintro e y2 ⟨rfl, h3⟩
    have H4 := hid h3
    clear h3 k3 k4 k5 k6
    obtain ⟨q', rfl⟩ : ∃ q', z = q' + 5 := ⟨z - 5, by have := HQ1.out; omega⟩
    have h := HQ1.out
    have e1 : ¬ ((q' + 5 : Nat) : Int) = 0 := by omega
    have e2 : ¬ ((q' + 5 : Nat) : Int) ≤ 4 := by omega
    have e3 : ¬ (65524 : Int) < ((q' + 5 : Nat) : Int) := by omega
    have e4 : ((q' + 5 : Nat) : Int) - 4 = ((q' + 5 - 4 : Nat) : Int) := by omega
    have E4 := hid e4
    clear h e4
    generalize hz : ((q' + 5 : Nat) : Int) = z at *
    have HZ := hid hz
    clear hz
    go_wp2_with fail
    go_ret2
    refine ⟨?_, ⟨_, _, _, _, H2.out.kept H4.out (by simp)⟩, H1.out.kept hf H4.out (by simp), H3.out.trans H4.out (by simp)⟩
    rw [← E4.out]
    rfl
/-- a line has been read through the bufio.Reader -/
def ScanB (w : World) (B S R G q : Nat) (A : Option Addr) (n c i : Nat) (l p : List UInt8) (e : Ending) (w' : World) : Prop :=
  e = .returned (.bool true) ∧ ∃ g pc, Sb w' S R .nilIface (.slice (some ⟨g, 0, none⟩) p.length pc) ∧ w.heap.size ≤ g ∧ p.length ≤ pc ∧ Bytes w' w'.heap.size (some ⟨g, 0, none⟩) p.length p ∧ Src w' B R G q A n c (i + 4 + p.length) l ∧ Kept [R, G, q, S] w w'
/-- ahead of the reading of the payload -/
def ReadyB (w3 w : World) (B S R G q g : Nat) (A : Option Addr) (n c i m : Nat) (l : List UInt8) : Prop :=
  Sb w3 S R .nilIface (.slice (some ⟨g, 0, none⟩) 0 m) ∧ (∃ cur : List Value, cur.length = m ∧ Blk w3 g 5 cur.toArray) ∧ w.heap.size ≤ g ∧ Kept [R, G, q, S] w w3 ∧ Src w3 B R G q A n c (i + 4) l
set_option maxRecDepth 100000 in
set_option maxHeartbeats 4000000 in
theorem bscan_line (B S R G q : Nat) (ev : Value) (A : Option Addr) (n c i : Nat) (l p : List UInt8) (pe pu : Addr) (w : World) (hS : Sb w S R ev (.slice none 0 0)) (hf : Far B R G q n c) (hR : Src w B R G q A n c i l) (hd : Dst B R G q S)
    (hi : i + 4 + p.length ≤ n) (hT : Two w pe pu) (hTB : 0 < B) (hp : (l.drop i).take (4 + p.length) = line p) (hp0 : 0 < p.length) (hp1 : p.length < 4096) (hg : pkt.Good p) :
    Calls Tryd.prog 50 #[.pointer (some ⟨S, 0, none⟩)] w (ScanB w B S R G q A n c i l p) := by
  have hBw : B ≤ w.heap.size := Nat.le_trans hd.B (Nat.le_of_lt hS.lt)
  have h4 : (l.drop i).take 4 = hex4 (lenOf p) := by
    have := congrArg (List.take 4) hp
    rw [List.take_take, Nat.min_eq_left (by omega), line_eq, List.take_left' (hex4_len _)] at this
    exact this
  have hpl : (l.drop (i + 4)).take p.length = p := by
    have := congrArg (List.drop 4) hp
    rw [List.drop_take, List.drop_drop, line_eq, List.drop_left' (hex4_len _), show 4 + p.length - 4 = p.length by omega] at this
    exact this
  have hne : p ≠ [] := List.length_pos_iff.1 hp0
  have hlq : lenOf p = p.length + 4 := by unfold lenOf; rw [if_neg hne]
  have c1 := bhead_line B S R G q ev (.slice none 0 0) A n c i (lenOf p) l w hS hf hR (by omega) hd h4 ⟨by omega, by omega⟩
  rw [hlq, Nat.add_sub_cancel] at c1
  have C1 := hid c1
  have hm1 : (p.length : Int) ≤ 4096 := by omega
  have hm0 : (0 : Int) < (p.length : Int) := by omega
  have HF := hid hf
  have HD := hid hd
  have HT := hid hT
  have HPL := hid hpl
  have HG := hid hg
  have HBW := hid hBw
  obtain ⟨m, hm⟩ : ∃ m, m = p.length := ⟨_, rfl⟩
  rw [← hm] at hm1 hm0 C1
  have HM := hid hm
  have HN := hid (And.intro hi (And.intro hp0 hp1))
  have hdm : decide ((0 : Int) < (m : Int)) = true := by simpa using hm0
  clear c1 hS hR hi hT hp hg h4 hpl hlq hBw hm hp0 hp1 hf hd hne
  go_enter Tryd.func50, Tryd.ntmps50
  go_wp2_with fail
  refine C1.out.mono ?_
  rintro e w1 ⟨rfl, hs, hr, hk⟩
  have HR1 := hid hr
  have HK1 := hid hk
  obtain ⟨x0, x1, x2, x3, hb⟩ := hs
  have k1 : w1.cell? ⟨S, 1, none⟩ = some ev := hb.cell 1 rfl
  have f1 : w1.frozen? ⟨S, 1, none⟩ = false := hb.frozen 1
  have HB1 := hid hb
  clear hr hk hb
  go_wp2_with fail
  obtain ⟨w2, hw2⟩ : ∃ w2, w2 = w1.setCell ⟨S, 1, none⟩ .nilIface := ⟨_, rfl⟩
  rw [← hw2]
  have hb2 : Blk w2 S 133 #[.iface 113 (.pointer (some ⟨R, 0, none⟩)), .nilIface, .slice none 0 0, x0, x1, x2, x3] := by rw [hw2]; exact HB1.out.set_ 1 _
  have HB2 := hid hb2
  have HK2 := hid (show Kept [R, G, q, S] w w2 by rw [hw2]; exact HK1.out.setCell (.inl (by simp)) _)
  have HR2 := hid (show Src w2 B R G q A n c (i + 4) l by rw [hw2]; exact HR1.out.kept HF.out ((Kept.refl [S] w1).setCell (p := ⟨S, 1, none⟩) (.inl (by simp)) _) (by have := HD.out; simp [this.B, this.R.symm, this.G.symm, this.q.symm]))
  have k1 : w2.cell? ⟨S, 1, none⟩ = some .nilIface := hb2.cell 1 rfl
  have k2 : w2.cell? ⟨S, 2, none⟩ = some (.slice none 0 0) := hb2.cell 2 rfl
  have k0 : w2.cell? ⟨S, 0, none⟩ = some (.iface 113 (.pointer (some ⟨R, 0, none⟩))) := hb2.cell 0 rfl
  have hbel : ∀ x ∈ [R, G, q, S], B ≤ x := by have h1 := HF.out; have h2 := HD.out; intro x hx; simp only [List.mem_cons, List.not_mem_nil, or_false] at hx; rcases hx with rfl | rfl | rfl | rfl; exact h1.BR; exact h1.BG; exact h1.Bq; exact h2.B
  have q1 : w2.cell? ⟨0, 0, none⟩ = some (.iface 184 (.pointer (some pe))) := ((HK2.out.below HBW.out hbel).cell (p := ⟨0, 0, none⟩) hTB).trans HT.out.eof
  have q2 := fun w => run_eql_iface_nil_left (P := Tryd.prog) w 184 (.pointer (some pe)) Tryd.underlying64
  have HBEL := hid hbel
  clear hw2 hb2 hbel
  go_quiet (fail)
  obtain ⟨cur, hcur, hmk⟩ := make_bytes m (by omega)
  have HCUR := hid hcur
  clear hcur
  have hB2a : Blk ((w2.drewN nq).alloc (.cells cur.toArray 5)) S 133 #[.iface 113 (.pointer (some ⟨R, 0, none⟩)), .nilIface, .slice none 0 0, x0, x1, x2, x3] := Blk.alloc (show Blk (w2.drewN nq) S _ _ from HB2.out) _
  have k2a : ((w2.drewN nq).alloc (.cells cur.toArray 5)).cell? ⟨S, 2, none⟩ = some (.slice none 0 0) := hB2a.cell 2 rfl
  have f2a : ((w2.drewN nq).alloc (.cells cur.toArray 5)).frozen? ⟨S, 2, none⟩ = false := hB2a.frozen 2
  have HB2A := hid hB2a
  clear hB2a
  go_wp2_with fail
  have HALL : ReadyB (((w2.drewN nq).alloc (.cells cur.toArray 5)).setCell ⟨S, 2, none⟩ (.slice (some ⟨w2.heap.size, 0, none⟩) 0 m)) w B S R G q w2.heap.size A n c i m l := by
    have hS2 := HB2.out.lt
    have hsz : w.heap.size ≤ w2.heap.size := HK2.out.size
    have hd := HD.out
    refine ⟨⟨x0, x1, x2, x3, HB2A.out.set_ 2 _⟩, ⟨cur, HCUR.out, ?_⟩, hsz, ?_, ?_⟩
    · exact Blk.far (p := ⟨S, 2, none⟩) (show Blk ((w2.drewN nq).alloc _) w2.heap.size _ _ from Blk.new (w2.drewN nq) _ _) (by show w2.heap.size ≠ S; omega) _
    · exact ((HK2.out.drewN nq).alloc _).setCell (.inl (by simp)) _
    · exact HR2.out.kept HF.out (((((Kept.refl [S] w2).drewN nq).alloc _)).setCell (p := ⟨S, 2, none⟩) (.inl (by simp)) _) (by simp [hd.B, hd.R.symm, hd.G.symm, hd.q.symm])
  have HALL' := hid HALL
  clear HALL HB2A HCUR k2a f2a hmk
  have HGE := hid (show w.heap.size ≤ w2.heap.size from HK2.out.size)
  have HGS := hid (show S ≠ w2.heap.size from Nat.ne_of_lt HB2.out.lt)
  have HGR := hid (show Dst B R G q w2.heap.size by
    obtain ⟨⟨lb, ls, u1⟩, ⟨row, _, _, u2⟩, u3, u4⟩ := HR2.out
    have a1 := u1.lt; have a2 := u2.lt; have a3 := u3.lt; have a4 := HBW.out; have a5 := HK2.out.size
    exact ⟨by omega, by omega, by omega, by omega⟩)
  generalize w2.heap.size = g at HGE HGS HGR HALL' ⊢
  generalize ((w2.drewN nq).alloc (.cells cur.toArray 5)).setCell ⟨S, 2, none⟩ (.slice (some ⟨g, 0, none⟩) 0 m) = w3 at *
  obtain ⟨⟨y0, y1, y2, y3, hb3⟩, ⟨cur3, hcu, hg3⟩, hge3, hk3, hr3⟩ := HALL'.out
  clear HALL' k0 k1 k2 q1 q2 f1
  have HB3 := hid hb3
  have HG3 := hid hg3
  have HCU := hid hcu
  have HK3 := hid hk3
  have HR3 := hid hr3
  clear hb3 hg3 hcu hk3 hr3 HB1 HB2 HK1 HR1 HK2 HR2 C1 hge3
  have hs1 := slice_to .i64 (some (⟨g, 0, none⟩ : Addr)) 0 m m (Nat.le_refl _)
  have hs2 := slice_to .i64 (some (⟨g, 0, none⟩ : Addr)) m m m (Nat.le_refl _)
  have C2 := hid (bfull B R G q g A n c (i + 4) m 0 m l 5 cur3 w3.drew HF.out (show Src w3.drew B R G q A n c (i + 4) l from Src.kept (K := []) HR3.out HF.out (Kept.refl [] w3).drew (by simp)) HGR.out HG3.out (by have := HN.out; have := HM.out; omega) (by have := HN.out; have := HM.out; omega) (by have := HN.out; have := HM.out; omega) (Nat.le_refl _) (by have := HCU.out; omega))
  have HSn := hid (show S ∉ [R, G, q, g] by have := HD.out; have h2 := HGS.out; simp [this.R.symm, this.G.symm, this.q.symm, h2])
  have HX := hid (And.intro (show w3.drew.cell? ⟨S, 0, none⟩ = some (.iface 113 (.pointer (some ⟨R, 0, none⟩))) from HB3.out.cell 0 rfl) (show w3.drew.cell? ⟨S, 2, none⟩ = some (.slice (some ⟨g, 0, none⟩) 0 m) from HB3.out.cell 2 rfl))
  go_region_held3 (fun w' => w'.cell? ⟨S, 0, none⟩ = some (.iface 113 (.pointer (some ⟨R, 0, none⟩))) ∧ w'.cell? ⟨S, 2, none⟩ = some (.slice (some ⟨g, 0, none⟩) 0 m))
    (first | with_reducible exact HX.out | with_reducible exact HY.out)
    ((go_at_call 73; refine C2.out.mono ?_; rintro e w4 ⟨rfl, hr, hd4, hk⟩; have hb4 := (show Blk w3.drew S _ _ from HB3.out).kept hk HSn.out; have H4 := hid (And.intro hb4 (And.intro hr (And.intro hd4 hk))); have HX := hid (And.intro (show w4.cell? ⟨S, 0, none⟩ = some (.iface 113 (.pointer (some ⟨R, 0, none⟩))) from hb4.cell 0 rfl) (show w4.cell? ⟨S, 2, none⟩ = some (.slice (some ⟨g, 0, none⟩) 0 m) from hb4.cell 2 rfl)); have HY := hid (And.intro (show (w4.setCell ⟨S, 1, none⟩ .nilIface).cell? ⟨S, 0, none⟩ = some (.iface 113 (.pointer (some ⟨R, 0, none⟩))) from (hb4.set_ 1 .nilIface).cell 0 rfl) (show (w4.setCell ⟨S, 1, none⟩ .nilIface).cell? ⟨S, 2, none⟩ = some (.slice (some ⟨g, 0, none⟩) 0 m) from (hb4.set_ 1 .nilIface).cell 2 rfl)); have k1 : w4.cell? ⟨S, 1, none⟩ = some .nilIface := hb4.cell 1 rfl; have k2 : w4.cell? ⟨S, 2, none⟩ = some (.slice (some ⟨g, 0, none⟩) 0 m) := hb4.cell 2 rfl; have f1 := hb4.frozen 1; have f2 := hb4.frozen 2; clear hr hd4 hk hb4))
  all_goals
    go_wp2_with fail
    have hT5 : Sb ((w4.setCell ⟨S, 1, none⟩ .nilIface).setCell ⟨S, 2, none⟩ (.slice (some ⟨g, 0, none⟩) m m)) S R .nilIface (.slice (some ⟨g, 0, none⟩) m m) ∧ Bytes ((w4.setCell ⟨S, 1, none⟩ .nilIface).setCell ⟨S, 2, none⟩ (.slice (some ⟨g, 0, none⟩) m m)) ((w4.setCell ⟨S, 1, none⟩ .nilIface).setCell ⟨S, 2, none⟩ (.slice (some ⟨g, 0, none⟩) m m)).heap.size (some ⟨g, 0, none⟩) m p ∧ Src ((w4.setCell ⟨S, 1, none⟩ .nilIface).setCell ⟨S, 2, none⟩ (.slice (some ⟨g, 0, none⟩) m m)) B R G q A n c (i + 4 + m) l ∧ Kept [R, G, q, S] w ((w4.setCell ⟨S, 1, none⟩ .nilIface).setCell ⟨S, 2, none⟩ (.slice (some ⟨g, 0, none⟩) m m)) := by
      obtain ⟨hb4, hr4, hd4, hk4⟩ := H4.out
      have hkk : Kept [S] w4 ((w4.setCell ⟨S, 1, none⟩ .nilIface).setCell ⟨S, 2, none⟩ (.slice (some ⟨g, 0, none⟩) m m)) := ((Kept.refl [S] w4).setCell (.inl (by simp)) _).setCell (.inl (by simp)) _
      have e : (l.drop (i + 4)).take m = p := by rw [HM.out]; exact HPL.out
      have hd := HD.out
      refine ⟨⟨y0, y1, y2, y3, (hb4.set_ 1 _).set_ 2 _⟩, ?_, hr4.kept HF.out hkk (by simp [hd.B, hd.R.symm, hd.G.symm, hd.q.symm]), ?_⟩
      · rw [e] at hd4
        have h1 := bytes_of_row (p := p) (hd4.kept hkk (by have := HGS.out; simp [this.symm])) (by simp [splice, byteCells])
        rw [← HM.out] at h1
        exact h1
      · have hk3' : Kept [R, G, q, S, g] w w3 := HK3.out.more (by simp)
        have hk4' : Kept [R, G, q, S, g] w3 w4 := (show Kept [R, G, q, g] w3 w4 from ⟨hk4.os, hk4.tape, hk4.output, hk4.size, hk4.block⟩).more (by simp)
        refine (((HK3.out.trans (show Kept [R, G, q, g] w3 w4 from ⟨hk4.os, hk4.tape, hk4.output, hk4.size, hk4.block⟩) ?_).trans hkk (by simp)))
        intro x hx
        simp only [List.mem_cons, List.not_mem_nil, or_false] at hx
        rcases hx with rfl | rfl | rfl | rfl
        · exact .inl (by simp)
        · exact .inl (by simp)
        · exact .inl (by simp)
        · exact .inr HGE.out
    have HT5 := hid hT5
    clear hT5 k1 k2 f1 f2 HX HY H4
    generalize (w4.setCell ⟨S, 1, none⟩ .nilIface).setCell ⟨S, 2, none⟩ (.slice (some ⟨g, 0, none⟩) m m) = w5 at *
    have C3 := hid (errPrefix_calls w5.drew)
    have HX := hid (show w5.drew.cell? ⟨S, 2, none⟩ = some (.slice (some ⟨g, 0, none⟩) m m) by obtain ⟨z0, z1, z2, z3, hz⟩ := HT5.out.1; exact hz.cell 2 rfl)
    have HE : Hid (∀ (w6 : World) (g1 : Nat), Kept [] w5.drew w6 → Bytes w6 w6.heap.size (some ⟨g1, 0, none⟩) 4 [69, 82, 82, 32] → Calls Tryd.prog 74 #[.slice (some ⟨g, 0, none⟩) m m, .slice (some ⟨g1, 0, none⟩) 4 4] w6 fun e w' => e = .returned (.bool false) ∧ w' = w6) := hid (fun w6 g1 hk hy => prefix_false w6 (show Bytes w6 w5.heap.size (some ⟨g, 0, none⟩) m p from (show Bytes w5.drew w5.heap.size (some ⟨g, 0, none⟩) m p from HT5.out.2.1).below hk.nil_below) (Nat.le_refl _) hy HG.out.2 (by omega))
    have HS2 := hid (fun (w6 : World) (hk : Kept [] w5.drew w6) => (show w6.cell? ⟨S, 2, none⟩ = some (.slice (some ⟨g, 0, none⟩) m m) by obtain ⟨z0, z1, z2, z3, hz⟩ := HT5.out.1; exact (Blk.kept (show Blk w5.drew S _ _ from hz) hk (by simp)).cell 2 rfl))
    go_region_held3 (fun w' => w'.cell? ⟨S, 2, none⟩ = some (.slice (some ⟨g, 0, none⟩) m m))
      (exact HX.out)
      (first
        | (go_at_call 75; refine C3.out.mono ?_; rintro e w6 ⟨g1, rfl, hy, hk⟩; have H6 := hid (And.intro hy hk); have HX := hid (HS2.out w6 hk); clear hy hk)
        | (go_at_call 74; refine (HE.out _ _ H6.out.2 H6.out.1).mono ?_; rintro e w7 ⟨rfl, h7⟩; obtain rfl : w6 = w7 := h7.symm)
        | fail)
    all_goals
      go_wp2_with fail
      go_ret
      obtain ⟨t1, t2, t3, t4⟩ := HT5.out
      have hk6 : Kept [] w5 w6 := ⟨H6.out.2.os, H6.out.2.tape, H6.out.2.output, H6.out.2.size, H6.out.2.block⟩
      refine ⟨rfl, g, m, ?_, HGE.out, by rw [← HM.out]; exact Nat.le_refl _, ?_, ?_, t4.trans hk6 (by simp)⟩
      · rw [← HM.out]; exact t1.kept hk6 (by simp)
      · rw [← HM.out]; exact (t2.below hk6.nil_below).more hk6.size
      · rw [← HM.out]; exact t3.kept HF.out hk6 (by simp)
end Go.Proofs.YtkjfndkcagkhaaaDoor.ack
