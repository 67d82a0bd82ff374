/- sideband.Demuxer.nextPackData, where a line comes. -/
import Derived.Test.YtkjfndkcagkhaaaDoorSdNpd
import Derived.Test.YtkjfndkcagkhaaaDoorHeld
set_option linter.unusedVariables false
attribute [local go_sem ↓] Go.wp_at_zero Go.wp_at_succ
namespace Go.Proofs.YtkjfndkcagkhaaaDoor.side
open Go.RowKit Lib frm mem text pkt rd

/-- behind the line's reading, ahead of the channel's choice -/
structure Line1 (K : Cst) (w w1 : World) (rest : List (List UInt8)) (ch : UInt8) (t prog : List UInt8) (PA PA1 : Option Addr) (pc1 i : Nat) (pv pb : Value) : Prop where
  st : St K w1 rest [] prog PA1 (t.length + 1) pc1 i .nilIface pv pb
  kept : Kept (foot K PA pb) w w1
  new : ∀ y ∈ foot K PA1 pb, y ∈ foot K PA pb ∨ w.heap.size ≤ y
  le : t.length + 1 ≤ pc1
  by_ : Bytes w1 w1.heap.size PA1 (t.length + 1) (ch :: t)
def LineIs (K : Cst) (w : World) (rest : List (List UInt8)) (ch : UInt8) (t prog : List UInt8) (PA : Option Addr) (pv pb : Value) (e : Ending) (w1 : World) : Prop :=
  e = .returned (.bool true) ∧ ∃ PA1 pc1 i, Line1 K w w1 rest ch t prog PA PA1 pc1 i pv pb
theorem scan_calls (K : Cst) (w : World) (rest : List (List UInt8)) (ch : UInt8) (t prog : List UInt8) (PA : Option Addr) (pn pc i : Nat) (ev pv pb : Value) (hK : K.Fine) (h : St K w ((ch :: t) :: rest) [] prog PA pn pc i ev pv pb) :
    Calls Tryd.prog 50 #[.pointer (some ⟨K.S, 0, none⟩)] w (LineIs K w rest ch t prog PA pv pb) := by
  obtain ⟨⟨_, h1⟩, ⟨_, h2⟩, ⟨_, h3⟩, lr, _, hrow⟩ := h.blks
  have hRS : K.R ≠ K.S := Blk.ne_ h2 h1 (by decide)
  have hll : (line (ch :: t)).length = 4 + (ch :: t).length := by rw [line_len]; omega
  have hrest := h.rest
  have hle := congrArg List.length hrest
  rw [lines, List.flatMap_cons, List.length_append, hll, List.length_drop, h.inp.len] at hle
  have hl2 : (ch :: t).length = t.length + 1 := rfl
  have c := scan_line K.B K.S K.R ev PA pn pc K.A K.n K.c i K.l (ch :: t) K.pe K.pu w h.sc h.pay h.pn h.pay.most h.rd (by omega) hK.n hK.nc h.inp hK.R hK.S hRS h.two hK.eof (by
    rw [hrest, lines, List.flatMap_cons, ← hll]; exact List.take_left' rfl) (h.ok _ (by simp)).1
  refine c.mono ?_
  rintro e w1 ⟨rfl, PA1, pc1, hs, hp, hpc, hb, hr, hk, hnew⟩
  have hst := h.scan hK hs hp hpc hr hk hnew (by simp)
  refine ⟨rfl, PA1, pc1, _, hst, hk.more (by simp [foot]; intro x hx; exact .inl (.inr (.inr (.inr (.inr (.inl hx)))))), fun y hy => ?_, hpc, hb⟩
  simp only [foot, List.mem_cons, List.mem_append] at hy ⊢
  rcases hy with hy | hy | hy | hy | hy | hy
  · exact .inl (.inl hy)
  · exact .inl (.inr (.inl hy))
  · exact .inl (.inr (.inr (.inl hy)))
  · exact .inl (.inr (.inr (.inr (.inl hy))))
  · rcases hnew y hy with h6 | h6
    · exact .inl (.inr (.inr (.inr (.inr (.inl h6)))))
    · exact .inr h6
  · exact .inl (.inr (.inr (.inr (.inr (.inr hy)))))
theorem bytes_tail {w : World} {B g o k : Nat} {ch : UInt8} {t : List UInt8} (h : Bytes w B (some ⟨g, o, none⟩) (k + 1) (ch :: t)) : Bytes w B (some ⟨g, o + 1, none⟩) k t := by
  have := h.cutAt (k := 1) (cap := k + 2) (by omega) (by omega)
  rw [if_neg (by omega)] at this
  simpa [Addr.add] using this
set_option maxRecDepth 100000 in
set_option maxHeartbeats 8000000 in
theorem npd_line (K : Cst) (w : World) (rest : List (List UInt8)) (ch : UInt8) (t prog : List UInt8) (PA : Option Addr) (pn pc i : Nat) (ev pv pb : Value) (hK : K.Fine) (h : St K w ((ch :: t) :: rest) [] prog PA pn pc i ev pv pb) (ht : t ≠ []) (hch : ch = 1 ∨ ch = 2) (hlim : prog.length + t.length ≤ 140737488355328) :
    Calls Tryd.prog 85 #[.pointer (some ⟨K.D, 0, none⟩)] w (NextIs K w ((ch :: t) :: rest) [] prog PA pb) := by
  obtain ⟨X, m, rfl, hm, hb, hat⟩ := id h.pd
  have c1 := hid (getPending_none K.D _ _ _ _ _ X m w h.dm)
  have c2 := hid (scan_calls K w rest ch t prog PA pn pc i ev _ pb hK h)
  have k2 : w.cell? ⟨K.D, 2, none⟩ = some (.pointer (some ⟨K.S, 0, none⟩)) := h.dm.cell 2 rfl
  have hmx : ((t.length + 1 : Nat) : Int) ≤ K.mx := by have := (h.ok (ch :: t) (by simp)).2.1; simp at this; omega
  have hmx2 : (K.mx : Int) ≤ 65520 := by have := hK.mx; omega
  have HT := hid ht
  have HCH := hid hch
  have HLIM := hid hlim
  clear h hm hb hat ht hlim hch
  obtain ⟨q, hq⟩ : ∃ q, q = t.length + 1 := ⟨_, rfl⟩
  rw [← hq] at hmx
  have HQ := hid hq
  have hq0 : ¬ ((q : Int) = 0) := by omega
  clear hq
  go_enter Tryd.func85, Tryd.ntmps85
  go_wp2_with fail
  refine c1.out.mono ?_
  rintro e w2 ⟨rfl, hw2⟩
  obtain rfl : w = w2 := hw2.symm
  clear hw2 c1
  go_wp2_with fail
  refine c2.out.mono ?_
  rintro e w2 ⟨rfl, PA1, pc1, i1, hL⟩
  have HL := hid hL
  have hb2 := hL.by_
  rw [← HQ.out] at hb2
  have hst := hL.st
  rw [← HQ.out] at hst
  have c3 := hid (bytes_calls K.S K.R _ _ w2 hst.sc)
  have q2 : w2.cell? ⟨K.D, 2, none⟩ = some (.pointer (some ⟨K.S, 0, none⟩)) := hst.dm.cell 2 rfl
  have q3 : w2.cell? ⟨K.D, 3, none⟩ = some (.int .i64 K.mx) := hst.dm.cell 3 rfl
  have q5 : w2.cell? ⟨K.D, 5, none⟩ = some (.iface 66 (.pointer (some ⟨K.bp, 0, none⟩))) := hst.dm.cell 5 rfl
  obtain ⟨g, o, b, rfl, hgl, hcl, hdr, hb256⟩ := hb2.next (k := 0) (by have := HQ.out; omega)
  obtain rfl : b = ch := by simp at hdr; exact hdr.symm
  have hcl0 : w2.cell? ⟨g, o, none⟩ = some (.int .u8 b.toNat) := by simpa using hcl
  have HBT : Hid (Bytes w2 w2.heap.size (some ⟨g, o + 1, none⟩) (q - 1) t) := hid (by
    have := HQ.out
    subst this
    exact bytes_tail hb2)
  have hpc : (q : Int) ≤ pc1 := by have := hL.le; have := HQ.out; omega
  have hp1 : ¬ (pc1 = 1) := by have := List.length_pos_iff.2 HT.out; have := hL.le; omega
  have hq2 : (1 : Int) ≤ q := by omega
  have hq1 : (0 : Int) < q := by omega
  have H2 := hid (And.intro hst hb2)
  have HG := hid hgl
  clear hL hb2 hst hcl hdr c2 k2 hgl
  go_wp2_with fail
  refine c3.out.mono ?_
  rintro e w3 ⟨rfl, hw3⟩
  obtain rfl : w2 = w3 := hw3.symm
  clear hw3 c3
  rcases HCH.out with rfl | rfl
  · have hcl1 : w2.cell? ⟨g, o, none⟩ = some (.int .u8 1) := hcl0
    clear hcl0
    go_wp2_with fail
    go_ret2
    obtain ⟨hst, hb2⟩ := H2.out
    have hL := HL.out
    have hqe := HQ.out
    subst hqe
    refine ⟨t, some ⟨g, o + 1, none⟩, pc1 - 1, rest, prog, _, _, _, _, _, _, pb, ⟨hL.st, hL.kept, hL.new, by have := hL.le; omega, HBT.out, fun y hy _ => hy⟩, .inl ⟨rfl, ⟨?_, ?_, ?_, fun e => absurd e HT.out⟩⟩⟩
    · simp [chOf_cons]
    · simp [chOf_cons]
    · rw [total_cons]; simp; omega
  · have hcl1 : w2.cell? ⟨g, o, none⟩ = some (.int .u8 2) := hcl0
    clear hcl0
    go_wp2_with fail
    have hna : ∀ w : World, Sem.run Tryd.prog (nilAhead 328 66 (.pointer (some ⟨K.bp, 0, none⟩)) "Write") w = .ok (some false) w := fun _ => by kernel_rfl
    have hme : ∀ w : World, Sem.run Tryd.prog (method 328 66 (.pointer (some ⟨K.bp, 0, none⟩)) "Write") w = .ok (42, .pointer (some ⟨K.bp, 0, none⟩)) w := fun _ => by kernel_rfl
    have ht1 : t.length = q - 1 := by have := HQ.out; omega
    have hbx := H2.out.1.px
    have hgb : g ≠ K.bp := by
      obtain ⟨_, h4⟩ := pay_typed (x := g) H2.out.1.pay (by simp [blkOf])
      obtain ⟨_, _, ⟨_, h3⟩, _⟩ := H2.out.1.blks
      exact Blk.ne_ h4 h3 (by decide)
    have c4 := hid (fun w' (hk : Kept [] w2 w') => write_calls K.bp pb prog t (some ⟨g, o + 1, none⟩) (pc1 - 1) w' (hbx.kept hk (by simp) (by simp)) ((src_of_bytes HBT.out (by have := HT.out; have := List.length_pos_iff.2 this; omega)).kept hk (by simp)) (List.length_pos_iff.2 HT.out) (by simp [blkOf]; exact hgb) HLIM.out)
    rw [ht1] at c4
    have HD5 := hid (H2.out.1.dm)
    clear hbx ht1
    try dsimp only [Act.put]
    refine wp_region_held_drew (S := fun w' => w'.cell? ⟨K.D, 5, none⟩ = some (.iface 66 (.pointer (some ⟨K.bp, 0, none⟩)))) (by kernel_rfl) q5 (fun _ => ?_)
    refine held.take 0 (.pointer (some ⟨K.D, 0, none⟩)) rfl (by kernel_rfl) (fun _ _ _ h => h) (Or.inl ⟨by rfl, fun wq hq => by go_simp⟩) q5 ?_
    refine held.take 1 (.pointer (some ⟨K.D, 0, none⟩)) rfl (by kernel_rfl) (fun _ _ _ h => h) (Or.inl ⟨by rfl, fun wq hq => by go_simp⟩) q5 ?_
    refine held.take 2 (.pointer (some ⟨K.D, 5, none⟩)) rfl (by kernel_rfl) (fun _ _ _ h => h) (Or.inl ⟨by rfl, fun wq hq => by go_simp⟩) q5 ?_
    refine held.take 3 (.iface 66 (.pointer (some ⟨K.bp, 0, none⟩))) rfl (by kernel_rfl) (fun _ _ _ h => h) (Or.inl ⟨by rfl, fun wq hq => by go_simp⟩) q5 ?_
    refine held.take 4 (.slice (some ⟨g, o, none⟩) q pc1) rfl (by kernel_rfl) (fun _ _ _ h => h) (Or.inl ⟨by rfl, fun wq hq => by go_simp⟩) q5 ?_
    refine held.take 5 (.slice (some ⟨g, o + 1, none⟩) (q - 1) (pc1 - 1)) rfl (by kernel_rfl) (fun _ _ _ h => h) (Or.inl ⟨by rfl, fun wq hq => by go_simp⟩) q5 ?_
    refine held.take 6 (.iface 66 (.pointer (some ⟨K.bp, 0, none⟩))) rfl (by kernel_rfl) (fun _ _ _ h => h) (Or.inl ⟨by rfl, fun wq hq => by go_simp⟩) q5 ?_
    refine held.take 7 (.iface 66 (.pointer (some ⟨K.bp, 0, none⟩))) rfl (by kernel_rfl) (fun _ _ _ h => h) (Or.inl ⟨by rfl, fun wq hq => by go_simp⟩) q5 ?_
    refine held.forced 8 (by kernel_rfl) rfl rfl (fun K' hK' => ?_)
    go_simp
    refine (c4.out _ ((Kept.refl [] w2).drew)).mono ?_
    rintro e w4 ⟨rfl, pb4, hbx4, hk4, hnew4⟩
    have q54 : w4.cell? ⟨K.D, 5, none⟩ = some (.iface 66 (.pointer (some ⟨K.bp, 0, none⟩))) := by
      have hbp : K.D ∉ K.bp :: pb.ownBlock.toList := by
        obtain ⟨_, _, ⟨_, h3⟩, lr, _, hrow⟩ := H2.out.1.blks
        simp only [List.mem_cons]
        rintro (h | h)
        · exact Blk.ne_ HD5.out h3 (by decide) h
        · obtain ⟨_, h5⟩ := row_typed hrow (show pb.ownBlock = some K.D by simpa using h)
          exact Blk.ne_ HD5.out h5 (by decide) rfl
      exact (HD5.out.kept (((Kept.refl [] w2).drew.more (T := K.bp :: pb.ownBlock.toList) (by simp)).trans_ hk4) hbp).cell 5 rfl
    refine hK' _ _ q54 ?_
    clear hK' K'
    have H4 := hid (And.intro hbx4 (And.intro hk4 hnew4))
    have HK3 := hid ((Kept.refl [] w2).drew)
    obtain ⟨w3, hw3⟩ : ∃ w3, w3 = w2.drew := ⟨_, rfl⟩
    rw [← hw3] at H4 HK3
    clear hbx4 hk4 hnew4 c4
    refine held.take 9 (.tuple #[.int .i64 ((q - 1 : Nat) : Int), .nilIface]) rfl (by kernel_rfl) (fun _ _ _ h => h) (Or.inl ⟨by rfl, fun wq hq => by go_simp⟩) q54 ?_
    refine held.take 10 (.int .i64 ((q - 1 : Nat) : Int)) rfl (by kernel_rfl) (fun _ _ _ h => h) (Or.inl ⟨by rfl, fun wq hq => by go_simp⟩) q54 ?_
    refine held.take 11 (.nilIface) rfl (by kernel_rfl) (fun _ _ _ h => h) (Or.inl ⟨by rfl, fun wq hq => by go_simp⟩) q54 ?_
    refine held.forced 12 (by kernel_rfl) rfl rfl (fun K' hK' => ?_)
    go_simp
    refine hK' _ _ q54 ?_
    clear hK' K'
    refine held.forced 13 (by kernel_rfl) rfl rfl (fun K' hK' => ?_)
    go_simp
    refine hK' _ _ q54 ?_
    clear hK' K'
    refine wpAnyH_done (by kernel_rfl) ?_ _
    clear q54 hw3
    go_wp2_with fail
    go_ret2
    obtain ⟨hbx4, hk4, hnew4⟩ := H4.out
    obtain ⟨hst, hb2⟩ := H2.out
    have hL := HL.out
    have hst4 := (hst.kept0 hK HK3.out).wrote hK hbx4 hk4 hnew4
    refine ⟨[], none, 0, rest, prog ++ t, _, _, _, _, _, _, pb4, ⟨hst4, ?_, fun y hy => ?_, Nat.le_refl _, Bytes.nil_, fun y hy => by simp [blkOf] at hy⟩, .inl ⟨rfl, ⟨?_, ?_, ?_, fun _ => ?_⟩⟩⟩
    · refine (hL.kept.trans HK3.out (by simp)).trans hk4 (fun x hx => .inl ?_)
      simp only [List.mem_cons] at hx
      simp only [foot, List.mem_cons, List.mem_append]
      rcases hx with hx | hx
      · exact .inr (.inr (.inr (.inl hx)))
      · exact .inr (.inr (.inr (.inr (.inr hx))))
    · have hz : w.heap.size ≤ w3.heap.size := Nat.le_trans hL.kept.size HK3.out.size
      simp only [foot, List.mem_cons, List.mem_append] at hy
      have old : y ∈ foot K (some ⟨g, o, none⟩) pb → y ∈ foot K PA pb ∨ w.heap.size ≤ y := hL.new y
      rcases hy with hy | hy | hy | hy | hy | hy
      · exact old (by simp [foot, hy])
      · exact old (by simp [foot, hy])
      · exact old (by simp [foot, hy])
      · exact old (by simp [foot, hy])
      · exact old (by simp [foot]; exact .inr (.inr (.inr (.inr (.inl hy)))))
      · rcases hnew4 y (by simpa using hy) with h6 | h6
        · exact old (by simp [foot]; exact .inr (.inr (.inr (.inr (.inr h6)))))
        · exact .inr (Nat.le_trans hz h6)
    · simp [chOf_cons]
    · simp [chOf_cons]
    · rw [total_cons]; simp
    · rw [total_cons]; simp
end Go.Proofs.YtkjfndkcagkhaaaDoor.side
