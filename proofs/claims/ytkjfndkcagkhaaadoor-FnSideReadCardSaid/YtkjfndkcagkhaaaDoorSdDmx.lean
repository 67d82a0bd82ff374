/- impl.Demux, walked. -/
import Derived.Test.YtkjfndkcagkhaaaDoorSdBytes
set_option linter.unusedVariables false
attribute [local go_sem ↓] Go.wp_at_zero Go.wp_at_succ
namespace Go.Proofs.YtkjfndkcagkhaaaDoor.side
open Go.RowKit Lib frm mem text pkt rd

theorem told_of {w : World} {b : Nat} {v : Value} {l : List UInt8} (h : Bx w b v l) : Told w v l := by
  obtain ⟨lr, _, ho⟩ := h
  obtain ⟨A, c, e, hc, hb, _⟩ := own_bytes ho
  exact ⟨A, c, e, hc, hb⟩
def DemuxIs (w : World) (full1 full2 : List UInt8) (e : Ending) (w' : World) : Prop := ∃ v1 v2, e = .returned (.tuple #[v1, v2, .bool true]) ∧ Below w.heap.size w w' ∧ Told w' v1 full1 ∧ Told w' v2 full2
set_option maxRecDepth 100000 in
set_option maxHeartbeats 8000000 in
theorem demux_calls (b : Bool) (A : Option Addr) (n c m : Nat) (l : List UInt8) (ls : List (List UInt8)) (pe pu : Addr) (w : World) (hin : Bytes w w.heap.size A n l) (hl : l = lines ls) (hok : ∀ p ∈ ls, OkL (most b) p) (hn : n ≤ 140737488355328) (hnc : n ≤ c) (hT : Two w pe pu) (hpe : pe.block < w.heap.size) (hpu : pu.block < w.heap.size) (hm1 : 1 ≤ m) (hm2 : m ≤ 1000) (hl1 : (chOf 1 ls).length ≤ 140737488289792) (hl2 : (chOf 2 ls).length ≤ 140737488289792) :
    Calls Tryd.prog 21 #[.bool b, .slice A n c, .int .i64 m] w (DemuxIs w (chOf 1 ls) (chOf 2 ls)) := by
  have HI := hid (And.intro hin (And.intro hl (And.intro hok (And.intro hn (And.intro hnc (And.intro hT (And.intro hpe (And.intro hpu (And.intro hl1 hl2)))))))))
  have hm1' : (1 : Int) ≤ m := by omega
  have hm2' : (m : Int) ≤ 1000 := by omega
  have hmax : max (1 : Int) m = m := by omega
  obtain ⟨cur, hcur, hmk0⟩ := make_full m hm2
  have hmk : ∀ w : World, (Instr.makeSlice 25 (.int .i64 (max 1 (m : Int))) (.int .i64 (max 1 (m : Int)))).run Tryd.prog w = .ok (.slice (some ⟨w.heap.size, 0, none⟩) m m) (w.alloc (.cells cur.toArray U8)) := fun w => by rw [hmax]; exact hmk0 w
  clear hmk0 hmax
  have HM := hid (And.intro hm1 (And.intro hm2 hcur))
  have c1 := fun w => kindOf_calls b w
  have c2 := fun w => newReader_calls A n c w
  have c3 := fun R w => newDemuxer_calls b R w
  obtain ⟨kz, hkz⟩ : ∃ kz : Int, kz = if b then 1 else 0 := ⟨_, rfl⟩
  simp only [← hkz] at c1 c3
  obtain ⟨mz, hmz⟩ : ∃ mz : Nat, mz = most b := ⟨_, rfl⟩
  simp only [← hmz] at c3
  have HKZ := hid (And.intro hkz hmz)
  have C1 := hid c1
  have C2 := hid c2
  have C3 := hid c3
  clear hkz hmz c1 c2 c3
  clear hin hl hok hn hnc hT hpe hpu hl1 hl2 hm1 hm2 hcur
  go_enter Tryd.func21, Tryd.ntmps21
  go_wp2_with fail
  refine (C1.out _).mono ?_
  rintro e w1 ⟨rfl, hw⟩
  obtain rfl : w = w1 := hw.symm
  clear hw
  go_wp2_with fail
  refine (C2.out _).mono ?_
  rintro e w1 ⟨rfl, rfl⟩
  go_wp2_with fail
  refine (C3.out _ _).mono ?_
  rintro e w1 ⟨rfl, hw1⟩
  have hS1 : w1.heap.size = w.heap.size + 3 := by rw [hw1]; simp
  have hD1 : Blk w1 (w.heap.size + 2) TD #[.int .i8 kz, .iface 81 (.pointer (some ⟨w.heap.size, 0, none⟩)), .pointer (some ⟨w.heap.size + 1, 0, none⟩), .int .i64 (mz : Nat), .slice none 0 0, .nilIface] := by
    rw [hw1]
    have := Blk.new ((w.alloc (.cells #[.slice A n c, .int .i64 0, .int .i64 (-1)] 119)).alloc (.cells #[.iface 81 (.pointer (some ⟨w.heap.size, 0, none⟩)), .nilIface, .slice none 0 0, .int .u8 0, .int .u8 0, .int .u8 0, .int .u8 0] 133)) TD #[.int .i8 kz, .iface 81 (.pointer (some ⟨w.heap.size, 0, none⟩)), .pointer (some ⟨w.heap.size + 1, 0, none⟩), .int .i64 (mz : Nat), .slice none 0 0, .nilIface]
    simpa using this
  have hSc1 : Blk w1 (w.heap.size + 1) 133 #[.iface 81 (.pointer (some ⟨w.heap.size, 0, none⟩)), .nilIface, .slice none 0 0, .int .u8 0, .int .u8 0, .int .u8 0, .int .u8 0] := by
    rw [hw1]
    refine Blk.alloc ?_ _
    have := Blk.new (w.alloc (.cells #[.slice A n c, .int .i64 0, .int .i64 (-1)] 119)) 133 #[.iface 81 (.pointer (some ⟨w.heap.size, 0, none⟩)), .nilIface, .slice none 0 0, .int .u8 0, .int .u8 0, .int .u8 0, .int .u8 0]
    simpa using this
  have hR1 : Blk w1 w.heap.size 119 #[.slice A n c, .int .i64 0, .int .i64 (-1)] := by
    rw [hw1]
    exact ((Blk.new w _ _).alloc _).alloc _
  have hK1 : Kept [] w w1 := by rw [hw1]; exact (((Kept.refl [] w).alloc _).alloc _).alloc _
  have H1 := hid (And.intro hS1 (And.intro hD1 (And.intro hSc1 (And.intro hR1 hK1))))
  clear hS1 hD1 hSc1 hR1 hK1 hw1
  rw [show (w.alloc (.cells #[.slice A n c, .int .i64 0, .int .i64 (-1)] 119)).heap.size + 1 = w.heap.size + 2 by simp]
  obtain ⟨z, hz⟩ : ∃ z, z = w.heap.size := ⟨_, rfl⟩
  rw [← hz] at H1 ⊢
  have HZ := hid hz
  clear hz
  obtain ⟨w2, hw2⟩ : ∃ w2, w2 = (w1.alloc (.cells #[.slice none 0 0, .int .i64 0, .int .i8 0] Bty)).alloc (.cells #[.slice none 0 0, .int .i64 0, .int .i8 0] Bty) := ⟨_, rfl⟩
  have hk2 : Kept [] w1 w2 := by rw [hw2]; exact ((Kept.refl [] w1).alloc _).alloc _
  have hS2 : w2.heap.size = z + 5 := by rw [hw2]; simp; exact H1.out.1
  have hda : Blk w2 (z + 3) Bty #[.slice none 0 0, .int .i64 0, .int .i8 0] := by
    rw [hw2]
    have := (Blk.new w1 Bty #[.slice none 0 0, .int .i64 0, .int .i8 0]).alloc (.cells #[.slice none 0 0, .int .i64 0, .int .i8 0] Bty)
    rwa [H1.out.1] at this
  have hpr : Blk w2 (z + 4) Bty #[.slice none 0 0, .int .i64 0, .int .i8 0] := by
    rw [hw2]
    have := Blk.new (w1.alloc (.cells #[.slice none 0 0, .int .i64 0, .int .i8 0] Bty)) Bty #[.slice none 0 0, .int .i64 0, .int .i8 0]
    simp only [World.alloc, Array.size_push] at this
    rwa [H1.out.1] at this
  have hD2 := H1.out.2.1.kept hk2 (by simp)
  have HDF := hid hD2
  have d5 : ((w1.alloc (.cells #[.slice none 0 0, .int .i64 0, .int .i8 0] Bty)).alloc (.cells #[.slice none 0 0, .int .i64 0, .int .i8 0] Bty)).cell? ⟨z + 2, 5, none⟩ = some .nilIface := by rw [← hw2]; exact hD2.cell 5 rfl
  have f5 : ((w1.alloc (.cells #[.slice none 0 0, .int .i64 0, .int .i8 0] Bty)).alloc (.cells #[.slice none 0 0, .int .i64 0, .int .i8 0] Bty)).frozen? ⟨z + 2, 5, none⟩ = false := by rw [← hw2]; exact hD2.frozen 5
  have H2 := hid (And.intro hS2 (And.intro hda (And.intro hpr (And.intro hk2 hw2))))
  clear hS2 hda hpr hk2 hw2 hD2 hm1'
  have HZ3 : Hid (w1.heap.size = z + 3) := hid H1.out.1
  obtain ⟨T, hTT⟩ : ∃ T, T = total ls := ⟨_, rfl⟩
  have HTT := hid hTT
  clear hTT
  go_wp2_with fail
  rw [← H2.out.2.2.2.2]
  obtain ⟨hS2, hda, hpr, hk2, -⟩ := H2.out
  have hz3 := HZ3.out
  obtain ⟨K, hKe⟩ : ∃ K : Cst, K = ⟨z, z + 1, z, z + 2, w1.heap.size + 1, n, c, A, l, mz, kz, pe, pu⟩ := ⟨_, rfl⟩
  have hKD : K.D = z + 2 := by rw [hKe]
  have hKb : K.bp = w1.heap.size + 1 := by rw [hKe]
  obtain ⟨w3, hw3⟩ : ∃ w3, w3 = (w2.setCell ⟨z + 2, 5, none⟩ (.iface 66 (.pointer (some ⟨w1.heap.size + 1, 0, none⟩)))).alloc (.cells cur.toArray U8) := ⟨_, rfl⟩
  rw [← hw3]
  obtain ⟨hin, hl, hok, hn, hnc, hT, hpe, hpu, hl1, hl2⟩ := HI.out
  have hzw : z = w.heap.size := HZ.out
  have hkD : Kept [z + 2] w2 w3 := by rw [hw3]; exact ((Kept.refl [z + 2] w2).setCell (p := ⟨z + 2, 5, none⟩) (.inl (by simp)) _).alloc _
  have hk13 : Kept [z + 2] w1 w3 := (hk2.more (by simp)).trans_ hkD
  have hk03 : Kept [] w w3 := H1.out.2.2.2.2.trans hk13 (fun x hx => by simp at hx; omega)
  have hbel : Below z w w3 := by rw [hzw]; exact hk03.nil_below
  have hS3 : w3.heap.size = z + 6 := by rw [hw3]; simp [World.setCell]; omega
  have hFine : K.Fine := by
    subst hKe
    refine ⟨hn, hnc, by show z ≤ z + 1; omega, Nat.le_refl _, by show z ≤ z + 2; omega, by show z ≤ w1.heap.size + 1; omega, by show _ < z; rw [hzw]; exact hT.eofg, by show _ < z; rw [hzw]; exact hT.unxg, by show _ < z; rw [hzw]; exact hpe, by show _ < z; rw [hzw]; exact hpu, ?_⟩
    show mz ≤ 65520
    rw [HKZ.out.2]; unfold most; split <;> omega
  have hRun : Run K w w1.heap.size (w1.heap.size + 1 + 1) m (chOf 1 ls) (chOf 2 ls) w3 [] (.slice none 0 0) cur ls [] [] none 0 0 0 .nilIface (.slice none 0 0) (.slice none 0 0) := by
    subst hKe
    have hrow : Blk w3 (w1.heap.size + 1 + 1) U8 cur.toArray := by
      rw [hw3]
      have := Blk.new (w2.setCell ⟨z + 2, 5, none⟩ (.iface 66 (.pointer (some ⟨w1.heap.size + 1, 0, none⟩)))) U8 cur.toArray
      rwa [show (w2.setCell ⟨z + 2, 5, none⟩ (.iface 66 (.pointer (some ⟨w1.heap.size + 1, 0, none⟩)))).heap.size = w1.heap.size + 1 + 1 by simp [World.setCell]; omega] at this
    have hdm : Blk w3 (z + 2) TD #[.int .i8 kz, .iface 81 (.pointer (some ⟨z, 0, none⟩)), .pointer (some ⟨z + 1, 0, none⟩), .int .i64 (mz : Nat), .slice none 0 0, .iface 66 (.pointer (some ⟨w1.heap.size + 1, 0, none⟩))] := by
      rw [hw3]
      refine Blk.alloc ?_ _
      have := HDF.out.set_ 5 (.iface 66 (.pointer (some ⟨w1.heap.size + 1, 0, none⟩)))
      simpa using this
    have hbp : Blk w3 (w1.heap.size + 1) Bty #[.slice none 0 0, .int .i64 0, .int .i8 0] := by
      have := hpr.kept hkD (by simp)
      rwa [show w1.heap.size + 1 = z + 4 by omega]
    have hbd : Blk w3 w1.heap.size Bty #[.slice none 0 0, .int .i64 0, .int .i8 0] := by
      have := hda.kept hkD (by simp)
      rwa [hz3]
    refine ⟨⟨⟨_, _, _, _, H1.out.2.2.1.kept hk13 (by simp)⟩, .inl ⟨rfl, rfl⟩, Nat.le_refl _, ⟨-1, ?_⟩, Nat.zero_le _, by simpa using hl, ?_, ?_, hdm, ⟨0, hbp, World.ownsRow_nil _ _ _ _⟩, ⟨none, 0, rfl, Nat.le_refl _, Bytes.nil_, by simp [blkOf]⟩, by simp [blkOf], by simp [Value.ownBlock], hT.kept hk03, by show z ≤ _; omega⟩,
      ⟨0, hbd, World.ownsRow_nil _ _ _ _⟩, hrow, HM.out.2.2, hbel, by simp, by simp, by show z ≤ _; omega, by show z ≤ _; omega, by simp [Value.ownBlock], ?_, ?_, by simp [Value.ownBlock]⟩
    · exact H1.out.2.2.2.1.kept hk13 (by simp)
    · intro p hp
      show OkL mz p
      rw [HKZ.out.2]; exact hok p hp
    · have := (hin.below (by rw [← hzw]; exact hbel : Below w.heap.size w w3))
      rwa [← hzw] at this
    · simp [foot, blkOf, Value.ownBlock]; omega
    · simp [foot, blkOf, Value.ownBlock]; omega
  have HFULL := hid (And.intro hl1 hl2)
  have HKB : Hid (K.B = w.heap.size) := hid (by rw [hKe]; exact hzw)
  have HPE : Hid (K.pe = pe) := hid (by rw [hKe])
  rw [← hKD]
  obtain ⟨bd, hbd⟩ : ∃ bd, bd = w1.heap.size := ⟨_, rfl⟩
  obtain ⟨g, hg⟩ : ∃ g, g = w1.heap.size + 1 + 1 := ⟨_, rfl⟩
  rw [← hg, ← hKb, ← hbd]
  rw [← hg, ← hbd] at hRun
  have HRUN := hid hRun
  have HF := hid hFine
  clear hS2 hda hpr hk2 hz3 hKe hKD hKb hw3 hin hl hok hn hnc hT hpe hpu hl1 hl2 hzw hkD hk13 hk03 hbel hS3 hFine hRun hbd hg d5 f5 hmk
  go_loopg [13] T (fun G nv wr => ∃ (outd : List UInt8) (vd : Value) (cur' : List Value) (ls' : List (List UInt8)) (pend' prog' : List UInt8) (PA' : Option Addr) (pn' pc' i' : Nat) (ev' pv' pb' : Value), Hid (total ls' + pend'.length ≤ G) ∧ Hid (Run K w bd g m (chOf 1 ls) (chOf 2 ls) wr outd vd cur' ls' pend' prog' PA' pn' pc' i' ev' pv' pb'))
  case atStart => exact ⟨[], _, cur, ls, [], [], none, 0, 0, 0, _, _, _, hid (by have := HTT.out; simp; omega), HRUN⟩
  case round =>
    obtain ⟨outd, vd, cur', ls', pend', prog', PA', pn', pc', i', ev', pv', pb', hG, hR⟩ := hrel
    have hfull := congrArg List.length hR.out.prog
    have hfull1 := congrArg List.length hR.out.data
    simp only [List.length_append] at hfull hfull1
    have c4 := hid (read_calls K wr ls' pend' prog' PA' pn' pc' i' ev' pv' pb' HF.out hR.out.st (by have := HFULL.out.2; omega) g m cur' hR.out.row hR.out.gB hR.out.gf HM.out.1 hR.out.len HM.out.2.1)
    have HOL := hid (show outd.length + pend'.length + (chOf 1 ls').length ≤ 140737488289792 by have := HFULL.out.1; omega)
    clear hfull hfull1
    go_wp2_with fail
    refine c4.out.mono ?_
    rintro e w4 ⟨out, cur2, ls2, pend2, prog2, PA2, pn2, pc2, i2, ev2, pv2, pb2, hP, hor⟩
    have HP := hid hP
    obtain ⟨q, hq⟩ : ∃ q, q = out.length := ⟨_, rfl⟩
    have HQ := hid hq
    have hqm : q ≤ m := by rw [hq]; exact hP.le
    have hs := slice_to .i64 (some ⟨g, 0, none⟩) m m q hqm
    have c5 : Hid (Calls Tryd.prog 42 #[.pointer (some ⟨bd, 0, none⟩), .slice (some ⟨g, 0, none⟩) q m] w4 (Wrote bd vd (outd ++ out) q w4)) := hid (by
      have hx := (hR.out.read HF.out hP).1
      have hlen := congrArg List.length hP.data
      simp only [List.length_append] at hlen
      have := HOL.out
      by_cases h0 : out = []
      · subst h0
        rw [hq, List.append_nil]
        exact write_none bd vd outd (some ⟨g, 0, none⟩) m w4 hx (by omega)
      · rw [hq]
        refine write_calls bd vd outd out (some ⟨g, 0, none⟩) m w4 hx ⟨g, 0, rfl, fun j v hj => ?_⟩ (List.length_pos_iff.2 h0) (by simp [blkOf]; exact fun e => hR.out.lo.1 e.symm) (by omega)
        rw [← hP.front] at hj
        have hjl : j < out.length := by
          have := (List.getElem?_eq_some_iff.1 hj).1
          simp at this; omega
        rw [List.getElem?_take, if_pos hjl] at hj
        exact hP.row.cell _ (by simpa using hj))
    rw [← hq] at hor
    clear hP hq c4 hqm
    rcases hor with ⟨rfl, hqe⟩ | ⟨rfl, hl0, hp0⟩
    · have HE := hid hqe
      clear hqe
      go_wp2_with fail
      refine c5.out.mono ?_
      rintro e w5 ⟨rfl, vd5, hx5, hk5, hn5⟩
      have HR5 := hid (hR.out.write HF.out HP.out hx5 hk5 hn5)
      clear hx5 hk5 hn5 c5 hs
      go_wp2_with fail
      go_roundg (total ls2 + pend2.length)
      case measure =>
        have h1 := hG.out
        have h2 := HP.out.lt (fun h => by have e1 := HQ.out; rw [h] at e1; have e2 := HE.out; have e3 := HM.out.1; simp only [List.length_nil] at e1; omega)
        omega
      case rel => exact ⟨outd ++ out, vd5, cur2, ls2, pend2, prog2, PA2, pn2, pc2, i2, ev2, pv2, pb2, hid (Nat.le_refl _), HR5⟩
    · have HE := hid (And.intro hl0 hp0)
      clear hl0 hp0
      go_wp2_with fail
      refine c5.out.mono ?_
      rintro e w5 ⟨rfl, vd5, hx5, hk5, hn5⟩
      have hR5 := hR.out.write HF.out HP.out hx5 hk5 hn5
      have HR5 := hid hR5
      have qE : w5.cell? ⟨0, 0, none⟩ = some (.iface 184 (.pointer (some K.pe))) := hR5.st.two.eof
      have q2 := fun w => eq_same w K.pe
      have hvd5 : ∃ A c, vd5 = .slice A (outd ++ out).length c ∧ (outd ++ out).length ≤ c := by obtain ⟨lr, _, ho⟩ := hR5.dx; exact row_some ho
      obtain ⟨A5, c5', rfl, -⟩ := hvd5
      have hpb5 : ∃ A c, pb2 = .slice A prog2.length c ∧ prog2.length ≤ c := by obtain ⟨lr, _, ho⟩ := hR5.st.px; exact row_some ho
      obtain ⟨A6, c6, rfl, -⟩ := hpb5
      clear hx5 hk5 hn5 c5 hs hR5
      go_wp2_with fail
      have HB1 := hid (fun k => bufBytes_calls bd _ _ (w5.drewN k) (HR5.out.dx.kept ((Kept.refl [] w5).drewN k) (by simp) (by simp)))
      have HB2 := hid (fun k => bufBytes_calls K.bp _ _ (w5.drewN k) (HR5.out.st.px.kept ((Kept.refl [] w5).drewN k) (by simp) (by simp)))
      go_quiet (first | (go_at_call_of 31 (Value.pointer (some ⟨bd, 0, none⟩)); exact Calls.quiet_of (HB1.out _)) | (go_at_call_of 31 (Value.pointer (some ⟨K.bp, 0, none⟩)); exact Calls.quiet_of (HB2.out _)))
      go_wp2_with fail
      refine bodyPost_ret (by simp [results, Tryd.results21, go_sem]; rfl) rfl ?_
      obtain ⟨rfl, rfl⟩ := HE.out
      have hR5 := HR5.out
      have e1 : chOf 1 ls = outd ++ out := by have := hR5.data; simpa [chOf] using this
      have e2 : chOf 2 ls = prog2 := by have := hR5.prog; simpa [chOf] using this
      have hkq : Kept [] w5 (w5.drewN nq) := (Kept.refl [] w5).drewN nq
      rw [e1, e2]
      have t1 := told_of (hR5.dx.kept hkq (by simp) (by simp))
      rw [List.length_append] at t1
      refine ⟨_, _, rfl, ?_, t1, told_of (hR5.st.px.kept hkq (by simp) (by simp))⟩
      have h1 := hR5.below
      rw [HKB.out] at h1
      exact h1.trans (hkq.below h1.size (by simp))
end Go.Proofs.YtkjfndkcagkhaaaDoor.side
