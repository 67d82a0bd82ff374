/- sideband.Demuxer.doRead. -/
import Derived.Test.YtkjfndkcagkhaaaDoorSdNpl
set_option linter.unusedVariables false
attribute [local go_sem ↓] Go.wp_at_zero Go.wp_at_succ
namespace Go.Proofs.YtkjfndkcagkhaaaDoor.side
open Go.RowKit Lib frm mem text pkt rd

theorem St.far {K : Cst} {w w1 : World} {ls : List (List UInt8)} {pend prog : List UInt8} {PA : Option Addr} {pn pc i : Nat} {ev pv pb : Value} {S : List Nat} (h : St K w ls pend prog PA pn pc i ev pv pb) (hK : K.Fine) (hk : Kept S w w1) (hS : ∀ y ∈ S, y ∉ foot K PA pb ∧ K.B ≤ y) : St K w1 ls pend prog PA pn pc i ev pv pb := by
  have hbel : Below K.B w w1 := hk.below h.lo (fun y hy => (hS y hy).2)
  have no : ∀ y, y ∈ foot K PA pb → y ∉ S := fun y hy hs => (hS y hs).1 hy
  obtain ⟨X, m, hpv, hm, hb, hat⟩ := h.pd
  have hpd : Bytes w1 w1.heap.size X pend.length pend := by
    by_cases h0 : pend = []
    · subst h0; exact Bytes.nil_
    · exact (bytes_keep hb hk (Nat.le_refl _) (fun x hx => no x (by simp [foot, hat x hx h0]))).more hk.size
  exact ⟨h.sc.kept hk (no _ (by simp [foot])), h.pay.kept hk (fun x hx => no x (by simp [foot, hx])), h.pn, h.rd.kept hk (no _ (by simp [foot])), h.le, h.rest, h.ok, h.inp.below hbel, h.dm.kept hk (no _ (by simp [foot])), h.px.kept hk (no _ (by simp [foot])) (fun x hx => no x (by simp [foot, hx])), ⟨X, m, hpv, hm, hpd, hat⟩, h.ap, h.lop, h.two.below hbel hK.eof hK.unx hK.pe hK.pu, Nat.le_trans h.lo hk.size⟩
/-- nextPackData, whatever the state -/
theorem npd_calls (K : Cst) (w : World) (ls : List (List UInt8)) (pend prog : List UInt8) (PA : Option Addr) (pn pc i : Nat) (ev pv pb : Value) (hK : K.Fine) (h : St K w ls pend prog PA pn pc i ev pv pb) (hlim : prog.length + (chOf 2 ls).length ≤ 140737488289792) :
    Calls Tryd.prog 85 #[.pointer (some ⟨K.D, 0, none⟩)] w (NextIs K w ls pend prog PA pb) := by
  by_cases h0 : pend = []
  · subst h0
    cases ls with
    | nil => exact npd_end K w prog PA pn pc i ev pv pb hK h
    | cons p rest =>
      obtain ⟨hg, _, t, ht, hp⟩ := h.ok p (by simp)
      have hlen := hg.1
      rcases hp with rfl | rfl
      · exact npd_line K w rest 1 t prog PA pn pc i ev pv pb hK h ht (.inl rfl) (by simp at hlen; omega)
      · exact npd_line K w rest 2 t prog PA pn pc i ev pv pb hK h ht (.inr rfl) (by simp at hlen; omega)
  · exact npd_pend K w ls pend prog PA pn pc i ev pv pb hK h h0
set_option maxRecDepth 100000 in
theorem slice_from2 (kk : IntKind) (A : Option Addr) (q c k : Nat) (hk : k ≤ q) : ∃ A', (∀ y ∈ blkOf A', y ∈ blkOf A) ∧ (∀ w B l, Bytes w B A q l → q ≤ c → Bytes w B A' (q - k) (l.drop k)) ∧
    (∀ w, (Instr.sliceAt 25 (.slice A q c) (some (.int kk k)) none none).run Tryd.prog w = .ok (.slice A' (q - k) (c - k)) w) := by
  refine ⟨if c = k then A else A.map (·.add k), fun y hy => ?_, fun w B l h hc => h.cutAt hk hc, fun w => ?_⟩
  · split at hy
    · exact hy
    · cases A with
      | none => exact hy
      | some a =>
        have hy : y ∈ [(a.add k).block] := hy
        rw [block_of_add] at hy
        exact hy
  · rw [run_sliceAt_slice (h := Tryd.underlying25), run_slice_l (ht := Tryd.underlying25) (h0 := by omega) (h1 := by omega), sizeByte]
    simp [Result.andThen, sliced]
/-- what doRead has done: the first k of the bytes x that were to come stand in the row of block g from off on -/
structure Did (K : Cst) (w : World) (PA0 : Option Addr) (pb0 : Value) (g off : Nat) (cur : List Value) (w' : World) (x : List UInt8) (cur' : List Value) (ls' : List (List UInt8)) (pend' prog' : List UInt8) (PA : Option Addr) (pn pc i : Nat) (ev pv pb : Value) : Prop where
  st : St K w' ls' pend' prog' PA pn pc i ev pv pb
  kept : Kept (g :: foot K PA0 pb0) w w'
  new : ∀ y ∈ foot K PA pb, y ∈ foot K PA0 pb0 ∨ w.heap.size ≤ y
  row : Blk w' g U8 cur'.toArray
  len : cur'.length = cur.length
  front : cur'.take (off + x.length) = cur.take off ++ byteCells x
structure Went (ls : List (List UInt8)) (pend prog : List UInt8) (ls' : List (List UInt8)) (x pend' prog' : List UInt8) : Prop where
  data : pend ++ chOf 1 ls = x ++ (pend' ++ chOf 1 ls')
  prog : prog ++ chOf 2 ls = prog' ++ chOf 2 ls'
  lt : total ls' + pend'.length < total ls + pend.length
def DoIs (K : Cst) (w : World) (ls : List (List UInt8)) (pend prog : List UInt8) (PA0 : Option Addr) (pb0 : Value) (g off m : Nat) (cur : List Value) (e : Ending) (w' : World) : Prop :=
  ∃ x cur' ls' pend' prog' PA pn pc i ev pv pb, Did K w PA0 pb0 g off cur w' x cur' ls' pend' prog' PA pn pc i ev pv pb ∧ x.length ≤ m ∧
    ((e = .returned (.tuple #[.int .i64 x.length, .nilIface]) ∧ Went ls pend prog ls' x pend' prog') ∨
     (e = .returned (.tuple #[.int .i64 x.length, .iface 184 (.pointer (some K.pe))]) ∧ x = [] ∧ pend = [] ∧ ls = [] ∧ ls' = [] ∧ pend' = [] ∧ prog' = prog))
theorem take_splice (cur : List Value) (off : Nat) (cs : List Value) (h : off + cs.length ≤ cur.length) : (splice cur off cs).take (off + cs.length) = cur.take off ++ cs := by
  have h1 : (cur.take off ++ cs).length = off + cs.length := by simp; omega
  unfold splice
  rw [← List.append_assoc, ← h1, List.take_left' rfl]
theorem len_splice (cur : List Value) (off : Nat) (cs : List Value) (h : off + cs.length ≤ cur.length) : (splice cur off cs).length = cur.length := by
  unfold splice
  simp
  omega
/-- the copying's end -/
theorem did_end {K : Cst} {w w1 w9 : World} {PA0 PA : Option Addr} {pb0 pb ev pv : Value} {g off pn pc i : Nat} {cur : List Value} {y : List UInt8} {ls' : List (List UInt8)} {pend' prog' : List UInt8} (hK : K.Fine) (hs : St K w1 ls' pend' prog' PA pn pc i ev pv pb) (hk : Kept (foot K PA0 pb0) w w1) (hnew : ∀ y ∈ foot K PA pb, y ∈ foot K PA0 pb0 ∨ w.heap.size ≤ y)
    (hg0 : g < w.heap.size) (hgB : K.B ≤ g) (hgf : g ∉ foot K PA0 pb0) (hfit : off + y.length ≤ cur.length) (h9 : w9.heap[g]? = some (.cells (splice cur off (byteCells y)).toArray U8 (0, 0))) (h8 : Kept [g] w1 w9) :
    Did K w PA0 pb0 g off cur w9 y (splice cur off (byteCells y)) ls' pend' prog' PA pn pc i ev pv pb := by
  have hyl : (byteCells y).length = y.length := by simp [byteCells]
  have hgn : g ∉ foot K PA pb := fun hm => by
    rcases hnew g hm with h | h
    · exact hgf h
    · omega
  refine ⟨hs.far hK h8 (fun z hz => by simp at hz; subst hz; exact ⟨hgn, hgB⟩), (hk.more (by intro z hz; exact .inl (List.mem_cons_of_mem _ hz))).trans h8 (by simp), hnew, h9, ?_, ?_⟩
  · rw [len_splice]; rw [hyl]; exact hfit
  · rw [← hyl, take_splice]; rw [hyl]; exact hfit
set_option maxRecDepth 100000 in
set_option maxHeartbeats 8000000 in
theorem doRead_calls (K : Cst) (w : World) (ls : List (List UInt8)) (pend prog : List UInt8) (PA : Option Addr) (pn pc i : Nat) (ev pv pb : Value) (hK : K.Fine) (h : St K w ls pend prog PA pn pc i ev pv pb) (hlim : prog.length + (chOf 2 ls).length ≤ 140737488289792)
    (g off m cb : Nat) (cur : List Value) (hrow : Blk w g U8 cur.toArray) (hgB : K.B ≤ g) (hgf : g ∉ foot K PA pb) (hm0 : 0 < m) (hfit : off + m ≤ cur.length) (hcl : cur.length ≤ 1000) :
    Calls Tryd.prog 64 #[.pointer (some ⟨K.D, 0, none⟩), .slice (some ⟨g, off, none⟩) m cb] w (DoIs K w ls pend prog PA pb g off m cur) := by
  have c1 := hid (npd_calls K w ls pend prog PA pn pc i ev pv pb hK h hlim)
  have HG := hid (And.intro hrow (And.intro hgB (And.intro hgf (And.intro hfit hcl))))
  have hm' : (m : Int) ≤ 1000 := by omega
  have HM := hid hm0
  have HB0 := hid h.lo
  clear h hlim hrow hgB hgf hfit hcl hm0
  go_enter Tryd.func64, Tryd.ntmps64
  go_wp2_with fail
  refine c1.out.mono ?_
  rintro e w1 ⟨x, X, mx, ls', prog', PA1, pn1, pc1, i1, ev1, pv1, pb1, hN, hor⟩
  have HN := hid hN
  obtain ⟨q, hq⟩ : ∃ q, q = x.length := ⟨_, rfl⟩
  have HQ := hid hq
  have HROW1 := hid (HG.out.1.kept hN.kept HG.out.2.2.1)
  have HXB := hid hN.by_
  have HXM := hid hN.m
  have qD := hN.st.dm.frozen 4
  have qC := hN.st.dm.cell 4 rfl
  rw [← hq] at hor HXB HXM
  clear hN hq c1
  by_cases hbig : m < q
  · -- more than what is asked for: the rest is pending
    rcases hor with ⟨rfl, hG⟩ | ⟨rfl, hx0, _⟩
    · have HGO := hid hG
      have hbig' : (m : Int) < q := by omega
      have hqm : ¬ ((q : Int) < m) := by omega
      obtain ⟨A', hA1, hA2, hs⟩ := slice_from2 .i64 X q mx m (by omega)
      have hs2 := slice_to .i64 X q mx m (by have := HXM.out; omega)
      have HA := hid (And.intro hA1 hA2)
      have HBIG := hid hbig
      have hyl : (byteCells (x.take m)).length = m := by have := HQ.out; simp [byteCells]; omega
      have hdl : (x.drop m).length = q - m := by have := HQ.out; simp; omega
      obtain ⟨w2, hw2⟩ : ∃ w2, w2 = w1.setCell ⟨K.D, 4, none⟩ (.slice A' (q - m) (mx - m)) := ⟨_, rfl⟩
      have hst2 : St K w2 ls' (x.drop m) prog' PA1 pn1 pc1 i1 ev1 (.slice A' (q - m) (mx - m)) pb1 := by
        have := HN.out.st.pend_ hK (p2 := x.drop m) (X := A') (m := mx - m) (by rw [hdl]; have := HXM.out; omega) (by rw [hdl]; exact hA2 _ _ _ HXB.out HXM.out) (fun y hy h0 => HN.out.at_ y (hA1 y hy) (by rintro rfl; simp at h0))
        rw [hdl] at this
        rw [hw2]; exact this
      have hk2 : Kept [K.D] w1 w2 := by rw [hw2]; exact (Kept.refl [K.D] w1).setCell (p := ⟨K.D, 4, none⟩) (.inl (by simp)) _
      have hgD : g ≠ K.D := fun e => HG.out.2.2.1 (by rw [e]; simp [foot])
      have hx2 : Bytes w2 w2.heap.size X q x := (bytes_keep HXB.out hk2 (Nat.le_refl _) (fun z hz => by
        obtain ⟨_, h4⟩ := pay_typed HN.out.st.pay (HN.out.at_ z hz (by rintro rfl; have := HQ.out; simp at this; omega))
        simpa using Blk.ne_ h4 HN.out.st.dm (by decide))).more hk2.size
      have HROW := hid (show w2.heap[g]? = some (.cells cur.toArray U8 (0, 0)) from HROW1.out.kept hk2 (by simpa using hgD))
      have HCN := hid (show (byteCells (x.take m)).length = Nat.min m m by rw [hyl]; simp)
      have HFIT := hid (show off + (byteCells (x.take m)).length ≤ cur.length by rw [hyl]; exact HG.out.2.2.2.1)
      have HSRC : Hid (0 < (byteCells (x.take m)).length → ∃ ad, X = some ad ∧ ∀ j v, (byteCells (x.take m))[j]? = some v → w2.cell? (ad.add j) = some v) := hid (fun h0 => by
        obtain ⟨ad, e, _, hc⟩ := (hx2.front (k := m) (by omega)).1.2 (by have := HM.out; omega)
        exact ⟨ad, e, hc⟩)
      have H2 := hid (And.intro hst2 hk2)
      have HKN := hid (show Kept (foot K PA pb) w w2 from HN.out.kept.trans hk2 (fun z hz => by simp at hz; subst hz; exact .inl (by simp [foot])))
      clear hst2 hk2 hx2 hG hA1 hA2 hyl hdl hgD hbig
      have HW2 := hid hw2
      clear hw2
      go_wp2_with (rw [← HW2.out]; refine wpList_copy_kept rfl (.tmp 32) (.tmp 35) 25 25 rfl 5 Tryd.underlying25 infoB (some ⟨g, off, none⟩) X m cb m mx rfl rfl g off cur 5 HROW.out (byteCells (x.take m)) HCN.out (fun h0 => ⟨rfl, HSRC.out h0⟩) HFIT.out (cells_one _) ?_; intro w9 h9 h8 h7; have H9 := hid h9.out; have H8 := hid h8.out; clear h9 h8 h7)
      go_ret2
      have hxt : (x.take m).length = m := by have := HQ.out; have := HBIG.out; simp; omega
      have hG := HGO.out
      refine ⟨x.take m, _, ls', x.drop m, prog', _, _, _, _, _, _, _, did_end hK H2.out.1 HKN.out HN.out.new HG.out.1.lt HG.out.2.1 HG.out.2.2.1 (by rw [hxt]; exact HG.out.2.2.2.1) H9.out H8.out, by omega, .inl ⟨by show Ending.returned (.tuple #[.int .i64 (byteCells (x.take m)).length, .nilIface]) = _; simp [byteCells], ⟨?_, hG.prog, ?_⟩⟩⟩
      · rw [hG.data, ← List.append_assoc, List.take_append_drop]
      · have h3 := hG.le
        have h4 := HM.out
        have h5 := HBIG.out
        have h6 := HQ.out
        simp only [List.length_drop]
        omega
    · have := HQ.out
      subst hx0
      simp at this
      omega
  · have hnb : ¬ ((m : Int) < q) := by omega
    have HNB := hid hbig
    have HROW := hid (show w1.heap[g]? = some (.cells cur.toArray U8 (0, 0)) from HROW1.out)
    have hyl : (byteCells x).length = q := by rw [HQ.out]; simp [byteCells]
    have HCN := hid (show (byteCells x).length = Nat.min q m by rw [hyl]; exact (Nat.min_eq_left (by omega)).symm)
    have HFIT := hid (show off + (byteCells x).length ≤ cur.length by rw [hyl]; have := HG.out.2.2.2.1; omega)
    have HSRC : Hid (0 < (byteCells x).length → ∃ ad, X = some ad ∧ ∀ j v, (byteCells x)[j]? = some v → w1.cell? (ad.add j) = some v) := hid (fun h0 => by
      obtain ⟨ad, e, _, hc⟩ := HXB.out.1.2 (by omega)
      exact ⟨ad, e, hc⟩)
    have hs2 := slice_to .i64 X q mx q HXM.out
    clear hyl qD qC
    have finish : ∀ w9, Hid (w9.heap[g]? = some (.cells (splice cur off (byteCells x)).toArray U8 (0, 0))) → Hid (Kept [g] w1 w9) → ∃ pv2, Did K w PA pb g off cur w9 x (splice cur off (byteCells x)) ls' [] prog' PA1 pn1 pc1 i1 ev1 pv2 pb1 := fun w9 h9 h8 =>
      ⟨_, did_end hK HN.out.st HN.out.kept HN.out.new HG.out.1.lt HG.out.2.1 HG.out.2.2.1 (by have := HQ.out; have := HG.out.2.2.2.1; omega) h9.out h8.out⟩
    have HFI := hid finish
    clear finish hbig
    rcases hor with ⟨rfl, hG⟩ | ⟨rfl, hx0, hp0, hl0, hl1, hpr⟩
    · have HGO := hid hG
      clear hG
      have hs3 := slice_to .i64 X q mx m
      have HCN2 := fun (e : q = m) => hid (show (byteCells x).length = Nat.min m m by rw [← e]; have := HCN.out; rw [← e] at this; exact this)
      by_cases hlt : q < m
      · have hlt' : (q : Int) < m := by omega
        clear hlt
        go_wp2_with (refine wpList_copy_kept rfl (.tmp 32) (.tmp 35) 25 25 rfl 5 Tryd.underlying25 infoB (some ⟨g, off, none⟩) X m cb q mx rfl rfl g off cur 5 HROW.out (byteCells x) HCN.out (fun h0 => ⟨rfl, HSRC.out h0⟩) HFIT.out (cells_one _) ?_; intro w9 h9 h8 h7; have H9 := hid h9.out; have H8 := hid h8.out; clear h9 h8 h7)
        go_ret2
        obtain ⟨pv2, hd⟩ := HFI.out _ H9 H8
        have hG := HGO.out
        refine ⟨x, _, ls', [], prog', _, _, _, _, _, _, _, hd, by have := HQ.out; have := HNB.out; omega, .inl ⟨by show Ending.returned (.tuple #[.int .i64 (byteCells x).length, .nilIface]) = _; simp [byteCells], ⟨?_, hG.prog, ?_⟩⟩⟩
        · simpa using hG.data
        · have h3 := hG.le
          by_cases hx : x = []
          · have := hG.lt hx; simpa using this
          · have := List.length_pos_iff.2 hx
            simp only [List.length_nil]
            omega
      · have hlt' : ¬ ((q : Int) < m) := by omega
        have he : q = m := by have := HNB.out; omega
        have hs4 := hs3 (by have := HXM.out; omega)
        have HCN3 := HCN2 he
        clear hlt hs2 hs3 he HCN2
        go_wp2_with (refine wpList_copy_kept rfl (.tmp 32) (.tmp 35) 25 25 rfl 5 Tryd.underlying25 infoB (some ⟨g, off, none⟩) X m cb m mx rfl rfl g off cur 5 HROW.out (byteCells x) HCN3.out (fun h0 => ⟨rfl, HSRC.out h0⟩) HFIT.out (cells_one _) ?_; intro w9 h9 h8 h7; have H9 := hid h9.out; have H8 := hid h8.out; clear h9 h8 h7)
        go_ret2
        obtain ⟨pv2, hd⟩ := HFI.out _ H9 H8
        have hG := HGO.out
        refine ⟨x, _, ls', [], prog', _, _, _, _, _, _, _, hd, by have := HQ.out; have := HNB.out; omega, .inl ⟨by show Ending.returned (.tuple #[.int .i64 (byteCells x).length, .nilIface]) = _; simp [byteCells], ⟨?_, hG.prog, ?_⟩⟩⟩
        · simpa using hG.data
        · have h3 := hG.le
          by_cases hx : x = []
          · have := hG.lt hx; simpa using this
          · have := List.length_pos_iff.2 hx
            simp only [List.length_nil]
            omega
    · have HGO := hid (And.intro hx0 (And.intro hp0 (And.intro hl0 (And.intro hl1 hpr))))
      have hq0 : q = 0 := by rw [HQ.out, hx0]; rfl
      have hlt' : (q : Int) < m := by have := HM.out; omega
      clear hx0 hp0 hl0 hl1 hpr hq0
      go_wp2_with (refine wpList_copy_kept rfl (.tmp 32) (.tmp 35) 25 25 rfl 5 Tryd.underlying25 infoB (some ⟨g, off, none⟩) X m cb q mx rfl rfl g off cur 5 HROW.out (byteCells x) HCN.out (fun h0 => ⟨rfl, HSRC.out h0⟩) HFIT.out (cells_one _) ?_; intro w9 h9 h8 h7; have H9 := hid h9.out; have H8 := hid h8.out; clear h9 h8 h7)
      go_ret2
      obtain ⟨pv2, hd⟩ := HFI.out _ H9 H8
      obtain ⟨hx0, hp0, hl0, hl1, hpr⟩ := HGO.out
      exact ⟨x, _, ls', [], prog', _, _, _, _, _, _, _, hd, by have := HQ.out; have := HNB.out; omega, .inr ⟨by show Ending.returned (.tuple #[.int .i64 (byteCells x).length, .iface 184 (.pointer (some K.pe))]) = _; simp [byteCells], hx0, hp0, hl0, hl1, rfl, hpr⟩⟩
end Go.Proofs.YtkjfndkcagkhaaaDoor.side
