/- What the program's patchDelta computes. -/
import Derived.Test.YtfanginpfppdeaaDoorDeltaSiz
import Derived.Test.YtfanginpfppdeaaDoorDeltaGrow
import Derived.Test.YtfanginpfppdeaaDoorSlices
import Derived.Lib.BufferOld
set_option linter.unusedVariables false
namespace Go.Proofs.YtfanginpfppdeaaDoor.delta
open Go.RowKit Lib patch mem

def settle (x : Option (List UInt8 × List UInt8)) : Option (List UInt8) := match x with
  | none => none
  | some (out, r) => if r = [] then some out else none
def slLen2 : Value → Nat
  | .slice _ n _ => n
  | _ => 0
/-- what patchDelta makes -/
def patchIn (base l : List UInt8) : Option (List UInt8) :=
  match leb l 0 0 with
  | none => none
  | some (n, d1) => if n ≠ base.length then none else match leb d1 0 0 with
    | none => none
    | some (want, d2) => settle (go base (d2.length + 1) d2 want [])
theorem patch_in (base l : List UInt8) : patch base l = if base = [] ∨ l.length < 2 then none else patchIn base l := rfl
def TabB (w : World) (B G o m : Nat) : Prop := ∃ T q, w.cell? ⟨G, 0, none⟩ = some (.slice (some ⟨T, q, none⟩) m m) ∧ T < B ∧ ∀ k, k < m → w.cell? ⟨T, q + k * 2, none⟩ = some (.int .u8 (2 ^ (o + k) : Nat)) ∧ w.cell? ⟨T, q + k * 2 + 1, none⟩ = some (.int .u64 (8 * k : Nat))
theorem TabB.at_ {w : World} {B G o m : Nat} (h : TabB w B G o m) (hB : B ≤ w.heap.size) : TabAt w G o m := by
  obtain ⟨T, q, h1, h2, h3⟩ := h
  exact ⟨T, q, h1, by omega, h3⟩
theorem TabB.below {w w' : World} {B G o m : Nat} (h : TabB w B G o m) (hG : G < B) (hb : Below B w w') : TabB w' B G o m := by
  obtain ⟨T, q, h1, h2, h3⟩ := h
  exact ⟨T, q, (hb.cell hG).trans h1, h2, fun k hk => ⟨(hb.cell h2).trans (h3 k hk).1, (hb.cell h2).trans (h3 k hk).2⟩⟩
/-- the variables that are read -/
structure Env (w : World) (B : Nat) (t : TypeId) (p0 p1 p2 : Value) : Prop where
  few : 5 ≤ B
  e0 : w.cell? ⟨0, 0, none⟩ = some (.iface t p0)
  e1 : w.cell? ⟨1, 0, none⟩ = some (.iface t p1)
  e2 : w.cell? ⟨2, 0, none⟩ = some (.iface t p2)
  t3 : TabB w B 3 0 4
  t4 : TabB w B 4 4 3
theorem Env.below {w w' : World} {B : Nat} {t : TypeId} {p0 p1 p2 : Value} (h : Env w B t p0 p1 p2) (hb : Below B w w') : Env w' B t p0 p1 p2 := by
  have h5 := h.few
  exact ⟨h.few, (hb.cell (Nat.lt_of_lt_of_le (by decide) h5)).trans h.e0, (hb.cell (Nat.lt_of_lt_of_le (by decide) h5)).trans h.e1, (hb.cell (Nat.lt_of_lt_of_le (by decide) h5)).trans h.e2, h.t3.below (by omega) hb, h.t4.below (by omega) hb⟩
theorem below_of_draws_at' {w w' : World} {B : Nat} (h : ∃ k, w' = w.drewN k) : Below B w w' := by obtain ⟨k, rfl⟩ := h; exact ⟨rfl, rfl, rfl, Nat.le_refl _, fun _ _ => rfl⟩
theorem newBuf_of_draws {w w' : World} {B b : Nat} (h : NewBuf B b w) (hk : ∃ k, w' = w.drewN k) : NewBuf B b w' := by obtain ⟨k, rfl⟩ := hk; exact h
/-- how it ends -/
def PdEnd (w : World) (B b : Nat) (r : Option (List UInt8)) (e : Ending) (w' : World) : Prop :=
  Below B w w' ∧ match r with
    | some out => e = .returned .nilIface ∧ IsBuffer 52 5 B b (byteCells out) w'
    | none => ∃ t p, e = .returned (.iface t p)
/-- where the loop stands -/
structure PAt (w : World) (B b K : Nat) (base : List UInt8) (fin : Option (List UInt8 × List UInt8)) (wr : World) (sl : Value) (f m c rem : Nat) (A : Option Addr) (r out : List UInt8) : Prop where
  rest : sl = .slice A m c
  cap : m ≤ c
  bytes : Bytes wr B A m r
  buf : IsBuffer 52 5 B b (byteCells out) wr
  below : Below B w wr
  eq : fin = go base f r rem out
  fuel : m < f
  len : out.length + (base.length + 1) * m ≤ K
  small : rem < 9223372036854775808
  few : m ≤ 2147483647
theorem len_step {a K m m' x : Nat} {o : Nat} (h : o + (a + 1) * m ≤ K) (hm : m' < m) (hx : x ≤ (a + 1) * (m - m')) : o + x + (a + 1) * m' ≤ K := by
  have e : (a + 1) * m = (a + 1) * (m - m') + (a + 1) * m' := by rw [← Nat.mul_add]; congr 1; omega
  omega
theorem PAt.next {w wr wr1 : World} {B b K : Nat} {base r out x t2 : List UInt8} {fin : Option (List UInt8 × List UInt8)} {f q c rem q2 c2 : Nat} {sl : Value} {A A5 : Option Addr}
    (h : PAt w B b K base fin wr sl f q c rem A r out) (hbuf : IsBuffer 52 5 B b (byteCells out ++ byteCells x) wr1) (hb : Below B wr wr1)
    (hB : Bytes wr B A5 q2 t2) (hq : q2 < q) (hqc : q2 ≤ c2) (hx : x.length ≤ rem) (hxl : x.length ≤ (base.length + 1) * (q - q2)) (heq : fin = go base (f - 1) t2 (rem - x.length) (out ++ x)) :
    PAt w B b K base fin wr1 (.slice A5 q2 c2) (f - 1) q2 c2 (rem - x.length) A5 t2 (out ++ x) := by
  have h1 := h.fuel
  have h2 := h.small
  exact ⟨rfl, hqc, hB.below hb, by simpa [Lib.byteCells] using hbuf, h.below.trans hb, heq, by omega, by simpa using len_step h.len hq hxl, by omega, by have := h.few; omega⟩
theorem PAt.old {w wr wr1 : World} {B b K : Nat} {base r out : List UInt8} {fin : Option (List UInt8 × List UInt8)} {f q c rem : Nat} {sl : Value} {A : Option Addr}
    (h : PAt w B b K base fin wr sl f q c rem A r out) (hB : B ≤ wr.heap.size) (hb : Below wr.heap.size wr wr1) : PAt w B b K base fin wr1 sl f q c rem A r out := by
  have hb' : Below B wr wr1 := ⟨hb.os, hb.tape, hb.output, hb.size, fun k hk => hb.block k (by omega)⟩
  exact ⟨h.rest, h.cap, h.bytes.below hb', h.buf.old hb, h.below.trans hb', h.eq, h.fuel, h.len, h.small, h.few⟩
set_option maxRecDepth 100000 in
set_option maxHeartbeats 8000000 in
theorem patchDelta_calls (B b : Nat) (A D : Option Addr) (n c m d K : Nat) (base l : List UInt8) (t : TypeId) (p0 p1 p2 : Value) (w : World) (hN : NewBuf B b w) (hE : Env w B t p0 p1 p2)
    (h : Bytes w B A n base) (hl : Bytes w B D m l) (hnc : n ≤ c) (hmd : m ≤ d) (hn : n ≤ 2147483647) (hm : m ≤ 2147483647) (hK : (base.length + 1) * m ≤ K) (hK2 : K ≤ 70368744177664) :
    Calls Tryd.prog 19 #[.pointer (some ⟨b, 0, none⟩), .slice A n c, .slice D m d] w (PdEnd w B b (patchIn base l)) := by
  have hnl := hid h.len
  have hml := hid hl.len
  have HA := hid h
  have HD := hid hl
  have HN := hid hN
  have HE := hid hE
  have HK := hid hK
  have hBw := hN.2.1
  have hBb := hN.1
  have c0 := hE.e0
  clear h hl hN hE hK
  go_enter Tryd.func19, Tryd.ntmps19
  go_wp2_with fail
  refine (leb_calls D m d B l t p2 w HD.out hmd (by omega) HE.out.e2).mono ?_
  rintro e w1 ⟨hk1, h1⟩
  have hb1 := hid (below_of_draws_at' (B := B) hk1)
  have hN1 := hid (newBuf_of_draws HN.out hk1)
  clear hk1
  have c01 := (hb1.out.cell (p := ⟨0, 0, none⟩) (Nat.lt_of_lt_of_le (by decide) HE.out.few)).trans c0
  cases hs1 : leb l 0 0 with
  | none =>
    rw [hs1] at h1
    obtain ⟨v, rfl⟩ := h1
    have HP : Hid (patchIn base l = none) := hid (by unfold patchIn; rw [hs1])
    clear hs1
    go_wp2_with fail
    go_ret
    unfold PdEnd; rw [HP.out]; exact ⟨hb1.out, _, _, rfl⟩
  | some x =>
    obtain ⟨size, d1⟩ := x
    rw [hs1] at h1
    obtain ⟨A1, rfl, hB1, hl1, hz1⟩ := h1
    generalize hm1 : d1.length = m1 at hB1 hl1
    have HB1 := hid (hB1.below hb1.out)
    have HM1 := hid hm1
    have HS1 := hid hs1
    clear hB1 hs1 hm1
    by_cases hsz : size = n
    · have e1 : ((size : Int) == n) = true := by simp; omega
      go_wp2_with fail
      refine (leb_calls A1 m1 (d - (m - m1)) B d1 t p2 w1 HB1.out (by omega) (by omega) (HE.out.below hb1.out).e2).mono ?_
      rintro e w2 ⟨hk2, h2⟩
      have hb2 := hid (hb1.out.trans (below_of_draws_at' (B := B) hk2))
      have hdr := hid (below_of_draws_at' (B := B) hk2)
      have hN2 := hid (newBuf_of_draws hN1.out hk2)
      clear hk2
      have c02 := (hb2.out.cell (p := ⟨0, 0, none⟩) (Nat.lt_of_lt_of_le (by decide) HE.out.few)).trans c0
      cases hs2 : leb d1 0 0 with
      | none =>
        rw [hs2] at h2
        obtain ⟨v, rfl⟩ := h2
        have HP : Hid (patchIn base l = none) := hid (by unfold patchIn; rw [HS1.out]; simp only; rw [if_neg (by rw [hnl.out]; simpa using hsz), hs2])
        clear hs2
        go_wp2_with fail
        go_ret
        unfold PdEnd; rw [HP.out]; exact ⟨hb2.out, _, _, rfl⟩
      | some x =>
        obtain ⟨want, d2⟩ := x
        rw [hs2] at h2
        obtain ⟨A2, rfl, hB2, hl2, hz2⟩ := h2
        generalize hm2 : d2.length = m2 at hB2 hl2
        have HB2 := hid (hB2.below hdr.out)
        have HM2 := hid hm2
        have HS2 := hid hs2
        clear hB2 hs2 hm2
        obtain ⟨fin, hfin⟩ : ∃ fin, fin = go base (d2.length + 1) d2 want [] := ⟨_, rfl⟩
        have HP : Hid (patchIn base l = settle fin) := hid (by unfold patchIn; rw [HS1.out]; simp only; rw [if_neg (by rw [hnl.out]; simpa using hsz), HS2.out, hfin])
        have HFin := hid hfin
        clear hfin
        go_wp2_with fail
        have em : (min (want : Int) 65536) = ((min want 65536 : Nat) : Int) := by omega
        rw [em]
        refine (bufGrow_calls B b (min want 65536) w2 hN2.out (by omega)).mono ?_
        rintro e w3 ⟨rfl, hbuf, hb3⟩
        have HBuf := hid hbuf
        have hb3' := hid hb3
        clear hbuf hb3 em
        go_wp2_with fail
        go_loopw [2, 10, 12, 13, 14, 15, 16] (fun sl remv _ _ _ _ _ wr => ∃ f m' c' rem A' r out, remv = .int .u64 (rem : Nat) ∧ PAt w B b K base fin wr sl f m' c' rem A' r out) (fun sl _ _ _ _ _ _ _ => slLen2 sl)
        case atStart =>
          refine ⟨d2.length + 1, m2, _, want, A2, d2, [], rfl, ⟨rfl, by omega, HB2.out.below hb3'.out, HBuf.out, hb2.out.trans hb3'.out, HFin.out, by rw [HM2.out]; omega, ?_, hz2, by omega⟩⟩
          have := Nat.mul_le_mul_left (base.length + 1) (show m2 ≤ m by omega)
          have := HK.out
          simp only [List.length_nil]; omega
        case round =>
          obtain ⟨f, q, c', rem, A', r, out, rfl, hAt⟩ := hrel
          obtain rfl := hAt.rest
          have hqc := hAt.cap
          have hsm := hAt.small
          have hqf := hAt.few
          have hE0 := (HE.out.below hAt.below).e0
          have HAt := hid hAt
          clear hAt
          by_cases hrem : rem = 0
          · have hfr : Hid (fin = some (out, r)) := hid (by rw [HAt.out.eq, hrem, go_zero])
            subst hrem
            by_cases hq0 : q = 0
            · have hr0 : Hid (r = []) := hid (List.eq_nil_of_length_eq_zero (by rw [HAt.out.bytes.len]; exact hq0))
              subst hq0
              go_wp2_with fail
              go_ret
              unfold PdEnd; rw [HP.out, hfr.out]; simp only [settle]; rw [if_pos hr0.out]
              exact ⟨HAt.out.below, rfl, HAt.out.buf⟩
            · have hr0 : Hid (r ≠ []) := hid (by intro h; have := HAt.out.bytes.len; rw [h] at this; simp at this; omega)
              have e8 : ((q : Int) == 0) = false := by simpa using hq0
              go_wp2_with fail
              go_ret
              unfold PdEnd; rw [HP.out, hfr.out]; simp only [settle]; rw [if_neg hr0.out]
              exact ⟨HAt.out.below, _, _, rfl⟩
          · have e7 : (0 : Int) < rem := by omega
            by_cases hq0 : q = 0
            · have hfr : Hid (fin = none) := hid (by
                have hr0 : r = [] := List.eq_nil_of_length_eq_zero (by rw [HAt.out.bytes.len]; exact hq0)
                have hf := HAt.out.fuel
                rw [HAt.out.eq, hr0, show f = (f - 1) + 1 by omega, go_nil _ _ _ _ (by omega)])
              subst hq0
              go_wp2_with fail
              go_ret
              unfold PdEnd; rw [HP.out, hfr.out]; exact ⟨HAt.out.below, _, _, rfl⟩
            · obtain ⟨g, o, b8, rfl, hgB, hcell, hd, hb⟩ := HAt.out.bytes.next (k := 0) (by omega)
              have hr : Hid (r = b8 :: r.drop 1) := hid (by simpa using hd)
              clear hd
              simp only [Nat.add_zero] at hcell
              have e8 : ((q : Int) == 0) = false := by simpa using hq0
              have hgo := hid (show fin = _ from by
                have hf := HAt.out.fuel
                rw [HAt.out.eq, hr.out, show f = (f - 1) + 1 by omega, go_cons _ _ _ _ _ _ (show 0 < rem by omega)])
              obtain ⟨A3, hA3, hs3⟩ := slice_from .i64 (some ⟨g, o, none⟩) q c' 1 (by omega)
              have hcut := hid (hA3 _ _ _ HAt.out.bytes hqc)
              clear hA3
              simp only [Int.natCast_one] at hs3
              have htl := hid hcut.out.len
              generalize r.drop 1 = tl at hr hgo hcut htl
              generalize b8.toNat = b1 at *
              go_wp2_with fail
              refine (isSrc_calls b1 wr hb).mono ?_
              rintro e wx ⟨rfl, hwx⟩
              subst hwx
              by_cases h128 : b1 < 128
              · rw [show decide (128 ≤ b1) = false by simp; omega]
                rw [if_pos h128] at hgo
                go_wp2_with fail
                refine (isDelta_calls b1 wx h128).mono ?_
                rintro e wy ⟨rfl, hwy⟩
                subst hwy
                by_cases hb0 : b1 = 0
                · have hfr : Hid (fin = none) := hid (by rw [hgo.out, if_pos hb0])
                  have hE1 := (HE.out.below HAt.out.below).e1
                  clear hgo
                  subst hb0
                  rw [show (!decide (0 = 0)) = false by decide]
                  go_wp2_with fail
                  go_ret
                  unfold PdEnd; rw [HP.out, hfr.out]; exact ⟨HAt.out.below, _, _, rfl⟩
                · rw [show (!decide (b1 = 0)) = true by simpa using hb0]
                  rw [if_neg hb0] at hgo
                  go_wp2_with fail
                  refine (invalidSize_calls b1 rem wy).mono ?_
                  rintro e wz ⟨rfl, hwz⟩
                  subst hwz
                  by_cases hy : rem < b1
                  · have hfr : Hid (fin = none) := hid (by rw [hgo.out, if_pos (.inr hy)])
                    clear hgo
                    rw [show decide (rem < b1) = true by simpa using hy]
                    go_wp2_with fail
                    go_ret
                    unfold PdEnd; rw [HP.out, hfr.out]; exact ⟨HAt.out.below, _, _, rfl⟩
                  · rw [show decide (rem < b1) = false by simpa using hy]
                    by_cases hx : q - 1 < b1
                    · have hfr : Hid (fin = none) := hid (by rw [hgo.out, if_pos (by rw [htl.out]; exact .inl hx)])
                      clear hgo
                      have e11 : ((q - 1 : Nat) : Int) < b1 := by omega
                      go_wp2_with fail
                      go_ret
                      unfold PdEnd; rw [HP.out, hfr.out]; exact ⟨HAt.out.below, _, _, rfl⟩
                    · have e11 : ¬ ((q - 1 : Nat) : Int) < b1 := by omega
                      rw [if_neg (by rw [htl.out]; omega)] at hgo
                      obtain ⟨A4, hA4, hs4⟩ := slice_mid .i64 .u64 A3 (q - 1) (c' - 1) 0 b1 (by omega) (by omega) (by omega)
                      have hfront : Hid (Bytes wz B A4 b1 (tl.take b1)) := hid (by simpa using hA4 _ _ _ hcut.out)
                      simp only [Int.natCast_zero, Nat.sub_zero] at hs4
                      obtain ⟨A5, hA5, hs5⟩ := slice_from .u64 A3 (q - 1) (c' - 1) b1 (by omega)
                      have hrest := hid (hA5 _ _ _ hcut.out (by omega))
                      have HXL : Hid ((tl.take b1).length = b1) := hid hfront.out.len
                      clear hA4 hA5
                      have ew : IntKind.u64.wrap ((q - 1 : Nat) : Int) = ((q - 1 : Nat) : Int) := by rw [IntKind.wrap_u64]; omega
                      obtain ⟨ad, hA4e, hadB, hadc⟩ := hfront.out.1.2 (by omega)
                      subst hA4e
                      have HAC := hid hadc
                      clear hadc
                      have HXB : Hid ((tl.take b1).length ≤ (base.length + 1) * (q - (q - 1 - b1))) := hid (by
                        rw [HXL.out, show q - (q - 1 - b1) = b1 + 1 by omega]
                        exact Nat.le_trans (Nat.le_succ _) (Nat.le_mul_of_pos_left _ (Nat.succ_pos _)))
                      have hol : out.length + b1 ≤ K := by
                        have h1 := len_step HAt.out.len (m' := q - 1 - b1) (by omega) HXB.out
                        rw [HXL.out] at h1
                        omega
                      go_wp2_with fail
                      refine (Tryd.Buffer_Write_k B b (byteCells out) (byteCells (tl.take b1)) ad b1 (c' - 1) wz HAt.out.buf (by have := HAt.out.below.size; omega) (cells_one _) (by simpa [Lib.byteCells] using HXL.out) hadB HAC.out (cells_one _) (by simp [Lib.byteCells]; omega)).mono ?_
                      rintro e wu ⟨rfl, hbuf, hbu, _⟩
                      have HN2 := hid (HAt.out.next (x := tl.take b1) hbuf hbu hrest.out (c2 := c' - 1 - b1) (by omega) (by omega) (by rw [HXL.out]; omega) HXB.out (by rw [HXL.out]; exact hgo.out))
                      clear hbuf hbu
                      have es : ((rem : Int) - b1) = ((rem - b1 : Nat) : Int) := by omega
                      go_wp2_with fail
                      go_roundw
                      case rel =>
                        have hn := HN2.out
                        rw [HXL.out] at hn
                        exact ⟨_, _, _, _, _, _, _, rfl, hn⟩
                      case measure => simp only [slLen2]; omega
              · rw [show decide (128 ≤ b1) = true by simp; omega]
                rw [if_neg h128, rc_whole] at hgo
                have hBx : B ≤ wx.heap.size := by have := HAt.out.below.size; omega
                have h5 := HE.out.few
                go_wp2_with fail
                refine (off_calls b1 A3 (q - 1) (c' - 1) B tl t p0 wx hb hcut.out hBx (by omega) (by omega) hE0 (by show 0 < _; omega) ((HE.out.below HAt.out.below).t3.at_ hBx) (by omega)).mono ?_
                rintro e wy ⟨hby, h3⟩
                have HAt1 := hid (HAt.out.old hBx hby)
                have hsy := hby.size
                have hbB : Below B wx wy := ⟨hby.os, hby.tape, hby.output, hby.size, fun k hk => hby.block k (by omega)⟩
                have HBB := hid hbB
                clear hby hbB
                cases hr1 : rd b1 0 4 0 tl 0 with
                | none =>
                  rw [hr1] at h3 hgo
                  obtain ⟨v, rfl⟩ := h3
                  have hfr : Hid (fin = none) := hid (by rw [hgo.out]; rfl)
                  clear hgo hr1
                  go_wp2_with fail
                  go_ret
                  unfold PdEnd; rw [HP.out, hfr.out]; exact ⟨HAt1.out.below, _, _, rfl⟩
                | some x =>
                  obtain ⟨fr, t1⟩ := x
                  rw [hr1] at h3 hgo
                  obtain ⟨A6, rfl, hB6, hl6, hf6⟩ := h3
                  have HB6 := hid (hB6.below HBB.out)
                  generalize t1.length = q1 at hB6 HB6 hl6
                  clear hB6 hr1
                  have hE1 := (HE.out.below HAt1.out.below).e0
                  have hBy : B ≤ wy.heap.size := by omega
                  go_wp2_with fail
                  refine (siz_calls b1 A6 q1 (c' - 1 - (q - 1 - q1)) B t1 t p0 wy hb HB6.out hBy (by omega) (by omega) hE1 (by show 0 < _; omega) ((HE.out.below HAt1.out.below).t4.at_ hBy) (by omega)).mono ?_
                  rintro e wz ⟨hbz, h4⟩
                  have HAt2 := hid (HAt1.out.old hBy hbz)
                  have hsz2 := hbz.size
                  have hbC : Below B wy wz := ⟨hbz.os, hbz.tape, hbz.output, hbz.size, fun k hk => hbz.block k (by omega)⟩
                  have HBC := hid hbC
                  clear hbz hbC
                  cases hr2 : rd b1 4 3 0 t1 0 with
                  | none =>
                    simp only [Option.bind_some, hr2] at h4 hgo
                    obtain ⟨v, rfl⟩ := h4
                    have hfr : Hid (fin = none) := hid (by rw [hgo.out]; rfl)
                    clear hgo hr2
                    go_wp2_with fail
                    go_ret
                    unfold PdEnd; rw [HP.out, hfr.out]; exact ⟨HAt2.out.below, _, _, rfl⟩
                  | some x =>
                    obtain ⟨sn, t2⟩ := x
                    simp only [Option.bind_some, hr2, Option.map_some] at h4 hgo
                    obtain ⟨A7, rfl, hB7, hl7, hf7⟩ := h4
                    have HB7 := hid (hB7.below HBC.out)
                    generalize t2.length = q2 at hB7 HB7 hl7
                    clear hB7 hr2
                    have hz : copySize sn ≤ 4294967296 := by unfold copySize; split <;> omega
                    have hz1 : 1 ≤ copySize sn := by unfold copySize; split <;> omega
                    generalize copySize sn = z at hz hz1 hgo
                    have hE2 := (HE.out.below HAt2.out.below).e0
                    have hpc := hid (show (rem < z ∨ base.length < fr + z) ↔ (rem < z ∨ n < fr + z) from by rw [hnl.out])
                    go_wp2_with fail
                    refine (invalidSize_calls z rem wz).mono ?_
                    rintro e wu ⟨rfl, hwu⟩
                    subst hwu
                    by_cases hy : rem < z
                    · have hfr : Hid (fin = none) := hid (by rw [hgo.out, if_pos (.inl hy)])
                      clear hgo
                      rw [show decide (rem < z) = true by simpa using hy]
                      go_wp2_with fail
                      go_ret
                      unfold PdEnd; rw [HP.out, hfr.out]; exact ⟨HAt2.out.below, _, _, rfl⟩
                    · rw [show decide (rem < z) = false by simpa using hy]
                      go_wp2_with fail
                      refine (invalidOffset_calls fr z n wu (by omega)).mono ?_
                      rintro e wv ⟨rfl, hwv⟩
                      subst hwv
                      by_cases hx : n < fr + z
                      · have hfr : Hid (fin = none) := hid (by rw [hgo.out, if_pos (hpc.out.2 (.inr hx))])
                        clear hgo
                        rw [show decide (n < fr + z) = true by simpa using hx]
                        go_wp2_with fail
                        go_ret
                        unfold PdEnd; rw [HP.out, hfr.out]; exact ⟨HAt2.out.below, _, _, rfl⟩
                      · rw [show decide (n < fr + z) = false by simpa using hx]
                        rw [if_neg (fun h => by have := hpc.out.1 h; omega)] at hgo
                        obtain ⟨A8, hA8, hs8⟩ := slice_mid .u64 .u64 A n c fr (fr + z) (by omega) (by omega) hnc
                        have hmid : Hid (Bytes wv B A8 z ((base.drop fr).take z)) := hid (by
                          have := hA8 _ _ _ (HA.out.below HAt2.out.below)
                          rwa [show fr + z - fr = z by omega] at this)
                        rw [show fr + z - fr = z by omega] at hs8
                        simp only [Int.natCast_add] at hs8
                        have HXL : Hid (((base.drop fr).take z).length = z) := hid hmid.out.len
                        clear hA8
                        obtain ⟨ad, hA8e, hadB, hadc⟩ := hmid.out.1.2 (by omega)
                        subst hA8e
                        have HAC := hid hadc
                        clear hadc
                        have HXB : Hid (((base.drop fr).take z).length ≤ (base.length + 1) * (q - q2)) := hid (by
                          have hbn := hnl.out
                          rw [HXL.out, show q - q2 = (q - q2 - 1) + 1 by omega, Nat.mul_add, Nat.mul_one]
                          omega)
                        have hol : out.length + z ≤ K := by
                          have h1 := len_step HAt2.out.len (m' := q2) (by omega) HXB.out
                          rw [HXL.out] at h1
                          omega
                        go_wp2_with fail
                        refine (Tryd.Buffer_Write_k B b (byteCells out) (byteCells ((base.drop fr).take z)) ad z (c - fr) wv HAt2.out.buf (by have := HAt2.out.below.size; omega) (cells_one _) (by simpa [Lib.byteCells] using HXL.out) hadB HAC.out (cells_one _) (by simp [Lib.byteCells]; omega)).mono ?_
                        rintro e wt ⟨rfl, hbuf, hbu, _⟩
                        have HN2 := hid (HAt2.out.next (x := (base.drop fr).take z) hbuf hbu HB7.out (c2 := c' - 1 - (q - 1 - q1) - (q1 - q2)) (by omega) (by omega) (by rw [HXL.out]; omega) HXB.out (by rw [HXL.out]; exact hgo.out))
                        clear hbuf hbu
                        have es : ((rem : Int) - z) = ((rem - z : Nat) : Int) := by omega
                        go_wp2_with fail
                        go_roundw
                        case rel =>
                          have hn := HN2.out
                          rw [HXL.out] at hn
                          exact ⟨_, _, _, _, _, _, _, rfl, hn⟩
                        case measure => simp only [slLen2]; omega
    · have HP : Hid (patchIn base l = none) := hid (by unfold patchIn; rw [HS1.out]; simp only; rw [if_pos (by rw [hnl.out]; exact hsz)])
      have e1 : ((size : Int) == n) = false := by simp; omega
      go_wp2_with fail
      go_ret
      unfold PdEnd; rw [HP.out]; exact ⟨hb1.out, _, _, rfl⟩
end Go.Proofs.YtfanginpfppdeaaDoor.delta
