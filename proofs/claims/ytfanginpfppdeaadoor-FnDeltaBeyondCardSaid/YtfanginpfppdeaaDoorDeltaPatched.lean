/- What the format's words for a delta compute. -/
import Derived.Test.YtfanginpfppdeaaDoorDeltaCopy
import Derived.Test.YtfanginpfppdeaaDoorSlices
import Derived.WalkKit
import Derived.Lib.Hide
import Derived.ProofKit
import Derived.WalkSmall
import Derived.RowKitTokens
import Derived.Deep.QuietTactic
import Derived.BigQuiet
set_option linter.unusedVariables false
namespace Go.Proofs.YtfanginpfppdeaaDoor.delta
open Go.RowKit Lib patch mem

def slLen : Value → Nat
  | .slice _ n _ => n
  | _ => 0
/-- how the format's words end -/
def PatchedEnd (w : World) (r : RP) (e : Ending) (w' : World) : Prop :=
  Below w.heap.size w w' ∧ match r with
    | .told out => ∃ v, e = .returned (.tuple #[v, .int .i64 0]) ∧ w'.ownsRow w.heap.size 5 1 v out.length (byteCells out) ∧ out.length ≤ 1000000
    | .refused => e = .returned (.tuple #[.slice none 0 0, .int .i64 1])
    | .opn => e = .returned (.tuple #[.slice none 0 0, .int .i64 2])
/-- where the loop over the instructions stands -/
structure At (w : World) (base : List UInt8) (fin : Option (List UInt8 × List UInt8)) (want : Nat) (wr : World) (sl outv : Value) (f m c rem : Nat) (A : Option Addr) (r out : List UInt8) : Prop where
  rest : sl = .slice A m c
  cap : m ≤ c
  len : m ≤ 1000000
  bytes : Bytes wr w.heap.size A m r
  own : wr.ownsRow w.heap.size 5 1 outv out.length (byteCells out)
  below : Below w.heap.size w wr
  sum : out.length + rem = want
  most : want ≤ 1000000
  eq : fin = go base f r rem out
  fuel : m < f
theorem drewN_below (w : World) (k : Nat) : Below w.heap.size w (w.drewN k) := ⟨rfl, rfl, rfl, Nat.le_refl _, fun _ _ => rfl⟩
theorem below_of_draws {w w' : World} (h : ∃ k, w' = w.drewN k) : Below w.heap.size w w' := by obtain ⟨k, rfl⟩ := h; exact drewN_below w k
theorem below_of_draws_at {w w' : World} {B : Nat} (hB : B ≤ w.heap.size) (h : ∃ k, w' = w.drewN k) : Below B w w' := by obtain ⟨k, rfl⟩ := h; exact ⟨rfl, rfl, rfl, Nat.le_refl _, fun _ _ => rfl⟩
theorem At.next {w wr wr1 : World} {base r out x t2 : List UInt8} {fin : Option (List UInt8 × List UInt8)} {want f q c rem q2 c2 : Nat} {sl outv v1 : Value} {A A5 : Option Addr}
    (h : At w base fin want wr sl outv f q c rem A r out) (hown : wr1.ownsRow w.heap.size 5 1 v1 (out.length + x.length) (byteCells out ++ byteCells x)) (hg : wr.grownBy wr1 outv.ownBlock)
    (hB : Bytes wr w.heap.size A5 q2 t2) (hq : q2 < q) (hqc : q2 ≤ c2) (hx : x.length ≤ rem) (heq : fin = go base (f - 1) t2 (rem - x.length) (out ++ x)) :
    At w base fin want wr1 (.slice A5 q2 c2) v1 (f - 1) q2 c2 (rem - x.length) A5 t2 (out ++ x) := by
  have hr : ∀ g, outv.ownBlock = some g → w.heap.size ≤ g := fun g hg => (h.own.lt g hg).1
  have h1 := h.sum
  have h2 := h.fuel
  have h3 := h.len
  refine ⟨rfl, hqc, by omega, ⟨hB.1.grown hg h.below.size hr, hB.2⟩, ?_, h.below.grown hg h.below.size hr, by simp; omega, h.most, heq, by omega⟩
  simpa [Lib.byteCells] using hown
theorem own_shape {w : World} {B n : Nat} {e : TypeId} {v : Value} {xs : List Value} (h : w.ownsRow B e 1 v n xs) : ∃ A c, v = .slice A n c := by
  rcases h.2 with ⟨rfl, rfl⟩ | ⟨g, cap, cur, rfl, _⟩
  · exact ⟨_, _, rfl⟩
  · exact ⟨_, _, rfl⟩
set_option maxRecDepth 100000 in
set_option maxHeartbeats 8000000 in
theorem patched_calls (A D : Option Addr) (n c m d : Nat) (base l : List UInt8) (w : World) (h : Bytes w w.heap.size A n base) (hl : Bytes w w.heap.size D m l) (hnc : n ≤ c) (hmd : m ≤ d) (hn : n ≤ 2147483647) (hm : m ≤ 2147483647) :
    Calls Tryd.prog 6 #[.slice A n c, .slice D m d] w (PatchedEnd w (patched base l)) := by
  obtain ⟨i0, hi, hz0, hz1, hz2⟩ := info_parts infoByte
  have hnl := hid h.len
  have hml := hid hl.len
  have HA := hid h
  have HD := hid hl
  clear h hl
  go_enter Tryd.func6, Tryd.ntmps6
  go_wp2_with fail
  refine (readSize7_calls D m d w.heap.size l w HD.out hmd (by omega)).mono ?_
  rintro e w1 ⟨hk1, h1⟩
  have hb1 := hid (below_of_draws hk1)
  clear hk1
  cases hs1 : sz7 l 0 0 with
  | refused =>
    rw [hs1] at h1
    subst h1
    have HP : Hid (patched base l = .opn) := hid (by unfold patched; rw [hs1])
    clear hs1
    go_wp2_with fail
    refine bodyPost_ret (by simp [results, Tryd.results6, go_sem]; rfl) rfl ?_
    unfold PatchedEnd; rw [HP.out]; exact ⟨hb1.out, rfl⟩
  | opn =>
    rw [hs1] at h1
    subst h1
    have HP : Hid (patched base l = .opn) := hid (by unfold patched; rw [hs1])
    clear hs1
    go_wp2_with fail
    refine bodyPost_ret (by simp [results, Tryd.results6, go_sem]; rfl) rfl ?_
    unfold PatchedEnd; rw [HP.out]; exact ⟨hb1.out, rfl⟩
  | told size d1 =>
    rw [hs1] at h1
    obtain ⟨A1, rfl, hB1⟩ := h1
    have hl1 := sz7_length _ _ _ _ _ hs1
    rw [hml.out] at hl1
    generalize hm1 : d1.length = m1 at hB1 hl1
    have HB1 := hid hB1
    have HM1 := hid hm1
    have HS1 := hid hs1
    clear hB1 hs1 hm1
    go_wp2_with fail
    refine (readSize7_calls A1 m1 (d - (m - m1)) w.heap.size d1 w1 (HB1.out.below hb1.out) (by omega) (by omega)).mono ?_
    rintro e w2 ⟨hk2, h2⟩
    have hb2 := hid (hb1.out.trans (below_of_draws_at hb1.out.size hk2))
    have hdr := hid hk2
    clear hk2
    cases hs2 : sz7 d1 0 0 with
    | refused =>
      rw [hs2] at h2
      subst h2
      have HP : Hid (patched base l = .opn) := hid (by unfold patched; rw [HS1.out]; simp only; rw [hs2])
      clear hs2
      go_wp2_with fail
      refine bodyPost_ret (by simp [results, Tryd.results6, go_sem]; rfl) rfl ?_
      unfold PatchedEnd; rw [HP.out]; exact ⟨hb2.out, rfl⟩
    | opn =>
      rw [hs2] at h2
      subst h2
      have HP : Hid (patched base l = .opn) := hid (by unfold patched; rw [HS1.out]; simp only; rw [hs2])
      clear hs2
      go_wp2_with fail
      refine bodyPost_ret (by simp [results, Tryd.results6, go_sem]; rfl) rfl ?_
      unfold PatchedEnd; rw [HP.out]; exact ⟨hb2.out, rfl⟩
    | told want d2 =>
      rw [hs2] at h2
      obtain ⟨A2, rfl, hB2⟩ := h2
      have hl2 := sz7_length _ _ _ _ _ hs2
      rw [HM1.out] at hl2
      generalize hm2 : d2.length = m2 at hB2 hl2
      have HB2 := hid hB2
      have HM2 := hid hm2
      have HS2 := hid hs2
      clear hB2 hs2 hm2
      have HP : Hid (patched base l = if base = [] ∨ want = 0 ∨ 1000000 < want ∨ 1000000 < base.length ∨ 1000000 < l.length then .opn
          else if size ≠ base.length then .refused
          else match go base (d2.length + 1) d2 want [] with
            | none => .refused
            | some (out, r) => if r = [] then .told out else .opn) := hid (by unfold patched; rw [HS1.out]; simp only; rw [HS2.out]; rfl)
      have HB := hid (HB2.out.below (below_of_draws_at (w := w1) (w' := w2) hb1.out.size hdr.out))
      have hA2 := hid (HA.out.below hb2.out)
      clear HB1 HB2 HD hb1 hdr
      by_cases hguard : base = [] ∨ want = 0 ∨ 1000000 < want ∨ 1000000 < base.length ∨ 1000000 < l.length
      · have HQ : Hid (patched base l = .opn) := hid (by rw [HP.out, if_pos hguard])
        clear HP
        have hg2 : n = 0 ∨ want = 0 ∨ 1000000 < want ∨ 1000000 < n ∨ 1000000 < m := by
          rw [← hnl.out, ← hml.out]; rcases hguard with h | h | h | h | h
          · exact .inl (by rw [h]; rfl)
          · exact .inr (.inl h)
          · exact .inr (.inr (.inl h))
          · exact .inr (.inr (.inr (.inl h)))
          · exact .inr (.inr (.inr (.inr h)))
        clear hguard
        by_cases g1 : n = 0
        · subst g1
          go_wp2_with fail
          refine bodyPost_ret (by simp [results, Tryd.results6, go_sem]; rfl) rfl ?_
          unfold PatchedEnd; rw [HQ.out]; exact ⟨hb2.out, rfl⟩
        · have e1 : ((n : Int) == 0) = false := by simpa using g1
          by_cases g2 : want = 0
          · subst g2
            go_wp2_with fail
            refine bodyPost_ret (by simp [results, Tryd.results6, go_sem]; rfl) rfl ?_
            unfold PatchedEnd; rw [HQ.out]; exact ⟨hb2.out, rfl⟩
          · have e2 : ((want : Int) == 0) = false := by simpa using g2
            by_cases g3 : 1000000 < want
            · have e3 : (1000000 : Int) < want := by omega
              go_wp2_with fail
              refine bodyPost_ret (by simp [results, Tryd.results6, go_sem]; rfl) rfl ?_
              unfold PatchedEnd; rw [HQ.out]; exact ⟨hb2.out, rfl⟩
            · have e3 : ¬ (1000000 : Int) < want := by omega
              by_cases g4 : 1000000 < n
              · have e4 : (1000000 : Int) < n := by omega
                go_wp2_with fail
                refine bodyPost_ret (by simp [results, Tryd.results6, go_sem]; rfl) rfl ?_
                unfold PatchedEnd; rw [HQ.out]; exact ⟨hb2.out, rfl⟩
              · have e4 : ¬ (1000000 : Int) < n := by omega
                have e5 : (1000000 : Int) < m := by omega
                go_wp2_with fail
                refine bodyPost_ret (by simp [results, Tryd.results6, go_sem]; rfl) rfl ?_
                unfold PatchedEnd; rw [HQ.out]; exact ⟨hb2.out, rfl⟩
      · have hg : n ≠ 0 ∧ want ≠ 0 ∧ want ≤ 1000000 ∧ n ≤ 1000000 ∧ m ≤ 1000000 := by
          rw [← hnl.out, ← hml.out]
          simp only [not_or] at hguard
          refine ⟨?_, hguard.2.1, by omega, by omega, by omega⟩
          intro h; exact hguard.1 (List.eq_nil_of_length_eq_zero h)
        rw [if_neg hguard] at HP
        clear hguard
        obtain ⟨g1, g2, g3, g4, g5⟩ := hg
        have e1 : ((n : Int) == 0) = false := by simpa using g1
        have e2 : ((want : Int) == 0) = false := by simpa using g2
        have e3 : ¬ (1000000 : Int) < want := by omega
        have e4 : ¬ (1000000 : Int) < n := by omega
        have e5 : ¬ (1000000 : Int) < m := by omega
        by_cases hsz : size = n
        · rw [if_neg (by rw [hnl.out]; simp [hsz])] at HP
          subst hsz
          obtain ⟨fin, hfin⟩ : ∃ fin, fin = go base (d2.length + 1) d2 want [] := ⟨_, rfl⟩
          rw [← hfin] at HP
          have HFin := hid hfin
          clear hfin
          go_wp2_with fail
          go_loopw [7, 10, 11, 12, 13, 14, 15] (fun sl outv _ _ _ _ _ wr => ∃ f m' c' rem A' r out, At w base fin want wr sl outv f m' c' rem A' r out) (fun sl _ _ _ _ _ _ _ => slLen sl)
          case atStart => exact ⟨d2.length + 1, m2, _, want, A2, d2, [], ⟨rfl, by omega, by omega, HB.out, World.ownsRow_nil _ _ _ _, hb2.out, by simp, g3, HFin.out, by rw [HM2.out]; omega⟩⟩
          case round =>
            obtain ⟨f, q, c', rem, A', r, out, hAt⟩ := hrel
            obtain rfl := hAt.rest
            obtain ⟨Ao, co, rfl⟩ := own_shape hAt.own
            have hqc := hAt.cap
            have hq := hAt.len
            have hsum := hAt.sum
            have HAt := hid hAt
            clear hAt
            by_cases hrem : rem = 0
            · have hfr : Hid (fin = some (out, r)) := hid (by rw [HAt.out.eq, hrem, go_zero])
              have e7 : ¬ (out.length : Int) < want := by omega
              by_cases hq0 : q = 0
              · have hr0 : Hid (r = []) := hid (List.eq_nil_of_length_eq_zero (by rw [HAt.out.bytes.len]; exact hq0))
                subst hq0
                go_wp2_with fail
                refine bodyPost_ret (by simp [results, Tryd.results6, go_sem]; rfl) rfl ?_
                unfold PatchedEnd; rw [HP.out, hfr.out]; simp only; rw [if_pos hr0.out]
                exact ⟨HAt.out.below, _, rfl, HAt.out.own, by omega⟩
              · have hr0 : Hid (r ≠ []) := hid (by intro h; have := HAt.out.bytes.len; rw [h] at this; simp at this; omega)
                have e8 : (0 : Int) < q := by omega
                go_wp2_with fail
                refine bodyPost_ret (by simp [results, Tryd.results6, go_sem]; rfl) rfl ?_
                unfold PatchedEnd; rw [HP.out, hfr.out]; simp only; rw [if_neg hr0.out]
                exact ⟨HAt.out.below, trivial⟩
            · have e7 : (out.length : Int) < want := by omega
              by_cases hq0 : q = 0
              · have hfr : Hid (fin = none) := hid (by
                  have hr0 : r = [] := List.eq_nil_of_length_eq_zero (by rw [HAt.out.bytes.len]; exact hq0)
                  have hf := HAt.out.fuel
                  rw [HAt.out.eq, hr0, show f = (f - 1) + 1 by omega, go_nil _ _ _ _ (by omega)])
                subst hq0
                go_wp2_with fail
                refine bodyPost_ret (by simp [results, Tryd.results6, go_sem]; rfl) rfl ?_
                unfold PatchedEnd; rw [HP.out, hfr.out]
                exact ⟨HAt.out.below, rfl⟩
              · obtain ⟨g, o, b8, rfl, hgB, hcell, hd, hb⟩ := HAt.out.bytes.next (k := 0) (by omega)
                have hr : Hid (r = b8 :: r.drop 1) := hid (by simpa using hd)
                clear hd
                simp only [Nat.add_zero] at hcell
                have e8 : ((q : Int) == 0) = false := by simpa using hq0
                have hgo := hid (show fin = _ from by
                  have hf := HAt.out.fuel
                  rw [HAt.out.eq, hr.out, show f = (f - 1) + 1 by omega, go_cons _ _ _ _ _ _ (show 0 < rem by omega)])
                obtain ⟨A3, hA3, hs3⟩ := slice_from .i64 (some ⟨g, o, none⟩) q c' 1 (by omega)
                have hcut := hid (hA3 _ _ _ HAt.out.bytes hqc)
                clear hA3
                simp only [Int.natCast_one] at hs3
                have htl := hid hcut.out.len
                generalize r.drop 1 = t at hr hgo hcut htl
                generalize b8.toNat = b at *
                by_cases hb0 : b = 0
                · have hfr : Hid (fin = none) := hid (by rw [hgo.out, if_pos (by omega), if_pos hb0])
                  clear hgo
                  subst hb0
                  go_wp2_with fail
                  refine bodyPost_ret (by simp [results, Tryd.results6, go_sem]; rfl) rfl ?_
                  unfold PatchedEnd; rw [HP.out, hfr.out]
                  exact ⟨HAt.out.below, rfl⟩
                · have e9 : ((b : Int) == 0) = false := by simpa using hb0
                  by_cases h128 : b < 128
                  · have e10 : (b : Int) < 128 := by omega
                    rw [if_pos h128, if_neg hb0] at hgo
                    by_cases hx : q - 1 < b
                    · have hfr : Hid (fin = none) := hid (by rw [hgo.out, if_pos (by rw [htl.out]; exact .inl hx)])
                      clear hgo
                      have e11 : ((q - 1 : Nat) : Int) < b := by omega
                      go_wp2_with fail
                      refine bodyPost_ret (by simp [results, Tryd.results6, go_sem]; rfl) rfl ?_
                      unfold PatchedEnd; rw [HP.out, hfr.out]
                      exact ⟨HAt.out.below, rfl⟩
                    · have e11 : ¬ ((q - 1 : Nat) : Int) < b := by omega
                      by_cases hy : rem < b
                      · have hfr : Hid (fin = none) := hid (by rw [hgo.out, if_pos (.inr hy)])
                        clear hgo
                        have e12 : (want : Int) < (out.length : Int) + b := by omega
                        go_wp2_with fail
                        refine bodyPost_ret (by simp [results, Tryd.results6, go_sem]; rfl) rfl ?_
                        unfold PatchedEnd; rw [HP.out, hfr.out]
                        exact ⟨HAt.out.below, rfl⟩
                      · rw [if_neg (by rw [htl.out]; omega)] at hgo
                        have e12 : ¬ (want : Int) < (out.length : Int) + b := by omega
                        obtain ⟨A4, hA4, hs4⟩ := slice_front .u8 A3 (q - 1) (c' - 1) b (by omega) (by omega)
                        have hfront := hid (hA4 _ _ _ hcut.out)
                        obtain ⟨A5, hA5, hs5⟩ := slice_from .u8 A3 (q - 1) (c' - 1) b (by omega)
                        have hrest := hid (hA5 _ _ _ hcut.out (by omega))
                        have hxl : (t.take b).length = b := hfront.out.len
                        have HXL := hid hxl
                        clear hA4 hA5 hxl
                        go_wp2_with (at_builtin; refine wpList_append_any _ rfl (.tmp 93) (.tmp 96) _ rfl w.heap.size 5 i0 _ 1 1 Tryd.underlying22 hi hz0 hz1 hz2 rfl (by omega) (.slice Ao out.length co) out.length (byteCells out) rfl HAt.out.own w.heap.size A4 b (c' - 1) (byteCells (t.take b)) rfl hfront.out.1 (cells_one _) (by simp only [maxLen]; omega) (by omega) HAt.out.below.size ?_; intro v1 wr1 hown1 hg1 hat1)
                        go_roundw
                        case rel =>
                          have hn := HAt.out.next (x := t.take b) (by rw [HXL.out]; exact hown1) hg1 hrest.out (c2 := c' - 1 - b) (by omega) (by omega) (by rw [HXL.out]; omega) (by rw [HXL.out]; exact hgo.out)
                          exact ⟨_, _, _, _, _, _, _, hn⟩
                        case measure => simp only [slLen]; omega
                  · have e10 : ¬ (b : Int) < 128 := by omega
                    rw [if_neg h128] at hgo
                    go_wp2_with fail
                    refine (readCopy_calls b A3 (q - 1) (c' - 1) w.heap.size t wr hb hcut.out (by omega) (by omega)).mono ?_
                    rintro e wx ⟨hwx, h3⟩
                    subst hwx
                    cases hrc : rc b 7 0 t 0 0 with
                    | none =>
                      rw [hrc] at h3 hgo
                      subst h3
                      have hfr : Hid (fin = none) := hid hgo.out
                      clear hgo hrc
                      go_wp2_with fail
                      refine bodyPost_ret (by simp [results, Tryd.results6, go_sem]; rfl) rfl ?_
                      unfold PatchedEnd; rw [HP.out, hfr.out]
                      exact ⟨HAt.out.below, rfl⟩
                    | some x =>
                      obtain ⟨fr, s, t2⟩ := x
                      rw [hrc] at h3 hgo
                      obtain ⟨A6, rfl, hB6, hl6, hf6, hs6⟩ := h3
                      simp only at hgo
                      have hz : copySize s ≤ 16777216 := by unfold copySize; split <;> omega
                      generalize copySize s = z at *
                      have HB6 := hid hB6
                      generalize t2.length = q2 at *
                      clear hB6 hrc
                      have hbl : base.length = size := hnl.out
                      have hpc := hid (show (rem < z ∨ base.length < fr + z) ↔ (rem < z ∨ size < fr + z) from by rw [hbl])
                      clear hbl
                      by_cases c1 : size < fr
                      · have hfr : Hid (fin = none) := hid (by rw [hgo.out, if_pos (hpc.out.2 (by omega))])
                        clear hgo
                        have e11 : (size : Int) < fr := by omega
                        go_wp2_with fail
                        refine bodyPost_ret (by simp [results, Tryd.results6, go_sem]; rfl) rfl ?_
                        unfold PatchedEnd; rw [HP.out, hfr.out]
                        exact ⟨HAt.out.below, rfl⟩
                      · have e11 : ¬ (size : Int) < fr := by omega
                        by_cases c2 : size - fr < z
                        · have hfr : Hid (fin = none) := hid (by rw [hgo.out, if_pos (hpc.out.2 (by omega))])
                          clear hgo
                          have e12 : (size : Int) - fr < z := by omega
                          go_wp2_with fail
                          refine bodyPost_ret (by simp [results, Tryd.results6, go_sem]; rfl) rfl ?_
                          unfold PatchedEnd; rw [HP.out, hfr.out]
                          exact ⟨HAt.out.below, rfl⟩
                        · have e12 : ¬ (size : Int) - fr < z := by omega
                          by_cases c3 : rem < z
                          · have hfr : Hid (fin = none) := hid (by rw [hgo.out, if_pos (.inl c3)])
                            clear hgo
                            have e13 : (want : Int) < (out.length : Int) + z := by omega
                            go_wp2_with fail
                            refine bodyPost_ret (by simp [results, Tryd.results6, go_sem]; rfl) rfl ?_
                            unfold PatchedEnd; rw [HP.out, hfr.out]
                            exact ⟨HAt.out.below, rfl⟩
                          · have e13 : ¬ (want : Int) < (out.length : Int) + z := by omega
                            rw [if_neg (fun h => by have := hpc.out.1 h; omega)] at hgo
                            obtain ⟨A7, hA7, hs7⟩ := slice_mid .i64 .i64 A size c fr (fr + z) (by omega) (by omega) hnc
                            have hmid : Hid (Bytes wx w.heap.size A7 z ((base.drop fr).take z)) := hid (by
                              have := hA7 _ _ _ (HA.out.below HAt.out.below)
                              rwa [show fr + z - fr = z by omega] at this)
                            rw [show fr + z - fr = z by omega] at hs7
                            simp only [Int.natCast_add] at hs7
                            have HXL : Hid (((base.drop fr).take z).length = z) := hid hmid.out.len
                            clear hA7
                            go_wp2_with (at_builtin; refine wpList_append_any _ rfl (.tmp 133) (.tmp 139) _ rfl w.heap.size 5 i0 _ 1 1 Tryd.underlying22 hi hz0 hz1 hz2 rfl (by omega) (.slice Ao out.length co) out.length (byteCells out) rfl HAt.out.own w.heap.size A7 z (c - fr) (byteCells ((base.drop fr).take z)) rfl hmid.out.1 (cells_one _) (by simp only [maxLen]; omega) (by omega) HAt.out.below.size ?_; intro v1 wr1 hown1 hg1 hat1)
                            go_roundw
                            case rel =>
                              have hn := HAt.out.next (x := (base.drop fr).take z) (by rw [HXL.out]; exact hown1) hg1 HB6.out (c2 := c' - 1 - (q - 1 - q2)) (by omega) (by omega) (by rw [HXL.out]; omega) (by rw [HXL.out]; exact hgo.out)
                              exact ⟨_, _, _, _, _, _, _, hn⟩
                            case measure => simp only [slLen]; omega
        · rw [if_pos (by rw [hnl.out]; exact hsz)] at HP
          have e6 : ((size : Int) == n) = false := by simp; omega
          go_wp2_with fail
          refine bodyPost_ret (by simp [results, Tryd.results6, go_sem]; rfl) rfl ?_
          unfold PatchedEnd; rw [HP.out]; exact ⟨hb2.out, rfl⟩
end Go.Proofs.YtfanginpfppdeaaDoor.delta
