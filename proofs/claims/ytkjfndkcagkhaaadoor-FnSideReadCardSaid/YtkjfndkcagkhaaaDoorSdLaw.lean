/- laws.FnSideRead. -/
import Derived.Test.YtkjfndkcagkhaaaDoorSdChunks
import Derived.Test.YtkjfndkcagkhaaaDoorPktWorks
set_option linter.unusedVariables false
attribute [local go_sem ↓] Go.wp_at_zero Go.wp_at_succ
namespace Go.Proofs.YtkjfndkcagkhaaaDoor.side
open Go.RowKit Lib frm mem text pkt rd opn

set_option maxRecDepth 100000 in
theorem deltaSame_calls (A D : Option Addr) (c d B B' : Nat) (l : List UInt8) (w : World) (h : Bytes w B A l.length l) (h' : Bytes w B' D l.length l) :
    Calls Tryd.prog 11 #[.slice A l.length c, .slice D l.length d] w fun e w' => e = .returned (.bool true) ∧ w' = w := by
  have k1 : (convert 25 9 (.slice A l.length c)).run Tryd.prog w = .ok (.string ⟨l.toArray⟩) w := text_of_bytes h
  have k2 : (convert 25 9 (.slice D l.length d)).run Tryd.prog w = .ok (.string ⟨l.toArray⟩) w := text_of_bytes h'
  obtain ⟨x, hx⟩ : ∃ x : ByteArray, x = ⟨l.toArray⟩ := ⟨_, rfl⟩
  rw [← hx] at k1 k2
  clear hx h h'
  go_enter Tryd.func11, Tryd.ntmps11
  go_wp2_with fail
  go_ret
  exact ⟨rfl, rfl⟩
def sm (b : Bool) : Nat := if b then 65516 else 1000
set_option maxRecDepth 100000 in
theorem sideMost_calls (b : Bool) (w : World) : Calls Tryd.prog 20 #[.bool b] w fun e w' => e = .returned (.int .i64 (sm b : Nat)) ∧ w' = w := by
  cases b <;>
  · go_enter Tryd.func20, Tryd.ntmps20
    go_wp2_with fail
    go_ret
    exact ⟨rfl, rfl⟩
theorem not_err (c : UInt8) (t : List UInt8) (h : c = 1 ∨ c = 2) : isErr (c :: t) = false := by
  unfold isErr
  rcases h with rfl | rfl <;> simp [List.take_succ_cons]
theorem pay_good {x : ChD} (h : ChOk x) : pkt.Good (payOf x) ∧ ∃ t, t ≠ [] ∧ (payOf x = 1 :: t ∨ payOf x = 2 :: t) := by
  have hl := h.l
  unfold payOf
  rcases h.c with hc | hc
  · rw [hc]
    exact ⟨⟨by simp; omega, not_err _ _ (.inl rfl)⟩, x.t, h.n, .inl rfl⟩
  · rw [hc]
    exact ⟨⟨by simp; omega, not_err _ _ (.inr rfl)⟩, x.t, h.n, .inr rfl⟩
theorem ch_txt (xs : List ChD) (h : ∀ x ∈ xs, ChOk x) : chOf 1 (xs.map payOf) = txt 1 xs ∧ chOf 2 (xs.map payOf) = txt 2 xs := by
  induction xs with
  | nil => exact ⟨rfl, rfl⟩
  | cons x xs ih =>
    obtain ⟨i1, i2⟩ := ih (fun y hy => h y (by simp [hy]))
    have e1 : txt 1 (x :: xs) = (if x.ch = 1 then x.t else []) ++ txt 1 xs := by simp [txt]
    have e2 : txt 2 (x :: xs) = (if x.ch = 2 then x.t else []) ++ txt 2 xs := by simp [txt]
    have hp : payOf x = (if x.ch = 1 then 1 else 2) :: x.t := rfl
    rw [List.map_cons, hp, chOf_cons, chOf_cons, i1, i2, e1, e2]
    rcases (h x (by simp)).c with hc | hc <;> rw [hc] <;> simp
theorem tmod64 (s : Int) : -64 < s.tmod 64 ∧ s.tmod 64 < 64 := by
  refine ⟨?_, Int.tmod_lt_of_pos s (by omega)⟩
  have := Int.lt_tmod_of_pos s (show (0 : Int) < 64 by omega)
  omega
theorem w64 (x : Int) (h : -9223372036854775808 ≤ x) (h2 : x ≤ 9223372036854775807) : wrap64 x = x := by
  unfold wrap64; omega
theorem step_nat (s : Int) : ∃ m : Nat, wrap64 (1 + (wrap64 (s.tmod 64 + 64)).tmod 64) = m ∧ 1 ≤ m ∧ m ≤ 1000 := by
  have h1 := tmod64 s
  rw [w64 (s.tmod 64 + 64) (by omega) (by omega)]
  have h2 := tmod64 (s.tmod 64 + 64)
  have h3 : 0 ≤ (s.tmod 64 + 64).tmod 64 := Int.tmod_nonneg _ (by omega)
  rw [w64 _ (by omega) (by omega)]
  exact ⟨(1 + (s.tmod 64 + 64).tmod 64).toNat, by omega, by omega, by omega⟩
def Yes (w : World) (e : Ending) (w' : World) : Prop := e = .returned (.bool true) ∧ Below w.heap.size w w'
theorem below_more {a b c : World} (h : Below a.heap.size a b) (k : Below b.heap.size b c) : Below a.heap.size a c :=
  h.trans ⟨k.os, k.tape, k.output, k.size, fun i hi => k.block i (Nat.lt_of_lt_of_le hi h.size)⟩
set_option maxRecDepth 100000 in
set_option maxHeartbeats 8000000 in
theorem law_calls (b : Bool) (A : Option Addr) (n c : Nat) (xs : List ChD) (s : Int) (w : World) (h : ChSl w w.heap.size A n xs) (hn : n ≤ 140737488355328) (hl : ∀ x ∈ xs, x.t.length ≤ 140737488355328) (pe pu : Addr) (hT : Two w pe pu) :
    Calls Tryd.prog 5 #[.bool b, .slice A n c, .int .i64 s] w (Yes w) := by
  have c1 := hid (fits40_calls A n c xs w h hn hl)
  have c2 := hid (fun (w' : World) (hb : Below w.heap.size w w') => sideGood_calls A n c xs w' (by have := h.below hb; exact ⟨⟨this.1.1.more hb.size, this.1.2⟩, fun x hx => by obtain ⟨A', c', e, hc, hB⟩ := this.2 x hx; exact ⟨A', c', e, hc, hB.more hb.size⟩⟩) hn hl)
  have H := hid h
  have HT := hid hT
  have HW := hid (fun (w' : World) (hb : Below w.heap.size w w') => works_calls pe pu w' (hT.below_ hb))
  have HN : Hid (n = xs.length) := hid h.1.2.1.symm
  clear h hn hl hT
  go_enter Tryd.func5, Tryd.ntmps5
  go_wp2_with fail
  refine c1.out.mono ?_
  rintro e w1 ⟨hb1, b1, rfl, -⟩
  have HB1 := hid hb1
  clear hb1 c1
  cases b1 with
  | false =>
    go_wp2_with fail
    go_ret
    exact ⟨rfl, HB1.out⟩
  | true =>
  go_wp2_with fail
  refine (c2.out _ HB1.out).mono ?_
  rintro e w2 ⟨hb2, b2, rfl, hg2⟩
  have HB2 := hid (below_more HB1.out hb2)
  cases b2 with
  | false =>
    clear hb2 hg2
    go_wp2_with fail
    refine (HW.out _ HB2.out).mono ?_
    rintro e w3 ⟨rfl, hb3⟩
    have HB3 := hid (below_more HB2.out hb3)
    clear hb3
    go_wp2_with fail
    go_ret
    exact ⟨rfl, HB3.out⟩
  | true =>
  have HG := hid (hg2 rfl)
  clear hb2 hg2 c2
  have hn60 : n ≤ 60 := by have := HG.out.1; have := HN.out; omega
  obtain ⟨ls, hls⟩ : ∃ ls, ls = xs.map payOf := ⟨_, rfl⟩
  have HLS := hid hls
  have c3 := hid (chunkLines_calls w.heap.size A n c xs w2 (H.out.below HB2.out) HB2.out.size hn60 HG.out.2)
  rw [← hls] at c3
  have hN60 : (lines ls).length ≤ 3600300 := by
    rw [hls]
    have := lines_len xs (fun x hx => (HG.out.2 x hx).l)
    have := HG.out.1
    omega
  have HPG : Hid (∀ p ∈ ls, pkt.Good p ∧ ∃ t, t ≠ [] ∧ (p = 1 :: t ∨ p = 2 :: t)) := hid (fun p hp => by
    rw [hls] at hp
    obtain ⟨x, hx, rfl⟩ := List.mem_map.1 hp
    exact pay_good (HG.out.2 x hx))
  have HL60 := hid (show ls.length ≤ 60 by rw [hls, List.length_map]; exact HG.out.1)
  clear hls hn60
  go_wp2_with fail
  refine c3.out.mono ?_
  rintro e w3 ⟨v3, rfl, hb3, hown3⟩
  obtain ⟨A3, c3', rfl, hnc3, hby3, -⟩ := own_bytes hown3
  have HB3 := hid (below_more HB2.out hb3)
  have HBY3 := hid hby3
  obtain ⟨q, hq⟩ : ∃ q, q = (lines ls).length := ⟨_, rfl⟩
  rw [← hq] at HBY3 hN60 hnc3 ⊢
  have HNC := hid hnc3
  have HQ := hid hN60
  have c4 := hid (fun w => sideMost_calls b w)
  have hsm : ((sm b : Nat) : Int) ≤ 65516 ∧ (1000 : Int) ≤ (sm b : Nat) := by unfold sm; cases b <;> simp
  obtain ⟨mo, hmo⟩ : ∃ mo, mo = sm b := ⟨_, rfl⟩
  simp only [← hmo] at c4
  rw [← hmo] at hsm
  obtain ⟨hsm1, hsm2⟩ := hsm
  have HMO := hid hmo
  have hsub : IntKind.i64.wrap ((mo : Int) - 10) = ((mo - 10 : Nat) : Int) := by rw [show (mo : Int) - 10 = ((mo - 10 : Nat) : Int) by omega]; exact IntWalk.i64_in _ (by omega)
  have c5 := hid (chunks_calls w3.heap.size A3 q c3' (mo - 10) ls w3 HBY3.out hnc3 (Nat.le_refl _) (by omega) HL60.out HPG.out (by omega))
  have HSM := hid (And.intro hsm1 hsm2)
  clear hb3 hown3 hnc3 hby3 hq hmo c3
  go_wp2_with fail
  refine (c4.out _).mono ?_
  rintro e w4 ⟨rfl, hw4⟩
  obtain rfl : w3 = w4 := hw4.symm
  clear hw4 c4
  go_wp2_with fail
  refine c5.out.mono ?_
  rintro e w4 ⟨hb4, v4, b4, rfl, hok4⟩
  have HB4 := hid (below_more HB3.out hb4)
  have HBY4 := hid (HBY3.out.below hb4)
  have HB34 := hid hb4
  clear hb4 c5
  cases b4 with
  | false =>
    clear hok4
    go_wp2_with fail
    refine (HW.out _ HB4.out).mono ?_
    rintro e w5 ⟨rfl, hb5⟩
    have HB5 := hid (below_more HB4.out hb5)
    clear hb5
    go_wp2_with fail
    go_ret
    exact ⟨rfl, HB5.out⟩
  | true =>
  have HOK := hid (hok4 rfl)
  clear hok4 hsub hsm1 hsm2
  go_wp2_with fail
  obtain ⟨m, hm, hm1, hm2⟩ := step_nat s
  rw [hm]
  have hT4 := HT.out.below_ HB4.out
  have hpb : pe.block < w4.heap.size := by obtain ⟨_, _, e⟩ := hT4.pb; exact Lib.lt_of_heap e
  have hpu : pu.block < w4.heap.size := by obtain ⟨_, _, e⟩ := hT4.pub_; exact Lib.lt_of_heap e
  obtain ⟨hc1, hc2⟩ := ch_txt xs HG.out.2
  rw [← HLS.out] at hc1 hc2
  have hxl : ∀ x ∈ xs, x.t.length ≤ 60000 := fun x hx => (HG.out.2 x hx).l
  have ht1 := txt_len 1 xs hxl
  have ht2 := txt_len 2 xs hxl
  have hx60 := HG.out.1
  have c6 := demux_calls b A3 q c3' m (lines ls) ls pe pu w4 (HBY4.out.more HB34.out.size) rfl (fun p hp => ⟨(HPG.out p hp).1, by
    have h1 := HOK.out p hp
    have h2 := HMO.out
    unfold sm at h2
    unfold most
    split <;> simp_all <;> omega, (HPG.out p hp).2⟩) (by have := HQ.out; omega) HNC.out hT4 hpb hpu hm1 hm2 (by rw [hc1]; omega) (by rw [hc2]; omega)
  rw [hc1, hc2] at c6
  have C6 := hid c6
  have HXL := hid hxl
  have HN60 := hid (show n ≤ 60 by have := HN.out; omega)
  clear hm hm1 hm2 hT4 hpb hpu hc1 hc2 hxl ht1 ht2 hx60 c6
  refine C6.out.mono ?_
  rintro e w5 ⟨v1, v2, rfl, hb5, ⟨D1, d1, rfl, _, hy1⟩, D2, d2, rfl, _, hy2⟩
  have HB5 := hid (below_more HB4.out hb5)
  have HY1 := hid hy1
  have HY2 := hid hy2
  have c7 := hid (channelText_calls w.heap.size A n c xs 1 w5 (H.out.below HB5.out) HB5.out.size HN60.out HXL.out)
  clear hb5 hy1 hy2 C6
  go_wp2_with fail
  refine c7.out.mono ?_
  rintro e w6 ⟨v6, rfl, hb6, ho6⟩
  obtain ⟨A6, c6, rfl, -, hy6, -⟩ := own_bytes ho6
  have HB6 := hid (below_more HB5.out hb6)
  have HY26 := hid (HY2.out.below hb6)
  have c8 := hid (deltaSame_calls D1 A6 d1 c6 w5.heap.size w6.heap.size (txt 1 xs) w6 (HY1.out.below hb6) hy6)
  have HB56 := hid hb6
  clear hb6 ho6 hy6 c7
  go_wp2_with fail
  refine c8.out.mono ?_
  rintro e w7 ⟨rfl, hw7⟩
  obtain rfl : w6 = w7 := hw7.symm
  clear hw7 c8
  have c9 := hid (channelText_calls w.heap.size A n c xs 2 w6 (H.out.below HB6.out) HB6.out.size HN60.out HXL.out)
  go_wp2_with fail
  refine c9.out.mono ?_
  rintro e w7 ⟨v7, rfl, hb7, ho7⟩
  obtain ⟨A7, c7, rfl, -, hy7, -⟩ := own_bytes ho7
  have HB7 := hid (below_more HB6.out hb7)
  have c10 := hid (deltaSame_calls D2 A7 d2 c7 w5.heap.size w7.heap.size (txt 2 xs) w7 (HY26.out.below (hb7.mono HB56.out.size)) hy7)
  clear hb7 ho7 hy7 c9
  go_wp2_with fail
  refine c10.out.mono ?_
  rintro e w8 ⟨rfl, hw8⟩
  obtain rfl : w7 = w8 := hw8.symm
  clear hw8 c10
  go_wp2_with fail
  refine (HW.out _ HB7.out).mono ?_
  rintro e w8 ⟨rfl, hb8⟩
  have HB8 := hid (below_more HB7.out hb8)
  clear hb8
  go_wp2_with fail
  go_ret
  exact ⟨rfl, HB8.out⟩
end Go.Proofs.YtkjfndkcagkhaaaDoor.side
