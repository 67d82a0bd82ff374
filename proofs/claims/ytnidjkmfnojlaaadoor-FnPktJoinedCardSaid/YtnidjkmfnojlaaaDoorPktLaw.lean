/- FnPktJoined, walked. -/
import Derived.Test.YtnidjkmfnojlaaaDoorPktWrite
set_option linter.unusedVariables false
attribute [local go_sem ↓] Go.wp_at_zero Go.wp_at_succ
namespace Go.Proofs.YtnidjkmfnojlaaaDoor.pkt
open Go.RowKit Lib frm mem rd text

theorem rowV_B {w : World} {F : List Nat} {v : Value} {l : List UInt8} (h : RowV w F v l) : RowB w w.heap.size v l := by
  obtain ⟨A, c, e, h1, h2, _⟩ := h; exact ⟨A, c, e, h1, h2⟩
theorem rowB_one {w : World} {B : Nat} {vs : List Value} {ls : List (List UInt8)} (h : All2 (RowB w B) vs ls) : ∀ u ∈ vs, u.oneCell' = true := by
  induction h with
  | nil => simp
  | cons h _ ih =>
    obtain ⟨A, c, rfl, _⟩ := h
    intro u hu
    rcases List.mem_cons.1 hu with rfl | hu
    · rfl
    · exact ih u hu
theorem rows_of_own {w : World} {B B' n : Nat} {e : TypeId} {v : Value} {vs : List Value} {ls : List (List UInt8)} (h : w.ownsRow B e 1 v n vs) (hr : All2 (RowB w B') vs ls) (hB : B' ≤ w.heap.size) : ∃ A c, v = .slice A n c ∧ n ≤ c ∧ Rows w w.heap.size A n ls := by
  have hr' := hr.mono (fun v l (h : RowB w B' v l) => (by obtain ⟨A, c, e, h1, h2⟩ := h; exact ⟨A, c, e, h1, h2.more hB⟩ : RowB w w.heap.size v l))
  rcases id h with ⟨hl, ⟨rfl, h0⟩ | ⟨g, cap, cur, rfl, hBg, hg, hnc, hcm, hcs, htk⟩⟩
  · subst h0
    exact ⟨none, 0, rfl, Nat.le_refl _, vs, ⟨by simpa using hl, fun h => absurd h (by omega)⟩, hr', fun h => absurd h (by omega)⟩
  · exact ⟨_, _, rfl, hnc, vs, Reads.of_own h, hr', fun _ => ⟨g, 0, rfl⟩⟩
def Yes (w : World) (e : Ending) (w' : World) : Prop := e = .returned (.bool true) ∧ Below w.heap.size w w'
theorem Two.below_ {w w' : World} {p pu : Addr} (h : Two w p pu) (hb : Below w.heap.size w w') : Two w' p pu := by
  obtain ⟨c1, t1, e1⟩ := h.pb
  obtain ⟨c2, t2, e2⟩ := h.pub_
  exact h.below hb h.eofg h.unxg (Lib.lt_of_heap e1) (Lib.lt_of_heap e2)
theorem below_more {a b c : World} (h : Below a.heap.size a b) (k : Below b.heap.size b c) : Below a.heap.size a c :=
  h.trans ⟨k.os, k.tape, k.output, k.size, fun i hi => k.block i (Nat.lt_of_lt_of_le hi h.size)⟩
set_option maxRecDepth 100000 in
set_option maxHeartbeats 1000000 in
theorem works_calls (pe pu : Addr) (w : World) (hT : Two w pe pu) : Calls Tryd.prog 11 #[] w (Yes w) := by
  have kc := fun (w : World) (C : Array Value) (n c : Nat) => Lib.run_convert_bytes_const (P := Tryd.prog) w 38 5 C n c Tryd.underlying38 Tryd.underlying5
  have HT := hid hT
  clear hT
  go_enter Tryd.func11, Tryd.ntmps11
  go_wp2_with fail
  generalize hw1 : w.alloc _ = w1
  have hb1 : Below w.heap.size w w1 := by rw [← hw1]; exact (Below.refl _ _).alloc (Nat.le_refl _) _
  have hy : Bytes w1 w1.heap.size (some ⟨w.heap.size, 0, none⟩) 6 (lines [[97, 10]]) := by
    rw [← hw1]
    refine ⟨⟨rfl, fun _ => ⟨_, rfl, by simp, fun j u hu => ?_⟩⟩, fun _ => ⟨_, _, rfl⟩⟩
    rw [Lib.addr_add, Nat.zero_add, Lib.cell_of_heap (heap_alloc_new w _) j, ← hu]
    have e : byteCells (lines [[97, 10]]) = [.int .u8 48, .int .u8 48, .int .u8 48, .int .u8 54, .int .u8 97, .int .u8 10] := by rw [show lines [[97, 10]] = [48, 48, 48, 54, 97, 10] by decide]; rfl
    rw [e]
    simp
  have c1 := readLines_calls (some ⟨w.heap.size, 0, none⟩) 6 6 _ [[97, 10]] pe pu w1 hy (Nat.le_refl _) (by omega) rfl (by intro p hp; simp at hp; subst hp; exact ⟨by decide, by decide⟩) (by decide) (HT.out.below_ hb1)
  have HB1 := hid hb1
  clear hy hb1 hw1
  refine c1.mono ?_
  rintro e w2 ⟨v, vs, rfl, hown, hrows, hb2⟩
  obtain ⟨A2, c2, rfl, hc2, hR⟩ := rows_of_own hown (hrows.mono fun v l h => rowV_B h) (Nat.le_refl _)
  obtain ⟨g, o, D, d, p, rfl, hg, hcell, _, hp, hpd, hbp⟩ := hR.next (k := 0) (by decide)
  obtain rfl : [97, 10] = p := by simpa using hp
  have k1 : ∀ q, (convert 38 9 (.slice D 2 d)).run Tryd.prog (w2.drewN q) = .ok (.string ⟨#[97, 10]⟩) (w2.drewN q) := fun q => text_of_bytes (l := [97, 10]) (hbp.drewN q)
  have k2 : (convert 38 9 (.slice D 2 d)).run Tryd.prog w2 = .ok (.string ⟨#[97, 10]⟩) w2 := text_of_bytes (l := [97, 10]) hbp
  have hcell' : w2.cell? ⟨g, o, none⟩ = some (.slice D 2 d) := hcell
  have HB2 := hid hb2
  clear c1 hown hrows hR hp hpd hbp hb2 hg hc2
  go_wp2_with fail
  go_ret
  exact ⟨rfl, below_more HB1.out HB2.out⟩
theorem two_frame {w w' : World} {B n : Nat} {A : Option Addr} {ls : List (List UInt8)} (h : Rows w w.heap.size A n ls) (hb : Below w.heap.size w w') : Rows w' w'.heap.size A n ls := (h.below hb).more hb.size
set_option maxRecDepth 100000 in
set_option maxHeartbeats 4000000 in
theorem joined_calls (A D : Option Addr) (n c m d : Nat) (one two : List (List UInt8)) (pe pu : Addr) (w : World) (hA : Rows w w.heap.size A n one) (hD : Rows w w.heap.size D m two) (hn : n ≤ 140737488355328) (hm : m ≤ 140737488355328) (hT : Two w pe pu) :
    Calls Tryd.prog 4 #[.slice A n c, .slice D m d] w (Yes w) := by
  obtain ⟨i0, hi, hz0, hz1, hz2⟩ := info_parts mem.infoByte
  obtain ⟨i1, hi1, hy0, hy1, hy2⟩ := info_parts infoRow
  have f1 := hid (fits19_calls A n c one w hA hn)
  have f2 := hid (fits19_calls D m d two w hD hm)
  have g1 := hid (goodLines_calls A n c one w hA hn)
  have g2 := hid (goodLines_calls D m d two w hD hm)
  have HA := hid hA
  have HD := hid hD
  have HT := hid hT
  have W0 := hid (works_calls pe pu w hT)
  clear hA hD hn hm hT
  go_enter Tryd.func4, Tryd.ntmps4
  go_wp2_with fail
  refine f1.out.mono ?_
  rintro e x1 ⟨hx, b1, rfl, _⟩
  obtain rfl : w = x1 := hx.symm
  clear hx
  cases b1 with
  | false =>
    go_wp2_with fail
    go_ret
    exact ⟨rfl, Below.refl _ _⟩
  | true =>
  go_wp2_with fail
  refine f2.out.mono ?_
  rintro e x1 ⟨hx, b1, rfl, _⟩
  obtain rfl : w = x1 := hx.symm
  clear hx
  cases b1 with
  | false =>
    go_wp2_with fail
    go_ret
    exact ⟨rfl, Below.refl _ _⟩
  | true =>
  go_wp2_with fail
  refine g1.out.mono ?_
  rintro e x1 ⟨hx, b1, rfl, hg1⟩
  obtain rfl : w = x1 := hx.symm
  clear hx
  cases b1 with
  | false =>
    clear hg1
    go_wp2_with fail
    refine W0.out.mono ?_
    rintro e x1 ⟨rfl, hb⟩
    have HB := hid hb
    clear hb
    go_wp2_with fail
    go_ret
    exact ⟨rfl, HB.out⟩
  | true =>
  have G1 := hid (hg1 rfl)
  clear hg1
  go_wp2_with fail
  refine g2.out.mono ?_
  rintro e x1 ⟨hx, b1, rfl, hg2⟩
  obtain rfl : w = x1 := hx.symm
  clear hx
  cases b1 with
  | false =>
    clear hg2
    go_wp2_with fail
    refine W0.out.mono ?_
    rintro e x1 ⟨rfl, hb⟩
    have HB := hid hb
    clear hb
    go_wp2_with fail
    go_ret
    exact ⟨rfl, HB.out⟩
  | true =>
  have G2 := hid (hg2 rfl)
  clear hg2 W0 g1 g2 f1 f2
  have p1 := hid (packetLines_calls A n c one w HA.out G1.out.1 G1.out.2)
  go_wp2_with fail
  refine p1.out.mono ?_
  rintro e w1 ⟨hb1, v1, rfl, ho1⟩
  have HB1 := hid hb1
  have HO1 := hid ho1
  have p2 := hid (packetLines_calls D m d two w1 (two_frame (B := 0) HD.out hb1) G2.out.1 G2.out.2)
  clear hb1 ho1 p1
  go_wp2_with fail
  refine p2.out.mono ?_
  rintro e w2 ⟨hb2, v2, rfl, ho2⟩
  have HB2 := hid hb2
  obtain ⟨A2, c2, rfl, hc2, hy2', _⟩ := own_bytes ho2
  have HO2 := hid (show w2.ownsRow w.heap.size 5 1 v1 (lines one).length (byteCells (lines one)) from own_kept HO1.out (.of_below (S := []) hb2) (by simp))
  have HR2 := hid hy2'.1
  have HL := hid (show (lines one).length ≤ 65520000 ∧ (lines two).length ≤ 65520000 from ⟨by have := lines_len one (fun q hq => (G1.out.2 q hq).1); have := G1.out.1; have := HA.out.len; omega, by have := lines_len two (fun q hq => (G2.out.2 q hq).1); have := G2.out.1; have := HD.out.len; omega⟩)
  have HB12 := hid (below_more HB1.out hb2)
  clear hb2 ho2 hy2' hc2 p2
  obtain ⟨q1, hq1⟩ : ∃ q, q = lines one := ⟨_, rfl⟩
  obtain ⟨q2, hq2⟩ : ∃ q, q = lines two := ⟨_, rfl⟩
  rw [← hq1] at HO2 HL
  rw [← hq2] at HR2 HL
  rw [← hq2]
  have HQ := hid (And.intro hq1 hq2)
  clear hq1 hq2
  go_wp2_with (at_builtin; refine wpList_append_any _ rfl (.tmp 26) (.tmp 28) _ rfl w.heap.size 5 i0 _ 1 1 Tryd.underlying38 hi hz0 hz1 hz2 rfl (by omega) v1 q1.length (byteCells q1) rfl HO2.out w2.heap.size A2 q2.length c2 (byteCells q2) rfl HR2.out (cells_one _) (by have := HL.out; simp only [maxLen]; omega) (by have := HL.out; omega) HB12.out.size ?_; intro v3 w3 hown3 hg3 hat3; have H3 := hid (And.intro hown3 (And.intro hg3 hat3)); clear hown3 hg3 hat3)
  have hb3 : Below w.heap.size w w3 := HB12.out.grown H3.out.2.1 HB12.out.size (fun x hx => (HO2.out.lt x hx).1)
  have ho3 := H3.out.1
  rw [← byteCells_append', HQ.out.1, HQ.out.2, ← lines_append, ← List.length_append, ← lines_append] at ho3
  obtain ⟨A3, c3, rfl, hc3, hy3, _⟩ := own_bytes ho3
  have HLen : Hid ((lines (one ++ two)).length ≤ 131040000) := hid (by have := HL.out; rw [HQ.out.1, HQ.out.2] at this; rw [lines_append, List.length_append]; omega)
  have r1 := readLines_calls A3 _ c3 _ (one ++ two) pe pu w3 hy3 hc3 (by have := HLen.out; omega) rfl (by intro p hp; rcases List.mem_append.1 hp with h | h; exact G1.out.2 p h; exact G2.out.2 p h) (by rw [List.length_append, HA.out.len, HD.out.len]; have := G1.out.1; have := G2.out.1; omega) (HT.out.below_ hb3)
  have HB3 := hid hb3
  clear hb3 ho3 hc3 hy3
  refine r1.mono ?_
  rintro e w4 ⟨v4, vs4, rfl, ho4, hr4, hb4⟩
  have HB4 := hid (below_more HB3.out hb4)
  obtain ⟨A4, c4, rfl, hc4, hR4⟩ := rows_of_own ho4 (hr4.mono fun v l h => rowV_B h) (Nat.le_refl _)
  have HR4 := hid hR4
  obtain ⟨vs1, ra1, al1, _⟩ := HA.out.below HB4.out
  obtain ⟨vs2, ra2, al2, _⟩ := HD.out.below HB4.out
  have hlen : (one ++ two).length = n + m := by rw [List.length_append, HA.out.len, HD.out.len]
  rw [hlen] at HR4
  rw [hlen]
  clear r1 ho4 hr4 hb4 hc4 hR4
  have h4a : Below w.heap.size w (w4.alloc (.cells #[] 38)) := HB4.out.alloc HB4.out.size _
  have HN := hid (own_new (e := 38) (heap_alloc_new w4 (.cells #[] 38)) (Nat.le_refl _))
  have HRA := hid (ra1.alloc HB4.out.size (.cells #[] 38))
  have HRB := hid ra2
  have HAL := hid (And.intro al1 al2)
  have ho1 := hid (rowB_one al1)
  have ho2 := hid (rowB_one al2)
  have HB4a := hid h4a
  clear ra1 ra2 al1 al2 h4a hlen
  go_wp2_with (first
    | (at_builtin
       refine wpList_append_guard _ (by rfl) (.tmp 36) (.tmp 37) _ rfl w4.heap.size 38 i1 _ 1 24 Tryd.underlying33 hi1 hy0 hy1 hy2 rfl (by omega) (.slice (some ⟨w4.heap.size, 0, none⟩) 0 0) 0 [] rfl HN.out w.heap.size A n c vs1 rfl HRA.out ho1.out (by have := G1.out.1; simp only [maxLen]; omega) (by have := G1.out.1; omega) (by simp) ?_
       intro v5 w5 hown5 hg5 hat5
       have hb45 : Below w4.heap.size w4 w5 := ((Below.refl w4.heap.size w4).alloc (Nat.le_refl _) (.cells #[] 38)).grown hg5 (by simp) (fun x hx => by simp [Value.ownBlock] at hx; omega)
       have HB45 := hid hb45
       have HO5 := hid (show w5.ownsRow w4.heap.size 38 1 v5 n vs1 by simpa using hown5)
       have HB5 := hid (below_more HB4.out hb45)
       have HRB5 := hid (HRB.out.below (show Below w.heap.size w4 w5 from ⟨hb45.os, hb45.tape, hb45.output, hb45.size, fun i hi => hb45.block i (by have := HB4.out.size; omega)⟩))
       clear hown5 hg5 hat5 hb45)
    | (at_builtin
       refine wpList_append_guard _ (by rfl) (.tmp 38) (.tmp 39) _ rfl w4.heap.size 38 i1 _ 1 24 Tryd.underlying33 hi1 hy0 hy1 hy2 rfl (by omega) v5 n vs1 rfl HO5.out w.heap.size D m d vs2 rfl HRB5.out ho2.out (by have := G1.out.1; have := G2.out.1; simp only [maxLen]; omega) (by have := G1.out.1; have := G2.out.1; omega) HB45.out.size ?_
       intro v6 w6 hown6 hg6 hat6
       have H6 := hid (And.intro hown6 hg6)
       clear hown6 hg6 hat6))
  have hb46 : Below w4.heap.size w4 w6 := HB45.out.grown H6.out.2 HB45.out.size (fun x hx => (HO5.out.lt x hx).1)
  have hb6 : Below w.heap.size w w6 := below_more HB4.out hb46
  have hal : All2 (RowB w6 w.heap.size) (vs1 ++ vs2) (one ++ two) := by
    have hb46' : Below w.heap.size w4 w6 := ⟨hb46.os, hb46.tape, hb46.output, hb46.size, fun i hi => hb46.block i (by have := HB4.out.size; omega)⟩
    refine (HAL.out.1.mono ?_).app (HAL.out.2.mono ?_)
    · rintro v l ⟨A', c', e, h1, h2⟩
      exact ⟨A', c', e, h1, h2.below hb46'⟩
    · rintro v l ⟨A', c', e, h1, h2⟩
      exact ⟨A', c', e, h1, h2.below hb46'⟩
  obtain ⟨A6, c6, rfl, hc6, hR6⟩ := rows_of_own H6.out.1 hal hb6.size
  have s1 := sameLines_calls A4 A6 (n + m) c4 c6 (one ++ two) w6 (two_frame (B := 0) HR4.out hb46) hR6 (by have := G1.out.1; have := G2.out.1; omega)
  have HB6 := hid hb6
  clear hb46 hb6 hal hc6 hR6
  refine s1.mono ?_
  rintro e w7 ⟨rfl, hk7⟩
  have HB7 := hid (below_more HB6.out hk7.nil_below)
  have W7 := hid (works_calls pe pu w7 (HT.out.below_ (below_more HB6.out hk7.nil_below)))
  clear s1 hk7
  go_wp2_with fail
  refine W7.out.mono ?_
  rintro e w8 ⟨rfl, hb8⟩
  have HB8 := hid (below_more HB7.out hb8)
  clear hb8
  go_wp2_with fail
  go_ret
  exact ⟨rfl, HB8.out⟩
end Go.Proofs.YtnidjkmfnojlaaaDoor.pkt
