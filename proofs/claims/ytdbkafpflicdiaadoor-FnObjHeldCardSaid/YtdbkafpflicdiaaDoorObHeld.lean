/- impl.textOf, Held, HashOf. -/
import Derived.Test.YtdbkafpflicdiaaDoorObRead
import Derived.Test.YtdbkafpflicdiaaDoorObSpec
set_option linter.unusedVariables false
attribute [local go_sem ↓] Go.wp_at_zero Go.wp_at_succ
namespace Go.Proofs.YtdbkafpflicdiaaDoor.ob
open Go.RowKit Lib mem frm row sha rd brows

/-- text and true, in memory of the call's own -/
def TextOut (w : World) (n : Nat) (l : List UInt8) (e : Ending) (w' : World) : Prop := Kept [] w w' ∧ ∃ v, e = .returned (.tuple #[v, .bool true]) ∧ Own w w' v n l
theorem close_calls (q : Nat) (w : World) : Calls Tryd.prog 74 #[.agg #[.pointer (some ⟨q, 0, none⟩)]] w fun e w' => e = .returned .nilIface ∧ w' = w.alloc (.cells #[.pointer (some ⟨q, 0, none⟩)] NC) := by
  go_enter Tryd.func74, Tryd.ntmps74
  go_wp2_with fail
  go_ret
  exact ⟨rfl, rfl⟩
/-- io.EOF lies there -/
structure EofAt (w : World) (v : Value) : Prop where
  e : Eof w v
  g : 0 < w.heap.size
theorem EofAt.kept {w w' : World} {S : List Nat} {v : Value} (h : EofAt w v) (hk : Kept S w w') (hn : 0 ∉ S) : EofAt w' v := ⟨⟨(hk.cell (p := ⟨0, 0, none⟩) h.g hn).trans h.e.1, h.e.2⟩, Nat.lt_of_lt_of_le h.g hk.size⟩
set_option maxRecDepth 100000 in
set_option maxHeartbeats 4000000 in
theorem textOf_calls (w0 w : World) (ob k : Nat) (l : List UInt8) (v v0 : Value) (h : MO w0 w ob k l v) (hn : l.length ≤ 1000000) (hE : EofAt w v0) :
    Calls Tryd.prog 13 #[.iface 33 (.pointer (some ⟨ob, 0, none⟩))] w (TextOut w l.length l) := by
  have hna : ∀ w : World, Sem.run Tryd.prog (nilAhead 233 33 (.pointer (some ⟨ob, 0, none⟩)) "Reader") w = .ok (some false) w := fun _ => by kernel_rfl
  have hme : ∀ w : World, Sem.run Tryd.prog (method 233 33 (.pointer (some ⟨ob, 0, none⟩)) "Reader") w = .ok (57, .pointer (some ⟨ob, 0, none⟩)) w := fun _ => by kernel_rfl
  obtain ⟨A, c, rfl, hnc, hb⟩ := own_bytes h.o.2
  obtain ⟨q, hq⟩ : ∃ q, q = w.heap.size := ⟨_, rfl⟩
  have hna2 : ∀ w : World, Sem.run Tryd.prog (nilAhead 233 NC (.agg #[.pointer (some ⟨q, 0, none⟩)]) "Close") w = .ok (some false) w := fun _ => by kernel_rfl
  have hme2 : ∀ w : World, Sem.run Tryd.prog (method 233 NC (.agg #[.pointer (some ⟨q, 0, none⟩)]) "Close") w = .ok (74, .agg #[.pointer (some ⟨q, 0, none⟩)]) w := fun _ => by kernel_rfl
  have c1 := hid (reader_calls ob k A l.length c l.length w h.b)
  obtain ⟨w1, hw1⟩ : ∃ w1, w1 = w.alloc (.cells #[.slice A l.length c, .int .i64 0, .int .i64 (-1)] 116) := ⟨_, rfl⟩
  have hk1 : Kept [] w w1 := by rw [hw1]; exact (Kept.refl [] w).alloc _
  have hr1 : Rd w1 q A l.length c 0 := by rw [hw1, hq]; exact ⟨-1, Blk.new w _ _⟩
  have hE1 := hE.kept hk1 (by simp)
  have c2 := hid (readAll_calls w.heap.size q l.length c A l v0 w1 hr1 (hb.below hk1.nil_below) (by omega) hn hnc hE1.e hE1.g (by have := hE.g; omega))
  have HK1 := hid hk1
  have HQ := hid hq
  have HW1 := hid hw1
  have c3 := hid (fun w => close_calls q w)
  clear hE hn hb hnc hk1 hr1 hE1 hq h hw1
  go_enter Tryd.func13, Tryd.ntmps13
  go_wp2_with (first
    | (go_at_call 57; refine c1.out.mono ?_; rintro e w' ⟨rfl, h1⟩; rw [← HW1.out] at h1; rw [← HQ.out]; subst h1)
    | (go_at_call 18; refine c2.out.mono ?_; rintro e w2 ⟨hk2, v2, rfl, ho2⟩; have HK2 := hid hk2; have HO2 := hid ho2; clear hk2 ho2)
    | (go_at_call 74; refine (c3.out _).mono ?_; rintro e w3 ⟨rfl, h3⟩; have HW3 := hid h3; clear h3)
    | fail)
  go_ret2
  refine ⟨?_, v2, rfl, ?_⟩
  · rw [HW3.out]
    exact (HK1.out.trans HK2.out (by simp; rw [HQ.out]; exact Nat.le_refl _)).alloc _
  · rw [HW3.out]
    exact ⟨HO2.out.1, (own_low HO2.out.2 HK1.out.size).alloc _⟩
/-- a name in hex, all else kept -/
def NameOut (w : World) (l : List UInt8) (e : Ending) (w' : World) : Prop := e = .returned (.string (hexS l)) ∧ Kept [] w w'
theorem objHash_len (k : Nat) (l : List UInt8) : (objHash k l).length = 20 := by simp [objHash, sha1_len]
set_option maxRecDepth 100000 in
set_option maxHeartbeats 4000000 in
theorem hashOf_calls (k n c B : Nat) (A : Option Addr) (l : List UInt8) (w : World) (h1 : 1 ≤ k) (h4 : k ≤ 4) (hB : Bytes w B A n l) (hBw : B ≤ w.heap.size) (hn : n ≤ 1000000) (hT : Lib.TabIs Tryd.prog w "internal/strconv.uint64pow10" .u64 Lib.pow10Tab) :
    Calls Tryd.prog 9 #[.int .i64 k, .slice A n c] w (NameOut w (objHash k l)) := by
  obtain ⟨i0, hi, hz0, hz1, hz2⟩ := info_parts infoU8
  have hk8 : (k : Int) ≤ 4 := by omega
  have hk0 : (0 : Int) ≤ (k : Int) := by omega
  have hlen := hB.len
  have HB := hid (hB.more hBw)
  have HN := hid hn
  have HKK := hid (And.intro h1 h4)
  have HT := hid (Lib.tabBelow_of_tabIs hT)
  have HLN := hid hlen
  have c2 := hid (fun w' => hashText_calls (objHash k l) w' (objHash_len k l))
  clear hB hBw hn h1 h4 hT hlen
  go_enter Tryd.func9, Tryd.ntmps9
  go_wp2_with (first
    | (at_builtin; refine wpList_append_any _ rfl (.tmp 7) (.tmp 8) 26 rfl w.heap.size 5 i0 (.int .u8 0) 1 1 Tryd.underlying26 hi hz0 hz1 hz2 rfl (by decide) _ 0 [] rfl (own_new (heap_alloc_new w _) (Nat.le_refl _)) (w.heap.size) A n c (byteCells l) rfl (HB.out.alloc (Nat.le_refl _) _).1 (cells_one l) (by have := HN.out; unfold maxLen; omega) (by have := HN.out; omega) (by simp) ?_; intro v1 w1 h1 h2 h3; obtain ⟨A1, c1, rfl⟩ := own_shape h1; have HO1 : Hid (w1.ownsRow w.heap.size 5 1 (.slice A1 n c1) n (byteCells l)) := hid (by simpa using h1); have HK1 : Hid (Kept [] w w1) := hid (((Kept.refl [] w).alloc _).trans (Kept.of_grown (g := w.heap.size) h2) (by simp)); clear h1 h2 h3; obtain ⟨A2, c2', e2, hnc2, hb2⟩ := own_bytes HO1.out; cases e2; have C1 := hid (compute_calls k n c1 w1.heap.size A1 l w1 HKK.out.1 HKK.out.2 hb2 (Nat.le_refl _) HN.out (HT.out w1 (HK1.out.below (Nat.le_refl _) (by simp)))); clear hb2 hnc2)
    | (go_at_call 17; refine C1.out.mono ?_; rintro e w2 ⟨rfl, h2⟩; have HK2 := hid (HK1.out.trans_ h2); clear h2)
    | (go_at_call 15; refine (c2.out _).mono ?_; rintro e w3 ⟨rfl, h3⟩; have HK3 := hid (HK2.out.trans_ h3); clear h3)
    | fail)
  go_ret
  exact ⟨rfl, HK3.out⟩
/-- what Held returns -/
def HeldOut (w : World) (k : Nat) (l : List UInt8) (e : Ending) (w' : World) : Prop := Kept [] w w' ∧ ∃ v, e = .returned (.tuple #[.string (hexS (objHash k l)), .int .i64 l.length, v]) ∧ Own w w' v l.length l
theorem flat_take {ls : List (List UInt8)} {j : Nat} {p : List UInt8} (h : ls[j]? = some p) : (ls.take (j + 1)).flatten = (ls.take j).flatten ++ p := by
  rw [take_snoc h]; simp
set_option maxRecDepth 100000 in
set_option maxHeartbeats 8000000 in
theorem held_calls (A : Option Addr) (n c k : Nat) (ls : List (List UInt8)) (v0 : Value) (w : World) (h : LsAt w w.heap.size A n ls) (hn : n ≤ 140737488355328) (ht : total ls ≤ 1000000) (h1 : 1 ≤ k) (h4 : k ≤ 4) (hE : EofAt w v0)
    (hT : Lib.TabIs Tryd.prog w "internal/strconv.uint64pow10" .u64 Lib.pow10Tab) :
    Calls Tryd.prog 8 #[.int .i64 k, .slice A n c] w (HeldOut w k ls.flatten) := by
  obtain ⟨i0, hi, hz0, hz1, hz2⟩ := info_parts infoU8
  have hk8 : (k : Int) ≤ 4 := by omega
  have hk0 : (0 : Int) ≤ (k : Int) := by omega
  have hn' : (n : Int) ≤ 140737488355328 := by omega
  have H := hid h
  have hl := h.len
  have HLN := hid hl
  have HKK := hid (And.intro h1 h4)
  have HTT := hid ht
  have HT := hid (Lib.tabBelow_of_tabIs hT)
  have HE := hid hE
  obtain ⟨ob, hob⟩ : ∃ ob, ob = w.heap.size := ⟨_, rfl⟩
  have hnew : ∀ w1, w1 = w.alloc (.cells (moC 0 (.slice none 0 0) 0) MT) → Blk w1 ob MT (moC 0 (.slice none 0 0) 0) ∧ Kept [] w w1 := fun w1 e => by rw [e, hob]; exact ⟨Blk.new w _ _, (Kept.refl [] w).alloc _⟩
  have HNW := hid hnew
  have HOB := hid hob
  clear h hn hl h1 h4 ht hT hE hob hnew
  go_enter Tryd.func8, Tryd.ntmps8
  go_wp2_with fail
  rw [← HOB.out]
  generalize hw1 : w.alloc _ = w1
  obtain ⟨hb1, hk1⟩ := HNW.out w1 hw1.symm
  have C1 := hid (setType_calls ob k (.slice none 0 0) 0 w1 hb1)
  have HK1 := hid hk1
  clear hw1 hb1 hk1 HNW
  go_wp2_with (first
    | (go_at_call 11; refine C1.out.mono ?_; rintro e w2 ⟨rfl, h2, h3⟩; have HM2 : Hid (MO w w2 ob k [] (.slice none 0 0)) := hid ⟨HK1.out.trans h2 (by simp; rw [HOB.out]; exact Nat.le_refl _), h3, ⟨rfl, World.ownsRow_nil _ _ _ _⟩, by rw [HOB.out]; exact Nat.le_refl _⟩; clear h2 h3)
    | fail)
  go_loopw [20] (fun iv wr => ∃ (j : Nat) (v : Value), j ≤ n ∧ iv = .int .i64 j ∧ Hid (MO w wr ob k (ls.take j).flatten v)) (fun iv _ => n - (RowKit.intOf iv).toNat)
  case atStart => exact ⟨0, .slice none 0 0, by omega, rfl, by simpa using HM2⟩
  case round =>
    obtain ⟨j, v, hj, rfl, hM⟩ := hrel
    obtain ⟨wo, rfl⟩ : ∃ wo, wo = wr := ⟨_, rfl⟩
    by_cases hlt : j < n
    · obtain ⟨g, o, D, d, p, rfl, hg, hc, _, hp, hpd, hb⟩ := (H.out.below (hM.out.kp.below (Nat.le_refl _) (by simp))).next hlt
      have hlt' : (j : Int) < n := by omega
      have HF : Hid ((ls.take (j + 1)).flatten = (ls.take j).flatten ++ p) := hid (flat_take hp)
      have HLIM : Hid ((ls.take j).flatten.length + p.length ≤ 1000000) := hid (by
        have h1 := total_take ls (j + 1)
        have h2 : total (ls.take (j + 1)) = (ls.take j).flatten.length + p.length := by unfold total; rw [HF.out, List.length_append]
        have h3 := HTT.out
        omega)
      have HB := hid (hb.more hM.out.kp.size)
      clear hb hp hpd
      go_wp2_with (first
        | (at_builtin; refine wpList_append_any _ rfl (.tmp 25) (.tmp 26) 26 rfl wo.heap.size 5 i0 (.int .u8 0) 1 1 Tryd.underlying26 hi hz0 hz1 hz2 rfl (by decide) _ 0 [] rfl (own_new (heap_alloc_new wo _) (Nat.le_refl _)) (wo.heap.size) D p.length d (byteCells p) rfl (HB.out.alloc (Nat.le_refl _) _).1 (cells_one p) (by have := HLIM.out; unfold maxLen; omega) (by have := HLIM.out; omega) (by simp) ?_; intro v3 w3 h1 h2 h3; obtain ⟨A3, c3, rfl⟩ := own_shape h1; have HO3 : Hid (w3.ownsRow wo.heap.size 5 1 (.slice A3 p.length c3) p.length (byteCells p)) := hid (by simpa using h1); have HK3 : Hid (Kept [] wo w3) := hid (((Kept.refl [] wo).alloc _).trans (Kept.of_grown (g := wo.heap.size) h2) (by simp)); clear h1 h2 h3; obtain ⟨A4, c4, e4, hnc4, hb4⟩ := own_bytes HO3.out; cases e4; have C3 := hid (mwrite_calls w w3 ob k p.length c3 w3.heap.size (ls.take j).flatten p v A3 (hM.out.kept HK3.out) hb4 HLIM.out); clear hb4 hnc4)
        | (go_at_call 12; refine C3.out.mono ?_; rintro e w4 ⟨rfl, v4, h4⟩; have HM4 : Hid (MO w w4 ob k (ls.take (j + 1)).flatten v4) := hid (by rw [HF.out]; exact h4); clear h4)
        | fail)
      go_roundw
      case rel => exact ⟨j + 1, v4, by omega, by go_num, HM4⟩
      case measure => simp [RowKit.intOf]; omega
    · have hlt' : ¬ (j : Int) < n := by omega
      have HM5 : Hid (MO w wo ob k ls.flatten v) := hid (by
        have hjn : j = n := by omega
        have := hM.out
        rw [hjn, ← HLN.out, List.take_length] at this
        exact this)
      have HFL : Hid (ls.flatten.length ≤ 1000000) := hid HTT.out
      obtain ⟨F, hF⟩ : ∃ F, F = ls.flatten := ⟨_, rfl⟩
      rw [← hF] at HM5 HFL
      have HFE := hid hF
      clear hF
      have HE5 := hid (HE.out.kept HM5.out.kp (by simp))
      have C5 := hid (textOf_calls w wo ob k F v v0 HM5.out HFL.out HE5.out)
      clear hM
      go_wp2_with (first
        | (go_at_call 13; refine C5.out.mono ?_; rintro e w6 ⟨hk6, v6, rfl, ho6⟩; have HM6 := hid (HM5.out.kept hk6); have HO6 := hid ho6; have HK6 := hid hk6; clear hk6 ho6; have HV := hid HM6.out; obtain ⟨A7, c7, rfl, _, _⟩ := own_bytes HV.out.o.2; have C6 := hid (mhash_calls w w6 ob k F A7 c7 HM6.out HKK.out.1 HKK.out.2 HFL.out (HT.out w6 (HM6.out.kp.below (Nat.le_refl _) (by simp)))))
        | (go_at_call 14; refine C6.out.mono ?_; rintro e w7 ⟨rfl, hk7, hc7⟩; have HK7 := hid hk7; have HC7 := hid hc7; clear hk7 hc7)
        | (go_at_call 15; refine (hashText_calls (objHash k F) w7 (objHash_len _ _)).mono ?_; rintro e w8 ⟨rfl, hk8⟩; have HK8 := hid hk8; have HC8 := hid ((hk8.cell (p := ⟨ob, 22, none⟩) (World.block_lt_of_cell? w7 _ HC7.out) (by simp)).trans HC7.out); clear hk8)
        | (go_at_call 16; refine (size_calls ob F.length w8 HC8.out).mono ?_; rintro e w9 ⟨rfl, rfl⟩)
        | fail)
      go_ret3
      rw [← HFE.out]
      refine ⟨?_, v6, rfl, HO6.out.1, own_low (own_keepK (own_keepK HO6.out.2 HK7.out ?_) HK8.out (by simp)) HM5.out.kp.size⟩
      · exact ((HM5.out.kp.trans_ HK6.out).trans HK7.out (by simp; exact HM5.out.n)).trans_ HK8.out
      · intro x hx
        simp only [List.mem_cons, List.not_mem_nil, or_false] at hx
        rw [hx]
        exact HM5.out.b.lt
end Go.Proofs.YtdbkafpflicdiaaDoor.ob
