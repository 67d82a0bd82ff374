/- How a pattern of paths is read. -/
import Derived.Test.YtfanginpfppdeaaIgSpec3
import Derived.Test.YtfanginpfppdeaaSearchIgnore
import Derived.Test.YtfanginpfppdeaaBlk
set_option linter.unusedVariables false
namespace Go.Proofs.Ytfanginpfppdeaa.glob
open Go.RowKit Lib text strs mem searchIgnore

theorem suffix_tailed (l : List UInt8) : suffixOf l [47] = tailed l := by
  unfold suffixOf tailed
  rcases List.eq_nil_or_concat l with rfl | ⟨t, x, rfl⟩
  · rfl
  · rw [List.concat_eq_append]
    simp
theorem suffix_no (l : List UInt8) (h : ∀ x ∈ l, x ≠ 92) : suffixOf l [92, 32] = false := by
  unfold suffixOf
  rw [Bool.eq_false_iff]
  intro hh
  rw [Bool.and_eq_true] at hh
  have h2 : l.drop (l.length - 2) = [92, 32] := by simpa using hh.2
  have h3 : (92 : UInt8) ∈ l := List.mem_of_mem_drop (i := l.length - 2) (by rw [h2]; simp)
  exact h 92 h3 rfl
theorem prefix_no (l : List UInt8) (h : ∀ x ∈ l, x ≠ 33) : prefixOf l [33] = false := by
  unfold prefixOf
  rw [Bool.eq_false_iff]
  intro hh
  rw [Bool.and_eq_true] at hh
  have h2 : l.take 1 = [33] := by simpa using hh.2
  have h3 : (33 : UInt8) ∈ l := List.mem_of_mem_take (i := 1) (by rw [h2]; simp)
  exact h 33 h3 rfl
def Drew (w : World) (l : List UInt8) (e : Ending) (w' : World) : Prop := (∃ k, w' = w.drewN k) ∧ ∃ s : ByteArray, e = .returned (.string s) ∧ s.data.toList = l
set_option maxRecDepth 100000 in
set_option maxHeartbeats 4000000 in
theorem trim_calls (P : ByteArray) (w : World) (hs : P.size ≤ 140737488351232) (h0 : 0 < P.size) (hl : ∀ x ∈ P.data.toList, x ≠ 32) :
    Calls Try.prog 20 #[.string P, .string ⟨#[32]⟩] w (Drew w P.data.toList) := by
  obtain ⟨m, hm1, hm2⟩ : ∃ m : Nat, (P.size : Int) - 1 = m ∧ m < P.size := ⟨P.size - 1, by omega, by omega⟩
  have hlast := hl _ (mem_get P m hm2)
  have q32 : ((P[m].toNat : Int) == 32) = false := ne_int (n := 32) (by omega) hlast
  have q32' : ((32 : Int) == (P[m].toNat : Int)) = false := by rw [beq_eq_false_iff_ne] at q32 ⊢; omega
  clear hl hlast
  go_enter Try.func20, Try.ntmps20
  go_wp2_with fail
  go_loopw [5] (fun nv wr => nv = .int .i64 P.size ∧ ∃ k, wr = w.drewN k) (fun nv _ => (RowKit.intOf nv).toNat)
  case atStart => exact ⟨rfl, 0, rfl⟩
  case round =>
    obtain ⟨rfl, hw⟩ := hrel
    have HW := hid hw
    clear hw
    have e1 : (0 : Int) < P.size := by omega
    go_wp2_with fail
    go_loopw [6, 7] (fun bv iv wx => ∃ i : Nat, i ≤ 1 ∧ bv = .bool false ∧ iv = .int .i64 i ∧ ∃ k, wx = w.drewN k) (fun _ iv _ => 1 - (RowKit.intOf iv).toNat)
    case atStart => exact ⟨0, by omega, rfl, rfl, HW.out⟩
    case round =>
      obtain ⟨i, hi, rfl, rfl, hw⟩ := hrel
      have HX := hid hw
      clear hw
      by_cases i1 : i = 1
      · subst i1
        go_wp2_with fail
        go_ret
        refine ⟨HX.out, _, rfl, ?_⟩
        first | rfl | (rw [ext_take, List.take_of_length_le (by simp)])
      · obtain rfl : i = 0 := by omega
        have z1 : (⟨#[32]⟩ : ByteArray).size = 1 := rfl
        have z2 : ∀ h : 0 < (⟨#[32]⟩ : ByteArray).size, (⟨#[32]⟩ : ByteArray)[0] = 32 := fun _ => rfl
        have p2 : (m : Int) < (P.size : Int) := by omega
        have p4 : IntKind.i64.wrap ((P.size : Int) - 1) = (m : Int) := by rw [hm1]; exact IntWalk.i64_in _ (by omega)
        go_wp2_with fail
        go_quiet (fail)
        clear p4
        go_wp2_with fail
        go_roundw
        case rel => exact ⟨1, by omega, rfl, rfl, drew_more HX.out _⟩
        case measure => simp [RowKit.intOf]
/-- a pattern that has been read -/
structure Read (w : World) (g : Nat) (B : Nat) (P : List UInt8) (dom : List (List UInt8)) : Prop where
  lt : g < B
  dom_ : ∃ A n c, w.cell? ⟨g, 0, none⟩ = some (.slice A n c) ∧ Strs w B A n dom ∧ n ≤ c
  pat : ∃ A n c, w.cell? ⟨g, 1, none⟩ = some (.slice A n c) ∧ Strs w B A n (pieces 47 (bodyOf P)) ∧ n ≤ c
  inc : w.cell? ⟨g, 2, none⟩ = some (.bool false)
  dir : w.cell? ⟨g, 3, none⟩ = some (.bool (tailed P))
  glb : w.cell? ⟨g, 4, none⟩ = some (.bool (has [47] (bodyOf P)))
def Parsed (w : World) (P : List UInt8) (dom : List (List UInt8)) (e : Ending) (w' : World) : Prop :=
  Below w.heap.size w w' ∧ ∃ g, e = .returned (.iface 43 (.pointer (some ⟨g, 0, none⟩))) ∧ Read w' g w'.heap.size P dom
theorem infoText : (Try.prog.info? 9).map (fun i => (i.zero, i.size, i.bytes)) = some (some (.string ⟨#[]⟩), 1, 16) := by kernel_rfl
theorem below_drews {w w' : World} {B : Nat} (hb : Below B w w') {w2 : World} (h : ∃ k, w2 = w'.drewN k) : Below B w w2 := by
  obtain ⟨k, rfl⟩ := h
  exact hb.trans ⟨rfl, rfl, rfl, Nat.le_refl _, fun _ _ => rfl⟩
set_option maxRecDepth 100000 in
set_option maxHeartbeats 8000000 in
theorem parse_calls (P : ByteArray) (A : Option Addr) (n c : Nat) (dom : List (List UInt8)) (w : World) (hs : P.size ≤ 1048576) (h0 : 0 < P.size) (hx : ∀ x ∈ P.data.toList, x ≠ 33 ∧ x ≠ 32 ∧ x ≠ 92)
    (hd : Strs w w.heap.size A n dom) (hn : n ≤ 2147483647) :
    Calls Try.prog 17 #[.string P, .slice A n c] w (Parsed w P.data.toList dom) := by
  obtain ⟨i0, hi, hz0, hz1, hz2⟩ := info_parts infoText
  have HD := hid hd
  have h33 := hid (prefix_no _ (fun x h => (hx x h).1))
  have h92 := hid (suffix_no _ (fun x h => (hx x h).2.2))
  have h32 := hid (fun x h => (hx x h).2.1)
  clear hd hx
  go_enter Try.func17, Try.ntmps17
  go_wp2_with (at_builtin; refine wpList_append_any _ rfl (.const (.slice none 0 0)) (.tmp 6) _ rfl w.heap.size 9 i0 _ 1 16 Try.underlying22 hi hz0 hz1 hz2 rfl (by omega) (.slice none 0 0) 0 [] rfl (World.ownsRow_nil _ _ _ _) w.heap.size A n c (strCells dom) rfl HD.out.1 (strCells_one _) (by simp only [maxLen]; omega) (by omega) (Nat.le_refl _) ?_; intro v1 w1 hown1 hg1 hat1; rw [Nat.zero_add, List.nil_append] at hown1; obtain ⟨A1, c1, rfl, hc1, hS1⟩ := own_strs hown1; have HB1 := hid ((Below.refl w.heap.size w).grown hg1 (Nat.le_refl _) (fun g hg => by cases hg)); have HS1 := hid hS1; clear hown1 hg1 hat1 hS1)
  refine (HasPrefix_calls P ⟨#[33]⟩ _ (by omega)).mono ?_
  rintro e w' ⟨rfl, rfl⟩
  rw [show (⟨#[33]⟩ : ByteArray).data.toList = [33] from rfl, h33.out]
  go_wp2_with fail
  refine (HasSuffix_calls P ⟨#[92, 32]⟩ _ (by omega)).mono ?_
  rintro e w' ⟨rfl, rfl⟩
  rw [show (⟨#[92, 32]⟩ : ByteArray).data.toList = [92, 32] from rfl, h92.out]
  go_wp2_with fail
  refine (trim_calls P _ (by omega) h0 h32.out).mono ?_
  rintro e w2 ⟨hw2, s, rfl, hsl⟩
  have hPs : s = P := by cases s; cases P; simp at hsl; simp [hsl]
  subst hPs
  obtain ⟨g, hg⟩ : ∃ g, g = w1.heap.size := ⟨_, rfl⟩
  have hbk : Blk w2 g 40 #[.slice A1 n c1, .slice none 0 0, .bool false, .bool false, .bool false] := by
    rw [hg]; exact (Blk.new w1 40 _).drews hw2
  have hb2 : Below w.heap.size w w2 := below_drews (HB1.out.alloc HB1.out.size _) hw2
  have hs2 : Strs w2 w1.heap.size A1 n dom := by
    obtain ⟨k, rfl⟩ := hw2
    exact HS1.out.alloc (Nat.le_refl _) _
  rw [← hg]
  have hg0 : w.heap.size ≤ g := by rw [hg]; exact HB1.out.size
  rw [← hg] at hs2
  have HBK := hid hbk
  have HB2 := hid hb2
  have HS2 := hid hs2
  clear hsl hbk hb2 hs2 hw2 hg
  go_wp2_with fail
  refine (HasSuffix_calls s ⟨#[47]⟩ _ (by omega)).mono ?_
  rintro e w' ⟨rfl, rfl⟩
  rw [show (⟨#[47]⟩ : ByteArray).data.toList = [47] from rfl, suffix_tailed]
  cases ht : tailed s.data.toList with
  | true =>
    have HT := hid ht
    have hbd : (s.extract 0 (s.size - 1)).data.toList = bodyOf s.data.toList := by
      unfold bodyOf
      rw [ht, if_pos rfl, ext_take, List.dropLast_eq_take, list_size]
    have HBD := hid hbd
    have hbz : (s.extract 0 (s.size - 1)).size ≤ s.size := by simp
    clear ht hbd
    have c3 := HBK.out.cell 3 rfl
    have f3 := HBK.out.frozen 3
    go_wp2_with fail
    have HBK3 := hid (HBK.out.set_ 3 (.bool true))
    have HB3 := hid (HB2.out.setCell (p := ⟨g, 3, none⟩) hg0 (.bool true))
    have HS3 : Hid (Strs _ g A1 n dom) := hid (HS2.out.setCell (p := ⟨g, 3, none⟩) (Nat.le_refl _) (.bool true))
    clear c3 f3 HBK HB2 HS2
    generalize w2.setCell ⟨g, 3, none⟩ (.bool true) = w3 at *
    generalize s.extract 0 (s.size - 1) = bd at *
    have hbs : bd.size ≤ 1048576 := by omega
    refine (contains_calls bd ⟨#[47]⟩ w3 (by omega) (by decide)).mono ?_
    rintro e w' ⟨rfl, rfl⟩
    rw [show (⟨#[47]⟩ : ByteArray).data.toList = [47] from rfl]
    cases hh : has [47] bd.data.toList with
    | true =>
      have HH := hid hh
      clear hh
      have c4 := HBK3.out.cell 4 rfl
      have f4 := HBK3.out.frozen 4
      go_wp2_with fail
      have HBK4 := hid (HBK3.out.set_ 4 (.bool true))
      have HB4 := hid (HB3.out.setCell (p := ⟨g, 4, none⟩) hg0 (.bool true))
      have HS4 : Hid (Strs _ g A1 n dom) := hid (HS3.out.setCell (p := ⟨g, 4, none⟩) (Nat.le_refl _) (.bool true))
      generalize w3.setCell ⟨g, 4, none⟩ (.bool true) = w4 at *
      refine (split_calls bd 47 w4 hbs).mono ?_
      rintro e w5 ⟨v, rfl, hown, hb5⟩
      have hgl := HBK4.out.lt
      have HBK5 := hid (HBK4.out.below hb5 hgl)
      have HB5 := hid (HB4.out.trans ⟨hb5.os, hb5.tape, hb5.output, hb5.size, fun k hk => hb5.block k (by have := HB4.out.size; omega)⟩)
      have HS5 : Hid (Strs w5 g A1 n dom) := hid (HS4.out.keep fun q hq => hb5.cell (by omega))
      have HO5 := hid hown
      obtain ⟨A2, c2, rfl⟩ : ∃ A2 c2, v = .slice A2 (pieces 47 bd.data.toList).length c2 := by
        rcases hown.2 with ⟨rfl, h0⟩ | ⟨g', cap, cur, rfl, _⟩
        · exact ⟨none, 0, by rw [h0]⟩
        · exact ⟨_, _, rfl⟩
      clear hown hb5
      have c1' := HBK5.out.cell 1 rfl
      have f1' := HBK5.out.frozen 1
      go_wp2_with fail
      go_ret
      have hown6 := ownsRow_setCell_below (a := ⟨g, 1, none⟩) HO5.out hgl (.slice A2 (pieces 47 bd.data.toList).length c2)
      obtain ⟨A6, c6, hv6, hc6, hS6⟩ := own_strs (l := pieces 47 bd.data.toList) hown6
      injection hv6 with q1 q2 q3
      subst q1 q3
      have hBK6 := HBK5.out.set_ 1 (.slice A2 (pieces 47 bd.data.toList).length c2)
      refine ⟨HB5.out.setCell (p := ⟨g, 1, none⟩) hg0 _, g, rfl, ⟨hBK6.lt, ⟨A1, n, c1, hBK6.cell 0 rfl, ((HS5.out.setCell (p := ⟨g, 1, none⟩) (Nat.le_refl _) _).more (Nat.le_of_lt hBK6.lt)), hc1⟩, ⟨A2, _, c2, hBK6.cell 1 rfl, by rw [← HBD.out]; exact hS6, hc6⟩, hBK6.cell 2 rfl, ?_, ?_⟩⟩
      · rw [HT.out]; exact hBK6.cell 3 rfl
      · rw [← HBD.out, HH.out]; exact hBK6.cell 4 rfl
    | false =>
      have HH := hid hh
      clear hh
      go_wp2_with fail
      have HBK4 := HBK3
      have HB4 := HB3
      have HS4 := HS3
      refine (split_calls bd 47 w3 hbs).mono ?_
      rintro e w5 ⟨v, rfl, hown, hb5⟩
      have hgl := HBK4.out.lt
      have HBK5 := hid (HBK4.out.below hb5 hgl)
      have HB5 := hid (HB4.out.trans ⟨hb5.os, hb5.tape, hb5.output, hb5.size, fun k hk => hb5.block k (by have := HB4.out.size; omega)⟩)
      have HS5 : Hid (Strs w5 g A1 n dom) := hid (HS4.out.keep fun q hq => hb5.cell (by omega))
      have HO5 := hid hown
      obtain ⟨A2, c2, rfl⟩ : ∃ A2 c2, v = .slice A2 (pieces 47 bd.data.toList).length c2 := by
        rcases hown.2 with ⟨rfl, h0⟩ | ⟨g', cap, cur, rfl, _⟩
        · exact ⟨none, 0, by rw [h0]⟩
        · exact ⟨_, _, rfl⟩
      clear hown hb5
      have c1' := HBK5.out.cell 1 rfl
      have f1' := HBK5.out.frozen 1
      go_wp2_with fail
      go_ret
      have hown6 := ownsRow_setCell_below (a := ⟨g, 1, none⟩) HO5.out hgl (.slice A2 (pieces 47 bd.data.toList).length c2)
      obtain ⟨A6, c6, hv6, hc6, hS6⟩ := own_strs (l := pieces 47 bd.data.toList) hown6
      injection hv6 with q1 q2 q3
      subst q1 q3
      have hBK6 := HBK5.out.set_ 1 (.slice A2 (pieces 47 bd.data.toList).length c2)
      refine ⟨HB5.out.setCell (p := ⟨g, 1, none⟩) hg0 _, g, rfl, ⟨hBK6.lt, ⟨A1, n, c1, hBK6.cell 0 rfl, ((HS5.out.setCell (p := ⟨g, 1, none⟩) (Nat.le_refl _) _).more (Nat.le_of_lt hBK6.lt)), hc1⟩, ⟨A2, _, c2, hBK6.cell 1 rfl, by rw [← HBD.out]; exact hS6, hc6⟩, hBK6.cell 2 rfl, ?_, ?_⟩⟩
      · rw [HT.out]; exact hBK6.cell 3 rfl
      · rw [← HBD.out, HH.out]; exact hBK6.cell 4 rfl
  | false =>
    have HT := hid ht
    have HBD : Hid (s.data.toList = bodyOf s.data.toList) := hid (by unfold bodyOf; rw [ht]; rfl)
    clear ht
    go_wp2_with fail
    have HBK3 := HBK
    have HB3 := HB2
    have HS3 := HS2
    clear HBK HB2 HS2
    have hbz : s.size ≤ s.size := Nat.le_refl _
    have hbs : s.size ≤ 1048576 := by omega
    refine (contains_calls s ⟨#[47]⟩ w2 (by omega) (by decide)).mono ?_
    rintro e w' ⟨rfl, rfl⟩
    rw [show (⟨#[47]⟩ : ByteArray).data.toList = [47] from rfl]
    cases hh : has [47] s.data.toList with
    | true =>
      have HH := hid hh
      clear hh
      have c4 := HBK3.out.cell 4 rfl
      have f4 := HBK3.out.frozen 4
      go_wp2_with fail
      have HBK4 := hid (HBK3.out.set_ 4 (.bool true))
      have HB4 := hid (HB3.out.setCell (p := ⟨g, 4, none⟩) hg0 (.bool true))
      have HS4 : Hid (Strs _ g A1 n dom) := hid (HS3.out.setCell (p := ⟨g, 4, none⟩) (Nat.le_refl _) (.bool true))
      generalize w2.setCell ⟨g, 4, none⟩ (.bool true) = w4 at *
      refine (split_calls s 47 w4 hbs).mono ?_
      rintro e w5 ⟨v, rfl, hown, hb5⟩
      have hgl := HBK4.out.lt
      have HBK5 := hid (HBK4.out.below hb5 hgl)
      have HB5 := hid (HB4.out.trans ⟨hb5.os, hb5.tape, hb5.output, hb5.size, fun k hk => hb5.block k (by have := HB4.out.size; omega)⟩)
      have HS5 : Hid (Strs w5 g A1 n dom) := hid (HS4.out.keep fun q hq => hb5.cell (by omega))
      have HO5 := hid hown
      obtain ⟨A2, c2, rfl⟩ : ∃ A2 c2, v = .slice A2 (pieces 47 s.data.toList).length c2 := by
        rcases hown.2 with ⟨rfl, h0⟩ | ⟨g', cap, cur, rfl, _⟩
        · exact ⟨none, 0, by rw [h0]⟩
        · exact ⟨_, _, rfl⟩
      clear hown hb5
      have c1' := HBK5.out.cell 1 rfl
      have f1' := HBK5.out.frozen 1
      go_wp2_with fail
      go_ret
      have hown6 := ownsRow_setCell_below (a := ⟨g, 1, none⟩) HO5.out hgl (.slice A2 (pieces 47 s.data.toList).length c2)
      obtain ⟨A6, c6, hv6, hc6, hS6⟩ := own_strs (l := pieces 47 s.data.toList) hown6
      injection hv6 with q1 q2 q3
      subst q1 q3
      have hBK6 := HBK5.out.set_ 1 (.slice A2 (pieces 47 s.data.toList).length c2)
      refine ⟨HB5.out.setCell (p := ⟨g, 1, none⟩) hg0 _, g, rfl, ⟨hBK6.lt, ⟨A1, n, c1, hBK6.cell 0 rfl, ((HS5.out.setCell (p := ⟨g, 1, none⟩) (Nat.le_refl _) _).more (Nat.le_of_lt hBK6.lt)), hc1⟩, ⟨A2, _, c2, hBK6.cell 1 rfl, by rw [← HBD.out]; exact hS6, hc6⟩, hBK6.cell 2 rfl, ?_, ?_⟩⟩
      · rw [HT.out]; exact hBK6.cell 3 rfl
      · rw [← HBD.out, HH.out]; exact hBK6.cell 4 rfl
    | false =>
      have HH := hid hh
      clear hh
      go_wp2_with fail
      have HBK4 := HBK3
      have HB4 := HB3
      have HS4 := HS3
      refine (split_calls s 47 w2 hbs).mono ?_
      rintro e w5 ⟨v, rfl, hown, hb5⟩
      have hgl := HBK4.out.lt
      have HBK5 := hid (HBK4.out.below hb5 hgl)
      have HB5 := hid (HB4.out.trans ⟨hb5.os, hb5.tape, hb5.output, hb5.size, fun k hk => hb5.block k (by have := HB4.out.size; omega)⟩)
      have HS5 : Hid (Strs w5 g A1 n dom) := hid (HS4.out.keep fun q hq => hb5.cell (by omega))
      have HO5 := hid hown
      obtain ⟨A2, c2, rfl⟩ : ∃ A2 c2, v = .slice A2 (pieces 47 s.data.toList).length c2 := by
        rcases hown.2 with ⟨rfl, h0⟩ | ⟨g', cap, cur, rfl, _⟩
        · exact ⟨none, 0, by rw [h0]⟩
        · exact ⟨_, _, rfl⟩
      clear hown hb5
      have c1' := HBK5.out.cell 1 rfl
      have f1' := HBK5.out.frozen 1
      go_wp2_with fail
      go_ret
      have hown6 := ownsRow_setCell_below (a := ⟨g, 1, none⟩) HO5.out hgl (.slice A2 (pieces 47 s.data.toList).length c2)
      obtain ⟨A6, c6, hv6, hc6, hS6⟩ := own_strs (l := pieces 47 s.data.toList) hown6
      injection hv6 with q1 q2 q3
      subst q1 q3
      have hBK6 := HBK5.out.set_ 1 (.slice A2 (pieces 47 s.data.toList).length c2)
      refine ⟨HB5.out.setCell (p := ⟨g, 1, none⟩) hg0 _, g, rfl, ⟨hBK6.lt, ⟨A1, n, c1, hBK6.cell 0 rfl, ((HS5.out.setCell (p := ⟨g, 1, none⟩) (Nat.le_refl _) _).more (Nat.le_of_lt hBK6.lt)), hc1⟩, ⟨A2, _, c2, hBK6.cell 1 rfl, by rw [← HBD.out]; exact hS6, hc6⟩, hBK6.cell 2 rfl, ?_, ?_⟩⟩
      · rw [HT.out]; exact hBK6.cell 3 rfl
      · rw [← HBD.out, HH.out]; exact hBK6.cell 4 rfl
end Go.Proofs.Ytfanginpfppdeaa.glob
