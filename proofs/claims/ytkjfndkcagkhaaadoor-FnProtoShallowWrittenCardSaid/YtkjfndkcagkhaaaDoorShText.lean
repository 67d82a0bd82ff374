/- spec.ShallowText. -/
import Derived.Test.YtkjfndkcagkhaaaDoorShWrite
import Derived.Lib.AppendStr
set_option linter.unusedVariables false
attribute [local go_sem ↓] Go.wp_at_zero Go.wp_at_succ
namespace Go.Proofs.YtkjfndkcagkhaaaDoor.enc
open Go.RowKit Lib frm mem rd pkt text buf hash ack

/-- bytes of the call's own -/
def OwnB (w : World) (B : Nat) (l : List UInt8) (v : Value) (wr : World) : Prop := wr.ownsRow B 5 1 v l.length (byteCells l) ∧ Kept [] w wr
/-- '[]byte(t)' -/
theorem conv_ex (w : World) (t : ByteArray) (p : List UInt8) (h : t.data.toList = p) : ∃ w1 cap, (convert 9 25 (.string t)).run Tryd.prog w = .ok (.slice (some ⟨w.heap.size, 0, none⟩) p.length cap) w1 ∧ Bytes w1 w1.heap.size (some ⟨w.heap.size, 0, none⟩) p.length p ∧ Kept [] w w1 := by
  have hts : t.size = p.length := by rw [← h]; simp
  have hcv := Go.Lib.run_convert_string_bytes (P := Tryd.prog) w 9 25 5 t Tryd.underlying9 Tryd.underlying25 Tryd.underlying5
  refine ⟨bytesWorld w 5 t, grownCap w t.size 0 5, ?_, ?_, .of_below (enc.below_world w 5 t)⟩
  · rw [hcv, hts]
  · refine ⟨⟨by simp [Lib.byteCells], fun _ => ⟨_, rfl, by rw [bytesWorld_size]; simp, fun j u hu => ?_⟩⟩, fun _ => ⟨_, _, rfl⟩⟩
    have hj : j < t.size := by
      have := (List.getElem?_eq_some_iff.1 hu).1
      rw [hts]
      simpa [Lib.byteCells] using this
    rw [Lib.addr_add, Nat.zero_add, bytesWorld_cell w 5 t j hj, ← hu, ← h]
    have hj2 : j < t.data.toList.length := by simpa using hj
    simp only [Lib.byteCells, List.getElem?_map, List.getElem?_eq_getElem hj2, Option.map_some, List.getD_eq_getElem?_getD, Option.getD_some]
set_option maxRecDepth 100000 in
set_option maxHeartbeats 8000000 in
theorem shallowText_calls (A1 A2 : Option Addr) (n1 n2 d1 d2 : Nat) (l1 l2 : List (List UInt8)) (w : World) (hl1 : Strs w w.heap.size A1 n1 l1) (hl2 : Strs w w.heap.size A2 n2 l2) (hg1 : Good l1 true) (hg2 : Good l2 true) :
    Calls Tryd.prog 12 #[.slice A1 n1 d1, .slice A2 n2 d2] w fun e w' => ∃ v, e = .returned v ∧ OwnB w w.heap.size (shText l1 l2) v w' := by
  obtain ⟨i0, hi, hz0, hz1, hz2⟩ := info_parts infoByte3
  have HL1 := hid hl1
  have HL2 := hid hl2
  have HG1 := hid (hg1 rfl)
  have HG2 := hid (hg2 rfl)
  have HN1 := hid hl1.len
  have HN2 := hid hl2.len
  have hb1 : (n1 : Int) ≤ 1000 := by have := (hg1 rfl).1; have := hl1.len; omega
  have hb2 : (n2 : Int) ≤ 1000 := by have := (hg2 rfl).1; have := hl2.len; omega
  clear hl1 hl2 hg1 hg2
  go_enter Tryd.func12, Tryd.ntmps12
  go_wp2_with fail
  go_loopw [5, 12] (fun v iv wr => ∃ k : Nat, k ≤ n1 ∧ iv = .int .i64 k ∧ Hid (OwnB w w.heap.size (linesOf [115, 104, 97, 108, 108, 111, 119, 32] ((names l1).take k)) v wr)) (fun _ iv _ => n1 - (RowKit.intOf iv).toNat)
  case atStart => exact ⟨0, by omega, rfl, hid ⟨World.ownsRow_nil _ _ _ _, Kept.refl _ _⟩⟩
  case round =>
    obtain ⟨k, hk, rfl, hO⟩ := hrel
    by_cases hlt : k < n1
    ·
      obtain ⟨g, o, x, rfl, hg, hc, _, hx⟩ := (HL1.out.below (hO.out.2.below (Nat.le_refl _) (by simp))).next hlt
      have hs40 := HG1.out.2 (ofL x) (List.mem_map_of_mem (List.mem_of_getElem? hx))
      have HX := hid hx
      have hlt' : (k : Int) < n1 := by omega
      obtain ⟨s, hse⟩ : ∃ s, s = ofL x := ⟨_, rfl⟩
      rw [← hse] at hc hs40
      have hsk : (names l1)[k]? = some s := by rw [hse]; simp [names, hx]
      have HSK := hid hsk
      obtain ⟨t1, ht1, hl1', hz1'⟩ := cat_ex (P := Tryd.prog) ⟨#[115, 104, 97, 108, 108, 111, 119, 32]⟩ s (by have := hs40.1; show 8 + s.size ≤ _; omega)
      obtain ⟨t2, ht2, hl2', hz2'⟩ := cat_ex (P := Tryd.prog) t1 ⟨#[10]⟩ (by have := hs40.1; rw [hz1']; show 8 + s.size + 1 ≤ _; omega)
      have htx : t2.data.toList = [115, 104, 97, 108, 108, 111, 119, 32] ++ s.data.toList ++ [10] := by rw [hl2', hl1']
      obtain ⟨p, hp⟩ : ∃ p, p = [115, 104, 97, 108, 108, 111, 119, 32] ++ s.data.toList ++ [10] := ⟨_, rfl⟩
      have HP : Hid (line p = lineOf [115, 104, 97, 108, 108, 111, 119, 32] s) := hid (by rw [hp]; rfl)
      have HPL : Hid (p.length ≤ 65516) := hid (by have h40 : s.data.toList.length = 40 := by simpa using hs40.1
                                                   rw [hp]; simp [h40])
      have HLL : Hid ((line p).length ≤ 70) := hid (by rw [HP.out]; exact lineOf_len hs40 _ (by decide))
      rw [← hp] at htx
      obtain ⟨w1, cap, hcv, hby, hk1⟩ := conv_ex wr t2 p htx
      have HBY := hid hby
      have HK1 := hid hk1
      have HLP : Hid ((linesOf [115, 104, 97, 108, 108, 111, 119, 32] ((names l1).take k)).length ≤ 140000) := hid (by have h1 := linesOf_len [115, 104, 97, 108, 108, 111, 119, 32] (by decide) ((names l1).take k) (fun x hx => HG1.out.2 x (List.mem_of_mem_take hx)); have h2 := HG1.out.1; have h3 : (names l1).length = l1.length := (by simp [names]); skip; rw [List.length_take] at h1; omega)
      clear hx hg hse hsk hs40 hl1' hl2' hz1' hz2' htx hp hby hk1
      go_wp2_with fail
      refine (line_calls (some ⟨wr.heap.size, 0, none⟩) cap w1.heap.size p w1 HBY.out (Nat.le_refl _) HPL.out).mono ?_
      rintro e w2 ⟨A3, c3, rfl, hc3, hy3, hb3⟩
      have HY3 := hid hy3
      have HK3 := hid (HK1.out.trans_ (Kept.of_below hb3))
      have HO3 := hid (own_keepK hO.out.1 HK3.out (by simp))
      have HW3 := hid (hO.out.2.trans_ HK3.out)
      clear hc3 hy3 hb3 hc hcv ht1 ht2
      go_wp2_with (at_builtin; refine wpList_append_any _ rfl (.tmp 16) (.tmp 21) _ rfl w.heap.size 5 i0 _ 1 1 Tryd.underlying25 hi hz0 hz1 hz2 (by rfl) (by omega) _ _ _ rfl HO3.out w2.heap.size A3 (line p).length c3 (byteCells (line p)) rfl HY3.out.1 (cells_one _) (by have h1 := HLP.out; have h2 := HLL.out; simp only [maxLen]; omega) (by have h1 := HLP.out; have h2 := HLL.out; omega) HW3.out.size ?_; intro v6 w6 hown6 hg6 hat6; have HO6 := hid hown6; have HW6 := hid (kept_own_ HW3.out HO3.out (Nat.le_refl _) hg6); clear hown6 hg6 hat6)
      have HO7 := hid (show OwnB w w.heap.size (linesOf [115, 104, 97, 108, 108, 111, 119, 32] ((names l1).take (k + 1))) v6 w6 by
        refine ⟨?_, HW6.out⟩
        have := HO6.out
        rw [HP.out] at this
        rw [linesOf_succ [115, 104, 97, 108, 108, 111, 119, 32] (names l1) k s HSK.out]
        simpa [byteCells, Nat.add_assoc] using this)
      clear HO6 HW6
      go_roundw
      case rel => exact ⟨k + 1, by omega, by go_num, HO7⟩
      case measure => simp [RowKit.intOf]; omega
    · obtain rfl : k = n1 := by omega
      have HA2 := hid (show OwnB w w.heap.size (linesOf [115, 104, 97, 108, 108, 111, 119, 32] (names l1)) u5 wr by
        have := hO.out
        rw [List.take_of_length_le (by have := HN1.out; simp [names]; omega)] at this
        exact this)
      have HPL0 := hid (show (linesOf [115, 104, 97, 108, 108, 111, 119, 32] (names l1)).length ≤ 70000 by have h1 := linesOf_len [115, 104, 97, 108, 108, 111, 119, 32] (by decide) (names l1) HG1.out.2; have h2 := HG1.out.1; have h3 : (names l1).length = l1.length := (by simp [names]); omega)
      obtain ⟨P1, hP1⟩ : ∃ P1, P1 = linesOf [115, 104, 97, 108, 108, 111, 119, 32] (names l1) := ⟨_, rfl⟩
      have HP1 := hid hP1
      rw [← hP1] at HA2 HPL0
      have hnl : ¬ (k : Int) < k := by omega
      clear hP1 hO hk hlt
      go_wp2_with fail
      go_loopw [5, 26] (fun v iv wr => ∃ k : Nat, k ≤ n2 ∧ iv = .int .i64 k ∧ Hid (OwnB w w.heap.size (P1 ++ linesOf [117, 110, 115, 104, 97, 108, 108, 111, 119, 32] ((names l2).take k)) v wr)) (fun _ iv _ => n2 - (RowKit.intOf iv).toNat)
      case atStart => exact ⟨0, by omega, rfl, hid (by have := HA2.out; simpa [linesOf] using this)⟩
      case round =>
        obtain ⟨k, hk, rfl, hO⟩ := hrel
        by_cases hlt : k < n2
        ·
          obtain ⟨g, o, x, rfl, hg, hc, _, hx⟩ := (HL2.out.below (hO.out.2.below (Nat.le_refl _) (by simp))).next hlt
          have hs40 := HG2.out.2 (ofL x) (List.mem_map_of_mem (List.mem_of_getElem? hx))
          have HX := hid hx
          have hlt' : (k : Int) < n2 := by omega
          obtain ⟨s, hse⟩ : ∃ s, s = ofL x := ⟨_, rfl⟩
          rw [← hse] at hc hs40
          have hsk : (names l2)[k]? = some s := by rw [hse]; simp [names, hx]
          have HSK := hid hsk
          obtain ⟨t1, ht1, hl1', hz1'⟩ := cat_ex (P := Tryd.prog) ⟨#[117, 110, 115, 104, 97, 108, 108, 111, 119, 32]⟩ s (by have := hs40.1; show 10 + s.size ≤ _; omega)
          obtain ⟨t2, ht2, hl2', hz2'⟩ := cat_ex (P := Tryd.prog) t1 ⟨#[10]⟩ (by have := hs40.1; rw [hz1']; show 10 + s.size + 1 ≤ _; omega)
          have htx : t2.data.toList = [117, 110, 115, 104, 97, 108, 108, 111, 119, 32] ++ s.data.toList ++ [10] := by rw [hl2', hl1']
          obtain ⟨p, hp⟩ : ∃ p, p = [117, 110, 115, 104, 97, 108, 108, 111, 119, 32] ++ s.data.toList ++ [10] := ⟨_, rfl⟩
          have HP : Hid (line p = lineOf [117, 110, 115, 104, 97, 108, 108, 111, 119, 32] s) := hid (by rw [hp]; rfl)
          have HPL : Hid (p.length ≤ 65516) := hid (by have h40 : s.data.toList.length = 40 := by simpa using hs40.1
                                                       rw [hp]; simp [h40])
          have HLL : Hid ((line p).length ≤ 70) := hid (by rw [HP.out]; exact lineOf_len hs40 _ (by decide))
          rw [← hp] at htx
          obtain ⟨w1, cap, hcv, hby, hk1⟩ := conv_ex wr t2 p htx
          have HBY := hid hby
          have HK1 := hid hk1
          have HLP : Hid ((P1 ++ linesOf [117, 110, 115, 104, 97, 108, 108, 111, 119, 32] ((names l2).take k)).length ≤ 140000) := hid (by have h1 := linesOf_len [117, 110, 115, 104, 97, 108, 108, 111, 119, 32] (by decide) ((names l2).take k) (fun x hx => HG2.out.2 x (List.mem_of_mem_take hx)); have h2 := HG2.out.1; have h3 : (names l2).length = l2.length := (by simp [names]); have h4 := HPL0.out; rw [List.length_take] at h1; rw [List.length_append]; omega)
          clear hx hg hse hsk hs40 hl1' hl2' hz1' hz2' htx hp hby hk1
          go_wp2_with fail
          refine (line_calls (some ⟨wr.heap.size, 0, none⟩) cap w1.heap.size p w1 HBY.out (Nat.le_refl _) HPL.out).mono ?_
          rintro e w2 ⟨A3, c3, rfl, hc3, hy3, hb3⟩
          have HY3 := hid hy3
          have HK3 := hid (HK1.out.trans_ (Kept.of_below hb3))
          have HO3 := hid (own_keepK hO.out.1 HK3.out (by simp))
          have HW3 := hid (hO.out.2.trans_ HK3.out)
          clear hc3 hy3 hb3 hc hcv ht1 ht2
          go_wp2_with (at_builtin; refine wpList_append_any _ rfl (.tmp 30) (.tmp 35) _ rfl w.heap.size 5 i0 _ 1 1 Tryd.underlying25 hi hz0 hz1 hz2 (by rfl) (by omega) _ _ _ rfl HO3.out w2.heap.size A3 (line p).length c3 (byteCells (line p)) rfl HY3.out.1 (cells_one _) (by have h1 := HLP.out; have h2 := HLL.out; simp only [maxLen]; omega) (by have h1 := HLP.out; have h2 := HLL.out; omega) HW3.out.size ?_; intro v6 w6 hown6 hg6 hat6; have HO6 := hid hown6; have HW6 := hid (kept_own_ HW3.out HO3.out (Nat.le_refl _) hg6); clear hown6 hg6 hat6)
          have HO7 := hid (show OwnB w w.heap.size (P1 ++ linesOf [117, 110, 115, 104, 97, 108, 108, 111, 119, 32] ((names l2).take (k + 1))) v6 w6 by
            refine ⟨?_, HW6.out⟩
            have := HO6.out
            rw [HP.out] at this
            rw [linesOf_succ [117, 110, 115, 104, 97, 108, 108, 111, 119, 32] (names l2) k s HSK.out]
            simpa [byteCells, Nat.add_assoc] using this)
          clear HO6 HW6
          go_roundw
          case rel => exact ⟨k + 1, by omega, by go_num, HO7⟩
          case measure => simp [RowKit.intOf]; omega
        · obtain rfl : k = n2 := by omega
          obtain ⟨T, hT⟩ : ∃ T, T = P1 ++ linesOf [117, 110, 115, 104, 97, 108, 108, 111, 119, 32] (names l2) := ⟨_, rfl⟩
          have HTT : Hid (shText l1 l2 = T ++ [48, 48, 48, 48]) := hid (by rw [hT, HP1.out]; rfl)
          have HA3 := hid (show OwnB w w.heap.size T u5 wr by
            have := hO.out
            rw [List.take_of_length_le (by have := HN2.out; simp [names]; omega), ← hT] at this
            exact this)
          have HTL : Hid (T.length ≤ 140000) := hid (by
            have h1 := linesOf_len [117, 110, 115, 104, 97, 108, 108, 111, 119, 32] (by decide) (names l2) HG2.out.2
            have h2 := HG2.out.1
            have h3 : (names l2).length = l2.length := (by simp [names])
            have h4 := HPL0.out
            rw [hT, List.length_append]
            omega)
          clear hT hO
          go_wp2_with (at_builtin; refine Lib.wpList_append_own_string _ rfl (.tmp 38) (.const (.string ⟨#[48, 48, 48, 48]⟩)) _ _ rfl w.heap.size 5 i0 Tryd.underlying25 Tryd.underlying9 hi hz0 hz1 hz2 _ _ _ rfl HA3.out.1 ⟨#[48, 48, 48, 48]⟩ rfl (by have h1 := HTL.out; show T.length + 4 ≤ _; simp only [maxLen]; omega) (by have h1 := HTL.out; show T.length + 4 ≤ _; omega) HA3.out.2.size ?_; intro v6 w6 hown6 hg6 hat6; have HO6 := hid hown6; have HW6 := hid (kept_own_ HA3.out.2 HA3.out.1 (Nat.le_refl _) hg6); clear hown6 hg6 hat6)
          go_ret
          refine ⟨_, rfl, ?_, HW6.out⟩
          rw [HTT.out]
          have := HO6.out
          have e1 : (⟨#[48, 48, 48, 48]⟩ : ByteArray).size = 4 := rfl
          have e2 : Lib.strCells ⟨#[48, 48, 48, 48]⟩ = byteCells [48, 48, 48, 48] := rfl
          rw [e1, e2] at this
          simpa [byteCells] using this
end Go.Proofs.YtkjfndkcagkhaaaDoor.enc
