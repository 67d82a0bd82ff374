/- What the format's words for a delta of one copy write. -/
import Derived.Test.YtfanginpfppdeaaDoorDeltaMade
set_option linter.unusedVariables false
namespace Go.Proofs.YtfanginpfppdeaaDoor.delta
open Go.RowKit Lib patch mem

theorem own_below {B : Nat} {e : TypeId} {k : Nat} {v : Value} {n : Nat} {xs : List Value} {w w' : World} (h : w.ownsRow B e k v n xs) (hb : Below w.heap.size w w') : w'.ownsRow B e k v n xs := by
  obtain ⟨hl, h0 | ⟨g, cap, cur, hv, hBg, hg, hr⟩⟩ := h
  · exact ⟨hl, .inl h0⟩
  · have hlt : g < w.heap.size := by
      rcases Nat.lt_or_ge g w.heap.size with h | h
      · exact h
      · simp [Array.getElem?_eq_none h] at hg
    exact ⟨hl, .inr ⟨g, cap, cur, hv, hBg, (hb.block g hlt).trans hg, hr⟩⟩
theorem below_up {B : Nat} {w w1 w2 : World} (h : Below B w w1) (h2 : Below w1.heap.size w1 w2) (hB : B ≤ w.heap.size) : Below B w w2 :=
  h.trans ⟨h2.os, h2.tape, h2.output, h2.size, fun k hk => h2.block k (by have := h.size; omega)⟩
set_option maxRecDepth 100000 in
set_option maxHeartbeats 4000000 in
theorem delta_calls (f s : Nat) (wdv : Int) (wd : Nat → Bool) (A : Option Addr) (n c g : Nat) (base : List UInt8) (w : World) (h : Bytes w w.heap.size A n base) (hnc : n ≤ c) (hn : n ≤ 1000000) (hg : StepAt w g f s wdv) (hfs : f + s ≤ n)
    (hwd : ∀ k, k < 7 → (bits .and .i64 (wdv / 2 ^ k) 1 == 1) = wd k) :
    Calls Tryd.prog 14 #[.slice A n c, .slice (some ⟨g, 0, none⟩) 1 1] w (Made w (oneCopy n f s wd)) := by
  obtain ⟨i0, hi, hz0, hz1, hz2⟩ := info_parts infoByte
  have HXL : Hid (((base.drop f).take s).length = s) := hid (by have := h.len; simp; omega)
  have HG := hid hg
  have hglt := hg.lt
  have HA := hid h
  have HWD := hid hwd
  have hn1 := enc7_len 3 n
  have hs1 := enc7_len 3 s
  have hz1' := stepBytes_len f s wd
  clear hg h hwd
  go_enter Tryd.func14, Tryd.ntmps14
  go_wp2_with fail
  refine (size7_calls n w (by omega)).mono ?_
  rintro e w1 ⟨hb1, v1, rfl, ho1⟩
  have HB1 := hid hb1
  have HO1 := hid ho1
  clear hb1 ho1
  go_wp2_with fail
  refine (made_calls f s wdv A n c g base w1 ((HA.out.below HB1.out).more HB1.out.size) hnc hn (HG.out.below hglt HB1.out) hfs).mono ?_
  rintro e w2 ⟨hb2, v2, rfl, ho2⟩
  obtain ⟨A2, c2, rfl⟩ := own_shape ho2
  have HB2 := hid (below_up HB1.out hb2 (Nat.le_refl _))
  have HO2 := hid (own_below HO1.out hb2)
  clear hb2 ho2
  rw [HXL.out]
  go_wp2_with fail
  refine (size7_calls s w2 (by omega)).mono ?_
  rintro e w3 ⟨hb3, v3, rfl, ho3⟩
  obtain ⟨A3, c3, rfl, hc3, hB3⟩ := own_bytes ho3
  have HB3 := hid (below_up HB2.out hb3 (Nat.le_refl _))
  have HO3 := hid (own_below HO2.out hb3)
  have HBy := hid hB3
  clear hb3 ho3 hB3
  obtain ⟨A1, c1, rfl⟩ := own_shape HO3.out
  go_wp2_with (at_builtin; refine wpList_append_any _ rfl (.tmp 10) (.tmp 15) _ rfl w.heap.size 5 i0 _ 1 1 Tryd.underlying22 hi hz0 hz1 hz2 rfl (by omega) (.slice A1 (enc7 3 n).length c1) (enc7 3 n).length (byteCells (enc7 3 n)) rfl HO3.out _ A3 (enc7 3 s).length c3 (byteCells (enc7 3 s)) rfl HBy.out.1 (cells_one _) (by simp only [maxLen]; omega) (by omega) HB3.out.size ?_; intro v4 w4 hown4 hg4 hat4)
  have HB4 := hid (HB3.out.grown hg4 HB3.out.size fun g hg => (HO3.out.lt g hg).1)
  rw [← byteCells_append, ← List.length_append] at hown4
  have HO4 := hid hown4
  clear hown4 hg4 hat4
  go_loopw [5, 19] (fun ov iv wr => ∃ (k : Nat) (out : List UInt8), k ≤ 1 ∧ iv = .int .i64 k ∧ Below w.heap.size w wr ∧ wr.ownsRow w.heap.size 5 1 ov out.length (byteCells out) ∧ Hid (k = 1 → out = oneCopy n f s wd) ∧ (k = 0 → out = enc7 3 n ++ enc7 3 s)) (fun _ iv _ => 1 - (RowKit.intOf iv).toNat)
  case atStart => exact ⟨0, _, by omega, rfl, HB4.out, HO4.out, hid (by omega), fun _ => rfl⟩
  case round =>
    obtain ⟨k, out, hk, rfl, hb, hown, ho, ho0⟩ := hrel
    obtain ⟨Ao, co, rfl⟩ := own_shape hown
    by_cases h1 : k = 1
    · have h2 := ho.out h1
      subst h1
      have HO := hid h2
      clear ho0 ho h2
      go_wp2_with fail
      go_ret
      exact ⟨hb, _, rfl, by rw [← HO.out]; exact hown⟩
    · obtain rfl : k = 0 := by omega
      have hout := ho0 rfl
      have hlen : out.length ≤ 8 := by rw [hout, List.length_append]; omega
      have HOut := hid hout
      have hG := HG.out.below hglt hb
      have c0' := hG.c0
      have c1' := hG.c1
      have c2' := hG.c2
      have c3' := hG.c3
      have c4' := hG.c4
      have HB := hid (hb.alloc hb.size (.cells #[.bool true, .int .i64 f, .int .i64 s, .slice none 0 0, .int .i64 wdv] 30))
      have HOw := hid (hown.alloc (.cells #[.bool true, .int .i64 f, .int .i64 s, .slice none 0 0, .int .i64 wdv] 30))
      clear ho0 ho hG hout hb hown
      go_wp2_with fail
      refine (step_calls f s wdv wd none 0 0 _ (by omega) (by omega) HWD.out).mono ?_
      rintro e w5 ⟨hb5, v5, rfl, ho5⟩
      obtain ⟨A5, c5, rfl, hc5, hB5⟩ := own_bytes ho5
      have HB5 := hid (below_up HB.out hb5 (Nat.le_refl _))
      have HO5 := hid (own_below HOw.out hb5)
      have HBy5 := hid hB5
      clear hb5 ho5 hB5
      go_wp2_with (at_builtin; refine wpList_append_any _ rfl (.tmp 23) (.tmp 25) _ rfl w.heap.size 5 i0 _ 1 1 Tryd.underlying22 hi hz0 hz1 hz2 rfl (by omega) (.slice Ao out.length co) out.length (byteCells out) rfl HO5.out _ A5 (stepBytes f s wd).length c5 (byteCells (stepBytes f s wd)) rfl HBy5.out.1 (cells_one _) (by simp only [maxLen]; omega) (by omega) HB5.out.size ?_; intro v6 w6 hown6 hg6 hat6)
      go_roundw
      case rel =>
        refine ⟨1, out ++ stepBytes f s wd, by omega, rfl, HB5.out.grown hg6 HB5.out.size fun g hg => (HO5.out.lt g hg).1, ?_, hid fun _ => by rw [HOut.out]; rfl, by omega⟩
        rw [List.length_append, byteCells_append]
        exact hown6
      case measure => simp [RowKit.intOf]
end Go.Proofs.YtfanginpfppdeaaDoor.delta
