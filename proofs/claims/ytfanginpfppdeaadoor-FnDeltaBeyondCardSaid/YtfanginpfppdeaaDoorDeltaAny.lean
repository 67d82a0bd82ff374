/- FnDeltaAny answers true, at a base and a delta of which the product of lengths is not great. -/
import Derived.Test.YtfanginpfppdeaaDoorDeltaWorks
set_option linter.unusedVariables false
namespace Go.Proofs.YtfanginpfppdeaaDoor.delta
open Go.RowKit Lib patch mem

set_option maxRecDepth 100000 in
set_option maxHeartbeats 4000000 in
theorem any_calls (A D : Option Addr) (n c m d : Nat) (base l : List UInt8) (t : TypeId) (p0 p1 p2 : Value) (w : World) (hE : Env w w.heap.size t p0 p1 p2)
    (h : Bytes w w.heap.size A n base) (hl : Bytes w w.heap.size D m l) (hnc : n ≤ c) (hmd : m ≤ d) (hn : n ≤ 1048576) (hm : m ≤ 1048576) :
    Calls Tryd.prog 3 #[.slice A n c, .slice D m d] w fun e w' => e = .returned (.bool true) ∧ Below w.heap.size w w' := by
  have hK : Hid ((base.length + 1) * m ≤ 2199024304128) := hid (by
    have h1 := h.len
    have h2 : (base.length + 1) * m ≤ 1048577 * 1048576 := Nat.mul_le_mul (by omega) hm
    omega)
  have HA := hid h
  have HD := hid hl
  have HE := hid hE
  clear h hl hE
  have e1 : ¬ ((2147483647 : Int) < n) := by omega
  have e2 : ¬ ((2147483647 : Int) < m) := by omega
  go_enter Tryd.func3, Tryd.ntmps3
  go_wp2_with fail
  refine (patched_calls A D n c m d base l w HA.out HD.out hnc hmd (by omega) (by omega)).mono ?_
  rintro e w1 ⟨hb1, h1⟩
  have HB1 := hid hb1
  clear hb1
  cases hp : patched base l with
  | told out =>
    rw [hp] at h1
    obtain ⟨v, rfl, hown, _⟩ := h1
    have hq := hid (patch_of_told hp)
    have HO := hid hown
    clear hown hp
    go_wp2_with fail
    refine (impl_calls A D n c m d 2199024304128 base l t p0 p1 p2 w1 ((HE.out.below HB1.out).more HB1.out.size) ((HA.out.below HB1.out).more HB1.out.size) ((HD.out.below HB1.out).more HB1.out.size) hnc hmd (by omega) (by omega) hK.out (by omega)).mono ?_
    rintro e w2 ⟨hb2, h2⟩
    rw [hq.out] at h2
    obtain ⟨v2, rfl, hown2⟩ := h2
    have HB2 := hid (HB1.out.trans ⟨hb2.os, hb2.tape, hb2.output, hb2.size, fun k hk => hb2.block k (by have := HB1.out.size; omega)⟩)
    obtain ⟨A3, c3, rfl, hc3, hB3⟩ := own_bytes HO.out
    obtain ⟨A4, c4, rfl, hc4, hB4⟩ := own_bytes hown2
    have HS1 := hid (hB3.below hb2)
    have HS2 := hid hB4
    clear hown2 hB3 hB4 hb2
    go_wp2_with fail
    refine (deltaSame_calls A4 A3 out.length c4 out.length c3 _ _ out w2 HS2.out HS1.out).mono ?_
    rintro e w3 ⟨rfl, hw3⟩
    subst hw3
    go_wp2_with fail
    go_ret
    exact ⟨rfl, HB2.out⟩
  | refused =>
    rw [hp] at h1
    subst h1
    have hq := hid (patch_of_refused hp)
    clear hp
    go_wp2_with fail
    refine (impl_calls A D n c m d 2199024304128 base l t p0 p1 p2 w1 ((HE.out.below HB1.out).more HB1.out.size) ((HA.out.below HB1.out).more HB1.out.size) ((HD.out.below HB1.out).more HB1.out.size) hnc hmd (by omega) (by omega) hK.out (by omega)).mono ?_
    rintro e w2 ⟨hb2, h2⟩
    rw [hq.out] at h2
    obtain ⟨v2, rfl⟩ := h2
    have HB2 := hid (HB1.out.trans ⟨hb2.os, hb2.tape, hb2.output, hb2.size, fun k hk => hb2.block k (by have := HB1.out.size; omega)⟩)
    clear hb2
    go_wp2_with fail
    refine (deltaWorks_calls t p0 p1 p2 w2 ((HE.out.below HB2.out).more HB2.out.size)).mono ?_
    rintro e w3 ⟨rfl, hb3⟩
    have HB3 := hid (HB2.out.trans ⟨hb3.os, hb3.tape, hb3.output, hb3.size, fun k hk => hb3.block k (by have := HB2.out.size; omega)⟩)
    clear hb3
    go_wp2_with fail
    go_ret
    exact ⟨rfl, HB3.out⟩
  | opn =>
    rw [hp] at h1
    subst h1
    clear hp
    go_wp2_with fail
    refine (impl_calls A D n c m d 2199024304128 base l t p0 p1 p2 w1 ((HE.out.below HB1.out).more HB1.out.size) ((HA.out.below HB1.out).more HB1.out.size) ((HD.out.below HB1.out).more HB1.out.size) hnc hmd (by omega) (by omega) hK.out (by omega)).mono ?_
    rintro e w2 ⟨hb2, h2⟩
    have HB2 := hid (HB1.out.trans ⟨hb2.os, hb2.tape, hb2.output, hb2.size, fun k hk => hb2.block k (by have := HB1.out.size; omega)⟩)
    clear hb2
    obtain ⟨v, b, rfl⟩ : ∃ v b, e = .returned (.tuple #[v, .bool b]) := by
      cases hq : patch base l with
      | none => rw [hq] at h2; obtain ⟨v, rfl⟩ := h2; exact ⟨v, false, rfl⟩
      | some out => rw [hq] at h2; obtain ⟨v, rfl, _⟩ := h2; exact ⟨v, true, rfl⟩
    clear h2
    go_wp2_with fail
    refine (deltaWorks_calls t p0 p1 p2 w2 ((HE.out.below HB2.out).more HB2.out.size)).mono ?_
    rintro e w3 ⟨rfl, hb3⟩
    have HB3 := hid (HB2.out.trans ⟨hb3.os, hb3.tape, hb3.output, hb3.size, fun k hk => hb3.block k (by have := HB2.out.size; omega)⟩)
    clear hb3
    go_wp2_with fail
    go_ret
    exact ⟨rfl, HB3.out⟩
end Go.Proofs.YtfanginpfppdeaaDoor.delta
