/- What the format's words for a delta of one copy compute: whether it is one, what it makes, how it is written. -/
import Derived.Test.YtfanginpfppdeaaDoorDeltaEnc
set_option linter.unusedVariables false
namespace Go.Proofs.YtfanginpfppdeaaDoor.delta
open Go.RowKit Lib patch mem

/-- a copy, where it stands in a list of one -/
structure StepAt (w : World) (g : Nat) (f s : Nat) (wd : Int) : Prop where
  lt : g < w.heap.size
  c0 : w.cell? ⟨g, 0, none⟩ = some (.bool true)
  c1 : w.cell? ⟨g, 1, none⟩ = some (.int .i64 f)
  c2 : w.cell? ⟨g, 2, none⟩ = some (.int .i64 s)
  c3 : w.cell? ⟨g, 3, none⟩ = some (.slice none 0 0)
  c4 : w.cell? ⟨g, 4, none⟩ = some (.int .i64 wd)
theorem StepAt.below {w w' : World} {B g f s : Nat} {wd : Int} (h : StepAt w g f s wd) (hB : g < B) (hb : Below B w w') : StepAt w' g f s wd :=
  ⟨Nat.lt_of_lt_of_le h.lt hb.size, (hb.cell (p := ⟨g, 0, none⟩) hB).trans h.c0, (hb.cell (p := ⟨g, 1, none⟩) hB).trans h.c1, (hb.cell (p := ⟨g, 2, none⟩) hB).trans h.c2, (hb.cell (p := ⟨g, 3, none⟩) hB).trans h.c3, (hb.cell (p := ⟨g, 4, none⟩) hB).trans h.c4⟩
set_option maxRecDepth 100000 in
theorem small_calls (A : Option Addr) (n c : Nat) (g : Nat) (w : World) (hc : w.cell? ⟨g, 0, none⟩ = some (.slice A n c)) :
    Calls Tryd.prog 10 #[.slice (some ⟨g, 0, none⟩) 1 1] w fun e w' => e = .returned (.bool (decide (n ≤ 1000000))) ∧ w' = w := by
  by_cases h2 : n ≤ 1000000
  · have e : decide (n ≤ 1000000) = true := by simpa using h2
    rw [e]
    have e1 : ¬ (1000000 : Int) < n := by omega
    go_enter Tryd.func10, Tryd.ntmps10
    go_wp2_with fail
    go_loop [4, 7] (fun _ iv => ∃ k : Nat, k ≤ 1 ∧ iv = .int .i64 k) (fun _ iv => 1 - (RowKit.intOf iv).toNat)
    case atStart => exact ⟨0, by omega, rfl⟩
    case round =>
      obtain ⟨k, hk, rfl⟩ := hrel
      by_cases h1 : k = 1
      · subst h1
        go_wp2_with fail
        go_ret
        exact ⟨rfl, rfl⟩
      · obtain rfl : k = 0 := by omega
        go_wp2_with fail
        go_round
        case rel => exact ⟨1, by omega, rfl⟩
        case measure => simp [RowKit.intOf]
  · have e : decide (n ≤ 1000000) = false := by simpa using h2
    rw [e]
    have e1 : (1000000 : Int) < n := by omega
    go_enter Tryd.func10, Tryd.ntmps10
    go_wp2_with fail
    go_loop [4, 7] (fun _ iv => iv = .int .i64 0) (fun _ iv => 1 - (RowKit.intOf iv).toNat)
    case atStart => rfl
    case round =>
      obtain rfl := hrel
      go_wp2_with fail
      go_ret
      exact ⟨rfl, rfl⟩
/-- a copy that is one -/
def good (f s : Int) (n : Nat) : Prop := 0 ≤ f ∧ 1 ≤ s ∧ s < 16777216 ∧ f < n ∧ s ≤ n - f
instance (f s : Int) (n : Nat) : Decidable (good f s n) := inferInstanceAs (Decidable (_ ∧ _))
set_option maxRecDepth 100000 in
theorem good_calls (f s wd : Int) (A : Option Addr) (n c : Nat) (w : World) (h : n ≤ 1000000) :
    Calls Tryd.prog 13 #[.agg #[.bool true, .int .i64 f, .int .i64 s, .slice none 0 0, .int .i64 wd], .slice A n c] w fun e w' => e = .returned (.bool (decide (good f s n))) ∧ Below w.heap.size w w' := by
  have hb : ∀ o, Below w.heap.size w (w.alloc o) := fun o => (Below.refl w.heap.size w).alloc (Nat.le_refl _) o
  by_cases h1 : 0 ≤ f
  · by_cases h2 : 1 ≤ s
    · by_cases h3 : s < 16777216
      · by_cases h4 : f < n
        · by_cases h5 : s ≤ n - f
          · have e : decide (good f s n) = true := by simp only [decide_eq_true_eq]; exact ⟨h1, h2, h3, h4, h5⟩
            rw [e]
            go_enter Tryd.func13, Tryd.ntmps13
            go_wp2_with fail
            go_ret
            exact ⟨rfl, hb _⟩
          · have e : decide (good f s n) = false := by simp only [decide_eq_false_iff_not]; exact fun h => h5 h.2.2.2.2
            rw [e]
            go_enter Tryd.func13, Tryd.ntmps13
            go_wp2_with fail
            go_ret
            exact ⟨rfl, hb _⟩
        · have e : decide (good f s n) = false := by simp only [decide_eq_false_iff_not]; exact fun h => h4 h.2.2.2.1
          rw [e]
          go_enter Tryd.func13, Tryd.ntmps13
          go_wp2_with fail
          go_ret
          exact ⟨rfl, hb _⟩
      · have e : decide (good f s n) = false := by simp only [decide_eq_false_iff_not]; exact fun h => h3 h.2.2.1
        rw [e]
        go_enter Tryd.func13, Tryd.ntmps13
        go_wp2_with fail
        go_ret
        exact ⟨rfl, hb _⟩
    · have e : decide (good f s n) = false := by simp only [decide_eq_false_iff_not]; exact fun h => h2 h.2.1
      rw [e]
      go_enter Tryd.func13, Tryd.ntmps13
      go_wp2_with fail
      go_ret
      exact ⟨rfl, hb _⟩
  · have e : decide (good f s n) = false := by simp only [decide_eq_false_iff_not]; exact fun h => h1 h.1
    rw [e]
    go_enter Tryd.func13, Tryd.ntmps13
    go_wp2_with fail
    go_ret
    exact ⟨rfl, hb _⟩
set_option maxRecDepth 100000 in
set_option maxHeartbeats 4000000 in
theorem made_calls (f s : Nat) (wd : Int) (A : Option Addr) (n c g : Nat) (base : List UInt8) (w : World) (h : Bytes w w.heap.size A n base) (hnc : n ≤ c) (hn : n ≤ 1000000) (hg : StepAt w g f s wd) (hfs : f + s ≤ n) :
    Calls Tryd.prog 18 #[.slice A n c, .slice (some ⟨g, 0, none⟩) 1 1] w (Made w ((base.drop f).take s)) := by
  obtain ⟨i0, hi, hz0, hz1, hz2⟩ := info_parts infoByte
  obtain ⟨A7, hA7, hs7⟩ := slice_mid .i64 .i64 A n c f (f + s) (by omega) (by omega) hnc
  rw [show f + s - f = s by omega] at hs7 hA7
  simp only [Int.natCast_add] at hs7
  have hmid := hid (hA7 _ _ _ h)
  have HXL : Hid (((base.drop f).take s).length = s) := hid hmid.out.len
  have HG := hid hg
  have hglt := hg.lt
  clear hA7 hg h
  go_enter Tryd.func18, Tryd.ntmps18
  go_wp2_with fail
  go_loopw [5, 7, 10] (fun ov _ iv wr => ∃ (k : Nat) (out : List UInt8), k ≤ 1 ∧ iv = .int .i64 k ∧ Below w.heap.size w wr ∧ wr.ownsRow w.heap.size 5 1 ov out.length (byteCells out) ∧ Hid (k = 1 → out = (base.drop f).take s) ∧ (k = 0 → out = [])) (fun _ _ iv _ => 1 - (RowKit.intOf iv).toNat)
  case atStart => exact ⟨0, [], by omega, rfl, Below.refl _ _, World.ownsRow_nil _ _ _ _, hid (by omega), fun _ => rfl⟩
  case round =>
    obtain ⟨k, out, hk, rfl, hb, hown, ho, ho0⟩ := hrel
    obtain ⟨Ao, co, rfl⟩ := own_shape hown
    by_cases h1 : k = 1
    · have h2 := ho.out h1
      subst h1
      have HO := hid h2
      clear ho0 ho h2
      go_wp2_with fail
      go_ret
      exact ⟨hb, _, rfl, by rw [← HO.out]; exact hown⟩
    · obtain rfl : k = 0 := by omega
      have hout := ho0 rfl
      subst hout
      have hG := HG.out.below hglt hb
      have c0 := hG.c0
      have c1 := hG.c1
      have c2 := hG.c2
      have c3 := hG.c3
      have c4 := hG.c4
      clear ho0 ho hG
      have hba := hb.alloc hb.size (.cells #[.bool true, .int .i64 f, .int .i64 s, .slice none 0 0, .int .i64 wd] 30)
      have hown0 := hown.alloc (.cells #[.bool true, .int .i64 f, .int .i64 s, .slice none 0 0, .int .i64 wd] 30)
      have hm : Bytes _ w.heap.size A7 s _ := hmid.out.below hba
      go_wp2_with (at_builtin; refine wpList_append_any _ rfl (.tmp 16) (.tmp 25) _ rfl w.heap.size 5 i0 _ 1 1 Tryd.underlying22 hi hz0 hz1 hz2 rfl (by omega) (.slice Ao 0 co) 0 (byteCells []) rfl hown0 w.heap.size A7 s (c - f) (byteCells ((base.drop f).take s)) rfl hm.1 (cells_one _) (by simp only [maxLen]; omega) (by omega) hba.size ?_; intro v1 wr1 hown1 hg1 hat1)
      go_roundw
      case rel =>
        refine ⟨1, (base.drop f).take s, by omega, rfl, hba.grown hg1 hba.size fun g hg => (hown0.lt g hg).1, ?_, hid fun _ => rfl, by omega⟩
        rw [HXL.out]
        simpa [Lib.byteCells] using hown1
      case measure => simp [RowKit.intOf]
end Go.Proofs.YtfanginpfppdeaaDoor.delta
