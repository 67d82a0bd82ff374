/- Someone as the package writes it: EncodeWho. -/
import Derived.Test.YtmhcbgmnhcfhfaaDoorWhoEnc
import Derived.Deep.QuietTactic
import Derived.BigQuiet
set_option linter.unusedVariables false
attribute [local go_sem ↓] Go.wp_at_zero Go.wp_at_succ
namespace Go.Proofs.YtmhcbgmnhcfhfaaDoor.who
open Go.RowKit Lib text

def sigVal (s m : ByteArray) (t z : Int) : Value := .agg #[.string s, .string m, .int .i64 (t + 62135596800), .int .i64 0, .int .i64 z]
/-- someone in block g, and an empty signature in block g + 1 -/
def Two (w : World) (g : Nat) (s m : ByteArray) (t z : Int) : Prop :=
  w.heap[g]? = some (.cells #[.string s, .string m, .int .i64 t, .int .i64 z] 23 (0, 0)) ∧ w.heap[g + 1]? = some (.cells #[.string ⟨#[]⟩, .string ⟨#[]⟩, .int .i64 0, .int .i64 0, .int .i64 0] 44 (0, 0))
theorem Two.below {w w' : World} {g : Nat} {s m : ByteArray} {t z : Int} (h : Two w g s m t z) (hb : Below w.heap.size w w') : Two w' g s m t z :=
  ⟨(hb.block g (Lib.lt_of_heap h.1)).trans h.1, (hb.block (g + 1) (Lib.lt_of_heap h.2)).trans h.2⟩
/-- the cells of these two -/
abbrev TwoC (w : World) (g : Nat) (s m : ByteArray) (t z : Int) : Prop :=
  w.cell? ⟨g, 0, none⟩ = some (.string s) ∧ w.cell? ⟨g, 1, none⟩ = some (.string m) ∧ w.cell? ⟨g, 2, none⟩ = some (.int .i64 t) ∧ w.cell? ⟨g, 3, none⟩ = some (.int .i64 z)
theorem Two.cells {w : World} {g : Nat} {s m : ByteArray} {t z : Int} (h : Two w g s m t z) : TwoC w g s m t z :=
  ⟨Lib.cell_of_heap h.1 0, Lib.cell_of_heap h.1 1, Lib.cell_of_heap h.1 2, Lib.cell_of_heap h.1 3⟩
theorem Two.facts {w : World} {g : Nat} {s m : ByteArray} {t z : Int} (h : Two w g s m t z) :
    w.cell? ⟨g + 1, 0, none⟩ = some (.string ⟨#[]⟩) ∧ w.cell? ⟨g + 1, 1, none⟩ = some (.string ⟨#[]⟩) ∧ w.cell? ⟨g + 1, 2, none⟩ = some (.int .i64 0) ∧ w.cell? ⟨g + 1, 3, none⟩ = some (.int .i64 0) ∧ w.cell? ⟨g + 1, 4, none⟩ = some (.int .i64 0) ∧
      w.frozen? ⟨g + 1, 0, none⟩ = false ∧ w.frozen? ⟨g + 1, 1, none⟩ = false ∧ w.frozen? ⟨g + 1, 2, none⟩ = false ∧ w.frozen? ⟨g + 1, 3, none⟩ = false ∧ w.frozen? ⟨g + 1, 4, none⟩ = false :=
  ⟨Lib.cell_of_heap h.2 0, Lib.cell_of_heap h.2 1, Lib.cell_of_heap h.2 2, Lib.cell_of_heap h.2 3, Lib.cell_of_heap h.2 4, Lib.frozen_of_heap h.2 _, Lib.frozen_of_heap h.2 _, Lib.frozen_of_heap h.2 _, Lib.frozen_of_heap h.2 _, Lib.frozen_of_heap h.2 _⟩
set_option maxRecDepth 100000 in
set_option maxHeartbeats 1000000 in
theorem signatureOf_calls (s m : ByteArray) (t z : Int) (w : World) (h0 : 0 ≤ t) (h1 : t < 1099511627776) :
    Calls Tryd.prog 14 #[.agg #[.string s, .string m, .int .i64 t, .int .i64 z]] w (Gives w (sigVal s m t z)) := by
  have c1 := hid (fun w => unix_calls t w h0 h1)
  have c2 := hid (fun n w => fixedZone_calls n z w)
  have c3 := hid (fun w => in_calls (t + 62135596800) 0 0 z w)
  have hb := hid (fun a b => below_more (below_alloc w a) (below_alloc _ b))
  clear h0 h1
  go_enter Tryd.func14, Tryd.ntmps14
  go_wp2_with fail
  obtain ⟨wb, hwb⟩ : ∃ wb, wb = ((w.alloc (.cells #[.string s, .string m, .int .i64 t, .int .i64 z] 23)).alloc (.cells #[.string ⟨#[]⟩, .string ⟨#[]⟩, .int .i64 0, .int .i64 0, .int .i64 0] 44)) := ⟨_, rfl⟩
  have hT : Two wb w.heap.size s m t z := by
    rw [hwb]
    exact ⟨(Below.heap_alloc _ _ _ (by simp)).trans (heap_alloc_new _ _), by rw [show w.heap.size + 1 = (w.alloc (.cells #[.string s, .string m, .int .i64 t, .int .i64 z] 23)).heap.size by simp]; exact heap_alloc_new _ _⟩
  have HT := hid (show Two wb.drew w.heap.size s m t z from hT)
  have HW0 : Below w.heap.size w wb := hwb ▸ hb.out _ _
  have HW := hid (show Below w.heap.size w wb.drew from ⟨HW0.os, HW0.tape, HW0.output, HW0.size, HW0.block⟩)
  rw [← hwb]
  have HK := hid (show TwoC wb.drew w.heap.size s m t z from hT.cells)
  clear hwb hT hb HW0
  go_region_held3 (fun w' => w'.cell? ⟨w.heap.size, 0, none⟩ = some (.string s) ∧ w'.cell? ⟨w.heap.size, 1, none⟩ = some (.string m) ∧ w'.cell? ⟨w.heap.size, 2, none⟩ = some (.int .i64 t) ∧ w'.cell? ⟨w.heap.size, 3, none⟩ = some (.int .i64 z))
    (first | with_reducible exact HK.out | go_keep)
    (first
      | (go_at_call 30; refine (c1.out _).mono ?_; rintro e x1 ⟨rfl, hb⟩; have HT := hid (HT.out.below hb); have HW := hid (below_more HW.out hb); have HK := hid HT.out.cells; clear hb)
      | (go_at_call 32; refine (c2.out _ _).mono ?_; rintro e x2 ⟨rfl, hb⟩; have HT := hid (HT.out.below hb); have HW := hid (below_more HW.out hb); have HK := hid HT.out.cells; clear hb)
      | (go_at_call 31; refine (c3.out _).mono ?_; rintro e x3 ⟨rfl, hb⟩; have HT := hid (HT.out.below hb); have HW := hid (below_more HW.out hb); have HK := hid HT.out.cells; obtain ⟨hc0, hc1, hc2, hc3, hc4, hf0, hf1, hf2, hf3, hf4⟩ := HT.out.facts; have hk0 := HK.out.1; have hk1 := HK.out.2.1; have hk2 := HK.out.2.2.1; have hk3 := HK.out.2.2.2; clear hb))
  all_goals
    go_wp2_with fail
    exact bodyPost_ret (v := sigVal s m t z) (by simp [results, Tryd.results14, go_sem, sigVal, hc0, hc1, hc2, hc3, hc4]) rfl ⟨rfl, ((((HW.out.setCell (by simp) _).setCell (by simp) _).setCell (by simp) _).setCell (by simp) _).setCell (by simp) _⟩
theorem fresh_sig {w : World} {s m : ByteArray} {t z : Int} : Sig (w.alloc (.cells #[.string s, .string m, .int .i64 (t + 62135596800), .int .i64 0, .int .i64 z] 44)) w.heap.size s m t z :=
  have h := heap_alloc_new w (.cells #[.string s, .string m, .int .i64 (t + 62135596800), .int .i64 0, .int .i64 z] 44)
  ⟨Lib.cell_of_heap h 0, Lib.cell_of_heap h 1, Lib.cell_of_heap h 2, Lib.cell_of_heap h 3, Lib.cell_of_heap h 4⟩
/-- a text and true -/
def MadeOk (w : World) (l : List UInt8) (e : Ending) (w' : World) : Prop := Below w.heap.size w w' ∧ ∃ s : ByteArray, e = .returned (.tuple #[.string s, .bool true]) ∧ s.data.toList = l
set_option maxRecDepth 100000 in
set_option maxHeartbeats 4000000 in
theorem encodeWho_calls (s m : ByteArray) (t : Nat) (z : Int) (w : World) (hw : Who s m t z) (htab : ∀ w', Below w.heap.size w w' → TabIs Tryd.prog w' "internal/strconv.uint64pow10" .u64 pow10Tab) :
    Calls Tryd.prog 7 #[.agg #[.string s, .string m, .int .i64 t, .int .i64 z]] w (MadeOk w (whoText s.data.toList m.data.toList t z)) := by
  obtain ⟨hs, hm, ht0, ht1, hz0, hz1, hz2⟩ := hw
  have c1 := hid (fun w => signatureOf_calls s m (t : Int) z w ht0 ht1)
  have c2 := hid (fun B b g w a1 a2 a3 a4 a5 => encode_calls B b g s m t z w a1 a2 a3 a4 hs hm ht1 hz0 hz1 hz2 a5)
  have c3 := hid (fun B b w h => Tryd.Buffer_String B b (whoText s.data.toList m.data.toList t z) w h)
  have HT := hid htab
  have HA := hid (below_alloc w)
  clear hs hm ht0 ht1 hz0 hz1 hz2 htab
  go_enter Tryd.func7, Tryd.ntmps7
  go_wp2_with fail
  refine (c1.out _).mono ?_
  rintro e w1 ⟨rfl, hb⟩
  have HW := hid (below_more (HA.out _) hb)
  clear hb
  unfold sigVal
  go_wp2_with fail
  have hS := fresh_sig (w := w1) (s := s) (m := m) (t := (t : Int)) (z := z)
  have hI := fresh_isBuffer 50 5 (w1.alloc (.cells #[.string s, .string m, .int .i64 ((t : Int) + 62135596800), .int .i64 0, .int .i64 z] 44))
  have HW1 := hid (below_more (below_more HW.out (below_alloc w1 (.cells #[.string s, .string m, .int .i64 ((t : Int) + 62135596800), .int .i64 0, .int .i64 z] 44))) (below_alloc _ (.cells #[.slice none 0 0, .int .i64 0, .int .i8 0] 50)))
  have hS1 := hS.below (below_alloc _ (.cells #[.slice none 0 0, .int .i64 0, .int .i8 0] 50)) (by simp)
  have hz1 : (w1.alloc (.cells #[.string s, .string m, .int .i64 ((t : Int) + 62135596800), .int .i64 0, .int .i64 z] 44)).heap.size = w1.heap.size + 1 := by simp
  have c2' := c2.out _ _ _ _ hI (by simp) (by simp) hS1 (fun w' h => HT.out _ (HW1.out.trans ⟨h.os, h.tape, h.output, h.size, fun k hk => h.block k (by have := HW1.out.size; have := HW.out.size; simp; omega)⟩))
  rw [hz1] at c2'
  have C2 := hid c2'
  clear c2' hS hS1 hI hz1 c2 c1
  refine C2.out.mono ?_
  rintro e w2 ⟨rfl, hi, hb⟩
  have HF := hid hi
  have HW2 := hid (HW1.out.trans ⟨hb.os, hb.tape, hb.output, hb.size, fun k hk => hb.block k (by have := HW.out.size; omega)⟩)
  clear hi hb C2 HW1
  go_wp2_with fail
  go_quiet ((go_at_call 16; exact Calls.quiet_of (c3.out _ _ _ (HF.out.drewN _))))
  go_wp2_with fail
  go_ret2
  exact ⟨⟨HW2.out.os, HW2.out.tape, HW2.out.output, HW2.out.size, HW2.out.block⟩, _, rfl, rfl⟩
end Go.Proofs.YtmhcbgmnhcfhfaaDoor.who
