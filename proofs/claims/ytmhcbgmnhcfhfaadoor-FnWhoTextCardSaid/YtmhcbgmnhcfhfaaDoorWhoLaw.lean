/- FnWhoText, walked. -/
import Derived.Test.YtmhcbgmnhcfhfaaDoorWhoImpl
import Derived.Lib.SmallJoins
import Derived.ProofKit
set_option linter.unusedVariables false
namespace Go.Proofs.YtmhcbgmnhcfhfaaDoor.who
open Go.RowKit Lib text Go.WideShapes Go.ChangeShapes

set_option maxRecDepth 100000 in
theorem fits22_calls (s m : ByteArray) (t z : Int) (w : World) (hs : s.size ≤ 140737488351232) (hm : m.size ≤ 140737488351232) :
    Calls Tryd.prog 5 #[.agg #[.string s, .string m, .int .i64 t, .int .i64 z]] w (Says w Any) := by
  have HB := hid (below_alloc w)
  by_cases h1 : (2147483647 : Int) < s.size
  · go_enter Tryd.func5, Tryd.ntmps5
    go_wp2_with fail
    go_ret
    exact ⟨HB.out _, _, rfl, trivial⟩
  · by_cases h2 : (2147483647 : Int) < m.size
    · go_enter Tryd.func5, Tryd.ntmps5
      go_wp2_with fail
      go_ret
      exact ⟨HB.out _, _, rfl, trivial⟩
    · go_enter Tryd.func5, Tryd.ntmps5
      go_wp2_with fail
      go_ret
      exact ⟨HB.out _, _, rfl, trivial⟩
theorem fresh_who {w : World} {s m : ByteArray} {t z : Int} : TwoC (w.alloc (.cells #[.string s, .string m, .int .i64 t, .int .i64 z] 23)) w.heap.size s m t z :=
  have h := heap_alloc_new w (.cells #[.string s, .string m, .int .i64 t, .int .i64 z] 23)
  ⟨Lib.cell_of_heap h 0, Lib.cell_of_heap h 1, Lib.cell_of_heap h 2, Lib.cell_of_heap h 3⟩
theorem TwoC.below {w w' : World} {g B : Nat} {s m : ByteArray} {t z : Int} (h : TwoC w g s m t z) (hb : Below B w w') (hg : g < B) : TwoC w' g s m t z :=
  ⟨(hb.cell (p := ⟨g, 0, none⟩) hg).trans h.1, (hb.cell (p := ⟨g, 1, none⟩) hg).trans h.2.1, (hb.cell (p := ⟨g, 2, none⟩) hg).trans h.2.2.1, (hb.cell (p := ⟨g, 3, none⟩) hg).trans h.2.2.2⟩
theorem lt_of_cell {w : World} {g o : Nat} {v : Value} (h : w.cell? ⟨g, o, none⟩ = some v) : g < w.heap.size := by
  rcases Nat.lt_or_ge g w.heap.size with h' | h'
  · exact h'
  · simp [World.cell?, Array.getElem?_eq_none h'] at h
/-- it says true, and below the old heap nothing has turned -/
def Yes (w : World) (e : Ending) (w' : World) : Prop := e = .returned (.bool true) ∧ Below w.heap.size w w'
theorem same_toList {a b : ByteArray} (h : a.data.toList = b.data.toList) : (a.toList == b.toList) = true := by rw [eq_of_list h]; simp
set_option maxRecDepth 100000 in
set_option maxHeartbeats 4000000 in
theorem law_calls (s m : ByteArray) (t z : Int) (w : World) (hs : s.size ≤ 140737488351232) (hm : m.size ≤ 140737488351232)
    (htab : ∀ w', Below w.heap.size w w' → TabIs Tryd.prog w' "internal/strconv.uint64pow10" .u64 pow10Tab) :
    Calls Tryd.prog 3 #[.agg #[.string s, .string m, .int .i64 t, .int .i64 z]] w (Yes w) := by
  have c1 := hid (fun w => fits22_calls s m t z w hs hm)
  have c2 := hid (fun w => isWho_calls s m t z w hs hm)
  have HA := hid (below_alloc w)
  have HT := hid htab
  clear hs hm htab
  go_enter Tryd.func3, Tryd.ntmps3
  go_wp2_with fail
  refine (c1.out _).mono ?_
  rintro e x1 ⟨hb, b, rfl, _⟩
  have HW := hid (below_more (HA.out _) hb)
  have HC := hid (TwoC.below (fresh_who (w := w) (s := s) (m := m) (t := t) (z := z)) hb (by simp))
  clear hb
  cases b with
  | false =>
    go_wp2_with fail
    go_ret
    exact ⟨rfl, HW.out⟩
  | true =>
    obtain ⟨q0, q1, q2, q3⟩ := HC.out
    go_wp2_with fail
    refine (c2.out _).mono ?_
    rintro e x2 ⟨hb, b, rfl, hwho⟩
    have HC := hid (TwoC.below HC.out hb (by have := HW.out.size; have := lt_of_cell q0; omega))
    have HW := hid (below_more HW.out hb)
    clear hb q0 q1 q2 q3
    cases b with
    | false =>
      clear hwho
      go_wp2_with fail
      go_ret
      exact ⟨rfl, HW.out⟩
    | true =>
      have W := hwho rfl
      obtain ⟨n, rfl⟩ : ∃ n : Nat, t = n := ⟨t.toNat, by have := W.t0; omega⟩
      have HWho := hid W
      have c3 := hid (fun (w' : World) (h : Below w.heap.size w w') => encodeWho_calls s m n z w' W (fun w'' h' => HT.out _ (below_more h h')))
      have c4 := hid (fun w' => whoText_calls s m n z w' W)
      obtain ⟨q0, q1, q2, q3⟩ := HC.out
      clear hwho W
      go_wp2_with fail
      refine (c3.out _ HW.out).mono ?_
      rintro e x3 ⟨hb, s1, rfl, hs1⟩
      have HC := hid (TwoC.below HC.out hb (by have := HW.out.size; have := lt_of_cell q0; omega))
      have HW := hid (below_more HW.out hb)
      have HS := hid hs1
      clear hb q0 q1 q2 q3 hs1
      obtain ⟨q0, q1, q2, q3⟩ := HC.out
      go_wp2_with fail
      refine (c4.out _).mono ?_
      rintro e x4 ⟨hb, s2, rfl, hs2⟩
      have HW := hid (below_more HW.out hb)
      have he := same_toList (HS.out.trans hs2.symm)
      clear hb q0 q1 q2 q3 hs2
      go_wp2_with fail
      go_ret
      exact ⟨rfl, HW.out⟩
end Go.Proofs.YtmhcbgmnhcfhfaaDoor.who
