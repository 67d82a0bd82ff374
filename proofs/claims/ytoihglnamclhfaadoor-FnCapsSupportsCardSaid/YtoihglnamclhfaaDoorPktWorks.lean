/- One packet line is read. -/
import Derived.Test.YtoihglnamclhfaaDoorPktSpec
set_option linter.unusedVariables false
attribute [local go_sem ↓] Go.wp_at_zero Go.wp_at_succ
namespace Go.Proofs.YtoihglnamclhfaaDoor.pkt
open Go.RowKit Lib frm mem rd text

theorem rowV_B {w : World} {F : List Nat} {v : Value} {l : List UInt8} (h : RowV w F v l) : RowB w w.heap.size v l := by
  obtain ⟨A, c, e, h1, h2, _⟩ := h; exact ⟨A, c, e, h1, h2⟩
theorem rowB_one {w : World} {B : Nat} {vs : List Value} {ls : List (List UInt8)} (h : All2 (RowB w B) vs ls) : ∀ u ∈ vs, u.oneCell' = true := by
  induction h with
  | nil => simp
  | cons h _ ih =>
    obtain ⟨A, c, rfl, _⟩ := h
    intro u hu
    rcases List.mem_cons.1 hu with rfl | hu
    · rfl
    · exact ih u hu
theorem rows_of_own {w : World} {B B' n : Nat} {e : TypeId} {v : Value} {vs : List Value} {ls : List (List UInt8)} (h : w.ownsRow B e 1 v n vs) (hr : All2 (RowB w B') vs ls) (hB : B' ≤ w.heap.size) : ∃ A c, v = .slice A n c ∧ n ≤ c ∧ Rows w w.heap.size A n ls := by
  have hr' := hr.mono (fun v l (h : RowB w B' v l) => (by obtain ⟨A, c, e, h1, h2⟩ := h; exact ⟨A, c, e, h1, h2.more hB⟩ : RowB w w.heap.size v l))
  rcases id h with ⟨hl, ⟨rfl, h0⟩ | ⟨g, cap, cur, rfl, hBg, hg, hnc, hcm, hcs, htk⟩⟩
  · subst h0
    exact ⟨none, 0, rfl, Nat.le_refl _, vs, ⟨by simpa using hl, fun h => absurd h (by omega)⟩, hr', fun h => absurd h (by omega)⟩
  · exact ⟨_, _, rfl, hnc, vs, Reads.of_own h, hr', fun _ => ⟨g, 0, rfl⟩⟩
def Yes (w : World) (e : Ending) (w' : World) : Prop := e = .returned (.bool true) ∧ Below w.heap.size w w'
theorem Two.below_ {w w' : World} {p pu : Addr} (h : Two w p pu) (hb : Below w.heap.size w w') : Two w' p pu := by
  obtain ⟨c1, t1, e1⟩ := h.pb
  obtain ⟨c2, t2, e2⟩ := h.pub_
  exact h.below hb h.eofg h.unxg (Lib.lt_of_heap e1) (Lib.lt_of_heap e2)
theorem below_more {a b c : World} (h : Below a.heap.size a b) (k : Below b.heap.size b c) : Below a.heap.size a c :=
  h.trans ⟨k.os, k.tape, k.output, k.size, fun i hi => k.block i (Nat.lt_of_lt_of_le hi h.size)⟩
set_option maxRecDepth 100000 in
set_option maxHeartbeats 1000000 in
theorem works_calls (pe pu : Addr) (w : World) (hT : Two w pe pu) : Calls Tryd.prog 23 #[] w (Yes w) := by
  have kc := fun (w : World) (C : Array Value) (n c : Nat) => Lib.run_convert_bytes_const (P := Tryd.prog) w 28 5 C n c Tryd.underlying28 Tryd.underlying5
  have HT := hid hT
  clear hT
  go_enter Tryd.func23, Tryd.ntmps23
  go_wp2_with fail
  generalize hw1 : w.alloc _ = w1
  have hb1 : Below w.heap.size w w1 := by rw [← hw1]; exact (Below.refl _ _).alloc (Nat.le_refl _) _
  have hy : Bytes w1 w1.heap.size (some ⟨w.heap.size, 0, none⟩) 6 (lines [[97, 10]]) := by
    rw [← hw1]
    refine ⟨⟨rfl, fun _ => ⟨_, rfl, by simp, fun j u hu => ?_⟩⟩, fun _ => ⟨_, _, rfl⟩⟩
    rw [Lib.addr_add, Nat.zero_add, Lib.cell_of_heap (heap_alloc_new w _) j, ← hu]
    have e : byteCells (lines [[97, 10]]) = [.int .u8 48, .int .u8 48, .int .u8 48, .int .u8 54, .int .u8 97, .int .u8 10] := by rw [show lines [[97, 10]] = [48, 48, 48, 54, 97, 10] by decide]; rfl
    rw [e]
    simp
  have c1 := readLines_calls (some ⟨w.heap.size, 0, none⟩) 6 6 _ [[97, 10]] pe pu w1 hy (Nat.le_refl _) (by omega) rfl (by intro p hp; simp at hp; subst hp; exact ⟨by decide, by decide⟩) (by decide) (HT.out.below_ hb1)
  have HB1 := hid hb1
  clear hy hb1 hw1
  refine c1.mono ?_
  rintro e w2 ⟨v, vs, rfl, hown, hrows, hb2⟩
  obtain ⟨A2, c2, rfl, hc2, hR⟩ := rows_of_own hown (hrows.mono fun v l h => rowV_B h) (Nat.le_refl _)
  obtain ⟨g, o, D, d, p, rfl, hg, hcell, _, hp, hpd, hbp⟩ := hR.next (k := 0) (by decide)
  obtain rfl : [97, 10] = p := by simpa using hp
  have k1 : ∀ q, (convert 28 9 (.slice D 2 d)).run Tryd.prog (w2.drewN q) = .ok (.string ⟨#[97, 10]⟩) (w2.drewN q) := fun q => text_of_bytes (l := [97, 10]) (hbp.drewN q)
  have k2 : (convert 28 9 (.slice D 2 d)).run Tryd.prog w2 = .ok (.string ⟨#[97, 10]⟩) w2 := text_of_bytes (l := [97, 10]) hbp
  have hcell' : w2.cell? ⟨g, o, none⟩ = some (.slice D 2 d) := hcell
  have HB2 := hid hb2
  clear c1 hown hrows hR hp hpd hbp hb2 hg hc2
  go_wp2_with fail
  go_ret
  exact ⟨rfl, below_more HB1.out HB2.out⟩
theorem two_frame {w w' : World} {B n : Nat} {A : Option Addr} {ls : List (List UInt8)} (h : Rows w w.heap.size A n ls) (hb : Below w.heap.size w w') : Rows w' w'.heap.size A n ls := (h.below hb).more hb.size
end Go.Proofs.YtoihglnamclhfaaDoor.pkt
