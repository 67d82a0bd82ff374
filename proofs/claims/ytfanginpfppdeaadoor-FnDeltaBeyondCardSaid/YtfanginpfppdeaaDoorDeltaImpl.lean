/- What the thin package's Patch computes. -/
import Derived.Test.YtfanginpfppdeaaDoorDeltaPub
import Derived.Test.YtfanginpfppdeaaDoorDeltaPatched
set_option linter.unusedVariables false
namespace Go.Proofs.YtfanginpfppdeaaDoor.delta
open Go.RowKit Lib patch mem

/-- how it ends -/
def ImplEnd (w : World) (r : Option (List UInt8)) (e : Ending) (w' : World) : Prop :=
  Below w.heap.size w w' ∧ match r with
    | some out => ∃ v, e = .returned (.tuple #[v, .bool true]) ∧ w'.ownsRow w.heap.size 5 1 v out.length (byteCells out)
    | none => ∃ v, e = .returned (.tuple #[v, .bool false])
theorem own_new {w : World} {g B : Nat} (hg : w.heap[g]? = some (.cells #[] 5 (0, 0))) (hB : B ≤ g) : w.ownsRow B 5 1 (.slice (some ⟨g, 0, none⟩) 0 0) 0 [] :=
  ⟨rfl, .inr ⟨g, 0, #[], rfl, hB, hg, Nat.le_refl _, by decide, rfl, rfl⟩⟩
theorem own_lower {w : World} {B B' n : Nat} {e : TypeId} {v : Value} {xs : List Value} (h : w.ownsRow B e 1 v n xs) (hB : B' ≤ B) : w.ownsRow B' e 1 v n xs := by
  obtain ⟨hl, h0 | ⟨g, cap, cur, hv, hBg, hr⟩⟩ := h
  · exact ⟨hl, .inl h0⟩
  · exact ⟨hl, .inr ⟨g, cap, cur, hv, by omega, hr⟩⟩
theorem own_bytes {w : World} {B n : Nat} {v : Value} {l : List UInt8} (h : w.ownsRow B 5 1 v n (byteCells l)) : ∃ A c, v = .slice A n c ∧ n ≤ c ∧ Bytes w w.heap.size A n l := by
  rcases id h with ⟨hl, ⟨rfl, h0⟩ | ⟨g, cap, cur, rfl, hBg, hg, hnc, hcm, hcs, htk⟩⟩
  · subst h0
    have : l = [] := List.eq_nil_of_length_eq_zero (by simpa [Lib.byteCells] using hl)
    subst this
    exact ⟨_, _, rfl, Nat.le_refl _, Bytes.nil_⟩
  · exact ⟨_, _, rfl, hnc, Reads.of_own h, fun _ => ⟨g, 0, rfl⟩⟩
set_option maxRecDepth 100000 in
set_option maxHeartbeats 4000000 in
theorem impl_calls (A D : Option Addr) (n c m d K : Nat) (base l : List UInt8) (t : TypeId) (p0 p1 p2 : Value) (w : World) (hE : Env w w.heap.size t p0 p1 p2)
    (h : Bytes w w.heap.size A n base) (hl : Bytes w w.heap.size D m l) (hnc : n ≤ c) (hmd : m ≤ d) (hn : n ≤ 2147483647) (hm : m ≤ 2147483647) (hK : (base.length + 1) * m ≤ K) (hK2 : K ≤ 70368744177664) :
    Calls Tryd.prog 7 #[.slice A n c, .slice D m d] w (ImplEnd w (patch base l)) := by
  obtain ⟨i0, hi, hz0, hz1, hz2⟩ := info_parts infoByte
  have hnl := hid h.len
  have hml := hid hl.len
  have HA := hid h
  have HD := hid hl
  have HE := hid hE
  have HK := hid hK
  clear h hl hE hK
  go_enter Tryd.func7, Tryd.ntmps7
  have hba := hid ((Below.refl w.heap.size w).alloc (Nat.le_refl _) (.cells #[] 5))
  have ho1 := hid (own_new (heap_alloc_new w (.cells #[] 5)) (Nat.le_refl _))
  go_wp2_with (first
    | (at_builtin
       refine wpList_append_any _ rfl (.tmp 9) (.tmp 10) _ rfl w.heap.size 5 i0 _ 1 1 Tryd.underlying22 hi hz0 hz1 hz2 rfl (by omega) (.slice (some ⟨w.heap.size, 0, none⟩) 0 0) 0 [] rfl
         ho1.out w.heap.size A n c (byteCells base) rfl (HA.out.below hba.out).1 (cells_one _) (by simp only [maxLen]; omega) (by omega) hba.out.size ?_
       intro v1 w1 hown1 hg1 hat1
       have hb1 := hid (hba.out.grown hg1 hba.out.size (fun k hk => by simp [Value.ownBlock] at hk; omega))
       have ho2 := hid (own_new (heap_alloc_new w1 (.cells #[] 5)) (Nat.le_refl _))
       have hba1 := hid ((Below.refl w1.heap.size w1).alloc (Nat.le_refl _) (.cells #[] 5))
       have hbb1 := hid (hb1.out.alloc hb1.out.size (.cells #[] 5)))
    | (at_builtin
       refine wpList_append_any _ rfl (.tmp 12) (.tmp 13) _ rfl w1.heap.size 5 i0 _ 1 1 Tryd.underlying22 hi hz0 hz1 hz2 rfl (by omega) (.slice (some ⟨w1.heap.size, 0, none⟩) 0 0) 0 [] rfl
         ho2.out w.heap.size D m d (byteCells l) rfl (HD.out.below hbb1.out).1 (cells_one _) (by simp only [maxLen]; omega) (by omega) hba1.out.size ?_
       intro v2 w2 hown2 hg2 hat2))
  have hb12 : Below w1.heap.size w1 w2 := hba1.out.grown hg2 hba1.out.size (fun k hk => by simp [Value.ownBlock] at hk; omega)
  simp only [Nat.zero_add, List.nil_append] at hown1 hown2
  obtain ⟨A1, c1, rfl, hc1, hB1⟩ := own_bytes hown1
  obtain ⟨A2, c2, rfl, hc2, hB2⟩ := own_bytes hown2
  have hb2 : Below w.heap.size w w2 := hb1.out.trans ⟨hb12.os, hb12.tape, hb12.output, hb12.size, fun k hk => hb12.block k (by have := hb1.out.size; omega)⟩
  refine (patchPub_calls A1 A2 n c1 m c2 K base l t p0 p1 p2 w2 ((HE.out.below hb2).more hb2.size) ((hB1.below hb12).more hb12.size) hB2 hc1 hc2 hn hm HK.out hK2).mono ?_
  rintro e w3 ⟨hb3, h3⟩
  have hb23 := hid (hb2.trans ⟨hb3.os, hb3.tape, hb3.output, hb3.size, fun k hk => hb3.block k (by have := hb2.size; omega)⟩)
  have hs2 := hid hb2.size
  clear hat1 hat2 hg1 hg2 hown1 hown2 hb12 hb2 hb3 hB1 hB2
  cases hp : patch base l with
  | none =>
    rw [hp] at h3
    obtain ⟨v, t', p', rfl⟩ := h3
    have HP := hid hp
    clear hp
    go_wp2_with fail
    go_quiet (fail)
    go_wp2_with fail
    refine bodyPost_ret (by simp [results, Tryd.results7, go_sem]; rfl) rfl ?_
    unfold ImplEnd; rw [HP.out]; exact ⟨below_drewN hb23.out _, _, rfl⟩
  | some out =>
    rw [hp] at h3
    obtain ⟨v, rfl, hown⟩ := h3
    have HP := hid hp
    have HO := hid (own_lower hown hs2.out)
    clear hp hown
    go_wp2_with fail
    go_quiet (fail)
    go_wp2_with fail
    refine bodyPost_ret (by simp [results, Tryd.results7, go_sem]; rfl) rfl ?_
    unfold ImplEnd; rw [HP.out]; exact ⟨below_drewN hb23.out _, v, rfl, HO.out⟩
end Go.Proofs.YtfanginpfppdeaaDoor.delta
