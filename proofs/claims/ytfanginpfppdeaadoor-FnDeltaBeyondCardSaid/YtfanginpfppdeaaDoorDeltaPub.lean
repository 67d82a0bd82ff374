/- What the program's PatchDelta, and the call of it, compute. -/
import Derived.Test.YtfanginpfppdeaaDoorDeltaPd
set_option linter.unusedVariables false
namespace Go.Proofs.YtfanginpfppdeaaDoor.delta
open Go.RowKit Lib patch mem

/-- how it ends -/
def PubEnd (w : World) (r : Option (List UInt8)) (e : Ending) (w' : World) : Prop :=
  Below w.heap.size w w' ∧ match r with
    | some out => ∃ v, e = .returned (.tuple #[v, .nilIface]) ∧ w'.ownsRow w.heap.size 5 1 v out.length (byteCells out)
    | none => ∃ v t p, e = .returned (.tuple #[v, .iface t p])
theorem Env.more {w : World} {B B' : Nat} {t : TypeId} {p0 p1 p2 : Value} (h : Env w B t p0 p1 p2) (hB : B ≤ B') : Env w B' t p0 p1 p2 := by
  have h5 := h.few
  obtain ⟨T, q, a1, a2, a3⟩ := h.t3
  obtain ⟨T', q', b1, b2, b3⟩ := h.t4
  exact ⟨by omega, h.e0, h.e1, h.e2, ⟨T, q, a1, by omega, a3⟩, ⟨T', q', b1, by omega, b3⟩⟩
set_option maxRecDepth 100000 in
set_option maxHeartbeats 4000000 in
theorem patchPub_calls (A D : Option Addr) (n c m d K : Nat) (base l : List UInt8) (t : TypeId) (p0 p1 p2 : Value) (w : World) (hE : Env w w.heap.size t p0 p1 p2)
    (h : Bytes w w.heap.size A n base) (hl : Bytes w w.heap.size D m l) (hnc : n ≤ c) (hmd : m ≤ d) (hn : n ≤ 2147483647) (hm : m ≤ 2147483647) (hK : (base.length + 1) * m ≤ K) (hK2 : K ≤ 70368744177664) :
    Calls Tryd.prog 17 #[.slice A n c, .slice D m d] w (PubEnd w (patch base l)) := by
  have hnl := hid h.len
  have hml := hid hl.len
  have HA := hid h
  have HD := hid hl
  have HE := hid hE
  have HK := hid hK
  have c0 := hE.e0
  clear h hl hE hK
  by_cases hg : n = 0 ∨ m < 2
  · have HP : Hid (patch base l = none) := hid (by
      rw [patch_in, if_pos]
      rcases hg with h | h
      · exact .inl (List.eq_nil_of_length_eq_zero (by rw [hnl.out]; exact h))
      · exact .inr (by rw [hml.out]; exact h))
    by_cases hn0 : n = 0
    · subst hn0
      go_enter Tryd.func17, Tryd.ntmps17
      go_wp2_with fail
      go_quiet (fail)
      go_wp2_with fail
      refine bodyPost_ret (by simp [results, Tryd.results17, go_sem]; rfl) rfl ?_
      unfold PubEnd; rw [HP.out]; exact ⟨below_drewN (Below.refl _ _) _, _, _, _, rfl⟩
    · have e1 : ((n : Int) == 0) = false := by simpa using hn0
      have e2 : (m : Int) < 2 := by omega
      go_enter Tryd.func17, Tryd.ntmps17
      go_wp2_with fail
      go_quiet (fail)
      go_wp2_with fail
      refine bodyPost_ret (by simp [results, Tryd.results17, go_sem]; rfl) rfl ?_
      unfold PubEnd; rw [HP.out]; exact ⟨below_drewN (Below.refl _ _) _, _, _, _, rfl⟩
  · have HP : Hid (patch base l = patchIn base l) := hid (by
      rw [patch_in, if_neg]
      rw [not_or] at hg ⊢
      exact ⟨fun h => hg.1 (by rw [← hnl.out, h]; rfl), by rw [hml.out]; exact hg.2⟩)
    have e1 : ((n : Int) == 0) = false := by simp; omega
    have e2 : ¬ (m : Int) < 2 := by omega
    have hba := hid ((Below.refl w.heap.size w).alloc (Nat.le_refl _) (.cells #[.slice none 0 0, .int .i64 0, .int .i8 0] 52))
    have hNB : Hid (NewBuf w.heap.size w.heap.size (w.alloc (.cells #[.slice none 0 0, .int .i64 0, .int .i8 0] 52))) := hid ⟨Nat.le_refl _, hba.out.size, 0, heap_alloc_new w _⟩
    clear hg
    go_enter Tryd.func17, Tryd.ntmps17
    go_wp2_with fail
    refine (patchDelta_calls w.heap.size w.heap.size A D n c m d K base l t p0 p1 p2 _ hNB.out (HE.out.below hba.out) (HA.out.below hba.out) (HD.out.below hba.out) hnc hmd hn hm HK.out hK2).mono ?_
    rintro e w1 ⟨hb, h1⟩
    have HB := hid (hba.out.trans hb)
    clear hb
    cases hp : patchIn base l with
    | none =>
      rw [hp] at h1
      obtain ⟨t', p', rfl⟩ := h1
      have HQ : Hid (patch base l = none) := hid (by rw [HP.out, hp])
      clear hp
      go_wp2_with fail
      refine bodyPost_ret (by simp [results, Tryd.results17, go_sem]; rfl) rfl ?_
      unfold PubEnd; rw [HQ.out]; exact ⟨HB.out, _, _, _, rfl⟩
    | some out =>
      rw [hp] at h1
      obtain ⟨rfl, hbuf⟩ := h1
      have HQ : Hid (patch base l = some out) := hid (by rw [HP.out, hp])
      have HBuf := hid hbuf
      clear hp hbuf
      go_wp2_with fail
      refine (Tryd.Buffer_Bytes w.heap.size w.heap.size (byteCells out) w1 HBuf.out).mono ?_
      rintro e w2 ⟨v, rfl, hown, hk⟩
      have HO := hid hown
      have HB2 := hid (HB.out.trans (below_of_draws_at' (B := w.heap.size) hk))
      clear hown hk
      go_wp2_with fail
      refine bodyPost_ret (by simp [results, Tryd.results17, go_sem]; rfl) rfl ?_
      unfold PubEnd; rw [HQ.out]; exact ⟨HB2.out, v, rfl, by simpa [Lib.byteCells] using HO.out⟩
end Go.Proofs.YtfanginpfppdeaaDoor.delta
