/- capability.zzSplitBytes at one byte. -/
import Derived.Test.YtoihglnamclhfaaDoorCpPlain
import Derived.Test.YtoihglnamclhfaaDoorPktSpec
set_option linter.unusedVariables false
set_option maxRecDepth 100000
namespace Go.Proofs.YtoihglnamclhfaaDoor.cap
open Go.RowKit Lib mem frm text pkt

/-- 's[:k:k]' -/
theorem slice_cut (ki kj : IntKind) (A : Option Addr) (q c k : Nat) (hk : k ≤ q) (hc : q ≤ c) : ∃ A', (∀ w B l, Bytes w B A q l → Bytes w B A' k (l.take k)) ∧
    (∀ w, (Instr.sliceAt 28 (.slice A q c) none (some (.int ki k)) (some (.int kj k))).run Tryd.prog w = .ok (.slice A' k k) w) := by
  refine ⟨A, fun w B l h => h.front hk, fun w => ?_⟩
  rw [run_sliceAt_slice (h := Tryd.underlying28), run_slice_hm (ht := Tryd.underlying28) (h0 := by omega) (h2 := by omega) (h3 := by omega), sizeByte]
  simp only [Result.andThen, sliced]
  cases A <;> simp [Addr.add]
theorem find_at {c : UInt8} {l : List UInt8} {k : Nat} (h : ∀ x ∈ l.take k, x ≠ c) (hk : l[k]? = some c) : find [c] l = some k := by
  induction l generalizing k with
  | nil => simp at hk
  | cons x l ih =>
    cases k with
    | zero => simp at hk; subst hk; rw [find_one, if_pos rfl]
    | succ k =>
      rw [find_one, if_neg (h x (by simp)), ih (k := k) (fun y hy => h y (by simp [hy])) (by simpa using hk)]
      rfl
theorem own_drewN {w : World} {B : Nat} {e : TypeId} {s n : Nat} {v : Value} {vs : List Value} (h : w.ownsRow B e s v n vs) (k : Nat) : (w.drewN k).ownsRow B e s v n vs := h
theorem below_drewNx {B : Nat} {a w : World} (h : Below B a w) (n : Nat) : Below B a (w.drewN n) := h.trans ⟨rfl, rfl, rfl, Nat.le_refl _, fun _ _ => rfl⟩
def lenOf : Value → Nat
  | .slice _ n _ => n
  | _ => 0
theorem infoRow : (Tryd.prog.info? 28).map (fun i => (i.zero, i.size, i.bytes)) = some (some (.slice none 0 0), 1, 24) := by kernel_rfl
theorem below_le {B B' : Nat} {a b : World} (h : Below B a b) (hB : B' ≤ B) : Below B' a b := ⟨h.os, h.tape, h.output, h.size, fun i hi => h.block i (by omega)⟩
/-- the pieces of a text, each a slice of its memory -/
def Split (B0 : Nat) (L : List (List UInt8)) (w : World) (e : Ending) (w' : World) : Prop := Below w.heap.size w w' ∧ ∃ v vs, e = .returned v ∧ w'.ownsRow w.heap.size 28 1 v L.length vs ∧ All2 (RowB w B0) vs L
theorem rowB_cut {w : World} {B : Nat} {A : Option Addr} {k : Nat} {l : List UInt8} (h : Bytes w B A k l) : RowB w B (.slice A k k) l := by
  have hl := h.len
  subst hl
  exact ⟨A, _, rfl, Nat.le_refl _, h⟩
theorem rowB_any {w : World} {B : Nat} {A : Option Addr} {k c : Nat} {l : List UInt8} (h : Bytes w B A k l) (hc : k ≤ c) : RowB w B (.slice A k c) l := by
  have hl := h.len
  subst hl
  exact ⟨A, _, rfl, hc, h⟩
theorem take_next {c : UInt8} {l : List UInt8} {k : Nat} {b : UInt8} (h : ∀ x ∈ l.take k, x ≠ c) (hb : l[k]? = some b) (hne : b ≠ c) : ∀ x ∈ l.take (k + 1), x ≠ c := by
  intro x hx
  rw [List.take_add_one, hb, List.mem_append] at hx
  rcases hx with hx | hx
  · exact h x hx
  · simp at hx; subst hx; exact hne
set_option maxRecDepth 100000 in
set_option maxHeartbeats 4000000 in
theorem splitAll_calls (B0 : Nat) (A : Option Addr) (n d e0 : Nat) (As : Option Addr) (c : UInt8) (L : List UInt8) (w : World) (hB0 : B0 ≤ w.heap.size) (h : Bytes w B0 A n L) (hd : n ≤ d) (hn : n ≤ 1000000) (hs : Bytes w w.heap.size As 1 [c]) :
    Calls Tryd.prog 70 #[.slice A n d, .slice As 1 e0, .int .i64 (-1)] w (Split B0 (pieces c L) w) := by
  obtain ⟨i0, hi, hz0, hz1, hz2⟩ := info_parts infoRow
  have ks := hid (fun (w' : World) (hb : Below w.heap.size w w') => text_of_bytes (c := e0) (hs.below hb))
  have HB := hid h
  have HB0 := hid hB0
  clear h hs hB0
  go_enter Tryd.func70, Tryd.ntmps70
  go_wp2_with fail
  go_loopw [0, 7, 8] (fun s out iv wr => ∃ (q c' k : Nat) (A' : Option Addr) (l : List UInt8) (dn : List (List UInt8)) (vs : List Value), s = .slice A' q c' ∧ iv = .int .i64 k ∧ q ≤ c' ∧ k ≤ q ∧ dn.length + q ≤ n ∧
    Hid (Bytes w B0 A' q l) ∧ Hid (pieces c L = dn ++ pieces c l) ∧ Hid (∀ x ∈ l.take k, x ≠ c) ∧ Hid (wr.ownsRow w.heap.size 28 1 out dn.length vs) ∧ Hid (All2 (RowB w B0) vs dn) ∧ Hid (Below w.heap.size w wr)) (fun s _ iv _ => lenOf s - (RowKit.intOf iv).toNat)
  case atStart => exact ⟨n, d, 0, A, L, [], [], rfl, rfl, hd, by omega, by simp, HB, hid rfl, hid (by simp), hid ⟨rfl, .inl ⟨rfl, rfl⟩⟩, hid .nil, hid (Below.refl _ _)⟩
  case round =>
    obtain ⟨q, c', k, A', l, dn, vs, rfl, rfl, hqc, hkq, hdn, hB, hP, hT, hO, hR, hW⟩ := hrel
    obtain ⟨wo, rfl⟩ : ∃ wo, wo = wr := ⟨_, rfl⟩
    by_cases hlt : k < q
    · have hlt' : (k : Int) + 1 ≤ q := by omega
      obtain ⟨b, hb⟩ : ∃ b, l[k]? = some b := ⟨l[k]'(by have := hB.out.len; omega), List.getElem?_eq_getElem _⟩
      obtain ⟨A2, hA2, hs2⟩ := slice_mid .i64 .i64 A' q c' k (k + 1) (by omega) (by omega) hqc
      have kb : ∀ w' : World, Below w.heap.size w w' → (convert 28 9 (.slice A2 1 (c' - k))).run Tryd.prog w' = .ok (.string ⟨#[b]⟩) w' := fun w' hw => by
        have h1 := hA2 w' B0 l (hB.out.below (below_le hw HB0.out))
        have e : (l.drop k).take (k + 1 - k) = [b] := by
          obtain ⟨hkl, e1⟩ := List.getElem?_eq_some_iff.1 hb
          rw [List.drop_eq_getElem_cons hkl, e1, show k + 1 - k = 1 by omega]; rfl
        rw [e, show k + 1 - k = 1 by omega] at h1
        exact text_of_bytes h1
      rw [show k + 1 - k = 1 by omega] at hs2
      have hs3 : ∀ w', (Instr.sliceAt 28 (.slice A' q c') (some (.int .i64 (k : Int))) (some (.int .i64 ((k : Int) + 1))) none).run Tryd.prog w' = .ok (.slice A2 1 (c' - k)) w' := fun w' => by have := hs2 w'; rwa [Int.natCast_add, Int.natCast_one] at this
      have kb' := kb wo hW.out
      have ks' := ks.out wo hW.out
      have hb0 : ∀ n, Below w.heap.size w (wo.drewN n) := fun n => ⟨hW.out.os, hW.out.tape, hW.out.output, hW.out.size, hW.out.block⟩
      have kbn := fun n => kb (wo.drewN n) (hb0 n)
      have ksn := fun n => ks.out (wo.drewN n) (hb0 n)
      have HBB := hid hb
      clear hA2 kb hb hb0 hs2
      go_wp2_with fail
      go_quiet (fail)
      have hOn := own_drewN hO.out nq
      have hWn := below_drewNx hW.out nq
      generalize wo.drewN nq = wx at *
      have hOx := hid hOn
      have hWx := hid hWn
      clear hOn hWn hO hW kb' ks' kbn ksn hs3
      cases hbc : (b == c) with
      | true =>
        have hbe : b = c := eq_of_beq hbc
        have HF := hid (find_at hT.out (by rw [← hbe]; exact HBB.out))
        clear hbc hbe
        have hkl : k ≤ q := by omega
        obtain ⟨A3, hA3, hs5⟩ := slice_cut .i64 .i64 A' q c' k hkl hqc
        obtain ⟨A4, hA4, hs6⟩ := slice_from .i64 A' q c' (k + 1) (by omega)
        have hs7 : ∀ w', (Instr.sliceAt 28 (.slice A' q c') (some (.int .i64 ((k : Int) + 1))) none none).run Tryd.prog w' = .ok (.slice A4 (q - (k + 1)) (c' - (k + 1))) w' := fun w' => by have := hs6 w'; rwa [Int.natCast_add, Int.natCast_one] at this
        have hsz := hWx.out.size
        have HA3 := hid (rowB_cut (hA3 w B0 l hB.out))
        have HA4 := hid (hA4 w B0 l hB.out hqc)
        clear hs6 hA3 hA4
        go_wp2_with (first
          | (at_builtin; refine wpList_append_own _ rfl _ _ 79 rfl (w.heap.size) 28 i0 (.slice none 0 0) 1 24 Tryd.underlying79 hi hz0 hz1 hz2 rfl (by decide) _ _ _ rfl (hOx.out.alloc _) ⟨wx.heap.size, 0, none⟩ 1 1 [.slice A3 k k] rfl rfl (by exact cell_one_new _ _ _) (by intro u hu; simp at hu; subst hu; rfl) (by unfold maxLen; omega) (by omega) (by simp; omega) ?_; intro v1 w1 h1 h2 h3; have HO1 := hid h1; have HW1 := hid ((hWx.out.alloc hsz _).grown h2 (by simp; omega) (fun k hk => (hOx.out.lt k hk).1)); clear h1 h2 h3)
          | fail)
        have HL := hid (show dn.length + (1 + (q - (k + 1))) ≤ n by omega)
        go_roundw
        case rel =>
          refine ⟨q - (k + 1), c' - (k + 1), 0, A4, l.drop (k + 1), dn ++ [l.take k], vs ++ [.slice A3 k k], rfl, rfl, by omega, by omega, by have := HL.out; simp; omega, HA4, hid ?_, hid (by simp), hid (by simpa using HO1.out), hid (hR.out.snoc HA3.out), HW1⟩
          rw [hP.out, pieces_some c l k HF.out]; simp
        case measure => simp [RowKit.intOf, lenOf]; omega
      | false =>
        have hT2 := hid (take_next hT.out HBB.out (by simpa using hbc))
        clear hbc
        go_wp2_with fail
        go_roundw
        case rel => exact ⟨q, c', k + 1, A', l, dn, vs, rfl, by go_num, hqc, by omega, hdn, hB, hP, hT2, hOx, hR, hWx⟩
        case measure => simp [RowKit.intOf, lenOf]; omega
    · have hlt' : ¬ (k : Int) + 1 ≤ q := by omega
      have hkq2 : k = q := by omega
      have hsz := hW.out.size
      have HF := hid (show pieces c l = [l] from pieces_alone c l (by have h1 := hT.out; rwa [List.take_of_length_le (by have := hB.out.len; omega)] at h1))
      go_wp2_with (first
        | (at_builtin; refine wpList_append_own _ rfl _ _ 79 rfl (w.heap.size) 28 i0 (.slice none 0 0) 1 24 Tryd.underlying79 hi hz0 hz1 hz2 rfl (by decide) _ _ _ rfl (hO.out.alloc _) ⟨wo.heap.size, 0, none⟩ 1 1 [.slice A' q c'] rfl rfl (by exact cell_one_new _ _ _) (by intro u hu; simp at hu; subst hu; rfl) (by unfold maxLen; omega) (by omega) (by simp; omega) ?_; intro v1 w1 h1 h2 h3; have HO1 := hid h1; have HW1 := hid ((hW.out.alloc hsz _).grown h2 (by simp; omega) (fun k hk => (hO.out.lt k hk).1)); clear h1 h2 h3)
        | fail)
      go_ret
      refine ⟨HW1.out, v1, vs ++ [.slice A' q c'], rfl, ?_, ?_⟩
      · rw [hP.out, HF.out]; simpa using HO1.out
      · rw [hP.out, HF.out]; exact hR.out.snoc (rowB_any hB.out hqc)
/-- in two at the first c, if there is one -/
def cutAt (c : UInt8) (s : List UInt8) : List (List UInt8) := match find [c] s with | some i => [s.take i, s.drop (i + 1)] | none => [s]
theorem cutAt_is (s : List UInt8) : cutAt 61 s = cut2 s := rfl
theorem find_none {c : UInt8} {n : List UInt8} (hn : ∀ x ∈ n, x ≠ c) : find [c] n = none := by
  induction n with
  | nil => rw [find]; simp
  | cons x n ih => rw [find_one, if_neg (hn x (by simp)), ih fun y hy => hn y (by simp [hy])]; rfl
theorem own_form {w : World} {B n s : Nat} {e : TypeId} {v : Value} {vs : List Value} (h : w.ownsRow B e s v n vs) : ∃ A c, v = .slice A n c := by
  rcases id h with ⟨hl, ⟨rfl, h0⟩ | ⟨g, cap, cur, rfl, _⟩⟩
  · exact ⟨_, _, by rw [h0]⟩
  · exact ⟨_, _, rfl⟩
set_option maxRecDepth 100000 in
set_option maxHeartbeats 4000000 in
theorem splitTwo_calls (B0 : Nat) (A : Option Addr) (n d e0 : Nat) (As : Option Addr) (c : UInt8) (L : List UInt8) (w : World) (hB0 : B0 ≤ w.heap.size) (h : Bytes w B0 A n L) (hd : n ≤ d) (hn : n ≤ 1000000) (hs : Bytes w w.heap.size As 1 [c]) :
    Calls Tryd.prog 70 #[.slice A n d, .slice As 1 e0, .int .i64 2] w (Split B0 (cutAt c L) w) := by
  obtain ⟨i0, hi, hz0, hz1, hz2⟩ := info_parts infoRow
  have ks := hid (fun (w' : World) (hb : Below w.heap.size w w') => text_of_bytes (c := e0) (hs.below hb))
  have HB := hid h
  have HB0 := hid hB0
  clear h hs hB0
  go_enter Tryd.func70, Tryd.ntmps70
  go_wp2_with fail
  go_loopw [0, 7, 8] (fun s out iv wr => ∃ (q c' k : Nat) (A' : Option Addr) (l : List UInt8) (dn : List (List UInt8)) (vs : List Value), s = .slice A' q c' ∧ iv = .int .i64 k ∧ q ≤ c' ∧ k ≤ q ∧ dn.length + q ≤ n ∧
    Hid (Bytes w B0 A' q l) ∧ Hid (dn = [] ∧ l = L ∨ ∃ f, dn = [f] ∧ k = 0 ∧ cutAt c L = [f, l]) ∧ Hid (∀ x ∈ l.take k, x ≠ c) ∧ Hid (wr.ownsRow w.heap.size 28 1 out dn.length vs) ∧ Hid (All2 (RowB w B0) vs dn) ∧ Hid (Below w.heap.size w wr)) (fun s _ iv _ => lenOf s - (RowKit.intOf iv).toNat)
  case atStart => exact ⟨n, d, 0, A, L, [], [], rfl, rfl, hd, by omega, by simp, HB, hid (.inl ⟨rfl, rfl⟩), hid (by simp), hid ⟨rfl, .inl ⟨rfl, rfl⟩⟩, hid .nil, hid (Below.refl _ _)⟩
  case round =>
    obtain ⟨q, c', k, A', l, dn, vs, rfl, rfl, hqc, hkq, hdn, hB, hP, hT, hO, hR, hW⟩ := hrel
    obtain ⟨wo, rfl⟩ : ∃ wo, wo = wr := ⟨_, rfl⟩
    obtain ⟨Ao, co, rfl⟩ := own_form hO.out
    by_cases hlt : k < q ∧ dn = []
    · obtain ⟨hlt, hd0⟩ := hlt
      subst hd0
      obtain rfl : l = L := by rcases hP.out with h | ⟨f, h, _⟩; exact h.2; cases h
      clear hP
      have hlt' : (k : Int) + 1 ≤ q := by omega
      obtain ⟨b, hb⟩ : ∃ b, l[k]? = some b := ⟨l[k]'(by have := hB.out.len; omega), List.getElem?_eq_getElem _⟩
      obtain ⟨A2, hA2, hs2⟩ := slice_mid .i64 .i64 A' q c' k (k + 1) (by omega) (by omega) hqc
      have kb : ∀ w' : World, Below w.heap.size w w' → (convert 28 9 (.slice A2 1 (c' - k))).run Tryd.prog w' = .ok (.string ⟨#[b]⟩) w' := fun w' hw => by
        have h1 := hA2 w' B0 l (hB.out.below (below_le hw HB0.out))
        have e : (l.drop k).take (k + 1 - k) = [b] := by
          obtain ⟨hkl, e1⟩ := List.getElem?_eq_some_iff.1 hb
          rw [List.drop_eq_getElem_cons hkl, e1, show k + 1 - k = 1 by omega]; rfl
        rw [e, show k + 1 - k = 1 by omega] at h1
        exact text_of_bytes h1
      rw [show k + 1 - k = 1 by omega] at hs2
      have hs3 : ∀ w', (Instr.sliceAt 28 (.slice A' q c') (some (.int .i64 (k : Int))) (some (.int .i64 ((k : Int) + 1))) none).run Tryd.prog w' = .ok (.slice A2 1 (c' - k)) w' := fun w' => by have := hs2 w'; rwa [Int.natCast_add, Int.natCast_one] at this
      have kb' := kb wo hW.out
      have ks' := ks.out wo hW.out
      have hb0 : ∀ n, Below w.heap.size w (wo.drewN n) := fun n => ⟨hW.out.os, hW.out.tape, hW.out.output, hW.out.size, hW.out.block⟩
      have kbn := fun n => kb (wo.drewN n) (hb0 n)
      have ksn := fun n => ks.out (wo.drewN n) (hb0 n)
      have HBB := hid hb
      clear hA2 kb hb hb0 hs2
      go_wp2_with fail
      go_quiet (fail)
      have hOn := own_drewN hO.out nq
      have hWn := below_drewNx hW.out nq
      generalize wo.drewN nq = wx at *
      have hOx := hid hOn
      have hWx := hid hWn
      clear hOn hWn hO hW kb' ks' kbn ksn hs3
      cases hbc : (b == c) with
      | true =>
        have hbe : b = c := eq_of_beq hbc
        have HF := hid (find_at hT.out (by rw [← hbe]; exact HBB.out))
        clear hbc hbe
        have hkl : k ≤ q := by omega
        obtain ⟨A3, hA3, hs5⟩ := slice_cut .i64 .i64 A' q c' k hkl hqc
        obtain ⟨A4, hA4, hs6⟩ := slice_from .i64 A' q c' (k + 1) (by omega)
        have hs7 : ∀ w', (Instr.sliceAt 28 (.slice A' q c') (some (.int .i64 ((k : Int) + 1))) none none).run Tryd.prog w' = .ok (.slice A4 (q - (k + 1)) (c' - (k + 1))) w' := fun w' => by have := hs6 w'; rwa [Int.natCast_add, Int.natCast_one] at this
        have hsz := hWx.out.size
        have HA3 := hid (rowB_cut (hA3 w B0 l hB.out))
        have HA4 := hid (hA4 w B0 l hB.out hqc)
        clear hs6 hA3 hA4
        go_wp2_with (first
          | (at_builtin; refine wpList_append_own _ rfl _ _ 79 rfl (w.heap.size) 28 i0 (.slice none 0 0) 1 24 Tryd.underlying79 hi hz0 hz1 hz2 rfl (by decide) _ _ _ rfl (hOx.out.alloc _) ⟨wx.heap.size, 0, none⟩ 1 1 [.slice A3 k k] rfl rfl (by exact cell_one_new _ _ _) (by intro u hu; simp at hu; subst hu; rfl) (by unfold maxLen; omega) (by omega) (by simp; omega) ?_; intro v1 w1 h1 h2 h3; have HO1 := hid h1; have HW1 := hid ((hWx.out.alloc hsz _).grown h2 (by simp; omega) (fun k hk => (hOx.out.lt k hk).1)); clear h1 h2 h3)
          | fail)
        have HL := hid (show 0 + (1 + (q - (k + 1))) ≤ n by simp at hdn; omega)
        go_roundw
        case rel =>
          refine ⟨q - (k + 1), c' - (k + 1), 0, A4, l.drop (k + 1), [] ++ [l.take k], vs ++ [.slice A3 k k], rfl, rfl, by omega, by omega, by have := HL.out; simp; omega, HA4, hid (.inr ⟨l.take k, rfl, rfl, ?_⟩), hid (by simp), hid (by simpa using HO1.out), hid (hR.out.snoc HA3.out), HW1⟩
          unfold cutAt; rw [HF.out]
        case measure => simp [RowKit.intOf, lenOf]; omega
      | false =>
        have hT2 := hid (take_next hT.out HBB.out (by simpa using hbc))
        clear hbc
        go_wp2_with fail
        go_roundw
        case rel => exact ⟨q, c', k + 1, A', l, [], vs, rfl, by go_num, hqc, by omega, hdn, hB, hid (.inl ⟨rfl, rfl⟩), hT2, hOx, hR, hWx⟩
        case measure => simp [RowKit.intOf, lenOf]; omega
    · have hsz := hW.out.size
      have HF : Hid (cutAt c L = dn ++ [l]) := hid (by
        rcases hP.out with ⟨h1, h2⟩ | ⟨f, h1, h2, h3⟩
        · subst h1 h2
          have hkq2 : ¬ k < q := fun h => hlt ⟨h, rfl⟩
          have h4 : find [c] l = none := find_none (by have h1 := hT.out; rwa [List.take_of_length_le (by have := hB.out.len; omega)] at h1)
          unfold cutAt; rw [h4]; rfl
        · rw [h1, h3]; rfl)
      have hdn2 : dn.length ≤ 1 := by rcases hP.out with ⟨h1, h2⟩ | ⟨f, h1, h2, h3⟩ <;> simp [h1]
      by_cases hk1 : k < q
      · have hd1 : dn.length = 1 := by rcases hP.out with ⟨h1, h2⟩ | ⟨f, h1, h2, h3⟩; exact absurd ⟨hk1, h1⟩ hlt; simp [h1]
        have hk1' : (k : Int) + 1 ≤ q := by omega
        obtain ⟨m, hm⟩ : ∃ m, m = dn.length := ⟨_, rfl⟩
        rw [← hm] at hO hd1 hdn ⊢
        subst hd1
        have HM := hid hm
        clear hm hlt hdn2
        go_wp2_with (first
          | (at_builtin; refine wpList_append_own _ rfl _ _ 79 rfl (w.heap.size) 28 i0 (.slice none 0 0) 1 24 Tryd.underlying79 hi hz0 hz1 hz2 rfl (by decide) _ _ _ rfl (hO.out.alloc _) ⟨wo.heap.size, 0, none⟩ 1 1 [.slice A' q c'] rfl rfl (by exact cell_one_new _ _ _) (by intro u hu; simp at hu; subst hu; rfl) (by unfold maxLen; omega) (by omega) (by simp; omega) ?_; intro v1 w1 h1 h2 h3; have HO1 := hid h1; have HW1 := hid ((hW.out.alloc hsz _).grown h2 (by simp; omega) (fun k hk => (hO.out.lt k hk).1)); clear h1 h2 h3)
          | fail)
        go_ret
        refine ⟨HW1.out, v1, vs ++ [.slice A' q c'], rfl, ?_, ?_⟩
        · rw [HF.out]; simp only [List.length_append, List.length_cons, List.length_nil, ← HM.out]; exact HO1.out
        · rw [HF.out]; exact hR.out.snoc (rowB_any hB.out hqc)
      · have hk1' : ¬ (k : Int) + 1 ≤ q := by omega
        clear hlt
        go_wp2_with (first
          | (at_builtin; refine wpList_append_own _ rfl _ _ 79 rfl (w.heap.size) 28 i0 (.slice none 0 0) 1 24 Tryd.underlying79 hi hz0 hz1 hz2 rfl (by decide) _ _ _ rfl (hO.out.alloc _) ⟨wo.heap.size, 0, none⟩ 1 1 [.slice A' q c'] rfl rfl (by exact cell_one_new _ _ _) (by intro u hu; simp at hu; subst hu; rfl) (by unfold maxLen; omega) (by omega) (by simp; omega) ?_; intro v1 w1 h1 h2 h3; have HO1 := hid h1; have HW1 := hid ((hW.out.alloc hsz _).grown h2 (by simp; omega) (fun k hk => (hO.out.lt k hk).1)); clear h1 h2 h3)
          | fail)
        go_ret
        refine ⟨HW1.out, v1, vs ++ [.slice A' q c'], rfl, ?_, ?_⟩
        · rw [HF.out]; simpa using HO1.out
        · rw [HF.out]; exact hR.out.snoc (rowB_any hB.out hqc)
end Go.Proofs.YtoihglnamclhfaaDoor.cap
