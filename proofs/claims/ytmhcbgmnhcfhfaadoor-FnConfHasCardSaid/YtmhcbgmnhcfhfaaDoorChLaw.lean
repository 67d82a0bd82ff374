/- FnConfHas, walked. -/
import Derived.Test.YtmhcbgmnhcfhfaaDoorChImpl
import Derived.Test.YtmhcbgmnhcfhfaaDoorChOpen
set_option linter.unusedVariables false
attribute [local go_sem ↓] Go.wp_at_zero Go.wp_at_succ
namespace Go.Proofs.YtmhcbgmnhcfhfaaDoor.cf
open Go.RowKit Lib mem opn frm strs Go.WideShapes Go.ChangeShapes Go.ChangeAt

/-- what cfAre tells -/
structure CfOk (xs : List SecD) (t u key : ByteArray) : Prop where
  s : SecsOk2 xs true
  t : WordOk t
  u : (u.toList == []) = true ∨ WordOk u
  k : WordOk key
set_option maxRecDepth 100000 in
set_option maxHeartbeats 8000000 in
theorem cfAre_calls (B : Nat) (v : Value) (xs : List SecD) (t u key val : ByteArray) (w : World) (h : SecSl w B v xs) (hB : B ≤ w.heap.size) (hl : LimSs 2147483647 xs) (ht : t.size ≤ 2147483647) (hu : u.size ≤ 2147483647) (hk : key.size ≤ 2147483647) (hv : val.size ≤ 2147483647) :
    Calls Tryd.prog 10 #[v, .string t, .string u, .string key, .string val] w (Told w (If (CfOk xs t u key))) := by
  have c1 := hid (areSections2_calls B v xs w h hB (by have := hl.1; omega) (fun s hs => few_lim (hl.2 s hs)) (fun s hs => short_lim (hl.2 s hs)))
  have ct := hid (fun w => isConfWord_calls t w (by omega))
  have cu := hid (fun w => isConfWord_calls u w (by omega))
  have ck := hid (fun w => isConfWord_calls key w (by omega))
  have cv := hid (fun w => isValue_calls val w (by omega))
  clear h hB hl ht hu hk hv
  by_cases hu0 : (u.toList == []) = true
  all_goals
    first | have hu1 : (u.toList == []) = true := hu0 | have hu1 : (u.toList == []) = false := by simpa using hu0
    have HU0 := hid hu1
    clear hu0
    go_enter Tryd.func10, Tryd.ntmps10
    go_wp2_with fail
    refine c1.out.mono ?_
    rintro e w1 ⟨hk1, b, rfl, hb⟩
    have HK1 := hid hk1
    have HS := hid hb
    clear hk1 hb
    cases b
    · go_wp2_with fail
      go_ret
      exact ⟨HK1.out, _, rfl, nofun⟩
    go_wp2_with fail
    refine (ct.out _).mono ?_
    rintro e w2 ⟨rfl, b, rfl, hb⟩
    have HTT := hid hb
    clear hb
    cases b
    · go_wp2_with fail
      go_ret
      exact ⟨HK1.out, _, rfl, nofun⟩
    go_wp2_with fail
  · refine (ck.out _).mono ?_
    rintro e w2 ⟨rfl, b, rfl, hb⟩
    have HKK := hid hb
    clear hb
    cases b
    · go_wp2_with fail
      go_ret
      exact ⟨HK1.out, _, rfl, nofun⟩
    go_wp2_with fail
    refine (cv.out _).mono ?_
    rintro e w2 ⟨rfl, b, rfl, hb⟩
    clear hb
    cases b
    · go_wp2_with fail
      go_ret
      exact ⟨HK1.out, _, rfl, nofun⟩
    go_wp2_with fail
    go_ret
    exact ⟨HK1.out, _, rfl, fun _ => ⟨HS.out, HTT.out trivial, .inl HU0.out, HKK.out trivial⟩⟩
  · refine (cu.out _).mono ?_
    rintro e w2 ⟨rfl, b, rfl, hb⟩
    have HUU := hid hb
    clear hb
    cases b
    · go_wp2_with fail
      go_ret
      exact ⟨HK1.out, _, rfl, nofun⟩
    go_wp2_with fail
    refine (ck.out _).mono ?_
    rintro e w2 ⟨rfl, b, rfl, hb⟩
    have HKK := hid hb
    clear hb
    cases b
    · go_wp2_with fail
      go_ret
      exact ⟨HK1.out, _, rfl, nofun⟩
    go_wp2_with fail
    refine (cv.out _).mono ?_
    rintro e w2 ⟨rfl, b, rfl, hb⟩
    clear hb
    cases b
    · go_wp2_with fail
      go_ret
      exact ⟨HK1.out, _, rfl, nofun⟩
    go_wp2_with fail
    go_ret
    exact ⟨HK1.out, _, rfl, fun _ => ⟨HS.out, HTT.out trivial, .inr (HUU.out trivial), HKK.out trivial⟩⟩
def Yes (w : World) (e : Ending) (w' : World) : Prop := e = .returned (.bool true) ∧ Below w.heap.size w w'
/-- some part of a section t of the list has the name u -/
def HasPart (xs : List SecD) (t u : ByteArray) : Prop := ∃ s ∈ xs, s.name = t ∧ ∃ x ∈ s.subs, x.name = u
theorem has_snoc {α : Type} {F : α → Prop} {xs : List α} {k : Nat} {x : α} (hx : xs[k]? = some x) : (∃ s ∈ xs.take (k + 1), F s) ↔ ((∃ s ∈ xs.take k, F s) ∨ F x) := by
  rw [take_snoc hx]
  constructor
  · rintro ⟨s, hs, h⟩
    rcases List.mem_append.1 hs with hs | hs
    · exact .inl ⟨s, hs, h⟩
    · simp at hs; subst hs; exact .inr h
  · rintro (⟨s, hs, h⟩ | h)
    · exact ⟨s, List.mem_append.2 (.inl hs), h⟩
    · exact ⟨x, by simp, h⟩
attribute [local go_sem] OptD.cells SubD.cells SecD.cells
set_option maxRecDepth 100000 in
set_option maxHeartbeats 16000000 in
theorem law_calls (v : Value) (xs : List SecD) (t u key val : ByteArray) (w : World) (h : SecSl w w.heap.size v xs) (hl : LimSs 140737488355328 xs) (ht : t.size ≤ 140737488355328) (hu : u.size ≤ 140737488355328) (hk : key.size ≤ 140737488355328) (hv : val.size ≤ 140737488355328) :
    Calls Tryd.prog 4 #[v, .string t, .string u, .string key, .string val] w (Yes w) := by
  have c1 := hid (zfits1_calls w.heap.size v xs w h (Nat.le_refl _) hl)
  have HSL := hid h
  obtain ⟨A, c, rfl, hcap, hF, hS⟩ := h
  have HF := hid hF
  have HS := hid hS
  have hcap' : (xs.length : Int) ≤ c := by omega
  have hn0 : (xs.length : Int) ≤ 140737488355328 := by have := hl.1; omega
  have ht0 : (t.size : Int) ≤ 140737488355328 := by omega
  have hu0 : (u.size : Int) ≤ 140737488355328 := by omega
  have hk0 : (key.size : Int) ≤ 140737488355328 := by omega
  have hv0 : (val.size : Int) ≤ 140737488355328 := by omega
  clear hF hS hl hcap ht hu hk hv
  by_cases h1 : t.size ≤ 2147483647
  case neg =>
    have h1' : (2147483647 : Int) < t.size := by omega
    go_enter Tryd.func4, Tryd.ntmps4
    go_wp2_with fail
    refine c1.out.mono ?_
    rintro e w1 ⟨hk1, b, rfl, -⟩
    have HK1 := hid hk1
    clear hk1
    cases b <;>
    · go_wp2_with fail
      go_ret
      exact ⟨rfl, HK1.out.nil_below⟩
  have h1' : (t.size : Int) ≤ 2147483647 := by omega
  by_cases h2 : u.size ≤ 2147483647
  case neg =>
    have h2' : (2147483647 : Int) < u.size := by omega
    go_enter Tryd.func4, Tryd.ntmps4
    go_wp2_with fail
    refine c1.out.mono ?_
    rintro e w1 ⟨hk1, b, rfl, -⟩
    have HK1 := hid hk1
    clear hk1
    cases b <;>
    · go_wp2_with fail
      go_ret
      exact ⟨rfl, HK1.out.nil_below⟩
  have h2' : (u.size : Int) ≤ 2147483647 := by omega
  by_cases h3 : key.size ≤ 2147483647
  case neg =>
    have h3' : (2147483647 : Int) < key.size := by omega
    go_enter Tryd.func4, Tryd.ntmps4
    go_wp2_with fail
    refine c1.out.mono ?_
    rintro e w1 ⟨hk1, b, rfl, -⟩
    have HK1 := hid hk1
    clear hk1
    cases b <;>
    · go_wp2_with fail
      go_ret
      exact ⟨rfl, HK1.out.nil_below⟩
  have h3' : (key.size : Int) ≤ 2147483647 := by omega
  by_cases h4 : val.size ≤ 2147483647
  case neg =>
    have h4' : (2147483647 : Int) < val.size := by omega
    go_enter Tryd.func4, Tryd.ntmps4
    go_wp2_with fail
    refine c1.out.mono ?_
    rintro e w1 ⟨hk1, b, rfl, -⟩
    have HK1 := hid hk1
    clear hk1
    cases b <;>
    · go_wp2_with fail
      go_ret
      exact ⟨rfl, HK1.out.nil_below⟩
  have h4' : (val.size : Int) ≤ 2147483647 := by omega
  have HZ := hid (And.intro h1 (And.intro h2 (And.intro h3 h4)))
  clear h1 h2 h3 h4
  go_enter Tryd.func4, Tryd.ntmps4
  go_wp2_with fail
  refine c1.out.mono ?_
  rintro e w1 ⟨hk1, b, rfl, hb⟩
  have HK1 := hid hk1
  cases b with
  | false =>
    clear hk1 hb
    go_wp2_with fail
    go_ret
    exact ⟨rfl, HK1.out.nil_below⟩
  | true =>
  have HL := hid (hb rfl)
  clear hk1 hb c1
  have c2 := hid (cfAre_calls w.heap.size _ xs t u key val w1 (HSL.out.below HK1.out.nil_below) HK1.out.size HL.out HZ.out.1 HZ.out.2.1 HZ.out.2.2.1 HZ.out.2.2.2)
  go_wp2_with fail
  refine c2.out.mono ?_
  rintro e w2 ⟨hk2, b, rfl, hb⟩
  have HK2 := hid (HK1.out.trans_ hk2)
  cases b with
  | false =>
    clear hk2 hb c2
    go_wp2_with fail
    go_ret
    exact ⟨rfl, HK2.out.nil_below⟩
  | true =>
  have HOK := hid (hb rfl)
  clear hk2 hb c2
  by_cases hu1 : (u.toList == []) = true
  · go_wp2_with fail
    go_ret
    exact ⟨rfl, HK2.out.nil_below⟩
  have hu2 : (u.toList == []) = false := by simpa using hu1
  have HU2 := hid hu2
  clear hu1
  obtain ⟨n, hnn⟩ : ∃ n, n = xs.length := ⟨_, rfl⟩
  have HN := hid hnn
  have HNB := hid HL.out.1
  rw [← hnn] at HF hn0 hcap' HNB ⊢
  clear hnn
  go_wp2_with fail
  clear hu2
  go_loopw [11, 12, 57] (fun tv pv iv wr => ∃ (k : Nat) (b1 b2 : Bool), k ≤ n ∧ iv = .int .i64 k ∧ tv = .bool b1 ∧ pv = .bool b2 ∧ Hid (Kept [] w wr) ∧ Hid (b1 = true ↔ ∃ s ∈ xs.take k, s.name = t) ∧ Hid (b2 = true ↔ HasPart (xs.take k) t u)) (fun _ _ iv _ => n - (RowKit.intOf iv).toNat)
  case atStart => exact ⟨0, false, false, by omega, rfl, rfl, rfl, HK2, hid (by simp), hid (by simp [HasPart])⟩
  case round =>
    obtain ⟨k, b1, b2, hk, rfl, rfl, rfl, hK, hA, hP⟩ := hrel
    obtain ⟨wo, rfl⟩ : ∃ wo, wo = wr := ⟨_, rfl⟩
    by_cases hlt : k < n
    · obtain ⟨g, o, x, rfl, hg, hxk, hmem, hR⟩ := at_kept HF.out SecD.len hK.out (Nat.le_refl _) hlt
      have HR := hid hR
      have HX := hid hxk
      have HS2 := hid (HS.out x hmem)
      have HLU := hid (HL.out.2 x hmem).2.2.1
      have HOne := hid (And.intro (OptSl.one HS2.out.1) (SubSl.one HS2.out.2))
      obtain ⟨D, d, hsv, hdc, hSu, hSo⟩ := HS2.out.2
      obtain ⟨m, hmm⟩ : ∃ m, m = x.subs.length := ⟨_, rfl⟩
      rw [← hmm] at hsv hdc hSu HLU
      have HSU := hid hSu
      have HSO := hid hSo
      have HMM := hid hmm
      have HSV := hid hsv
      have hm0 : (m : Int) ≤ 2147483647 := by have := HLU.out; omega
      have hlt' : (k : Int) < n := by omega
      clear hR hxk hg hmem hsv hdc hSu hSo hmm
      by_cases hnm : (x.name.toList == t.toList) = true
      all_goals
        first | have hnm1 : (x.name.toList == t.toList) = true := hnm | have hnm1 : (x.name.toList == t.toList) = false := by simpa using hnm
        have HNM := hid hnm1
        clear hnm
        go_wp2_with (first
          | (refine wpList_load_mid rfl Sty (.tmp 59) rfl g (o + k * 3) rfl x.cells _ HR.out Tryd.underlying34 rfl infoS ?_)
          | (refine wpList_store_kept rfl Sty (.tmp 14) (.tmp 60) rfl wo.heap.size x.cells.toArray rfl rfl Sty _ (Blk.new wo Sty _) (sec_sz x) rfl (sec_all x HOne.out.1 HOne.out.2) ?_; intro w4 h1 h2 h3; have q0 : w4.cell? ⟨wo.heap.size, 0, none⟩ = some (.string x.name) := h1.out.cell 0 rfl; have q2 : w4.cell? ⟨wo.heap.size, 2, none⟩ = some (.slice D m d) := (by rw [← HSV.out]; exact h1.out.cell 2 rfl); have HK4 : Hid (Kept [] w w4) := hid ((hK.out.alloc _).trans h2.out (by simp; exact hK.out.size)); clear h1 h2 h3)
          | fail)
      · clear q0 q2
        go_loopw [12, 68] (fun pv jv wr => ∃ (q : Nat) (b3 : Bool), q ≤ m ∧ jv = .int .i64 q ∧ pv = .bool b3 ∧ Hid (Kept [] w wr) ∧ Hid (b3 = true ↔ (HasPart (xs.take k) t u ∨ ∃ y ∈ x.subs.take q, y.name = u))) (fun _ jv _ => m - (RowKit.intOf jv).toNat)
        case atStart => exact ⟨0, b2, by omega, rfl, rfl, HK4, hid (by rw [hP.out]; simp)⟩
        case round =>
          obtain ⟨q, b3, hq, rfl, rfl, hK5, hQ⟩ := hrel
          obtain ⟨wq, rfl⟩ : ∃ wq, wq = wr := ⟨_, rfl⟩
          by_cases hqm : q < m
          · obtain ⟨g3, o3, y, rfl, hg3, hyk, hymem, hR3⟩ := at_kept HSU.out SubD.len hK5.out (Nat.le_refl _) hqm
            have HR3 := hid hR3
            have HY := hid hyk
            have HOy := hid (OptSl.one (HSO.out y hymem))
            have hqm' : (q : Int) < m := by omega
            clear hR3 hyk hg3 hymem
            cases b3
            all_goals
              go_wp2_with (first
                | (refine wpList_load_mid rfl Uty (.tmp 70) rfl g3 (o3 + q * 2) rfl y.cells _ HR3.out Tryd.underlying36 rfl infoU ?_)
                | (refine wpList_store_kept rfl Uty (.tmp 16) (.tmp 71) rfl wq.heap.size y.cells.toArray rfl rfl Uty _ (Blk.new wq Uty _) (sub_sz y) rfl (sub_all y HOy.out) ?_; intro w6 h1 h2 h3; have r0 : w6.cell? ⟨wq.heap.size, 0, none⟩ = some (.string y.name) := h1.out.cell 0 rfl; have HK6 : Hid (Kept [] w w6) := hid ((hK5.out.alloc _).trans h2.out (by simp; exact hK5.out.size)); clear h1 h2 h3)
                | fail)
              clear r0
            · have hQ2 : Hid ((y.name.toList == u.toList) = true ↔ (HasPart (xs.take k) t u ∨ ∃ y ∈ x.subs.take (q + 1), y.name = u)) := hid (by
                have h9 := hQ.out
                have hn : ¬ (HasPart (xs.take k) t u ∨ ∃ y ∈ x.subs.take q, y.name = u) := fun h => by have := h9.2 h; cases this
                rw [has_snoc HY.out, str_eq, decide_eq_true_iff]
                constructor
                · exact fun h => .inr (.inr h)
                · rintro (h | h | h)
                  · exact absurd (.inl h) hn
                  · exact absurd (.inr h) hn
                  · exact h)
              go_roundw
              case rel => exact ⟨q + 1, _, by omega, by go_num, rfl, HK6, hQ2⟩
              case measure => simp [RowKit.intOf]; omega
            · have hQ2 : Hid (true = true ↔ (HasPart (xs.take k) t u ∨ ∃ y ∈ x.subs.take (q + 1), y.name = u)) := hid (by
                have := hQ.out
                rw [has_snoc HY.out]
                simp only [true_iff] at this ⊢
                rcases this with h | h
                · exact .inl h
                · exact .inr (.inl h))
              go_roundw
              case rel => exact ⟨q + 1, true, by omega, by go_num, rfl, HK6, hQ2⟩
              case measure => simp [RowKit.intOf]; omega
          · have hqm' : ¬ (q : Int) < m := by omega
            obtain rfl : q = m := by omega
            have hA2 : Hid (true = true ↔ ∃ s ∈ xs.take (k + 1), s.name = t) := hid (by
              rw [has_snoc HX.out]
              have : x.name = t := by have := HNM.out; rw [str_eq] at this; simpa using this
              simp [this])
            have hP2 : Hid (b3 = true ↔ HasPart (xs.take (k + 1)) t u) := hid (by
              have e : x.subs.take q = x.subs := List.take_of_length_le (by have := HMM.out; omega)
              have h9 := hQ.out
              rw [e] at h9
              unfold HasPart
              rw [has_snoc HX.out, h9]
              have : x.name = t := by have := HNM.out; rw [str_eq] at this; simpa using this
              simp [this, HasPart])
            go_wp2_with fail
            go_roundw
            case rel => exact ⟨k + 1, true, b3, by omega, by go_num, rfl, rfl, hK5, hA2, hP2⟩
            case measure => simp [RowKit.intOf]; omega
      · clear q0 q2
        have hA2 : Hid (b1 = true ↔ ∃ s ∈ xs.take (k + 1), s.name = t) := hid (by
          rw [has_snoc HX.out, ← hA.out]
          have : x.name ≠ t := by have := HNM.out; rw [str_eq] at this; simpa using this
          simp [this])
        have hP2 : Hid (b2 = true ↔ HasPart (xs.take (k + 1)) t u) := hid (by
          unfold HasPart
          rw [has_snoc HX.out, hP.out]
          have : x.name ≠ t := by have := HNM.out; rw [str_eq] at this; simpa using this
          simp [this, HasPart])
        go_roundw
        case rel => exact ⟨k + 1, b1, b2, by omega, by go_num, rfl, rfl, HK4, hA2, hP2⟩
        case measure => simp [RowKit.intOf]; omega
    · have hnl : ¬ (k : Int) < n := by omega
      have hkn : k = n := by omega
      obtain ⟨⟨hlen, hok, hdist⟩, hAx, hPx⟩ : (xs.length ≤ 100 ∧ (∀ s ∈ xs, SecOk s) ∧ DistTo xs xs.length) ∧ (b1 = true ↔ ∃ s ∈ xs, s.name = t) ∧ (b2 = true ↔ HasPart xs t u) := by
        refine ⟨HOK.out.s rfl, ?_⟩
        have e : xs.take k = xs := List.take_of_length_le (by have := HN.out; omega)
        have h8 := hA.out
        have h9 := hP.out
        rw [e] at h8 h9
        exact ⟨h8, h9⟩
      have HAX := hid hAx
      have HPX := hid hPx
      have c3 := hid (implHas_calls w.heap.size _ xs t u wo (HSL.out.below hK.out.nil_below) hK.out.size (by omega) (fun s hs => few_lim (HL.out.2 s hs)) (fun s hs => (hok s hs).n) HOK.out.t hdist (fun s hs => by have := (HL.out.2 s hs).2.2.1; omega))
      rw [← HN.out] at c3
      have c4 := hid (fun (w' : World) (hk : Kept [] w w') => implSet_calls w.heap.size _ xs t u key val w' (HSL.out.below hk.nil_below) hk.size HL.out HOK.out.s HOK.out.t HU2.out HOK.out.k)
      rw [← HN.out] at c4
      clear hlen hok hdist hAx hPx hA hP hlt hkn hk
      go_wp2_with fail
      refine c3.out.mono ?_
      rintro e w4 ⟨hk4, a, b, rfl, ha, hb⟩
      obtain rfl : a = b1 := by rw [Bool.eq_iff_iff]; exact ha.trans HAX.out.symm
      obtain rfl : b = b2 := by rw [Bool.eq_iff_iff]; exact hb.trans HPX.out.symm
      have HK4 := hid (hK.out.trans_ hk4)
      clear ha hb hk4 c3 HAX HPX hK
      go_wp2_with fail
      refine (c4.out _ HK4.out).mono ?_
      rintro e w5 ⟨v5, xs5, rfl, hb5, hN5⟩
      obtain ⟨A5, d5, hv5, _⟩ := id hN5.s
      subst hv5
      have HB5 : Hid (Below w.heap.size w w5) := hid (HK4.out.nil_below.trans ⟨hb5.os, hb5.tape, hb5.output, hb5.size, fun i hi => hb5.block i (by have := HK4.out.size; omega)⟩)
      have c5 := hid (implHas_calls w5.heap.size _ xs5 t u w5 hN5.s (Nat.le_refl _) hN5.n hN5.f hN5.w HOK.out.t hN5.d (fun s hs => (hN5.f s hs).u))
      have H5 := hid hN5.h
      clear c4 hb5 hN5
      go_wp2_with fail
      refine c5.out.mono ?_
      rintro e w6 ⟨hk6, a6, b6, rfl, ha, hb⟩
      obtain rfl : a6 = true := ha.2 (by obtain ⟨s, hs, h1, _⟩ := H5.out; exact ⟨s, hs, h1⟩)
      obtain rfl : b6 = true := hb.2 H5.out
      have HB6 : Hid (Below w.heap.size w w6) := hid (HB5.out.trans (below_kept hk6 HB5.out.size))
      clear ha hb hk6 c5 H5
      cases a <;> cases b <;>
      · go_wp2_with fail
        go_ret
        exact ⟨rfl, HB6.out⟩
end Go.Proofs.YtmhcbgmnhcfhfaaDoor.cf
