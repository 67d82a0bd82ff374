/- FnIgnoreBelow, FnIgnoreFront and FnIgnoreDomain answer true. -/
import Derived.Test.YtfanginpfppdeaaIgCall
set_option linter.unusedVariables false
namespace Go.Proofs.Ytfanginpfppdeaa.glob
open Go.RowKit Lib text strs mem searchIgnore

theorem one_name : Name [97] := by
  refine ⟨⟨?_, by decide, by decide, ?_⟩, by decide, by decide⟩
  · intro x hx
    simp at hx; subst hx
    exact .inl (by decide)
  · intro i h
    cases i with
    | zero => simp at h
    | succ i => simp at h
theorem res_none (P : List UInt8) (path : List (List UInt8)) (dir : Bool) (h : path ≠ []) : matchRes P [] path dir = if takes P path dir then 1 else 0 := by
  unfold matchRes
  have : 0 < path.length := by cases path with | nil => exact absurd rfl h | cons a l => simp
  simp [this]
theorem tiny : matchRes [97] [] [[97]] false = 1 := by decide
theorem tiny_body : bodyOf [97] = [97] := by decide
theorem tiny_has : has [47] (bodyOf [97]) = false := by decide
theorem tiny_pieces : pieces 47 (bodyOf [97]) = [[97]] := by decide
theorem lit_strs (w : World) : Strs (w.alloc (.cells #[.string ⟨#[97]⟩] 9)) (w.heap.size + 1) (some ⟨w.heap.size, 0, none⟩) 1 [[97]] := by
  refine ⟨⟨by simp [mem.strCells], fun _ => ⟨_, rfl, by show w.heap.size < _; omega, fun j u hu => ?_⟩⟩, fun _ => ⟨_, _, rfl⟩⟩
  rw [Lib.addr_add, Lib.cell_of_heap (heap_alloc_new w _)]
  simpa [mem.strCells, ofL] using hu
/-- what the reading of a pattern wants -/
structure Fit (P : List UInt8) : Prop where
  ne : P ≠ []
  len : P.length ≤ 1048576
  ok : ∀ x ∈ P, x ≠ 33 ∧ x ≠ 32 ∧ x ≠ 92
  pats : okPats (pieces 47 (bodyOf P))
  one : has [47] (bodyOf P) = false → Glob (bodyOf P)
theorem Fit.few {P : List UInt8} (h : Fit P) : (pieces 47 (bodyOf P)).length ≤ 1048577 := by
  have h1 := pieces_len 47 (bodyOf P)
  have h2 : (bodyOf P).length ≤ P.length := by unfold bodyOf; split <;> simp
  have := h.len
  omega
theorem fit_below {p : List UInt8} (h : Glob p) : Fit (p ++ [47, 42, 42]) := by
  have ht : tailed (p ++ [47, 42, 42]) = false := by unfold tailed; rw [List.getLast?_append]; rfl
  have hb : bodyOf (p ++ [47, 42, 42]) = p ++ [47, 42, 42] := by unfold bodyOf; rw [ht]; rfl
  refine ⟨by simp, by have := h.len; simp; omega, fun x hx => ?_, ?_, ?_⟩
  · rw [List.mem_append] at hx
    rcases hx with hx | hx
    · have := ok47 (h.ok x hx); exact ⟨this.2.2.2.2.1, this.2.2.2.2.2.1, this.2.2.1⟩
    · simp at hx
      rcases hx with rfl | rfl | rfl <;> decide
  · rw [hb, pieces_append 47 p [42, 42] (fun x hx => (ok47 (h.ok x hx)).1)]
    exact .inl ⟨h, .inr ⟨rfl, rfl⟩⟩
  · intro hh
    rw [hb, has_slash_mem _ (by simp)] at hh
    cases hh
theorem len_joined : ∀ (l : List (List UInt8)), (∀ x ∈ l, Glob x) → (joined l).length ≤ 41 * l.length := by
  intro l
  induction l with
  | nil => intro _; simp [joined]
  | cons p l ih =>
    intro h
    have hp := (h p (by simp)).len
    cases l with
    | nil => simp [joined]; omega
    | cons q l =>
      have := ih (fun y hy => h y (by simp [hy]))
      rw [joined, List.length_append, List.length_cons]
      simp only [List.length_cons] at this ⊢
      omega
theorem fit_joined {ps : List (List UInt8)} (folder : Bool) (h0 : ps ≠ []) (h100 : ps.length ≤ 100) (h : ∀ p ∈ ps, Glob p) : Fit (joined ps ++ tailOf folder) := by
  obtain ⟨e1, e2⟩ := body_joined ps folder h0 h
  have hl := len_joined ps h
  refine ⟨?_, ?_, fun x hx => ?_, ?_, ?_⟩
  · intro e
    obtain ⟨x, hx, _⟩ := joined_last ps h0 h
    rw [List.append_eq_nil_iff] at e
    rw [e.1] at hx; cases hx
  · have : (tailOf folder).length ≤ 1 := by unfold tailOf; split <;> simp
    rw [List.length_append]; omega
  · have : ∀ y : UInt8, okc y → y ≠ 33 ∧ y ≠ 32 ∧ y ≠ 92 := fun y hy => by have := ok47 hy; exact ⟨this.2.2.2.2.1, this.2.2.2.2.2.1, this.2.2.1⟩
    rw [List.mem_append] at hx
    rcases hx with hx | hx
    · rcases joined_mem ps x hx with rfl | ⟨p, hp, hxp⟩
      · decide
      · exact this x ((h p hp).ok x hxp)
    · unfold tailOf at hx
      split at hx
      · simp at hx; subst hx; decide
      · cases hx
  · rw [e2, pieces_joined ps h0 (fun p hp x hx => (ok47 ((h p hp).ok x hx)).1)]
    exact okPats_all ps h
  · intro hh
    rw [e2] at hh ⊢
    match ps, h0 with
    | [p], _ => exact h p (by simp)
    | p :: q :: ps, _ => rw [has_slash_mem _ (joined_slash _ (by simp))] at hh; cases hh
def True_ (w : World) (e : Ending) (w' : World) : Prop := e = .returned (.bool true) ∧ Below w.heap.size w w'
set_option maxRecDepth 100000 in
set_option maxHeartbeats 8000000 in
theorem igIs_calls (P : ByteArray) (B : Option Addr) (m d : Nat) (path : List (List UInt8)) (dir want : Bool) (w : World) (hf : Fit P.data.toList) (hs : P.size ≤ 1000000)
    (hq : Strs w w.heap.size B m path) (hm : m ≤ 2147483647) (hqo : ∀ x ∈ path, Name x) (hr : matchRes P.data.toList [] path dir = if want then 1 else 0) :
    Calls Try.prog 9 #[.string P, .slice B m d, .bool dir, .bool want] w (True_ w) := by
  have hps : 0 < P.size := by
    rcases Nat.eq_zero_or_pos P.size with h | h
    · exact absurd (list_nil h) hf.ne
    · exact h
  have hcall := call_calls P none B 0 0 m d [] path dir w (by omega) hps hf.ok Strs.nil_ (by omega) hq hm (by have := pieces_len 47 (bodyOf P.data.toList); have h2 : (bodyOf P.data.toList).length ≤ P.data.toList.length := (by unfold bodyOf; split <;> simp); rw [list_size] at h2; omega) hf.pats hqo hf.one
  rw [hr] at hcall
  have HC := hid hcall
  clear hcall hq hf hqo hr
  cases want with
  | true =>
    go_enter Try.func9, Try.ntmps9
    go_wp2_with fail
    refine HC.out.mono ?_
    rintro e w1 ⟨rfl, hb1⟩
    have HB1 := hid hb1
    have hc2 := call_calls ⟨#[97]⟩ none (some ⟨w1.heap.size, 0, none⟩) 0 0 1 1 [] [[97]] false (w1.alloc (.cells #[.string ⟨#[97]⟩] 9)) (by decide) (by decide)
      (by intro x hx; simp at hx; subst hx; decide) Strs.nil_ (by omega) (by rw [asize]; exact lit_strs w1) (by omega)
      (by rw [show (⟨#[97]⟩ : ByteArray).data.toList = [97] from rfl, tiny_pieces]; decide) (by rw [show (⟨#[97]⟩ : ByteArray).data.toList = [97] from rfl, tiny_pieces]; exact .inl ⟨one_name.glob, trivial⟩)
      (by intro x hx; simp at hx; subst hx; exact one_name) (by intro _; rw [show (⟨#[97]⟩ : ByteArray).data.toList = [97] from rfl, tiny_body]; exact one_name.glob)
    rw [show (⟨#[97]⟩ : ByteArray).data.toList = [97] from rfl, tiny] at hc2
    have HC2 := hid hc2
    clear hb1 hc2
    go_wp2_with fail
    refine HC2.out.mono ?_
    rintro e w2 ⟨rfl, hb2⟩
    have HB2 := hid (below_up (HB1.out.alloc HB1.out.size _) hb2 (Nat.le_refl _))
    clear hb2
    go_wp2_with fail
    go_ret
    exact ⟨rfl, HB2.out⟩
  | false =>
    go_enter Try.func9, Try.ntmps9
    go_wp2_with fail
    refine HC.out.mono ?_
    rintro e w1 ⟨rfl, hb1⟩
    have HB1 := hid hb1
    have hc2 := call_calls ⟨#[97]⟩ none (some ⟨w1.heap.size, 0, none⟩) 0 0 1 1 [] [[97]] false (w1.alloc (.cells #[.string ⟨#[97]⟩] 9)) (by decide) (by decide)
      (by intro x hx; simp at hx; subst hx; decide) Strs.nil_ (by omega) (by rw [asize]; exact lit_strs w1) (by omega)
      (by rw [show (⟨#[97]⟩ : ByteArray).data.toList = [97] from rfl, tiny_pieces]; decide) (by rw [show (⟨#[97]⟩ : ByteArray).data.toList = [97] from rfl, tiny_pieces]; exact .inl ⟨one_name.glob, trivial⟩)
      (by intro x hx; simp at hx; subst hx; exact one_name) (by intro _; rw [show (⟨#[97]⟩ : ByteArray).data.toList = [97] from rfl, tiny_body]; exact one_name.glob)
    rw [show (⟨#[97]⟩ : ByteArray).data.toList = [97] from rfl, tiny] at hc2
    have HC2 := hid hc2
    clear hb1 hc2
    go_wp2_with fail
    refine HC2.out.mono ?_
    rintro e w2 ⟨rfl, hb2⟩
    have HB2 := hid (below_up (HB1.out.alloc HB1.out.size _) hb2 (Nat.le_refl _))
    clear hb2
    go_wp2_with fail
    go_ret
    exact ⟨rfl, HB2.out⟩
set_option maxRecDepth 100000 in
set_option maxHeartbeats 8000000 in
theorem below_calls (p : ByteArray) (B : Option Addr) (m d : Nat) (path : List (List UInt8)) (dir : Bool) (w : World) (hp : p.size ≤ 140737488351232) (hq : Strs w w.heap.size B m path) (hmd : m ≤ d) :
    Calls Try.prog 3 #[.string p, .slice B m d, .bool dir] w (True_ w) := by
  have HQ := hid hq
  have HQL := hid hq.len
  clear hq
  by_cases h0 : 2147483647 < p.size
  · have e0 : (2147483647 : Int) < p.size := by omega
    go_enter Try.func3, Try.ntmps3
    go_wp2_with fail
    go_ret
    exact ⟨rfl, Below.refl _ _⟩
  · have e0 : ¬ (2147483647 : Int) < p.size := by omega
    go_enter Try.func3, Try.ntmps3
    go_wp2_with fail
    refine (fits_calls B m d _ path w HQ.out).mono ?_
    rintro e w' ⟨rfl, b, rfl, hb⟩
    cases b with
    | false =>
      go_wp2_with fail
      go_ret
      exact ⟨rfl, Below.refl _ _⟩
    | true =>
      obtain ⟨hl1, hl2⟩ := hb rfl
      rw [HQL.out] at hl1
      have HL := hid hl2
      clear hb hl2
      go_wp2_with fail
      refine (isGlob_calls p w' hp).mono ?_
      rintro e w ⟨rfl, b, rfl, hb⟩
      cases b with
      | false =>
        go_wp2_with fail
        go_ret
        exact ⟨rfl, Below.refl _ _⟩
      | true =>
        have HG := hid (hb rfl)
        clear hb
        go_wp2_with fail
        refine (isPath_calls B m d _ path w HQ.out hl1 HL.out).mono ?_
        rintro e w1 ⟨rfl, b, rfl, hb⟩
        cases b with
        | false =>
          go_wp2_with fail
          go_ret
          exact ⟨rfl, Below.refl _ _⟩
        | true =>
          have HPt := hid (hb rfl)
          clear hb
          by_cases m1 : m = 1
          · subst m1
            go_wp2_with fail
            go_ret
            exact ⟨rfl, Below.refl _ _⟩
          · have em : ((m : Int) == 1) = false := by rw [beq_eq_false_iff_ne]; omega
            have hm0 : 0 < m := by
              have := HQL.out
              rcases Nat.eq_zero_or_pos m with h | h
              · rw [h] at this; exact absurd (List.eq_nil_of_length_eq_zero this) HPt.out.2.1
              · exact h
            have em0 : (0 : Int) < m := by omega
            obtain ⟨g2, o2, x, rfl, hg2, hcx, hqd, hqx⟩ := HQ.out.next (k := 0) hm0
            simp only [Nat.add_zero] at hcx
            have hxn := HPt.out.1 x (List.mem_of_getElem? hqx)
            have hxs : (ofL x).size ≤ 40 := by rw [ofL_size]; exact hxn.glob.len
            have hpath : Hid (path = x :: path.drop 1) := hid (by simpa using hqd)
            clear hqd hqx hxn
            go_wp2_with fail
            refine (globs_calls _ p (ofL x) w1 rfl hp (by omega)).mono ?_
            rintro e w2 ⟨rfl, hw2⟩
            rw [data_ofL]
            have hB2 : Hid (Below w1.heap.size w1 w2) := hid (below_drews (Below.refl _ _) hw2)
            have hpl : Hid ((p ++ ⟨#[47]⟩ ++ ⟨#[42, 42]⟩).data.toList = p.data.toList ++ [47, 42, 42]) := hid (by rw [append_list, append_list]; simp)
            have hps : (p ++ ⟨#[47]⟩ ++ ⟨#[42, 42]⟩).size ≤ 1000000 := by
              have h1 := HG.out.len
              have e := congrArg List.length hpl.out
              rw [list_size, List.length_append, list_size] at e
              rw [list_size] at h1
              simp only [List.length_cons, List.length_nil] at e
              omega
            have hig := igIs_calls (p ++ ⟨#[47]⟩ ++ ⟨#[42, 42]⟩) (some ⟨g2, o2, none⟩) m d path dir (glob p.data.toList x) w2 (by rw [hpl.out]; exact fit_below HG.out) hps ((HQ.out.below hB2.out).more hB2.out.size) hl1 HPt.out.1 (by
              rw [hpl.out, res_none _ _ _ HPt.out.2.1, takes_below _ _ _ HG.out HPt.out.2.1]
              rw [show path.headD [] = x from by rw [hpath.out]; rfl])
            have HIG := hid hig
            clear hig hw2
            go_wp2_with fail
            refine HIG.out.mono ?_
            rintro e w3 ⟨rfl, hb3⟩
            have HB3 := hid (below_up hB2.out hb3 (Nat.le_refl _))
            clear hb3
            go_wp2_with fail
            go_ret
            exact ⟨rfl, HB3.out⟩
set_option maxRecDepth 100000 in
set_option maxHeartbeats 8000000 in
theorem front_law_calls (A B : Option Addr) (n c m d : Nat) (ps path : List (List UInt8)) (folder dir : Bool) (w : World) (hp : Strs w w.heap.size A n ps) (hq : Strs w w.heap.size B m path) (hnc : n ≤ c) (hmd : m ≤ d) :
    Calls Try.prog 5 #[.slice A n c, .bool folder, .slice B m d, .bool dir] w (True_ w) := by
  have HP := hid hp
  have HPL := hid hp.len
  have HQ := hid hq
  have HQL := hid hq.len
  clear hq hp
  go_enter Try.func5, Try.ntmps5
  go_wp2_with fail
  refine (fits_calls A n c _ ps w HP.out).mono ?_
  rintro e w' ⟨rfl, b, rfl, hb⟩
  cases b with
  | false =>
    go_wp2_with fail
    go_ret
    exact ⟨rfl, Below.refl _ _⟩
  | true =>
    obtain ⟨hn1, hn2⟩ := hb rfl
    rw [HPL.out] at hn1
    have HN := hid hn2
    clear hb hn2
    go_wp2_with fail
    refine (fits_calls B m d _ path w' HQ.out).mono ?_
    rintro e w ⟨rfl, b, rfl, hb⟩
    cases b with
    | false =>
      go_wp2_with fail
      go_ret
      exact ⟨rfl, Below.refl _ _⟩
    | true =>
      obtain ⟨hl1, hl2⟩ := hb rfl
      rw [HQL.out] at hl1
      have HL := hid hl2
      clear hb hl2
      go_wp2_with fail
      refine (areGlobs_calls A n c _ ps w HP.out hn1 HN.out).mono ?_
      rintro e w1 ⟨rfl, b, rfl, hb⟩
      cases b with
      | false =>
        go_wp2_with fail
        go_ret
        exact ⟨rfl, Below.refl _ _⟩
      | true =>
        have HG := hid (hb rfl)
        clear hb
        by_cases n2 : n < 2
        · have en : (n : Int) < 2 := by omega
          go_wp2_with fail
          go_ret
          exact ⟨rfl, Below.refl _ _⟩
        · have en : ¬ (n : Int) < 2 := by omega
          go_wp2_with fail
          refine (isPath_calls B m d _ path w1 HQ.out hl1 HL.out).mono ?_
          rintro e w2 ⟨rfl, b, rfl, hb⟩
          cases b with
          | false =>
            go_wp2_with fail
            go_ret
            exact ⟨rfl, Below.refl _ _⟩
          | true =>
            have HPt := hid (hb rfl)
            clear hb
            have n100 : n ≤ 100 := by rw [← HPL.out]; exact HG.out.2.2
            go_wp2_with fail
            refine (slashed_calls A n c _ ps w2 HP.out n100 HG.out.1).mono ?_
            rintro e w3 ⟨rfl, t, rfl, ht⟩
            have HT := hid ht
            clear ht
            go_wp2_with fail
            refine (tail_calls folder w3).mono ?_
            rintro e w4 ⟨rfl, tl, rfl, htl⟩
            have HTL := hid htl
            clear htl
            have hts : t.size ≤ 4100 := by
              have e := congrArg List.length HT.out
              have h1 := len_joined ps HG.out.1
              rw [list_size] at e
              rw [HPL.out] at h1
              omega
            have htls : tl.size ≤ 1 := by
              have e := congrArg List.length HTL.out
              have h2 : (tailOf folder).length ≤ 1 := by unfold tailOf; split <;> simp
              rw [list_size] at e
              omega
            go_wp2_with fail
            refine (front_calls A B n c m d _ ps path folder dir w4 HP.out HQ.out hn1 hl1 HN.out HL.out).mono ?_
            rintro e w5 ⟨rfl, hw5⟩
            have hB2 : Hid (Below w4.heap.size w4 w5) := hid (below_drews (Below.refl _ _) hw5)
            have hpl : Hid ((t ++ tl).data.toList = joined ps ++ tailOf folder) := hid (by rw [append_list, HT.out, HTL.out])
            have hfit := fit_joined folder HG.out.2.1 HG.out.2.2 HG.out.1
            have hps : (t ++ tl).size ≤ 1000000 := by
              have e := congrArg List.length hpl.out
              have h1 := len_joined ps HG.out.1
              have h2 : (tailOf folder).length ≤ 1 := by unfold tailOf; split <;> simp
              rw [list_size, List.length_append] at e
              rw [HPL.out] at h1
              omega
            have hig := igIs_calls (t ++ tl) B m d path dir (front ps folder path dir) w5 (by rw [hpl.out]; exact hfit) hps ((HQ.out.below hB2.out).more hB2.out.size) hl1 HPt.out.1 (by
              rw [hpl.out, res_none _ _ _ HPt.out.2.1, takes_front ps path folder dir (by rw [HPL.out]; omega) HG.out.1])
            have HIG := hid hig
            clear hig hw5 hfit
            generalize front ps folder path dir = fr at *
            go_wp2_with fail
            refine HIG.out.mono ?_
            rintro e w6 ⟨rfl, hb6⟩
            have HB6 := hid (below_up hB2.out hb6 (Nat.le_refl _))
            clear hb6
            go_wp2_with fail
            go_ret
            exact ⟨rfl, HB6.out⟩
end Go.Proofs.Ytfanginpfppdeaa.glob
