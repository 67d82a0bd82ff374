/- FnIgnoreDomain answers true. -/
import Derived.Test.YtfanginpfppdeaaIgLaws
set_option linter.unusedVariables false
namespace Go.Proofs.Ytfanginpfppdeaa.glob
open Go.RowKit Lib text strs mem searchIgnore

theorem res_dom (P : List UInt8) (dom path : List (List UInt8)) (dir : Bool) (h : path ≠ []) : matchRes P dom (dom ++ path) dir = matchRes P [] path dir := by
  rw [res_none P path dir h]
  have h1 : dom.length < (dom ++ path).length := by
    rw [List.length_append]
    cases path with
    | nil => exact absurd rfl h
    | cons a l => simp
  unfold matchRes
  rw [List.take_left, List.drop_left]
  cases takes P path dir with
  | true => rw [if_pos ⟨h1, rfl, rfl⟩]; rfl
  | false => rw [if_neg (fun hx => by cases hx.2.2)]; rfl
theorem b_name : Name [98] := by
  refine ⟨⟨?_, by decide, by decide, ?_⟩, by decide, by decide⟩
  · intro x hx
    simp at hx; subst hx
    exact .inl (by decide)
  · intro i h
    cases i with
    | zero => simp at h
    | succ i => simp at h
theorem tiny3 : matchRes [97] [[98]] [[98], [97]] false = 1 := by decide
theorem lit_any (w : World) (l : List (List UInt8)) (cs : Array Value) (h : cs.toList = mem.strCells l) : Strs (w.alloc (.cells cs 9)) (w.heap.size + 1) (some ⟨w.heap.size, 0, none⟩) l.length l := by
  refine ⟨⟨by simp [mem.strCells], fun _ => ⟨_, rfl, by show w.heap.size < _; omega, fun j u hu => ?_⟩⟩, fun _ => ⟨_, _, rfl⟩⟩
  rw [Lib.addr_add, Lib.cell_of_heap (heap_alloc_new w _), Nat.zero_add, ← Array.getElem?_toList, h]
  exact hu
theorem own_append {l k : List (List UInt8)} : mem.strCells (l ++ k) = mem.strCells l ++ mem.strCells k := by simp [mem.strCells]
set_option maxRecDepth 100000 in
set_option maxHeartbeats 8000000 in
theorem domain_law_calls (A D B : Option Addr) (n c k kc m d : Nat) (ps dom path : List (List UInt8)) (folder dir : Bool) (w : World) (hp : Strs w w.heap.size A n ps) (hd : Strs w w.heap.size D k dom) (hq : Strs w w.heap.size B m path) (hnc : n ≤ c) (hkc : k ≤ kc) (hmd : m ≤ d) :
    Calls Try.prog 4 #[.slice A n c, .bool folder, .slice D k kc, .slice B m d, .bool dir] w (True_ w) := by
  have HP := hid hp
  have HPL := hid hp.len
  have HD := hid hd
  have HDL := hid hd.len
  have HQ := hid hq
  have HQL := hid hq.len
  obtain ⟨i0, hi, hz0, hz1, hz2⟩ := info_parts infoText
  clear hq hp hd
  go_enter Try.func4, Try.ntmps4
  go_wp2_with fail
  refine (fits_calls A n c _ ps w HP.out).mono ?_
  rintro e w' ⟨rfl, b, rfl, hb⟩
  cases b with
  | false =>
    go_wp2_with fail
    go_ret
    exact ⟨rfl, Below.refl _ _⟩
  | true =>
    obtain ⟨hn1, hn2⟩ := hb rfl
    rw [HPL.out] at hn1
    have HN := hid hn2
    clear hb hn2
    go_wp2_with fail
    refine (fits_calls D k kc _ dom w' HD.out).mono ?_
    rintro e w ⟨rfl, b, rfl, hb⟩
    cases b with
    | false =>
      go_wp2_with fail
      go_ret
      exact ⟨rfl, Below.refl _ _⟩
    | true =>
      obtain ⟨hk1, hk2⟩ := hb rfl
      rw [HDL.out] at hk1
      have HK := hid hk2
      clear hb hk2
      go_wp2_with fail
      refine (fits_calls B m d _ path w HQ.out).mono ?_
      rintro e w1 ⟨rfl, b, rfl, hb⟩
      cases b with
      | false =>
        go_wp2_with fail
        go_ret
        exact ⟨rfl, Below.refl _ _⟩
      | true =>
        obtain ⟨hl1, hl2⟩ := hb rfl
        rw [HQL.out] at hl1
        have HL := hid hl2
        clear hb hl2
        go_wp2_with fail
        refine (areGlobs_calls A n c _ ps w1 HP.out hn1 HN.out).mono ?_
        rintro e w2 ⟨rfl, b, rfl, hb⟩
        cases b with
        | false =>
          go_wp2_with fail
          go_ret
          exact ⟨rfl, Below.refl _ _⟩
        | true =>
          have HG := hid (hb rfl)
          clear hb
          go_wp2_with fail
          refine (isPath_calls B m d _ path w2 HQ.out hl1 HL.out).mono ?_
          rintro e w3 ⟨rfl, b, rfl, hb⟩
          cases b with
          | false =>
            go_wp2_with fail
            go_ret
            exact ⟨rfl, Below.refl _ _⟩
          | true =>
            have HPt := hid (hb rfl)
            clear hb
            have n100 : n ≤ 100 := by rw [← HPL.out]; exact HG.out.2.2
            by_cases k0 : 0 < k
            · have ek : (0 : Int) < k := by omega
              go_wp2_with fail
              refine (isPath_calls D k kc _ dom w3 HD.out hk1 HK.out).mono ?_
              rintro e w4 ⟨rfl, b, rfl, hb⟩
              cases b with
              | false =>
                go_wp2_with fail
                go_ret
                exact ⟨rfl, Below.refl _ _⟩
              | true =>
                have HDn : Hid (∀ x ∈ dom, Name x) := hid (hb rfl).1
                have hk100 : k ≤ 100 := by rw [← HDL.out]; exact (hb rfl).2.2
                clear hb
                go_wp2_with fail
                refine (slashed_calls A n c _ ps w4 HP.out n100 HG.out.1).mono ?_
                rintro e w5 ⟨rfl, t, rfl, ht⟩
                have HT := hid ht
                clear ht
                go_wp2_with fail
                refine (tail_calls folder w5).mono ?_
                rintro e w6 ⟨rfl, tl, rfl, htl⟩
                have HTL := hid htl
                clear htl
                have hts : t.size ≤ 4100 := by
                  have e := congrArg List.length HT.out
                  have h1 := len_joined ps HG.out.1
                  rw [list_size] at e
                  rw [HPL.out] at h1
                  omega
                have htls : tl.size ≤ 1 := by
                  have e := congrArg List.length HTL.out
                  have h2 : (tailOf folder).length ≤ 1 := by unfold tailOf; split <;> simp
                  rw [list_size] at e
                  omega
                have hm100 : m ≤ 100 := by rw [← HQL.out]; exact HPt.out.2.2
                have m1 : 0 + k ≤ maxLen := by simp only [maxLen]; omega
                have m2 : (0 + k) * 16 ≤ 140737488355328 := by omega
                have m3 : k + m ≤ maxLen := by simp only [maxLen]; omega
                have m4 : (k + m) * 16 ≤ 140737488355328 := by omega
                have BA : Hid (Below w6.heap.size w6 (w6.alloc (.cells #[] 9))) := hid ((Below.refl _ _).alloc (Nat.le_refl _) _)
                go_wp2_with (first
                  | (at_builtin; refine wpList_append_any _ rfl (.tmp 49) (.tmp 50) _ rfl w6.heap.size 9 i0 _ 1 16 Try.underlying22 hi hz0 hz1 hz2 rfl (by omega) (.slice (some ⟨w6.heap.size, 0, none⟩) 0 0) 0 [] rfl ((Empty.new w6).own (Nat.le_refl _)) w6.heap.size D k kc (mem.strCells dom) rfl (HD.out.below BA.out).1 (strCells_one _) m1 m2 BA.out.size ?_; intro v1 x5 hown1 hg1 hat1; rw [Nat.zero_add, List.nil_append] at hown1; obtain ⟨A1, c1, rfl, _, _⟩ := own_strs hown1; have HO1 := hid hown1; have HB1 := hid (BA.out.grown hg1 BA.out.size (fun g hg => (((Empty.new w6).own (Nat.le_refl _)).lt g hg).1)); clear hown1 hg1 hat1)
                  | (at_builtin; refine wpList_append_any _ rfl (.tmp 51) (.tmp 52) _ rfl w6.heap.size 9 i0 _ 1 16 Try.underlying22 hi hz0 hz1 hz2 rfl (by omega) (.slice A1 k c1) k (mem.strCells dom) rfl HO1.out w6.heap.size B m d (mem.strCells path) rfl (HQ.out.below HB1.out).1 (strCells_one _) m3 m4 HB1.out.size ?_; intro v2 x6 hown2 hg2 hat2; rw [← own_append] at hown2; obtain ⟨A2, c2, rfl, hc2, hS2⟩ := own_strs hown2; have HS2 := hid hS2; have HB2 := hid (HB1.out.grown hg2 HB1.out.size (fun g hg => (HO1.out.lt g hg).1)); clear hown2 hg2 hat2 hS2))
                have hpl : Hid ((t ++ tl).data.toList = joined ps ++ tailOf folder) := hid (by rw [append_list, HT.out, HTL.out])
                have hfit := hid (fit_joined folder HG.out.2.1 HG.out.2.2 HG.out.1)
                have hps : (t ++ tl).size ≤ 1000000 := by simp only [ByteArray.size_append]; omega
                have hps0 : 0 < (t ++ tl).size := by
                  rcases Nat.eq_zero_or_pos (t ++ tl).size with h | h
                  · have h1 := list_nil h
                    rw [hpl.out] at h1
                    exact absurd h1 hfit.out.ne
                  · exact h
                have hfew : (pieces 47 (bodyOf (t ++ tl).data.toList)).length ≤ 1048576 := by
                  have h1 := pieces_len 47 (bodyOf (t ++ tl).data.toList)
                  have h2 : (bodyOf (t ++ tl).data.toList).length ≤ (t ++ tl).data.toList.length := by unfold bodyOf; split <;> simp
                  rw [list_size] at h2
                  omega
                have hca := call_calls (t ++ tl) D A2 k kc (k + m) c2 dom (dom ++ path) dir x6 (by omega) hps0 (by rw [hpl.out]; exact hfit.out.ok) ((HD.out.below HB2.out).more HB2.out.size) (by omega) HS2.out (by omega) hfew (by rw [hpl.out]; exact hfit.out.pats)
                  (fun x hx => by rcases List.mem_append.1 hx with h | h; exact HDn.out x h; exact HPt.out.1 x h) (by rw [hpl.out]; exact hfit.out.one)
                rw [res_dom _ _ _ _ HPt.out.2.1] at hca
                have hcb := fun w' (hb : Below w6.heap.size w6 w') => call_calls (t ++ tl) none B 0 0 m d [] path dir w' (by omega) hps0 (by rw [hpl.out]; exact hfit.out.ok) Strs.nil_ (by omega) ((HQ.out.below hb).more hb.size) (by omega) hfew (by rw [hpl.out]; exact hfit.out.pats) HPt.out.1 (by rw [hpl.out]; exact hfit.out.one)
                generalize matchRes (t ++ tl).data.toList [] path dir = r at *
                have HCA := hid hca
                have HCB := hid hcb
                clear hca hcb hfew hps0 m1 m2 m3 m4
                go_wp2_with fail
                refine HCA.out.mono ?_
                rintro e x7 ⟨rfl, hb7⟩
                have HB7 := hid (below_up HB2.out hb7 (Nat.le_refl _))
                clear hb7
                go_wp2_with fail
                refine (HCB.out x7 HB7.out).mono ?_
                rintro e x8 ⟨rfl, hb8⟩
                have HB8 := hid (below_up HB7.out hb8 (Nat.le_refl _))
                have er : ((r : Int) == (r : Int)) = true := beq_self_eq_true _
                have s1 := lit_any x8 [[98]] #[.string ⟨#[98]⟩] rfl
                have s2 := lit_any (x8.alloc (.cells #[.string ⟨#[98]⟩] 9)) [[98], [97]] #[.string ⟨#[98]⟩, .string ⟨#[97]⟩] rfl
                rw [asize] at s2
                have hcc := call_calls ⟨#[97]⟩ (some ⟨x8.heap.size, 0, none⟩) (some ⟨x8.heap.size + 1, 0, none⟩) 1 1 2 2 [[98]] [[98], [97]] false ((x8.alloc (.cells #[.string ⟨#[98]⟩] 9)).alloc (.cells #[.string ⟨#[98]⟩, .string ⟨#[97]⟩] 9)) (by decide) (by decide)
                  (by intro x hx; simp at hx; subst hx; decide) ((s1.alloc (by rw [asize]; omega) _).more (by rw [asize, asize]; omega)) (by omega) (s2.more (by rw [asize, asize]; omega)) (by omega)
                  (by rw [show (⟨#[97]⟩ : ByteArray).data.toList = [97] from rfl, tiny_pieces]; decide) (by rw [show (⟨#[97]⟩ : ByteArray).data.toList = [97] from rfl, tiny_pieces]; exact .inl ⟨one_name.glob, trivial⟩)
                  (by intro x hx; simp at hx; rcases hx with rfl | rfl; exact b_name; exact one_name) (by intro _; rw [show (⟨#[97]⟩ : ByteArray).data.toList = [97] from rfl, tiny_body]; exact one_name.glob)
                rw [show (⟨#[97]⟩ : ByteArray).data.toList = [97] from rfl, tiny3] at hcc
                have HCC := hid hcc
                clear hb8 hcc s1 s2
                go_wp2_with fail
                refine HCC.out.mono ?_
                rintro e x9 ⟨rfl, hb9⟩
                have HB8b := hid (HB8.out.alloc HB8.out.size (.cells #[.string ⟨#[98]⟩] 9))
                have HB8c := hid (HB8b.out.alloc HB8b.out.size (.cells #[.string ⟨#[98]⟩, .string ⟨#[97]⟩] 9))
                have HB9 := hid (below_up HB8c.out hb9 (Nat.le_refl _))
                clear hb9
                go_wp2_with fail
                go_ret
                exact ⟨rfl, HB9.out⟩
            · have hk0 : k = 0 := by omega
              have ek : ¬ (0 : Int) < k := by omega
              have hk100 : k ≤ 100 := by omega
              have HDn : Hid (∀ x ∈ dom, Name x) := hid (by
                have h1 := HDL.out
                rw [hk0] at h1
                rw [List.eq_nil_of_length_eq_zero h1]
                intro x hx; cases hx)
              clear hk0
              go_wp2_with fail
              refine (slashed_calls A n c _ ps w3 HP.out n100 HG.out.1).mono ?_
              rintro e w4 ⟨rfl, t, rfl, ht⟩
              have HT := hid ht
              clear ht
              go_wp2_with fail
              refine (tail_calls folder w4).mono ?_
              rintro e w5 ⟨rfl, tl, rfl, htl⟩
              have HTL := hid htl
              clear htl
              have hts : t.size ≤ 4100 := by
                have e := congrArg List.length HT.out
                have h1 := len_joined ps HG.out.1
                rw [list_size] at e
                rw [HPL.out] at h1
                omega
              have htls : tl.size ≤ 1 := by
                have e := congrArg List.length HTL.out
                have h2 : (tailOf folder).length ≤ 1 := by unfold tailOf; split <;> simp
                rw [list_size] at e
                omega
              have hm100 : m ≤ 100 := by rw [← HQL.out]; exact HPt.out.2.2
              have m1 : 0 + k ≤ maxLen := by simp only [maxLen]; omega
              have m2 : (0 + k) * 16 ≤ 140737488355328 := by omega
              have m3 : k + m ≤ maxLen := by simp only [maxLen]; omega
              have m4 : (k + m) * 16 ≤ 140737488355328 := by omega
              have BA : Hid (Below w5.heap.size w5 (w5.alloc (.cells #[] 9))) := hid ((Below.refl _ _).alloc (Nat.le_refl _) _)
              go_wp2_with (first
                | (at_builtin; refine wpList_append_any _ rfl (.tmp 49) (.tmp 50) _ rfl w5.heap.size 9 i0 _ 1 16 Try.underlying22 hi hz0 hz1 hz2 rfl (by omega) (.slice (some ⟨w5.heap.size, 0, none⟩) 0 0) 0 [] rfl ((Empty.new w5).own (Nat.le_refl _)) w5.heap.size D k kc (mem.strCells dom) rfl (HD.out.below BA.out).1 (strCells_one _) m1 m2 BA.out.size ?_; intro v1 x5 hown1 hg1 hat1; rw [Nat.zero_add, List.nil_append] at hown1; obtain ⟨A1, c1, rfl, _, _⟩ := own_strs hown1; have HO1 := hid hown1; have HB1 := hid (BA.out.grown hg1 BA.out.size (fun g hg => (((Empty.new w5).own (Nat.le_refl _)).lt g hg).1)); clear hown1 hg1 hat1)
                | (at_builtin; refine wpList_append_any _ rfl (.tmp 51) (.tmp 52) _ rfl w5.heap.size 9 i0 _ 1 16 Try.underlying22 hi hz0 hz1 hz2 rfl (by omega) (.slice A1 k c1) k (mem.strCells dom) rfl HO1.out w5.heap.size B m d (mem.strCells path) rfl (HQ.out.below HB1.out).1 (strCells_one _) m3 m4 HB1.out.size ?_; intro v2 x6 hown2 hg2 hat2; rw [← own_append] at hown2; obtain ⟨A2, c2, rfl, hc2, hS2⟩ := own_strs hown2; have HS2 := hid hS2; have HB2 := hid (HB1.out.grown hg2 HB1.out.size (fun g hg => (HO1.out.lt g hg).1)); clear hown2 hg2 hat2 hS2))
              have hpl : Hid ((t ++ tl).data.toList = joined ps ++ tailOf folder) := hid (by rw [append_list, HT.out, HTL.out])
              have hfit := hid (fit_joined folder HG.out.2.1 HG.out.2.2 HG.out.1)
              have hps : (t ++ tl).size ≤ 1000000 := by simp only [ByteArray.size_append]; omega
              have hps0 : 0 < (t ++ tl).size := by
                rcases Nat.eq_zero_or_pos (t ++ tl).size with h | h
                · have h1 := list_nil h
                  rw [hpl.out] at h1
                  exact absurd h1 hfit.out.ne
                · exact h
              have hfew : (pieces 47 (bodyOf (t ++ tl).data.toList)).length ≤ 1048576 := by
                have h1 := pieces_len 47 (bodyOf (t ++ tl).data.toList)
                have h2 : (bodyOf (t ++ tl).data.toList).length ≤ (t ++ tl).data.toList.length := by unfold bodyOf; split <;> simp
                rw [list_size] at h2
                omega
              have hca := call_calls (t ++ tl) D A2 k kc (k + m) c2 dom (dom ++ path) dir x6 (by omega) hps0 (by rw [hpl.out]; exact hfit.out.ok) ((HD.out.below HB2.out).more HB2.out.size) (by omega) HS2.out (by omega) hfew (by rw [hpl.out]; exact hfit.out.pats)
                (fun x hx => by rcases List.mem_append.1 hx with h | h; exact HDn.out x h; exact HPt.out.1 x h) (by rw [hpl.out]; exact hfit.out.one)
              rw [res_dom _ _ _ _ HPt.out.2.1] at hca
              have hcb := fun w' (hb : Below w5.heap.size w5 w') => call_calls (t ++ tl) none B 0 0 m d [] path dir w' (by omega) hps0 (by rw [hpl.out]; exact hfit.out.ok) Strs.nil_ (by omega) ((HQ.out.below hb).more hb.size) (by omega) hfew (by rw [hpl.out]; exact hfit.out.pats) HPt.out.1 (by rw [hpl.out]; exact hfit.out.one)
              generalize matchRes (t ++ tl).data.toList [] path dir = r at *
              have HCA := hid hca
              have HCB := hid hcb
              clear hca hcb hfew hps0 m1 m2 m3 m4
              go_wp2_with fail
              refine HCA.out.mono ?_
              rintro e x7 ⟨rfl, hb7⟩
              have HB7 := hid (below_up HB2.out hb7 (Nat.le_refl _))
              clear hb7
              go_wp2_with fail
              refine (HCB.out x7 HB7.out).mono ?_
              rintro e x8 ⟨rfl, hb8⟩
              have HB8 := hid (below_up HB7.out hb8 (Nat.le_refl _))
              have er : ((r : Int) == (r : Int)) = true := beq_self_eq_true _
              have s1 := lit_any x8 [[98]] #[.string ⟨#[98]⟩] rfl
              have s2 := lit_any (x8.alloc (.cells #[.string ⟨#[98]⟩] 9)) [[98], [97]] #[.string ⟨#[98]⟩, .string ⟨#[97]⟩] rfl
              rw [asize] at s2
              have hcc := call_calls ⟨#[97]⟩ (some ⟨x8.heap.size, 0, none⟩) (some ⟨x8.heap.size + 1, 0, none⟩) 1 1 2 2 [[98]] [[98], [97]] false ((x8.alloc (.cells #[.string ⟨#[98]⟩] 9)).alloc (.cells #[.string ⟨#[98]⟩, .string ⟨#[97]⟩] 9)) (by decide) (by decide)
                (by intro x hx; simp at hx; subst hx; decide) ((s1.alloc (by rw [asize]; omega) _).more (by rw [asize, asize]; omega)) (by omega) (s2.more (by rw [asize, asize]; omega)) (by omega)
                (by rw [show (⟨#[97]⟩ : ByteArray).data.toList = [97] from rfl, tiny_pieces]; decide) (by rw [show (⟨#[97]⟩ : ByteArray).data.toList = [97] from rfl, tiny_pieces]; exact .inl ⟨one_name.glob, trivial⟩)
                (by intro x hx; simp at hx; rcases hx with rfl | rfl; exact b_name; exact one_name) (by intro _; rw [show (⟨#[97]⟩ : ByteArray).data.toList = [97] from rfl, tiny_body]; exact one_name.glob)
              rw [show (⟨#[97]⟩ : ByteArray).data.toList = [97] from rfl, tiny3] at hcc
              have HCC := hid hcc
              clear hb8 hcc s1 s2
              go_wp2_with fail
              refine HCC.out.mono ?_
              rintro e x9 ⟨rfl, hb9⟩
              have HB8b := hid (HB8.out.alloc HB8.out.size (.cells #[.string ⟨#[98]⟩] 9))
              have HB8c := hid (HB8b.out.alloc HB8b.out.size (.cells #[.string ⟨#[98]⟩, .string ⟨#[97]⟩] 9))
              have HB9 := hid (below_up HB8c.out hb9 (Nat.le_refl _))
              clear hb9
              go_wp2_with fail
              go_ret
              exact ⟨rfl, HB9.out⟩
end Go.Proofs.Ytfanginpfppdeaa.glob
