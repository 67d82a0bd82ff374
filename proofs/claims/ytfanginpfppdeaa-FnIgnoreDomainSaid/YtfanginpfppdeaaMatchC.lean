/- path.Match at patterns of names: whether a name is one of a pattern. -/
import Derived.Test.YtfanginpfppdeaaMatchB
import Derived.Deep.LoopGhost
import Derived.Lib.Bytealg
set_option linter.unusedVariables false
namespace Go.Proofs.Ytfanginpfppdeaa.glob
open Go.RowKit Lib text strs

theorem unstar_len : ∀ p : List UInt8, (unstar p).length ≤ p.length := by
  intro p
  induction p with
  | nil => simp [unstar]
  | cons c p ih => rw [unstar]; split <;> simp <;> omega
theorem rest_lt (p : List UInt8) (h : p ≠ []) : (restOf p).length < p.length := by
  cases p with
  | nil => exact absurd rfl h
  | cons c p =>
    have h1 := chunk_rest (c :: p)
    have h2 := congrArg List.length h1
    rw [List.length_append] at h2
    by_cases hc : c = 42
    · have h3 : unstar (c :: p) = unstar p := by rw [unstar, if_pos hc]
      have h4 := unstar_len p
      rw [h3] at h2
      simp only [List.length_cons]; omega
    · have h3 : unstar (c :: p) = c :: p := by rw [unstar, if_neg hc]
      have h5 : 1 ≤ (chunkOf (c :: p)).length := by unfold chunkOf; rw [h3]; simp [hc]
      rw [h3] at h2
      simp only [List.length_cons] at h2 ⊢; omega
theorem rest_pl {p : List UInt8} (h : ∀ x ∈ p, pl x) : (∀ x ∈ restOf p, pl x) ∧ ∀ x ∈ chunkOf p, pl x := by
  have hu : ∀ q : List UInt8, (∀ x ∈ q, pl x) → ∀ x ∈ unstar q, pl x := by
    intro q
    induction q with
    | nil => intro _ x hx; cases hx
    | cons c q ih =>
      intro h x hx
      rw [unstar] at hx
      split at hx
      · exact ih (fun y hy => h y (by simp [hy])) x hx
      · exact h x hx
  have h2 := hu p h
  rw [← chunk_rest] at h2
  exact ⟨fun x hx => h2 x (by simp [hx]), fun x hx => h2 x (by simp [hx])⟩
/-- no slash in a name: IndexByteString finds none -/
theorem no_slash : ∀ (l : List UInt8), (∀ x ∈ l, asc x) → Lib.indexByte l 47 = -1 := by
  intro l
  induction l with
  | nil => intro _; rfl
  | cons a l ih =>
    intro h
    have h1 := ih (fun x hx => h x (by simp [hx]))
    have ha := (h a (by simp)).2
    simp only [Lib.indexByte]
    simp [ha, h1]
theorem hit_of {p n t : List UInt8} {i : Nat} (hs : starred p = true) (h : chunkAt (chunkOf p) (n.drop i) = some t) (hb : ∀ j, j < i → tryAt p n j = false) (hi : i ≤ n.length) (hr : restOf p ≠ [] ∨ t = []) : glob p n = glob (restOf p) t := by
  rw [Bool.eq_iff_iff, glob_yes p n hs]
  by_cases hr0 : restOf p = []
  · have ht := hr.resolve_left (by simp [hr0])
    subst ht
    rw [hr0]
    exact ⟨fun _ => rfl, fun _ => ⟨i, hi, by unfold tryAt; rw [h, hr0]; rfl⟩⟩
  · exact first_fit p n t i hr0 h hb hi
theorem hit_not {p n t : List UInt8} (hs : starred p = false) (h : chunkAt (chunkOf p) n = some t) : glob p n = glob (restOf p) t := by
  rw [glob_not p n hs]; unfold tryAt; rw [List.drop_zero, h]
theorem miss_none {p n : List UInt8} {i : Nat} (h : chunkAt (chunkOf p) (n.drop i) = none) : tryAt p n i = false := by unfold tryAt; rw [h]
theorem miss_some {p n t : List UInt8} {i : Nat} (h : chunkAt (chunkOf p) (n.drop i) = some t) (hr : restOf p = []) (ht : t ≠ []) : tryAt p n i = false := by
  unfold tryAt; rw [h, hr]
  cases t with
  | nil => exact absurd rfl ht
  | cons a l => rfl
theorem all_miss {p n : List UInt8} (hs : starred p = true) (h : ∀ j, j ≤ n.length → tryAt p n j = false) : glob p n = false := by
  rw [Bool.eq_false_iff]
  intro hg
  obtain ⟨j, hj, ht⟩ := (glob_yes p n hs).1 hg
  rw [h j hj] at ht; cases ht
theorem empty_toList {c : ByteArray} : c.toList.isEmpty = decide (c.size = 0) := by
  rw [ByteArray.toList_eq]
  have : c.data.toList.length = c.size := by simp
  cases h : c.data.toList with
  | nil => rw [h] at this; simp at this; simp [← this]
  | cons a l => rw [h] at this; simp only [List.length_cons] at this; exact (decide_eq_false (by omega)).symm
theorem chunk_asc {c n t : List UInt8} (h : chunkAt c n = some t) (hn : ∀ x ∈ n, asc x) : (∀ x ∈ t, asc x) ∧ t.length ≤ n.length := by
  obtain ⟨rfl, hl⟩ := chunkAt_drop _ _ _ h
  exact ⟨fun x hx => hn x (List.mem_of_mem_drop hx), by simp⟩
theorem list_size (s : ByteArray) : s.data.toList.length = s.size := by simp
theorem list_nil {s : ByteArray} (h : s.size = 0) : s.data.toList = [] := List.eq_nil_of_length_eq_zero (by rw [list_size, h])
theorem list_ne {s : ByteArray} (h : ¬ s.size = 0) : s.data.toList ≠ [] := fun e => h (by rw [← list_size, e]; rfl)
def MatchEnd (w : World) (b : Bool) (e : Ending) (w' : World) : Prop := (∃ k, w' = w.drewN k) ∧ e = .returned (.tuple #[.bool b, .nilIface])
set_option maxRecDepth 100000 in
set_option maxHeartbeats 8000000 in
theorem match_calls (P N : ByteArray) (w : World) (hp : P.size ≤ 140737488351232) (hn : N.size ≤ 140737488351232) (hP : ∀ x ∈ P.data.toList, pl x) (hN : ∀ x ∈ N.data.toList, asc x) :
    Calls Try.prog 44 #[.string P, .string N] w (MatchEnd w (glob P.data.toList N.data.toList)) := by
  have HP := hid hP
  have HN := hid hN
  clear hP hN
  go_enter Try.func44, Try.ntmps44
  go_wp2_with fail
  go_step3
  go_wp2_with fail
  go_step3
  go_wp2_with fail
  go_loopg [0, 1] P.size (fun g pv nv wr => ∃ p n : ByteArray, pv = .string p ∧ nv = .string n ∧ p.size ≤ g ∧ p.size ≤ P.size ∧ n.size ≤ N.size ∧ (∃ k, wr = w.drewN k) ∧
    Hid (glob P.data.toList N.data.toList = glob p.data.toList n.data.toList ∧ (∀ x ∈ p.data.toList, pl x) ∧ ∀ x ∈ n.data.toList, asc x))
  case atStart => exact ⟨P, N, rfl, rfl, Nat.le_refl _, Nat.le_refl _, Nat.le_refl _, ⟨0, rfl⟩, hid ⟨rfl, HP.out, HN.out⟩⟩
  case round =>
    obtain ⟨p, n, rfl, rfl, hpg, hpP, hnN, hw, hh⟩ := hrel
    have HW := hid hw
    clear hw
    by_cases h0 : 0 < p.size
    · have hrl := hid (rest_lt p.data.toList (by rw [cons_list p h0]; simp))
      have hrp := hid (rest_pl hh.out.2.1)
      go_wp2_with fail
      refine (scan_calls p wr (by omega) hh.out.2.1).mono ?_
      rintro e w1 ⟨hw1, c, r, rfl, hc, hr⟩
      have HW1 : Hid (∃ k, w1 = w.drewN k) := hid (by obtain ⟨k, rfl⟩ := hw1; exact drew_more HW.out k)
      have hrs : r.size < p.size := by
        have h1 := hrl.out
        rw [← hr] at h1
        simpa using h1
      have hcs : c.size ≤ p.size := by
        have h1 := congrArg List.length (chunk_rest p.data.toList)
        have h2 := unstar_len p.data.toList
        rw [← hc, ← hr, List.length_append] at h1
        simp only [Array.length_toList, ByteArray.size_data] at h1 h2
        omega
      have HC := hid hc
      have HR := hid hr
      have HRP : Hid (∀ x ∈ r.data.toList, pl x) := hid (by rw [hr]; exact hrp.out.1)
      clear hw1 hc hr hrl
      cases hst : starred p.data.toList with
      | true =>
        have HST := hid hst
        clear hst
        by_cases hc0 : c.size = 0
        · have ec : c.toList.isEmpty = true := by rw [empty_toList]; exact decide_eq_true hc0
          have hg : Hid (glob P.data.toList N.data.toList = true) := hid (by
            rw [hh.out.1]
            exact glob_end _ _ HST.out (by rw [← HC.out]; exact list_nil hc0))
          have hns := hid (no_slash _ hh.out.2.2)
          go_wp2_with fail
          rw [run_callFunc_extern Try.func46 (by kernel_rfl) (by kernel_rfl) (by kernel_rfl) (e := Extern.BytealgIndexByte.indexByte) (by kernel_rfl), Lib.run_indexByteString]
          simp only [Result.andThen]
          rw [Oper.upon_value, show (47 : Int).toNat.toUInt8 = 47 from rfl, hns.out]
          go_wp2_with fail
          try rw [Exit.noGoto_ret]
          refine bodyPost_ret (by simp [results, Try.results44, go_sem]; rfl) rfl ?_
          exact ⟨HW1.out, by rw [hg.out]⟩
        · have ec : c.toList.isEmpty = false := by rw [empty_toList]; exact decide_eq_false hc0
          go_wp2_with fail
          refine (chunk_calls c n w1 (by omega) (by omega) (by rw [HC.out]; exact hrp.out.2) hh.out.2.2).mono ?_
          rintro e w2 ⟨hw2, h2⟩
          have HWX : Hid (∃ k, w2 = w.drewN k) := hid (by obtain ⟨k, rfl⟩ := hw2; exact drew_more HW1.out k)
          clear hw2
          rw [HC.out] at h2
          cases hq : chunkAt (chunkOf p.data.toList) n.data.toList with
          | none =>
            rw [hq] at h2
            obtain ⟨sb, rfl⟩ := h2
            have HNO : Hid (tryAt p.data.toList n.data.toList 0 = false) := hid (miss_none (by rw [List.drop_zero]; exact hq))
            clear hq
            go_wp2_with fail
            have hgk : r.size < gk := by omega
            go_loopg [1, 11] n.size (fun g nv iv wr => ∃ i : Nat, i + g = n.size ∧ nv = .string n ∧ iv = .int .i64 i ∧ (∃ k, wr = w.drewN k) ∧ Hid (∀ j, j ≤ i → tryAt p.data.toList n.data.toList j = false))
            case atStart => exact ⟨0, by omega, rfl, rfl, HWX.out, hid (fun j hj => by obtain rfl : j = 0 := (by omega); exact HNO.out)⟩
            case round =>
              obtain ⟨i, hig, rfl, rfl, hwi, hmi⟩ := hrel
              have HWI := hid hwi
              clear hwi
              by_cases hin : i < n.size
              · have has := hh.out.2.2 _ (mem_get n i hin)
                have q47 : ((n[i].toNat : Int) == 47) = false := ne_int (n := 47) (by omega) has.2
                clear has
                have hex := ext_drop n (i + 1)
                have hasc : ∀ x ∈ (n.extract (i + 1) n.size).data.toList, asc x := fun x hx => hh.out.2.2 x (by rw [hex] at hx; exact List.mem_of_mem_drop hx)
                have HEX := hid hex
                have HASC := hid hasc
                clear hex hasc
                go_wp2_with fail
                refine (chunk_calls c (n.extract (i + 1) n.size) wr (by omega) (by simp; omega) (by rw [HC.out]; exact hrp.out.2) HASC.out).mono ?_
                rintro e w3 ⟨hw3, h3⟩
                have HW3 : Hid (∃ k, w3 = w.drewN k) := hid (by obtain ⟨k, rfl⟩ := hw3; exact drew_more HWI.out k)
                clear hw3
                rw [HC.out, HEX.out] at h3
                cases hq : chunkAt (chunkOf p.data.toList) (n.data.toList.drop (i + 1)) with
                | none =>
                  rw [hq] at h3
                  obtain ⟨sb, rfl⟩ := h3
                  have hm2 : Hid (∀ j, j ≤ i + 1 → tryAt p.data.toList n.data.toList j = false) := hid fun j hj => by
                    rcases Nat.lt_or_ge i j with h | h
                    · obtain rfl : j = i + 1 := by omega
                      exact miss_none hq
                    · exact hmi.out j h
                  clear hq
                  go_wp2_with fail
                  go_roundg (n.size - (i + 1))
                  case measure => omega
                  case rel => exact ⟨i + 1, by omega, rfl, by go_num, HW3.out, hm2⟩
                | some t =>
                  rw [hq] at h3
                  obtain ⟨tb, rfl, ht⟩ := h3
                  have HT := hid ht
                  have hca := hid (chunk_asc hq (fun x hx => hh.out.2.2 x (List.mem_of_mem_drop hx)))
                  have hts : tb.size ≤ n.size := by
                    have h1 := hca.out.2
                    rw [← HT.out, list_size, List.length_drop, list_size] at h1
                    omega
                  have HQ := hid hq
                  clear hq ht
                  by_cases hr0 : r.size = 0
                  · by_cases ht0 : tb.size = 0
                    · have hg : Hid (glob P.data.toList N.data.toList = glob r.data.toList tb.data.toList) := hid (by
                        rw [hh.out.1, HR.out, HT.out]
                        exact hit_of HST.out HQ.out (fun j hj => hmi.out j (by omega)) (by rw [list_size]; omega) (.inr (by rw [← HT.out]; exact list_nil ht0)))
                      have e1 : ((r.size : Int) == 0) = true := by rw [beq_iff_eq]; omega
                      have e2 : ¬ (0 : Int) < tb.size := by omega
                      go_wp2_with fail
                      go_roundg r.size
                      case measure => exact hgk
                      case rel => exact ⟨r, tb, rfl, rfl, Nat.le_refl _, by omega, by omega, HW3.out, hid ⟨hg.out, HRP.out, by rw [HT.out]; exact hca.out.1⟩⟩
                    · have hm2 : Hid (∀ j, j ≤ i + 1 → tryAt p.data.toList n.data.toList j = false) := hid fun j hj => by
                        rcases Nat.lt_or_ge i j with h | h
                        · obtain rfl : j = i + 1 := by omega
                          exact miss_some HQ.out (by rw [← HR.out]; exact list_nil hr0) (by rw [← HT.out]; exact list_ne ht0)
                        · exact hmi.out j h
                      have e1 : ((r.size : Int) == 0) = true := by rw [beq_iff_eq]; omega
                      have e2 : (0 : Int) < tb.size := by omega
                      go_wp2_with fail
                      go_roundg (n.size - (i + 1))
                      case measure => omega
                      case rel => exact ⟨i + 1, by omega, rfl, by go_num, HW3.out, hm2⟩
                  · have hg : Hid (glob P.data.toList N.data.toList = glob r.data.toList tb.data.toList) := hid (by
                      rw [hh.out.1, HR.out, HT.out]
                      exact hit_of HST.out HQ.out (fun j hj => hmi.out j (by omega)) (by rw [list_size]; omega) (.inl (by rw [← HR.out]; exact list_ne hr0)))
                    have e1 : ((r.size : Int) == 0) = false := by rw [beq_eq_false_iff_ne]; omega
                    go_wp2_with fail
                    go_roundg r.size
                    case measure => exact hgk
                    case rel => exact ⟨r, tb, rfl, rfl, Nat.le_refl _, by omega, by omega, HW3.out, hid ⟨hg.out, HRP.out, by rw [HT.out]; exact hca.out.1⟩⟩
              · have HF : Hid (glob P.data.toList N.data.toList = false) := hid (by
                  rw [hh.out.1]
                  exact all_miss HST.out (fun j hj => hmi.out j (by rw [list_size] at hj; omega)))
                have HWX := HWI
                go_wp2_with fail
                go_loopg [0] r.size (fun g pv wr => ∃ q : ByteArray, pv = .string q ∧ q.size ≤ g ∧ q.size ≤ P.size ∧ (∃ k, wr = w.drewN k) ∧ Hid (∀ x ∈ q.data.toList, pl x))
                case atStart => exact ⟨r, rfl, Nat.le_refl _, by omega, HWX.out, HRP⟩
                case round =>
                  obtain ⟨q, rfl, hqg, hqP, hwq, hqp⟩ := hrel
                  have HWQ := hid hwq
                  clear hwq
                  by_cases q0 : 0 < q.size
                  · go_wp2_with fail
                    refine (scan_calls q wr (by omega) hqp.out).mono ?_
                    rintro e wa ⟨hwa, ca, ra, rfl, hca, hra⟩
                    have HWA : Hid (∃ k, wa = w.drewN k) := hid (by obtain ⟨k, rfl⟩ := hwa; exact drew_more HWQ.out k)
                    have hpa := hid (rest_pl hqp.out)
                    have hl := rest_lt q.data.toList (by rw [cons_list q q0]; simp)
                    rw [← hra, list_size, list_size] at hl
                    have hcl : ca.size ≤ q.size := by
                      have h1 := congrArg List.length (chunk_rest q.data.toList)
                      have h2 := unstar_len q.data.toList
                      rw [← hca, ← hra, List.length_append, list_size, list_size] at h1
                      rw [list_size] at h2
                      omega
                    have HCA := hid hca
                    have HRA := hid hra
                    clear hca hra hwa
                    go_wp2_with fail
                    refine (chunk_calls ca ⟨#[]⟩ wa (by omega) (by decide) (by rw [HCA.out]; exact hpa.out.2) (by intro x hx; cases hx)).mono ?_
                    rintro e wb ⟨hwb, hb⟩
                    have HWB : Hid (∃ k, wb = w.drewN k) := hid (by obtain ⟨k, rfl⟩ := hwb; exact drew_more HWA.out k)
                    clear hwb
                    obtain ⟨sb, bb, rfl⟩ : ∃ (sb : ByteArray) (bb : Bool), e = .returned (.tuple #[.string sb, .bool bb, .nilIface]) := by
                      cases hq : chunkAt ca.data.toList (⟨#[]⟩ : ByteArray).data.toList with
                      | none => rw [hq] at hb; obtain ⟨sb, rfl⟩ := hb; exact ⟨sb, _, rfl⟩
                      | some t => rw [hq] at hb; obtain ⟨sb, rfl, _⟩ := hb; exact ⟨sb, _, rfl⟩
                    clear hb
                    go_wp2_with fail
                    go_roundg ra.size
                    case measure => omega
                    case rel => exact ⟨ra, rfl, Nat.le_refl _, by omega, HWB.out, hid (by rw [HRA.out]; exact hpa.out.1)⟩
                  · go_wp2_with fail
                    try rw [Exit.noGoto_ret]
                    refine bodyPost_ret (by simp [results, Try.results44, go_sem]; rfl) rfl ?_
                    exact ⟨HWQ.out, by rw [HF.out]⟩
          | some t =>
            rw [hq] at h2
            obtain ⟨tb, rfl, ht⟩ := h2
            have HT := hid ht
            have HQ := hid hq
            have hca := hid (chunk_asc hq hh.out.2.2)
            have hts : tb.size ≤ n.size := by
              have h1 := hca.out.2
              rw [← HT.out, list_size, list_size] at h1
              exact h1
            clear hq ht
            by_cases ht0 : tb.size = 0
            · have hg : Hid (glob P.data.toList N.data.toList = glob r.data.toList tb.data.toList) := hid (by
                rw [hh.out.1, HR.out, HT.out]
                exact hit_of (i := 0) HST.out (by rw [List.drop_zero]; exact HQ.out) (fun j hj => absurd hj (by omega)) (by omega)  (.inr (by rw [← HT.out]; exact list_nil ht0)))
              have e1 : ((tb.size : Int) == 0) = true := by rw [beq_iff_eq]; omega
              go_wp2_with fail
              go_roundg r.size
              case measure => omega
              case rel => exact ⟨r, tb, rfl, rfl, Nat.le_refl _, by omega, by omega, HWX.out, hid ⟨hg.out, HRP.out, by rw [HT.out]; exact hca.out.1⟩⟩
            · have e1 : ((tb.size : Int) == 0) = false := by rw [beq_eq_false_iff_ne]; omega
              by_cases hr0 : r.size = 0
              · have HNO : Hid (tryAt p.data.toList n.data.toList 0 = false) := hid (miss_some (by rw [List.drop_zero]; exact HQ.out) (by rw [← HR.out]; exact list_nil hr0) (by rw [← HT.out]; exact list_ne ht0))
                have e2 : ¬ (0 : Int) < r.size := by omega
                go_wp2_with fail
                have hgk : r.size < gk := by omega
                go_loopg [1, 11] n.size (fun g nv iv wr => ∃ i : Nat, i + g = n.size ∧ nv = .string n ∧ iv = .int .i64 i ∧ (∃ k, wr = w.drewN k) ∧ Hid (∀ j, j ≤ i → tryAt p.data.toList n.data.toList j = false))
                case atStart => exact ⟨0, by omega, rfl, rfl, HWX.out, hid (fun j hj => by obtain rfl : j = 0 := (by omega); exact HNO.out)⟩
                case round =>
                  obtain ⟨i, hig, rfl, rfl, hwi, hmi⟩ := hrel
                  have HWI := hid hwi
                  clear hwi
                  by_cases hin : i < n.size
                  · have has := hh.out.2.2 _ (mem_get n i hin)
                    have q47 : ((n[i].toNat : Int) == 47) = false := ne_int (n := 47) (by omega) has.2
                    clear has
                    have hex := ext_drop n (i + 1)
                    have hasc : ∀ x ∈ (n.extract (i + 1) n.size).data.toList, asc x := fun x hx => hh.out.2.2 x (by rw [hex] at hx; exact List.mem_of_mem_drop hx)
                    have HEX := hid hex
                    have HASC := hid hasc
                    clear hex hasc
                    go_wp2_with fail
                    refine (chunk_calls c (n.extract (i + 1) n.size) wr (by omega) (by simp; omega) (by rw [HC.out]; exact hrp.out.2) HASC.out).mono ?_
                    rintro e w3 ⟨hw3, h3⟩
                    have HW3 : Hid (∃ k, w3 = w.drewN k) := hid (by obtain ⟨k, rfl⟩ := hw3; exact drew_more HWI.out k)
                    clear hw3
                    rw [HC.out, HEX.out] at h3
                    cases hq : chunkAt (chunkOf p.data.toList) (n.data.toList.drop (i + 1)) with
                    | none =>
                      rw [hq] at h3
                      obtain ⟨sb, rfl⟩ := h3
                      have hm2 : Hid (∀ j, j ≤ i + 1 → tryAt p.data.toList n.data.toList j = false) := hid fun j hj => by
                        rcases Nat.lt_or_ge i j with h | h
                        · obtain rfl : j = i + 1 := by omega
                          exact miss_none hq
                        · exact hmi.out j h
                      clear hq
                      go_wp2_with fail
                      go_roundg (n.size - (i + 1))
                      case measure => omega
                      case rel => exact ⟨i + 1, by omega, rfl, by go_num, HW3.out, hm2⟩
                    | some t =>
                      rw [hq] at h3
                      obtain ⟨tb, rfl, ht⟩ := h3
                      have HT := hid ht
                      have hca := hid (chunk_asc hq (fun x hx => hh.out.2.2 x (List.mem_of_mem_drop hx)))
                      have hts : tb.size ≤ n.size := by
                        have h1 := hca.out.2
                        rw [← HT.out, list_size, List.length_drop, list_size] at h1
                        omega
                      have HQ := hid hq
                      clear hq ht
                      by_cases hr0 : r.size = 0
                      · by_cases ht0 : tb.size = 0
                        · have hg : Hid (glob P.data.toList N.data.toList = glob r.data.toList tb.data.toList) := hid (by
                            rw [hh.out.1, HR.out, HT.out]
                            exact hit_of HST.out HQ.out (fun j hj => hmi.out j (by omega)) (by rw [list_size]; omega) (.inr (by rw [← HT.out]; exact list_nil ht0)))
                          have e1 : ((r.size : Int) == 0) = true := by rw [beq_iff_eq]; omega
                          have e2 : ¬ (0 : Int) < tb.size := by omega
                          go_wp2_with fail
                          go_roundg r.size
                          case measure => exact hgk
                          case rel => exact ⟨r, tb, rfl, rfl, Nat.le_refl _, by omega, by omega, HW3.out, hid ⟨hg.out, HRP.out, by rw [HT.out]; exact hca.out.1⟩⟩
                        · have hm2 : Hid (∀ j, j ≤ i + 1 → tryAt p.data.toList n.data.toList j = false) := hid fun j hj => by
                            rcases Nat.lt_or_ge i j with h | h
                            · obtain rfl : j = i + 1 := by omega
                              exact miss_some HQ.out (by rw [← HR.out]; exact list_nil hr0) (by rw [← HT.out]; exact list_ne ht0)
                            · exact hmi.out j h
                          have e1 : ((r.size : Int) == 0) = true := by rw [beq_iff_eq]; omega
                          have e2 : (0 : Int) < tb.size := by omega
                          go_wp2_with fail
                          go_roundg (n.size - (i + 1))
                          case measure => omega
                          case rel => exact ⟨i + 1, by omega, rfl, by go_num, HW3.out, hm2⟩
                      · exfalso; omega
                  · have HF : Hid (glob P.data.toList N.data.toList = false) := hid (by
                      rw [hh.out.1]
                      exact all_miss HST.out (fun j hj => hmi.out j (by rw [list_size] at hj; omega)))
                    have HWX := HWI
                    go_wp2_with fail
                    go_loopg [0] r.size (fun g pv wr => ∃ q : ByteArray, pv = .string q ∧ q.size ≤ g ∧ q.size ≤ P.size ∧ (∃ k, wr = w.drewN k) ∧ Hid (∀ x ∈ q.data.toList, pl x))
                    case atStart => exact ⟨r, rfl, Nat.le_refl _, by omega, HWX.out, HRP⟩
                    case round =>
                      obtain ⟨q, rfl, hqg, hqP, hwq, hqp⟩ := hrel
                      have HWQ := hid hwq
                      clear hwq
                      by_cases q0 : 0 < q.size
                      · go_wp2_with fail
                        refine (scan_calls q wr (by omega) hqp.out).mono ?_
                        rintro e wa ⟨hwa, ca, ra, rfl, hca, hra⟩
                        have HWA : Hid (∃ k, wa = w.drewN k) := hid (by obtain ⟨k, rfl⟩ := hwa; exact drew_more HWQ.out k)
                        have hpa := hid (rest_pl hqp.out)
                        have hl := rest_lt q.data.toList (by rw [cons_list q q0]; simp)
                        rw [← hra, list_size, list_size] at hl
                        have hcl : ca.size ≤ q.size := by
                          have h1 := congrArg List.length (chunk_rest q.data.toList)
                          have h2 := unstar_len q.data.toList
                          rw [← hca, ← hra, List.length_append, list_size, list_size] at h1
                          rw [list_size] at h2
                          omega
                        have HCA := hid hca
                        have HRA := hid hra
                        clear hca hra hwa
                        go_wp2_with fail
                        refine (chunk_calls ca ⟨#[]⟩ wa (by omega) (by decide) (by rw [HCA.out]; exact hpa.out.2) (by intro x hx; cases hx)).mono ?_
                        rintro e wb ⟨hwb, hb⟩
                        have HWB : Hid (∃ k, wb = w.drewN k) := hid (by obtain ⟨k, rfl⟩ := hwb; exact drew_more HWA.out k)
                        clear hwb
                        obtain ⟨sb, bb, rfl⟩ : ∃ (sb : ByteArray) (bb : Bool), e = .returned (.tuple #[.string sb, .bool bb, .nilIface]) := by
                          cases hq : chunkAt ca.data.toList (⟨#[]⟩ : ByteArray).data.toList with
                          | none => rw [hq] at hb; obtain ⟨sb, rfl⟩ := hb; exact ⟨sb, _, rfl⟩
                          | some t => rw [hq] at hb; obtain ⟨sb, rfl, _⟩ := hb; exact ⟨sb, _, rfl⟩
                        clear hb
                        go_wp2_with fail
                        go_roundg ra.size
                        case measure => omega
                        case rel => exact ⟨ra, rfl, Nat.le_refl _, by omega, HWB.out, hid (by rw [HRA.out]; exact hpa.out.1)⟩
                      · go_wp2_with fail
                        try rw [Exit.noGoto_ret]
                        refine bodyPost_ret (by simp [results, Try.results44, go_sem]; rfl) rfl ?_
                        exact ⟨HWQ.out, by rw [HF.out]⟩
              · have hg : Hid (glob P.data.toList N.data.toList = glob r.data.toList tb.data.toList) := hid (by
                  rw [hh.out.1, HR.out, HT.out]
                  exact hit_of (i := 0) HST.out (by rw [List.drop_zero]; exact HQ.out) (fun j hj => absurd hj (by omega)) (by omega)  (.inl (by rw [← HR.out]; exact list_ne hr0)))
                have e2 : (0 : Int) < r.size := by omega
                go_wp2_with fail
                go_roundg r.size
                case measure => omega
                case rel => exact ⟨r, tb, rfl, rfl, Nat.le_refl _, by omega, by omega, HWX.out, hid ⟨hg.out, HRP.out, by rw [HT.out]; exact hca.out.1⟩⟩
      | false =>
        have HST := hid hst
        clear hst
        go_wp2_with fail
        refine (chunk_calls c n w1 (by omega) (by omega) (by rw [HC.out]; exact hrp.out.2) hh.out.2.2).mono ?_
        rintro e w2 ⟨hw2, h2⟩
        have HWX : Hid (∃ k, w2 = w.drewN k) := hid (by obtain ⟨k, rfl⟩ := hw2; exact drew_more HW1.out k)
        clear hw2
        rw [HC.out] at h2
        cases hq : chunkAt (chunkOf p.data.toList) n.data.toList with
        | none =>
          rw [hq] at h2
          obtain ⟨sb, rfl⟩ := h2
          have HF : Hid (glob P.data.toList N.data.toList = false) := hid (by rw [hh.out.1, glob_not _ _ HST.out]; exact (miss_none (by rw [List.drop_zero]; exact hq)))
          clear hq
          go_wp2_with fail
          go_loopg [0] r.size (fun g pv wr => ∃ q : ByteArray, pv = .string q ∧ q.size ≤ g ∧ q.size ≤ P.size ∧ (∃ k, wr = w.drewN k) ∧ Hid (∀ x ∈ q.data.toList, pl x))
          case atStart => exact ⟨r, rfl, Nat.le_refl _, by omega, HWX.out, HRP⟩
          case round =>
            obtain ⟨q, rfl, hqg, hqP, hwq, hqp⟩ := hrel
            have HWQ := hid hwq
            clear hwq
            by_cases q0 : 0 < q.size
            · go_wp2_with fail
              refine (scan_calls q wr (by omega) hqp.out).mono ?_
              rintro e wa ⟨hwa, ca, ra, rfl, hca, hra⟩
              have HWA : Hid (∃ k, wa = w.drewN k) := hid (by obtain ⟨k, rfl⟩ := hwa; exact drew_more HWQ.out k)
              have hpa := hid (rest_pl hqp.out)
              have hl := rest_lt q.data.toList (by rw [cons_list q q0]; simp)
              rw [← hra, list_size, list_size] at hl
              have hcl : ca.size ≤ q.size := by
                have h1 := congrArg List.length (chunk_rest q.data.toList)
                have h2 := unstar_len q.data.toList
                rw [← hca, ← hra, List.length_append, list_size, list_size] at h1
                rw [list_size] at h2
                omega
              have HCA := hid hca
              have HRA := hid hra
              clear hca hra hwa
              go_wp2_with fail
              refine (chunk_calls ca ⟨#[]⟩ wa (by omega) (by decide) (by rw [HCA.out]; exact hpa.out.2) (by intro x hx; cases hx)).mono ?_
              rintro e wb ⟨hwb, hb⟩
              have HWB : Hid (∃ k, wb = w.drewN k) := hid (by obtain ⟨k, rfl⟩ := hwb; exact drew_more HWA.out k)
              clear hwb
              obtain ⟨sb, bb, rfl⟩ : ∃ (sb : ByteArray) (bb : Bool), e = .returned (.tuple #[.string sb, .bool bb, .nilIface]) := by
                cases hq : chunkAt ca.data.toList (⟨#[]⟩ : ByteArray).data.toList with
                | none => rw [hq] at hb; obtain ⟨sb, rfl⟩ := hb; exact ⟨sb, _, rfl⟩
                | some t => rw [hq] at hb; obtain ⟨sb, rfl, _⟩ := hb; exact ⟨sb, _, rfl⟩
              clear hb
              go_wp2_with fail
              go_roundg ra.size
              case measure => omega
              case rel => exact ⟨ra, rfl, Nat.le_refl _, by omega, HWB.out, hid (by rw [HRA.out]; exact hpa.out.1)⟩
            · go_wp2_with fail
              try rw [Exit.noGoto_ret]
              refine bodyPost_ret (by simp [results, Try.results44, go_sem]; rfl) rfl ?_
              exact ⟨HWQ.out, by rw [HF.out]⟩
        | some t =>
          rw [hq] at h2
          obtain ⟨tb, rfl, ht⟩ := h2
          have HT := hid ht
          have HQ := hid hq
          have hca := hid (chunk_asc hq hh.out.2.2)
          have hts : tb.size ≤ n.size := by
            have h1 := hca.out.2
            rw [← HT.out, list_size, list_size] at h1
            exact h1
          clear hq ht
          by_cases ht0 : tb.size = 0
          · have hg : Hid (glob P.data.toList N.data.toList = glob r.data.toList tb.data.toList) := hid (by
              rw [hh.out.1, HR.out, HT.out]
              exact hit_not HST.out HQ.out)
            have e1 : ((tb.size : Int) == 0) = true := by rw [beq_iff_eq]; omega
            go_wp2_with fail
            go_roundg r.size
            case measure => omega
            case rel => exact ⟨r, tb, rfl, rfl, Nat.le_refl _, by omega, by omega, HWX.out, hid ⟨hg.out, HRP.out, by rw [HT.out]; exact hca.out.1⟩⟩
          · have e1 : ((tb.size : Int) == 0) = false := by rw [beq_eq_false_iff_ne]; omega
            by_cases hr0 : r.size = 0
            · have HF : Hid (glob P.data.toList N.data.toList = false) := hid (by rw [hh.out.1, glob_not _ _ HST.out]; exact (miss_some (by rw [List.drop_zero]; exact HQ.out) (by rw [← HR.out]; exact list_nil hr0) (by rw [← HT.out]; exact list_ne ht0)))
              have e2 : ¬ (0 : Int) < r.size := by omega
              go_wp2_with fail
              go_loopg [0] r.size (fun g pv wr => ∃ q : ByteArray, pv = .string q ∧ q.size ≤ g ∧ q.size ≤ P.size ∧ (∃ k, wr = w.drewN k) ∧ Hid (∀ x ∈ q.data.toList, pl x))
              case atStart => exact ⟨r, rfl, Nat.le_refl _, by omega, HWX.out, HRP⟩
              case round =>
                obtain ⟨q, rfl, hqg, hqP, hwq, hqp⟩ := hrel
                have HWQ := hid hwq
                clear hwq
                by_cases q0 : 0 < q.size
                · go_wp2_with fail
                  refine (scan_calls q wr (by omega) hqp.out).mono ?_
                  rintro e wa ⟨hwa, ca, ra, rfl, hca, hra⟩
                  have HWA : Hid (∃ k, wa = w.drewN k) := hid (by obtain ⟨k, rfl⟩ := hwa; exact drew_more HWQ.out k)
                  have hpa := hid (rest_pl hqp.out)
                  have hl := rest_lt q.data.toList (by rw [cons_list q q0]; simp)
                  rw [← hra, list_size, list_size] at hl
                  have hcl : ca.size ≤ q.size := by
                    have h1 := congrArg List.length (chunk_rest q.data.toList)
                    have h2 := unstar_len q.data.toList
                    rw [← hca, ← hra, List.length_append, list_size, list_size] at h1
                    rw [list_size] at h2
                    omega
                  have HCA := hid hca
                  have HRA := hid hra
                  clear hca hra hwa
                  go_wp2_with fail
                  refine (chunk_calls ca ⟨#[]⟩ wa (by omega) (by decide) (by rw [HCA.out]; exact hpa.out.2) (by intro x hx; cases hx)).mono ?_
                  rintro e wb ⟨hwb, hb⟩
                  have HWB : Hid (∃ k, wb = w.drewN k) := hid (by obtain ⟨k, rfl⟩ := hwb; exact drew_more HWA.out k)
                  clear hwb
                  obtain ⟨sb, bb, rfl⟩ : ∃ (sb : ByteArray) (bb : Bool), e = .returned (.tuple #[.string sb, .bool bb, .nilIface]) := by
                    cases hq : chunkAt ca.data.toList (⟨#[]⟩ : ByteArray).data.toList with
                    | none => rw [hq] at hb; obtain ⟨sb, rfl⟩ := hb; exact ⟨sb, _, rfl⟩
                    | some t => rw [hq] at hb; obtain ⟨sb, rfl, _⟩ := hb; exact ⟨sb, _, rfl⟩
                  clear hb
                  go_wp2_with fail
                  go_roundg ra.size
                  case measure => omega
                  case rel => exact ⟨ra, rfl, Nat.le_refl _, by omega, HWB.out, hid (by rw [HRA.out]; exact hpa.out.1)⟩
                · go_wp2_with fail
                  try rw [Exit.noGoto_ret]
                  refine bodyPost_ret (by simp [results, Try.results44, go_sem]; rfl) rfl ?_
                  exact ⟨HWQ.out, by rw [HF.out]⟩
            · have hg : Hid (glob P.data.toList N.data.toList = glob r.data.toList tb.data.toList) := hid (by
                rw [hh.out.1, HR.out, HT.out]
                exact hit_not HST.out HQ.out)
              have e2 : (0 : Int) < r.size := by omega
              go_wp2_with fail
              go_roundg r.size
              case measure => omega
              case rel => exact ⟨r, tb, rfl, rfl, Nat.le_refl _, by omega, by omega, HWX.out, hid ⟨hg.out, HRP.out, by rw [HT.out]; exact hca.out.1⟩⟩
    · have hr : Hid (glob P.data.toList N.data.toList = ((n.size : Int) == 0)) := hid (by
        rw [hh.out.1, nil_list p h0, glob]
        have : n.data.toList.length = n.size := by simp
        cases hnl : n.data.toList with
        | nil => rw [hnl] at this; simp at this; simp [← this]
        | cons a l => rw [hnl] at this; simp only [List.length_cons] at this; rw [← this]; simp; omega)
      clear hh
      go_wp2_with fail
      try rw [Exit.noGoto_ret]
      refine bodyPost_ret (by simp [results, Try.results44, go_sem]; rfl) rfl ?_
      exact ⟨HW.out, by rw [hr.out]⟩
end Go.Proofs.Ytfanginpfppdeaa.glob
