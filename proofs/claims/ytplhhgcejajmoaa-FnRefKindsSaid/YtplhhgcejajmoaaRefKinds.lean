/- FnRefKinds: the folder of a name tells what it is; for every two texts, without conditions. -/
import Derived.Test.YtplhhgcejajmoaaRows
import Derived.Test.YtplhhgcejajmoaaStrs
import Derived.ProofKit
import Derived.OpenShut
import Derived.SizedLaws
import Derived.ChangeOld
set_option linter.unusedVariables false
namespace Go.Proofs.Ytplhhgcejajmoaa.refKinds
open Go.ChangeShapes Go.WideShapes Go.ChangeAt Go.RowKit Lib strs
open Go.ChangeMaps (open_string shut_string)

def heads : List UInt8 := [114, 101, 102, 115, 47, 104, 101, 97, 100, 115, 47]
def notes : List UInt8 := [114, 101, 102, 115, 47, 110, 111, 116, 101, 115, 47]
def remotes : List UInt8 := [114, 101, 102, 115, 47, 114, 101, 109, 111, 116, 101, 115, 47]
def tags : List UInt8 := [114, 101, 102, 115, 47, 116, 97, 103, 115, 47]
theorem branch_calls (s : ByteArray) (w : World) (hs : s.size ≤ 9223372036854775807) :
    Calls Try.prog 14 #[.string s] w fun e w' => e = .returned (.bool (prefixOf s.data.toList heads)) ∧ w = w' := by
  go_enter Try.func14, Try.ntmps14
  go_wp2_with fail
  refine (HasPrefix_calls s _ _ hs).mono ?_
  rintro e w' ⟨rfl, rfl⟩
  go_wp2_with fail
  go_ret
  exact ⟨rfl, rfl⟩
theorem note_calls (s : ByteArray) (w : World) (hs : s.size ≤ 9223372036854775807) :
    Calls Try.prog 15 #[.string s] w fun e w' => e = .returned (.bool (prefixOf s.data.toList notes)) ∧ w = w' := by
  go_enter Try.func15, Try.ntmps15
  go_wp2_with fail
  refine (HasPrefix_calls s _ _ hs).mono ?_
  rintro e w' ⟨rfl, rfl⟩
  go_wp2_with fail
  go_ret
  exact ⟨rfl, rfl⟩
theorem remote_calls (s : ByteArray) (w : World) (hs : s.size ≤ 9223372036854775807) :
    Calls Try.prog 16 #[.string s] w fun e w' => e = .returned (.bool (prefixOf s.data.toList remotes)) ∧ w = w' := by
  go_enter Try.func16, Try.ntmps16
  go_wp2_with fail
  refine (HasPrefix_calls s _ _ hs).mono ?_
  rintro e w' ⟨rfl, rfl⟩
  go_wp2_with fail
  go_ret
  exact ⟨rfl, rfl⟩
theorem tag_calls (s : ByteArray) (w : World) (hs : s.size ≤ 9223372036854775807) :
    Calls Try.prog 17 #[.string s] w fun e w' => e = .returned (.bool (prefixOf s.data.toList tags)) ∧ w = w' := by
  go_enter Try.func17, Try.ntmps17
  go_wp2_with fail
  refine (HasPrefix_calls s _ _ hs).mono ?_
  rintro e w' ⟨rfl, rfl⟩
  go_wp2_with fail
  go_ret
  exact ⟨rfl, rfl⟩
theorem kind_calls (s : ByteArray) (w : World) (hs : s.size ≤ 9223372036854775807) :
    Calls Try.prog 11 #[.string s] w fun e w' => e = .returned (.tuple #[.bool (prefixOf s.data.toList heads), .bool (prefixOf s.data.toList notes), .bool (prefixOf s.data.toList remotes), .bool (prefixOf s.data.toList tags)]) ∧ w = w' := by
  go_enter Try.func11, Try.ntmps11
  go_wp2_with fail
  refine (branch_calls s _ hs).mono ?_
  rintro e w' ⟨rfl, rfl⟩
  go_wp2_with fail
  refine (note_calls s _ hs).mono ?_
  rintro e w' ⟨rfl, rfl⟩
  go_wp2_with fail
  refine (remote_calls s _ hs).mono ?_
  rintro e w' ⟨rfl, rfl⟩
  go_wp2_with fail
  refine (tag_calls s _ hs).mono ?_
  rintro e w' ⟨rfl, rfl⟩
  go_wp2_with fail
  exact bodyPost_ret (by simp [results, Try.results11, go_sem]) rfl ⟨rfl, rfl⟩

theorem pre_get {l q : List UInt8} (h : prefixOf l q = true) (i : Nat) (hi : i < q.length) : l[i]? = q[i]? := by
  unfold prefixOf at h
  simp only [Bool.and_eq_true, decide_eq_true_eq, beq_iff_eq] at h
  rw [← h.2, List.getElem?_take_of_lt hi]
theorem pre_not {l q : List UInt8} (i : Nat) (hi : i < q.length) (h : l[i]? ≠ q[i]?) : prefixOf l q = false := by
  rw [Bool.eq_false_iff]
  exact fun hp => h (pre_get hp i hi)
theorem pre_self (p x : List UInt8) : prefixOf (p ++ x) p = true := by simp [prefixOf]
theorem small_no (l q : List UInt8) (hs : small l = true) (hq : q[4]? = some 47) : prefixOf l q = false := by
  rw [Bool.eq_false_iff]
  intro hp
  have hi : 4 < q.length := by
    rcases Nat.lt_or_ge 4 q.length with h | h
    · exact h
    · rw [List.getElem?_eq_none h] at hq; cases hq
  have h := pre_get hp 4 hi
  rw [hq] at h
  have hm : (47 : UInt8) ∈ l := List.mem_of_getElem? h
  unfold small at hs
  simp only [Bool.and_eq_true, List.all_eq_true] at hs
  have := hs.1 47 hm
  revert this
  decide
def nm (p : List UInt8) (s : ByteArray) : ByteArray := ⟨p.toArray⟩ ++ s
theorem nm_data (p : List UInt8) (s : ByteArray) : (nm p s).data.toList = p ++ s.data.toList := by simp [nm, ByteArray.data_append]
theorem nm_size (p : List UInt8) (s : ByteArray) : (nm p s).size = p.length + s.size := by rw [nm, ByteArray.size_append]; rfl
theorem kind0 (s : ByteArray) (w : World) (hs : s.size ≤ 1000) :
    Calls Try.prog 11 #[.string (nm heads s)] w fun e w' => e = .returned (.tuple #[.bool true, .bool false, .bool false, .bool false]) ∧ w = w' := by
  refine (kind_calls _ w (by rw [nm_size]; simp [heads]; omega)).mono ?_
  rintro e w' ⟨rfl, rfl⟩
  rw [nm_data, pre_self, pre_not 5 (by decide) (by simp [heads, notes]), pre_not 5 (by decide) (by simp [heads, remotes]), pre_not 5 (by decide) (by simp [heads, tags])]
  exact ⟨rfl, rfl⟩
theorem kind1 (s : ByteArray) (w : World) (hs : s.size ≤ 1000) :
    Calls Try.prog 11 #[.string (nm notes s)] w fun e w' => e = .returned (.tuple #[.bool false, .bool true, .bool false, .bool false]) ∧ w = w' := by
  refine (kind_calls _ w (by rw [nm_size]; simp [notes]; omega)).mono ?_
  rintro e w' ⟨rfl, rfl⟩
  rw [nm_data, pre_self, pre_not 5 (by decide) (by simp [heads, notes]), pre_not 5 (by decide) (by simp [notes, remotes]), pre_not 5 (by decide) (by simp [notes, tags])]
  exact ⟨rfl, rfl⟩
theorem kind2 (s r : ByteArray) (w : World) (hs : s.size ≤ 1000) (hr : r.size ≤ 1000) :
    Calls Try.prog 11 #[.string (nm remotes r ++ ⟨#[47]⟩ ++ s)] w fun e w' => e = .returned (.tuple #[.bool false, .bool false, .bool true, .bool false]) ∧ w = w' := by
  refine (kind_calls _ w (by rw [ByteArray.size_append, ByteArray.size_append, nm_size]; have e1 : remotes.length = 13 := rfl; have e2 : (⟨#[47]⟩ : ByteArray).size = 1 := rfl; omega)).mono ?_
  rintro e w' ⟨rfl, rfl⟩
  have e1 : (nm remotes r ++ ⟨#[47]⟩ ++ s).data.toList = remotes ++ (r.data.toList ++ ([47] ++ s.data.toList)) := by
    rw [ByteArray.data_append, ByteArray.data_append, Array.toList_append, Array.toList_append, nm_data]; simp
  rw [e1, pre_self, pre_not 5 (by decide) (by simp [heads, remotes]), pre_not 5 (by decide) (by simp [notes, remotes]), pre_not 5 (by decide) (by simp [remotes, tags])]
  exact ⟨rfl, rfl⟩
theorem kind3 (s : ByteArray) (w : World) (hs : s.size ≤ 1000) :
    Calls Try.prog 11 #[.string (nm tags s)] w fun e w' => e = .returned (.tuple #[.bool false, .bool false, .bool false, .bool true]) ∧ w = w' := by
  refine (kind_calls _ w (by rw [nm_size]; simp [tags]; omega)).mono ?_
  rintro e w' ⟨rfl, rfl⟩
  rw [nm_data, pre_self, pre_not 5 (by decide) (by simp [heads, tags]), pre_not 5 (by decide) (by simp [notes, tags]), pre_not 5 (by decide) (by simp [tags, remotes])]
  exact ⟨rfl, rfl⟩
theorem kind4 (s : ByteArray) (w : World) (hs : s.size ≤ 1000) (h : small s.data.toList = true) :
    Calls Try.prog 11 #[.string s] w fun e w' => e = .returned (.tuple #[.bool false, .bool false, .bool false, .bool false]) ∧ w = w' := by
  refine (kind_calls _ w (by omega)).mono ?_
  rintro e w' ⟨rfl, rfl⟩
  rw [small_no _ _ h rfl, small_no _ _ h rfl, small_no _ _ h rfl, small_no _ _ h rfl]
  exact ⟨rfl, rfl⟩

theorem kind0' (s r : ByteArray) (w : World) (hs : s.size ≤ 1000) (hr : r.size ≤ 1000) :
    Calls Try.prog 11 #[.string (({ data := #[114, 101, 102, 115, 47, 104, 101, 97, 100, 115, 47] } : ByteArray) ++ s)] w fun e w' => e = .returned (.tuple #[.bool true, .bool false, .bool false, .bool false]) ∧ w = w' := kind0 s w hs
theorem kind1' (s r : ByteArray) (w : World) (hs : s.size ≤ 1000) (hr : r.size ≤ 1000) :
    Calls Try.prog 11 #[.string (({ data := #[114, 101, 102, 115, 47, 110, 111, 116, 101, 115, 47] } : ByteArray) ++ s)] w fun e w' => e = .returned (.tuple #[.bool false, .bool true, .bool false, .bool false]) ∧ w = w' := kind1 s w hs
theorem kind2' (s r : ByteArray) (w : World) (hs : s.size ≤ 1000) (hr : r.size ≤ 1000) :
    Calls Try.prog 11 #[.string (({ data := #[114, 101, 102, 115, 47, 114, 101, 109, 111, 116, 101, 115, 47] } : ByteArray) ++ r ++ { data := #[47] } ++ s)] w fun e w' => e = .returned (.tuple #[.bool false, .bool false, .bool true, .bool false]) ∧ w = w' := kind2 s r w hs hr
theorem kind3' (s r : ByteArray) (w : World) (hs : s.size ≤ 1000) (hr : r.size ≤ 1000) :
    Calls Try.prog 11 #[.string (({ data := #[114, 101, 102, 115, 47, 116, 97, 103, 115, 47] } : ByteArray) ++ s)] w fun e w' => e = .returned (.tuple #[.bool false, .bool false, .bool false, .bool true]) ∧ w = w' := kind3 s w hs
theorem main_calls (s r : ByteArray) (w : World) (h0 : s.size + r.size ≤ 1000) (h1 : Hid (small s.data.toList = true)) (h2 : Hid (small r.data.toList = true)) :
    Calls Try.prog 5 #[.string s, .string r] w fun e w' => e = .returned (.bool true) ∧ Below w.heap.size w w' := by
  have hs : s.size ≤ 1000 := by omega
  have hr : r.size ≤ 1000 := by omega
  go_enter Try.func5, Try.ntmps5
  go_wp2_with fail
  refine (small_calls s _ (by omega)).mono ?_
  rintro e w' ⟨rfl, rfl⟩
  rw [h1.out]
  go_wp2_with fail
  refine (small_calls r _ (by omega)).mono ?_
  rintro e w' ⟨rfl, rfl⟩
  rw [h2.out]
  go_wp2_with fail
  go_loop [5, 6, 7, 8, 9, 10, 47] (fun _ _ _ _ _ _ i => ∃ k : Nat, k ≤ 5 ∧ i = .int .i64 k) (fun _ _ _ _ _ _ i => 5 - (intOf i).toNat)
  case atStart => exact ⟨0, by omega, rfl⟩
  case round =>
    obtain ⟨k, hk, rfl⟩ := hrel
    by_cases hlt : k < 5
    · obtain rfl | rfl | rfl | rfl | rfl : k = 0 ∨ k = 1 ∨ k = 2 ∨ k = 3 ∨ k = 4 := by omega
      · go_wp2_with fail
        refine (kind0' s r _ hs hr).mono ?_
        rintro e w' ⟨rfl, rfl⟩
        go_wp2_with fail
        go_round
        case rel => exact ⟨1, by omega, rfl⟩
        case measure => simp [intOf]
      · go_wp2_with fail
        refine (kind1' s r _ hs hr).mono ?_
        rintro e w' ⟨rfl, rfl⟩
        go_wp2_with fail
        go_round
        case rel => exact ⟨2, by omega, rfl⟩
        case measure => simp [intOf]
      · go_wp2_with fail
        refine (kind2' s r _ hs hr).mono ?_
        rintro e w' ⟨rfl, rfl⟩
        go_wp2_with fail
        go_round
        case rel => exact ⟨3, by omega, rfl⟩
        case measure => simp [intOf]
      · go_wp2_with fail
        refine (kind3' s r _ hs hr).mono ?_
        rintro e w' ⟨rfl, rfl⟩
        go_wp2_with fail
        go_round
        case rel => exact ⟨4, by omega, rfl⟩
        case measure => simp [intOf]
      · go_wp2_with fail
        refine (kind4 s _ hs h1.out).mono ?_
        rintro e w' ⟨rfl, rfl⟩
        go_wp2_with fail
        go_round
        case rel => exact ⟨5, by omega, rfl⟩
        case measure => simp [intOf]
    · obtain rfl : k = 5 := by omega
      go_wp2_with fail
      go_ret
      exact ⟨rfl, (Below.refl _ _).alloc (Nat.le_refl _) _⟩

theorem law_calls (s r : ByteArray) (w : World) (hs : s.size ≤ 140737488351232) (hr : r.size ≤ 140737488351232) :
    Calls Try.prog 5 #[.string s, .string r] w fun e w' => e = .returned (.bool true) ∧ Below w.heap.size w w' := by
  by_cases c1 : 2147483647 < s.size
  · go_enter Try.func5, Try.ntmps5
    go_wp2_with fail
    go_ret
    exact ⟨rfl, Below.refl _ _⟩
  by_cases c2 : 2147483647 < r.size
  · go_enter Try.func5, Try.ntmps5
    go_wp2_with fail
    go_ret
    exact ⟨rfl, Below.refl _ _⟩
  by_cases c3 : 1000 < s.size + r.size
  · have c4 : (1000 : Int) < s.size + r.size := by omega
    go_enter Try.func5, Try.ntmps5
    go_wp2_with fail
    go_ret
    exact ⟨rfl, Below.refl _ _⟩
  cases h1 : small s.data.toList with
  | false =>
    have H1 := hid h1; clear h1
    have c4 : ¬ (1000 : Int) < s.size + r.size := by omega
    go_enter Try.func5, Try.ntmps5
    go_wp2_with fail
    refine (small_calls s _ hs).mono ?_
    rintro e w' ⟨rfl, rfl⟩
    rw [H1.out]
    go_wp2_with fail
    go_ret
    exact ⟨rfl, Below.refl _ _⟩
  | true =>
    cases h2 : small r.data.toList with
    | false =>
      have H1 := hid h1; clear h1
      have H2 := hid h2; clear h2
      have c4 : ¬ (1000 : Int) < s.size + r.size := by omega
      go_enter Try.func5, Try.ntmps5
      go_wp2_with fail
      refine (small_calls s _ hs).mono ?_
      rintro e w' ⟨rfl, rfl⟩
      rw [H1.out]
      go_wp2_with fail
      refine (small_calls r _ hr).mono ?_
      rintro e w' ⟨rfl, rfl⟩
      rw [H2.out]
      go_wp2_with fail
      go_ret
      exact ⟨rfl, Below.refl _ _⟩
    | true => exact main_calls s r w (by omega) h1 h2

theorem own : ownKnob Try.prog.godebug = none := by kernel_rfl
set_option maxRecDepth 100000 in
theorem lifted (os : Os) (started : os.Started) (H : Type) (enc : TypeId × Value → H) :
    ReturnsInHanded {} Try.checked os 5 .any (Rows.fnRefKindsSpec.pre6 enc Try.prog Try.f5 Rows.fnRefKindsRow.domain false) (Rows.fnRefKindsSpec.post enc Try.prog Try.f5 false true false false) := by
  refine returnsInHanded_of_change_sized (C := Try.checked) own started (by kernel_rfl) Try.func5
    (ChangeSpec.witness6 (enc := enc) (C := Try.checked) false ⟨#[], #[.string ByteArray.empty, .string ByteArray.empty], []⟩ 8 (by kernel_rfl) (by kernel_rfl) (by kernel_rfl) (by kernel_rfl)) ?_
  intro W base args ds gs before hval0 hW hcnd hsz0 _
  have hsz : (DataW.weightsEach Try.prog (Try.f5.params.toList ++ Rows.fnRefKindsSpec.plain.varTypes Try.prog) (ds ++ gs)).all (· ≤ reachBytes) = true := hsz0
  have hval : ∀ (j : Nat) t v, Try.f5.params[j]? = some t → args[j]? = some v → Value.okWide Try.prog W .any base t v := hval0
  have hW' := hW
  obtain ⟨p, q, hA0, hV, rfl, hfz, hnd⟩ := hW
  have hA : DataW.TrodAll enc Try.prog W 0 (fun _ => true) true Try.f5.params.toList args.toList ds p := hA0
  rw [Try.params5] at hA hval hsz
  obtain ⟨v0, vs0, d0, ds0, p0, q0, hargs, rfl, rfl, h0, r0⟩ := trodAll_cons hA
  obtain ⟨v1, vs1, d1, ds1, p1, q1, rfl, rfl, rfl, h1, r1⟩ := trodAll_cons r0
  obtain ⟨rfl, rfl, rfl⟩ := trodAll_nil r1
  obtain rfl : args = #[v0, v1] := by cases args; simp_all
  obtain ⟨rfl, rfl⟩ := trodVars_none hV
  obtain ⟨a0, rfl, rfl, rfl, y0⟩ := open_string Try.underlying9 (hval 0 9 v0 rfl rfl) h0
  have w0 : a0.size ≤ 140737488351232 := by
    have z := sized_string hsz (j := 0) (t := 9) rfl rfl
    rw [Array.length_toList] at z
    exact z
  obtain ⟨a1, rfl, rfl, rfl, y1⟩ := open_string Try.underlying9 (hval 1 9 v1 rfl rfl) h1
  have w1 : a1.size ≤ 140737488351232 := by
    have z := sized_string hsz (j := 1) (t := 9) rfl rfl
    rw [Array.length_toList] at z
    exact z
  clear hA0 hval0 hsz0 hsz
  refine (law_calls a0 a1 W w0 w1).mono fun e W' ⟨he, bel⟩ => ?_
  subst he
  exact ⟨_, rfl, _, _, _, [], _, [], hW', trodAll_mk1 (shut_bool Try.underlying4 _), (trodAll_cons_mk (shut_string Try.underlying9 y0) (trodAll_cons_mk (shut_string Try.underlying9 y1) trodAll_mk0)), rfl, bel.frame _, fun h => by cases h⟩
theorem over : Rows.fnRefKindsRow.holds Try.pinned (OpenSpec.ofChange Rows.fnRefKindsSpec) :=
  OpenClaim.holds_of_wide 5 Try.f5 rfl rfl rfl rfl rfl rfl rfl ⟨rfl, rfl, rfl, rfl, rfl⟩ rfl rfl rfl rfl rfl (by kernel_rfl) Try.func5 (by kernel_rfl)
    (of_decide_eq_true (by kernel_rfl)) (by unfold Func.isWrapper; first | (rw [if_pos (by decide +kernel)]; kernel_rfl) | (rw [if_neg (by decide +kernel)]; exact ⟨rfl, rfl⟩))
    (fun os started H enc _ => lifted os started H enc)
theorem proved : Rows.FnRefKindsSaid := over
end Go.Proofs.Ytplhhgcejajmoaa.refKinds
