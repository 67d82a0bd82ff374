/- The row of FnConfHas, out of the walk cf.has_row. -/
import Derived.Test.YtmhcbgmnhcfhfaaDoorRows
import Derived.Test.YtmhcbgmnhcfhfaaDoorLaw
import Derived.Test.YtmhcbgmnhcfhfaaDoorChTop
import Derived.Test.YtmhcbgmnhcfhfaaDoorCards
import Derived.Test.YtmhcbgmnhcfhfaaDoorTie
import Derived.WalkKit
import Derived.ProofKit
import Derived.OpenShut
import Derived.SizedLaws
import Derived.Deep.DeepHandedRow
import Derived.JoinedCond
import Derived.LaidMore
import Derived.Lay
import Derived.MakeChecks
set_option linter.unusedVariables false
namespace Go.Proofs.YtmhcbgmnhcfhfaaDoor.rowFnConfHas
open Go.ChangeShapes Go.WideShapes Go.ChangeAt Go.RowKit
open Go.ChangeMaps (open_string shut_string)
theorem own : ownKnob Tryd.prog.godebug = none := by kernel_rfl
theorem laidOut : laidOutB Tryd.prog = true := by kernel_rfl
abbrev laidHere : List (String × DataW Unit) := Rows.fnConfHasRow.laid
theorem met (os : Os) : laidMetH Tryd.prog laidHere (((World.laidAll Tryd.prog os laidHere)).forCall (fun _ _ => 0) ⟨#[], #[.slice none 0 0, .string ByteArray.empty, .string ByteArray.empty, .string ByteArray.empty, .string ByteArray.empty], []⟩).memory :=
  by rw [MakeChecks.laidMetH_plain _ _ _ (by kernel_rfl)]; exact laidMet_laidAll _ (by kernel_rfl) (by kernel_rfl)
theorem shaped (os : Os) : (((World.laidAll Tryd.prog os laidHere)).forCall (fun _ _ => 0) ⟨#[], #[.slice none 0 0, .string ByteArray.empty, .string ByteArray.empty, .string ByteArray.empty, .string ByteArray.empty], []⟩).Shaped Tryd.prog := World.shaped_of_ZipB (by kernel_rfl) (by kernel_rfl)
set_option maxRecDepth 100000 in
theorem contract (H : Type) (enc : TypeId × Value → H) (W : World) (base : Nat) (args : Array Value) (ds gs : List (DataW H)) (before : List MemPlace)
    (hval0 : ∀ (j : Nat) t v, Tryd.f4.params[j]? = some t → args[j]? = some v → Value.okWide Tryd.prog W .any base t v)
    (hW : DataW.Whole enc Tryd.prog Tryd.f4.params.toList Rows.fnConfHasSpec.vars false W args.toList ds gs before)
    (hsz0 : (DataW.weightsEach Tryd.prog (Tryd.f4.params.toList ++ (OpenSpec.ofChange Rows.fnConfHasSpec).bare.plain.varTypes Tryd.prog) (ds ++ gs)).all (· ≤ reachBytes) = true)
    (hL : laidMetH Tryd.prog laidHere W) (hsh : W.ShapedOpen Tryd.prog) :
    Calls Tryd.prog 4 args W fun e W' => ∃ v, e = .returned v ∧ Rows.fnConfHasSpec.post enc Tryd.prog Tryd.f4 false true false false W args v W' := by
  have hW' := hW
  obtain ⟨p, q, hA0, hV, rfl, hfz, hnd⟩ := hW
  have hA : DataW.TrodAll enc Tryd.prog W 0 (fun _ => true) true Tryd.f4.params.toList args.toList ds p := hA0
  have hval : ∀ (j : Nat) t v, Tryd.f4.params[j]? = some t → args[j]? = some v → Value.okWide Tryd.prog W .any base t v := hval0
  have hsz : (DataW.weightsEach Tryd.prog (Tryd.f4.params.toList ++ (OpenSpec.ofChange Rows.fnConfHasSpec).bare.plain.varTypes Tryd.prog) (ds ++ gs)).all (· ≤ reachBytes) = true := hsz0
  rw [Tryd.params4] at hA hval hsz
  obtain ⟨v0, vs0, d0, ds0, p0, q0, hargs, rfl, rfl, h0, r0⟩ := trodAll_cons hA
  obtain ⟨v1, vs1, d1, ds1, p1, q1, rfl, rfl, rfl, h1, r1⟩ := trodAll_cons r0
  obtain ⟨v2, vs2, d2, ds2, p2, q2, rfl, rfl, rfl, h2, r2⟩ := trodAll_cons r1
  obtain ⟨v3, vs3, d3, ds3, p3, q3, rfl, rfl, rfl, h3, r3⟩ := trodAll_cons r2
  obtain ⟨v4, vs4, d4, ds4, p4, q4, rfl, rfl, rfl, h4, r4⟩ := trodAll_cons r3
  obtain ⟨rfl, rfl, rfl⟩ := trodAll_nil r4
  obtain rfl : args = #[v0, v1, v2, v3, v4] := by cases args; simp_all
  have z0 : ∀ n ∈ d0.weights Tryd.prog 28, n ≤ reachBytes := fun n hn => by simpa using List.all_eq_true.1 hsz n (DataW.weights_mem_each (j := 0) (t := 28) rfl rfl n hn)
  obtain ⟨a1, rfl, rfl, rfl, y1⟩ := open_string Tryd.underlying9 (hval 1 9 v1 rfl rfl) h1
  have w1 : a1.size ≤ 140737488351232 := by
    have z := sized_string hsz (j := 1) (t := 9) rfl rfl
    rw [Array.length_toList] at z
    exact z
  obtain ⟨a2, rfl, rfl, rfl, y2⟩ := open_string Tryd.underlying9 (hval 2 9 v2 rfl rfl) h2
  have w2 : a2.size ≤ 140737488351232 := by
    have z := sized_string hsz (j := 2) (t := 9) rfl rfl
    rw [Array.length_toList] at z
    exact z
  obtain ⟨a3, rfl, rfl, rfl, y3⟩ := open_string Tryd.underlying9 (hval 3 9 v3 rfl rfl) h3
  have w3 : a3.size ≤ 140737488351232 := by
    have z := sized_string hsz (j := 3) (t := 9) rfl rfl
    rw [Array.length_toList] at z
    exact z
  obtain ⟨a4, rfl, rfl, rfl, y4⟩ := open_string Tryd.underlying9 (hval 4 9 v4 rfl rfl) h4
  have w4 : a4.size ≤ 140737488351232 := by
    have z := sized_string hsz (j := 4) (t := 9) rfl rfl
    rw [Array.length_toList] at z
    exact z
  refine (cf.has_row W base v0 d0 p0 h0 (hval 0 28 v0 rfl rfl) z0 a1 w1 a2 w2 a3 w3 a4 w4 hL hsh).mono fun e W' ⟨he, hb⟩ => ?_
  subst he
  obtain ⟨rfl, rfl⟩ := trodVars_none hV
  exact ⟨_, rfl, law.post_true laidOut (by kernel_rfl) (by kernel_rfl) rfl Tryd.underlying4 hW' hb rfl⟩
set_option maxRecDepth 100000 in
theorem lifted (os : Os) (started : os.Started) (H : Type) (enc : TypeId × Value → H) (F : Stop.Interp) :
    ReturnsInHanded {} Tryd.checked os 4 .any ((OpenSpec.ofChange Rows.fnConfHasSpec).preRow enc Tryd.prog Tryd.f4 Rows.fnConfHasRow.domain false laidHere) (((OpenSpec.ofChange Rows.fnConfHasSpec).at F).post enc Tryd.prog Tryd.f4 false true false false) := by
  refine returnsInHanded_of_row (C := Tryd.checked) (s := (OpenSpec.ofChange Rows.fnConfHasSpec)) own started (by kernel_rfl) Tryd.func4 ?_ ?_
  · refine ⟨(World.laidAll Tryd.prog os laidHere), fun _ _ => 0, ⟨#[], #[.slice none 0 0, .string ByteArray.empty, .string ByteArray.empty, .string ByteArray.empty, .string ByteArray.empty], []⟩, rfl, shaped os, rfl, (Input.okWide_of_okWideB (by kernel_rfl)).2, ?_, by simp [Assume.holds]⟩
    exact ⟨⟨ChangeSpec.pre_of_preB (s := Rows.fnConfHasSpec) (fuel := 8) (by kernel_rfl), met os⟩, sizedMet_of_sizedB (s := Rows.fnConfHasSpec) (fuel := 8) (by kernel_rfl)⟩
  · intro W base args ds gs before hval hW _ hcond hsz hL hsh _
    exact contract H enc W base args ds gs before hval hW hsz hL hsh
theorem said : Rows.FnConfHasSaid :=
  OpenClaim.holds_of_cond 4 Tryd.f4 rfl rfl rfl rfl rfl rfl rfl ⟨rfl, rfl, rfl, rfl, rfl⟩ rfl rfl rfl rfl rfl (by kernel_rfl) Tryd.func4 (by kernel_rfl)
    (of_decide_eq_true (by kernel_rfl)) (by unfold Func.isWrapper; first | (rw [if_pos (by decide +kernel)]; kernel_rfl) | (rw [if_neg (by decide +kernel)]; exact ⟨rfl, rfl⟩))
    (fun os started H enc _ F => by rw [OpenClaim.pre_eq_preRow]; exact lifted os started H enc F)
theorem plain (f : FuncId) (fn : Func) (hf : Tryd.pinned.checked.prog.funcNamed Rows.fnConfHasRow.func = some f) (hfn : Tryd.pinned.checked.prog.funcs[f]? = some fn) :
    true = Tryd.pinned.checked.prog.looks [] ∧ ∀ (j : Nat) t, fn.params[j]? = some t → Tryd.pinned.checked.prog.wantsStandIn t = false := by
  obtain rfl : f = 4 := Option.some.inj ((show Tryd.prog.funcNamed Rows.fnConfHasRow.func = some 4 by kernel_rfl).symm.trans hf) |>.symm
  obtain rfl : fn = Tryd.f4 := (Option.some.inj (Tryd.func4.symm.trans hfn)).symm
  refine ⟨by kernel_rfl, fun j t ht => ?_⟩
  have hall : (Tryd.f4.params.toList.all fun t => !Tryd.prog.wantsStandIn t) = true := by kernel_rfl
  have := List.all_eq_true.1 hall t (by simpa using Array.mem_of_getElem? ht)
  show Tryd.prog.wantsStandIn t = false
  simpa using this
theorem card : Rows.FnConfHasCardSaid :=
  Claim7.holds_tied_plain_at .later [] _ _ _ _ said (fun _ h => by cases h) (by kernel_rfl) (fun _ h => by cases h) fnConfHas_row_tie rfl ⟨rfl, rfl⟩ (by kernel_rfl) rfl plain (by kernel_rfl)
end Go.Proofs.YtmhcbgmnhcfhfaaDoor.rowFnConfHas
