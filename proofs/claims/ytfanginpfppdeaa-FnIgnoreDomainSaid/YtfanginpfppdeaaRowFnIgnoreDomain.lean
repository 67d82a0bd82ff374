/- The row of FnIgnoreDomain, out of the walk glob.domain_row. -/
import Derived.Test.YtfanginpfppdeaaRows
import Derived.Test.YtfanginpfppdeaaLaw
import Derived.Test.YtfanginpfppdeaaIgTop2
import Derived.WalkKit
import Derived.ProofKit
import Derived.OpenShut
import Derived.SizedLaws
import Derived.Deep.DeepHandedRow
import Derived.JoinedCond
import Derived.LaidMore
set_option linter.unusedVariables false
namespace Go.Proofs.Ytfanginpfppdeaa.rowFnIgnoreDomain
open Go.ChangeShapes Go.WideShapes Go.ChangeAt Go.RowKit
open Go.ChangeMaps (open_string shut_string)
theorem own : ownKnob Try.prog.godebug = none := by kernel_rfl
theorem laidOut : laidOutB Try.prog = true := by kernel_rfl
abbrev laidHere : List (String × DataW Unit) := Rows.fnIgnoreDomainRow.laid
theorem met (os : Os) : laidMetH Try.prog laidHere (((World.holding Try.prog os ⟨#[], #[], []⟩)).forCall (fun _ _ => 0) ⟨#[], #[.slice none 0 0, .bool false, .slice none 0 0, .slice none 0 0, .bool false], []⟩).memory :=
  laidMet_of_run' 8 (by kernel_rfl) (by kernel_rfl)
theorem shaped (os : Os) : (((World.holding Try.prog os ⟨#[], #[], []⟩)).forCall (fun _ _ => 0) ⟨#[], #[.slice none 0 0, .bool false, .slice none 0 0, .slice none 0 0, .bool false], []⟩).Shaped Try.prog := World.shaped_of_RefB (by kernel_rfl) (by kernel_rfl)
set_option maxRecDepth 100000 in
theorem contract (H : Type) (enc : TypeId × Value → H) (W : World) (base : Nat) (args : Array Value) (ds gs : List (DataW H)) (before : List MemPlace)
    (hval0 : ∀ (j : Nat) t v, Try.f4.params[j]? = some t → args[j]? = some v → Value.okWide Try.prog W .any base t v)
    (hW : DataW.Whole enc Try.prog Try.f4.params.toList Rows.fnIgnoreDomainSpec.vars false W args.toList ds gs before)
    (hsz0 : (DataW.weightsEach Try.prog (Try.f4.params.toList ++ (OpenSpec.ofChange Rows.fnIgnoreDomainSpec).bare.plain.varTypes Try.prog) (ds ++ gs)).all (· ≤ reachBytes) = true)
    (hL : laidMetH Try.prog laidHere W) (hsh : W.ShapedOpen Try.prog) :
    Calls Try.prog 4 args W fun e W' => ∃ v, e = .returned v ∧ Rows.fnIgnoreDomainSpec.post enc Try.prog Try.f4 false true false false W args v W' := by
  have hW' := hW
  obtain ⟨p, q, hA0, hV, rfl, hfz, hnd⟩ := hW
  have hA : DataW.TrodAll enc Try.prog W 0 (fun _ => true) true Try.f4.params.toList args.toList ds p := hA0
  have hval : ∀ (j : Nat) t v, Try.f4.params[j]? = some t → args[j]? = some v → Value.okWide Try.prog W .any base t v := hval0
  have hsz : (DataW.weightsEach Try.prog (Try.f4.params.toList ++ (OpenSpec.ofChange Rows.fnIgnoreDomainSpec).bare.plain.varTypes Try.prog) (ds ++ gs)).all (· ≤ reachBytes) = true := hsz0
  rw [Try.params4] at hA hval hsz
  obtain ⟨v0, vs0, d0, ds0, p0, q0, hargs, rfl, rfl, h0, r0⟩ := trodAll_cons hA
  obtain ⟨v1, vs1, d1, ds1, p1, q1, rfl, rfl, rfl, h1, r1⟩ := trodAll_cons r0
  obtain ⟨v2, vs2, d2, ds2, p2, q2, rfl, rfl, rfl, h2, r2⟩ := trodAll_cons r1
  obtain ⟨v3, vs3, d3, ds3, p3, q3, rfl, rfl, rfl, h3, r3⟩ := trodAll_cons r2
  obtain ⟨v4, vs4, d4, ds4, p4, q4, rfl, rfl, rfl, h4, r4⟩ := trodAll_cons r3
  obtain ⟨rfl, rfl, rfl⟩ := trodAll_nil r4
  obtain rfl : args = #[v0, v1, v2, v3, v4] := by cases args; simp_all
  have z0 : ∀ n ∈ d0.weights Try.prog 22, n ≤ reachBytes := fun n hn => by simpa using List.all_eq_true.1 hsz n (DataW.weights_mem_each (j := 0) (t := 22) rfl rfl n hn)
  obtain ⟨a1, rfl, rfl, rfl⟩ := open_bool Try.underlying4 (hval 1 4 v1 rfl rfl) h1
  have z2 : ∀ n ∈ d2.weights Try.prog 22, n ≤ reachBytes := fun n hn => by simpa using List.all_eq_true.1 hsz n (DataW.weights_mem_each (j := 2) (t := 22) rfl rfl n hn)
  have z3 : ∀ n ∈ d3.weights Try.prog 22, n ≤ reachBytes := fun n hn => by simpa using List.all_eq_true.1 hsz n (DataW.weights_mem_each (j := 3) (t := 22) rfl rfl n hn)
  obtain ⟨a4, rfl, rfl, rfl⟩ := open_bool Try.underlying4 (hval 4 4 v4 rfl rfl) h4
  refine (glob.domain_row W base v0 d0 p0 h0 (hval 0 22 v0 rfl rfl) z0 a1 base v2 d2 p2 h2 (hval 2 22 v2 rfl rfl) z2 base v3 d3 p3 h3 (hval 3 22 v3 rfl rfl) z3 a4 hsh).mono fun e W' ⟨he, hb⟩ => ?_
  subst he
  obtain ⟨rfl, rfl⟩ := trodVars_none hV
  exact ⟨_, rfl, law.post_true laidOut (by kernel_rfl) (by kernel_rfl) rfl Try.underlying4 hW' hb rfl⟩
set_option maxRecDepth 100000 in
theorem lifted (os : Os) (started : os.Started) (H : Type) (enc : TypeId × Value → H) (F : Stop.Interp) :
    ReturnsInHanded {} Try.checked os 4 .any ((OpenSpec.ofChange Rows.fnIgnoreDomainSpec).preRow enc Try.prog Try.f4 Rows.fnIgnoreDomainRow.domain false laidHere) (((OpenSpec.ofChange Rows.fnIgnoreDomainSpec).at F).post enc Try.prog Try.f4 false true false false) := by
  refine returnsInHanded_of_row (C := Try.checked) (s := (OpenSpec.ofChange Rows.fnIgnoreDomainSpec)) own started (by kernel_rfl) Try.func4 ?_ ?_
  · refine ⟨(World.holding Try.prog os ⟨#[], #[], []⟩), fun _ _ => 0, ⟨#[], #[.slice none 0 0, .bool false, .slice none 0 0, .slice none 0 0, .bool false], []⟩, rfl, shaped os, rfl, (Input.okWide_of_okWideB (by kernel_rfl)).2, ?_, by simp [Assume.holds]⟩
    exact ⟨⟨ChangeSpec.pre_of_preB (s := Rows.fnIgnoreDomainSpec) (fuel := 8) (by kernel_rfl), met os⟩, sizedMet_of_sizedB (s := Rows.fnIgnoreDomainSpec) (fuel := 8) (by kernel_rfl)⟩
  · intro W base args ds gs before hval hW _ hcond hsz hL hsh _
    exact contract H enc W base args ds gs before hval hW hsz hL hsh
theorem said : Rows.FnIgnoreDomainSaid :=
  OpenClaim.holds_of_cond 4 Try.f4 rfl rfl rfl rfl rfl rfl rfl ⟨rfl, rfl, rfl, rfl, rfl⟩ rfl rfl rfl rfl rfl (by kernel_rfl) Try.func4 (by kernel_rfl)
    (of_decide_eq_true (by kernel_rfl)) (by unfold Func.isWrapper; first | (rw [if_pos (by decide +kernel)]; kernel_rfl) | (rw [if_neg (by decide +kernel)]; exact ⟨rfl, rfl⟩))
    (fun os started H enc _ F => by rw [OpenClaim.pre_eq_preRow]; exact lifted os started H enc F)
end Go.Proofs.Ytfanginpfppdeaa.rowFnIgnoreDomain
