/- The row of FnObjHeld, out of the walk ob.held_row. -/
import Derived.Test.YtdbkafpflicdiaaDoorRows
import Derived.Test.YtdbkafpflicdiaaDoorLaw
import Derived.Test.YtdbkafpflicdiaaDoorObTop
import Derived.Test.YtdbkafpflicdiaaDoorCards
import Derived.Test.YtdbkafpflicdiaaDoorTie
import Derived.WalkKit
import Derived.ProofKit
import Derived.OpenShut
import Derived.SizedLaws
import Derived.Deep.DeepHandedRow
import Derived.JoinedCond
import Derived.LaidMore
import Derived.Lay
import Derived.MakeChecks
set_option linter.unusedVariables false
namespace Go.Proofs.YtdbkafpflicdiaaDoor.rowFnObjHeld
open Go.ChangeShapes Go.WideShapes Go.ChangeAt Go.RowKit
open Go.ChangeMaps (open_string shut_string)
theorem own : ownKnob Tryd.prog.godebug = none := by kernel_rfl
theorem laidOut : laidOutB Tryd.prog = true := by kernel_rfl
abbrev laidHere : List (String × DataW Unit) := Rows.fnObjHeldRow.laid
theorem met (os : Os) : laidMetH Tryd.prog laidHere (((World.doorLaid Tryd.prog 400 os)).forCall (fun _ _ => 0) ⟨#[], #[.int .i64 0, .slice none 0 0], []⟩).memory :=
  laidMetH_of_parts3 (fuel := 8) (laidMet_of_run' 8 (by kernel_rfl) (by kernel_rfl)) (by kernel_rfl) (by kernel_rfl)
theorem shaped (os : Os) : (((World.doorLaid Tryd.prog 400 os)).forCall (fun _ _ => 0) ⟨#[], #[.int .i64 0, .slice none 0 0], []⟩).Shaped Tryd.prog := World.shaped_of_RefB (by kernel_rfl) (by kernel_rfl)
set_option maxRecDepth 100000 in
theorem contract (H : Type) (enc : TypeId × Value → H) (W : World) (base : Nat) (args : Array Value) (ds gs : List (DataW H)) (before : List MemPlace)
    (hval0 : ∀ (j : Nat) t v, Tryd.f3.params[j]? = some t → args[j]? = some v → Value.okWide Tryd.prog W .any base t v)
    (hW : DataW.Whole enc Tryd.prog Tryd.f3.params.toList Rows.fnObjHeldSpec.vars false W args.toList ds gs before)
    (hsz0 : (DataW.weightsEach Tryd.prog (Tryd.f3.params.toList ++ (OpenSpec.ofChange Rows.fnObjHeldSpec).bare.plain.varTypes Tryd.prog) (ds ++ gs)).all (· ≤ reachBytes) = true)
    (hL : laidMetH Tryd.prog laidHere W) (hsh : W.ShapedOpen Tryd.prog) :
    Calls Tryd.prog 3 args W fun e W' => ∃ v, e = .returned v ∧ Rows.fnObjHeldSpec.post enc Tryd.prog Tryd.f3 false true false false W args v W' := by
  have hW' := hW
  obtain ⟨p, q, hA0, hV, rfl, hfz, hnd⟩ := hW
  have hA : DataW.TrodAll enc Tryd.prog W 0 (fun _ => true) true Tryd.f3.params.toList args.toList ds p := hA0
  have hval : ∀ (j : Nat) t v, Tryd.f3.params[j]? = some t → args[j]? = some v → Value.okWide Tryd.prog W .any base t v := hval0
  have hsz : (DataW.weightsEach Tryd.prog (Tryd.f3.params.toList ++ (OpenSpec.ofChange Rows.fnObjHeldSpec).bare.plain.varTypes Tryd.prog) (ds ++ gs)).all (· ≤ reachBytes) = true := hsz0
  rw [Tryd.params3] at hA hval hsz
  obtain ⟨v0, vs0, d0, ds0, p0, q0, hargs, rfl, rfl, h0, r0⟩ := trodAll_cons hA
  obtain ⟨v1, vs1, d1, ds1, p1, q1, rfl, rfl, rfl, h1, r1⟩ := trodAll_cons r0
  obtain ⟨rfl, rfl, rfl⟩ := trodAll_nil r1
  obtain rfl : args = #[v0, v1] := by cases args; simp_all
  obtain ⟨a0, rfl, rfl, rfl, w0⟩ := open_int Tryd.underlying3 (hval 0 3 v0 rfl rfl) h0
  have z1 : ∀ n ∈ d1.weights Tryd.prog 22, n ≤ reachBytes := fun n hn => by simpa using List.all_eq_true.1 hsz n (DataW.weights_mem_each (j := 1) (t := 22) rfl rfl n hn)
  refine (ob.held_row W a0 w0 base v1 d1 p1 h1 (hval 1 22 v1 rfl rfl) z1 hL hsh).mono fun e W' ⟨he, hb⟩ => ?_
  subst he
  obtain ⟨rfl, rfl⟩ := trodVars_none hV
  exact ⟨_, rfl, law.post_true laidOut (by kernel_rfl) (by kernel_rfl) rfl Tryd.underlying4 hW' hb rfl⟩
set_option maxRecDepth 100000 in
theorem lifted (os : Os) (started : os.Started) (H : Type) (enc : TypeId × Value → H) (F : Stop.Interp) :
    ReturnsInHanded {} Tryd.checked os 3 .any ((OpenSpec.ofChange Rows.fnObjHeldSpec).preRow enc Tryd.prog Tryd.f3 Rows.fnObjHeldRow.domain false laidHere) (((OpenSpec.ofChange Rows.fnObjHeldSpec).at F).post enc Tryd.prog Tryd.f3 false true false false) := by
  refine returnsInHanded_of_row (C := Tryd.checked) (s := (OpenSpec.ofChange Rows.fnObjHeldSpec)) own started (by kernel_rfl) Tryd.func3 ?_ ?_
  · refine ⟨(World.doorLaid Tryd.prog 400 os), fun _ _ => 0, ⟨#[], #[.int .i64 0, .slice none 0 0], []⟩, rfl, shaped os, rfl, (Input.okWide_of_okWideB (by kernel_rfl)).2, ?_, by simp [Assume.holds]⟩
    exact ⟨⟨ChangeSpec.pre_of_preB (s := Rows.fnObjHeldSpec) (fuel := 8) (by kernel_rfl), met os⟩, sizedMet_of_sizedB (s := Rows.fnObjHeldSpec) (fuel := 8) (by kernel_rfl)⟩
  · intro W base args ds gs before hval hW _ hcond hsz hL hsh _
    exact contract H enc W base args ds gs before hval hW hsz hL hsh
theorem said : Rows.FnObjHeldSaid :=
  OpenClaim.holds_of_cond 3 Tryd.f3 rfl rfl rfl rfl rfl rfl rfl ⟨rfl, rfl, rfl, rfl, rfl⟩ rfl rfl rfl rfl rfl (by kernel_rfl) Tryd.func3 (by kernel_rfl)
    (of_decide_eq_true (by kernel_rfl)) (by unfold Func.isWrapper; first | (rw [if_pos (by decide +kernel)]; kernel_rfl) | (rw [if_neg (by decide +kernel)]; exact ⟨rfl, rfl⟩))
    (fun os started H enc _ F => by rw [OpenClaim.pre_eq_preRow]; exact lifted os started H enc F)
theorem plain (f : FuncId) (fn : Func) (hf : Tryd.pinned.checked.prog.funcNamed Rows.fnObjHeldRow.func = some f) (hfn : Tryd.pinned.checked.prog.funcs[f]? = some fn) :
    true = Tryd.pinned.checked.prog.looks [] ∧ ∀ (j : Nat) t, fn.params[j]? = some t → Tryd.pinned.checked.prog.wantsStandIn t = false := by
  obtain rfl : f = 3 := Option.some.inj ((show Tryd.prog.funcNamed Rows.fnObjHeldRow.func = some 3 by kernel_rfl).symm.trans hf) |>.symm
  obtain rfl : fn = Tryd.f3 := (Option.some.inj (Tryd.func3.symm.trans hfn)).symm
  refine ⟨by kernel_rfl, fun j t ht => ?_⟩
  have hall : (Tryd.f3.params.toList.all fun t => !Tryd.prog.wantsStandIn t) = true := by kernel_rfl
  have := List.all_eq_true.1 hall t (by simpa using Array.mem_of_getElem? ht)
  show Tryd.prog.wantsStandIn t = false
  simpa using this
theorem card : Rows.FnObjHeldCardSaid :=
  Claim7.holds_tied_plain_at .later [] _ _ _ _ said (fun _ h => by cases h) (by kernel_rfl) (fun _ h => by cases h) fnObjHeld_row_tie rfl ⟨rfl, rfl⟩ (by kernel_rfl) rfl plain (by kernel_rfl)
end Go.Proofs.YtdbkafpflicdiaaDoor.rowFnObjHeld
