/- The row of FnDeltaBeyond, out of the walk delta.beyond_row. -/
import Derived.Test.YtfanginpfppdeaaDoorRows
import Derived.Test.YtfanginpfppdeaaDoorLaw
import Derived.Test.YtfanginpfppdeaaDoorDeltaTwoTop
import Derived.Test.YtfanginpfppdeaaDoorCards
import Derived.Test.YtfanginpfppdeaaDoorTie
import Derived.WalkKit
import Derived.ProofKit
import Derived.OpenShut
import Derived.SizedLaws
import Derived.Deep.DeepHandedRow
import Derived.JoinedCond
import Derived.LaidMore
set_option linter.unusedVariables false
namespace Go.Proofs.YtfanginpfppdeaaDoor.rowFnDeltaBeyond
open Go.ChangeShapes Go.WideShapes Go.ChangeAt Go.RowKit
open Go.ChangeMaps (open_string shut_string)
theorem own : ownKnob Tryd.prog.godebug = none := by kernel_rfl
theorem laidOut : laidOutB Tryd.prog = true := by kernel_rfl
abbrev laidHere : List (String × DataW Unit) := Rows.fnDeltaBeyondRow.laid
theorem met (os : Os) : laidMetH Tryd.prog laidHere (((World.doorLaid Tryd.prog 400 os)).forCall (fun _ _ => 0) ⟨#[], #[.slice none 0 0, .int .i64 0, .int .i64 0], []⟩).memory :=
  laidMetH_of_parts3 (fuel := 8) (laidMet_of_run' 8 (by kernel_rfl) (by kernel_rfl)) (by kernel_rfl) (by kernel_rfl)
theorem shaped (os : Os) : (((World.doorLaid Tryd.prog 400 os)).forCall (fun _ _ => 0) ⟨#[], #[.slice none 0 0, .int .i64 0, .int .i64 0], []⟩).Shaped Tryd.prog := World.shaped_of_RefB (by kernel_rfl) (by kernel_rfl)
set_option maxRecDepth 100000 in
theorem contract (H : Type) (enc : TypeId × Value → H) (W : World) (base : Nat) (args : Array Value) (ds gs : List (DataW H)) (before : List MemPlace)
    (hval0 : ∀ (j : Nat) t v, Tryd.f4.params[j]? = some t → args[j]? = some v → Value.okWide Tryd.prog W .any base t v)
    (hW : DataW.Whole enc Tryd.prog Tryd.f4.params.toList Rows.fnDeltaBeyondSpec.vars false W args.toList ds gs before)
    (hsz0 : (DataW.weightsEach Tryd.prog (Tryd.f4.params.toList ++ (OpenSpec.ofChange Rows.fnDeltaBeyondSpec).bare.plain.varTypes Tryd.prog) (ds ++ gs)).all (· ≤ reachBytes) = true)
    (hL : laidMetH Tryd.prog laidHere W) (hsh : W.ShapedOpen Tryd.prog) :
    Calls Tryd.prog 4 args W fun e W' => ∃ v, e = .returned v ∧ Rows.fnDeltaBeyondSpec.post enc Tryd.prog Tryd.f4 false true false false W args v W' := by
  have hW' := hW
  obtain ⟨p, q, hA0, hV, rfl, hfz, hnd⟩ := hW
  have hA : DataW.TrodAll enc Tryd.prog W 0 (fun _ => true) true Tryd.f4.params.toList args.toList ds p := hA0
  have hval : ∀ (j : Nat) t v, Tryd.f4.params[j]? = some t → args[j]? = some v → Value.okWide Tryd.prog W .any base t v := hval0
  have hsz : (DataW.weightsEach Tryd.prog (Tryd.f4.params.toList ++ (OpenSpec.ofChange Rows.fnDeltaBeyondSpec).bare.plain.varTypes Tryd.prog) (ds ++ gs)).all (· ≤ reachBytes) = true := hsz0
  rw [Tryd.params4] at hA hval hsz
  obtain ⟨v0, vs0, d0, ds0, p0, q0, hargs, rfl, rfl, h0, r0⟩ := trodAll_cons hA
  obtain ⟨v1, vs1, d1, ds1, p1, q1, rfl, rfl, rfl, h1, r1⟩ := trodAll_cons r0
  obtain ⟨v2, vs2, d2, ds2, p2, q2, rfl, rfl, rfl, h2, r2⟩ := trodAll_cons r1
  obtain ⟨rfl, rfl, rfl⟩ := trodAll_nil r2
  obtain rfl : args = #[v0, v1, v2] := by cases args; simp_all
  have z0 : ∀ n ∈ d0.weights Tryd.prog 22, n ≤ reachBytes := fun n hn => by simpa using List.all_eq_true.1 hsz n (DataW.weights_mem_each (j := 0) (t := 22) rfl rfl n hn)
  obtain ⟨a1, rfl, rfl, rfl, w1⟩ := open_int Tryd.underlying3 (hval 1 3 v1 rfl rfl) h1
  obtain ⟨a2, rfl, rfl, rfl, w2⟩ := open_int Tryd.underlying3 (hval 2 3 v2 rfl rfl) h2
  refine (delta.beyond_row W base v0 d0 p0 h0 (hval 0 22 v0 rfl rfl) z0 a1 w1 a2 w2 hL hsh).mono fun e W' ⟨he, hb⟩ => ?_
  subst he
  have hlen := law.vars_length hV
  rcases gs with _ | ⟨g0, gs⟩
  · simp [Rows.fnDeltaBeyondSpec] at hlen
  rcases gs with _ | ⟨g1, gs⟩
  · simp [Rows.fnDeltaBeyondSpec] at hlen
  rcases gs with _ | ⟨g2, gs⟩
  · simp [Rows.fnDeltaBeyondSpec] at hlen
  rcases gs with _ | ⟨g3, gs⟩
  · simp [Rows.fnDeltaBeyondSpec] at hlen
  rcases gs with _ | ⟨g4, gs⟩
  · simp [Rows.fnDeltaBeyondSpec] at hlen
  rcases gs with _ | ⟨_, _⟩
  rotate_left
  · simp [Rows.fnDeltaBeyondSpec] at hlen
  exact ⟨_, rfl, law.post_true laidOut (by kernel_rfl) (by kernel_rfl) rfl Tryd.underlying4 hW' hb rfl⟩
set_option maxRecDepth 100000 in
theorem lifted (os : Os) (started : os.Started) (H : Type) (enc : TypeId × Value → H) (F : Stop.Interp) :
    ReturnsInHanded {} Tryd.checked os 4 .any ((OpenSpec.ofChange Rows.fnDeltaBeyondSpec).preRow enc Tryd.prog Tryd.f4 Rows.fnDeltaBeyondRow.domain false laidHere) (((OpenSpec.ofChange Rows.fnDeltaBeyondSpec).at F).post enc Tryd.prog Tryd.f4 false true false false) := by
  refine returnsInHanded_of_row (C := Tryd.checked) (s := (OpenSpec.ofChange Rows.fnDeltaBeyondSpec)) own started (by kernel_rfl) Tryd.func4 ?_ ?_
  · refine ⟨(World.doorLaid Tryd.prog 400 os), fun _ _ => 0, ⟨#[], #[.slice none 0 0, .int .i64 0, .int .i64 0], []⟩, rfl, shaped os, rfl, (Input.okWide_of_okWideB (by kernel_rfl)).2, ?_, by simp [Assume.holds]⟩
    exact ⟨⟨ChangeSpec.pre_of_preB (s := Rows.fnDeltaBeyondSpec) (fuel := 8) (by kernel_rfl), met os⟩, sizedMet_of_sizedB (s := Rows.fnDeltaBeyondSpec) (fuel := 8) (by kernel_rfl)⟩
  · intro W base args ds gs before hval hW _ hcond hsz hL hsh _
    exact contract H enc W base args ds gs before hval hW hsz hL hsh
theorem said : Rows.FnDeltaBeyondSaid :=
  OpenClaim.holds_of_cond 4 Tryd.f4 rfl rfl rfl rfl rfl rfl rfl ⟨rfl, rfl, rfl, rfl, rfl⟩ rfl rfl rfl rfl rfl (by kernel_rfl) Tryd.func4 (by kernel_rfl)
    (of_decide_eq_true (by kernel_rfl)) (by unfold Func.isWrapper; first | (rw [if_pos (by decide +kernel)]; kernel_rfl) | (rw [if_neg (by decide +kernel)]; exact ⟨rfl, rfl⟩))
    (fun os started H enc _ F => by rw [OpenClaim.pre_eq_preRow]; exact lifted os started H enc F)
theorem plain (f : FuncId) (fn : Func) (hf : Tryd.pinned.checked.prog.funcNamed Rows.fnDeltaBeyondRow.func = some f) (hfn : Tryd.pinned.checked.prog.funcs[f]? = some fn) :
    false = Tryd.pinned.checked.prog.looks [] ∧ ∀ (j : Nat) t, fn.params[j]? = some t → Tryd.pinned.checked.prog.wantsStandIn t = false := by
  obtain rfl : f = 4 := Option.some.inj ((show Tryd.prog.funcNamed Rows.fnDeltaBeyondRow.func = some 4 by kernel_rfl).symm.trans hf) |>.symm
  obtain rfl : fn = Tryd.f4 := (Option.some.inj (Tryd.func4.symm.trans hfn)).symm
  refine ⟨by kernel_rfl, fun j t ht => ?_⟩
  have hall : (Tryd.f4.params.toList.all fun t => !Tryd.prog.wantsStandIn t) = true := by kernel_rfl
  have := List.all_eq_true.1 hall t (by simpa using Array.mem_of_getElem? ht)
  show Tryd.prog.wantsStandIn t = false
  simpa using this
theorem card : Rows.FnDeltaBeyondCardSaid :=
  Claim7.holds_tied_plain_at .later [] _ _ _ _ said (fun _ h => by cases h) (by kernel_rfl) (fun _ h => by cases h) fnDeltaBeyond_row_tie rfl ⟨rfl, rfl⟩ (by kernel_rfl) rfl plain (by kernel_rfl)
end Go.Proofs.YtfanginpfppdeaaDoor.rowFnDeltaBeyond
