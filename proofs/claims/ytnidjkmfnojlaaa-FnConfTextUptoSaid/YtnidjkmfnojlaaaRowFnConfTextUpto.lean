/- The row of FnConfText, out of the walk cf.text_row. -/
import Derived.Test.YtnidjkmfnojlaaaRows
import Derived.Test.YtnidjkmfnojlaaaLaw
import Derived.Test.YtnidjkmfnojlaaaCfLaw
import Derived.WalkKit
import Derived.ProofKit
import Derived.OpenShut
import Derived.SizedLaws
import Derived.Deep.DeepHandedRow
import Derived.JoinedCond
import Derived.LaidMore
import Derived.Lay
import Derived.MakeChecks
set_option linter.unusedVariables false
namespace Go.Proofs.Ytnidjkmfnojlaaa.rowFnConfTextUpto
open Go.ChangeShapes Go.WideShapes Go.ChangeAt Go.RowKit
open Go.ChangeMaps (open_string shut_string)
theorem own : ownKnob Try.prog.godebug = none := by kernel_rfl
theorem laidOut : laidOutB Try.prog = true := by kernel_rfl
abbrev laidHere : List (String × DataW Unit) := Rows.fnConfTextUptoRow.laid
theorem one_le {H : Type} (d : DataW H) : 1 ≤ Rows.uptoBulk d := by
  cases d with
  | lit l => cases l <;> simp [Rows.uptoBulk]
  | nil => simp [Rows.uptoBulk]
  | ptr d => simp [Rows.uptoBulk]
  | slice elems spare => simp [Rows.uptoBulk]
  | agg parts => simp [Rows.uptoBulk]
  | iface t d => simp [Rows.uptoBulk]
  | map entries => simp [Rows.uptoBulk]
  | held h => simp [Rows.uptoBulk]
theorem part_le {H : Type} {d : DataW H} {l : List (DataW H)} (h : d ∈ l) : Rows.uptoBulk d ≤ Rows.uptoBulkAll l := by
  induction l with
  | nil => cases h
  | cons x r ih =>
    simp only [Rows.uptoBulkAll]
    cases List.mem_cons.1 h with
    | inl e => subst e; omega
    | inr e => have := ih e; omega
theorem met (os : Os) : laidMetH Try.prog laidHere (((World.holding Try.prog os ⟨#[], #[], []⟩)).forCall (fun _ _ => 0) ⟨#[], #[.slice none 0 0], []⟩).memory :=
  laidMet_of_run' 8 (by kernel_rfl) (by kernel_rfl)
theorem shaped (os : Os) : (((World.holding Try.prog os ⟨#[], #[], []⟩)).forCall (fun _ _ => 0) ⟨#[], #[.slice none 0 0], []⟩).Shaped Try.prog := World.shaped_of_RefB (by kernel_rfl) (by kernel_rfl)
set_option maxRecDepth 100000 in
theorem contract (H : Type) (enc : TypeId × Value → H) (W : World) (base : Nat) (args : Array Value) (ds gs : List (DataW H)) (before : List MemPlace)
    (hval0 : ∀ (j : Nat) t v, Try.f3.params[j]? = some t → args[j]? = some v → Value.okWide Try.prog W .any base t v)
    (hW : DataW.Whole enc Try.prog Try.f3.params.toList Rows.fnConfTextSpec.vars false W args.toList ds gs before)
    (hsz0 : (DataW.weightsEach Try.prog (Try.f3.params.toList ++ (OpenSpec.ofChange Rows.fnConfTextSpec).bare.plain.varTypes Try.prog) (ds ++ gs)).all (· ≤ reachBytes) = true)
    (hk : Rows.uptoSmall H (ds ++ gs) = true)
    (hL : laidMetH Try.prog laidHere W) (hsh : W.ShapedOpen Try.prog) :
    Calls Try.prog 3 args W fun e W' => ∃ v, e = .returned v ∧ Rows.fnConfTextSpec.post enc Try.prog Try.f3 false true false false W args v W' := by
  have hW' := hW
  obtain ⟨p, q, hA0, hV, rfl, hfz, hnd⟩ := hW
  have hA : DataW.TrodAll enc Try.prog W 0 (fun _ => true) true Try.f3.params.toList args.toList ds p := hA0
  have hval : ∀ (j : Nat) t v, Try.f3.params[j]? = some t → args[j]? = some v → Value.okWide Try.prog W .any base t v := hval0
  have hsz : (DataW.weightsEach Try.prog (Try.f3.params.toList ++ (OpenSpec.ofChange Rows.fnConfTextSpec).bare.plain.varTypes Try.prog) (ds ++ gs)).all (· ≤ reachBytes) = true := hsz0
  rw [Try.params3] at hA hval hsz
  obtain ⟨v0, vs0, d0, ds0, p0, q0, hargs, rfl, rfl, h0, r0⟩ := trodAll_cons hA
  obtain ⟨rfl, rfl, rfl⟩ := trodAll_nil r0
  obtain rfl : args = #[v0] := by cases args; simp_all
  have z0 : ∀ n ∈ d0.weights Try.prog 22, n ≤ reachBytes := fun n hn => by simpa using List.all_eq_true.1 hsz n (DataW.weights_mem_each (j := 0) (t := 22) rfl rfl n hn)
  have b0 : Rows.uptoBulk d0 ≤ 1048576 := Nat.le_trans (part_le (l := _) (by simp)) (show Rows.uptoBulkAll _ ≤ 1048576 from of_decide_eq_true hk)
  refine (cf.text_row W base v0 d0 p0 h0 (hval 0 22 v0 rfl rfl) z0 b0 hsh).mono fun e W' ⟨he, hb⟩ => ?_
  subst he
  obtain ⟨rfl, rfl⟩ := trodVars_none hV
  exact ⟨_, rfl, law.post_true laidOut (by kernel_rfl) (by kernel_rfl) rfl Try.underlying4 hW' hb rfl⟩
set_option maxRecDepth 100000 in
theorem lifted (os : Os) (started : os.Started) (H : Type) (enc : TypeId × Value → H) (F : Stop.Interp) :
    ReturnsInHanded {} Try.checked os 3 .any ((Rows.OpenSpec.upto Rows.fnConfTextSpec).preRow enc Try.prog Try.f3 Rows.fnConfTextUptoRow.domain false laidHere) (((Rows.OpenSpec.upto Rows.fnConfTextSpec).at F).post enc Try.prog Try.f3 false true false false) := by
  refine returnsInHanded_of_row (C := Try.checked) (s := (Rows.OpenSpec.upto Rows.fnConfTextSpec)) own started (by kernel_rfl) Try.func3 ?_ ?_
  · refine ⟨(World.holding Try.prog os ⟨#[], #[], []⟩), fun _ _ => 0, ⟨#[], #[.slice none 0 0], []⟩, rfl, shaped os, rfl, (Input.okWide_of_okWideB (by kernel_rfl)).2, ?_, by simp [Assume.holds]⟩
    have hS : ((DataW.whole enc Try.prog (((World.holding Try.prog os ⟨#[], #[], []⟩)).forCall (fun _ _ => 0) ⟨#[], #[.slice none 0 0], []⟩).memory Try.f3.params.toList Rows.fnConfTextSpec.vars false (#[.slice none 0 0] : Array Value).toList 8).any fun x =>
      Rows.fnConfTextUptoRow.domain.all (PathCond.test Try.prog ⟨Try.f3.params.toList, x.1, (Rows.OpenSpec.upto Rows.fnConfTextSpec).bare.plain.varTypes Try.prog, x.2.1⟩) && Rows.uptoSmall H (x.1 ++ x.2.1)) = true := by kernel_rfl
    obtain ⟨x, hx, hp⟩ := (Option.any_eq_true _ _).1 hS
    rw [Bool.and_eq_true] at hp
    exact OpenSpec.preRow_of_cond 8 hx hp.1 (fun k hk => by cases hk; exact hp.2) (by kernel_rfl) (met os)
  · intro W base args ds gs before hval hW _ hcond hsz hL hsh _
    exact contract H enc W base args ds gs before hval hW hsz (hcond _ rfl) hL hsh
theorem said : Rows.FnConfTextUptoSaid :=
  OpenClaim.holds_of_cond 3 Try.f3 rfl rfl rfl rfl rfl rfl rfl ⟨rfl, rfl, rfl, rfl, rfl⟩ rfl rfl rfl rfl rfl (by kernel_rfl) Try.func3 (by kernel_rfl)
    (of_decide_eq_true (by kernel_rfl)) (by unfold Func.isWrapper; first | (rw [if_pos (by decide +kernel)]; kernel_rfl) | (rw [if_neg (by decide +kernel)]; exact ⟨rfl, rfl⟩))
    (fun os started H enc _ F => by rw [OpenClaim.pre_eq_preRow]; exact lifted os started H enc F)
end Go.Proofs.Ytnidjkmfnojlaaa.rowFnConfTextUpto
