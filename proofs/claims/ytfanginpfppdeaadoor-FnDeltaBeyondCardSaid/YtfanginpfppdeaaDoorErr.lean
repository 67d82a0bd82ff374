/- A listed sentinel error's cell. -/
import Derived.Test.YtfanginpfppdeaaDoorProg
import Derived.ProofKit
import Derived.Stop.LaidErr
import Derived.LaidEql
import Derived.MakeChecks
set_option linter.unusedVariables false
namespace Go.Proofs.YtfanginpfppdeaaDoor.err
open Go.ChangeShapes Go.WideShapes Go.RowKit

theorem errName (u : TypeId) (h : Tryd.prog.typeName? 3 u = some "*errors.errorString") : u = 73 :=
  typeName_ptr_named (nm := "errors.errorString") (by rw [show "*" ++ "errors.errorString" = "*errors.errorString" from by decide]; kernel_rfl) (by kernel_rfl) (by decide) u (by rw [show "*" ++ "errors.errorString" = "*errors.errorString" from by decide]; exact h)
theorem sentinel {n : String} {g : Nat} {text : List UInt8} {r : List (String × DataW Unit)} {W : World} (hg : Tryd.prog.globalNamed n = some g) (ht : (Tryd.prog.globals[g]?).map (·.type) = some 44)
    (h : laidMet Tryd.prog ((n, .iface "*errors.errorString" (.ptr (.agg [.lit (.string text)]))) :: r) W) : ∃ a : Addr, W.cell? ⟨g, 0, none⟩ = some (.iface 73 (.pointer (some a))) := by
  obtain ⟨a, _, hv, _⟩ := laid_sentinel h hg ht Tryd.underlying44 errName Tryd.underlying73 Tryd.underlying92 rfl rfl Tryd.underlying9 (by kernel_rfl) (by kernel_rfl)
  exact ⟨a, by simpa using World.var?_cell hg hv 0⟩
theorem plainLaid {laid : List (String × DataW Unit)} {W : World} (h : laidMetH Tryd.prog laid W) (hp : (laid.all fun x => x.2.handleName?.isNone) = true) : laidMet Tryd.prog laid W := by
  rw [MakeChecks.laidMetH_plain _ _ _ hp] at h; exact h
end Go.Proofs.YtfanginpfppdeaaDoor.err
