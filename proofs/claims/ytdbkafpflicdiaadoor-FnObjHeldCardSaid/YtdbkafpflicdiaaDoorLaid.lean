/- From what a row lists to what the walks ask: the list's rest, a table of integers. Of any program. -/
import Derived.Test.YtdbkafpflicdiaaDoorProg
import Derived.ProofKit
import Derived.LaidEql
import Derived.MakeChecks
import Derived.Lib.LaidTab
import Derived.Lib.SmallJoins
set_option linter.unusedVariables false
namespace Go.Proofs.YtdbkafpflicdiaaDoor.laid
open Go.ChangeShapes Go.WideShapes Go.RowKit

theorem plainLaid {laid : List (String × DataW Unit)} {W : World} (h : laidMetH Tryd.prog laid W) (hp : (laid.all fun x => x.2.handleName?.isNone) = true) : laidMet Tryd.prog laid W := by
  rw [MakeChecks.laidMetH_plain _ _ _ hp] at h; exact h
theorem laid_tail {P : Program} {x : String × DataW Unit} {r : List (String × DataW Unit)} {W : World} (h : laidMet P (x :: r) W) : laidMet P r W := by
  obtain ⟨ps, ⟨g', t', cs, fuel, p, q, hg', ht', hvar, hd, hl, hps⟩, hnd, hc⟩ := h
  subst hps
  exact ⟨q, hl, (List.nodup_append.1 hnd).2.1, fun b off hm => hc b off (List.mem_append_right _ hm)⟩
end Go.Proofs.YtdbkafpflicdiaaDoor.laid
