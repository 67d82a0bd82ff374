/-
  DERIVED. GIVEN WITH THE SEED: THE CARDS: each row of YtdbkafpflicdiaaDoorRows.lean that lists a variable, with what it lists TIED to the program's text (the seventh form; the later family's looks); each row that meets fmt, with fmt's text TOLD by the authors' own Lean function (tested against real Go, not proved from fmt's source: count such statements apart). THE CARD IS WHAT COUNTS. Prove the row's statement (the work); the ties are given (YtdbkafpflicdiaaDoorTie.lean); close each card by the builder's one call (the guide's Derived/Test/ToyasCard.lean, 'card_holds'). Laid BY PROGRAM, IN A SANDBOX (cutbox-door.mjs). By AI agents, Wed Nov 11 2026. No macro, syntax, notation, axiom, sorry.
-/
import Derived.Test.YtdbkafpflicdiaaDoorRows
import GoSem.ClaimSeven
namespace Go.Proofs.YtdbkafpflicdiaaDoor
namespace Rows

/-- THE TIED CARD OF 'laws.FnObjHeld'. -/
def fnObjHeldCard : Claim7 := { stood := { row := fnObjHeldRow, standIns := [], harness := (true, "b26c1ace4002be2a88e36388ed4ba77b39a6b9d76fb75941d68ff0027b3952fd"), looks := true }, kinds := [], alts := [], laidByText := true, laidKinds := [.data, .data, .data, .sentinel], laidTests := true, laidLooks := .later }
def FnObjHeldCardSaid : Prop := Claim7.holds Tryd.pinned (.plain (OpenSpec.ofChange fnObjHeldSpec)) fnObjHeldCard

/-- THE SECOND FORM's CARD OF 'laws.FnObjHeld'. -/
def fnObjHeldUptoCard : Claim7 := { stood := { row := fnObjHeldUptoRow, standIns := [], harness := (true, "b26c1ace4002be2a88e36388ed4ba77b39a6b9d76fb75941d68ff0027b3952fd"), looks := true }, kinds := [], alts := [], laidByText := true, laidKinds := [.data, .data, .data, .sentinel], laidTests := true, laidLooks := .later }
def FnObjHeldUptoCardSaid : Prop := Claim7.holds Tryd.pinned (.plain (OpenSpec.upto fnObjHeldSpec)) fnObjHeldUptoCard
end Rows
end Go.Proofs.YtdbkafpflicdiaaDoor
