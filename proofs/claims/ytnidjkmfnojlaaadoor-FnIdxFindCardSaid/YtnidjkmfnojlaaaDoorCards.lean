/-
  DERIVED. GIVEN WITH THE SEED: THE CARDS: each row of YtnidjkmfnojlaaaDoorRows.lean that lists a variable, with what it lists TIED to the program's text (the seventh form; the later family's looks); each row that meets fmt, with fmt's text TOLD by the authors' own Lean function (tested against real Go, not proved from fmt's source: count such statements apart). THE CARD IS WHAT COUNTS. Prove the row's statement (the work); the ties are given (YtnidjkmfnojlaaaDoorTie.lean); close each card by the builder's one call (the guide's Derived/Test/ToyasCard.lean, 'card_holds'). Laid BY PROGRAM, IN A SANDBOX (cutbox-door.mjs). By AI agents, Wed Nov 11 2026. No macro, syntax, notation, axiom, sorry.
-/
import Derived.Test.YtnidjkmfnojlaaaDoorRows
import GoSem.ClaimSeven
namespace Go.Proofs.YtnidjkmfnojlaaaDoor
namespace Rows

/-- THE TIED CARD OF 'laws.FnIdxFind'. -/
def fnIdxFindCard : Claim7 := { stood := { row := fnIdxFindRow, standIns := [], harness := (true, "f1966ea86e411b30adcbb21eac2b04a49b15a94ccf22929853c8080f1a6e9aef"), looks := true }, kinds := [], alts := [], laidByText := true, laidKinds := [.sentinel, .sentinel], laidTests := true, laidLooks := .later }
def FnIdxFindCardSaid : Prop := Claim7.holds Tryd.pinned (.plain (OpenSpec.ofChange fnIdxFindSpec)) fnIdxFindCard

/-- THE TIED CARD OF 'laws.FnPktJoined'. -/
def fnPktJoinedCard : Claim7 := { stood := { row := fnPktJoinedRow, standIns := [], harness := (true, "f1966ea86e411b30adcbb21eac2b04a49b15a94ccf22929853c8080f1a6e9aef"), looks := true }, kinds := [], alts := [], laidByText := true, laidKinds := [.data, .sentinel, .sentinel, .sentinel, .listed, .data, .sentinel, .pinned], laidTests := true, laidLooks := .later }
def FnPktJoinedCardSaid : Prop := Claim7.holds Tryd.pinned (.plain (OpenSpec.ofChange fnPktJoinedSpec)) fnPktJoinedCard

/-- THE SECOND FORM's CARD OF 'laws.FnIdxFind'. -/
def fnIdxFindUptoCard : Claim7 := { stood := { row := fnIdxFindUptoRow, standIns := [], harness := (true, "f1966ea86e411b30adcbb21eac2b04a49b15a94ccf22929853c8080f1a6e9aef"), looks := true }, kinds := [], alts := [], laidByText := true, laidKinds := [.sentinel, .sentinel], laidTests := true, laidLooks := .later }
def FnIdxFindUptoCardSaid : Prop := Claim7.holds Tryd.pinned (.plain (OpenSpec.upto fnIdxFindSpec)) fnIdxFindUptoCard

/-- THE SECOND FORM's CARD OF 'laws.FnPktJoined'. -/
def fnPktJoinedUptoCard : Claim7 := { stood := { row := fnPktJoinedUptoRow, standIns := [], harness := (true, "f1966ea86e411b30adcbb21eac2b04a49b15a94ccf22929853c8080f1a6e9aef"), looks := true }, kinds := [], alts := [], laidByText := true, laidKinds := [.data, .sentinel, .sentinel, .sentinel, .listed, .data, .sentinel, .pinned], laidTests := true, laidLooks := .later }
def FnPktJoinedUptoCardSaid : Prop := Claim7.holds Tryd.pinned (.plain (OpenSpec.upto fnPktJoinedSpec)) fnPktJoinedUptoCard
end Rows
end Go.Proofs.YtnidjkmfnojlaaaDoor
