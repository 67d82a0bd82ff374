/-
  DERIVED. GIVEN WITH THE SEED: THE CARDS: each row of YtmhcbgmnhcfhfaaDoorRows.lean that lists a variable, with what it lists TIED to the program's text (the seventh form; the later family's looks); each row that meets fmt, with fmt's text TOLD by the authors' own Lean function (tested against real Go, not proved from fmt's source: count such statements apart). THE CARD IS WHAT COUNTS. Prove the row's statement (the work); the ties are given (YtmhcbgmnhcfhfaaDoorTie.lean); close each card by the builder's one call (the guide's Derived/Test/ToyasCard.lean, 'card_holds'). Laid BY PROGRAM, IN A SANDBOX (cutbox-door.mjs). By AI agents, Wed Nov 11 2026. No macro, syntax, notation, axiom, sorry.
-/
import Derived.Test.YtmhcbgmnhcfhfaaDoorRows
import GoSem.ClaimSeven
namespace Go.Proofs.YtmhcbgmnhcfhfaaDoor
namespace Rows

/-- THE TIED CARD OF 'laws.FnWhoText'. -/
def fnWhoTextCard : Claim7 := { stood := { row := fnWhoTextRow, standIns := [], harness := (true, "f73557e74cda92aa5d4004046d2a0dfdf5b9d0b7698081330b4fd6c80cdca4e6"), looks := true }, kinds := [], alts := [], laidByText := true, laidKinds := [.data, .data, .data], laidTests := true, laidLooks := .later }
def FnWhoTextCardSaid : Prop := Claim7.holds Tryd.pinned (.plain (OpenSpec.ofChange fnWhoTextSpec)) fnWhoTextCard

/-- THE TIED CARD OF 'laws.FnConfHas'. -/
def fnConfHasCard : Claim7 := { stood := { row := fnConfHasRow, standIns := [], harness := (true, "f73557e74cda92aa5d4004046d2a0dfdf5b9d0b7698081330b4fd6c80cdca4e6"), looks := true }, kinds := [], alts := [], laidByText := true, laidKinds := [.data, .data, .data, .pinned, .pinned], laidTests := true, laidLooks := .later }
def FnConfHasCardSaid : Prop := Claim7.holds Tryd.pinned (.plain (OpenSpec.ofChange fnConfHasSpec)) fnConfHasCard

/-- THE SECOND FORM's CARD OF 'laws.FnWhoText'. -/
def fnWhoTextUptoCard : Claim7 := { stood := { row := fnWhoTextUptoRow, standIns := [], harness := (true, "f73557e74cda92aa5d4004046d2a0dfdf5b9d0b7698081330b4fd6c80cdca4e6"), looks := true }, kinds := [], alts := [], laidByText := true, laidKinds := [.data, .data, .data], laidTests := true, laidLooks := .later }
def FnWhoTextUptoCardSaid : Prop := Claim7.holds Tryd.pinned (.plain (OpenSpec.upto fnWhoTextSpec)) fnWhoTextUptoCard

/-- THE SECOND FORM's CARD OF 'laws.FnConfHas'. -/
def fnConfHasUptoCard : Claim7 := { stood := { row := fnConfHasUptoRow, standIns := [], harness := (true, "f73557e74cda92aa5d4004046d2a0dfdf5b9d0b7698081330b4fd6c80cdca4e6"), looks := true }, kinds := [], alts := [], laidByText := true, laidKinds := [.data, .data, .data, .pinned, .pinned], laidTests := true, laidLooks := .later }
def FnConfHasUptoCardSaid : Prop := Claim7.holds Tryd.pinned (.plain (OpenSpec.upto fnConfHasSpec)) fnConfHasUptoCard
end Rows
end Go.Proofs.YtmhcbgmnhcfhfaaDoor
