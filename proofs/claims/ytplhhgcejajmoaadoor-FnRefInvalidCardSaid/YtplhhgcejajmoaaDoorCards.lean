/-
  DERIVED. GIVEN WITH THE SEED: THE CARDS: each row of YtplhhgcejajmoaaDoorRows.lean that lists a variable, with what it lists TIED to the program's text (the seventh form; the later family's looks); each row that meets fmt, with fmt's text TOLD by the authors' own Lean function (tested against real Go, not proved from fmt's source: count such statements apart). THE CARD IS WHAT COUNTS. Prove the row's statement (the work); the ties are given (YtplhhgcejajmoaaDoorTie.lean); close each card by the builder's one call (the guide's Derived/Test/ToyasCard.lean, 'card_holds'). Laid BY PROGRAM, IN A SANDBOX (cutbox-door.mjs). By AI agents, Wed Nov 11 2026. No macro, syntax, notation, axiom, sorry.
-/
import Derived.Test.YtplhhgcejajmoaaDoorRows
import GoSem.ClaimSeven
namespace Go.Proofs.YtplhhgcejajmoaaDoor
namespace Rows

/-- THE TIED CARD OF 'laws.FnObjIsHash'. -/
def fnObjIsHashCard : Claim7 := { stood := { row := fnObjIsHashRow, standIns := [], harness := (true, "97a1079c9b9695ef823c990c30c8291615052ce5fbf2102860385d1c30f08d89"), looks := false }, kinds := [], alts := [], laidByText := true, laidKinds := [.sentinel], laidTests := true, laidLooks := .later }
def FnObjIsHashCardSaid : Prop := Claim7.holds Tryd.pinned (.plain (OpenSpec.ofChange fnObjIsHashSpec)) fnObjIsHashCard

/-- THE TIED CARD OF 'laws.FnRefInvalid'. -/
def fnRefInvalidCard : Claim7 := { stood := { row := fnRefInvalidRow, standIns := [], harness := (true, "97a1079c9b9695ef823c990c30c8291615052ce5fbf2102860385d1c30f08d89"), looks := false }, kinds := [], alts := [], laidByText := true, laidKinds := [.sentinel], laidTests := true, laidLooks := .later }
def FnRefInvalidCardSaid : Prop := Claim7.holds Tryd.pinned (.plain (OpenSpec.ofChange fnRefInvalidSpec)) fnRefInvalidCard

/-- THE TIED CARD OF 'laws.FnIdxFind'. -/
def fnIdxFindCard : Claim7 := { stood := { row := fnIdxFindRow, standIns := [], harness := (true, "97a1079c9b9695ef823c990c30c8291615052ce5fbf2102860385d1c30f08d89"), looks := false }, kinds := [], alts := [], laidByText := true, laidKinds := [.sentinel, .sentinel], laidTests := true, laidLooks := .later }
def FnIdxFindCardSaid : Prop := Claim7.holds Tryd.pinned (.plain (OpenSpec.ofChange fnIdxFindSpec)) fnIdxFindCard

/-- THE SECOND FORM's CARD OF 'laws.FnObjIsHash'. -/
def fnObjIsHashUptoCard : Claim7 := { stood := { row := fnObjIsHashUptoRow, standIns := [], harness := (true, "97a1079c9b9695ef823c990c30c8291615052ce5fbf2102860385d1c30f08d89"), looks := false }, kinds := [], alts := [], laidByText := true, laidKinds := [.sentinel], laidTests := true, laidLooks := .later }
def FnObjIsHashUptoCardSaid : Prop := Claim7.holds Tryd.pinned (.plain (OpenSpec.upto fnObjIsHashSpec)) fnObjIsHashUptoCard

/-- THE SECOND FORM's CARD OF 'laws.FnRefInvalid'. -/
def fnRefInvalidUptoCard : Claim7 := { stood := { row := fnRefInvalidUptoRow, standIns := [], harness := (true, "97a1079c9b9695ef823c990c30c8291615052ce5fbf2102860385d1c30f08d89"), looks := false }, kinds := [], alts := [], laidByText := true, laidKinds := [.sentinel], laidTests := true, laidLooks := .later }
def FnRefInvalidUptoCardSaid : Prop := Claim7.holds Tryd.pinned (.plain (OpenSpec.upto fnRefInvalidSpec)) fnRefInvalidUptoCard

/-- THE SECOND FORM's CARD OF 'laws.FnIdxFind'. -/
def fnIdxFindUptoCard : Claim7 := { stood := { row := fnIdxFindUptoRow, standIns := [], harness := (true, "97a1079c9b9695ef823c990c30c8291615052ce5fbf2102860385d1c30f08d89"), looks := false }, kinds := [], alts := [], laidByText := true, laidKinds := [.sentinel, .sentinel], laidTests := true, laidLooks := .later }
def FnIdxFindUptoCardSaid : Prop := Claim7.holds Tryd.pinned (.plain (OpenSpec.upto fnIdxFindSpec)) fnIdxFindUptoCard
end Rows
end Go.Proofs.YtplhhgcejajmoaaDoor
