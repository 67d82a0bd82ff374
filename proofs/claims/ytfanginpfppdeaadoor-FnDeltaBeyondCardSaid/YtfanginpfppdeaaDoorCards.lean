/-
  DERIVED. GIVEN WITH THE SEED: THE CARDS: each row of YtfanginpfppdeaaDoorRows.lean that lists a variable, with what it lists TIED to the program's text (the seventh form; the later family's looks); each row that meets fmt, with fmt's text TOLD by the authors' own Lean function (tested against real Go, not proved from fmt's source: count such statements apart). THE CARD IS WHAT COUNTS. Prove the row's statement (the work); the ties are given (YtfanginpfppdeaaDoorTie.lean); close each card by the builder's one call (the guide's Derived/Test/ToyasCard.lean, 'card_holds'). Laid BY PROGRAM, IN A SANDBOX (cutbox-door.mjs). By AI agents, Wed Nov 11 2026. No macro, syntax, notation, axiom, sorry.
-/
import Derived.Test.YtfanginpfppdeaaDoorRows
import GoSem.ClaimSeven
namespace Go.Proofs.YtfanginpfppdeaaDoor
namespace Rows

/-- THE TIED CARD OF 'laws.FnDeltaAny'. -/
def fnDeltaAnyCard : Claim7 := { stood := { row := fnDeltaAnyRow, standIns := [], harness := (true, "c9dddbf65415733b3580dd424ec5a2b1810e418780c94c262e34bcc7698ccfc6"), looks := false }, kinds := [], alts := [], laidByText := true, laidKinds := [.sentinel, .sentinel, .sentinel, .data, .data, .sentinel], laidTests := true, laidLooks := .later }
def FnDeltaAnyCardSaid : Prop := Claim7.holds Tryd.pinned (.plain (OpenSpec.ofChange fnDeltaAnySpec)) fnDeltaAnyCard

/-- THE TIED CARD OF 'laws.FnDeltaBeyond'. -/
def fnDeltaBeyondCard : Claim7 := { stood := { row := fnDeltaBeyondRow, standIns := [], harness := (true, "c9dddbf65415733b3580dd424ec5a2b1810e418780c94c262e34bcc7698ccfc6"), looks := false }, kinds := [], alts := [], laidByText := true, laidKinds := [.sentinel, .sentinel, .sentinel, .data, .data, .sentinel], laidTests := true, laidLooks := .later }
def FnDeltaBeyondCardSaid : Prop := Claim7.holds Tryd.pinned (.plain (OpenSpec.ofChange fnDeltaBeyondSpec)) fnDeltaBeyondCard

/-- THE TIED CARD OF 'laws.FnDeltaCopy'. -/
def fnDeltaCopyCard : Claim7 := { stood := { row := fnDeltaCopyRow, standIns := [], harness := (true, "c9dddbf65415733b3580dd424ec5a2b1810e418780c94c262e34bcc7698ccfc6"), looks := false }, kinds := [], alts := [], laidByText := true, laidKinds := [.sentinel, .sentinel, .sentinel, .data, .data, .sentinel], laidTests := true, laidLooks := .later }
def FnDeltaCopyCardSaid : Prop := Claim7.holds Tryd.pinned (.plain (OpenSpec.ofChange fnDeltaCopySpec)) fnDeltaCopyCard

/-- THE SECOND FORM's CARD OF 'laws.FnDeltaAny'. -/
def fnDeltaAnyUptoCard : Claim7 := { stood := { row := fnDeltaAnyUptoRow, standIns := [], harness := (true, "c9dddbf65415733b3580dd424ec5a2b1810e418780c94c262e34bcc7698ccfc6"), looks := false }, kinds := [], alts := [], laidByText := true, laidKinds := [.sentinel, .sentinel, .sentinel, .data, .data, .sentinel], laidTests := true, laidLooks := .later }
def FnDeltaAnyUptoCardSaid : Prop := Claim7.holds Tryd.pinned (.plain (OpenSpec.upto fnDeltaAnySpec)) fnDeltaAnyUptoCard

/-- THE SECOND FORM's CARD OF 'laws.FnDeltaBeyond'. -/
def fnDeltaBeyondUptoCard : Claim7 := { stood := { row := fnDeltaBeyondUptoRow, standIns := [], harness := (true, "c9dddbf65415733b3580dd424ec5a2b1810e418780c94c262e34bcc7698ccfc6"), looks := false }, kinds := [], alts := [], laidByText := true, laidKinds := [.sentinel, .sentinel, .sentinel, .data, .data, .sentinel], laidTests := true, laidLooks := .later }
def FnDeltaBeyondUptoCardSaid : Prop := Claim7.holds Tryd.pinned (.plain (OpenSpec.upto fnDeltaBeyondSpec)) fnDeltaBeyondUptoCard

/-- THE SECOND FORM's CARD OF 'laws.FnDeltaCopy'. -/
def fnDeltaCopyUptoCard : Claim7 := { stood := { row := fnDeltaCopyUptoRow, standIns := [], harness := (true, "c9dddbf65415733b3580dd424ec5a2b1810e418780c94c262e34bcc7698ccfc6"), looks := false }, kinds := [], alts := [], laidByText := true, laidKinds := [.sentinel, .sentinel, .sentinel, .data, .data, .sentinel], laidTests := true, laidLooks := .later }
def FnDeltaCopyUptoCardSaid : Prop := Claim7.holds Tryd.pinned (.plain (OpenSpec.upto fnDeltaCopySpec)) fnDeltaCopyUptoCard
end Rows
end Go.Proofs.YtfanginpfppdeaaDoor
