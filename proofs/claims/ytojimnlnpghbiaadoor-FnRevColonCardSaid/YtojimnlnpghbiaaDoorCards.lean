/-
  DERIVED. GIVEN WITH THE SEED: THE CARDS: each row of YtojimnlnpghbiaaDoorRows.lean that lists a variable, with what it lists TIED to the program's text (the seventh form; the later family's looks); each row that meets fmt, with fmt's text TOLD by the authors' own Lean function (tested against real Go, not proved from fmt's source: count such statements apart). THE CARD IS WHAT COUNTS. Prove the row's statement (the work); the ties are given (YtojimnlnpghbiaaDoorTie.lean); close each card by the builder's one call (the guide's Derived/Test/ToyasCard.lean, 'card_holds'). Laid BY PROGRAM, IN A SANDBOX (cutbox-door.mjs). By AI agents, Wed Nov 11 2026. No macro, syntax, notation, axiom, sorry.
-/
import Derived.Test.YtojimnlnpghbiaaDoorRows
import GoSem.ClaimSeven
namespace Go.Proofs.YtojimnlnpghbiaaDoor
namespace Rows

/-- THE TIED CARD OF 'laws.FnPktLong'. -/
def fnPktLongCard : Claim7 := { stood := { row := fnPktLongRow, standIns := [], harness := (true, "8c5c2580e9f01533faab7800537307d4f29deeb63e3d215f88c8d01a65cd0557"), looks := true }, kinds := [], alts := [], laidByText := true, laidKinds := [.data, .sentinel, .sentinel, .sentinel, .listed, .data, .sentinel, .sentinel, .pinned], laidTests := true, laidLooks := .later }
def FnPktLongCardSaid : Prop := Claim7.holds Tryd.pinned (.plain (OpenSpec.ofChange fnPktLongSpec)) fnPktLongCard

/-- THE TIED CARD OF 'laws.FnPktWritten'. -/
def fnPktWrittenCard : Claim7 := { stood := { row := fnPktWrittenRow, standIns := [], harness := (true, "8c5c2580e9f01533faab7800537307d4f29deeb63e3d215f88c8d01a65cd0557"), looks := true }, kinds := [], alts := [], laidByText := true, laidKinds := [.data, .sentinel, .sentinel, .sentinel, .listed, .data, .sentinel, .sentinel, .pinned], laidTests := true, laidLooks := .later }
def FnPktWrittenCardSaid : Prop := Claim7.holds Tryd.pinned (.plain (OpenSpec.ofChange fnPktWrittenSpec)) fnPktWrittenCard

/-- THE TIED CARD OF 'laws.FnRevColon'. -/
def fnRevColonCard : Claim7 := { stood := { row := fnRevColonRow, standIns := [], harness := (true, "8c5c2580e9f01533faab7800537307d4f29deeb63e3d215f88c8d01a65cd0557"), looks := true }, kinds := [], alts := [], laidByText := true, laidKinds := [.data, .data, .data, .data, .sentinel, .sentinel, .sentinel, .sentinel, .listed, .data, .sentinel, .sentinel, .pinned, .pinned, .pinned], laidTests := true, laidLooks := .later }
def FnRevColonCardSaid : Prop := Claim7.holds Tryd.pinned (.plain (OpenSpec.ofChange fnRevColonSpec)) fnRevColonCard

/-- THE TIED CARD OF 'laws.FnRevName'. -/
def fnRevNameCard : Claim7 := { stood := { row := fnRevNameRow, standIns := [], harness := (true, "8c5c2580e9f01533faab7800537307d4f29deeb63e3d215f88c8d01a65cd0557"), looks := true }, kinds := [], alts := [], laidByText := true, laidKinds := [.data, .data, .data, .data, .sentinel, .sentinel, .sentinel, .sentinel, .listed, .data, .sentinel, .sentinel, .pinned, .pinned, .pinned], laidTests := true, laidLooks := .later }
def FnRevNameCardSaid : Prop := Claim7.holds Tryd.pinned (.plain (OpenSpec.ofChange fnRevNameSpec)) fnRevNameCard

/-- THE TIED CARD OF 'laws.FnRevParents'. -/
def fnRevParentsCard : Claim7 := { stood := { row := fnRevParentsRow, standIns := [], harness := (true, "8c5c2580e9f01533faab7800537307d4f29deeb63e3d215f88c8d01a65cd0557"), looks := true }, kinds := [], alts := [], laidByText := true, laidKinds := [.data, .data, .data, .data, .sentinel, .sentinel, .sentinel, .sentinel, .listed, .data, .sentinel, .sentinel, .pinned, .pinned, .pinned], laidTests := true, laidLooks := .later }
def FnRevParentsCardSaid : Prop := Claim7.holds Tryd.pinned (.plain (OpenSpec.ofChange fnRevParentsSpec)) fnRevParentsCard

/-- THE TIED CARD OF 'laws.FnRevReflog'. -/
def fnRevReflogCard : Claim7 := { stood := { row := fnRevReflogRow, standIns := [], harness := (true, "8c5c2580e9f01533faab7800537307d4f29deeb63e3d215f88c8d01a65cd0557"), looks := true }, kinds := [], alts := [], laidByText := true, laidKinds := [.data, .data, .data, .data, .sentinel, .sentinel, .sentinel, .sentinel, .listed, .data, .sentinel, .sentinel, .pinned, .pinned, .pinned], laidTests := true, laidLooks := .later }
def FnRevReflogCardSaid : Prop := Claim7.holds Tryd.pinned (.plain (OpenSpec.ofChange fnRevReflogSpec)) fnRevReflogCard

/-- THE SECOND FORM's CARD OF 'laws.FnPktLong'. -/
def fnPktLongUptoCard : Claim7 := { stood := { row := fnPktLongUptoRow, standIns := [], harness := (true, "8c5c2580e9f01533faab7800537307d4f29deeb63e3d215f88c8d01a65cd0557"), looks := true }, kinds := [], alts := [], laidByText := true, laidKinds := [.data, .sentinel, .sentinel, .sentinel, .listed, .data, .sentinel, .sentinel, .pinned], laidTests := true, laidLooks := .later }
def FnPktLongUptoCardSaid : Prop := Claim7.holds Tryd.pinned (.plain (OpenSpec.upto fnPktLongSpec)) fnPktLongUptoCard

/-- THE SECOND FORM's CARD OF 'laws.FnPktWritten'. -/
def fnPktWrittenUptoCard : Claim7 := { stood := { row := fnPktWrittenUptoRow, standIns := [], harness := (true, "8c5c2580e9f01533faab7800537307d4f29deeb63e3d215f88c8d01a65cd0557"), looks := true }, kinds := [], alts := [], laidByText := true, laidKinds := [.data, .sentinel, .sentinel, .sentinel, .listed, .data, .sentinel, .sentinel, .pinned], laidTests := true, laidLooks := .later }
def FnPktWrittenUptoCardSaid : Prop := Claim7.holds Tryd.pinned (.plain (OpenSpec.upto fnPktWrittenSpec)) fnPktWrittenUptoCard

/-- THE SECOND FORM's CARD OF 'laws.FnRevColon'. -/
def fnRevColonUptoCard : Claim7 := { stood := { row := fnRevColonUptoRow, standIns := [], harness := (true, "8c5c2580e9f01533faab7800537307d4f29deeb63e3d215f88c8d01a65cd0557"), looks := true }, kinds := [], alts := [], laidByText := true, laidKinds := [.data, .data, .data, .data, .sentinel, .sentinel, .sentinel, .sentinel, .listed, .data, .sentinel, .sentinel, .pinned, .pinned, .pinned], laidTests := true, laidLooks := .later }
def FnRevColonUptoCardSaid : Prop := Claim7.holds Tryd.pinned (.plain (OpenSpec.upto fnRevColonSpec)) fnRevColonUptoCard

/-- THE SECOND FORM's CARD OF 'laws.FnRevName'. -/
def fnRevNameUptoCard : Claim7 := { stood := { row := fnRevNameUptoRow, standIns := [], harness := (true, "8c5c2580e9f01533faab7800537307d4f29deeb63e3d215f88c8d01a65cd0557"), looks := true }, kinds := [], alts := [], laidByText := true, laidKinds := [.data, .data, .data, .data, .sentinel, .sentinel, .sentinel, .sentinel, .listed, .data, .sentinel, .sentinel, .pinned, .pinned, .pinned], laidTests := true, laidLooks := .later }
def FnRevNameUptoCardSaid : Prop := Claim7.holds Tryd.pinned (.plain (OpenSpec.upto fnRevNameSpec)) fnRevNameUptoCard

/-- THE SECOND FORM's CARD OF 'laws.FnRevParents'. -/
def fnRevParentsUptoCard : Claim7 := { stood := { row := fnRevParentsUptoRow, standIns := [], harness := (true, "8c5c2580e9f01533faab7800537307d4f29deeb63e3d215f88c8d01a65cd0557"), looks := true }, kinds := [], alts := [], laidByText := true, laidKinds := [.data, .data, .data, .data, .sentinel, .sentinel, .sentinel, .sentinel, .listed, .data, .sentinel, .sentinel, .pinned, .pinned, .pinned], laidTests := true, laidLooks := .later }
def FnRevParentsUptoCardSaid : Prop := Claim7.holds Tryd.pinned (.plain (OpenSpec.upto fnRevParentsSpec)) fnRevParentsUptoCard

/-- THE SECOND FORM's CARD OF 'laws.FnRevReflog'. -/
def fnRevReflogUptoCard : Claim7 := { stood := { row := fnRevReflogUptoRow, standIns := [], harness := (true, "8c5c2580e9f01533faab7800537307d4f29deeb63e3d215f88c8d01a65cd0557"), looks := true }, kinds := [], alts := [], laidByText := true, laidKinds := [.data, .data, .data, .data, .sentinel, .sentinel, .sentinel, .sentinel, .listed, .data, .sentinel, .sentinel, .pinned, .pinned, .pinned], laidTests := true, laidLooks := .later }
def FnRevReflogUptoCardSaid : Prop := Claim7.holds Tryd.pinned (.plain (OpenSpec.upto fnRevReflogSpec)) fnRevReflogUptoCard
end Rows
end Go.Proofs.YtojimnlnpghbiaaDoor
