/-
  DERIVED. GIVEN WITH THE SEED: THE CARDS: each row of YtkjfndkcagkhaaaDoorRows.lean that lists a variable, with what it lists TIED to the program's text (the seventh form; the later family's looks); each row that meets fmt, with fmt's text TOLD by the authors' own Lean function (tested against real Go, not proved from fmt's source: count such statements apart). THE CARD IS WHAT COUNTS. Prove the row's statement (the work); the ties are given (YtkjfndkcagkhaaaDoorTie.lean); close each card by the builder's one call (the guide's Derived/Test/ToyasCard.lean, 'card_holds'). Laid BY PROGRAM, IN A SANDBOX (cutbox-door.mjs). By AI agents, Wed Nov 11 2026. No macro, syntax, notation, axiom, sorry.
-/
import Derived.Test.YtkjfndkcagkhaaaDoorRows
import GoSem.ClaimSeven
namespace Go.Proofs.YtkjfndkcagkhaaaDoor
namespace Rows

/-- THE TIED CARD OF 'laws.FnProtoShallowWritten'. -/
def fnProtoShallowWrittenCard : Claim7 := { stood := { row := fnProtoShallowWrittenRow, standIns := [], harness := (true, "6532ce673816b2eca49a94197a070f167d78a7d234d4c08e981156b87e765cbc"), looks := true }, kinds := [], alts := [], laidByText := true, laidKinds := [.data, .sentinel, .sentinel, .sentinel, .listed, .data, .sentinel, .sentinel, .sentinel, .pinned], laidTests := true, laidLooks := .later }
def FnProtoShallowWrittenCardSaid : Prop := Claim7.holds Tryd.pinned (.plain (OpenSpec.ofChange fnProtoShallowWrittenSpec)) fnProtoShallowWrittenCard

/-- THE TIED CARD OF 'laws.FnProtoAck'. -/
def fnProtoAckCard : Claim7 := { stood := { row := fnProtoAckRow, standIns := [], harness := (true, "6532ce673816b2eca49a94197a070f167d78a7d234d4c08e981156b87e765cbc"), looks := true }, kinds := [], alts := [], laidByText := true, laidKinds := [.data, .sentinel, .sentinel, .sentinel, .sentinel, .listed, .data, .sentinel, .sentinel, .sentinel, .sentinel, .sentinel, .pinned], laidTests := true, laidLooks := .later }
def FnProtoAckCardSaid : Prop := Claim7.holds Tryd.pinned (.plain (OpenSpec.ofChange fnProtoAckSpec)) fnProtoAckCard

/-- THE TIED CARD OF 'laws.FnSideRead'. -/
def fnSideReadCard : Claim7 := { stood := { row := fnSideReadRow, standIns := [], harness := (true, "6532ce673816b2eca49a94197a070f167d78a7d234d4c08e981156b87e765cbc"), looks := true }, kinds := [], alts := [], laidByText := true, laidKinds := [.data, .sentinel, .sentinel, .sentinel, .listed, .sentinel, .data, .sentinel, .sentinel, .pinned], laidTests := true, laidLooks := .later }
def FnSideReadCardSaid : Prop := Claim7.holds Tryd.pinned (.plain (OpenSpec.ofChange fnSideReadSpec)) fnSideReadCard

/-- THE TIED CARD OF 'laws.FnCapsSupports'. -/
def fnCapsSupportsCard : Claim7 := { stood := { row := fnCapsSupportsRow, standIns := [], harness := (true, "6532ce673816b2eca49a94197a070f167d78a7d234d4c08e981156b87e765cbc"), looks := true }, kinds := [], alts := [], laidByText := true, laidKinds := [.data, .sentinel, .sentinel, .sentinel, .listed, .data, .data, .sentinel, .sentinel, .sentinel, .sentinel, .sentinel, .pinned], laidTests := true, laidLooks := .later }
def FnCapsSupportsCardSaid : Prop := Claim7.holds Tryd.pinned (.plain (OpenSpec.ofChange fnCapsSupportsSpec)) fnCapsSupportsCard

/-- THE SECOND FORM's CARD OF 'laws.FnProtoShallowWritten'. -/
def fnProtoShallowWrittenUptoCard : Claim7 := { stood := { row := fnProtoShallowWrittenUptoRow, standIns := [], harness := (true, "6532ce673816b2eca49a94197a070f167d78a7d234d4c08e981156b87e765cbc"), looks := true }, kinds := [], alts := [], laidByText := true, laidKinds := [.data, .sentinel, .sentinel, .sentinel, .listed, .data, .sentinel, .sentinel, .sentinel, .pinned], laidTests := true, laidLooks := .later }
def FnProtoShallowWrittenUptoCardSaid : Prop := Claim7.holds Tryd.pinned (.plain (OpenSpec.upto fnProtoShallowWrittenSpec)) fnProtoShallowWrittenUptoCard

/-- THE SECOND FORM's CARD OF 'laws.FnProtoAck'. -/
def fnProtoAckUptoCard : Claim7 := { stood := { row := fnProtoAckUptoRow, standIns := [], harness := (true, "6532ce673816b2eca49a94197a070f167d78a7d234d4c08e981156b87e765cbc"), looks := true }, kinds := [], alts := [], laidByText := true, laidKinds := [.data, .sentinel, .sentinel, .sentinel, .sentinel, .listed, .data, .sentinel, .sentinel, .sentinel, .sentinel, .sentinel, .pinned], laidTests := true, laidLooks := .later }
def FnProtoAckUptoCardSaid : Prop := Claim7.holds Tryd.pinned (.plain (OpenSpec.upto fnProtoAckSpec)) fnProtoAckUptoCard

/-- THE SECOND FORM's CARD OF 'laws.FnSideRead'. -/
def fnSideReadUptoCard : Claim7 := { stood := { row := fnSideReadUptoRow, standIns := [], harness := (true, "6532ce673816b2eca49a94197a070f167d78a7d234d4c08e981156b87e765cbc"), looks := true }, kinds := [], alts := [], laidByText := true, laidKinds := [.data, .sentinel, .sentinel, .sentinel, .listed, .sentinel, .data, .sentinel, .sentinel, .pinned], laidTests := true, laidLooks := .later }
def FnSideReadUptoCardSaid : Prop := Claim7.holds Tryd.pinned (.plain (OpenSpec.upto fnSideReadSpec)) fnSideReadUptoCard

/-- THE SECOND FORM's CARD OF 'laws.FnCapsSupports'. -/
def fnCapsSupportsUptoCard : Claim7 := { stood := { row := fnCapsSupportsUptoRow, standIns := [], harness := (true, "6532ce673816b2eca49a94197a070f167d78a7d234d4c08e981156b87e765cbc"), looks := true }, kinds := [], alts := [], laidByText := true, laidKinds := [.data, .sentinel, .sentinel, .sentinel, .listed, .data, .data, .sentinel, .sentinel, .sentinel, .sentinel, .sentinel, .pinned], laidTests := true, laidLooks := .later }
def FnCapsSupportsUptoCardSaid : Prop := Claim7.holds Tryd.pinned (.plain (OpenSpec.upto fnCapsSupportsSpec)) fnCapsSupportsUptoCard
end Rows
end Go.Proofs.YtkjfndkcagkhaaaDoor
