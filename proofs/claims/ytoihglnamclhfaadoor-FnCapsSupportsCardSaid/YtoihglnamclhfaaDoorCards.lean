/-
  DERIVED. GIVEN WITH THE SEED: THE CARDS: each row of YtoihglnamclhfaaDoorRows.lean that lists a variable, with what it lists TIED to the program's text (the seventh form; the later family's looks); each row that meets fmt, with fmt's text TOLD by the authors' own Lean function (tested against real Go, not proved from fmt's source: count such statements apart). THE CARD IS WHAT COUNTS. Prove the row's statement (the work); the ties are given (YtoihglnamclhfaaDoorTie.lean); close each card by the builder's one call (the guide's Derived/Test/ToyasCard.lean, 'card_holds'). Laid BY PROGRAM, IN A SANDBOX (cutbox-door.mjs). By AI agents, Wed Nov 11 2026. No macro, syntax, notation, axiom, sorry.
-/
import Derived.Test.YtoihglnamclhfaaDoorRows
import GoSem.ClaimSeven
namespace Go.Proofs.YtoihglnamclhfaaDoor
namespace Rows

/-- THE TIED CARD OF 'laws.FnFindCount'. -/
def fnFindCountCard : Claim7 := { stood := { row := fnFindCountRow, standIns := [], harness := (true, "0be94babbfd9a1e5b554e9a1cf6d96153cd3d58f10f73dd8c2ae5fb965b979c7"), looks := true }, kinds := [], alts := [], laidByText := true, laidKinds := [.sentinel, .sentinel, .sentinel, .sentinel, .sentinel, .sentinel, .sentinel], laidTests := true, laidLooks := .later }
def FnFindCountCardSaid : Prop := Claim7.holds Tryd.pinned (.plain (OpenSpec.ofChange fnFindCountSpec)) fnFindCountCard

/-- THE TIED CARD OF 'laws.FnObjSort'. -/
def fnObjSortCard : Claim7 := { stood := { row := fnObjSortRow, standIns := [], harness := (true, "0be94babbfd9a1e5b554e9a1cf6d96153cd3d58f10f73dd8c2ae5fb965b979c7"), looks := true }, kinds := [], alts := [], laidByText := true, laidKinds := [.sentinel], laidTests := true, laidLooks := .later }
def FnObjSortCardSaid : Prop := Claim7.holds Tryd.pinned (.plain (OpenSpec.ofChange fnObjSortSpec)) fnObjSortCard

/-- THE TIED CARD OF 'laws.FnFindOffset'. -/
def fnFindOffsetCard : Claim7 := { stood := { row := fnFindOffsetRow, standIns := [], harness := (true, "0be94babbfd9a1e5b554e9a1cf6d96153cd3d58f10f73dd8c2ae5fb965b979c7"), looks := true }, kinds := [], alts := [], laidByText := true, laidKinds := [.sentinel, .sentinel, .sentinel, .sentinel, .sentinel, .sentinel, .sentinel], laidTests := true, laidLooks := .later }
def FnFindOffsetCardSaid : Prop := Claim7.holds Tryd.pinned (.plain (OpenSpec.ofChange fnFindOffsetSpec)) fnFindOffsetCard

/-- THE TIED CARD OF 'laws.FnCapsSupports'. -/
def fnCapsSupportsCard : Claim7 := { stood := { row := fnCapsSupportsRow, standIns := [], harness := (true, "0be94babbfd9a1e5b554e9a1cf6d96153cd3d58f10f73dd8c2ae5fb965b979c7"), looks := true }, kinds := [], alts := [], laidByText := true, laidKinds := [.data, .sentinel, .sentinel, .sentinel, .listed, .data, .data, .sentinel, .sentinel, .sentinel, .sentinel, .sentinel, .pinned], laidTests := true, laidLooks := .later }
def FnCapsSupportsCardSaid : Prop := Claim7.holds Tryd.pinned (.plain (OpenSpec.ofChange fnCapsSupportsSpec)) fnCapsSupportsCard

/-- THE SECOND FORM's CARD OF 'laws.FnFindCount'. -/
def fnFindCountUptoCard : Claim7 := { stood := { row := fnFindCountUptoRow, standIns := [], harness := (true, "0be94babbfd9a1e5b554e9a1cf6d96153cd3d58f10f73dd8c2ae5fb965b979c7"), looks := true }, kinds := [], alts := [], laidByText := true, laidKinds := [.sentinel, .sentinel, .sentinel, .sentinel, .sentinel, .sentinel, .sentinel], laidTests := true, laidLooks := .later }
def FnFindCountUptoCardSaid : Prop := Claim7.holds Tryd.pinned (.plain (OpenSpec.upto fnFindCountSpec)) fnFindCountUptoCard

/-- THE SECOND FORM's CARD OF 'laws.FnObjSort'. -/
def fnObjSortUptoCard : Claim7 := { stood := { row := fnObjSortUptoRow, standIns := [], harness := (true, "0be94babbfd9a1e5b554e9a1cf6d96153cd3d58f10f73dd8c2ae5fb965b979c7"), looks := true }, kinds := [], alts := [], laidByText := true, laidKinds := [.sentinel], laidTests := true, laidLooks := .later }
def FnObjSortUptoCardSaid : Prop := Claim7.holds Tryd.pinned (.plain (OpenSpec.upto fnObjSortSpec)) fnObjSortUptoCard

/-- THE SECOND FORM's CARD OF 'laws.FnFindOffset'. -/
def fnFindOffsetUptoCard : Claim7 := { stood := { row := fnFindOffsetUptoRow, standIns := [], harness := (true, "0be94babbfd9a1e5b554e9a1cf6d96153cd3d58f10f73dd8c2ae5fb965b979c7"), looks := true }, kinds := [], alts := [], laidByText := true, laidKinds := [.sentinel, .sentinel, .sentinel, .sentinel, .sentinel, .sentinel, .sentinel], laidTests := true, laidLooks := .later }
def FnFindOffsetUptoCardSaid : Prop := Claim7.holds Tryd.pinned (.plain (OpenSpec.upto fnFindOffsetSpec)) fnFindOffsetUptoCard

/-- THE SECOND FORM's CARD OF 'laws.FnCapsSupports'. -/
def fnCapsSupportsUptoCard : Claim7 := { stood := { row := fnCapsSupportsUptoRow, standIns := [], harness := (true, "0be94babbfd9a1e5b554e9a1cf6d96153cd3d58f10f73dd8c2ae5fb965b979c7"), looks := true }, kinds := [], alts := [], laidByText := true, laidKinds := [.data, .sentinel, .sentinel, .sentinel, .listed, .data, .data, .sentinel, .sentinel, .sentinel, .sentinel, .sentinel, .pinned], laidTests := true, laidLooks := .later }
def FnCapsSupportsUptoCardSaid : Prop := Claim7.holds Tryd.pinned (.plain (OpenSpec.upto fnCapsSupportsSpec)) fnCapsSupportsUptoCard
end Rows
end Go.Proofs.YtoihglnamclhfaaDoor
