/-
  NARROWER THAN 'FOR EVERY INPUT', by the rows' own cells (each row's printed sentence says how): FnObjIsHash: laid · FnRefInvalid: ifaces, laid · FnIdxFind: ifaces, laid.
  DERIVED. THE GIVEN ROWS OF THIS SEAT. 3 by the template 'for every input the law returns true; each argument reads behind the call as it read before'; 0 by the template 'total and deterministic' (their statements: YtplhhgcejajmoaaDoorTotals.lean).
  GIVEN WITH THE SEED: the statements are not yours to turn. If you find one false, say at which input.
  Laid BY PROGRAM, IN A SANDBOX (cutbox-rows.mjs): the forced cells as the released guide's own fill.sh prints them over the translation 217ffa7c2dd10a8c… (all of the seat's roots in one cut). By AI agents, Wed Nov 11 2026. No macro, syntax, notation, axiom, sorry.
-/
import Derived.Test.YtplhhgcejajmoaaDoorChecked
import GoSem.Claim
import GoSem.ClaimJoined
import GoSem.ClaimMapViews
import Derived.JoinedTies
import Derived.KernelRfl
namespace Go.Proofs.YtplhhgcejajmoaaDoor
/- THE CELL 'sum', in the pinned program and in every row, IS THE sha256 OF THE DUMP (.gsa) THAT YtplhhgcejajmoaaDoorProg.lean LOADS. Nothing in Lean hashes anything: it is a label: what it is worth is what the hold of that sum in a sandbox is worth. -/
noncomputable def Tryd.pinned : Pinned := { name := "ytplhhgcejajmoaadoor", sum := "217ffa7c2dd10a8cadb6b574b01478019ebb54321b6e547a90ad1663079c69b5", checked := Tryd.checked }
namespace Rows
def none {H : Type} : Left H := { results := [], args := [] }

/- WHAT THE LISTED PACKAGE-LEVEL VARIABLES READ AS WHEN THE CALL BEGINS. Each datum BY PROGRAM (the guide's laid-datum.mjs) off the statement by which the dump's own 'gosem.cut.vars' lays the variable. In a bare row this is a premise. The card (YtplhhgcejajmoaaDoorCards.lean) ties it to the program's text. -/
def laid_encoding_hex_ErrLength {H : Type} : DataW H := .iface "*errors.errorString" (.ptr (.agg [.lit (.string [101, 110, 99, 111, 100, 105, 110, 103, 47, 104, 101, 120, 58, 32, 111, 100, 100, 32, 108, 101, 110, 103, 116, 104, 32, 104, 101, 120, 32, 115, 116, 114, 105, 110, 103])]))
def laid_loop_example_pub_g01474_pub_gogit_plumbing_ErrInvalidReferenceName {H : Type} : DataW H := .iface "*errors.errorString" (.ptr (.agg [.lit (.string [105, 110, 118, 97, 108, 105, 100, 32, 114, 101, 102, 101, 114, 101, 110, 99, 101, 32, 110, 97, 109, 101])]))
def laid_loop_example_pub_g01474_pub_gogit_plumbing_format_index_ErrEntryNotFound {H : Type} : DataW H := .iface "*errors.errorString" (.ptr (.agg [.lit (.string [101, 110, 116, 114, 121, 32, 110, 111, 116, 32, 102, 111, 117, 110, 100])]))

/-- 'laws.FnObjIsHash': WHATEVER THE INPUT: true; the input reads as it did. -/
def fnObjIsHashSpec : ChangeSpec := { name := "fnObjIsHash", fn := fun _ => fun
  | [d] => { results := [.lit (.bool true)], args := [d] }
  | _ => none }
def fnObjIsHashRow : OpenClaim := { program := "ytplhhgcejajmoaadoor", sum := "217ffa7c2dd10a8cadb6b574b01478019ebb54321b6e547a90ad1663079c69b5", func := "loop.example/pub-g01474/laws.FnObjIsHash", spec := "fnObjIsHash", named := ["encoding/hex.ErrLength"], apart := false, laid := [("encoding/hex.ErrLength", laid_encoding_hex_ErrLength)] }
def FnObjIsHashSaid : Prop := fnObjIsHashRow.holds Tryd.pinned (OpenSpec.ofChange fnObjIsHashSpec)

/-- ITS FALSE NEIGHBOUR: 'it returns false'. Refute it at one input. -/
def fnObjIsHashWrong : ChangeSpec := { name := "fnObjIsHash", fn := fun _ => fun
  | [d] => { results := [.lit (.bool false)], args := [d] }
  | _ => none }
def FnObjIsHashWrongFalsely : Prop := fnObjIsHashRow.holds Tryd.pinned (OpenSpec.ofChange fnObjIsHashWrong)

/-- 'laws.FnRefInvalid': WHATEVER THE INPUT: true; the input reads as it did. -/
def fnRefInvalidSpec : ChangeSpec := { name := "fnRefInvalid", vars := ["loop.example/pub-g01474/pub/gogit/plumbing.ErrInvalidReferenceName"], fn := fun _ => fun
  | [d1, d2, d3, d4, g1] => { results := [.lit (.bool true)], args := [d1, d2, d3, d4], vars := [g1] }
  | _ => none }
def fnRefInvalidRow : OpenClaim := { program := "ytplhhgcejajmoaadoor", sum := "217ffa7c2dd10a8cadb6b574b01478019ebb54321b6e547a90ad1663079c69b5", func := "loop.example/pub-g01474/laws.FnRefInvalid", spec := "fnRefInvalid", named := ["loop.example/pub-g01474/pub/gogit/plumbing.ErrInvalidReferenceName"], ifaces := true, apart := false, laid := [("loop.example/pub-g01474/pub/gogit/plumbing.ErrInvalidReferenceName", laid_loop_example_pub_g01474_pub_gogit_plumbing_ErrInvalidReferenceName)] }
def FnRefInvalidSaid : Prop := fnRefInvalidRow.holds Tryd.pinned (OpenSpec.ofChange fnRefInvalidSpec)

/-- ITS FALSE NEIGHBOUR: 'it returns false'. Refute it at one input. -/
def fnRefInvalidWrong : ChangeSpec := { name := "fnRefInvalid", vars := ["loop.example/pub-g01474/pub/gogit/plumbing.ErrInvalidReferenceName"], fn := fun _ => fun
  | [d1, d2, d3, d4, g1] => { results := [.lit (.bool false)], args := [d1, d2, d3, d4], vars := [g1] }
  | _ => none }
def FnRefInvalidWrongFalsely : Prop := fnRefInvalidRow.holds Tryd.pinned (OpenSpec.ofChange fnRefInvalidWrong)

/-- 'laws.FnIdxFind': WHATEVER THE INPUT: true; the input reads as it did. -/
def fnIdxFindSpec : ChangeSpec := { name := "fnIdxFind", vars := ["loop.example/pub-g01474/pub/gogit/plumbing/format/index.ErrEntryNotFound"], fn := fun _ => fun
  | [d1, d2, g1] => { results := [.lit (.bool true)], args := [d1, d2], vars := [g1] }
  | _ => none }
def fnIdxFindRow : OpenClaim := { program := "ytplhhgcejajmoaadoor", sum := "217ffa7c2dd10a8cadb6b574b01478019ebb54321b6e547a90ad1663079c69b5", func := "loop.example/pub-g01474/laws.FnIdxFind", spec := "fnIdxFind", named := ["encoding/hex.ErrLength", "loop.example/pub-g01474/pub/gogit/plumbing/format/index.ErrEntryNotFound"], ifaces := true, apart := false, laid := [("encoding/hex.ErrLength", laid_encoding_hex_ErrLength), ("loop.example/pub-g01474/pub/gogit/plumbing/format/index.ErrEntryNotFound", laid_loop_example_pub_g01474_pub_gogit_plumbing_format_index_ErrEntryNotFound)] }
def FnIdxFindSaid : Prop := fnIdxFindRow.holds Tryd.pinned (OpenSpec.ofChange fnIdxFindSpec)

/-- ITS FALSE NEIGHBOUR: 'it returns false'. Refute it at one input. -/
def fnIdxFindWrong : ChangeSpec := { name := "fnIdxFind", vars := ["loop.example/pub-g01474/pub/gogit/plumbing/format/index.ErrEntryNotFound"], fn := fun _ => fun
  | [d1, d2, g1] => { results := [.lit (.bool false)], args := [d1, d2], vars := [g1] }
  | _ => none }
def FnIdxFindWrongFalsely : Prop := fnIdxFindRow.holds Tryd.pinned (OpenSpec.ofChange fnIdxFindWrong)

/- THE SECOND FORM. 'bulk': how many values and letters a reading holds, each counted each time it is reached (what is shared counts as often as it is met; a slice's spare places count too). A statement '..UptoSaid' is the law's where the arguments, and the package variables that the reading takes, are together of bulk at most 1048576: NARROWER than '..Said'. Prove '..Said' where nothing that the law and all that it calls make is longer than what came in: it says more and counts as full. Else prove '..UptoSaid'. A law counts once. -/
mutual
def uptoBulk {H : Type} : DataW H → Nat
  | .lit (.string bytes) => bytes.length + 1
  | .lit _ => 1
  | .nil => 1
  | .ptr d => uptoBulk d + 1
  | .slice elems spare => uptoBulkAll elems + uptoBulkAll spare + 1
  | .agg parts => uptoBulkAll parts + 1
  | .iface _ d => uptoBulk d + 1
  | .map entries => uptoBulkEntries entries + 1
  | .held _ => 1
def uptoBulkAll {H : Type} : List (DataW H) → Nat
  | [] => 0
  | d :: r => uptoBulk d + uptoBulkAll r
def uptoBulkEntries {H : Type} : List (Lit × DataW H) → Nat
  | [] => 0
  | x :: r => uptoBulkEntry x + uptoBulkEntries r
def uptoBulkEntry {H : Type} : Lit × DataW H → Nat
  | (.string bytes, d) => bytes.length + uptoBulk d + 1
  | (_, d) => uptoBulk d + 1
 end
def uptoSmall : (H : Type) → List (DataW H) → Bool := fun _ ds => decide (uptoBulkAll ds ≤ 1048576)
def OpenSpec.upto (s : _root_.Go.ChangeSpec) : _root_.Go.OpenSpec := { _root_.Go.OpenSpec.ofChange s with cond := some uptoSmall }

/-- 'laws.FnObjIsHash', WHERE WHAT IT READS IS OF BULK AT MOST 1048576: true; the input reads as it did. -/
def fnObjIsHashUptoRow : OpenClaim := { program := "ytplhhgcejajmoaadoor", sum := "217ffa7c2dd10a8cadb6b574b01478019ebb54321b6e547a90ad1663079c69b5", func := "loop.example/pub-g01474/laws.FnObjIsHash", spec := "fnObjIsHash", named := ["encoding/hex.ErrLength"], apart := false, laid := [("encoding/hex.ErrLength", laid_encoding_hex_ErrLength)], narrowed := true }
def FnObjIsHashUptoSaid : Prop := fnObjIsHashUptoRow.holds Tryd.pinned (OpenSpec.upto fnObjIsHashSpec)

/-- 'laws.FnRefInvalid', WHERE WHAT IT READS IS OF BULK AT MOST 1048576: true; the input reads as it did. -/
def fnRefInvalidUptoRow : OpenClaim := { program := "ytplhhgcejajmoaadoor", sum := "217ffa7c2dd10a8cadb6b574b01478019ebb54321b6e547a90ad1663079c69b5", func := "loop.example/pub-g01474/laws.FnRefInvalid", spec := "fnRefInvalid", named := ["loop.example/pub-g01474/pub/gogit/plumbing.ErrInvalidReferenceName"], ifaces := true, apart := false, laid := [("loop.example/pub-g01474/pub/gogit/plumbing.ErrInvalidReferenceName", laid_loop_example_pub_g01474_pub_gogit_plumbing_ErrInvalidReferenceName)], narrowed := true }
def FnRefInvalidUptoSaid : Prop := fnRefInvalidUptoRow.holds Tryd.pinned (OpenSpec.upto fnRefInvalidSpec)

/-- 'laws.FnIdxFind', WHERE WHAT IT READS IS OF BULK AT MOST 1048576: true; the input reads as it did. -/
def fnIdxFindUptoRow : OpenClaim := { program := "ytplhhgcejajmoaadoor", sum := "217ffa7c2dd10a8cadb6b574b01478019ebb54321b6e547a90ad1663079c69b5", func := "loop.example/pub-g01474/laws.FnIdxFind", spec := "fnIdxFind", named := ["encoding/hex.ErrLength", "loop.example/pub-g01474/pub/gogit/plumbing/format/index.ErrEntryNotFound"], ifaces := true, apart := false, laid := [("encoding/hex.ErrLength", laid_encoding_hex_ErrLength), ("loop.example/pub-g01474/pub/gogit/plumbing/format/index.ErrEntryNotFound", laid_loop_example_pub_g01474_pub_gogit_plumbing_format_index_ErrEntryNotFound)], narrowed := true }
def FnIdxFindUptoSaid : Prop := fnIdxFindUptoRow.holds Tryd.pinned (OpenSpec.upto fnIdxFindSpec)

end Rows
end Go.Proofs.YtplhhgcejajmoaaDoor
