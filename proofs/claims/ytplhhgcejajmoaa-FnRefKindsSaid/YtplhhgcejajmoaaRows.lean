/-
  No cell of these rows narrows 'for every input' (looked for: loops, veiled, ifaces, maps, wideKeys, modest, calm, conditions, laid).
  DERIVED. THE GIVEN ROWS OF THIS SEAT. 3 by the template 'for every input the law returns true; each argument reads behind the call as it read before'; 0 by the template 'total and deterministic' (their statements: YtplhhgcejajmoaaTotals.lean).
  GIVEN WITH THE SEED: the statements are not yours to turn. If you find one false, say at which input.
  Laid BY PROGRAM, IN A SANDBOX (cutbox-rows.mjs): the forced cells as the released guide's own fill.sh prints them over the translation 8f9d055a0372b1f1… (all of the seat's roots in one cut). By AI agents, Wed Nov 11 2026. No macro, syntax, notation, axiom, sorry.
-/
import Derived.Test.YtplhhgcejajmoaaChecked
import GoSem.Claim
import GoSem.ClaimJoined
import GoSem.ClaimMapViews
import Derived.JoinedTies
import Derived.KernelRfl
namespace Go.Proofs.Ytplhhgcejajmoaa
/- THE CELL 'sum', in the pinned program and in every row, IS THE sha256 OF THE DUMP (.gsa) THAT YtplhhgcejajmoaaProg.lean LOADS. Nothing in Lean hashes anything: it is a label: what it is worth is what the hold of that sum in a sandbox is worth. -/
noncomputable def Try.pinned : Pinned := { name := "ytplhhgcejajmoaa", sum := "8f9d055a0372b1f11aec8e313ae195cb63a585c4efb09dca60485560f85cc35a", checked := Try.checked }
namespace Rows
def none {H : Type} : Left H := { results := [], args := [] }

/-- 'laws.FnModeBytes': WHATEVER THE INPUT: true; the input reads as it did. -/
def fnModeBytesSpec : ChangeSpec := { name := "fnModeBytes", fn := fun _ => fun
  | [d] => { results := [.lit (.bool true)], args := [d] }
  | _ => none }
def fnModeBytesRow : OpenClaim := { program := "ytplhhgcejajmoaa", sum := "8f9d055a0372b1f11aec8e313ae195cb63a585c4efb09dca60485560f85cc35a", func := "loop.example/pub-g01474/laws.FnModeBytes", spec := "fnModeBytes", apart := false }
def FnModeBytesSaid : Prop := fnModeBytesRow.holds Try.pinned (OpenSpec.ofChange fnModeBytesSpec)

/-- ITS FALSE NEIGHBOUR: 'it returns false'. Refute it at one input. -/
def fnModeBytesWrong : ChangeSpec := { name := "fnModeBytes", fn := fun _ => fun
  | [d] => { results := [.lit (.bool false)], args := [d] }
  | _ => none }
def FnModeBytesWrongFalsely : Prop := fnModeBytesRow.holds Try.pinned (OpenSpec.ofChange fnModeBytesWrong)

/-- 'laws.FnModeText': WHATEVER THE INPUT: true; the input reads as it did. -/
def fnModeTextSpec : ChangeSpec := { name := "fnModeText", fn := fun _ => fun
  | [d] => { results := [.lit (.bool true)], args := [d] }
  | _ => none }
def fnModeTextRow : OpenClaim := { program := "ytplhhgcejajmoaa", sum := "8f9d055a0372b1f11aec8e313ae195cb63a585c4efb09dca60485560f85cc35a", func := "loop.example/pub-g01474/laws.FnModeText", spec := "fnModeText", recurses := true, apart := false }
def FnModeTextSaid : Prop := fnModeTextRow.holds Try.pinned (OpenSpec.ofChange fnModeTextSpec)

/-- ITS FALSE NEIGHBOUR: 'it returns false'. Refute it at one input. -/
def fnModeTextWrong : ChangeSpec := { name := "fnModeText", fn := fun _ => fun
  | [d] => { results := [.lit (.bool false)], args := [d] }
  | _ => none }
def FnModeTextWrongFalsely : Prop := fnModeTextRow.holds Try.pinned (OpenSpec.ofChange fnModeTextWrong)

/-- 'laws.FnRefKinds': WHATEVER THE INPUT: true; the input reads as it did. -/
def fnRefKindsSpec : ChangeSpec := { name := "fnRefKinds", fn := fun _ => fun
  | [d1, d2] => { results := [.lit (.bool true)], args := [d1, d2] }
  | _ => none }
def fnRefKindsRow : OpenClaim := { program := "ytplhhgcejajmoaa", sum := "8f9d055a0372b1f11aec8e313ae195cb63a585c4efb09dca60485560f85cc35a", func := "loop.example/pub-g01474/laws.FnRefKinds", spec := "fnRefKinds", apart := false }
def FnRefKindsSaid : Prop := fnRefKindsRow.holds Try.pinned (OpenSpec.ofChange fnRefKindsSpec)

/-- ITS FALSE NEIGHBOUR: 'it returns false'. Refute it at one input. -/
def fnRefKindsWrong : ChangeSpec := { name := "fnRefKinds", fn := fun _ => fun
  | [d1, d2] => { results := [.lit (.bool false)], args := [d1, d2] }
  | _ => none }
def FnRefKindsWrongFalsely : Prop := fnRefKindsRow.holds Try.pinned (OpenSpec.ofChange fnRefKindsWrong)

/- THE SECOND FORM. 'bulk': how many values and letters a reading holds, each counted each time it is reached (what is shared counts as often as it is met; a slice's spare places count too). A statement '..UptoSaid' is the law's where the arguments, and the package variables that the reading takes, are together of bulk at most 1048576: NARROWER than '..Said'. Prove '..Said' where nothing that the law and all that it calls make is longer than what came in: it says more and counts as full. Else prove '..UptoSaid'. A law counts once. -/
mutual
def uptoBulk {H : Type} : DataW H → Nat
  | .lit (.string bytes) => bytes.length + 1
  | .lit _ => 1
  | .nil => 1
  | .ptr d => uptoBulk d + 1
  | .slice elems spare => uptoBulkAll elems + uptoBulkAll spare + 1
  | .agg parts => uptoBulkAll parts + 1
  | .iface _ d => uptoBulk d + 1
  | .map entries => uptoBulkEntries entries + 1
  | .held _ => 1
def uptoBulkAll {H : Type} : List (DataW H) → Nat
  | [] => 0
  | d :: r => uptoBulk d + uptoBulkAll r
def uptoBulkEntries {H : Type} : List (Lit × DataW H) → Nat
  | [] => 0
  | x :: r => uptoBulkEntry x + uptoBulkEntries r
def uptoBulkEntry {H : Type} : Lit × DataW H → Nat
  | (.string bytes, d) => bytes.length + uptoBulk d + 1
  | (_, d) => uptoBulk d + 1
 end
def uptoSmall : (H : Type) → List (DataW H) → Bool := fun _ ds => decide (uptoBulkAll ds ≤ 1048576)
def OpenSpec.upto (s : _root_.Go.ChangeSpec) : _root_.Go.OpenSpec := { _root_.Go.OpenSpec.ofChange s with cond := some uptoSmall }

/-- 'laws.FnModeBytes', WHERE WHAT IT READS IS OF BULK AT MOST 1048576: true; the input reads as it did. -/
def fnModeBytesUptoRow : OpenClaim := { program := "ytplhhgcejajmoaa", sum := "8f9d055a0372b1f11aec8e313ae195cb63a585c4efb09dca60485560f85cc35a", func := "loop.example/pub-g01474/laws.FnModeBytes", spec := "fnModeBytes", apart := false, narrowed := true }
def FnModeBytesUptoSaid : Prop := fnModeBytesUptoRow.holds Try.pinned (OpenSpec.upto fnModeBytesSpec)

/-- 'laws.FnModeText', WHERE WHAT IT READS IS OF BULK AT MOST 1048576: true; the input reads as it did. -/
def fnModeTextUptoRow : OpenClaim := { program := "ytplhhgcejajmoaa", sum := "8f9d055a0372b1f11aec8e313ae195cb63a585c4efb09dca60485560f85cc35a", func := "loop.example/pub-g01474/laws.FnModeText", spec := "fnModeText", recurses := true, apart := false, narrowed := true }
def FnModeTextUptoSaid : Prop := fnModeTextUptoRow.holds Try.pinned (OpenSpec.upto fnModeTextSpec)

/-- 'laws.FnRefKinds', WHERE WHAT IT READS IS OF BULK AT MOST 1048576: true; the input reads as it did. -/
def fnRefKindsUptoRow : OpenClaim := { program := "ytplhhgcejajmoaa", sum := "8f9d055a0372b1f11aec8e313ae195cb63a585c4efb09dca60485560f85cc35a", func := "loop.example/pub-g01474/laws.FnRefKinds", spec := "fnRefKinds", apart := false, narrowed := true }
def FnRefKindsUptoSaid : Prop := fnRefKindsUptoRow.holds Try.pinned (OpenSpec.upto fnRefKindsSpec)

end Rows
end Go.Proofs.Ytplhhgcejajmoaa
