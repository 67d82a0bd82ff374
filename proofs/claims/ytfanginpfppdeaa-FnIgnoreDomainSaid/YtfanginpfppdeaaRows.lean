/-
  No cell of these rows narrows 'for every input' (looked for: loops, veiled, ifaces, maps, wideKeys, modest, calm, conditions, laid).
  DERIVED. THE GIVEN ROWS OF THIS SEAT. 3 by the template 'for every input the law returns true; each argument reads behind the call as it read before'; 0 by the template 'total and deterministic' (their statements: YtfanginpfppdeaaTotals.lean).
  GIVEN WITH THE SEED: the statements are not yours to turn. If you find one false, say at which input.
  Laid BY PROGRAM, IN A SANDBOX (cutbox-rows.mjs): the forced cells as the released guide's own fill.sh prints them over the translation 368845495032b4a7… (all of the seat's roots in one cut). By AI agents, Wed Nov 11 2026. No macro, syntax, notation, axiom, sorry.
-/
import Derived.Test.YtfanginpfppdeaaChecked
import GoSem.Claim
import GoSem.ClaimJoined
import GoSem.ClaimMapViews
import Derived.JoinedTies
import Derived.KernelRfl
namespace Go.Proofs.Ytfanginpfppdeaa
/- THE CELL 'sum', in the pinned program and in every row, IS THE sha256 OF THE DUMP (.gsa) THAT YtfanginpfppdeaaProg.lean LOADS. Nothing in Lean hashes anything: it is a label: what it is worth is what the hold of that sum in a sandbox is worth. -/
noncomputable def Try.pinned : Pinned := { name := "ytfanginpfppdeaa", sum := "368845495032b4a745e1962a45666c377e2ed59b2df15d8ef390ecbb623c0a88", checked := Try.checked }
namespace Rows
def none {H : Type} : Left H := { results := [], args := [] }

/-- 'laws.FnIgnoreBelow': WHATEVER THE INPUT: true; the input reads as it did. -/
def fnIgnoreBelowSpec : ChangeSpec := { name := "fnIgnoreBelow", fn := fun _ => fun
  | [d1, d2, d3] => { results := [.lit (.bool true)], args := [d1, d2, d3] }
  | _ => none }
def fnIgnoreBelowRow : OpenClaim := { program := "ytfanginpfppdeaa", sum := "368845495032b4a745e1962a45666c377e2ed59b2df15d8ef390ecbb623c0a88", func := "loop.example/pub-g01474/laws.FnIgnoreBelow", spec := "fnIgnoreBelow", unfollowed := true, recurses := true, apart := false }
def FnIgnoreBelowSaid : Prop := fnIgnoreBelowRow.holds Try.pinned (OpenSpec.ofChange fnIgnoreBelowSpec)

/-- ITS FALSE NEIGHBOUR: 'it returns false'. Refute it at one input. -/
def fnIgnoreBelowWrong : ChangeSpec := { name := "fnIgnoreBelow", fn := fun _ => fun
  | [d1, d2, d3] => { results := [.lit (.bool false)], args := [d1, d2, d3] }
  | _ => none }
def FnIgnoreBelowWrongFalsely : Prop := fnIgnoreBelowRow.holds Try.pinned (OpenSpec.ofChange fnIgnoreBelowWrong)

/-- 'laws.FnIgnoreDomain': WHATEVER THE INPUT: true; the input reads as it did. -/
def fnIgnoreDomainSpec : ChangeSpec := { name := "fnIgnoreDomain", fn := fun _ => fun
  | [d1, d2, d3, d4, d5] => { results := [.lit (.bool true)], args := [d1, d2, d3, d4, d5] }
  | _ => none }
def fnIgnoreDomainRow : OpenClaim := { program := "ytfanginpfppdeaa", sum := "368845495032b4a745e1962a45666c377e2ed59b2df15d8ef390ecbb623c0a88", func := "loop.example/pub-g01474/laws.FnIgnoreDomain", spec := "fnIgnoreDomain", unfollowed := true, recurses := true, apart := false }
def FnIgnoreDomainSaid : Prop := fnIgnoreDomainRow.holds Try.pinned (OpenSpec.ofChange fnIgnoreDomainSpec)

/-- ITS FALSE NEIGHBOUR: 'it returns false'. Refute it at one input. -/
def fnIgnoreDomainWrong : ChangeSpec := { name := "fnIgnoreDomain", fn := fun _ => fun
  | [d1, d2, d3, d4, d5] => { results := [.lit (.bool false)], args := [d1, d2, d3, d4, d5] }
  | _ => none }
def FnIgnoreDomainWrongFalsely : Prop := fnIgnoreDomainRow.holds Try.pinned (OpenSpec.ofChange fnIgnoreDomainWrong)

/-- 'laws.FnIgnoreFront': WHATEVER THE INPUT: true; the input reads as it did. -/
def fnIgnoreFrontSpec : ChangeSpec := { name := "fnIgnoreFront", fn := fun _ => fun
  | [d1, d2, d3, d4] => { results := [.lit (.bool true)], args := [d1, d2, d3, d4] }
  | _ => none }
def fnIgnoreFrontRow : OpenClaim := { program := "ytfanginpfppdeaa", sum := "368845495032b4a745e1962a45666c377e2ed59b2df15d8ef390ecbb623c0a88", func := "loop.example/pub-g01474/laws.FnIgnoreFront", spec := "fnIgnoreFront", unfollowed := true, recurses := true, apart := false }
def FnIgnoreFrontSaid : Prop := fnIgnoreFrontRow.holds Try.pinned (OpenSpec.ofChange fnIgnoreFrontSpec)

/-- ITS FALSE NEIGHBOUR: 'it returns false'. Refute it at one input. -/
def fnIgnoreFrontWrong : ChangeSpec := { name := "fnIgnoreFront", fn := fun _ => fun
  | [d1, d2, d3, d4] => { results := [.lit (.bool false)], args := [d1, d2, d3, d4] }
  | _ => none }
def FnIgnoreFrontWrongFalsely : Prop := fnIgnoreFrontRow.holds Try.pinned (OpenSpec.ofChange fnIgnoreFrontWrong)

/- THE SECOND FORM. 'bulk': how many values and letters a reading holds, each counted each time it is reached (what is shared counts as often as it is met; a slice's spare places count too). A statement '..UptoSaid' is the law's where the arguments, and the package variables that the reading takes, are together of bulk at most 1048576: NARROWER than '..Said'. Prove '..Said' where nothing that the law and all that it calls make is longer than what came in: it says more and counts as full. Else prove '..UptoSaid'. A law counts once. -/
mutual
def uptoBulk {H : Type} : DataW H → Nat
  | .lit (.string bytes) => bytes.length + 1
  | .lit _ => 1
  | .nil => 1
  | .ptr d => uptoBulk d + 1
  | .slice elems spare => uptoBulkAll elems + uptoBulkAll spare + 1
  | .agg parts => uptoBulkAll parts + 1
  | .iface _ d => uptoBulk d + 1
  | .map entries => uptoBulkEntries entries + 1
  | .held _ => 1
def uptoBulkAll {H : Type} : List (DataW H) → Nat
  | [] => 0
  | d :: r => uptoBulk d + uptoBulkAll r
def uptoBulkEntries {H : Type} : List (Lit × DataW H) → Nat
  | [] => 0
  | x :: r => uptoBulkEntry x + uptoBulkEntries r
def uptoBulkEntry {H : Type} : Lit × DataW H → Nat
  | (.string bytes, d) => bytes.length + uptoBulk d + 1
  | (_, d) => uptoBulk d + 1
 end
def uptoSmall : (H : Type) → List (DataW H) → Bool := fun _ ds => decide (uptoBulkAll ds ≤ 1048576)
def OpenSpec.upto (s : _root_.Go.ChangeSpec) : _root_.Go.OpenSpec := { _root_.Go.OpenSpec.ofChange s with cond := some uptoSmall }

/-- 'laws.FnIgnoreBelow', WHERE WHAT IT READS IS OF BULK AT MOST 1048576: true; the input reads as it did. -/
def fnIgnoreBelowUptoRow : OpenClaim := { program := "ytfanginpfppdeaa", sum := "368845495032b4a745e1962a45666c377e2ed59b2df15d8ef390ecbb623c0a88", func := "loop.example/pub-g01474/laws.FnIgnoreBelow", spec := "fnIgnoreBelow", unfollowed := true, recurses := true, apart := false, narrowed := true }
def FnIgnoreBelowUptoSaid : Prop := fnIgnoreBelowUptoRow.holds Try.pinned (OpenSpec.upto fnIgnoreBelowSpec)

/-- 'laws.FnIgnoreDomain', WHERE WHAT IT READS IS OF BULK AT MOST 1048576: true; the input reads as it did. -/
def fnIgnoreDomainUptoRow : OpenClaim := { program := "ytfanginpfppdeaa", sum := "368845495032b4a745e1962a45666c377e2ed59b2df15d8ef390ecbb623c0a88", func := "loop.example/pub-g01474/laws.FnIgnoreDomain", spec := "fnIgnoreDomain", unfollowed := true, recurses := true, apart := false, narrowed := true }
def FnIgnoreDomainUptoSaid : Prop := fnIgnoreDomainUptoRow.holds Try.pinned (OpenSpec.upto fnIgnoreDomainSpec)

/-- 'laws.FnIgnoreFront', WHERE WHAT IT READS IS OF BULK AT MOST 1048576: true; the input reads as it did. -/
def fnIgnoreFrontUptoRow : OpenClaim := { program := "ytfanginpfppdeaa", sum := "368845495032b4a745e1962a45666c377e2ed59b2df15d8ef390ecbb623c0a88", func := "loop.example/pub-g01474/laws.FnIgnoreFront", spec := "fnIgnoreFront", unfollowed := true, recurses := true, apart := false, narrowed := true }
def FnIgnoreFrontUptoSaid : Prop := fnIgnoreFrontUptoRow.holds Try.pinned (OpenSpec.upto fnIgnoreFrontSpec)

end Rows
end Go.Proofs.Ytfanginpfppdeaa
