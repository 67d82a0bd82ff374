/-
  NARROWER THAN 'FOR EVERY INPUT', by the rows' own cells (each row's printed sentence says how): FnDeltaAny: ifaces, laid · FnDeltaBeyond: ifaces, laid · FnDeltaCopy: ifaces, laid.
  DERIVED. THE GIVEN ROWS OF THIS SEAT. 3 by the template 'for every input the law returns true; each argument reads behind the call as it read before'; 0 by the template 'total and deterministic' (their statements: YtfanginpfppdeaaDoorTotals.lean).
  GIVEN WITH THE SEED: the statements are not yours to turn. If you find one false, say at which input.
  Laid BY PROGRAM, IN A SANDBOX (cutbox-rows.mjs): the forced cells as the released guide's own fill.sh prints them over the translation 0dd23385fb61b74e… (all of the seat's roots in one cut). By AI agents, Wed Nov 11 2026. No macro, syntax, notation, axiom, sorry.
-/
import Derived.Test.YtfanginpfppdeaaDoorChecked
import GoSem.Claim
import GoSem.ClaimJoined
import GoSem.ClaimMapViews
import Derived.JoinedTies
import Derived.KernelRfl
namespace Go.Proofs.YtfanginpfppdeaaDoor
/- THE CELL 'sum', in the pinned program and in every row, IS THE sha256 OF THE DUMP (.gsa) THAT YtfanginpfppdeaaDoorProg.lean LOADS. Nothing in Lean hashes anything: it is a label: what it is worth is what the hold of that sum in a sandbox is worth. -/
noncomputable def Tryd.pinned : Pinned := { name := "ytfanginpfppdeaadoor", sum := "0dd23385fb61b74e6676515cdea6d6228c9713e2815c8f19d786b2d07d0a619c", checked := Tryd.checked }
namespace Rows
def none {H : Type} : Left H := { results := [], args := [] }

/- WHAT THE LISTED PACKAGE-LEVEL VARIABLES READ AS WHEN THE CALL BEGINS. Each datum BY PROGRAM (the guide's laid-datum.mjs) off the statement by which the dump's own 'gosem.cut.vars' lays the variable. In a bare row this is a premise. The card (YtfanginpfppdeaaDoorCards.lean) ties it to the program's text. -/
def laid_bytes_ErrTooLarge {H : Type} : DataW H := .iface "*errors.errorString" (.ptr (.agg [.lit (.string [98, 121, 116, 101, 115, 46, 66, 117, 102, 102, 101, 114, 58, 32, 116, 111, 111, 32, 108, 97, 114, 103, 101])]))
def laid_loop_example_pub_g01474_pub_gogit_plumbing_format_packfile_ErrInvalidDelta {H : Type} : DataW H := .iface "*errors.errorString" (.ptr (.agg [.lit (.string [105, 110, 118, 97, 108, 105, 100, 32, 100, 101, 108, 116, 97])]))
def laid_loop_example_pub_g01474_pub_gogit_plumbing_format_packfile_ErrDeltaCmd {H : Type} : DataW H := .iface "*errors.errorString" (.ptr (.agg [.lit (.string [119, 114, 111, 110, 103, 32, 100, 101, 108, 116, 97, 32, 99, 111, 109, 109, 97, 110, 100])]))
def laid_loop_example_pub_g01474_pub_gogit_plumbing_format_packfile_offsets {H : Type} : DataW H := .slice [.agg [.lit (.int .u8 1), .lit (.int .u64 0)], .agg [.lit (.int .u8 2), .lit (.int .u64 8)], .agg [.lit (.int .u8 4), .lit (.int .u64 16)], .agg [.lit (.int .u8 8), .lit (.int .u64 24)]] []
def laid_loop_example_pub_g01474_pub_gogit_plumbing_format_packfile_sizes {H : Type} : DataW H := .slice [.agg [.lit (.int .u8 16), .lit (.int .u64 0)], .agg [.lit (.int .u8 32), .lit (.int .u64 8)], .agg [.lit (.int .u8 64), .lit (.int .u64 16)]] []
def laid_loop_example_pub_g01474_pub_gogit_plumbing_format_packfile_ErrLengthOverflow {H : Type} : DataW H := .iface "*errors.errorString" (.ptr (.agg [.lit (.string [118, 97, 114, 105, 97, 98, 108, 101, 45, 108, 101, 110, 103, 116, 104, 32, 105, 110, 116, 101, 103, 101, 114, 32, 111, 118, 101, 114, 102, 108, 111, 119])]))

/-- 'laws.FnDeltaAny': WHATEVER THE INPUT: true; the input reads as it did. -/
def fnDeltaAnySpec : ChangeSpec := { name := "fnDeltaAny", vars := ["loop.example/pub-g01474/pub/gogit/plumbing/format/packfile.ErrInvalidDelta", "loop.example/pub-g01474/pub/gogit/plumbing/format/packfile.ErrDeltaCmd", "loop.example/pub-g01474/pub/gogit/plumbing/format/packfile.ErrLengthOverflow", "loop.example/pub-g01474/pub/gogit/plumbing/format/packfile.offsets", "loop.example/pub-g01474/pub/gogit/plumbing/format/packfile.sizes"], fn := fun _ => fun
  | [d1, d2, g1, g2, g3, g4, g5] => { results := [.lit (.bool true)], args := [d1, d2], vars := [g1, g2, g3, g4, g5] }
  | _ => none }
def fnDeltaAnyRow : OpenClaim := { program := "ytfanginpfppdeaadoor", sum := "0dd23385fb61b74e6676515cdea6d6228c9713e2815c8f19d786b2d07d0a619c", func := "loop.example/pub-g01474/laws.FnDeltaAny", spec := "fnDeltaAny", named := ["loop.example/pub-g01474/pub/gogit/plumbing/format/packfile.ErrInvalidDelta", "loop.example/pub-g01474/pub/gogit/plumbing/format/packfile.ErrDeltaCmd", "loop.example/pub-g01474/pub/gogit/plumbing/format/packfile.ErrLengthOverflow", "bytes.ErrTooLarge", "loop.example/pub-g01474/pub/gogit/plumbing/format/packfile.offsets", "loop.example/pub-g01474/pub/gogit/plumbing/format/packfile.sizes"], ifaces := true, apart := false, laid := [("bytes.ErrTooLarge", laid_bytes_ErrTooLarge), ("loop.example/pub-g01474/pub/gogit/plumbing/format/packfile.ErrInvalidDelta", laid_loop_example_pub_g01474_pub_gogit_plumbing_format_packfile_ErrInvalidDelta), ("loop.example/pub-g01474/pub/gogit/plumbing/format/packfile.ErrDeltaCmd", laid_loop_example_pub_g01474_pub_gogit_plumbing_format_packfile_ErrDeltaCmd), ("loop.example/pub-g01474/pub/gogit/plumbing/format/packfile.offsets", laid_loop_example_pub_g01474_pub_gogit_plumbing_format_packfile_offsets), ("loop.example/pub-g01474/pub/gogit/plumbing/format/packfile.sizes", laid_loop_example_pub_g01474_pub_gogit_plumbing_format_packfile_sizes), ("loop.example/pub-g01474/pub/gogit/plumbing/format/packfile.ErrLengthOverflow", laid_loop_example_pub_g01474_pub_gogit_plumbing_format_packfile_ErrLengthOverflow)] }
def FnDeltaAnySaid : Prop := fnDeltaAnyRow.holds Tryd.pinned (OpenSpec.ofChange fnDeltaAnySpec)

/-- ITS FALSE NEIGHBOUR: 'it returns false'. Refute it at one input. -/
def fnDeltaAnyWrong : ChangeSpec := { name := "fnDeltaAny", vars := ["loop.example/pub-g01474/pub/gogit/plumbing/format/packfile.ErrInvalidDelta", "loop.example/pub-g01474/pub/gogit/plumbing/format/packfile.ErrDeltaCmd", "loop.example/pub-g01474/pub/gogit/plumbing/format/packfile.ErrLengthOverflow", "loop.example/pub-g01474/pub/gogit/plumbing/format/packfile.offsets", "loop.example/pub-g01474/pub/gogit/plumbing/format/packfile.sizes"], fn := fun _ => fun
  | [d1, d2, g1, g2, g3, g4, g5] => { results := [.lit (.bool false)], args := [d1, d2], vars := [g1, g2, g3, g4, g5] }
  | _ => none }
def FnDeltaAnyWrongFalsely : Prop := fnDeltaAnyRow.holds Tryd.pinned (OpenSpec.ofChange fnDeltaAnyWrong)

/-- 'laws.FnDeltaBeyond': WHATEVER THE INPUT: true; the input reads as it did. -/
def fnDeltaBeyondSpec : ChangeSpec := { name := "fnDeltaBeyond", vars := ["loop.example/pub-g01474/pub/gogit/plumbing/format/packfile.ErrInvalidDelta", "loop.example/pub-g01474/pub/gogit/plumbing/format/packfile.ErrDeltaCmd", "loop.example/pub-g01474/pub/gogit/plumbing/format/packfile.ErrLengthOverflow", "loop.example/pub-g01474/pub/gogit/plumbing/format/packfile.offsets", "loop.example/pub-g01474/pub/gogit/plumbing/format/packfile.sizes"], fn := fun _ => fun
  | [d1, d2, d3, g1, g2, g3, g4, g5] => { results := [.lit (.bool true)], args := [d1, d2, d3], vars := [g1, g2, g3, g4, g5] }
  | _ => none }
def fnDeltaBeyondRow : OpenClaim := { program := "ytfanginpfppdeaadoor", sum := "0dd23385fb61b74e6676515cdea6d6228c9713e2815c8f19d786b2d07d0a619c", func := "loop.example/pub-g01474/laws.FnDeltaBeyond", spec := "fnDeltaBeyond", named := ["loop.example/pub-g01474/pub/gogit/plumbing/format/packfile.ErrInvalidDelta", "loop.example/pub-g01474/pub/gogit/plumbing/format/packfile.ErrDeltaCmd", "loop.example/pub-g01474/pub/gogit/plumbing/format/packfile.ErrLengthOverflow", "bytes.ErrTooLarge", "loop.example/pub-g01474/pub/gogit/plumbing/format/packfile.offsets", "loop.example/pub-g01474/pub/gogit/plumbing/format/packfile.sizes"], ifaces := true, apart := false, laid := [("bytes.ErrTooLarge", laid_bytes_ErrTooLarge), ("loop.example/pub-g01474/pub/gogit/plumbing/format/packfile.ErrInvalidDelta", laid_loop_example_pub_g01474_pub_gogit_plumbing_format_packfile_ErrInvalidDelta), ("loop.example/pub-g01474/pub/gogit/plumbing/format/packfile.ErrDeltaCmd", laid_loop_example_pub_g01474_pub_gogit_plumbing_format_packfile_ErrDeltaCmd), ("loop.example/pub-g01474/pub/gogit/plumbing/format/packfile.offsets", laid_loop_example_pub_g01474_pub_gogit_plumbing_format_packfile_offsets), ("loop.example/pub-g01474/pub/gogit/plumbing/format/packfile.sizes", laid_loop_example_pub_g01474_pub_gogit_plumbing_format_packfile_sizes), ("loop.example/pub-g01474/pub/gogit/plumbing/format/packfile.ErrLengthOverflow", laid_loop_example_pub_g01474_pub_gogit_plumbing_format_packfile_ErrLengthOverflow)] }
def FnDeltaBeyondSaid : Prop := fnDeltaBeyondRow.holds Tryd.pinned (OpenSpec.ofChange fnDeltaBeyondSpec)

/-- ITS FALSE NEIGHBOUR: 'it returns false'. Refute it at one input. -/
def fnDeltaBeyondWrong : ChangeSpec := { name := "fnDeltaBeyond", vars := ["loop.example/pub-g01474/pub/gogit/plumbing/format/packfile.ErrInvalidDelta", "loop.example/pub-g01474/pub/gogit/plumbing/format/packfile.ErrDeltaCmd", "loop.example/pub-g01474/pub/gogit/plumbing/format/packfile.ErrLengthOverflow", "loop.example/pub-g01474/pub/gogit/plumbing/format/packfile.offsets", "loop.example/pub-g01474/pub/gogit/plumbing/format/packfile.sizes"], fn := fun _ => fun
  | [d1, d2, d3, g1, g2, g3, g4, g5] => { results := [.lit (.bool false)], args := [d1, d2, d3], vars := [g1, g2, g3, g4, g5] }
  | _ => none }
def FnDeltaBeyondWrongFalsely : Prop := fnDeltaBeyondRow.holds Tryd.pinned (OpenSpec.ofChange fnDeltaBeyondWrong)

/-- 'laws.FnDeltaCopy': WHATEVER THE INPUT: true; the input reads as it did. -/
def fnDeltaCopySpec : ChangeSpec := { name := "fnDeltaCopy", vars := ["loop.example/pub-g01474/pub/gogit/plumbing/format/packfile.ErrInvalidDelta", "loop.example/pub-g01474/pub/gogit/plumbing/format/packfile.ErrDeltaCmd", "loop.example/pub-g01474/pub/gogit/plumbing/format/packfile.ErrLengthOverflow", "loop.example/pub-g01474/pub/gogit/plumbing/format/packfile.offsets", "loop.example/pub-g01474/pub/gogit/plumbing/format/packfile.sizes"], fn := fun _ => fun
  | [d1, d2, d3, d4, g1, g2, g3, g4, g5] => { results := [.lit (.bool true)], args := [d1, d2, d3, d4], vars := [g1, g2, g3, g4, g5] }
  | _ => none }
def fnDeltaCopyRow : OpenClaim := { program := "ytfanginpfppdeaadoor", sum := "0dd23385fb61b74e6676515cdea6d6228c9713e2815c8f19d786b2d07d0a619c", func := "loop.example/pub-g01474/laws.FnDeltaCopy", spec := "fnDeltaCopy", named := ["loop.example/pub-g01474/pub/gogit/plumbing/format/packfile.ErrInvalidDelta", "loop.example/pub-g01474/pub/gogit/plumbing/format/packfile.ErrDeltaCmd", "loop.example/pub-g01474/pub/gogit/plumbing/format/packfile.ErrLengthOverflow", "bytes.ErrTooLarge", "loop.example/pub-g01474/pub/gogit/plumbing/format/packfile.offsets", "loop.example/pub-g01474/pub/gogit/plumbing/format/packfile.sizes"], ifaces := true, apart := false, laid := [("bytes.ErrTooLarge", laid_bytes_ErrTooLarge), ("loop.example/pub-g01474/pub/gogit/plumbing/format/packfile.ErrInvalidDelta", laid_loop_example_pub_g01474_pub_gogit_plumbing_format_packfile_ErrInvalidDelta), ("loop.example/pub-g01474/pub/gogit/plumbing/format/packfile.ErrDeltaCmd", laid_loop_example_pub_g01474_pub_gogit_plumbing_format_packfile_ErrDeltaCmd), ("loop.example/pub-g01474/pub/gogit/plumbing/format/packfile.offsets", laid_loop_example_pub_g01474_pub_gogit_plumbing_format_packfile_offsets), ("loop.example/pub-g01474/pub/gogit/plumbing/format/packfile.sizes", laid_loop_example_pub_g01474_pub_gogit_plumbing_format_packfile_sizes), ("loop.example/pub-g01474/pub/gogit/plumbing/format/packfile.ErrLengthOverflow", laid_loop_example_pub_g01474_pub_gogit_plumbing_format_packfile_ErrLengthOverflow)] }
def FnDeltaCopySaid : Prop := fnDeltaCopyRow.holds Tryd.pinned (OpenSpec.ofChange fnDeltaCopySpec)

/-- ITS FALSE NEIGHBOUR: 'it returns false'. Refute it at one input. -/
def fnDeltaCopyWrong : ChangeSpec := { name := "fnDeltaCopy", vars := ["loop.example/pub-g01474/pub/gogit/plumbing/format/packfile.ErrInvalidDelta", "loop.example/pub-g01474/pub/gogit/plumbing/format/packfile.ErrDeltaCmd", "loop.example/pub-g01474/pub/gogit/plumbing/format/packfile.ErrLengthOverflow", "loop.example/pub-g01474/pub/gogit/plumbing/format/packfile.offsets", "loop.example/pub-g01474/pub/gogit/plumbing/format/packfile.sizes"], fn := fun _ => fun
  | [d1, d2, d3, d4, g1, g2, g3, g4, g5] => { results := [.lit (.bool false)], args := [d1, d2, d3, d4], vars := [g1, g2, g3, g4, g5] }
  | _ => none }
def FnDeltaCopyWrongFalsely : Prop := fnDeltaCopyRow.holds Tryd.pinned (OpenSpec.ofChange fnDeltaCopyWrong)

/- THE SECOND FORM. 'bulk': how many values and letters a reading holds, each counted each time it is reached (what is shared counts as often as it is met; a slice's spare places count too). A statement '..UptoSaid' is the law's where the arguments, and the package variables that the reading takes, are together of bulk at most 1048576: NARROWER than '..Said'. Prove '..Said' where nothing that the law and all that it calls make is longer than what came in: it says more and counts as full. Else prove '..UptoSaid'. A law counts once. -/
mutual
def uptoBulk {H : Type} : DataW H → Nat
  | .lit (.string bytes) => bytes.length + 1
  | .lit _ => 1
  | .nil => 1
  | .ptr d => uptoBulk d + 1
  | .slice elems spare => uptoBulkAll elems + uptoBulkAll spare + 1
  | .agg parts => uptoBulkAll parts + 1
  | .iface _ d => uptoBulk d + 1
  | .map entries => uptoBulkEntries entries + 1
  | .held _ => 1
def uptoBulkAll {H : Type} : List (DataW H) → Nat
  | [] => 0
  | d :: r => uptoBulk d + uptoBulkAll r
def uptoBulkEntries {H : Type} : List (Lit × DataW H) → Nat
  | [] => 0
  | x :: r => uptoBulkEntry x + uptoBulkEntries r
def uptoBulkEntry {H : Type} : Lit × DataW H → Nat
  | (.string bytes, d) => bytes.length + uptoBulk d + 1
  | (_, d) => uptoBulk d + 1
 end
def uptoSmall : (H : Type) → List (DataW H) → Bool := fun _ ds => decide (uptoBulkAll ds ≤ 1048576)
def OpenSpec.upto (s : _root_.Go.ChangeSpec) : _root_.Go.OpenSpec := { _root_.Go.OpenSpec.ofChange s with cond := some uptoSmall }

/-- 'laws.FnDeltaAny', WHERE WHAT IT READS IS OF BULK AT MOST 1048576: true; the input reads as it did. -/
def fnDeltaAnyUptoRow : OpenClaim := { program := "ytfanginpfppdeaadoor", sum := "0dd23385fb61b74e6676515cdea6d6228c9713e2815c8f19d786b2d07d0a619c", func := "loop.example/pub-g01474/laws.FnDeltaAny", spec := "fnDeltaAny", named := ["loop.example/pub-g01474/pub/gogit/plumbing/format/packfile.ErrInvalidDelta", "loop.example/pub-g01474/pub/gogit/plumbing/format/packfile.ErrDeltaCmd", "loop.example/pub-g01474/pub/gogit/plumbing/format/packfile.ErrLengthOverflow", "bytes.ErrTooLarge", "loop.example/pub-g01474/pub/gogit/plumbing/format/packfile.offsets", "loop.example/pub-g01474/pub/gogit/plumbing/format/packfile.sizes"], ifaces := true, apart := false, laid := [("bytes.ErrTooLarge", laid_bytes_ErrTooLarge), ("loop.example/pub-g01474/pub/gogit/plumbing/format/packfile.ErrInvalidDelta", laid_loop_example_pub_g01474_pub_gogit_plumbing_format_packfile_ErrInvalidDelta), ("loop.example/pub-g01474/pub/gogit/plumbing/format/packfile.ErrDeltaCmd", laid_loop_example_pub_g01474_pub_gogit_plumbing_format_packfile_ErrDeltaCmd), ("loop.example/pub-g01474/pub/gogit/plumbing/format/packfile.offsets", laid_loop_example_pub_g01474_pub_gogit_plumbing_format_packfile_offsets), ("loop.example/pub-g01474/pub/gogit/plumbing/format/packfile.sizes", laid_loop_example_pub_g01474_pub_gogit_plumbing_format_packfile_sizes), ("loop.example/pub-g01474/pub/gogit/plumbing/format/packfile.ErrLengthOverflow", laid_loop_example_pub_g01474_pub_gogit_plumbing_format_packfile_ErrLengthOverflow)], narrowed := true }
def FnDeltaAnyUptoSaid : Prop := fnDeltaAnyUptoRow.holds Tryd.pinned (OpenSpec.upto fnDeltaAnySpec)

/-- 'laws.FnDeltaBeyond', WHERE WHAT IT READS IS OF BULK AT MOST 1048576: true; the input reads as it did. -/
def fnDeltaBeyondUptoRow : OpenClaim := { program := "ytfanginpfppdeaadoor", sum := "0dd23385fb61b74e6676515cdea6d6228c9713e2815c8f19d786b2d07d0a619c", func := "loop.example/pub-g01474/laws.FnDeltaBeyond", spec := "fnDeltaBeyond", named := ["loop.example/pub-g01474/pub/gogit/plumbing/format/packfile.ErrInvalidDelta", "loop.example/pub-g01474/pub/gogit/plumbing/format/packfile.ErrDeltaCmd", "loop.example/pub-g01474/pub/gogit/plumbing/format/packfile.ErrLengthOverflow", "bytes.ErrTooLarge", "loop.example/pub-g01474/pub/gogit/plumbing/format/packfile.offsets", "loop.example/pub-g01474/pub/gogit/plumbing/format/packfile.sizes"], ifaces := true, apart := false, laid := [("bytes.ErrTooLarge", laid_bytes_ErrTooLarge), ("loop.example/pub-g01474/pub/gogit/plumbing/format/packfile.ErrInvalidDelta", laid_loop_example_pub_g01474_pub_gogit_plumbing_format_packfile_ErrInvalidDelta), ("loop.example/pub-g01474/pub/gogit/plumbing/format/packfile.ErrDeltaCmd", laid_loop_example_pub_g01474_pub_gogit_plumbing_format_packfile_ErrDeltaCmd), ("loop.example/pub-g01474/pub/gogit/plumbing/format/packfile.offsets", laid_loop_example_pub_g01474_pub_gogit_plumbing_format_packfile_offsets), ("loop.example/pub-g01474/pub/gogit/plumbing/format/packfile.sizes", laid_loop_example_pub_g01474_pub_gogit_plumbing_format_packfile_sizes), ("loop.example/pub-g01474/pub/gogit/plumbing/format/packfile.ErrLengthOverflow", laid_loop_example_pub_g01474_pub_gogit_plumbing_format_packfile_ErrLengthOverflow)], narrowed := true }
def FnDeltaBeyondUptoSaid : Prop := fnDeltaBeyondUptoRow.holds Tryd.pinned (OpenSpec.upto fnDeltaBeyondSpec)

/-- 'laws.FnDeltaCopy', WHERE WHAT IT READS IS OF BULK AT MOST 1048576: true; the input reads as it did. -/
def fnDeltaCopyUptoRow : OpenClaim := { program := "ytfanginpfppdeaadoor", sum := "0dd23385fb61b74e6676515cdea6d6228c9713e2815c8f19d786b2d07d0a619c", func := "loop.example/pub-g01474/laws.FnDeltaCopy", spec := "fnDeltaCopy", named := ["loop.example/pub-g01474/pub/gogit/plumbing/format/packfile.ErrInvalidDelta", "loop.example/pub-g01474/pub/gogit/plumbing/format/packfile.ErrDeltaCmd", "loop.example/pub-g01474/pub/gogit/plumbing/format/packfile.ErrLengthOverflow", "bytes.ErrTooLarge", "loop.example/pub-g01474/pub/gogit/plumbing/format/packfile.offsets", "loop.example/pub-g01474/pub/gogit/plumbing/format/packfile.sizes"], ifaces := true, apart := false, laid := [("bytes.ErrTooLarge", laid_bytes_ErrTooLarge), ("loop.example/pub-g01474/pub/gogit/plumbing/format/packfile.ErrInvalidDelta", laid_loop_example_pub_g01474_pub_gogit_plumbing_format_packfile_ErrInvalidDelta), ("loop.example/pub-g01474/pub/gogit/plumbing/format/packfile.ErrDeltaCmd", laid_loop_example_pub_g01474_pub_gogit_plumbing_format_packfile_ErrDeltaCmd), ("loop.example/pub-g01474/pub/gogit/plumbing/format/packfile.offsets", laid_loop_example_pub_g01474_pub_gogit_plumbing_format_packfile_offsets), ("loop.example/pub-g01474/pub/gogit/plumbing/format/packfile.sizes", laid_loop_example_pub_g01474_pub_gogit_plumbing_format_packfile_sizes), ("loop.example/pub-g01474/pub/gogit/plumbing/format/packfile.ErrLengthOverflow", laid_loop_example_pub_g01474_pub_gogit_plumbing_format_packfile_ErrLengthOverflow)], narrowed := true }
def FnDeltaCopyUptoSaid : Prop := fnDeltaCopyUptoRow.holds Tryd.pinned (OpenSpec.upto fnDeltaCopySpec)

end Rows
end Go.Proofs.YtfanginpfppdeaaDoor
