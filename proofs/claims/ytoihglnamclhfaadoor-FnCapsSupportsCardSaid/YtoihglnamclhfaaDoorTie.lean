/-
  DERIVED. GIVEN WITH THE SEED: THE PROGRAM's TIES (one call each: nine closed facts by the kernel) AND EACH ROW's TIE, after the 31st guide's Derived/Test/Toyas{Tie, Card}.lean. No idea stands in it: it is a product of the set-up. Laid BY PROGRAM, IN A SANDBOX (cutbox-door.mjs). By AI agents, Wed Nov 11 2026. No macro, syntax, notation, axiom, sorry.
-/
import Derived.Test.YtoihglnamclhfaaDoorRows
import Derived.LaidByTextLater
import Derived.SevenTiedAt
import Derived.LaidSub
import Derived.LaidOnce
namespace Go.Proofs.YtoihglnamclhfaaDoor
open Go
set_option maxRecDepth 100000
theorem seatTie1 : Tryd.prog.laidByTextLater [("io.ErrShortBuffer", Rows.laid_io_ErrShortBuffer), ("io.EOF", Rows.laid_io_EOF), ("io.ErrUnexpectedEOF", Rows.laid_io_ErrUnexpectedEOF), ("encoding/hex.ErrLength", Rows.laid_encoding_hex_ErrLength), ("loop.example/pub-g01474/pub/gogit/plumbing.ErrObjectNotFound", Rows.laid_loop_example_pub_g01474_pub_gogit_plumbing_ErrObjectNotFound), ("loop.example/pub-g01474/pub/gogit/plumbing/format/idxfile.ErrUnsupportedVersion", Rows.laid_loop_example_pub_g01474_pub_gogit_plumbing_format_idxfile_ErrUnsupportedVersion), ("loop.example/pub-g01474/pub/gogit/plumbing/format/idxfile.ErrMalformedIdxFile", Rows.laid_loop_example_pub_g01474_pub_gogit_plumbing_format_idxfile_ErrMalformedIdxFile)] [.sentinel, .sentinel, .sentinel, .sentinel, .sentinel, .sentinel, .sentinel] true :=
  Program.laidByTextLater_by_one 276 8 257 (by kernel_rfl) (by kernel_rfl) (by kernel_rfl) (by kernel_rfl) (by kernel_rfl) (by kernel_rfl) (fun _ _ => by kernel_rfl)
theorem seatTie2 : Tryd.prog.laidByTextLater [("unicode/utf8.acceptRanges", Rows.laid_unicode_utf8_acceptRanges), ("io.ErrShortBuffer", Rows.laid_io_ErrShortBuffer), ("io.EOF", Rows.laid_io_EOF), ("io.ErrUnexpectedEOF", Rows.laid_io_ErrUnexpectedEOF), ("unicode.White_Space", Rows.laid_unicode_White_Space), ("bytes.asciiSpace", Rows.laid_bytes_asciiSpace), ("strings.asciiSpace", Rows.laid_strings_asciiSpace), ("loop.example/pub-g01474/pub/gogit/plumbing/format/pktline.ErrInvalidPktLen", Rows.laid_loop_example_pub_g01474_pub_gogit_plumbing_format_pktline_ErrInvalidPktLen), ("loop.example/pub-g01474/pub/gogit/plumbing/protocol/packp/capability.ErrArgumentsRequired", Rows.laid_loop_example_pub_g01474_pub_gogit_plumbing_protocol_packp_capability_ErrArgumentsRequired), ("loop.example/pub-g01474/pub/gogit/plumbing/protocol/packp/capability.ErrArguments", Rows.laid_loop_example_pub_g01474_pub_gogit_plumbing_protocol_packp_capability_ErrArguments), ("loop.example/pub-g01474/pub/gogit/plumbing/protocol/packp/capability.ErrEmptyArgument", Rows.laid_loop_example_pub_g01474_pub_gogit_plumbing_protocol_packp_capability_ErrEmptyArgument), ("loop.example/pub-g01474/pub/gogit/plumbing/protocol/packp/capability.ErrMultipleArguments", Rows.laid_loop_example_pub_g01474_pub_gogit_plumbing_protocol_packp_capability_ErrMultipleArguments)] [.data, .sentinel, .sentinel, .sentinel, .listed, .data, .data, .sentinel, .sentinel, .sentinel, .sentinel, .sentinel] true :=
  Program.laidByTextLater_by_one 276 8 257 (by kernel_rfl) (by kernel_rfl) (by kernel_rfl) (by kernel_rfl) (by kernel_rfl) (by kernel_rfl) (fun _ _ => by kernel_rfl)
theorem pin_laid_unicode_utf8_first : Tryd.pinned.checked.prog.pinnedFits "unicode/utf8.first" = true := by kernel_rfl
theorem noOwnUnsafe : Tryd.pinned.checked.prog.headLifts.contains "ownunsafe" = false := by kernel_rfl
theorem tie : Tryd.prog.laidByTextLater [("io.ErrShortBuffer", Rows.laid_io_ErrShortBuffer), ("io.EOF", Rows.laid_io_EOF), ("io.ErrUnexpectedEOF", Rows.laid_io_ErrUnexpectedEOF), ("encoding/hex.ErrLength", Rows.laid_encoding_hex_ErrLength), ("loop.example/pub-g01474/pub/gogit/plumbing.ErrObjectNotFound", Rows.laid_loop_example_pub_g01474_pub_gogit_plumbing_ErrObjectNotFound), ("loop.example/pub-g01474/pub/gogit/plumbing/format/idxfile.ErrUnsupportedVersion", Rows.laid_loop_example_pub_g01474_pub_gogit_plumbing_format_idxfile_ErrUnsupportedVersion), ("loop.example/pub-g01474/pub/gogit/plumbing/format/idxfile.ErrMalformedIdxFile", Rows.laid_loop_example_pub_g01474_pub_gogit_plumbing_format_idxfile_ErrMalformedIdxFile)] [.sentinel, .sentinel, .sentinel, .sentinel, .sentinel, .sentinel, .sentinel] true :=
  Program.laidByTextLater.sub seatTie1 ["io.ErrShortBuffer", "io.EOF", "io.ErrUnexpectedEOF", "encoding/hex.ErrLength", "loop.example/pub-g01474/pub/gogit/plumbing.ErrObjectNotFound", "loop.example/pub-g01474/pub/gogit/plumbing/format/idxfile.ErrUnsupportedVersion", "loop.example/pub-g01474/pub/gogit/plumbing/format/idxfile.ErrMalformedIdxFile"] (by kernel_rfl) (by kernel_rfl)
theorem fnFindCount_row_tie : Rows.fnFindCountRow.laidByTextAt .later Tryd.pinned [.sentinel, .sentinel, .sentinel, .sentinel, .sentinel, .sentinel, .sentinel] true :=
  OpenClaim.laidByTextAt_later rfl rfl tie noOwnUnsafe
theorem fnFindOffset_row_tie : Rows.fnFindOffsetRow.laidByTextAt .later Tryd.pinned [.sentinel, .sentinel, .sentinel, .sentinel, .sentinel, .sentinel, .sentinel] true :=
  OpenClaim.laidByTextAt_later rfl rfl tie noOwnUnsafe
theorem tie2 : Tryd.prog.laidByTextLater [("encoding/hex.ErrLength", Rows.laid_encoding_hex_ErrLength)] [.sentinel] true :=
  Program.laidByTextLater.sub seatTie1 ["encoding/hex.ErrLength"] (by kernel_rfl) (by kernel_rfl)
theorem fnObjSort_row_tie : Rows.fnObjSortRow.laidByTextAt .later Tryd.pinned [.sentinel] true :=
  OpenClaim.laidByTextAt_later rfl rfl tie2 noOwnUnsafe
theorem fits3 : Tryd.pinned.checked.prog.listedFits [("unicode/utf8.acceptRanges", Rows.laid_unicode_utf8_acceptRanges), ("io.ErrShortBuffer", Rows.laid_io_ErrShortBuffer), ("io.EOF", Rows.laid_io_EOF), ("io.ErrUnexpectedEOF", Rows.laid_io_ErrUnexpectedEOF), ("unicode.White_Space", Rows.laid_unicode_White_Space), ("bytes.asciiSpace", Rows.laid_bytes_asciiSpace), ("strings.asciiSpace", Rows.laid_strings_asciiSpace), ("loop.example/pub-g01474/pub/gogit/plumbing/format/pktline.ErrInvalidPktLen", Rows.laid_loop_example_pub_g01474_pub_gogit_plumbing_format_pktline_ErrInvalidPktLen), ("loop.example/pub-g01474/pub/gogit/plumbing/protocol/packp/capability.ErrArgumentsRequired", Rows.laid_loop_example_pub_g01474_pub_gogit_plumbing_protocol_packp_capability_ErrArgumentsRequired), ("loop.example/pub-g01474/pub/gogit/plumbing/protocol/packp/capability.ErrArguments", Rows.laid_loop_example_pub_g01474_pub_gogit_plumbing_protocol_packp_capability_ErrArguments), ("loop.example/pub-g01474/pub/gogit/plumbing/protocol/packp/capability.ErrEmptyArgument", Rows.laid_loop_example_pub_g01474_pub_gogit_plumbing_protocol_packp_capability_ErrEmptyArgument), ("loop.example/pub-g01474/pub/gogit/plumbing/protocol/packp/capability.ErrMultipleArguments", Rows.laid_loop_example_pub_g01474_pub_gogit_plumbing_protocol_packp_capability_ErrMultipleArguments), ("unicode/utf8.first", Rows.laid_unicode_utf8_first)] = true := by
  unfold Program.listedFits
  rw [noOwnUnsafe]
  kernel_rfl
theorem tie3 : Tryd.prog.laidByTextLater [("unicode/utf8.acceptRanges", Rows.laid_unicode_utf8_acceptRanges), ("io.ErrShortBuffer", Rows.laid_io_ErrShortBuffer), ("io.EOF", Rows.laid_io_EOF), ("io.ErrUnexpectedEOF", Rows.laid_io_ErrUnexpectedEOF), ("unicode.White_Space", Rows.laid_unicode_White_Space), ("bytes.asciiSpace", Rows.laid_bytes_asciiSpace), ("strings.asciiSpace", Rows.laid_strings_asciiSpace), ("loop.example/pub-g01474/pub/gogit/plumbing/format/pktline.ErrInvalidPktLen", Rows.laid_loop_example_pub_g01474_pub_gogit_plumbing_format_pktline_ErrInvalidPktLen), ("loop.example/pub-g01474/pub/gogit/plumbing/protocol/packp/capability.ErrArgumentsRequired", Rows.laid_loop_example_pub_g01474_pub_gogit_plumbing_protocol_packp_capability_ErrArgumentsRequired), ("loop.example/pub-g01474/pub/gogit/plumbing/protocol/packp/capability.ErrArguments", Rows.laid_loop_example_pub_g01474_pub_gogit_plumbing_protocol_packp_capability_ErrArguments), ("loop.example/pub-g01474/pub/gogit/plumbing/protocol/packp/capability.ErrEmptyArgument", Rows.laid_loop_example_pub_g01474_pub_gogit_plumbing_protocol_packp_capability_ErrEmptyArgument), ("loop.example/pub-g01474/pub/gogit/plumbing/protocol/packp/capability.ErrMultipleArguments", Rows.laid_loop_example_pub_g01474_pub_gogit_plumbing_protocol_packp_capability_ErrMultipleArguments)] [.data, .sentinel, .sentinel, .sentinel, .listed, .data, .data, .sentinel, .sentinel, .sentinel, .sentinel, .sentinel] true :=
  Program.laidByTextLater.sub seatTie2 ["unicode/utf8.acceptRanges", "io.ErrShortBuffer", "io.EOF", "io.ErrUnexpectedEOF", "unicode.White_Space", "bytes.asciiSpace", "strings.asciiSpace", "loop.example/pub-g01474/pub/gogit/plumbing/format/pktline.ErrInvalidPktLen", "loop.example/pub-g01474/pub/gogit/plumbing/protocol/packp/capability.ErrArgumentsRequired", "loop.example/pub-g01474/pub/gogit/plumbing/protocol/packp/capability.ErrArguments", "loop.example/pub-g01474/pub/gogit/plumbing/protocol/packp/capability.ErrEmptyArgument", "loop.example/pub-g01474/pub/gogit/plumbing/protocol/packp/capability.ErrMultipleArguments"] (by kernel_rfl) (by kernel_rfl)
theorem fnCapsSupports_row_tie : Rows.fnCapsSupportsRow.laidByTextAt .later Tryd.pinned [.data, .sentinel, .sentinel, .sentinel, .listed, .data, .data, .sentinel, .sentinel, .sentinel, .sentinel, .sentinel, .pinned] true :=
  OpenClaim.laidByTextAt_pinned rfl rfl tie3 rfl rfl rfl rfl (fun y hy _e => by
    simp only [Rows.fnCapsSupportsRow, List.zip_cons_cons, List.zip_nil_right, List.mem_cons, List.mem_nil_iff, or_false] at hy
    rcases hy with rfl | rfl | rfl | rfl | rfl | rfl | rfl | rfl | rfl | rfl | rfl | rfl | rfl
    · cases _e
    · cases _e
    · cases _e
    · cases _e
    · cases _e
    · cases _e
    · cases _e
    · cases _e
    · cases _e
    · cases _e
    · cases _e
    · cases _e
    · exact ⟨pin_laid_unicode_utf8_first, by kernel_rfl⟩) fits3
theorem fnFindCountUpto_row_tie : Rows.fnFindCountUptoRow.laidByTextAt .later Tryd.pinned [.sentinel, .sentinel, .sentinel, .sentinel, .sentinel, .sentinel, .sentinel] true :=
  OpenClaim.laidByTextAt_later rfl rfl tie noOwnUnsafe
theorem fnObjSortUpto_row_tie : Rows.fnObjSortUptoRow.laidByTextAt .later Tryd.pinned [.sentinel] true :=
  OpenClaim.laidByTextAt_later rfl rfl tie2 noOwnUnsafe
theorem fnFindOffsetUpto_row_tie : Rows.fnFindOffsetUptoRow.laidByTextAt .later Tryd.pinned [.sentinel, .sentinel, .sentinel, .sentinel, .sentinel, .sentinel, .sentinel] true :=
  OpenClaim.laidByTextAt_later rfl rfl tie noOwnUnsafe
theorem fnCapsSupportsUpto_row_tie : Rows.fnCapsSupportsUptoRow.laidByTextAt .later Tryd.pinned [.data, .sentinel, .sentinel, .sentinel, .listed, .data, .data, .sentinel, .sentinel, .sentinel, .sentinel, .sentinel, .pinned] true :=
  OpenClaim.laidByTextAt_pinned rfl rfl tie3 rfl rfl rfl rfl (fun y hy _e => by
    simp only [Rows.fnCapsSupportsUptoRow, List.zip_cons_cons, List.zip_nil_right, List.mem_cons, List.mem_nil_iff, or_false] at hy
    rcases hy with rfl | rfl | rfl | rfl | rfl | rfl | rfl | rfl | rfl | rfl | rfl | rfl | rfl
    · cases _e
    · cases _e
    · cases _e
    · cases _e
    · cases _e
    · cases _e
    · cases _e
    · cases _e
    · cases _e
    · cases _e
    · cases _e
    · cases _e
    · exact ⟨pin_laid_unicode_utf8_first, by kernel_rfl⟩) fits3
end Go.Proofs.YtoihglnamclhfaaDoor
