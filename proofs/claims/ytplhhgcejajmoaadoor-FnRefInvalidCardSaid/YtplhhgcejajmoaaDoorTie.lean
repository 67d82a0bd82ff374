/-
  DERIVED. GIVEN WITH THE SEED: THE PROGRAM's TIES (one call each: nine closed facts by the kernel) AND EACH ROW's TIE, after the 31st guide's Derived/Test/Toyas{Tie, Card}.lean. No idea stands in it: it is a product of the set-up. Laid BY PROGRAM, IN A SANDBOX (cutbox-door.mjs). By AI agents, Wed Nov 11 2026. No macro, syntax, notation, axiom, sorry.
-/
import Derived.Test.YtplhhgcejajmoaaDoorRows
import Derived.LaidByTextLater
import Derived.SevenTiedAt
import Derived.LaidSub
import Derived.LaidOnce
namespace Go.Proofs.YtplhhgcejajmoaaDoor
open Go
set_option maxRecDepth 100000
theorem seatTie1 : Tryd.prog.laidByTextLater [("encoding/hex.ErrLength", Rows.laid_encoding_hex_ErrLength), ("loop.example/pub-g01474/pub/gogit/plumbing.ErrInvalidReferenceName", Rows.laid_loop_example_pub_g01474_pub_gogit_plumbing_ErrInvalidReferenceName), ("loop.example/pub-g01474/pub/gogit/plumbing/format/index.ErrEntryNotFound", Rows.laid_loop_example_pub_g01474_pub_gogit_plumbing_format_index_ErrEntryNotFound)] [.sentinel, .sentinel, .sentinel] true :=
  Program.laidByTextLater_by_one 66 8 2 (by kernel_rfl) (by kernel_rfl) (by kernel_rfl) (by kernel_rfl) (by kernel_rfl) (by kernel_rfl) (fun _ _ => by kernel_rfl)
theorem noOwnUnsafe : Tryd.pinned.checked.prog.headLifts.contains "ownunsafe" = false := by kernel_rfl
theorem tie : Tryd.prog.laidByTextLater [("encoding/hex.ErrLength", Rows.laid_encoding_hex_ErrLength)] [.sentinel] true :=
  Program.laidByTextLater.sub seatTie1 ["encoding/hex.ErrLength"] (by kernel_rfl) (by kernel_rfl)
theorem fnObjIsHash_row_tie : Rows.fnObjIsHashRow.laidByTextAt .later Tryd.pinned [.sentinel] true :=
  OpenClaim.laidByTextAt_later rfl rfl tie noOwnUnsafe
theorem tie2 : Tryd.prog.laidByTextLater [("loop.example/pub-g01474/pub/gogit/plumbing.ErrInvalidReferenceName", Rows.laid_loop_example_pub_g01474_pub_gogit_plumbing_ErrInvalidReferenceName)] [.sentinel] true :=
  Program.laidByTextLater.sub seatTie1 ["loop.example/pub-g01474/pub/gogit/plumbing.ErrInvalidReferenceName"] (by kernel_rfl) (by kernel_rfl)
theorem fnRefInvalid_row_tie : Rows.fnRefInvalidRow.laidByTextAt .later Tryd.pinned [.sentinel] true :=
  OpenClaim.laidByTextAt_later rfl rfl tie2 noOwnUnsafe
theorem tie3 : Tryd.prog.laidByTextLater [("encoding/hex.ErrLength", Rows.laid_encoding_hex_ErrLength), ("loop.example/pub-g01474/pub/gogit/plumbing/format/index.ErrEntryNotFound", Rows.laid_loop_example_pub_g01474_pub_gogit_plumbing_format_index_ErrEntryNotFound)] [.sentinel, .sentinel] true :=
  Program.laidByTextLater.sub seatTie1 ["encoding/hex.ErrLength", "loop.example/pub-g01474/pub/gogit/plumbing/format/index.ErrEntryNotFound"] (by kernel_rfl) (by kernel_rfl)
theorem fnIdxFind_row_tie : Rows.fnIdxFindRow.laidByTextAt .later Tryd.pinned [.sentinel, .sentinel] true :=
  OpenClaim.laidByTextAt_later rfl rfl tie3 noOwnUnsafe
theorem fnObjIsHashUpto_row_tie : Rows.fnObjIsHashUptoRow.laidByTextAt .later Tryd.pinned [.sentinel] true :=
  OpenClaim.laidByTextAt_later rfl rfl tie noOwnUnsafe
theorem fnRefInvalidUpto_row_tie : Rows.fnRefInvalidUptoRow.laidByTextAt .later Tryd.pinned [.sentinel] true :=
  OpenClaim.laidByTextAt_later rfl rfl tie2 noOwnUnsafe
theorem fnIdxFindUpto_row_tie : Rows.fnIdxFindUptoRow.laidByTextAt .later Tryd.pinned [.sentinel, .sentinel] true :=
  OpenClaim.laidByTextAt_later rfl rfl tie3 noOwnUnsafe
end Go.Proofs.YtplhhgcejajmoaaDoor
