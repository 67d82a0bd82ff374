/-
  DERIVED: THE SHELF's CONTRACTS AT THIS DUMP, IN PLAIN WORDS (tools/lay-plain.mjs out of 'TrydShelf.lean', which tools/lay-shelf.mjs wrote): THE SAME DECLARATIONS UNDER THE SAME NAMES: 'import', 'namespace', 'open', 'def', 'theorem' AND NOTHING ELSE: no command of the shelf's: FOR A HAND-IN. Each laying: the table of numbers ('.._ren') and one theorem, a field a fact of the dump's own or the kernel's comparison; each contract: ONE APPLICATION.
-/
import Derived.Shelf.Bytes.TrimSpace
import Derived.Test.YtoihglnamclhfaaDoorProg

namespace Go.Proofs
open Go.Shelf
def Tryd.laysbs188_ren : Go.Shelf.Ren := ⟨fun | 188 => 69 | 256 => 97 | 199 => 98 | 293 => 126 | 292 => 125 | 261 => 127 | 327 => 144 | 325 => 142 | 326 => 143 | 311 => 145 | 312 => 146 | 341 => 153 | 342 => 154 | 120 => 155 | n => n, fun | 37 => 28 | 3 => 3 | 0 => 0 | 5 => 5 | 4 => 4 | 40 => 170 | 119 => 171 | 21 => 21 | 51 => 36 | 141 => 200 | 105 => 217 | 196 => 224 | 193 => 221 | 198 => 227 | 49 => 225 | 194 => 222 | 201 => 230 | 226 => 243 | 46 => 99 | 227 => 244 | 139 => 252 | 138 => 251 | n => n, fun | 2 => 3 | 6 => 10 | 3 => 16 | 4 => 17 | n => n⟩
theorem Tryd.laysbs188 : Go.Proofs.Lays.nbs188 Tryd.prog Tryd.laysbs188_ren := {
  mixed := by kernel_rfl
  f120 := Tryd.func155.trans (congrArg some (by kernel_rfl))
  f188 := Tryd.func69.trans (congrArg some (by kernel_rfl))
  f199 := Tryd.func98.trans (congrArg some (by kernel_rfl))
  f256 := Tryd.func97.trans (congrArg some (by kernel_rfl))
  f261 := Tryd.func127.trans (congrArg some (by kernel_rfl))
  f292 := Tryd.func125.trans (congrArg some (by kernel_rfl))
  f293 := Tryd.func126.trans (congrArg some (by kernel_rfl))
  f311 := Tryd.func145.trans (congrArg some (by kernel_rfl))
  f312 := Tryd.func146.trans (congrArg some (by kernel_rfl))
  f325 := Tryd.func142.trans (congrArg some (by kernel_rfl))
  f326 := Tryd.func143.trans (congrArg some (by kernel_rfl))
  f327 := Tryd.func144.trans (congrArg some (by kernel_rfl))
  f341 := Tryd.func153.trans (congrArg some (by kernel_rfl))
  f342 := Tryd.func154.trans (congrArg some (by kernel_rfl))
  t0 := Tryd.underlying0
  a0 := Tryd.isAgg0
  z0 := Tryd.sizeOf0
  v0 := Tryd.zeroValue0
  t3 := Tryd.underlying3
  a3 := Tryd.isAgg3
  z3 := Tryd.sizeOf3
  v3 := Tryd.zeroValue3
  t4 := Tryd.underlying4
  a4 := Tryd.isAgg4
  z4 := Tryd.sizeOf4
  v4 := Tryd.zeroValue4
  t5 := Tryd.underlying5
  a5 := Tryd.isAgg5
  z5 := Tryd.sizeOf5
  v5 := Tryd.zeroValue5
  t21 := Tryd.underlying21
  a21 := Tryd.isAgg21
  z21 := Tryd.sizeOf21
  v21 := Tryd.zeroValue21
  t37 := Tryd.underlying28
  a37 := Tryd.isAgg28
  z37 := Tryd.sizeOf28
  v37 := Tryd.zeroValue28
  t40 := Tryd.underlying170
  a40 := Tryd.isAgg170
  z40 := Tryd.sizeOf170
  v40 := Tryd.zeroValue170
  t46 := Tryd.underlying99
  a46 := Tryd.isAgg99
  z46 := Tryd.sizeOf99
  v46 := Tryd.zeroValue99
  t49 := Tryd.underlying225
  a49 := Tryd.isAgg225
  z49 := Tryd.sizeOf225
  v49 := Tryd.zeroValue225
  t51 := Tryd.underlying36
  a51 := Tryd.isAgg36
  z51 := Tryd.sizeOf36
  v51 := Tryd.zeroValue36
  t105 := Tryd.underlying217
  a105 := Tryd.isAgg217
  z105 := Tryd.sizeOf217
  v105 := Tryd.zeroValue217
  t119 := Tryd.underlying171
  a119 := Tryd.isAgg171
  z119 := Tryd.sizeOf171
  t138 := Tryd.underlying251
  a138 := Tryd.isAgg251
  z138 := Tryd.sizeOf251
  v138 := Tryd.zeroValue251
  t139 := Tryd.underlying252
  a139 := Tryd.isAgg252
  z139 := Tryd.sizeOf252
  v139 := Tryd.zeroValue252
  t141 := Tryd.underlying200
  a141 := Tryd.isAgg200
  z141 := Tryd.sizeOf200
  v141 := Tryd.zeroValue200
  t193 := Tryd.underlying221
  a193 := Tryd.isAgg221
  z193 := Tryd.sizeOf221
  v193 := Tryd.zeroValue221
  t194 := Tryd.underlying222
  a194 := Tryd.isAgg222
  z194 := Tryd.sizeOf222
  v194 := Tryd.zeroValue222
  t196 := Tryd.underlying224
  a196 := Tryd.isAgg224
  z196 := Tryd.sizeOf224
  v196 := Tryd.zeroValue224
  t198 := Tryd.underlying227
  a198 := Tryd.isAgg227
  z198 := Tryd.sizeOf227
  v198 := Tryd.zeroValue227
  t201 := Tryd.underlying230
  a201 := Tryd.isAgg230
  z201 := Tryd.sizeOf230
  v201 := Tryd.zeroValue230
  t226 := Tryd.underlying243
  a226 := Tryd.isAgg243
  z226 := Tryd.sizeOf243
  v226 := Tryd.zeroValue243
  t227 := Tryd.underlying244
  a227 := Tryd.isAgg244
  z227 := Tryd.sizeOf244
  v227 := Tryd.zeroValue244
  g2 := by kernel_rfl
  g3 := by kernel_rfl
  g4 := by kernel_rfl
  g6 := by kernel_rfl
  gNamed := by kernel_rfl }
open Go.RowKit in
/-- bytes.TrimSpace: "TrimSpace returns a subslice of s by slicing off all leading and trailing white space, as defined by Unicode.": ON ASCII BYTES ('hascii': each number below 128): IT RETURNS 'Lib.bytesTrimSpace b o c (the bytes of s)': a slice OF THE ARGUMENT's OWN MEMORY, nil where all is white space; the world is as it was. 'htab': the table bytes.asciiSpace holds its numbers (as strings.TrimSpace's contract asks of its own). (LAID: no walk: one application.) -/
theorem Tryd.bytes_TrimSpace (b o n c : Nat) (xs : List Int) (w : World) (hx : xs.length = n) (hnc : n ≤ c) (hbig : n ≤ 9223372036854775807) (hc : ∀ i, i < n → w.cell? ⟨b, o + i, none⟩ = some (.int .u8 (xs.getD i 0))) (hascii : ∀ i, i < n → 0 ≤ xs.getD i 0 ∧ xs.getD i 0 < 128) (htab : Lib.TabIs Tryd.prog w "bytes.asciiSpace" .u8 Lib.asciiSpaceTab) :
    Calls Tryd.prog 69 #[.slice (some ⟨b, o, none⟩) n c] w fun e w' => e = .returned (Lib.bytesTrimSpace b o c (Lib.bytesOf xs)) ∧ w' = w := Any.bytes_TrimSpace Tryd.laysbs188 b o n c xs w hx hnc hbig hc hascii htab
end Go.Proofs
