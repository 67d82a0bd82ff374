/- Files of an index: their cells, and an argument of them opened. The first part is printed by gen_struct.py. -/
import Derived.Test.YtnidjkmfnojlaaaDoorOpen
import Derived.Test.YtnidjkmfnojlaaaDoorHash
set_option linter.unusedVariables false
attribute [local go_sem ↓] Go.wp_at_zero Go.wp_at_succ
namespace Go.Proofs.YtnidjkmfnojlaaaDoor.idx
open Go.RowKit Lib frm mem opn hash Go.ChangeShapes Go.WideShapes

theorem list_of {cs l : List Value} (hl : cs.length = l.length) (h : ∀ i, i < l.length → cs[i]? = l[i]?) : cs = l := by
  apply List.ext_getElem?
  intro i
  by_cases hi : i < l.length
  · exact h i hi
  · rw [List.getElem?_eq_none (by omega), List.getElem?_eq_none (by omega)]
/-- what a impl.File holds -/
structure FileD where
  s1 : Int
  n1 : Int
  s2 : Int
  n2 : Int
  dev : Int
  ino : Int
  mode : Int
  uid : Int
  gid : Int
  sz : Int
  hash : ByteArray
  name : ByteArray
  stage : Int
  skip : Bool
  intent : Bool
instance : Inhabited FileD := ⟨⟨0, 0, 0, 0, 0, 0, 0, 0, 0, 0, ⟨#[]⟩, ⟨#[]⟩, 0, false, false⟩⟩
def FileD.cells (f : FileD) : List Value := [.int .i64 f.s1, .int .i64 f.n1, .int .i64 f.s2, .int .i64 f.n2, .int .u32 f.dev, .int .u32 f.ino, .int .u32 f.mode, .int .u32 f.uid, .int .u32 f.gid, .int .u32 f.sz, .string f.hash, .string f.name, .int .i64 f.stage, .bool f.skip, .bool f.intent]
theorem FileD.len (f : FileD) : f.cells.length = 15 := rfl
structure FileD.Ok (f : FileD) : Prop where
  s1 : (Lit.int .i64 f.s1).wf = true
  n1 : (Lit.int .i64 f.n1).wf = true
  s2 : (Lit.int .i64 f.s2).wf = true
  n2 : (Lit.int .i64 f.n2).wf = true
  dev : (Lit.int .u32 f.dev).wf = true
  ino : (Lit.int .u32 f.ino).wf = true
  mode : (Lit.int .u32 f.mode).wf = true
  uid : (Lit.int .u32 f.uid).wf = true
  gid : (Lit.int .u32 f.gid).wf = true
  sz : (Lit.int .u32 f.sz).wf = true
  hash : f.hash.size ≤ 140737488351232
  name : f.name.size ≤ 140737488351232
  stage : (Lit.int .i64 f.stage).wf = true
theorem FileD.of_trod {H : Type} {enc : TypeId × Value → H} {w : World} {base : Nat} {spare : Nat → Bool} {held : Bool} {m : Nat} {cs : List Value} {x : DataW H × List MemPlace} (hl : cs.length = 15)
    (h : DataW.trod enc Tryd.prog w base spare held m 29 cs = some x) (hz : ∀ k ∈ x.1.weights Tryd.prog 29, k ≤ reachBytes) : ∃ f : FileD, cs = f.cells ∧ f.Ok := by
  obtain ⟨n0, y0, h0, z0⟩ := field_in Tryd.underlying29 h 0 26 0 2 (by kernel_rfl) (by kernel_rfl)
  obtain ⟨n1, y1, h1, z1⟩ := field_in Tryd.underlying26 h0 0 2 0 1 (by kernel_rfl) (by kernel_rfl)
  rw [drop_take_in cs 0 2 0 1 (by omega)] at h1
  obtain ⟨a1, g1, w1⟩ := leaf_int Tryd.underlying2 h1
  obtain ⟨n2, y2, h2, z2⟩ := field_in Tryd.underlying26 h0 1 2 1 1 (by kernel_rfl) (by kernel_rfl)
  rw [drop_take_in cs 0 2 1 1 (by omega)] at h2
  obtain ⟨a2, g2, w2⟩ := leaf_int Tryd.underlying2 h2
  obtain ⟨n3, y3, h3, z3⟩ := field_in Tryd.underlying29 h 1 26 2 2 (by kernel_rfl) (by kernel_rfl)
  obtain ⟨n4, y4, h4, z4⟩ := field_in Tryd.underlying26 h3 0 2 0 1 (by kernel_rfl) (by kernel_rfl)
  rw [drop_take_in cs 2 2 0 1 (by omega)] at h4
  obtain ⟨a4, g4, w4⟩ := leaf_int Tryd.underlying2 h4
  obtain ⟨n5, y5, h5, z5⟩ := field_in Tryd.underlying26 h3 1 2 1 1 (by kernel_rfl) (by kernel_rfl)
  rw [drop_take_in cs 2 2 1 1 (by omega)] at h5
  obtain ⟨a5, g5, w5⟩ := leaf_int Tryd.underlying2 h5
  obtain ⟨n6, y6, h6, z6⟩ := field_in Tryd.underlying29 h 2 27 4 1 (by kernel_rfl) (by kernel_rfl)
  obtain ⟨a6, g6, w6⟩ := leaf_int Tryd.underlying27 h6
  obtain ⟨n7, y7, h7, z7⟩ := field_in Tryd.underlying29 h 3 27 5 1 (by kernel_rfl) (by kernel_rfl)
  obtain ⟨a7, g7, w7⟩ := leaf_int Tryd.underlying27 h7
  obtain ⟨n8, y8, h8, z8⟩ := field_in Tryd.underlying29 h 4 27 6 1 (by kernel_rfl) (by kernel_rfl)
  obtain ⟨a8, g8, w8⟩ := leaf_int Tryd.underlying27 h8
  obtain ⟨n9, y9, h9, z9⟩ := field_in Tryd.underlying29 h 5 27 7 1 (by kernel_rfl) (by kernel_rfl)
  obtain ⟨a9, g9, w9⟩ := leaf_int Tryd.underlying27 h9
  obtain ⟨n10, y10, h10, z10⟩ := field_in Tryd.underlying29 h 6 27 8 1 (by kernel_rfl) (by kernel_rfl)
  obtain ⟨a10, g10, w10⟩ := leaf_int Tryd.underlying27 h10
  obtain ⟨n11, y11, h11, z11⟩ := field_in Tryd.underlying29 h 7 27 9 1 (by kernel_rfl) (by kernel_rfl)
  obtain ⟨a11, g11, w11⟩ := leaf_int Tryd.underlying27 h11
  obtain ⟨n12, y12, h12, z12⟩ := field_in Tryd.underlying29 h 8 9 10 1 (by kernel_rfl) (by kernel_rfl)
  obtain ⟨a12, g12, w12⟩ := leaf_string Tryd.underlying9 h12 (fun k hk => hz k (z12 k hk))
  obtain ⟨n13, y13, h13, z13⟩ := field_in Tryd.underlying29 h 9 9 11 1 (by kernel_rfl) (by kernel_rfl)
  obtain ⟨a13, g13, w13⟩ := leaf_string Tryd.underlying9 h13 (fun k hk => hz k (z13 k hk))
  obtain ⟨n14, y14, h14, z14⟩ := field_in Tryd.underlying29 h 10 3 12 1 (by kernel_rfl) (by kernel_rfl)
  obtain ⟨a14, g14, w14⟩ := leaf_int Tryd.underlying3 h14
  obtain ⟨n15, y15, h15, z15⟩ := field_in Tryd.underlying29 h 11 4 13 1 (by kernel_rfl) (by kernel_rfl)
  obtain ⟨a15, g15⟩ := leaf_bool Tryd.underlying4 h15
  obtain ⟨n16, y16, h16, z16⟩ := field_in Tryd.underlying29 h 12 4 14 1 (by kernel_rfl) (by kernel_rfl)
  obtain ⟨a16, g16⟩ := leaf_bool Tryd.underlying4 h16
  refine ⟨⟨a1, a2, a4, a5, a6, a7, a8, a9, a10, a11, a12, a13, a14, a15, a16⟩, list_of hl ?_, ⟨w1, w2, w4, w5, w6, w7, w8, w9, w10, w11, w12, w13, w14⟩⟩
  intro i hi
  match i, hi with
  | 0, _ => exact g1
  | 1, _ => exact g2
  | 2, _ => exact g4
  | 3, _ => exact g5
  | 4, _ => exact g6
  | 5, _ => exact g7
  | 6, _ => exact g8
  | 7, _ => exact g9
  | 8, _ => exact g10
  | 9, _ => exact g11
  | 10, _ => exact g12
  | 11, _ => exact g13
  | 12, _ => exact g14
  | 13, _ => exact g15
  | 14, _ => exact g16
  | i + 15, hi => exact absurd hi (by show ¬ i + 15 < 15; omega)
abbrev Files (w : World) (B : Nat) (A : Option Addr) (n : Nat) (fs : List FileD) : Prop := Structs FileD.cells 15 w B A n fs
theorem arg_files {H : Type} {enc : TypeId × Value → H} {w : World} {A : Option Addr} {n c : Nat} {d : DataW H} {p : List MemPlace}
    (h0 : DataW.Trod enc Tryd.prog w 0 (fun _ => true) true 22 (.slice A n c) d p) (hz : ∀ k ∈ d.weights Tryd.prog 22, k ≤ reachBytes) :
    ∃ fs : List FileD, n ≤ c ∧ c ≤ maxLen ∧ Files w w.heap.size A n fs ∧ ∀ f ∈ fs, f.Ok := by
  obtain ⟨fs, h1, h2, _, h3, h4⟩ := arg_structs (f := FileD.cells) (ok := FileD.Ok) Tryd.underlying22 (by kernel_rfl) (by omega) h0 hz (fun m cs y hl ht hw => FileD.of_trod hl ht hw)
  exact ⟨fs, h1, h2, h3, fun f hf => (h4 f hf).1⟩
end Go.Proofs.YtnidjkmfnojlaaaDoor.idx
