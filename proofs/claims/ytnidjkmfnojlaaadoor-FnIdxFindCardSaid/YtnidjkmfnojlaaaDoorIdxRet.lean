/- A File's box handed back: impl.fileOf, impl.FindFile. -/
import Derived.Test.YtnidjkmfnojlaaaDoorIdxRow
set_option linter.unusedVariables false
attribute [local go_sem ↓] Go.wp_at_zero Go.wp_at_succ
namespace Go.Proofs.YtnidjkmfnojlaaaDoor.idx
open Go.RowKit Lib frm mem opn hash strs
def zeroFile : Array Value := #[.int .i64 0, .int .i64 0, .int .i64 0, .int .i64 0, .int .u32 0, .int .u32 0, .int .u32 0, .int .u32 0, .int .u32 0, .int .u32 0, .string ⟨#[]⟩, .string ⟨#[]⟩, .int .i64 0, .bool false, .bool false]
theorem file_load {w : World} {g : Nat} {f : FileD} (h : Blk w g Fty f.cells.toArray) : (loadCellsFrom ⟨g, 0, none⟩ 0 15 #[]).run Tryd.prog w = .ok f.cells.toArray w := by
  obtain ⟨z0, z1, z2, z3, z4, z5, z6, z7, z8, z9, z10, z11, z12, z13, z14⟩ := blk15 h
  simp [go_sem, FileD.cells, z0, z1, z2, z3, z4, z5, z6, z7, z8, z9, z10, z11, z12, z13, z14]
theorem file_ret {Φ : Ending → World → Prop} {a : Act} {w : World} {g : Nat} {f : FileD} (ht : a.tmps[2]? = some (.pointer (some ⟨g, 0, none⟩))) (hd : a.defers = []) (h : Blk w g Fty f.cells.toArray) (hq : Φ (.returned (.agg f.cells.toArray)) w) :
    bodyPost Tryd.prog Tryd.f20 Φ .ret a w := by
  obtain ⟨z0, z1, z2, z3, z4, z5, z6, z7, z8, z9, z10, z11, z12, z13, z14⟩ := blk15 h
  refine bodyPost_ret (v := .agg f.cells.toArray) (by simp [results, Tryd.results20, go_sem, ht, FileD.cells, z0, z1, z2, z3, z4, z5, z6, z7, z8, z9, z10, z11, z12, z13, z14]) hd hq
theorem find_ret {Φ : Ending → World → Prop} {a : Act} {w : World} {g : Nat} {f : FileD} {b : Bool} (ht : a.tmps[4]? = some (.pointer (some ⟨g, 0, none⟩))) (ht5 : a.tmps[5]? = some (.bool b)) (hd : a.defers = []) (h : Blk w g Fty f.cells.toArray) (hq : Φ (.returned (.tuple #[.agg f.cells.toArray, .bool b])) w) :
    bodyPost Tryd.prog Tryd.f8 Φ .ret a w := by
  obtain ⟨z0, z1, z2, z3, z4, z5, z6, z7, z8, z9, z10, z11, z12, z13, z14⟩ := blk15 h
  refine bodyPost_ret (v := .tuple #[.agg f.cells.toArray, .bool b]) (by simp [results, Tryd.results8, go_sem, ht, ht5, FileD.cells, z0, z1, z2, z3, z4, z5, z6, z7, z8, z9, z10, z11, z12, z13, z14]) hd hq
theorem setb {w : World} {g i : Nat} {u : Value} {cs cs' : Array Value} (h : Blk w g Fty cs) (hs : cs.setIfInBounds i u = cs') : Blk (w.setCell ⟨g, i, none⟩ u) g Fty cs' := hs ▸ h.set_ i u
/-- a File stored cell by cell into a box of zeros -/
theorem file_stored {w : World} {g : Nat} (f : FileD) (h : Blk w g Fty zeroFile) :
    Blk (((((((((((((((w.setCell ⟨g, 0, none⟩ (.int .i64 f.s1)).setCell ⟨g, 1, none⟩ (.int .i64 f.n1)).setCell ⟨g, 2, none⟩ (.int .i64 f.s2)).setCell ⟨g, 3, none⟩ (.int .i64 f.n2)).setCell ⟨g, 4, none⟩ (.int .u32 f.dev)).setCell ⟨g, 5, none⟩ (.int .u32 f.ino)).setCell ⟨g, 6, none⟩ (.int .u32 f.mode)).setCell ⟨g, 7, none⟩ (.int .u32 f.uid)).setCell ⟨g, 8, none⟩ (.int .u32 f.gid)).setCell ⟨g, 9, none⟩ (.int .u32 f.sz)).setCell ⟨g, 10, none⟩ (.string f.hash)).setCell ⟨g, 11, none⟩ (.string f.name)).setCell ⟨g, 12, none⟩ (.int .i64 f.stage)).setCell ⟨g, 13, none⟩ (.bool f.skip)).setCell ⟨g, 14, none⟩ (.bool f.intent)) g Fty f.cells.toArray := by
  unfold zeroFile at h
  have h0 := setb (i := 0) (u := (.int .i64 f.s1)) (cs' := #[(.int .i64 f.s1), .int .i64 0, .int .i64 0, .int .i64 0, .int .u32 0, .int .u32 0, .int .u32 0, .int .u32 0, .int .u32 0, .int .u32 0, .string ⟨#[]⟩, .string ⟨#[]⟩, .int .i64 0, .bool false, .bool false]) h rfl
  have h1 := setb (i := 1) (u := (.int .i64 f.n1)) (cs' := #[(.int .i64 f.s1), (.int .i64 f.n1), .int .i64 0, .int .i64 0, .int .u32 0, .int .u32 0, .int .u32 0, .int .u32 0, .int .u32 0, .int .u32 0, .string ⟨#[]⟩, .string ⟨#[]⟩, .int .i64 0, .bool false, .bool false]) h0 rfl
  have h2 := setb (i := 2) (u := (.int .i64 f.s2)) (cs' := #[(.int .i64 f.s1), (.int .i64 f.n1), (.int .i64 f.s2), .int .i64 0, .int .u32 0, .int .u32 0, .int .u32 0, .int .u32 0, .int .u32 0, .int .u32 0, .string ⟨#[]⟩, .string ⟨#[]⟩, .int .i64 0, .bool false, .bool false]) h1 rfl
  have h3 := setb (i := 3) (u := (.int .i64 f.n2)) (cs' := #[(.int .i64 f.s1), (.int .i64 f.n1), (.int .i64 f.s2), (.int .i64 f.n2), .int .u32 0, .int .u32 0, .int .u32 0, .int .u32 0, .int .u32 0, .int .u32 0, .string ⟨#[]⟩, .string ⟨#[]⟩, .int .i64 0, .bool false, .bool false]) h2 rfl
  have h4 := setb (i := 4) (u := (.int .u32 f.dev)) (cs' := #[(.int .i64 f.s1), (.int .i64 f.n1), (.int .i64 f.s2), (.int .i64 f.n2), (.int .u32 f.dev), .int .u32 0, .int .u32 0, .int .u32 0, .int .u32 0, .int .u32 0, .string ⟨#[]⟩, .string ⟨#[]⟩, .int .i64 0, .bool false, .bool false]) h3 rfl
  have h5 := setb (i := 5) (u := (.int .u32 f.ino)) (cs' := #[(.int .i64 f.s1), (.int .i64 f.n1), (.int .i64 f.s2), (.int .i64 f.n2), (.int .u32 f.dev), (.int .u32 f.ino), .int .u32 0, .int .u32 0, .int .u32 0, .int .u32 0, .string ⟨#[]⟩, .string ⟨#[]⟩, .int .i64 0, .bool false, .bool false]) h4 rfl
  have h6 := setb (i := 6) (u := (.int .u32 f.mode)) (cs' := #[(.int .i64 f.s1), (.int .i64 f.n1), (.int .i64 f.s2), (.int .i64 f.n2), (.int .u32 f.dev), (.int .u32 f.ino), (.int .u32 f.mode), .int .u32 0, .int .u32 0, .int .u32 0, .string ⟨#[]⟩, .string ⟨#[]⟩, .int .i64 0, .bool false, .bool false]) h5 rfl
  have h7 := setb (i := 7) (u := (.int .u32 f.uid)) (cs' := #[(.int .i64 f.s1), (.int .i64 f.n1), (.int .i64 f.s2), (.int .i64 f.n2), (.int .u32 f.dev), (.int .u32 f.ino), (.int .u32 f.mode), (.int .u32 f.uid), .int .u32 0, .int .u32 0, .string ⟨#[]⟩, .string ⟨#[]⟩, .int .i64 0, .bool false, .bool false]) h6 rfl
  have h8 := setb (i := 8) (u := (.int .u32 f.gid)) (cs' := #[(.int .i64 f.s1), (.int .i64 f.n1), (.int .i64 f.s2), (.int .i64 f.n2), (.int .u32 f.dev), (.int .u32 f.ino), (.int .u32 f.mode), (.int .u32 f.uid), (.int .u32 f.gid), .int .u32 0, .string ⟨#[]⟩, .string ⟨#[]⟩, .int .i64 0, .bool false, .bool false]) h7 rfl
  have h9 := setb (i := 9) (u := (.int .u32 f.sz)) (cs' := #[(.int .i64 f.s1), (.int .i64 f.n1), (.int .i64 f.s2), (.int .i64 f.n2), (.int .u32 f.dev), (.int .u32 f.ino), (.int .u32 f.mode), (.int .u32 f.uid), (.int .u32 f.gid), (.int .u32 f.sz), .string ⟨#[]⟩, .string ⟨#[]⟩, .int .i64 0, .bool false, .bool false]) h8 rfl
  have h10 := setb (i := 10) (u := (.string f.hash)) (cs' := #[(.int .i64 f.s1), (.int .i64 f.n1), (.int .i64 f.s2), (.int .i64 f.n2), (.int .u32 f.dev), (.int .u32 f.ino), (.int .u32 f.mode), (.int .u32 f.uid), (.int .u32 f.gid), (.int .u32 f.sz), (.string f.hash), .string ⟨#[]⟩, .int .i64 0, .bool false, .bool false]) h9 rfl
  have h11 := setb (i := 11) (u := (.string f.name)) (cs' := #[(.int .i64 f.s1), (.int .i64 f.n1), (.int .i64 f.s2), (.int .i64 f.n2), (.int .u32 f.dev), (.int .u32 f.ino), (.int .u32 f.mode), (.int .u32 f.uid), (.int .u32 f.gid), (.int .u32 f.sz), (.string f.hash), (.string f.name), .int .i64 0, .bool false, .bool false]) h10 rfl
  have h12 := setb (i := 12) (u := (.int .i64 f.stage)) (cs' := #[(.int .i64 f.s1), (.int .i64 f.n1), (.int .i64 f.s2), (.int .i64 f.n2), (.int .u32 f.dev), (.int .u32 f.ino), (.int .u32 f.mode), (.int .u32 f.uid), (.int .u32 f.gid), (.int .u32 f.sz), (.string f.hash), (.string f.name), (.int .i64 f.stage), .bool false, .bool false]) h11 rfl
  have h13 := setb (i := 13) (u := (.bool f.skip)) (cs' := #[(.int .i64 f.s1), (.int .i64 f.n1), (.int .i64 f.s2), (.int .i64 f.n2), (.int .u32 f.dev), (.int .u32 f.ino), (.int .u32 f.mode), (.int .u32 f.uid), (.int .u32 f.gid), (.int .u32 f.sz), (.string f.hash), (.string f.name), (.int .i64 f.stage), (.bool f.skip), .bool false]) h12 rfl
  have h14 := setb (i := 14) (u := (.bool f.intent)) (cs' := #[(.int .i64 f.s1), (.int .i64 f.n1), (.int .i64 f.s2), (.int .i64 f.n2), (.int .u32 f.dev), (.int .u32 f.ino), (.int .u32 f.mode), (.int .u32 f.uid), (.int .u32 f.gid), (.int .u32 f.sz), (.string f.hash), (.string f.name), (.int .i64 f.stage), (.bool f.skip), (.bool f.intent)]) h13 rfl
  exact h14
end Go.Proofs.YtnidjkmfnojlaaaDoor.idx
