/- An index of the package in memory: its block, the row of its entries, the entries. Printed in part by gen_of.py. -/
import Derived.Test.YtnidjkmfnojlaaaDoorIdxTime
import Derived.Test.YtnidjkmfnojlaaaDoorIdxAre
set_option linter.unusedVariables false
namespace Go.Proofs.YtnidjkmfnojlaaaDoor.idx
open Go.RowKit Lib frm mem opn hash strs

abbrev Ety : TypeId := 73
abbrev Ity : TypeId := 65
abbrev Pty : TypeId := 42
def entryCells (f : FileD) : List Value := hashCells f.hash ++ [.string f.name, .int .i64 (f.s1 + 62135596800), .int .i64 f.n1, .int .i64 0, .int .i64 (f.s2 + 62135596800), .int .i64 f.n2, .int .i64 0, .int .u32 f.dev, .int .u32 f.ino, .int .u32 f.mode, .int .u32 f.uid, .int .u32 f.gid, .int .u32 f.sz, .int .i64 f.stage, .bool f.skip, .bool f.intent]
def idxCells (v : Value) : Array Value := #[.int .u32 2, v, .pointer none, .pointer none, .pointer none, .int .i64 0, .int .i64 0, .int .i64 0]
/-- the first k files' entries, each in a block of its own, not below B -/
def Entries (w : World) (B k : Nat) (fs : List FileD) (ps : List Value) : Prop := ps.length = k ∧ ∀ i f, i < k → fs[i]? = some f → ∃ b, ps[i]? = some (.pointer (some ⟨b, 0, none⟩)) ∧ B ≤ b ∧ Blk w b Ety (entryCells f).toArray
theorem Entries.keep {w w' : World} {B k : Nat} {fs : List FileD} {ps : List Value} (h : Entries w B k fs ps) (hk : ∀ b cs, Blk w b Ety cs → Blk w' b Ety cs) : Entries w' B k fs ps :=
  ⟨h.1, fun i f hi hf => by obtain ⟨b, h1, h2, h3⟩ := h.2 i f hi hf; exact ⟨b, h1, h2, hk _ _ h3⟩⟩
theorem Entries.snoc {w : World} {B k b : Nat} {fs : List FileD} {ps : List Value} {f : FileD} (h : Entries w B k fs ps) (hf : fs[k]? = some f) (hB : B ≤ b) (hb : Blk w b Ety (entryCells f).toArray) : Entries w B (k + 1) fs (ps ++ [.pointer (some ⟨b, 0, none⟩)]) :=
  ⟨by simp [h.1], fun i x hi hx => by
    rcases Nat.lt_succ_iff_lt_or_eq.mp hi with h1 | rfl
    · obtain ⟨b', h2, h3, h4⟩ := h.2 i x h1 hx
      exact ⟨b', by rw [List.getElem?_append_left (by rw [h.1]; exact h1)]; exact h2, h3, h4⟩
    · rw [hf] at hx
      cases hx
      exact ⟨b, by rw [List.getElem?_append_right (by rw [h.1]; exact Nat.le_refl _), h.1]; simp, hB, hb⟩⟩
/-- an index of k entries in block g -/
def IdxAt (w : World) (B g k : Nat) (fs : List FileD) (v : Value) (ps : List Value) : Prop := Blk w g Ity (idxCells v) ∧ w.ownsRow B Pty 1 v k ps ∧ Entries w B k fs ps
theorem own_form {w : World} {B size n : Nat} {e : TypeId} {v : Value} {xs : List Value} (h : w.ownsRow B e size v n xs) : ∃ A c, v = .slice A n c ∧ ∀ g, v.ownBlock = some g → B ≤ g ∧ ∃ cur, w.heap[g]? = some (.cells cur e (0, 0)) := by
  rcases h.2 with ⟨rfl, rfl⟩ | ⟨g, cap, cur, rfl, hb, hg, _⟩
  · exact ⟨none, 0, rfl, fun g h => by cases h⟩
  · refine ⟨_, cap, rfl, fun g' h' => ?_⟩
    cases h'
    exact ⟨hb, cur, hg⟩
theorem raw20 {s : ByteArray} (h : Hex40 s) : ∃ b0 b1 b2 b3 b4 b5 b6 b7 b8 b9 b10 b11 b12 b13 b14 b15 b16 b17 b18 b19 : UInt8, hashCells s = [.int .u8 b0.toNat, .int .u8 b1.toNat, .int .u8 b2.toNat, .int .u8 b3.toNat, .int .u8 b4.toNat, .int .u8 b5.toNat, .int .u8 b6.toNat, .int .u8 b7.toNat, .int .u8 b8.toNat, .int .u8 b9.toNat, .int .u8 b10.toNat, .int .u8 b11.toNat, .int .u8 b12.toNat, .int .u8 b13.toNat, .int .u8 b14.toNat, .int .u8 b15.toNat, .int .u8 b16.toNat, .int .u8 b17.toNat, .int .u8 b18.toNat, .int .u8 b19.toNat] := by
  have hl := h.facts.2.1
  unfold hashCells
  match hr : raw s, hl with
  | [b0, b1, b2, b3, b4, b5, b6, b7, b8, b9, b10, b11, b12, b13, b14, b15, b16, b17, b18, b19], _ => exact ⟨b0, b1, b2, b3, b4, b5, b6, b7, b8, b9, b10, b11, b12, b13, b14, b15, b16, b17, b18, b19, rfl⟩
/-- a block of another type than the row's is as it was behind an append -/
theorem blk_grown {w w' : World} {B size n g : Nat} {e t : TypeId} {v : Value} {xs : List Value} {cs : Array Value} (hb : Blk w g t cs) (h : w.ownsRow B e size v n xs) (hg : w.grownBy w' v.ownBlock) (hne : t ≠ e) : Blk w' g t cs := by
  refine (hg.block g hb.lt fun heq => ?_).trans hb
  obtain ⟨A, c, -, hf⟩ := own_form h
  obtain ⟨-, cur, hc⟩ := hf g heq.symm
  unfold Blk at hb
  rw [hb] at hc
  simp at hc
  exact hne hc.2
theorem own_keep {w w' : World} {B size n : Nat} {e : TypeId} {v : Value} {xs : List Value} (h : w.ownsRow B e size v n xs) (hk : ∀ g cur, v.ownBlock = some g → Blk w g e cur → Blk w' g e cur) : w'.ownsRow B e size v n xs := by
  refine ⟨h.1, ?_⟩
  rcases h.2 with h0 | ⟨g, cap, cur, rfl, hb, hg, rest⟩
  · exact .inl h0
  · exact .inr ⟨g, cap, cur, rfl, hb, hk g cur rfl hg, rest⟩
theorem one_ptr (w : World) (u : Value) (t : TypeId) : Reads (w.alloc (.cells #[u] t)) (w.heap.size + 1) 1 (some ⟨w.heap.size, 0, none⟩) 1 [u] :=
  ⟨rfl, fun _ => ⟨_, rfl, by simp, fun j x hx => by
    have hj : j = 0 := by
      rcases j with _ | j
      · rfl
      · simp at hx
    subst hj
    simp only [List.getElem?_cons_zero, Option.some.injEq] at hx
    subst hx
    exact (Blk.new w t #[u]).cell 0 rfl⟩⟩
theorem two_ptr (w : World) (o : Obj) (u : Value) (t : TypeId) : Reads ((w.alloc o).alloc (.cells #[u] t)) (w.heap.size + 2) 1 (some ⟨w.heap.size + 1, 0, none⟩) 1 [u] := by
  have h := one_ptr (w.alloc o) u t
  have e : (w.alloc o).heap.size = w.heap.size + 1 := by simp
  rw [e] at h
  exact h
theorem IdxAt.kept {w w' : World} {B g k : Nat} {fs : List FileD} {v : Value} {ps : List Value} (h : IdxAt w B g k fs v ps) (hk : Kept [] w w') : IdxAt w' B g k fs v ps :=
  ⟨h.1.kept hk (by simp), own_keep h.2.1 fun _ _ _ hb => hb.kept hk (by simp), h.2.2.keep fun _ _ hb => hb.kept hk (by simp)⟩
/-- one entry more -/
theorem IdxAt.more {w w6 : World} {B g k : Nat} {fs : List FileD} {v v6 : Value} {ps : List Value} {f : FileD} (h : IdxAt w B g k fs v ps) (hB : B ≤ w.heap.size) (hf : fs[k]? = some f) (E : Array Value) (hE : E = (entryCells f).toArray)
    (hown : w6.ownsRow B Pty 1 v6 (k + 1) (ps ++ [.pointer (some ⟨w.heap.size, 0, none⟩)]))
    (hg : ((w.alloc (.cells E Ety)).alloc (.cells #[.pointer (some ⟨w.heap.size, 0, none⟩)] Pty)).grownBy w6 v.ownBlock) :
    IdxAt (w6.setCell ⟨g, 1, none⟩ v6) B g (k + 1) fs v6 (ps ++ [.pointer (some ⟨w.heap.size, 0, none⟩)]) := by
  have hk : Kept [] w ((w.alloc (.cells E Ety)).alloc (.cells #[.pointer (some ⟨w.heap.size, 0, none⟩)] Pty)) := ((Kept.refl [] w).alloc _).alloc _
  have hW := h.kept hk
  have hnew := (Blk.new w Ety E).alloc (.cells #[.pointer (some ⟨w.heap.size, 0, none⟩)] Pty)
  have hgb : Blk w6 g Ity (idxCells v) := blk_grown hW.1 hW.2.1 hg (by decide)
  have hEn : Entries w6 B k fs ps := hW.2.2.keep fun _ _ hb => blk_grown hb hW.2.1 hg (by decide)
  have hnb : Blk w6 w.heap.size Ety E := blk_grown hnew hW.2.1 hg (by decide)
  refine ⟨?_, ?_, ?_⟩
  · have := hgb.set_ 1 v6
    simpa [idxCells] using this
  · exact own_keep hown fun r cur hr hb => hb.far (p := ⟨g, 1, none⟩) (hb.ne_ hgb (by decide)) _
  · refine ((hEn.snoc hf hB (by rw [← hE]; exact hnb))).keep fun b cs hb => hb.far (p := ⟨g, 1, none⟩) (hb.ne_ hgb (by decide)) _
theorem kept_more {w w6 : World} {B size k : Nat} {e : TypeId} {v : Value} {xs : List Value} {o o' : Obj} (w0 : World) (hk : Kept [] w0 w) (hown : w.ownsRow B e size v k xs) (hB : w0.heap.size ≤ B)
    (hg : ((w.alloc o).alloc o').grownBy w6 v.ownBlock) (p : Addr) (hp : w0.heap.size ≤ p.block) (u : Value) : Kept [] w0 (w6.setCell p u) := by
  refine ((((hk.alloc o).alloc o').trans (T := v.ownBlock.toList) (.of_grown_own hg fun g h => .inl (by rw [h]; simp)) fun x hx => .inr ?_).setCell (.inr hp) u)
  obtain ⟨A, c, -, hf⟩ := own_form hown
  have := (hf x (by simpa using hx)).1
  omega
theorem by_size {w w6 : World} {o o' : Obj} {r : Option Nat} {b : Nat} (hg : ((w.alloc o).alloc o').grownBy w6 r) (hb : b + 1 ≤ w.heap.size) (p : Addr) (u : Value) : b < (w6.setCell p u).heap.size := by
  have := hg.size
  simp [World.setCell] at this ⊢
  omega
end Go.Proofs.YtnidjkmfnojlaaaDoor.idx
