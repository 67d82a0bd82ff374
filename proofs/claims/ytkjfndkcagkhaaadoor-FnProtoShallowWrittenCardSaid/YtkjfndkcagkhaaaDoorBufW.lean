/- (*bytes.Buffer).Write: what is no row of bytes (or is frozen) is as it was. -/
import Derived.Test.YtkjfndkcagkhaaaDoorFrame
import Derived.Test.YtkjfndkcagkhaaaDoorMem
import Derived.Test.YtkjfndkcagkhaaaDoorSlices
import Derived.Test.YtkjfndkcagkhaaaDoorShelf
import Derived.Lib.BufferWrite
import Derived.Lib.BufferOwn
import Derived.Laws.CopyRow
import Derived.Test.YtkjfndkcagkhaaaDoorRd
import Derived.WalkKit
import Derived.Lib.Hide
import Derived.ProofKit
set_option linter.unusedVariables false
attribute [local go_sem ↓] Go.wp_at_zero Go.wp_at_succ
namespace Go.Proofs.YtkjfndkcagkhaaaDoor.buf
open Go.RowKit Lib frm mem

/-- an object that is no row that a buffer may hold -/
def NoRow (o : Obj) : Prop := ∀ c, o ≠ .cells c 5 (0, 0)
/-- what is no such row is as it was, but for block b -/
structure FK (b : Nat) (w w' : World) : Prop where
  size : w.heap.size ≤ w'.heap.size
  keep : ∀ k o, w.heap[k]? = some o → k ≠ b → NoRow o → w'.heap[k]? = some o
section
variable {b : Nat} {w a c : World}
theorem FK.refl (b : Nat) (w : World) : FK b w w := ⟨Nat.le_refl _, fun _ _ h _ _ => h⟩
theorem FK.trans (h : FK b w a) (k : FK b a c) : FK b w c := ⟨Nat.le_trans h.size k.size, fun i o hi hn ho => k.keep i o (h.keep i o hi hn ho) hn ho⟩
theorem FK.of_kept (h : Kept [] w a) : FK b w a := ⟨h.size, fun k o hk _ _ => (h.block k (lt_of_heap hk) (by simp)).trans hk⟩
theorem FK.of_below (h : Below w.heap.size w a) : FK b w a := FK.of_kept (Kept.of_below h)
theorem FK.of_grown (h : w.grownBy a (some b)) : FK b w a := ⟨h.size, fun k o hk hn _ => (h.block k (lt_of_heap hk) (fun e => hn (by cases e; rfl))).trans hk⟩
theorem FK.of_row {g : Nat} {cur : Array Value} (hg : w.heap[g]? = some (.cells cur 5 (0, 0))) (hk : Kept [g] w a) : FK b w a :=
  ⟨hk.size, fun k o hi hn ho => by
    have hne : k ≠ g := by
      rintro rfl
      rw [hg] at hi
      injection hi with hi
      exact ho cur hi.symm
    exact (hk.block k (lt_of_heap hi) (by simpa using hne)).trans hi⟩
end
theorem infoB : (Tryd.prog.info? 5).map (·.size) = some 1 := by kernel_rfl
/-- the row of the buffer, behind the room's making -/
theorem row_of {B b : Nat} {bs xs : List Value} {w : World} (h : IsBuffer 62 5 B b (bs ++ xs) w) (h0 : 0 < xs.length) :
    ∃ lr g cap cur, B ≤ b ∧ w.heap[b]? = some (.cells #[.slice (some ⟨g, 0, none⟩) (bs.length + xs.length) cap, .int .i64 0, .int .i8 lr] 62 (0, 0)) ∧ B ≤ g ∧ w.heap[g]? = some (.cells cur 5 (0, 0)) ∧ bs.length + xs.length ≤ cap ∧ cap ≤ maxLen ∧ cur.size = cap ∧ cur.toList.take bs.length = bs ∧ g ≠ b := by
  obtain ⟨hB, lr, hc⟩ := h.cases
  rcases hc with ⟨hnil, -⟩ | ⟨g, cap, cur, hbk, hBg, hg, hnc, hcm, hcs, htk, hgb⟩
  · exact absurd (congrArg List.length hnil) (by rw [List.length_append, List.length_nil]; omega)
  · rw [List.length_append] at hbk hnc htk
    refine ⟨lr, g, cap, cur, hB, hbk, hBg, hg, hnc, hcm, hcs, ?_, hgb⟩
    have h3 := congrArg (List.take bs.length) htk
    rwa [List.take_take, Nat.min_eq_left (Nat.le_add_right _ _), List.take_left' rfl] at h3
set_option maxRecDepth 100000 in
theorem slice_off (ki : IntKind) (G q c i : Nat) (hi : i ≤ q) (hc : q ≤ c) (hic : i < c) (w : World) : (Instr.sliceAt 25 (.slice (some ⟨G, 0, none⟩) q c) (some (.int ki i)) none none).run Tryd.prog w = .ok (.slice (some ⟨G, i, none⟩) (q - i) (c - i)) w := by
  rw [run_sliceAt_slice (h := Tryd.underlying25), run_slice_l (ht := Tryd.underlying25) (h0 := by omega) (h1 := by omega), sizeByte]
  simp only [Result.andThen, sliced]
  rw [if_neg (by omega)]
  simp [Lib.addr_add]
/-- p is written behind l -/
def Wrote (B b n : Nat) (l : List UInt8) (w : World) (e : Ending) (w' : World) : Prop :=
  e = .returned (.tuple #[.int .i64 n, .nilIface]) ∧ IsBuffer 62 5 B b (byteCells l) w' ∧ Below B w w' ∧ FK b w w'
/-- ahead of the copying -/
def Room (B b n : Nat) (l : List UInt8) (w w' : World) : Prop := ∃ xs : List Value, xs.length = n ∧ IsBuffer 62 5 B b (byteCells l ++ xs) w' ∧ Below B w w' ∧ FK b w w'
/-- the bytes of p lie in a block that is no row -/
def Src (w : World) (A : Option Addr) (p : List UInt8) : Prop := ∃ g o ob, A = some ⟨g, o, none⟩ ∧ w.heap[g]? = some ob ∧ NoRow ob ∧ ∀ j v, (byteCells p)[j]? = some v → w.cell? ⟨g, o + j, none⟩ = some v
theorem cell_same {w w' : World} {p : Addr} (h : w'.heap[p.block]? = w.heap[p.block]?) : w'.cell? p = w.cell? p := World.cell?_of_block h
theorem Src.kept {b : Nat} {w w' : World} {A : Option Addr} {p : List UInt8} (h : Src w A p) (hk : FK b w w') (hb : ∀ g o, A = some ⟨g, o, none⟩ → g ≠ b) : Src w' A p := by
  obtain ⟨g, o, ob, e, h1, h2, h3⟩ := h
  have h4 := hk.keep g ob h1 (hb g o e) h2
  exact ⟨g, o, ob, e, h4, h2, fun j v hj => (cell_same (p := ⟨g, o + j, none⟩) (h4.trans h1.symm)).trans (h3 j v hj)⟩
/-- the bytes of p lie somewhere -/
def Src0 (w : World) (A : Option Addr) (p : List UInt8) : Prop := ∃ g o, A = some ⟨g, o, none⟩ ∧ ∀ j v, (byteCells p)[j]? = some v → w.cell? ⟨g, o + j, none⟩ = some v
theorem Src.zero {w : World} {A : Option Addr} {p : List UInt8} (h : Src w A p) : Src0 w A p := by
  obtain ⟨g, o, ob, e, _, _, h3⟩ := h; exact ⟨g, o, e, h3⟩
theorem Src0.grown {b : Nat} {w w' : World} {A : Option Addr} {p : List UInt8} (h : Src0 w A p) (h0 : 0 < p.length) (hk : w.grownBy w' (some b)) (hb : ∀ g o, A = some ⟨g, o, none⟩ → g ≠ b) : Src0 w' A p := by
  obtain ⟨g, o, e, h3⟩ := h
  have hlt : g < w.heap.size := by
    cases p with
    | nil => simp at h0
    | cons x p => exact World.block_lt_of_cell? _ _ (h3 0 (.int .u8 x.toNat) (by simp [byteCells]))
  exact ⟨g, o, e, fun j v hj => (cell_same (p := ⟨g, o + j, none⟩) (hk.block g hlt (fun e' => hb g o e (by cases e'; rfl)))).trans (h3 j v hj)⟩
theorem Src0.ne {B b : Nat} {bs : List Value} {w : World} {A : Option Addr} {p : List UInt8} (h : Src0 w A p) (hB : IsBuffer 62 5 B b bs w) (h0 : 0 < p.length) : ∀ g o, A = some ⟨g, o, none⟩ → g ≠ b := by
  obtain ⟨g, o, rfl, h3⟩ := h
  intro g' o' e
  injection e with e
  injection e with e _ _
  subst e
  rintro rfl
  obtain ⟨_, v, lr, hk, ho, _⟩ := hB
  cases p with
  | nil => simp at h0
  | cons x p =>
    have hc := h3 0 (.int .u8 x.toNat) (by simp [byteCells])
    rw [Lib.cell_of_heap hk] at hc
    match o, hc with
    | 0, hc =>
      simp at hc
      subst hc
      rcases ho.2 with ⟨h1, _⟩ | ⟨_, _, _, h1, _⟩ <;> cases h1
    | 1, hc => simp at hc
    | 2, hc => simp at hc
    | n + 3, hc => simp at hc
theorem Src.ne {B b : Nat} {bs : List Value} {w : World} {A : Option Addr} {p : List UInt8} (h : Src w A p) (hB : IsBuffer 62 5 B b bs w) (h0 : 0 < p.length) : ∀ g o, A = some ⟨g, o, none⟩ → g ≠ b := h.zero.ne hB h0
/-- behind the copying -/
theorem end_of {B b g cap : Nat} {lr : Int} {l p : List UInt8} {cur : Array Value} {w w2 w9 : World} (hB : B ≤ b)
    (hX : w2.heap[b]? = some (.cells #[.slice (some ⟨g, 0, none⟩) (l.length + p.length) cap, .int .i64 0, .int .i8 lr] 62 (0, 0)) ∧ w2.heap[g]? = some (.cells cur 5 (0, 0)) ∧ l.length + p.length ≤ cap ∧ cap ≤ maxLen ∧ cur.size = cap ∧ cur.toList.take l.length = byteCells l ∧ g ≠ b)
    (hg : B ≤ g) (hbel : Below B w w2) (hfk : FK b w w2) (h9 : w9.heap[g]? = some (.cells (splice cur.toList l.length (byteCells p)).toArray 5 (0, 0))) (h8 : Kept [g] w2 w9) (hpl : (byteCells p).length = p.length) (hbl : (byteCells l).length = l.length) :
    Wrote B b p.length (l ++ p) w (.returned (.tuple #[.int .i64 p.length, .nilIface])) w9 := by
  obtain ⟨h1, h2, h3, h4, h5, h6, h7⟩ := hX
  have hlp : (byteCells (l ++ p)).length = l.length + p.length := by simp [byteCells]
  refine ⟨rfl, ⟨hB, .slice (some ⟨g, 0, none⟩) (l.length + p.length) cap, lr, (h8.block b (lt_of_heap h1) (by simpa using h7.symm)).trans h1, ⟨by rw [hlp]; omega, .inr ⟨g, cap, _, by rw [hlp], hg, h9, by rw [hlp]; exact h3, h4, ?_, ?_⟩⟩, by simp [Value.ownBlock, h7]⟩, hbel.trans (h8.below (Nat.le_trans hg (Nat.le_of_lt (lt_of_heap h2))) (by simpa using hg)), hfk.trans (FK.of_row h2 h8)⟩
  · simp [splice, hpl, h5]; omega
  · rw [hlp]
    simp only [splice, h6, Nat.mul_one]
    rw [show l.length + p.length = (byteCells l ++ byteCells p).length by simp [hpl, hbl]]
    rw [← List.append_assoc, List.take_left' rfl]
    simp [byteCells]
set_option maxRecDepth 100000 in
set_option maxHeartbeats 4000000 in
theorem write_calls (B b : Nat) (l p : List UInt8) (A : Option Addr) (c : Nat) (w : World) (h : IsBuffer 62 5 B b (byteCells l) w) (hB : B ≤ w.heap.size) (hp : Src0 w A p) (h0 : 0 < p.length) (hlim : l.length + p.length ≤ 140737488355328) :
    Calls Tryd.prog 42 #[.pointer (some ⟨b, 0, none⟩), .slice A p.length c] w (Wrote B b p.length (l ++ p) w) := by
  obtain ⟨hBb, v0, lr, hbk, -, -⟩ := id h
  have c2 : w.cell? ⟨b, 2, none⟩ = some (.int .i8 lr) := by rw [Lib.cell_of_heap hbk]; rfl
  have f2 : w.frozen? ⟨b, 2, none⟩ = false := Lib.frozen_of_heap hbk 2
  have h' := h.setLast 0
  have hk0 : FK b w (w.setCell ⟨b, 2, none⟩ (.int .i8 0)) := FK.of_grown (Lib.grownBy_setCell w b 2 _)
  have hbel0 : Below B w (w.setCell ⟨b, 2, none⟩ (.int .i8 0)) := (Below.refl B w).setCell (p := ⟨b, 2, none⟩) hBb _
  have hBw' : B ≤ (w.setCell ⟨b, 2, none⟩ (.int .i8 0)).heap.size := by simpa [World.setCell] using hB
  have hne := hp.ne h h0
  have hs1 := hp.grown h0 (Lib.grownBy_setCell w b 2 (.int .i8 0)) hne
  obtain ⟨w1, hw1⟩ : ∃ w1, w1 = w.setCell ⟨b, 2, none⟩ (.int .i8 0) := ⟨_, rfl⟩
  rw [← hw1] at h' hk0 hbel0 hBw' hs1
  have H1 := hid (And.intro h' (And.intro hk0 (And.intro hbel0 (And.intro hBw' hs1))))
  have HN := hid hne
  have HL := hid (And.intro hlim h0)
  have hbl : (byteCells l).length = l.length := by simp [byteCells]
  have c3 := hid (Tryd.Buffer_tryGrow_own B b p.length (byteCells l) w1 h')
  have c4 := hid (fun hnr => Tryd.Buffer_grow_own B b p.length (byteCells l) w1 h' hnr hBw' (cells_one _) (by rw [hbl]; exact hlim))
  rw [hbl] at c3 c4
  have hm : (p.length : Int) ≤ 140737488355328 := by omega
  have hml : (l.length : Int) ≤ 140737488355328 := by omega
  clear h' hk0 hbel0 hBw' hs1 hne hbk h hp hlim
  go_enter Tryd.func42, Tryd.ntmps42
  go_wp2_with fail
  rw [← hw1]
  clear c2 f2 hw1
  refine c3.out.mono ?_
  rintro e w2 (⟨rfl, xs, hx, hbuf, hbel, -, hgr⟩ | ⟨rfl, rfl, hnr⟩)
  · have HR : Hid (Room B b p.length l w w2) := hid ⟨xs, hx, hbuf, H1.out.2.2.1.trans hbel, H1.out.2.1.trans (FK.of_grown hgr)⟩
    have HS := hid (H1.out.2.2.2.2.grown HL.out.2 hgr HN.out)
    clear hx hbuf hbel hgr c3 c4
    obtain ⟨xs, hx, hbuf, hbel, hfk⟩ := HR.out
    obtain ⟨lr2, g, cap, cur, hBb2, hbk2, hBg, hg, hnc, hcm, hcs, htk, hgb⟩ := row_of hbuf (by have := HL.out; omega)
    rw [hx, hbl] at hbk2 hnc
    rw [hbl] at htk
    have c0 : w2.cell? ⟨b, 0, none⟩ = some (.slice (some ⟨g, 0, none⟩) (l.length + p.length) cap) := by rw [Lib.cell_of_heap hbk2]; rfl
    have hsl := slice_off .i64 g (l.length + p.length) cap l.length (by omega) hnc (by have := HL.out; omega)
    rw [Nat.add_sub_cancel_left] at hsl
    obtain ⟨G, o, rfl, s3⟩ := HS.out
    have HX := hid (And.intro hbk2 (And.intro hg (And.intro hnc (And.intro hcm (And.intro hcs (And.intro htk hgb))))))
    have HFK := hid hfk
    have HBL := hid hbel
    have HS3 := hid s3
    have HBg := hid hBg
    clear hbuf hbel hfk hbk2 hg hnc hcm hcs htk hgb s3 hBg hx HR HS
    have hpl : (byteCells p).length = p.length := by simp [byteCells]
    go_wp2_with (refine wpList_copy_kept rfl (.tmp 29) (.tmp 30) 25 25 rfl 5 Tryd.underlying25 infoB (some ⟨g, l.length, none⟩) (some ⟨G, o, none⟩) p.length (cap - l.length) p.length c rfl rfl g l.length cur.toList 5 (by have := HX.out.2.1; simpa using this) (byteCells p) (by rw [hpl]; simp) (fun _ => ⟨rfl, _, rfl, fun j v hj => by rw [Lib.addr_add]; exact HS3.out j v hj⟩) (by rw [hpl]; have h1 := HX.out.2.2.1; have h2 := HX.out.2.2.2.2.1; simp [h2]; exact h1) (cells_one _) ?_; intro w9 h9 h8 h7; have H9 := hid h9.out; have H8 := hid h8.out; clear h9 h8 h7)
    go_ret2
    exact end_of hBb2 HX.out HBg.out HBL.out HFK.out H9.out H8.out hpl hbl
  · have HNR := hid hnr
    clear hnr c3
    go_wp2_with fail
    refine (c4.out HNR.out).mono ?_
    rintro e w3 ⟨rfl, xs, hx, hbuf, hbel, -, hgr⟩
    have HR : Hid (Room B b p.length l w w3) := hid ⟨xs, hx, hbuf, H1.out.2.2.1.trans hbel, H1.out.2.1.trans (FK.of_grown hgr)⟩
    have HS := hid (H1.out.2.2.2.2.grown HL.out.2 hgr HN.out)
    clear hx hbuf hbel hgr c4
    obtain ⟨xs, hx, hbuf, hbel, hfk⟩ := HR.out
    obtain ⟨lr2, g, cap, cur, hBb2, hbk2, hBg, hg, hnc, hcm, hcs, htk, hgb⟩ := row_of hbuf (by have := HL.out; omega)
    rw [hx, hbl] at hbk2 hnc
    rw [hbl] at htk
    have c0 : w3.cell? ⟨b, 0, none⟩ = some (.slice (some ⟨g, 0, none⟩) (l.length + p.length) cap) := by rw [Lib.cell_of_heap hbk2]; rfl
    have hsl := slice_off .i64 g (l.length + p.length) cap l.length (by omega) hnc (by have := HL.out; omega)
    rw [Nat.add_sub_cancel_left] at hsl
    obtain ⟨G, o, rfl, s3⟩ := HS.out
    have HX := hid (And.intro hbk2 (And.intro hg (And.intro hnc (And.intro hcm (And.intro hcs (And.intro htk hgb))))))
    have HFK := hid hfk
    have HBL := hid hbel
    have HS3 := hid s3
    have HBg := hid hBg
    clear hbuf hbel hfk hbk2 hg hnc hcm hcs htk hgb s3 hBg hx HR HS
    have hpl : (byteCells p).length = p.length := by simp [byteCells]
    go_wp2_with (refine wpList_copy_kept rfl (.tmp 29) (.tmp 30) 25 25 rfl 5 Tryd.underlying25 infoB (some ⟨g, l.length, none⟩) (some ⟨G, o, none⟩) p.length (cap - l.length) p.length c rfl rfl g l.length cur.toList 5 (by have := HX.out.2.1; simpa using this) (byteCells p) (by rw [hpl]; simp) (fun _ => ⟨rfl, _, rfl, fun j v hj => by rw [Lib.addr_add]; exact HS3.out j v hj⟩) (by rw [hpl]; have h1 := HX.out.2.2.1; have h2 := HX.out.2.2.2.2.1; simp [h2]; exact h1) (cells_one _) ?_; intro w9 h9 h8 h7; have H9 := hid h9.out; have H8 := hid h8.out; clear h9 h8 h7)
    go_ret2
    exact end_of hBb2 HX.out HBg.out HBL.out HFK.out H9.out H8.out hpl hbl
end Go.Proofs.YtkjfndkcagkhaaaDoor.buf
