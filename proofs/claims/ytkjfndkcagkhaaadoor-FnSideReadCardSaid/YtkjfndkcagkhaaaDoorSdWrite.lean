/- bytes.Buffer.Write, to the block. -/
import Derived.Test.YtkjfndkcagkhaaaDoorSdBuf
import Derived.Laws.CopyRow
set_option linter.unusedVariables false
attribute [local go_sem ↓] Go.wp_at_zero Go.wp_at_succ
namespace Go.Proofs.YtkjfndkcagkhaaaDoor.side
open Go.RowKit Lib frm mem text pkt

theorem infoB : (Tryd.prog.info? 5).map (·.size) = some 1 := by kernel_rfl
/-- p lies somewhere -/
def Src0 (w : World) (A : Option Addr) (p : List UInt8) : Prop := ∃ g o, A = some ⟨g, o, none⟩ ∧ ∀ j v, (byteCells p)[j]? = some v → w.cell? ⟨g, o + j, none⟩ = some v
theorem Src0.kept {w w' : World} {A : Option Addr} {p : List UInt8} {K : List Nat} (h : Src0 w A p) (hk : Kept K w w') (hn : ∀ x ∈ blkOf A, x ∉ K) : Src0 w' A p := by
  obtain ⟨g, o, rfl, hc⟩ := h
  exact ⟨g, o, rfl, fun j v hv => (hk.cell (p := ⟨g, o + j, none⟩) (World.block_lt_of_cell? _ _ (hc j v hv)) (hn g (by simp [blkOf]))).trans (hc j v hv)⟩
theorem src_of_bytes {w : World} {B n : Nat} {A : Option Addr} {p : List UInt8} (h : Bytes w B A n p) (h0 : 0 < n) : Src0 w A p := by
  obtain ⟨g, o, rfl⟩ := h.2 h0
  obtain ⟨ad, e, hb, hc⟩ := h.1.2 h0
  injection e with e
  subst e
  exact ⟨g, o, rfl, fun j v hv => by have := hc j v hv; rwa [Lib.addr_add] at this⟩
def Wrote (b : Nat) (v : Value) (l : List UInt8) (n : Nat) (w : World) (e : Ending) (w' : World) : Prop :=
  e = .returned (.tuple #[.int .i64 n, .nilIface]) ∧ ∃ v', Bx w' b v' l ∧ Kept (b :: v.ownBlock.toList) w w' ∧ ∀ x, v'.ownBlock = some x → v.ownBlock = some x ∨ w.heap.size ≤ x
set_option maxRecDepth 100000 in
theorem slice_off (ki : IntKind) (G q c i : Nat) (hi : i ≤ q) (hc : q ≤ c) (hic : i < c) (w : World) : (Instr.sliceAt 25 (.slice (some ⟨G, 0, none⟩) q c) (some (.int ki i)) none none).run Tryd.prog w = .ok (.slice (some ⟨G, i, none⟩) (q - i) (c - i)) w := by
  rw [run_sliceAt_slice (h := Tryd.underlying25), run_slice_l (ht := Tryd.underlying25) (h0 := by omega) (h1 := by omega), sizeByte]
  simp only [Result.andThen, sliced]
  rw [if_neg (by omega)]
  simp [Lib.addr_add]
/-- behind the copying -/
theorem wrote_end {b g cap : Nat} {lr : Int} {l p : List UInt8} {cur : Array Value} {v : Value} {w w2 w9 : World} (hb : Blk w2 b Bty #[.slice (some ⟨g, 0, none⟩) (l.length + p.length) cap, .int .i64 0, .int .i8 lr]) (hg : Blk w2 g U8 cur) (hc : l.length + p.length ≤ cap) (hcm : cap ≤ maxLen) (hcs : cur.size = cap) (htk : cur.toList.take l.length = byteCells l)
    (hk : Kept (b :: v.ownBlock.toList) w w2) (hgv : v.ownBlock = some g ∨ w.heap.size ≤ g) (h9 : w9.heap[g]? = some (.cells (splice cur.toList l.length (byteCells p)).toArray U8 (0, 0))) (h8 : Kept [g] w2 w9) :
    Wrote b v (l ++ p) p.length w (.returned (.tuple #[.int .i64 p.length, .nilIface])) w9 := by
  have hgb : g ≠ b := Blk.ne_ hg hb (by decide)
  have hpl : (byteCells p).length = p.length := by simp [byteCells]
  have hbl : (byteCells l).length = l.length := by simp [byteCells]
  have hlp : (l ++ p).length = l.length + p.length := by simp
  refine ⟨rfl, .slice (some ⟨g, 0, none⟩) (l.length + p.length) cap, ⟨lr, hb.kept h8 (by simpa using hgb.symm), ?_, .inr ⟨g, cap, _, by rw [hlp], Nat.zero_le _, h9, by rw [hlp]; exact hc, hcm, ?_, ?_⟩⟩, hk.trans h8 (fun x hx => ?_), fun x hx => ?_⟩
  · simp [byteCells]
  · simp [splice, hpl, hcs]; omega
  · rw [hlp]
    simp only [splice, htk, Nat.mul_one]
    rw [show l.length + p.length = (byteCells l ++ byteCells p).length by simp [hpl, hbl]]
    rw [← List.append_assoc, List.take_left' rfl]
    simp [byteCells]
  · simp at hx
    subst hx
    rcases hgv with h | h
    · exact .inl (by simp [h])
    · exact .inr h
  · injection hx with hx
    simp only at hx
    subst hx
    exact hgv
set_option maxRecDepth 100000 in
set_option maxHeartbeats 4000000 in
theorem write_calls (b : Nat) (v : Value) (l p : List UInt8) (A : Option Addr) (c : Nat) (w : World) (h : Bx w b v l) (hp : Src0 w A p) (h0 : 0 < p.length) (hne : ∀ x ∈ blkOf A, x ≠ b) (hlim : l.length + p.length ≤ 140737488355328) :
    Calls Tryd.prog 42 #[.pointer (some ⟨b, 0, none⟩), .slice A p.length c] w (Wrote b v (l ++ p) p.length w) := by
  obtain ⟨lr, hb, ho⟩ := h
  have c2 : w.cell? ⟨b, 2, none⟩ = some (.int .i8 lr) := hb.cell 2 rfl
  have f2 : w.frozen? ⟨b, 2, none⟩ = false := hb.frozen 2
  obtain ⟨w1, hw1⟩ : ∃ w1, w1 = w.setCell ⟨b, 2, none⟩ (.int .i8 0) := ⟨_, rfl⟩
  have hb1 : Blk w1 b Bty #[v, .int .i64 0, .int .i8 0] := by rw [hw1]; exact hb.set_ 2 _
  have hk1 : Kept [b] w w1 := by rw [hw1]; exact (Kept.refl [b] w).setCell (p := ⟨b, 2, none⟩) (.inl (by simp)) _
  have hp1 := hp.kept hk1 (fun x hx => by simpa using hne x hx)
  have hm : (p.length : Int) ≤ 140737488355328 := by omega
  have hml : (l.length : Int) ≤ 140737488355328 := by omega
  have hbl : (byteCells l).length = l.length := by simp [byteCells]
  have hpl : (byteCells p).length = p.length := by simp [byteCells]
  rcases id ho with ⟨hl, ⟨rfl, hn0⟩ | ⟨g, cap, cur, rfl, -, hg, hnc, hcm, hcs, htk⟩⟩
  · -- the buffer is new
    obtain rfl : l = [] := List.eq_nil_of_length_eq_zero hn0
    have ct := hid (try_none b 0 p.length none 0 0 w1 hb1 (by omega) (by omega) (by omega))
    have cg := hid (grow_nil b p.length 0 w1 hb1 h0 (by omega))
    have HP := hid hp1
    have HNE := hid hne
    have HK1 := hid hk1
    have HL := hid (And.intro hlim h0)
    clear hb ho hb1 hk1 hp1 h0 hlim hp hne
    go_enter Tryd.func42, Tryd.ntmps42
    go_wp2_with fail
    rw [← hw1]
    clear c2 f2 hw1
    refine ct.out.mono ?_
    rintro e w2 ⟨rfl, hw2⟩
    obtain rfl : w1 = w2 := hw2.symm
    clear hw2 ct
    go_wp2_with fail
    refine cg.out.mono ?_
    rintro e w3 ⟨rfl, g, cap, lr3, cur, hgw, hb3, hg3, hcs, hc, hcm, htk, hk3⟩
    have hc0 : w3.cell? ⟨b, 0, none⟩ = some (.slice (some ⟨g, 0, none⟩) p.length cap) := by have := hb3.cell 0 rfl; simpa using this
    have hs := slice_off .i64 g p.length cap 0 (by omega) (by omega) (by have := HL.out.2; omega)
    rw [Nat.sub_zero, Nat.sub_zero] at hs
    obtain ⟨G, o, rfl, s3⟩ := HP.out.kept hk3 (fun x hx => by simpa using HNE.out x hx)
    have HX := hid (And.intro hgw (And.intro hb3 (And.intro hg3 (And.intro hcs (And.intro hc (And.intro hcm (And.intro htk hk3)))))))
    have HS3 := hid s3
    clear hgw hb3 hg3 hcs hcm htk hk3 s3 HP HNE cg
    go_wp2_with (refine wpList_copy_kept rfl (.tmp 29) (.tmp 30) 25 25 rfl 5 Tryd.underlying25 infoB (some ⟨g, 0, none⟩) (some ⟨G, o, none⟩) p.length cap p.length c rfl rfl g 0 cur.toList 5 (by have := HX.out.2.2.1; simpa [Blk] using this) (byteCells p) (by rw [hpl]; simp) (fun _ => ⟨rfl, _, rfl, fun j v hj => by rw [Lib.addr_add]; exact HS3.out j v hj⟩) (by rw [hpl]; have h1 := HX.out.2.2.2.2.1; have h2 := HX.out.2.2.2.1; simp [h2]; omega) (cells_one _) ?_; intro w9 h9 h8 h7; have H9 := hid h9.out; have H8 := hid h8.out; clear h9 h8 h7)
    go_ret2
    obtain ⟨hgw, hb3, hg3, hcs, hc, hcm, htk, hk3⟩ := HX.out
    exact wrote_end (l := []) (v := .slice none 0 0) hb3 hg3 hc hcm hcs (by simp [byteCells]) ((HK1.out.trans_ hk3).more (by simp)) (.inr (Nat.le_trans HK1.out.size hgw)) H9.out H8.out
  · have hcm2 : cap ≤ 9223372036854775807 := by simp only [maxLen] at hcm; omega
    by_cases hroom : l.length + p.length ≤ cap
    · have ct := hid (try_room b l.length p.length (some ⟨g, 0, none⟩) cap 0 w1 hb1 hcm2 hroom)
      have hgb : g ≠ b := Blk.ne_ (show Blk w g U8 cur from hg) hb (by decide)
      have hg1 : Blk w1 g U8 cur := (show Blk w g U8 cur from hg).kept hk1 (by simpa using hgb)
      obtain ⟨w2, hw2⟩ : ∃ w2, w2 = w1.setCell ⟨b, 0, none⟩ (.slice (some ⟨g, 0, none⟩) (l.length + p.length) cap) := ⟨_, rfl⟩
      rw [← hw2] at ct
      have hb2 : Blk w2 b Bty #[.slice (some ⟨g, 0, none⟩) (l.length + p.length) cap, .int .i64 0, .int .i8 0] := by rw [hw2]; exact hb1.set_ 0 _
      have hg2 : Blk w2 g U8 cur := by rw [hw2]; exact hg1.far (p := ⟨b, 0, none⟩) hgb _
      have hk2 : Kept [b] w w2 := by rw [hw2]; exact hk1.setCell (p := ⟨b, 0, none⟩) (.inl (by simp)) _
      obtain ⟨G, o, rfl, s3⟩ := hp.kept hk2 (fun x hx => by simpa using hne x hx)
      have hc0 : w2.cell? ⟨b, 0, none⟩ = some (.slice (some ⟨g, 0, none⟩) (l.length + p.length) cap) := hb2.cell 0 rfl
      have hs := slice_off .i64 g (l.length + p.length) cap l.length (by omega) hroom (by omega)
      rw [Nat.add_sub_cancel_left] at hs
      have HX := hid (And.intro hb2 (And.intro hg2 (And.intro hroom (And.intro hcm (And.intro hcs (And.intro htk hk2))))))
      have HS3 := hid s3
      have HCS := hid (show l.length + p.length ≤ cur.toList.length by have := hcs; simp at this ⊢; omega)
      clear hb ho hb1 hk1 hp1 h0 hlim hp hne hb2 hg2 hcm hcs htk hk2 s3 hg hg1 hgb hnc hw2 hroom hcm2
      go_enter Tryd.func42, Tryd.ntmps42
      go_wp2_with fail
      rw [← hw1]
      clear c2 f2 hw1
      refine ct.out.mono ?_
      rintro e w3 ⟨rfl, hw3⟩
      obtain rfl : w2 = w3 := hw3.symm
      clear hw3 ct
      go_wp2_with (refine wpList_copy_kept rfl (.tmp 29) (.tmp 30) 25 25 rfl 5 Tryd.underlying25 infoB (some ⟨g, l.length, none⟩) (some ⟨G, o, none⟩) p.length (cap - l.length) p.length c rfl rfl g l.length cur.toList 5 (by have := HX.out.2.1; simpa [Blk] using this) (byteCells p) (by rw [hpl]; simp) (fun _ => ⟨rfl, _, rfl, fun j v hj => by rw [Lib.addr_add]; exact HS3.out j v hj⟩) (by rw [hpl]; exact HCS.out) (cells_one _) ?_; intro w9 h9 h8 h7; have H9 := hid h9.out; have H8 := hid h8.out; clear h9 h8 h7)
      go_ret2
      obtain ⟨hb2, hg2, hroom, hcm, hcs, htk, hk2⟩ := HX.out
      exact wrote_end (v := .slice (some ⟨g, 0, none⟩) l.length cap) hb2 hg2 hroom hcm (by omega) (by rw [Nat.mul_one] at htk; exact htk) (hk2.more (by simp [Value.ownBlock])) (.inl rfl) H9.out H8.out
    · have ct := hid (try_none b l.length p.length (some ⟨g, 0, none⟩) cap 0 w1 hb1 hnc hcm2 (by omega))
      have hgb : g ≠ b := Blk.ne_ (show Blk w g U8 cur from hg) hb (by decide)
      have hg1 : Blk w1 g U8 cur := (show Blk w g U8 cur from hg).kept hk1 (by simpa using hgb)
      rw [Nat.mul_one] at htk hcs
      have cg := hid (grow_row b g l.length cap p.length 0 cur w1 hb1 hg1 hcs hnc (by rw [htk]; exact cells_one _) h0 (by omega) hlim)
      rw [htk] at cg
      have HP := hid hp1
      have HNE := hid hne
      have HK1 := hid hk1
      have HL := hid (And.intro hlim h0)
      clear hb ho hb1 hk1 hp1 h0 hlim hp hne hcm hcs htk hg hg1 hgb hnc hroom hcm2
      go_enter Tryd.func42, Tryd.ntmps42
      go_wp2_with fail
      rw [← hw1]
      clear c2 f2 hw1
      refine ct.out.mono ?_
      rintro e w2 ⟨rfl, hw2⟩
      obtain rfl : w1 = w2 := hw2.symm
      clear hw2 ct
      go_wp2_with fail
      refine cg.out.mono ?_
      rintro e w3 ⟨rfl, g3, cap3, lr3, cur3, hgw, hb3, hg3, hcs, hc, hcm, htk, hk3⟩
      have hc0 : w3.cell? ⟨b, 0, none⟩ = some (.slice (some ⟨g3, 0, none⟩) (l.length + p.length) cap3) := hb3.cell 0 rfl
      have hs := slice_off .i64 g3 (l.length + p.length) cap3 l.length (by omega) hc (by have := HL.out.2; omega)
      rw [Nat.add_sub_cancel_left] at hs
      obtain ⟨G, o, rfl, s3⟩ := HP.out.kept hk3 (fun x hx => by simpa using HNE.out x hx)
      have HCS := hid (show l.length + p.length ≤ cur3.toList.length by have := hcs; simp at this ⊢; omega)
      have HX := hid (And.intro hgw (And.intro hb3 (And.intro hg3 (And.intro hcs (And.intro hc (And.intro hcm (And.intro htk hk3)))))))
      have HS3 := hid s3
      clear hgw hb3 hg3 hcs hcm htk hk3 s3 HP HNE cg hc
      go_wp2_with (refine wpList_copy_kept rfl (.tmp 29) (.tmp 30) 25 25 rfl 5 Tryd.underlying25 infoB (some ⟨g3, l.length, none⟩) (some ⟨G, o, none⟩) p.length (cap3 - l.length) p.length c rfl rfl g3 l.length cur3.toList 5 (by have := HX.out.2.2.1; simpa [Blk] using this) (byteCells p) (by rw [hpl]; simp) (fun _ => ⟨rfl, _, rfl, fun j v hj => by rw [Lib.addr_add]; exact HS3.out j v hj⟩) (by rw [hpl]; exact HCS.out) (cells_one _) ?_; intro w9 h9 h8 h7; have H9 := hid h9.out; have H8 := hid h8.out; clear h9 h8 h7)
      go_ret2
      obtain ⟨hgw, hb3, hg3, hcs, hc, hcm, htk, hk3⟩ := HX.out
      exact wrote_end (v := .slice (some ⟨g, 0, none⟩) l.length cap) hb3 hg3 hc hcm hcs htk ((HK1.out.trans_ hk3).more (by simp)) (.inr (Nat.le_trans HK1.out.size hgw)) H9.out H8.out
set_option maxRecDepth 100000 in
/-- nothing is written -/
theorem write_none (b : Nat) (v : Value) (l : List UInt8) (A : Option Addr) (c : Nat) (w : World) (h : Bx w b v l) (hlim : l.length ≤ 140737488355328) :
    Calls Tryd.prog 42 #[.pointer (some ⟨b, 0, none⟩), .slice A 0 c] w (Wrote b v l 0 w) := by
  obtain ⟨lr, hb, ho⟩ := h
  obtain ⟨B, q, rfl, hq⟩ := row_some ho
  have hne := Bx.ne ⟨lr, hb, ho⟩
  have hq2 : q ≤ 9223372036854775807 := by
    rcases ho.2 with ⟨e, _⟩ | ⟨g, cap, cur, e, _, _, _, hcm, _⟩
    · injection e with _ _ e; omega
    · injection e with _ _ e; simp only [maxLen] at hcm; omega
  have c2 : w.cell? ⟨b, 2, none⟩ = some (.int .i8 lr) := hb.cell 2 rfl
  have f2 : w.frozen? ⟨b, 2, none⟩ = false := hb.frozen 2
  obtain ⟨w1, hw1⟩ : ∃ w1, w1 = w.setCell ⟨b, 2, none⟩ (.int .i8 0) := ⟨_, rfl⟩
  have hb1 : Blk w1 b Bty #[.slice B l.length q, .int .i64 0, .int .i8 0] := by rw [hw1]; exact hb.set_ 2 _
  have hk1 : Kept [b] w w1 := by rw [hw1]; exact (Kept.refl [b] w).setCell (p := ⟨b, 2, none⟩) (.inl (by simp)) _
  have ct := hid (try_room b l.length 0 B q 0 w1 hb1 hq2 (by omega))
  rw [Nat.add_zero] at ct
  obtain ⟨w2, hw2⟩ : ∃ w2, w2 = w1.setCell ⟨b, 0, none⟩ (.slice B l.length q) := ⟨_, rfl⟩
  rw [← hw2] at ct
  have hb2 : Blk w2 b Bty #[.slice B l.length q, .int .i64 0, .int .i8 0] := by rw [hw2]; exact hb1.set_ 0 _
  have hk2 : Kept [b] w w2 := by rw [hw2]; exact hk1.setCell (p := ⟨b, 0, none⟩) (.inl (by simp)) _
  have ho2 := own_kept ho hk2 (fun x hx => by simpa using hne x hx)
  have hc0 : w2.cell? ⟨b, 0, none⟩ = some (.slice B l.length q) := hb2.cell 0 rfl
  obtain ⟨B', hB', hs⟩ := slice_from .i64 B l.length q l.length (Nat.le_refl _)
  rw [Nat.sub_self] at hs
  have hml : (l.length : Int) ≤ 140737488355328 := by omega
  have HX := hid (And.intro hb2 (And.intro hk2 ho2))
  clear hb ho hb1 hk1 hb2 hk2 ho2 hne hlim hw2 hq hq2 hB'
  go_enter Tryd.func42, Tryd.ntmps42
  go_wp2_with fail
  rw [← hw1]
  clear c2 f2 hw1
  refine ct.out.mono ?_
  rintro e w3 ⟨rfl, hw3⟩
  obtain rfl : w2 = w3 := hw3.symm
  clear hw3 ct
  go_wp2_with (refine wpList_copy_nothing rfl (.tmp 29) (.tmp 30) 25 25 rfl 5 Tryd.underlying25 infoB B' A 0 (q - l.length) 0 c rfl rfl (by simp) ?_)
  go_ret2
  obtain ⟨hb2, hk2, ho2⟩ := HX.out
  exact ⟨rfl, _, ⟨0, hb2, ho2⟩, hk2.more (by simp), fun x hx => .inl hx⟩
end Go.Proofs.YtkjfndkcagkhaaaDoor.side
