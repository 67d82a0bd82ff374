/- bytes.Buffer.Write, to the block: only the buffer's own block and its row change, or the row is new. -/
import Derived.Test.YtkjfndkcagkhaaaDoorFrame
import Derived.Test.YtkjfndkcagkhaaaDoorMem
import Derived.Test.YtkjfndkcagkhaaaDoorSlices
import Derived.Test.YtkjfndkcagkhaaaDoorShelf
import Derived.Test.YtkjfndkcagkhaaaDoorPktLines
import Derived.Lib.Buffer
import Derived.Deep.RegionWith
import Derived.Test.YtkjfndkcagkhaaaDoorTail
import Derived.WalkKit
import Derived.Lib.Hide
import Derived.ProofKit
set_option linter.unusedVariables false
attribute [local go_sem ↓] Go.wp_at_zero Go.wp_at_succ
namespace Go.Proofs.YtkjfndkcagkhaaaDoor.side
open Go.RowKit Lib frm mem text pkt

abbrev Bty : TypeId := 62
abbrev U8 : TypeId := 5
/-- a buffer in block b, its bytes l in the row v -/
def Bx (w : World) (b : Nat) (v : Value) (l : List UInt8) : Prop := ∃ lr : Int, Blk w b Bty #[v, .int .i64 0, .int .i8 lr] ∧ w.ownsRow 0 U8 1 v l.length (byteCells l)
theorem row_some {w : World} {b e size n : Nat} {v : Value} {xs : List Value} (h : w.ownsRow b e size v n xs) : ∃ A c, v = .slice A n c ∧ n ≤ c := by
  rcases h.2 with ⟨rfl, rfl⟩ | ⟨g, cap, cur, rfl, _, _, hc, _⟩
  · exact ⟨_, _, rfl, Nat.le_refl _⟩
  · exact ⟨_, _, rfl, hc⟩
theorem Bx.ne {w : World} {b : Nat} {v : Value} {l : List UInt8} (h : Bx w b v l) : ∀ x, v.ownBlock = some x → x ≠ b := by
  obtain ⟨lr, hb, ho⟩ := h
  intro x hx
  rcases ho.2 with ⟨rfl, _⟩ | ⟨g, cap, cur, rfl, _, hg, _⟩
  · cases hx
  · injection hx with hx
    simp only at hx
    subst hx
    exact Blk.ne_ (show Blk w g U8 cur from hg) hb (by decide)
theorem Bx.kept {w w' : World} {b : Nat} {v : Value} {l : List UInt8} {K : List Nat} (h : Bx w b v l) (hk : Kept K w w') (hb : b ∉ K) (hv : ∀ x, v.ownBlock = some x → x ∉ K) : Bx w' b v l := by
  obtain ⟨lr, h1, h2⟩ := h
  exact ⟨lr, h1.kept hk hb, own_kept h2 hk hv⟩
set_option maxRecDepth 100000 in
theorem len_calls (b n : Nat) (A : Option Addr) (c : Nat) (lr : Int) (w : World) (h : Blk w b Bty #[.slice A n c, .int .i64 0, .int .i8 lr]) (hn : n ≤ 140737488355328) :
    Calls Tryd.prog 86 #[.pointer (some ⟨b, 0, none⟩)] w fun e w' => e = .returned (.int .i64 n) ∧ Kept [] w w' := by
  have k0 : w.cell? ⟨b, 0, none⟩ = some (.slice A n c) := h.cell 0 rfl
  have k1 : w.cell? ⟨b, 1, none⟩ = some (.int .i64 0) := h.cell 1 rfl
  have hn' : (n : Int) ≤ 140737488355328 := by omega
  clear h
  go_enter Tryd.func86, Tryd.ntmps86
  go_wp2_with fail
  go_quiet (fail)
  go_wp2_with fail
  refine bodyPost_ret (by simp [results, Tryd.results86, go_sem]; rfl) rfl ?_
  exact ⟨by go_num, (Kept.refl [] w).drewN _⟩
set_option maxRecDepth 100000 in
theorem try_none (b n k : Nat) (A : Option Addr) (c : Nat) (lr : Int) (w : World) (h : Blk w b Bty #[.slice A n c, .int .i64 0, .int .i8 lr]) (hnc : n ≤ c) (hc : c ≤ 9223372036854775807) (hk : c < n + k) :
    Calls Tryd.prog 65 #[.pointer (some ⟨b, 0, none⟩), .int .i64 k] w fun e w' => e = .returned (.tuple #[.int .i64 0, .bool false]) ∧ w' = w := by
  have k0 : w.cell? ⟨b, 0, none⟩ = some (.slice A n c) := h.cell 0 rfl
  have hn' : (n : Int) ≤ c := by omega
  have hc' : (c : Int) ≤ 9223372036854775807 := by omega
  have hk' : ¬ ((k : Int) ≤ (c : Int) - n) := by omega
  clear h
  go_enter Tryd.func65, Tryd.ntmps65
  go_wp2_with fail
  go_ret2
  exact ⟨rfl, rfl⟩
set_option maxRecDepth 100000 in
theorem try_room (b n k : Nat) (A : Option Addr) (c : Nat) (lr : Int) (w : World) (h : Blk w b Bty #[.slice A n c, .int .i64 0, .int .i8 lr]) (hc : c ≤ 9223372036854775807) (hk : n + k ≤ c) :
    Calls Tryd.prog 65 #[.pointer (some ⟨b, 0, none⟩), .int .i64 k] w fun e w' => e = .returned (.tuple #[.int .i64 n, .bool true]) ∧ w' = w.setCell ⟨b, 0, none⟩ (.slice A (n + k) c) := by
  have k0 : w.cell? ⟨b, 0, none⟩ = some (.slice A n c) := h.cell 0 rfl
  have f0 : w.frozen? ⟨b, 0, none⟩ = false := h.frozen 0
  have hc' : (c : Int) ≤ 9223372036854775807 := by omega
  have hk' : (n : Int) + k ≤ c := by omega
  have hk2 : (k : Int) ≤ (c : Int) - n := by omega
  have e1 : IntKind.i64.wrap ((n : Int) + k) = ((n + k : Nat) : Int) := by rw [← Int.natCast_add]; exact IntWalk.i64_in _ (by omega)
  have hs := slice_to .i64 A n c (n + k) hk
  clear h
  go_enter Tryd.func65, Tryd.ntmps65
  go_wp2_with fail
  go_ret2
  exact ⟨rfl, rfl⟩
/-- there is room now: the row is new -/
def Grew (w : World) (b l n : Nat) (old : List Value) (e : Ending) (w' : World) : Prop := e = .returned (.int .i64 l) ∧ ∃ g cap lr cur, w.heap.size ≤ g ∧ Blk w' b Bty #[.slice (some ⟨g, 0, none⟩) (l + n) cap, .int .i64 0, .int .i8 lr] ∧ Blk w' g U8 cur ∧ cur.size = cap ∧ l + n ≤ cap ∧ cap ≤ maxLen ∧ cur.toList.take l = old ∧ Kept [b] w w'
theorem make64 (n : Nat) (hn : n ≤ 64) : ∃ cur : List Value, cur.length = 64 ∧ ∀ w : World, (Instr.makeSlice 25 (.int .i64 n) (.int .i64 64)).run Tryd.prog w = .ok (.slice (some ⟨w.heap.size, 0, none⟩) n 64) (w.alloc (.cells cur.toArray U8)) := by
  obtain ⟨i0, hi, hz0, hz1, hz2⟩ := info_parts mem.infoByte
  refine ⟨(madeCells (Value.int .u8 0).cells (64 * 1)).toList, by simp [madeCells, Value.cells], fun w => ?_⟩
  have hr := run_make (P := Tryd.prog) w 25 5 i0 (.int .u8 0) Tryd.underlying25 hi hz0 .i64 .i64 (n : Int) ((64 : Nat) : Int) (by omega) (by omega) (by rw [hz2]; omega) (by omega)
  simp only [Int.toNat_natCast, hz1] at hr
  exact hr
set_option maxRecDepth 100000 in
set_option maxHeartbeats 8000000 in
theorem grow_row (b g l cap n : Nat) (lr : Int) (cur : Array Value) (w : World) (h : Blk w b Bty #[.slice (some ⟨g, 0, none⟩) l cap, .int .i64 0, .int .i8 lr]) (hg : Blk w g U8 cur) (hcs : cur.size = cap) (hlc : l ≤ cap) (h1 : ∀ v ∈ cur.toList.take l, v.oneCell' = true) (hn : 1 ≤ n) (hroom : cap < l + n) (hlim : l + n ≤ 140737488355328) :
    Calls Tryd.prog 66 #[.pointer (some ⟨b, 0, none⟩), .int .i64 n] w (Grew w b l n (cur.toList.take l)) := by
  rcases Nat.eq_zero_or_pos l with rfl | h0
  all_goals
    have cl := hid (len_calls b _ (some ⟨g, 0, none⟩) cap lr w h (by omega))
    have ct := hid (fun w' (hk : Kept [] w w') => try_none b _ n (some ⟨g, 0, none⟩) cap lr w' (h.kept hk (by simp)) hlc (by omega) (by omega))
    have cg := hid (fun w' (hk : Kept [] w w') => Tryd.bytes_growSlice_row g _ cap n cur w' (hg.kept hk (by simp)) hcs hlc hn hlim (by omega) h1)
    have HB := hid h
    have HN := hid (And.intro hlc (And.intro hroom (And.intro hlim hn)))
    have hc' : (cap : Int) ≤ 140737488355328 := by omega
    have hn' : (n : Int) ≤ 140737488355328 := by omega
    have hwn : IntKind.i64.wrap (n : Int) = n := by rw [IntKind.wrap_i64]; omega
    first | have hl' : (l : Int) ≤ 140737488355328 := by omega | skip
    first | have h00 : 0 < (l : Int) := by omega | skip
    first | have hd : ¬ ((n : Int) ≤ (cap : Int) / 2 - l) := by omega | have hd : ¬ ((n : Int) ≤ (cap : Int) / 2) := by omega
    first | have hnil : ∀ W, (binOp .eql 25 (.slice (some ⟨g, 0, none⟩) l cap) (.slice none 0 0)).run Tryd.prog W = .ok (.bool false) W := fun W => Lib.run_eql_slice_some_nil W _ _ _ Tryd.underlying25 | have hnil : ∀ W, (binOp .eql 25 (.slice (some ⟨g, 0, none⟩) 0 cap) (.slice none 0 0)).run Tryd.prog W = .ok (.bool false) W := fun W => Lib.run_eql_slice_some_nil W _ _ _ Tryd.underlying25
    first | have hz := slice_zero .i64 (some ⟨g, 0, none⟩) l cap | have hz := slice_zero .i64 (some ⟨g, 0, none⟩) 0 cap
    clear h hg hcs hlc h1 hn hroom hlim
    go_enter Tryd.func66, Tryd.ntmps66
    go_wp2_with fail
    refine cl.out.mono ?_
    rintro e w1 ⟨rfl, hk1⟩
    have HK1 := hid hk1
    have HB1 := hid (HB.out.kept hk1 (by simp))
    have c0 := HB1.out.cell 0 rfl
    have c1 := HB1.out.cell 1 rfl
    have f0 := HB1.out.frozen 0
    have f1 := HB1.out.frozen 1
    have HBW := hid HB1.out.lt
    clear hk1 cl
    go_wp2_with fail
    refine (ct.out _ HK1.out).mono ?_
    rintro e w2 ⟨rfl, hw2⟩
    obtain rfl : w1 = w2 := hw2.symm
    clear hw2
    go_wp2_with fail
    obtain ⟨C, hC0, hCf, hCk, hCo⟩ : ∃ C : World → Prop, C w1.drew ∧ (∀ w', C w' → w'.cell? ⟨b, 0, none⟩ = w1.cell? ⟨b, 0, none⟩ ∧ w'.cell? ⟨b, 1, none⟩ = w1.cell? ⟨b, 1, none⟩) ∧ (∀ w' w'', C w' → Kept [] w' w'' → C w'') ∧ (∀ w', C w' → Kept [] w1 w') :=
      ⟨fun w' => Kept [] w1 w', (Kept.refl _ w1).drew, fun w' h => ⟨h.cell (p := ⟨b, 0, none⟩) HBW.out (by simp), h.cell (p := ⟨b, 1, none⟩) HBW.out (by simp)⟩, fun _ _ h h' => h.trans_ h', fun _ h => h⟩
    rw [c0, c1] at hCf
    try dsimp only [Act.put]
    refine tail.wp_region_mix C 15 0 1 (.pointer (some ⟨b, 0, none⟩)) (by kernel_rfl) (by kernel_rfl) hC0 (fun _ _ _ h => h) (Or.inl ⟨by rfl, fun _ => by rfl⟩) ?_
    simp only [Act.put, List.setIfInBounds_toArray, List.set_cons_zero, List.set_cons_succ, List.take_succ_cons, List.take_zero, List.drop_succ_cons, List.drop_zero]
    iterate 15
      refine ⟨?_, Or.inl ⟨by rfl, fun wq hq => ?_⟩, fun _ _ _ h => h, ?_⟩
      rotate_left
      · obtain ⟨e0, e1⟩ := hCf wq hq
        go_simp
        rfl
      simp only [Act.put, List.setIfInBounds_toArray, List.set_cons_zero, List.set_cons_succ]
    refine tail.wpPre_nil ?_
    refine wpQuiet_nil ?_
    intro w2 hc2
    refine tail.wpListC_step rfl fun K hK2 => ?_
    go_simp
    refine (cg.out _ (HK1.out.trans_ (hCo _ hc2))).mono ?_
    rintro e w3 ⟨cap2, cells, rfl, hN, hcsz, htk, hcap2, hcm2, hbel⟩
    have HK3 : Hid (Kept [] w1 w3) := hid ((hCo _ hc2).trans_ (.of_below hbel))
    refine hK2 _ _ (hCk _ _ hc2 (.of_below hbel)) ?_
    clear hK2 K
    refine tail.wpListC_zero ?_
    have HZ := hid (show w.heap.size ≤ w2.heap.size from Nat.le_trans HK1.out.size (hCo _ hc2).size)
    obtain ⟨g2, hg2⟩ : ∃ g2, g2 = w2.heap.size := ⟨_, rfl⟩
    rw [← hg2] at HZ hN ⊢
    have HB3 := hid (HB1.out.kept HK3.out (by simp))
    have d0 := HB3.out.cell 0 rfl
    have d1 := HB3.out.cell 1 rfl
    have d2 := HB3.out.frozen 0
    have d3 := HB3.out.frozen 1
    have H2 := hid (And.intro hN (And.intro hcsz (And.intro htk (And.intro hcap2 hcm2))))
    have HNE : Hid (g2 ≠ b) := hid (by have := HB.out.lt; have := HZ.out; omega)
    clear hN hcsz htk hcm2 hbel hC0 hCf hCk hCo hc2 hg2
    first | have hs := slice_to .i64 (some ⟨g2, 0, none⟩) l cap2 (l + n) hcap2 | have hs := slice_to .i64 (some ⟨g2, 0, none⟩) 0 cap2 n (by omega)
    first | have hw1 : IntKind.i64.wrap ((l : Int) + n) = ((l + n : Nat) : Int) := by rw [← Int.natCast_add]; exact IntWalk.i64_in _ (by have := HN.out; omega) | skip
    go_wp2_with fail
    go_ret
    obtain ⟨hN, hcsz, htk, hcap, hcm⟩ := H2.out
    refine ⟨by go_num, g2, cap2, lr, cells, HZ.out, ?_, ?_, hcsz, hcap, hcm, htk, ?_⟩
    · first
        | (have := ((HB3.out.set_ 0 (.slice (some ⟨g2, 0, none⟩) l cap2)).set_ 1 (.int .i64 0)).set_ 0 (.slice (some ⟨g2, 0, none⟩) (l + n) cap2); simpa using this)
        | (have := ((HB3.out.set_ 0 (.slice (some ⟨g2, 0, none⟩) 0 cap2)).set_ 1 (.int .i64 0)).set_ 0 (.slice (some ⟨g2, 0, none⟩) n cap2); simpa using this)
    · exact (((show Blk w3 g2 U8 cells from hN).far (p := ⟨b, 0, none⟩) HNE.out _).far (p := ⟨b, 1, none⟩) HNE.out _).far (p := ⟨b, 0, none⟩) HNE.out _
    · exact ((((HK1.out.trans_ HK3.out).more (T := [b]) (by simp)).setCell (p := ⟨b, 0, none⟩) (.inl (by simp)) _).setCell (p := ⟨b, 1, none⟩) (.inl (by simp)) _).setCell (p := ⟨b, 0, none⟩) (.inl (by simp)) _
set_option maxRecDepth 100000 in
set_option maxHeartbeats 8000000 in
theorem grow_nil (b n : Nat) (lr : Int) (w : World) (h : Blk w b Bty #[.slice none 0 0, .int .i64 0, .int .i8 lr]) (hn : 1 ≤ n) (hlim : n ≤ 140737488355328) :
    Calls Tryd.prog 66 #[.pointer (some ⟨b, 0, none⟩), .int .i64 n] w (Grew w b 0 n []) := by
  have cl := hid (len_calls b 0 none 0 lr w h (by omega))
  have ct := hid (fun w' (hk : Kept [] w w') => try_none b 0 n none 0 lr w' (h.kept hk (by simp)) (by omega) (by omega) (by omega))
  have cg := hid (fun w' => Tryd.bytes_growSlice_nil n w' hn hlim)
  have hnil : ∀ W, (binOp .eql 25 (.slice none 0 0) (.slice none 0 0)).run Tryd.prog W = .ok (.bool true) W := fun W => Lib.run_eql_slice_nil_nil W 0 0 Tryd.underlying25
  have hz := slice_zero .i64 none 0 0
  have HB := hid h
  have HN := hid (And.intro hn hlim)
  have hn' : (n : Int) ≤ 140737488355328 := by omega
  have hn1 : (1 : Int) ≤ n := by omega
  have hwn : IntKind.i64.wrap (n : Int) = n := by rw [IntKind.wrap_i64]; omega
  clear h hn hlim
  by_cases h64 : n ≤ 64
  · have h64' : (n : Int) ≤ 64 := by omega
    obtain ⟨cur, hcur, hmk⟩ := make64 n h64
    have HC := hid hcur
    clear hcur
    go_enter Tryd.func66, Tryd.ntmps66
    go_wp2_with fail
    refine cl.out.mono ?_
    rintro e w1 ⟨rfl, hk1⟩
    have HK1 := hid hk1
    have HB1 := hid (HB.out.kept hk1 (by simp))
    have c0 := HB1.out.cell 0 rfl
    have c1 := HB1.out.cell 1 rfl
    clear hk1 cl
    go_wp2_with fail
    refine (ct.out _ HK1.out).mono ?_
    rintro e w2 ⟨rfl, hw2⟩
    obtain rfl : w1 = w2 := hw2.symm
    clear hw2
    have HB2 := hid (HB1.out.alloc (.cells cur.toArray U8))
    have d0 := HB2.out.cell 0 rfl
    have d2 := HB2.out.frozen 0
    go_wp2_with fail
    go_ret
    refine ⟨rfl, w1.heap.size, 64, lr, cur.toArray, HK1.out.size, ?_, ?_, by simp [HC.out], by omega, by decide, by simp, ?_⟩
    · have := HB2.out.set_ 0 (.slice (some ⟨w1.heap.size, 0, none⟩) n 64)
      simpa using this
    · exact (Blk.new w1 U8 cur.toArray).far (p := ⟨b, 0, none⟩) (by have := HB1.out.lt; show w1.heap.size ≠ b; omega) _
    · exact ((HK1.out.more (T := [b]) (by simp)).alloc _).setCell (p := ⟨b, 0, none⟩) (.inl (by simp)) _
  · have h64' : ¬ ((n : Int) ≤ 64) := by omega
    go_enter Tryd.func66, Tryd.ntmps66
    go_wp2_with fail
    refine cl.out.mono ?_
    rintro e w1 ⟨rfl, hk1⟩
    have HK1 := hid hk1
    have HB1 := hid (HB.out.kept hk1 (by simp))
    have c0 := HB1.out.cell 0 rfl
    have c1 := HB1.out.cell 1 rfl
    have HBW := hid HB1.out.lt
    clear hk1 cl
    go_wp2_with fail
    refine (ct.out _ HK1.out).mono ?_
    rintro e w2 ⟨rfl, hw2⟩
    obtain rfl : w1 = w2 := hw2.symm
    clear hw2
    have hd : ¬ ((n : Int) ≤ 0 / 2 - 0) := by omega
    have hd2 : ¬ ((n : Int) ≤ 0) := by omega
    go_wp2_with fail
    obtain ⟨C, hC0, hCf, hCk, hCo⟩ : ∃ C : World → Prop, C w1.drew ∧ (∀ w', C w' → w'.cell? ⟨b, 0, none⟩ = w1.cell? ⟨b, 0, none⟩ ∧ w'.cell? ⟨b, 1, none⟩ = w1.cell? ⟨b, 1, none⟩) ∧ (∀ w' w'', C w' → Kept [] w' w'' → C w'') ∧ (∀ w', C w' → Kept [] w1 w') :=
      ⟨fun w' => Kept [] w1 w', (Kept.refl _ w1).drew, fun w' h => ⟨h.cell (p := ⟨b, 0, none⟩) HBW.out (by simp), h.cell (p := ⟨b, 1, none⟩) HBW.out (by simp)⟩, fun _ _ h h' => h.trans_ h', fun _ h => h⟩
    rw [c0, c1] at hCf
    try dsimp only [Act.put]
    refine tail.wp_region_mix C 15 0 1 (.pointer (some ⟨b, 0, none⟩)) (by kernel_rfl) (by kernel_rfl) hC0 (fun _ _ _ h => h) (Or.inl ⟨by rfl, fun _ => by rfl⟩) ?_
    simp only [Act.put, List.setIfInBounds_toArray, List.set_cons_zero, List.set_cons_succ, List.take_succ_cons, List.take_zero, List.drop_succ_cons, List.drop_zero]
    iterate 15
      refine ⟨?_, Or.inl ⟨by rfl, fun wq hq => ?_⟩, fun _ _ _ h => h, ?_⟩
      rotate_left
      · obtain ⟨e0, e1⟩ := hCf wq hq
        go_simp
        rfl
      simp only [Act.put, List.setIfInBounds_toArray, List.set_cons_zero, List.set_cons_succ]
    refine tail.wpPre_nil ?_
    refine wpQuiet_nil ?_
    intro w2 hc2
    refine tail.wpListC_step rfl fun K hK2 => ?_
    go_simp
    refine (cg.out _).mono ?_
    rintro e w3 ⟨cap2, cells, rfl, hN, hcsz, hcap2, hcm2, hbel⟩
    have HK3 : Hid (Kept [] w1 w3) := hid ((hCo _ hc2).trans_ (.of_below hbel))
    refine hK2 _ _ (hCk _ _ hc2 (.of_below hbel)) ?_
    clear hK2 K
    refine tail.wpListC_zero ?_
    have HZ := hid (show w.heap.size ≤ w2.heap.size from Nat.le_trans HK1.out.size (hCo _ hc2).size)
    obtain ⟨g2, hg2⟩ : ∃ g2, g2 = w2.heap.size := ⟨_, rfl⟩
    rw [← hg2] at HZ hN ⊢
    have HB3 := hid (HB1.out.kept HK3.out (by simp))
    have d0 := HB3.out.cell 0 rfl
    have d1 := HB3.out.cell 1 rfl
    have d2 := HB3.out.frozen 0
    have d3 := HB3.out.frozen 1
    have H2 := hid (And.intro hN (And.intro hcsz (And.intro hcap2 hcm2)))
    have HNE : Hid (g2 ≠ b) := hid (by have := HB.out.lt; have := HZ.out; omega)
    clear hN hcsz hcm2 hbel hC0 hCf hCk hCo hc2 hg2
    have hs := slice_to .i64 (some ⟨g2, 0, none⟩) 0 cap2 n (by omega)
    go_wp2_with fail
    go_ret
    obtain ⟨hN, hcsz, hcap, hcm⟩ := H2.out
    refine ⟨by go_num, g2, cap2, lr, cells, HZ.out, ?_, ?_, hcsz, by omega, hcm, by simp, ?_⟩
    · have := ((HB3.out.set_ 0 (.slice (some ⟨g2, 0, none⟩) 0 cap2)).set_ 1 (.int .i64 0)).set_ 0 (.slice (some ⟨g2, 0, none⟩) n cap2)
      simpa using this
    · exact (((show Blk w3 g2 U8 cells from hN).far (p := ⟨b, 0, none⟩) HNE.out _).far (p := ⟨b, 1, none⟩) HNE.out _).far (p := ⟨b, 0, none⟩) HNE.out _
    · exact ((((HK1.out.trans_ HK3.out).more (T := [b]) (by simp)).setCell (p := ⟨b, 0, none⟩) (.inl (by simp)) _).setCell (p := ⟨b, 1, none⟩) (.inl (by simp)) _).setCell (p := ⟨b, 0, none⟩) (.inl (by simp)) _
end Go.Proofs.YtkjfndkcagkhaaaDoor.side
