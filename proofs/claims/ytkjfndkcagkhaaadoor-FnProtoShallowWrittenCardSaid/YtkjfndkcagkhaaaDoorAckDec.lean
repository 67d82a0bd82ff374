/- ServerResponse.decodeACKLine. -/
import Derived.Test.YtkjfndkcagkhaaaDoorAckLine
import Derived.Test.YtkjfndkcagkhaaaDoorHash
import Derived.Test.YtkjfndkcagkhaaaDoorTail
set_option linter.unusedVariables false
attribute [local go_sem ↓] Go.wp_at_zero Go.wp_at_succ
namespace Go.Proofs.YtkjfndkcagkhaaaDoor.ack
open Go.RowKit Lib frm mem rd pkt hash

abbrev Sty : TypeId := 111
abbrev Lty : TypeId := 55
theorem own_form {w : World} {B size n : Nat} {e : TypeId} {v : Value} {xs : List Value} (h : w.ownsRow B e size v n xs) : ∃ A c, v = .slice A n c ∧ ∀ g, v.ownBlock = some g → B ≤ g ∧ ∃ cur, w.heap[g]? = some (.cells cur e (0, 0)) := by
  rcases h.2 with ⟨rfl, rfl⟩ | ⟨g, cap, cur, rfl, hb, hg, _⟩
  · exact ⟨none, 0, rfl, fun g h => by cases h⟩
  · refine ⟨_, cap, rfl, fun g' h' => ?_⟩
    cases h'
    exact ⟨hb, cur, hg⟩
theorem wpList_store_kept {P : Program} {ops : Array Oper} {rest : List Oper} {o : Oper} {a : Act} {w : World} {Q : Exit → Act → World → Prop} (hgd : o.guard = none) (ty : TypeId) (x y : Operand) (ho : o.op = .store ty x y)
    (g : Nat) (cells : Array Value) (hx : a.eval x = .pointer (some ⟨g, 0, none⟩)) (hy : a.eval y = .agg cells)
    (t : TypeId) (old : Array Value) (hg : w.heap[g]? = some (.cells old t (0, 0))) (hi : (P.info? ty).map (·.size) = some cells.size)
    (hold : old.size = cells.size) (h1 : cells.all (·.oneCell') = true)
    (h : ∀ w', Hid (Blk w' g t cells) → Hid (Kept [g] w w') → Hid (w'.heap.size = w.heap.size) → wpList P ops Q rest (a.put o.dst undef) w') : wpList P ops Q (o :: rest) a w :=
  wpList_store_row hgd ty x y ho g cells hx hy t old hg hi hold h1 (h _ (hid (setRow_heap w g _ _ t _ hg)) (hid (kept_setRow _)) (hid (by simp [World.setRow])))
/-- a slice of one aggregate -/
theorem foldl_set (l : List Value) : ∀ (k : Nat) (acc : Array Value), k + l.length ≤ acc.size →
    ((l.zipIdx k).foldl (fun (cs : Array Value) (p : Value × Nat) => cs.setIfInBounds p.2 p.1) acc).toList = acc.toList.take k ++ l ++ acc.toList.drop (k + l.length) := by
  induction l with
  | nil => intro k acc h; simp
  | cons x l ih =>
    intro k acc h
    simp only [List.length_cons] at h
    simp only [List.zipIdx_cons, List.foldl_cons, List.length_cons]
    rw [ih (k + 1) _ (by simp; omega)]
    have hk : k < acc.toList.length := by simp; omega
    simp only [Array.toList_setIfInBounds]
    rw [List.take_set, List.take_succ_eq_append_getElem hk, List.drop_set, if_pos (by omega)]
    rw [List.set_append_right _ _ (by simp; omega)]
    simp only [List.length_take, Nat.min_eq_left (Nat.le_of_lt hk), Nat.sub_self, List.set_cons_zero]
    rw [show k + 1 + l.length = k + (l.length + 1) by omega]
    simp
theorem fill_one (cs cells : Array Value) (n : Nat) (h1 : cs.size = n) (h2 : cells.size = n) : Instr.fill (fun i => some (i * n, n)) cells [(0, .agg cs)] = some cs := by
  simp only [Instr.fill, Value.cells, Nat.zero_mul, Nat.zero_add]
  rw [if_neg (by simp [h1, h2])]
  congr 1
  have h := foldl_set cs.toList 0 cells (by simp; omega)
  apply Array.toList_inj.1
  rw [← Array.foldl_toList, Array.toList_zipIdx]
  refine h.trans ?_
  simp [h1, h2]
theorem run_one_row (w : World) (t e : TypeId) (i0 : TypeInfo) (z : Value) (n : Nat) (cs : Array Value) (ht : Tryd.prog.underlying t = some (.slice e)) (hi : Tryd.prog.info? e = some i0) (hz : i0.zero = some z) (hs : i0.size = n) (hn : 0 < n) (hn2 : n ≤ 1000) (hcs : cs.size = n) :
    (Instr.buildSlice t 1 #[(0, .agg cs)]).run Tryd.prog w = .ok (.slice (some ⟨w.heap.size, 0, none⟩) 1 1) (w.alloc (.cells cs e)) := by
  have h0 : ¬ (2 ^ 24 < n) := by omega
  have h1 : ¬ (n = 0) := by omega
  have hf := fill_one cs (Array.map (fun x => z.cells[x % z.cells.size]!) (Array.range n)) n hcs (by simp)
  simp [Instr.buildSlice, run_underlying ht, sizeOf, typeInfo, hi, hz, hs, zeroValue, h0, h1, hf]
  go_simp
/-- the line of an ACK -/
def ackText (s : ByteArray) : List UInt8 := [65, 67, 75, 32] ++ s.data.toList ++ [10]
/-- one ACK is held -/
def AckDone (w : World) (X : Nat) (s : ByteArray) (e : Ending) (w' : World) : Prop :=
  e = .returned .nilIface ∧ ∃ A c, Blk w' X Sty #[.slice A 1 c] ∧ w'.ownsRow w.heap.size Hty 20 (.slice A 1 c) 1 (hashCells s) ∧ Kept [X] w w'
theorem one_blank (w : World) (z : Nat × Nat) : Bytes (w.alloc (.cells #[.int .u8 32] 5 z)) (w.alloc (.cells #[.int .u8 32] 5 z)).heap.size (some ⟨w.heap.size, 0, none⟩) 1 [32] := by
  refine ⟨⟨rfl, fun _ => ⟨_, rfl, by simp, fun j u hu => ?_⟩⟩, fun _ => ⟨_, _, rfl⟩⟩
  rw [Lib.addr_add, Nat.zero_add, Lib.cell_of_heap (heap_alloc_new w _) j]
  match j, hu with
  | 0, hu => exact hu
theorem wp_one_row {o : Oper} {a : Act} {w : World} {K : Act → World → Prop} {Q : Exit → Act → World → Prop} (t e : TypeId) (x : Operand) (ho : o.op = .buildSlice t 1 #[(0, x)]) (i0 : TypeInfo) (z : Value) (n : Nat) (cs : Array Value) (hx : a.eval x = .agg cs)
    (ht : Tryd.prog.underlying t = some (.slice e)) (hi : Tryd.prog.info? e = some i0) (hz : i0.zero = some z) (hs : i0.size = n) (hn : 0 < n) (hn2 : n ≤ 1000) (hcs : cs.size = n)
    (h : K (a.put o.dst (.slice (some ⟨w.heap.size, 0, none⟩) 1 1)) (w.alloc (.cells cs e))) : o.wp Tryd.prog a w K Q := by
  unfold Oper.wp execOp
  have hr := run_one_row w t e i0 z n cs ht hi hz hs hn hn2 hcs
  simp only [ho, hx, List.map_toArray, List.map_cons, List.map_nil, Sem.run_bind, Sem.run_pure, hr, Result.andThen_ok]
  exact h
theorem infoHash3 : (Tryd.prog.info? Hty).map (fun i => (i.zero, i.size, i.bytes)) = some (some (.agg zero20.toArray), 20, 20) := by kernel_rfl
/-- the row of one, behind an append -/
theorem reads_new (w : World) (cs : List Value) (e : TypeId) (h : cs.length = 20) : Reads (w.alloc (.cells cs.toArray e)) (w.heap.size + 1) 20 (some ⟨w.heap.size, 0, none⟩) 1 cs :=
  ⟨by omega, fun _ => ⟨_, rfl, by simp, fun j u hu => by rw [Lib.addr_add, Nat.zero_add, Lib.cell_of_heap (heap_alloc_new w _) j]; simpa using hu⟩⟩
theorem own_low {w : World} {base b2 size n : Nat} {e : TypeId} {v : Value} {xs : List Value} (h : w.ownsRow base e size v n xs) (hb : b2 ≤ base) : w.ownsRow b2 e size v n xs := by
  obtain ⟨hl, h0 | ⟨g, cap, cur, rfl, hB, hg, hr⟩⟩ := h
  · exact ⟨hl, .inl h0⟩
  · exact ⟨hl, .inr ⟨g, cap, cur, rfl, Nat.le_trans hb hB, hg, hr⟩⟩
theorem own_keepK {w w' : World} {K : List Nat} {base size n : Nat} {e : TypeId} {v : Value} {xs : List Value} (h : w.ownsRow base e size v n xs) (hk : Kept K w w') (hn : ∀ x ∈ K, x < base) : w'.ownsRow base e size v n xs := by
  obtain ⟨hl, h0 | ⟨g, cap, cur, rfl, hB, hg, hr⟩⟩ := h
  · exact ⟨hl, .inl h0⟩
  · exact ⟨hl, .inr ⟨g, cap, cur, rfl, hB, hk.heap hg (fun hm => by have := hn g hm; omega), hr⟩⟩
set_option maxRecDepth 100000 in
set_option maxHeartbeats 4000000 in
theorem ackLine_calls (B X : Nat) (A : Option Addr) (c : Nat) (s : ByteArray) (w : World) (hX : Blk w X Sty #[.slice none 0 0]) (hl : Bytes w B A 45 (ackText s)) (hB : B ≤ w.heap.size) (hc : 45 ≤ c) (hs : Hex40 s)
    (ev : Value) (hE : w.cell? ⟨12, 0, none⟩ = some ev) (hlt : 12 < w.heap.size) :
    Calls Tryd.prog 107 #[.pointer (some ⟨X, 0, none⟩), .slice A 45 c] w (AckDone w X s) := by
  have kc := fun (w : World) (C : Array Value) (n c : Nat) => Lib.run_convert_bytes_const (P := Tryd.prog) w 25 5 C n c Tryd.underlying25 Tryd.underlying5
  have c1 := hid (fun (w' : World) (g : Nat) (hk : Kept [] w w') (hg : Bytes w' w'.heap.size (some ⟨g, 0, none⟩) 1 [32]) => blank_calls B g A 45 c (ackText s) w' (hl.below (hk.below hB (by simp))) (by omega) hc (by omega) rfl rfl rfl rfl hg)
  go_enter Tryd.func107, Tryd.ntmps107
  go_wp2_with fail
  refine (c1.out _ _ ((Kept.refl [] w).alloc _) (one_blank w _)).mono ?_
  rintro e w1 ⟨rfl, hk1⟩
  have HK1 := hid (((Kept.refl [] w).alloc _).trans_ hk1)
  clear hk1
  obtain ⟨A4, hA4, hsl⟩ := slice_mid .i64 .i64 A 45 c 4 44 (by omega) (by omega) hc
  have hsl' : ∀ w, (Instr.sliceAt 25 (.slice A 45 c) (some (.int .i64 4)) (some (.int .i64 44)) none).run Tryd.prog w = .ok (.slice A4 40 (c - 4)) w := hsl
  have htx : (convert 25 9 (.slice A4 40 (c - 4))).run Tryd.prog w1 = .ok (.string s) w1 := by
    have hb := hA4 w1 B (ackText s) (hl.below (HK1.out.below hB (by simp)))
    have := text_of_bytes (c := c - 4) hb
    have e : ((ackText s).drop 4).take (44 - 4) = s.data.toList := by
      unfold ackText
      rw [List.append_assoc]
      show List.take 40 (s.data.toList ++ [10]) = _
      exact List.take_left' (by simpa using hs.1)
    rw [e] at this
    obtain ⟨⟨d⟩⟩ := s
    exact this
  have c2 := hid (newHash_calls s w1 ev ((HK1.out.cell (p := ⟨12, 0, none⟩) hlt (by simp)).trans hE) (Nat.lt_of_lt_of_le hlt HK1.out.size) hs)
  have HX := hid hX
  have HS := hid hs
  clear hsl hl hB hc hs hE hlt hX
  go_wp2_with fail
  refine c2.out.mono ?_
  rintro e w2 ⟨rfl, hk2⟩
  have HK2 := hid (HK1.out.trans_ hk2)
  clear hk2 hsl' htx
  have HLn := hid (hashCells_len HS.out)
  have HSz : Hid ((Tryd.prog.info? Hty).map (·.size) = some (hashCells s).toArray.size) := hid (by rw [infoHash]; simp [HLn.out])
  have HOld : Hid (zero20.toArray.size = (hashCells s).toArray.size) := hid (by simp [HLn.out, zero20])
  have HOne : Hid ((hashCells s).toArray.all (·.oneCell') = true) := hid (all_one (hash_one s))
  obtain ⟨i0, hi, hz0, hz1, hz2⟩ := info_parts infoHash3
  have HI := hid (And.intro hi (And.intro hz0 (And.intro hz1 hz2)))
  clear hi hz0 hz1 hz2
  go_wp2_with (first
    | (refine wpList_store_kept rfl Hty (.tmp 6) (.tmp 28) rfl w2.heap.size (hashCells s).toArray rfl rfl Hty zero20.toArray (Blk.new w2 Hty _) HSz.out HOld.out HOne.out ?_; intro w3 h1 h2 h3; have HB3 : Hid (Blk w3 w2.heap.size Hty (hashCells s).toArray) := hid h1.out; have HK3 : Hid (Kept [] w2 w3) := hid (((Kept.refl [] w2).alloc _).trans h2.out (by simp)); clear h1 h2 h3)
    | fail)
  have HKW := hid (HK2.out.trans_ HK3.out)
  have HX3 := hid (HX.out.kept HKW.out (by simp))
  obtain ⟨C, hC0, hCf, hCh, hCk, hCo⟩ : ∃ C : World → Prop, C w3.drew ∧ (∀ w', C w' → w'.cell? ⟨X, 0, none⟩ = some (.slice none 0 0)) ∧ (∀ w', C w' → w'.rangeAt w2.heap.size 0 (hashCells s)) ∧ (∀ w' w'', C w' → Kept [] w' w'' → C w'') ∧ (∀ w', C w' → Kept [] w3 w') :=
    ⟨fun w' => Kept [] w3 w', (Kept.refl _ w3).drew, fun w' h => (HX3.out.kept h (by simp)).cell 0 rfl, fun w' h => fun i u hu => by rw [Nat.zero_add]; exact (Blk.kept (show Blk w3 w2.heap.size Hty _ from HB3.out) h (by simp)).cell i (by simpa using hu), fun _ _ h h' => h.trans_ h', fun _ h => h⟩
  dsimp only [Act.put]
  refine tail.wp_region_mix C 5 0 1 (.pointer (some ⟨X, 0, none⟩)) (by kernel_rfl) (by kernel_rfl) hC0 (fun _ _ _ h => h) (Or.inl ⟨by rfl, fun _ => by rfl⟩) ?_
  simp only [Act.put, List.setIfInBounds_toArray, List.set_cons_zero, List.set_cons_succ, List.take_succ_cons, List.take_zero, List.drop_succ_cons, List.drop_zero]
  iterate 4
    refine ⟨?_, Or.inl ⟨by rfl, fun wq hq => ?_⟩, fun _ _ _ h => h, ?_⟩
    rotate_left
    · have e0 := hCf wq hq
      go_simp
      rfl
    simp only [Act.put, List.setIfInBounds_toArray, List.set_cons_zero, List.set_cons_succ]
  refine ⟨.agg (hashCells s).toArray, yieldsIf_load_mid (by rfl) Hty (.tmp 6) rfl w2.heap.size 0 rfl (hashCells s) _ hCh Tryd.underlying102 rfl (by have := HSz.out; simpa using this), fun _ _ _ h => h, ?_⟩
  simp only [Act.put, List.setIfInBounds_toArray, List.set_cons_zero, List.set_cons_succ]
  refine tail.wpPre_nil ?_
  refine wpQuiet_nil ?_
  intro w4 hc4
  have HK4 := hid (hCo _ hc4)
  have hC4 := hCk _ _ hc4 ((Kept.refl [] w4).alloc (.cells (hashCells s).toArray Hty))
  refine tail.wpListC_step rfl fun K hK => ?_
  refine wp_one_row Lty Hty (.tmp 34) rfl i0 _ 20 (hashCells s).toArray rfl Tryd.underlying55 HI.out.1 HI.out.2.1 HI.out.2.2.1 (by omega) (by omega) (by simp [HLn.out]) ?_
  refine hK _ _ hC4 ?_
  clear hK K
  refine tail.wpListC_zero ?_
  clear hC4 hC0 hCf hCh hCk hCo hc4 C
  have HR4 := hid (reads_new w4 (hashCells s) Hty HLn.out)
  have HX5 := hid ((HX3.out.kept HK4.out (by simp)).alloc (.cells (hashCells s).toArray Hty))
  have HK5 := hid ((HKW.out.trans_ HK4.out).alloc (.cells (hashCells s).toArray Hty))
  obtain ⟨g4, hg4⟩ : ∃ g4, g4 = w4.heap.size := ⟨_, rfl⟩
  have hz5 : (w4.alloc (.cells (hashCells s).toArray Hty)).heap.size = g4 + 1 := by rw [hg4]; simp
  have HZ5 := hid hz5
  rw [← hg4] at HR4 ⊢
  clear hz5 hg4
  generalize w4.alloc (.cells (hashCells s).toArray Hty) = w5 at *
  have f5 : w5.frozen? ⟨X, 0, none⟩ = false := HX5.out.frozen 0
  refine wpList_append_any _ rfl (.tmp 33) (.tmp 35) _ rfl w.heap.size Hty i0 _ 20 20 Tryd.underlying55 HI.out.1 HI.out.2.1 HI.out.2.2.1 HI.out.2.2.2 (by rfl) (by omega) (.slice none 0 0) 0 [] rfl (World.ownsRow_nil _ _ _ _) (g4 + 1) (some ⟨g4, 0, none⟩) 1 1 (hashCells s) rfl HR4.out (hash_one s) (by simp only [maxLen]; omega) (by omega) HK5.out.size ?_
  intro v6 w6 hown6 hg6 hat6
  obtain ⟨A6, c6, rfl, -⟩ := own_form hown6
  have HX6 := hid ((HX5.out.kept (S := []) (Kept.of_grown_none hg6) (by simp)))
  have HW6 := hid (HK5.out.trans_ (Kept.of_grown_none hg6))
  have HO6 := hid hown6
  have q6 := HX6.out.cell 0 rfl
  have z6 := HX6.out.frozen 0
  clear hown6 hg6 hat6 f5
  go_wp2_with fail
  go_ret
  have hkx := ((Kept.refl [X] w6).setCell (p := ⟨X, 0, none⟩) (.inl (by simp)) (.slice A6 1 c6))
  have hxl := HX.out.lt
  have ho := own_keepK HO6.out hkx (by intro x hx; simp at hx; subst hx; exact hxl)
  exact ⟨rfl, A6, c6, HX6.out.set_ 0 _, ho, (HW6.out.more (by simp)).trans_ hkx⟩
end Go.Proofs.YtkjfndkcagkhaaaDoor.ack
