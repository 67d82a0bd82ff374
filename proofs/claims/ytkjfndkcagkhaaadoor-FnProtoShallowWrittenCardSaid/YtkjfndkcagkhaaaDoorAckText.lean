/- impl.textsOf of one name, impl.ReadAcks. -/
import Derived.Test.YtkjfndkcagkhaaaDoorAckRead
import Derived.Test.YtkjfndkcagkhaaaDoorPktWorks
set_option linter.unusedVariables false
attribute [local go_sem ↓] Go.wp_at_zero Go.wp_at_succ
namespace Go.Proofs.YtkjfndkcagkhaaaDoor.ack
open Go.RowKit Lib frm mem rd pkt hash

theorem infoText : (Tryd.prog.info? 9).map (fun i => (i.zero, i.size, i.bytes)) = some (some (.string ⟨#[]⟩), 1, 16) := by kernel_rfl
theorem infoByte3 : (Tryd.prog.info? 5).map (fun i => (i.zero, i.size, i.bytes)) = some (some (.int .u8 0), 1, 1) := by kernel_rfl
/-- a slice of one text -/
def OneText (w : World) (s : ByteArray) (v : Value) (w' : World) : Prop := ∃ g c, v = .slice (some ⟨g, 0, none⟩) 1 c ∧ w'.cell? ⟨g, 0, none⟩ = some (.string s) ∧ Kept [] w w'
theorem Ground.up {w : World} {B B' : Nat} {pe pu : Addr} {ev : Value} (h : Ground w B pe pu ev) (hb : B ≤ B') : Ground w B' pe pu ev :=
  ⟨h.two, Nat.lt_of_lt_of_le h.g1 hb, Nat.lt_of_lt_of_le h.g2 hb, Nat.lt_of_lt_of_le h.g3 hb, Nat.lt_of_lt_of_le h.p1 hb, Nat.lt_of_lt_of_le h.p2 hb, h.ev⟩
theorem one_val (w : World) (v : Value) {e : TypeId} : Reads (w.alloc (.cells #[v] e)) (w.heap.size + 1) 1 (some ⟨w.heap.size, 0, none⟩) 1 [v] :=
  ⟨rfl, fun _ => ⟨_, rfl, by simp, fun j u hu => by rw [Lib.addr_add, Nat.zero_add, Lib.cell_of_heap (heap_alloc_new w _) j]; match j, hu with | 0, hu => exact hu⟩⟩
set_option maxRecDepth 100000 in
set_option maxHeartbeats 4000000 in
theorem textsOf_calls (g c : Nat) (s : ByteArray) (w : World) (hs : Hex40 s) (hr : w.rangeAt g 0 (hashCells s)) (hg : g < w.heap.size) :
    Calls Tryd.prog 34 #[.slice (some ⟨g, 0, none⟩) 1 c] w fun e w' => ∃ v, e = .returned v ∧ OneText w s v w' := by
  have HLn := hid (hashCells_len hs)
  have HSz : Hid ((Tryd.prog.info? Hty).map (·.size) = some (hashCells s).toArray.size) := hid (by rw [infoHash]; simp [HLn.out])
  have HSl : Hid ((Tryd.prog.info? Hty).map (·.size) = some (hashCells s).length) := hid (by rw [infoHash, HLn.out])
  have HOld : Hid (zero20.toArray.size = (hashCells s).toArray.size) := hid (by simp [HLn.out, zero20])
  have HOne : Hid ((hashCells s).toArray.all (·.oneCell') = true) := hid (all_one (hash_one s))
  obtain ⟨i0, hi, hz0, hz1, hz2⟩ := info_parts infoText
  have HR := hid hr
  have HS := hid hs
  have HGl := hid hg
  clear hr hs hg
  go_enter Tryd.func34, Tryd.ntmps34
  go_wp2_with fail
  refine wp_loop_rounds 2 ?_
  rw [rounds_succ]
  go_wp2_with (first
    | (refine wpList_load_mid rfl Hty (.tmp 10) rfl g 0 rfl (hashCells s) _ HR.out Tryd.underlying102 rfl HSl.out ?_)
    | (refine wpList_store_kept rfl Hty (.tmp 5) (.tmp 11) rfl w.heap.size (hashCells s).toArray rfl rfl Hty zero20.toArray (Blk.new w Hty _) HSz.out HOld.out HOne.out ?_; intro w3 h1 h2 h3; have HB3 : Hid (w3.rangeAt w.heap.size 0 (hashCells s)) := hid (fun i u hu => by rw [Nat.zero_add]; exact h1.out.cell i (by simpa using hu)); have HK3 : Hid (Kept [] w w3) := hid (((Kept.refl [] w).alloc _).trans h2.out (by simp)); clear h1 h2 h3)
    | (refine wpList_load_mid rfl Hty (.tmp 5) rfl w.heap.size 0 rfl (hashCells s) _ HB3.out Tryd.underlying102 rfl HSl.out ?_)
    | fail)
  refine (hashText_calls s w3 HS.out).mono ?_
  rintro e w4 ⟨rfl, h4⟩
  have HK4 := hid (HK3.out.trans_ h4)
  clear h4
  have hsz := hid HK4.out.size
  go_wp2_with (at_builtin; refine wpList_append_any _ rfl (.tmp 12) (.tmp 15) _ rfl w.heap.size 9 i0 _ 1 16 Tryd.underlying22 hi hz0 hz1 hz2 (by rfl) (by omega) (.slice none 0 0) 0 [] rfl (World.ownsRow_nil _ _ _ _) (w4.heap.size + 1) (some ⟨w4.heap.size, 0, none⟩) 1 1 [.string s] rfl (one_val w4 (.string s)) (by simp [Value.oneCell']) (by simp only [maxLen]; omega) (by omega) (by have := hsz.out; simp; omega) ?_; intro v6 w6 hown6 hg6 hat6; obtain ⟨A6, c6, rfl, -⟩ := own_form hown6; have HO6 := hid hown6; have HW6 := hid ((HK4.out.alloc _).trans_ (Kept.of_grown_none hg6)); clear hown6 hg6 hat6)
  rw [rounds_succ]
  go_wp2_with fail
  go_ret
  obtain ⟨g', cap, hv, _, hlt⟩ := HO6.out.form (by omega)
  injection hv with e1 e2 e3
  subst e1
  refine ⟨_, rfl, g', c6, rfl, ?_, HW6.out⟩
  obtain ⟨ad, e, _, hc⟩ := (Reads.of_own HO6.out).2 (by omega)
  injection e with e
  subst e
  exact hc 0 _ rfl
set_option maxRecDepth 100000 in
set_option maxHeartbeats 4000000 in
theorem readAcks_calls (B : Nat) (A : Option Addr) (c : Nat) (s : ByteArray) (w : World) (hs : Hex40 s) (hl : Bytes w B A 49 (ackLine s)) (hB : B ≤ w.heap.size) (pe pu : Addr) (ev : Value) (hG : Ground w w.heap.size pe pu ev) :
    Calls Tryd.prog 14 #[.slice A 49 c, .bool false] w fun e w' => ∃ v, e = .returned (.tuple #[v, .bool true]) ∧ OneText w s v w' := by
  obtain ⟨i0, hi, hz0, hz1, hz2⟩ := info_parts infoByte3
  have HL := hid hl
  have HB := hid hB
  have HG := hid hG
  have HS := hid hs
  have HLL := hid (show (ackLine s).length = 49 from hl.len)
  clear hl hB hG hs
  go_enter Tryd.func14, Tryd.ntmps14
  go_wp2_with (at_builtin; refine wpList_append_any _ rfl (.tmp 9) (.tmp 10) _ rfl w.heap.size 5 i0 _ 1 1 Tryd.underlying25 hi hz0 hz1 hz2 (by rfl) (by omega) (.slice (some ⟨w.heap.size, 0, none⟩) 0 0) 0 [] rfl (own_new (heap_alloc_new w _) (Nat.le_refl _)) B A 49 c (byteCells (ackLine s)) rfl (HL.out.1.alloc HB.out _) (cells_one _) (by simp only [maxLen]; omega) (by omega) (by simp) ?_; intro v6 w6 hown6 hg6 hat6; obtain ⟨A6, c6, rfl, -⟩ := own_form hown6; have HO6 := hid hown6; have HW6 := hid (((Kept.refl [] w).alloc _).trans (Kept.of_grown hg6) (by simp)); clear hown6 hg6 hat6)
  obtain ⟨g6, cap, hv, hcap, hlt⟩ := HO6.out.form (by omega)
  injection hv with e1 e2 e3
  subst e1
  obtain ⟨_, h0 | ⟨g7, cap7, cur7, hv7, hb7, hg7, hn7, _⟩⟩ := HO6.out
  · cases h0.1
  have hc6 : 49 ≤ c6 := by injection hv7 with _ _ e; omega
  have hy6 : Bytes w6 w6.heap.size (some ⟨g6, 0, none⟩) 49 (ackLine s) := ⟨by have := Reads.of_own HO6.out; simpa using this, fun _ => ⟨_, _, rfl⟩⟩
  have hG6 := ((HG.out.below (HW6.out.below (Nat.le_refl _) (by simp))).up HW6.out.size)
  refine (zzRead_calls w6.heap.size (some ⟨g6, 0, none⟩) c6 s w6 HS.out hy6 (Nat.le_refl _) hc6 pe pu ev hG6).mono ?_
  rintro e w7 ⟨g', c', rfl, h1, h2, h3⟩
  have HR7 := hid h1
  have HG7 := hid h2
  have HK7 := hid (HW6.out.trans_ h3)
  clear h1 h2 h3 hG6 hy6 hc6 hv7 hb7 hg7 hn7 hlt hcap e2 e3
  go_wp2_with fail
  refine (textsOf_calls g' c' s w7 HS.out HR7.out HG7.out).mono ?_
  rintro e w8 ⟨v8, rfl, g8, c8, rfl, h1, h2⟩
  have H8 := hid (And.intro h1 (HK7.out.trans_ h2))
  clear h1 h2
  go_wp2_with fail
  go_ret2
  exact ⟨_, rfl, g8, c8, rfl, H8.out.1, H8.out.2⟩
end Go.Proofs.YtkjfndkcagkhaaaDoor.ack
