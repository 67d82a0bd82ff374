/- A parser made over a text. -/
import Derived.Test.YtojimnlnpghbiaaDoorRevParser
import Derived.Lib.ConvBytes
import Derived.Lib.AtoiErrMem
set_option linter.unusedVariables false
attribute [local go_sem ↓] Go.wp_at_zero Go.wp_at_succ
namespace Go.Proofs.YtojimnlnpghbiaaDoor.rev
open Go.RowKit Lib frm mem rd

/-- a buffer made over a text -/
def BufNew (s : ByteArray) (w : World) (e : Ending) (w' : World) : Prop :=
  ∃ c, e = .returned (.pointer (some ⟨w.heap.size + 1, 0, none⟩)) ∧ s.size ≤ c ∧ Bf w' (w.heap.size + 1) (some ⟨w.heap.size, 0, none⟩) s.size c 0 ∧ Bytes w' (w.heap.size + 1) (some ⟨w.heap.size, 0, none⟩) s.size s.data.toList ∧ Kept [] w w' ∧ w'.heap.size = w.heap.size + 2
set_option maxRecDepth 100000 in
theorem newBuf_calls (s : ByteArray) (w : World) : Calls Tryd.prog 52 #[.string s] w (BufNew s w) := by
  have hk : Kept [] w (bytesWorld w 5 s) := .of_below (bytesWorld_below w 5 s)
  have hsz := bytesWorld_size w 5 s
  have hby : Bytes (bytesWorld w 5 s) (w.heap.size + 1) (some ⟨w.heap.size, 0, none⟩) s.size s.data.toList := by
    refine ⟨⟨by simp [Lib.byteCells], fun _ => ⟨_, rfl, by simp, fun j u hu => ?_⟩⟩, fun _ => ⟨_, _, rfl⟩⟩
    have hj : j < s.size := by
      have := (List.getElem?_eq_some_iff.1 hu).1
      simpa [Lib.byteCells] using this
    rw [Lib.addr_add, Nat.zero_add, bytesWorld_cell w 5 s j hj, ← hu]
    have hj2 : j < s.data.toList.length := by simpa using hj
    simp only [Lib.byteCells, List.getElem?_map, List.getElem?_eq_getElem hj2, Option.map_some, List.getD_eq_getElem?_getD, Option.getD_some]
  have hcap := grownCap_ge w s.size 0 5
  have hcv := Go.Lib.run_convert_string_bytes (P := Tryd.prog) w 9 22 5 s Tryd.underlying9 Tryd.underlying22 Tryd.underlying5
  generalize grownCap w s.size 0 5 = cap at *
  generalize bytesWorld w 5 s = w1 at *
  have HK := hid hk
  have HS := hid hsz
  have HB := hid hby
  have HC := hid hcap
  clear hk hsz hby hcap
  go_enter Tryd.func52, Tryd.ntmps52
  go_wp2_with fail
  go_ret
  have hb := Blk.new w1 44 #[.slice (some ⟨w.heap.size, 0, none⟩) s.size cap, .int .i64 0, .int .i8 0]
  rw [HS.out] at hb ⊢
  exact ⟨_, rfl, HC.out, ⟨0, hb⟩, HB.out.alloc (by rw [HS.out]; omega) _, HK.out.alloc _, by simp [HS.out]⟩
def LimNew (b : Nat) (w : World) (e : Ending) (w' : World) : Prop :=
  e = .returned (.iface 188 (.pointer (some ⟨w.heap.size, 0, none⟩))) ∧ w' = w.alloc (.cells #[.iface 49 (.pointer (some ⟨b, 0, none⟩)), .int .i64 131072] 190)
set_option maxRecDepth 100000 in
theorem newLim_calls (b : Nat) (w : World) : Calls Tryd.prog 85 #[.iface 49 (.pointer (some ⟨b, 0, none⟩)), .int .i64 131072] w (LimNew b w) := by
  go_enter Tryd.func85, Tryd.ntmps85
  go_wp2_with fail
  go_ret
  exact ⟨rfl, rfl⟩
set_option maxRecDepth 100000 in
theorem bufReset_calls (R G q : Nat) (w : World) (h : Blk w R 192 #[.slice none 0 0, .nilIface, .int .i64 0, .int .i64 0, .nilIface, .int .i64 0, .int .i64 0]) :
    Calls Tryd.prog 116 #[.pointer (some ⟨R, 0, none⟩), .slice (some ⟨G, 0, none⟩) 4096 4096, .iface 188 (.pointer (some ⟨q, 0, none⟩))] w fun e w' => e = .returned (.tuple #[]) ∧ Rb w' R G q 0 0 .nilIface (-1) (-1) ∧ Kept [R] w w' := by
  have f : ∀ i, w.frozen? ⟨R, i, none⟩ = false := fun i => h.frozen i
  have h0 : w.cell? ⟨R, 0, none⟩ = some (.slice none 0 0) := h.cell 0 rfl
  have h1 : w.cell? ⟨R, 1, none⟩ = some .nilIface := h.cell 1 rfl
  have h2 : w.cell? ⟨R, 2, none⟩ = some (.int .i64 0) := h.cell 2 rfl
  have h3 : w.cell? ⟨R, 3, none⟩ = some (.int .i64 0) := h.cell 3 rfl
  have h4 : w.cell? ⟨R, 4, none⟩ = some .nilIface := h.cell 4 rfl
  have h5 : w.cell? ⟨R, 5, none⟩ = some (.int .i64 0) := h.cell 5 rfl
  have h6 : w.cell? ⟨R, 6, none⟩ = some (.int .i64 0) := h.cell 6 rfl
  have HB := hid h
  clear h
  go_enter Tryd.func116, Tryd.ntmps116
  go_wp2_with fail
  try go_end0
  refine ⟨rfl, ?_, ?_⟩
  · have := ((((((HB.out.set_ 0 (.slice (some ⟨G, 0, none⟩) 4096 4096)).set_ 1 (.iface 188 (.pointer (some ⟨q, 0, none⟩)))).set_ 2 (.int .i64 0)).set_ 3 (.int .i64 0)).set_ 4 .nilIface).set_ 5 (.int .i64 (-1))).set_ 6 (.int .i64 (-1))
    unfold Rb
    simpa [rdC] using this
  · exact (((((((Kept.refl [R] w).setCell (p := ⟨R, 0, none⟩) (.inl (by simp)) _).setCell (p := ⟨R, 1, none⟩) (.inl (by simp)) _).setCell (p := ⟨R, 2, none⟩) (.inl (by simp)) _).setCell (p := ⟨R, 3, none⟩) (.inl (by simp)) _).setCell (p := ⟨R, 4, none⟩) (.inl (by simp)) _).setCell (p := ⟨R, 5, none⟩) (.inl (by simp)) _).setCell (p := ⟨R, 6, none⟩) (.inl (by simp)) _
theorem size_alloc' (w : World) (o : Obj) : (w.alloc o).heap.size = w.heap.size + 1 := by simp
/-- a reader made over the limited reader in block q -/
def RdNew (q : Nat) (w : World) (e : Ending) (w' : World) : Prop :=
  e = .returned (.pointer (some ⟨w.heap.size, 0, none⟩)) ∧ Rb w' w.heap.size (w.heap.size + 1) q 0 0 .nilIface (-1) (-1) ∧ (∃ cs : List Value, cs.length = 4096 ∧ Blk w' (w.heap.size + 1) 5 cs.toArray) ∧ Kept [] w w' ∧ w.heap.size + 2 ≤ w'.heap.size
set_option maxRecDepth 100000 in
set_option maxHeartbeats 2000000 in
theorem newRd_calls (q : Nat) (w : World) : Calls Tryd.prog 100 #[.iface 188 (.pointer (some ⟨q, 0, none⟩)), .int .i64 4096] w (RdNew q w) := by
  have hta : ∀ w : World, (Instr.typeAssert (.iface 188 (.pointer (some ⟨q, 0, none⟩))) 69 162 true).run Tryd.prog w = .ok (.tuple #[.pointer none, .bool false]) w := fun _ => by kernel_rfl
  obtain ⟨i0, hi, hz0, hz1, hz2⟩ := info_parts mem.infoByte
  go_enter Tryd.func100, Tryd.ntmps100
  go_wp2_with (at_make; refine wpList_make_full _ rfl _ _ 22 rfl (w.heap.size + 1) 5 i0 _ 1 Tryd.underlying22 hi hz0 hz1 .i64 .i64 4096 4096 4096 rfl rfl rfl rfl (by rw [hz2]; decide) (by decide) (by simp) ?_; intro w1 hown hgr; have H1 := hid (And.intro hown hgr); clear hown hgr)
  have hk1 : Kept [] w w1 := ((Kept.refl [] w).alloc _).trans (T := []) (Kept.of_grown_none H1.out.2) (by simp)
  have hb1 : Blk w1 w.heap.size 192 #[.slice none 0 0, .nilIface, .int .i64 0, .int .i64 0, .nilIface, .int .i64 0, .int .i64 0] := Blk.kept (S := []) (Blk.new w _ _) (Kept.of_grown_none H1.out.2) (by simp)
  have hg1 : ∃ cs : List Value, cs.length = 4096 ∧ Blk w1 (w.heap.size + 1) 5 cs.toArray := by
    have ho := H1.out.1
    simp only [size_alloc'] at ho
    rcases ho.2 with ⟨h1, _⟩ | ⟨g, cap, cur, h1, _, hg, _, _, hcs, _⟩
    · cases h1
    · injection h1 with h1 h2 h3
      injection h1 with h1
      injection h1 with h1
      subst h1
      exact ⟨cur.toList, by rw [Array.length_toList, hcs, ← h3], hg⟩
  have c1 := hid (bufReset_calls w.heap.size (w.heap.size + 1) q w1 hb1)
  have HK1 := hid hk1
  have HG1 := hid hg1
  clear hk1 hb1 hg1 H1
  refine c1.out.mono ?_
  rintro e w2 ⟨rfl, hr, hk⟩
  have HR := hid hr
  have HK := hid hk
  clear hr hk c1
  go_wp2_with fail
  go_ret
  obtain ⟨cs, hc, hg⟩ := HG1.out
  have hk2 : Kept [] w w2 := HK1.out.trans HK.out (by simp)
  exact ⟨rfl, HR.out, ⟨cs, hc, hg.kept HK.out (by simp)⟩, hk2, by have := hg.lt; have := HK.out.size; omega⟩
/-- a parser made over a text -/
def Made (s : ByteArray) (w : World) (e : Ending) (w' : World) : Prop :=
  ∃ c S h, e = .returned (.pointer (some ⟨h, 0, none⟩)) ∧ s.size ≤ c ∧ w.heap.size + 4 < S ∧ S < h ∧ h < w'.heap.size ∧ Ps w' h S 0 ⟨#[]⟩ false ∧ Sc w' S (w.heap.size + 3) ∧ Kept [] w w' ∧
    Rb w' (w.heap.size + 3) (w.heap.size + 4) (w.heap.size + 2) 0 0 .nilIface (-1) (-1) ∧ Lm w' (w.heap.size + 2) (w.heap.size + 1) 131072 ∧ Bf w' (w.heap.size + 1) (some ⟨w.heap.size, 0, none⟩) s.size c 0 ∧
    Bytes w' (w.heap.size + 1) (some ⟨w.heap.size, 0, none⟩) s.size s.data.toList ∧ ∃ cs : List Value, cs.length = 4096 ∧ Blk w' (w.heap.size + 4) 5 cs.toArray
set_option maxRecDepth 100000 in
theorem newReader_calls (q : Nat) (w : World) : Calls Tryd.prog 84 #[.iface 188 (.pointer (some ⟨q, 0, none⟩))] w (RdNew q w) := by
  have c1 := hid (newRd_calls q w)
  go_enter Tryd.func84, Tryd.ntmps84
  go_wp2_with fail
  refine c1.out.mono ?_
  rintro e w2 ⟨rfl, hr⟩
  have HR := hid hr
  clear hr
  go_wp2_with fail
  go_ret
  exact ⟨rfl, HR.out⟩
/-- a scanner made over the buffer in block b -/
def ScNew (b : Nat) (w : World) (e : Ending) (w' : World) : Prop :=
  ∃ S, e = .returned (.pointer (some ⟨S, 0, none⟩)) ∧ w.heap.size + 2 < S ∧ S < w'.heap.size ∧ Sc w' S (w.heap.size + 1) ∧ Kept [] w w' ∧ Rb w' (w.heap.size + 1) (w.heap.size + 2) w.heap.size 0 0 .nilIface (-1) (-1) ∧ Lm w' w.heap.size b 131072 ∧
    ∃ cs : List Value, cs.length = 4096 ∧ Blk w' (w.heap.size + 2) 5 cs.toArray
set_option maxRecDepth 100000 in
set_option maxHeartbeats 2000000 in
theorem newScanner_calls (b : Nat) (w : World) : Calls Tryd.prog 70 #[.iface 49 (.pointer (some ⟨b, 0, none⟩))] w (ScNew b w) := by
  have c1 := hid (newLim_calls b w)
  have c2 := hid (newReader_calls w.heap.size (w.alloc (.cells #[.iface 49 (.pointer (some ⟨b, 0, none⟩)), .int .i64 131072] 190)))
  have HL := hid (show Lm (w.alloc (.cells #[.iface 49 (.pointer (some ⟨b, 0, none⟩)), .int .i64 131072] 190)) w.heap.size b 131072 from Blk.new w _ _)
  have HK0 := hid (show Kept [] w (w.alloc (.cells #[.iface 49 (.pointer (some ⟨b, 0, none⟩)), .int .i64 131072] 190)) from (Kept.refl [] w).alloc _)
  have HZ := hid (size_alloc' w (.cells #[.iface 49 (.pointer (some ⟨b, 0, none⟩)), .int .i64 131072] 190))
  go_enter Tryd.func70, Tryd.ntmps70
  go_wp2_with fail
  refine c1.out.mono ?_
  rintro e w1 ⟨rfl, rfl⟩
  go_wp2_with fail
  generalize w.alloc (.cells #[.iface 49 (.pointer (some ⟨b, 0, none⟩)), .int .i64 131072] 190) = w1 at *
  refine c2.out.mono ?_
  rintro e w2 ⟨rfl, hr, hg, hk, hz⟩
  rw [HZ.out] at hr hg hz
  have HR := hid hr
  have HG := hid hg
  have HK := hid hk
  have HZ2 := hid hz
  clear hr hg hk hz
  go_wp2_with fail
  go_ret
  obtain ⟨cs, hc, hg⟩ := HG.out
  have hk3 : ∀ o, Kept [] w2 (w2.alloc o) := fun o => (Kept.refl [] w2).alloc o
  refine ⟨_, rfl, by have := HZ2.out; omega, by simp, ?_, ?_, ?_, ?_, cs, hc, ?_⟩
  · unfold Sc
    rw [Lib.cell_of_heap (heap_alloc_new w2 _), HZ.out]
    rfl
  · exact (HK0.out.trans HK.out (by simp)).trans (hk3 _) (by simp)
  · exact Blk.kept HR.out (hk3 _) (by simp)
  · exact Blk.kept (HL.out.kept HK.out (by simp)) (hk3 _) (by simp)
  · exact hg.kept (hk3 _) (by simp)
def PaNew (b : Nat) (w : World) (e : Ending) (w' : World) : Prop :=
  ∃ S h, e = .returned (.pointer (some ⟨h, 0, none⟩)) ∧ w.heap.size + 2 < S ∧ S < h ∧ h < w'.heap.size ∧ Ps w' h S 0 ⟨#[]⟩ false ∧ Sc w' S (w.heap.size + 1) ∧ Kept [] w w' ∧ Rb w' (w.heap.size + 1) (w.heap.size + 2) w.heap.size 0 0 .nilIface (-1) (-1) ∧ Lm w' w.heap.size b 131072 ∧
    ∃ cs : List Value, cs.length = 4096 ∧ Blk w' (w.heap.size + 2) 5 cs.toArray
set_option maxRecDepth 100000 in
set_option maxHeartbeats 2000000 in
theorem newParser_calls (b : Nat) (w : World) : Calls Tryd.prog 51 #[.iface 49 (.pointer (some ⟨b, 0, none⟩))] w (PaNew b w) := by
  have c1 := hid (newScanner_calls b w)
  go_enter Tryd.func51, Tryd.ntmps51
  go_wp2_with fail
  refine c1.out.mono ?_
  rintro e w2 ⟨S, rfl, hS, hSl, hsc, hk, hr, hl, hg⟩
  have H2 := hid (And.intro hS (And.intro hSl (And.intro hsc (And.intro hk (And.intro hr (And.intro hl hg))))))
  clear hS hSl hsc hk hr hl hg
  go_wp2_with fail
  go_ret
  obtain ⟨hS, hSl, hsc, hk, hr, hl, cs, hc, hg⟩ := H2.out
  have hk3 : ∀ o, Kept [] w2 (w2.alloc o) := fun o => (Kept.refl [] w2).alloc o
  exact ⟨S, _, rfl, hS, hSl, by simp, Blk.new w2 _ _, ((hk3 _).cell (p := ⟨S, 0, none⟩) hSl (by simp)).trans hsc, hk.trans (hk3 _) (by simp), Blk.kept hr (hk3 _) (by simp), Blk.kept hl (hk3 _) (by simp), cs, hc, hg.kept (hk3 _) (by simp)⟩
set_option maxRecDepth 100000 in
set_option maxHeartbeats 2000000 in
theorem made_calls (s : ByteArray) (w : World) : Calls Tryd.prog 40 #[.string s] w (Made s w) := by
  have c1 := hid (newBuf_calls s w)
  have c2 := hid (fun w => newScanner_calls (w.heap.size) w)
  go_enter Tryd.func40, Tryd.ntmps40
  go_wp2_with fail
  refine c1.out.mono ?_
  rintro e w1 ⟨c, rfl, hc, hb, hy, hk, hz⟩
  have H1 := hid (And.intro hc (And.intro hb (And.intro hy (And.intro hk hz))))
  have c3 := hid (newParser_calls (w.heap.size + 1) w1)
  clear hc hb hy hk hz c1 c2
  go_wp2_with fail
  refine c3.out.mono ?_
  rintro e w2 ⟨S, h, rfl, hS, hSh, hhl, hps, hsc, hk, hr, hl, cs, hcs, hg⟩
  obtain ⟨hc, hb, hy, hk1, hz⟩ := H1.out
  rw [hz] at hS hsc hr hl hg
  have HX : Hid (Made s w (.returned (.pointer (some ⟨h, 0, none⟩))) w2) := hid ⟨c, S, h, rfl, hc, hS, hSh, hhl, hps, hsc, hk1.trans hk (by simp), hr, hl, hb.kept hk (by simp), hy.below (hk.below (by omega) (by simp)), cs, hcs, hg⟩
  clear hS hSh hhl hps hsc hk hr hl hcs hg hc hb hy hk1 hz
  go_wp2_with fail
  go_ret
  exact HX.out
end Go.Proofs.YtojimnlnpghbiaaDoor.rev
