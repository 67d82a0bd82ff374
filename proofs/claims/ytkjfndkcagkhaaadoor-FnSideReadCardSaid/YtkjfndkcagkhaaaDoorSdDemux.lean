/- impl.Demux. -/
import Derived.Test.YtkjfndkcagkhaaaDoorSdRd
set_option linter.unusedVariables false
attribute [local go_sem ↓] Go.wp_at_zero Go.wp_at_succ
namespace Go.Proofs.YtkjfndkcagkhaaaDoor.side
open Go.RowKit Lib frm mem text pkt rd

set_option maxRecDepth 100000 in
theorem kindOf_calls (b : Bool) (w : World) : Calls Tryd.prog 39 #[.bool b] w fun e w' => e = .returned (.int .i8 (if b then 1 else 0)) ∧ w' = w := by
  cases b <;>
  · go_enter Tryd.func39, Tryd.ntmps39
    go_wp2_with fail
    go_ret
    exact ⟨rfl, rfl⟩
/-- what a Demuxer takes at most -/
def most (b : Bool) : Nat := if b then 65520 else 1000
set_option maxRecDepth 100000 in
theorem newDemuxer_calls (b : Bool) (R : Nat) (w : World) : Calls Tryd.prog 38 #[.int .i8 (if b then 1 else 0), .iface 81 (.pointer (some ⟨R, 0, none⟩))] w fun e w' =>
    e = .returned (.pointer (some ⟨w.heap.size + 1, 0, none⟩)) ∧ w' = (w.alloc (.cells #[.iface 81 (.pointer (some ⟨R, 0, none⟩)), .nilIface, .slice none 0 0, .int .u8 0, .int .u8 0, .int .u8 0, .int .u8 0] 133)).alloc (.cells #[.int .i8 (if b then 1 else 0), .iface 81 (.pointer (some ⟨R, 0, none⟩)), .pointer (some ⟨w.heap.size, 0, none⟩), .int .i64 (most b : Nat), .slice none 0 0, .nilIface] TD) := by
  have c1 := fun w => newScanner_calls R w
  cases b <;>
  · go_enter Tryd.func38, Tryd.ntmps38
    go_wp2_with fail
    refine (c1 _).mono ?_
    rintro e w1 ⟨rfl, rfl⟩
    go_wp2_with fail
    go_ret
    exact ⟨by simp, rfl⟩
theorem make_full (m : Nat) (hm : m ≤ 1000) : ∃ cur : List Value, cur.length = m ∧ ∀ w : World, (Instr.makeSlice 25 (.int .i64 m) (.int .i64 m)).run Tryd.prog w = .ok (.slice (some ⟨w.heap.size, 0, none⟩) m m) (w.alloc (.cells cur.toArray U8)) := by
  obtain ⟨i0, hi, hz0, hz1, hz2⟩ := info_parts mem.infoByte
  refine ⟨(madeCells (Value.int .u8 0).cells (m * 1)).toList, by simp [madeCells, Value.cells], fun w => ?_⟩
  have hr := run_make (P := Tryd.prog) w 25 5 i0 (.int .u8 0) Tryd.underlying25 hi hz0 .i64 .i64 (m : Int) (m : Int) (by omega) (by omega) (by rw [hz2]; omega) (by omega)
  simp only [Int.toNat_natCast, hz1] at hr
  exact hr
/-- a row of bytes, told -/
def Told (w : World) (v : Value) (l : List UInt8) : Prop := ∃ A c, v = .slice A l.length c ∧ l.length ≤ c ∧ Bytes w w.heap.size A l.length l
/-- what the whole reading keeps -/
structure Run (K : Cst) (w0 : World) (bd g m : Nat) (full1 full2 : List UInt8) (wr : World) (outd : List UInt8) (vd : Value) (cur : List Value) (ls : List (List UInt8)) (pend prog : List UInt8) (PA : Option Addr) (pn pc i : Nat) (ev pv pb : Value) : Prop where
  st : St K wr ls pend prog PA pn pc i ev pv pb
  dx : Bx wr bd vd outd
  row : Blk wr g U8 cur.toArray
  len : cur.length = m
  below : Below K.B w0 wr
  data : full1 = outd ++ (pend ++ chOf 1 ls)
  prog : full2 = prog ++ chOf 2 ls
  gB : K.B ≤ g
  bB : K.B ≤ bd
  vB : ∀ x, vd.ownBlock = some x → K.B ≤ x
  gf : g ∉ foot K PA pb
  bf : bd ∉ foot K PA pb
  vf : ∀ x, vd.ownBlock = some x → x ∉ foot K PA pb ∧ x ≠ g
theorem Run.lo {K : Cst} {w0 wr : World} {bd g m : Nat} {full1 full2 outd : List UInt8} {vd : Value} {cur : List Value} {ls : List (List UInt8)} {pend prog : List UInt8} {PA : Option Addr} {pn pc i : Nat} {ev pv pb : Value} (h : Run K w0 bd g m full1 full2 wr outd vd cur ls pend prog PA pn pc i ev pv pb) : bd ≠ g ∧ bd < wr.heap.size ∧ ∀ x, vd.ownBlock = some x → x < wr.heap.size := by
  obtain ⟨lr, hb, ho⟩ := h.dx
  exact ⟨Blk.ne_ hb h.row (by decide), hb.lt, fun x hx => (ho.lt x hx).2⟩
/-- behind a reading -/
theorem Run.read {K : Cst} {w0 wr w2 : World} {bd g m : Nat} {full1 full2 outd : List UInt8} {vd : Value} {cur : List Value} {ls : List (List UInt8)} {pend prog : List UInt8} {PA : Option Addr} {pn pc i : Nat} {ev pv pb : Value} {out : List UInt8} {cur' : List Value} {ls' : List (List UInt8)} {pend' prog' : List UInt8} {PA' : Option Addr} {pn' pc' i' : Nat} {ev' pv' pb' : Value}
    (h : Run K w0 bd g m full1 full2 wr outd vd cur ls pend prog PA pn pc i ev pv pb) (hK : K.Fine) (hp : Part K wr ls pend prog PA pb g m w2 out cur' ls' pend' prog' PA' pn' pc' i' ev' pv' pb') :
    Bx w2 bd vd outd ∧ Below K.B w0 w2 ∧ bd ∉ foot K PA' pb' ∧ g ∉ foot K PA' pb' ∧ (∀ x, vd.ownBlock = some x → x ∉ foot K PA' pb') := by
  obtain ⟨h1, h2, h3⟩ := h.lo
  have hnew : ∀ y, y < wr.heap.size → y ∉ foot K PA pb → y ∉ foot K PA' pb' := fun y hy hn hm => by
    rcases hp.new y hm with h | h
    · exact hn h
    · omega
  refine ⟨h.dx.kept hp.kept (by simp only [List.mem_cons]; rintro (e | e); exact h1 e; exact h.bf e) (fun x hx => by simp only [List.mem_cons]; rintro (e | e); exact (h.vf x hx).2 e; exact (h.vf x hx).1 e), h.below.trans (hp.kept.below h.st.lo (fun y hy => by
    simp only [List.mem_cons] at hy
    rcases hy with rfl | hy
    · exact h.gB
    · exact (h.st.foot_lo hK y hy).1)), hnew bd h2 h.bf, hnew g h.row.lt h.gf, fun x hx => hnew x (h3 x hx) (h.vf x hx).1⟩
/-- behind the writing of what has been read -/
theorem Run.write {K : Cst} {w0 wr w2 w3 : World} {bd g m : Nat} {full1 full2 outd : List UInt8} {vd vd' : Value} {cur : List Value} {ls : List (List UInt8)} {pend prog : List UInt8} {PA : Option Addr} {pn pc i : Nat} {ev pv pb : Value} {out : List UInt8} {cur' : List Value} {ls' : List (List UInt8)} {pend' prog' : List UInt8} {PA' : Option Addr} {pn' pc' i' : Nat} {ev' pv' pb' : Value}
    (h : Run K w0 bd g m full1 full2 wr outd vd cur ls pend prog PA pn pc i ev pv pb) (hK : K.Fine) (hp : Part K wr ls pend prog PA pb g m w2 out cur' ls' pend' prog' PA' pn' pc' i' ev' pv' pb')
    (hx : Bx w3 bd vd' (outd ++ out)) (hk : Kept (bd :: vd.ownBlock.toList) w2 w3) (hn : ∀ x, vd'.ownBlock = some x → vd.ownBlock = some x ∨ w2.heap.size ≤ x) :
    Run K w0 bd g m full1 full2 w3 (outd ++ out) vd' cur' ls' pend' prog' PA' pn' pc' i' ev' pv' pb' := by
  obtain ⟨h1, h2, h3, h4, h5⟩ := h.read hK hp
  obtain ⟨h6, h7, h8⟩ := h.lo
  have hmem : ∀ y ∈ bd :: vd.ownBlock.toList, y ∉ foot K PA' pb' ∧ K.B ≤ y := fun y hy => by
    simp only [List.mem_cons] at hy
    rcases hy with rfl | hy
    · exact ⟨h3, h.bB⟩
    · have hy : vd.ownBlock = some y := by simpa using hy
      exact ⟨h5 y hy, h.vB y hy⟩
  have hgn : g ∉ bd :: vd.ownBlock.toList := fun hm => by
    simp only [List.mem_cons] at hm
    rcases hm with e | e
    · exact h6 e.symm
    · exact (h.vf g (by simpa using e)).2 rfl
  have hBz : K.B ≤ w2.heap.size := hp.st.lo
  refine ⟨hp.st.far hK hk hmem, hx, hp.row.kept hk hgn, hp.len, h2.trans (hk.below hBz (fun y hy => (hmem y hy).2)), by rw [h.data, hp.data, List.append_assoc], by rw [h.prog, hp.prog], h.gB, h.bB, fun x hx => ?_, h4, h3, fun x hx => ?_⟩
  · rcases hn x hx with e | e
    · exact h.vB x e
    · omega
  · rcases hn x hx with e | e
    · exact ⟨h5 x e, (h.vf x e).2⟩
    · refine ⟨fun hm => ?_, ?_⟩
      · have := (hp.st.foot_lo hK x hm).2; omega
      · have := hp.row.lt; omega
end Go.Proofs.YtkjfndkcagkhaaaDoor.side
