/- sideband.Demuxer.Read. -/
import Derived.Test.YtkjfndkcagkhaaaDoorSdRead
import Derived.Deep.LoopGhost
set_option linter.unusedVariables false
attribute [local go_sem ↓] Go.wp_at_zero Go.wp_at_succ
namespace Go.Proofs.YtkjfndkcagkhaaaDoor.side
open Go.RowKit Lib frm mem text pkt rd

set_option maxRecDepth 100000 in
theorem slice_mid0 (ki kj : IntKind) (G q c i j : Nat) (hi : i ≤ j) (hj : j ≤ c) (hic : i < c) (w : World) : (Instr.sliceAt 25 (.slice (some ⟨G, 0, none⟩) q c) (some (.int ki i)) (some (.int kj j)) none).run Tryd.prog w = .ok (.slice (some ⟨G, i, none⟩) (j - i) (c - i)) w := by
  rw [run_sliceAt_slice (h := Tryd.underlying25), run_slice_lh (ht := Tryd.underlying25) (h0 := by omega) (h1 := by omega) (h2 := by omega), sizeByte]
  simp only [Result.andThen, sliced]
  rw [if_neg (by omega)]
  simp [Lib.addr_add]
/-- what Read has done so far: out stands ahead in the row of block g -/
structure Part (K : Cst) (w : World) (ls : List (List UInt8)) (pend prog : List UInt8) (PA0 : Option Addr) (pb0 : Value) (g m : Nat) (w' : World) (out : List UInt8) (cur' : List Value) (ls' : List (List UInt8)) (pend' prog' : List UInt8) (PA : Option Addr) (pn pc i : Nat) (ev pv pb : Value) : Prop where
  st : St K w' ls' pend' prog' PA pn pc i ev pv pb
  kept : Kept (g :: foot K PA0 pb0) w w'
  new : ∀ y ∈ foot K PA pb, y ∈ foot K PA0 pb0 ∨ w.heap.size ≤ y
  row : Blk w' g U8 cur'.toArray
  len : cur'.length = m
  front : cur'.take out.length = byteCells out
  le : out.length ≤ m
  data : pend ++ chOf 1 ls = out ++ (pend' ++ chOf 1 ls')
  prog : prog ++ chOf 2 ls = prog' ++ chOf 2 ls'
  less : total ls' + pend'.length ≤ total ls + pend.length
  lt : out ≠ [] → total ls' + pend'.length < total ls + pend.length
def PartIs (K : Cst) (w : World) (ls : List (List UInt8)) (pend prog : List UInt8) (PA0 : Option Addr) (pb0 : Value) (g m : Nat) (e : Ending) (w' : World) : Prop :=
  ∃ out cur' ls' pend' prog' PA pn pc i ev pv pb, Part K w ls pend prog PA0 pb0 g m w' out cur' ls' pend' prog' PA pn pc i ev pv pb ∧
    ((e = .returned (.tuple #[.int .i64 out.length, .nilIface]) ∧ out.length = m) ∨
     (e = .returned (.tuple #[.int .i64 out.length, .iface 184 (.pointer (some K.pe))]) ∧ ls' = [] ∧ pend' = []))
set_option maxRecDepth 100000 in
set_option maxHeartbeats 8000000 in
theorem read_calls (K : Cst) (w : World) (ls : List (List UInt8)) (pend prog : List UInt8) (PA : Option Addr) (pn pc i : Nat) (ev pv pb : Value) (hK : K.Fine) (h : St K w ls pend prog PA pn pc i ev pv pb) (hlim : prog.length + (chOf 2 ls).length ≤ 140737488289792)
    (g m : Nat) (cur : List Value) (hrow : Blk w g U8 cur.toArray) (hgB : K.B ≤ g) (hgf : g ∉ foot K PA pb) (hm0 : 0 < m) (hcl : cur.length = m) (hm1 : m ≤ 1000) :
    Calls Tryd.prog 41 #[.pointer (some ⟨K.D, 0, none⟩), .slice (some ⟨g, 0, none⟩) m m] w (PartIs K w ls pend prog PA pb g m) := by
  have HG := hid (And.intro hgB (And.intro hgf (And.intro hm0 (And.intro hm1 (And.intro hlim hrow.lt)))))
  have hm' : (m : Int) ≤ 1000 := by omega
  have HP0 : Hid (Part K w ls pend prog PA pb g m w [] cur ls pend prog PA pn pc i ev pv pb) := hid ⟨h, Kept.refl _ _, fun y hy => .inl hy, hrow, hcl, by simp [byteCells], by simp, rfl, rfl, Nat.le_refl _, fun e => absurd rfl e⟩
  obtain ⟨T, hT⟩ : ∃ T, T = total ls + pend.length := ⟨_, rfl⟩
  have HT := hid hT
  clear h hlim hrow hgB hgf hm0 hcl hm1 hT
  go_enter Tryd.func41, Tryd.ntmps41
  go_wp2_with fail
  go_loopg [6] T (fun G rv wr => ∃ (k : Nat) (out : List UInt8) (cur' : List Value) (ls' : List (List UInt8)) (pend' prog' : List UInt8) (PA' : Option Addr) (pn' pc' i' : Nat) (ev' pv' pb' : Value), rv = .int .i64 k ∧ k ≤ m ∧ Hid (k = out.length) ∧ Hid (total ls' + pend'.length ≤ G) ∧ Hid (Part K w ls pend prog PA pb g m wr out cur' ls' pend' prog' PA' pn' pc' i' ev' pv' pb'))
  case atStart => exact ⟨0, [], cur, ls, pend, prog, PA, pn, pc, i, ev, pv, pb, rfl, by omega, hid rfl, hid (by have := HT.out; omega), HP0⟩
  case round =>
    obtain ⟨k, out, cur', ls', pend', prog', PA', pn', pc', i', ev', pv', pb', rfl, hk, hko, hG, hP⟩ := hrel
    by_cases hlt : k < m
    · have hlt' : (k : Int) < m := by omega
      have hs := slice_mid0 .i64 .i64 g m m k m (by omega) (Nat.le_refl _) hlt
      have hgn : g ∉ foot K PA' pb' := fun hm => by
        rcases hP.out.new g hm with h | h
        · exact HG.out.2.1 h
        · have := HG.out.2.2.2.2.2; omega
      have c1 := hid (doRead_calls K wr ls' pend' prog' PA' pn' pc' i' ev' pv' pb' hK hP.out.st (by have h1 := congrArg List.length hP.out.prog; simp only [List.length_append] at h1; have := HG.out.2.2.2.2.1; omega) g k (m - k) (m - k) cur' hP.out.row HG.out.1 hgn (by omega) (by rw [hP.out.len]; omega) (by rw [hP.out.len]; exact HG.out.2.2.2.1))
      have HGN := hid hgn
      clear hgn
      go_wp2_with fail
      refine c1.out.mono ?_
      rintro e w2 ⟨x, cur2, ls2, pend2, prog2, PA2, pn2, pc2, i2, ev2, pv2, pb2, hD, hxm, hor⟩
      have HD := hid hD
      have hxm' : (x.length : Int) ≤ (m : Int) - k := by omega
      have HP2 : Hid (∀ (hd : pend' ++ chOf 1 ls' = x ++ (pend2 ++ chOf 1 ls2)) (hp : prog' ++ chOf 2 ls' = prog2 ++ chOf 2 ls2) (hl : total ls2 + pend2.length ≤ total ls' + pend'.length) (hl2 : x ≠ [] → total ls2 + pend2.length < total ls' + pend'.length), Part K w ls pend prog PA pb g m w2 (out ++ x) cur2 ls2 pend2 prog2 PA2 pn2 pc2 i2 ev2 pv2 pb2) := hid (fun hd hp hl hl2 => by
        have hko := hko.out
        have hP := hP.out
        have hz : w.heap.size ≤ wr.heap.size := hP.kept.size
        refine ⟨hD.st, hP.kept.trans hD.kept (fun y hy => ?_), fun y hy => ?_, hD.row, by rw [hD.len, hP.len], ?_, by simp; omega, by rw [hP.data, hd, List.append_assoc], by rw [hP.prog, hp], by have := hP.less; omega, fun hne => ?_⟩
        · simp only [List.mem_cons] at hy ⊢
          rcases hy with hy | hy
          · exact .inl (.inl hy)
          · rcases hP.new y hy with h | h
            · exact .inl (.inr h)
            · exact .inr h
        · rcases hD.new y hy with h | h
          · exact hP.new y h
          · exact .inr (Nat.le_trans hz h)
        · have h1 := hD.front
          rw [List.length_append, ← hko, h1]
          have h2 := hP.front
          rw [← hko] at h2
          rw [h2]
          simp [byteCells]
        · by_cases hx : x = []
          · subst hx
            rw [List.append_nil] at hne
            have := hP.lt hne
            omega
          · have := hl2 hx
            have := hP.less
            omega)
      clear hD c1
      rcases hor with ⟨rfl, hW⟩ | ⟨rfl, hx0, hp0, hl0, hl1, hp1, hpr⟩
      · have HW := hid hW
        clear hW
        go_wp2_with fail
        go_roundg (total ls2 + pend2.length)
        case measure => have h1 := HW.out.lt; have h2 := hG.out; omega
        case rel => exact ⟨k + x.length, out ++ x, cur2, ls2, pend2, prog2, PA2, pn2, pc2, i2, ev2, pv2, pb2, by go_num, by omega, hid (by rw [List.length_append, ← hko.out]), hid (Nat.le_refl _), hid (HP2.out HW.out.data HW.out.prog (Nat.le_of_lt HW.out.lt) (fun _ => HW.out.lt))⟩
      · have HE := hid (And.intro hx0 (And.intro hp0 (And.intro hl0 (And.intro hl1 (And.intro hp1 hpr)))))
        have hx1 : (x.length : Int) = 0 := by rw [hx0]; rfl
        clear hx0 hp0 hl0 hl1 hp1 hpr
        go_wp2_with fail
        go_ret2
        obtain ⟨rfl, rfl, rfl, rfl, rfl, rfl⟩ := HE.out
        have hP := HP2.out rfl rfl (Nat.le_refl _) (fun e => absurd rfl e)
        rw [List.append_nil] at hP
        exact ⟨out, cur2, [], [], _, PA2, pn2, pc2, i2, ev2, pv2, pb2, hP, .inr ⟨by rw [← hko.out]; rfl, rfl, rfl⟩⟩
    · have hlt' : ¬ ((k : Int) < m) := by omega
      go_wp2_with fail
      go_ret2
      have hkm : k = m := by omega
      exact ⟨out, cur', ls', pend', prog', PA', pn', pc', i', ev', pv', pb', hP.out, .inl ⟨by rw [← hko.out]; rfl, by rw [← hko.out, hkm]⟩⟩
end Go.Proofs.YtkjfndkcagkhaaaDoor.side
