/- A bytes.Reader over bytes that lie below: Read, io.ReadAtLeast, io.ReadFull. -/
import Derived.Test.YtdbkafpflicdiaaDoorFrame
import Derived.Test.YtdbkafpflicdiaaDoorMem
import Derived.Test.YtdbkafpflicdiaaDoorSlices
import Derived.Deep.RegionHeld3
import Derived.Deep.DrawnRows
import Derived.Deep.QuietTactic
import Derived.BigQuiet
import Derived.LoopN
import Derived.LaidEql
import Derived.WalkKit
import Derived.Lib.Hide
import Derived.ProofKit
set_option linter.unusedVariables false
attribute [local go_sem ↓] Go.wp_at_zero Go.wp_at_succ
namespace Go.Proofs.YtdbkafpflicdiaaDoor.rd
open Go.RowKit Lib frm mem

/-- copy in a region that draws -/
theorem step_copy_kept {P : Program} {ops : Array Oper} {o : Oper} {a : Act} {w : World} {K : Act → World → Prop} {Q : Exit → Act → World → Prop} {E : Prop} (hgd : o.guard = none) (d s : Operand) (dT sT : TypeId)
    (ho : o.op = .call { callee := .builtin .copy, args := #[d, s], argTypes := #[dT, sT] }) (elem : TypeId) (hu : P.underlying dT = some (.slice elem)) (hsz : (P.info? elem).map (·.size) = some 1)
    (dp sp : Option Addr) (dLen dCap sLen sCap : Nat) (hd : a.eval d = .slice dp dLen dCap) (hs : a.eval s = .slice sp sLen sCap)
    (g off : Nat) (cur : List Value) (t : TypeId) (hg : w.heap[g]? = some (.cells cur.toArray t (0, 0))) (cs : List Value) (hn : cs.length = Nat.min sLen dLen)
    (hpos : 0 < cs.length → dp = some ⟨g, off, none⟩ ∧ ∃ ad, sp = some ad ∧ ∀ j v, cs[j]? = some v → w.cell? (ad.add j) = some v)
    (hfit : off + cs.length ≤ cur.length) (h1 : ∀ v ∈ cs, v.oneCell' = true)
    (h : ∀ w', Hid (w'.heap[g]? = some (.cells (splice cur off cs).toArray t (0, 0))) → Hid (Kept [g] w w') → Hid (w'.heap.size = w.heap.size) → K (a.put o.dst (goInt cs.length)) w') :
    if Region.wanted o (yielded ops a.tmps) = true then Oper.wp P o a w K Q else E := by
  have hw : Region.wanted o (yielded ops a.tmps) = true := by simp [Region.wanted, hgd]
  rw [if_pos hw]
  by_cases h0 : cs.length = 0
  · obtain rfl : cs = [] := List.eq_nil_of_length_eq_zero h0
    have hrun := run_copy_none (P := P) w dT sT o.type elem dp sp dLen dCap sLen sCap hu hsz (by simpa using hn.symm)
    unfold Oper.wp
    simp [execOp, ho, resolve, invoke, builtin, hd, hs, hrun, Result.andThen]
    exact h w (show _ = _ by simpa [splice] using hg) (show Kept _ _ _ from .refl _ _) (show _ = _ from rfl)
  · obtain ⟨rfl, ad, rfl, hsrc⟩ := hpos (by omega)
    have hrun := run_copy_row (P := P) w dT sT o.type elem g off dLen dCap ad sLen sCap cur.toArray t cs hu hsz hg hn hsrc (by simpa using hfit) h1
    unfold Oper.wp
    simp [execOp, ho, resolve, invoke, builtin, hd, hs, hrun, Result.andThen]
    exact h _ (show _ = _ by simpa [splice] using setRow_heap w g _ _ t _ hg) (show Kept _ _ _ from kept_setRow _) (show _ = _ by simp [World.setRow])

/-- a bytes.Reader in block R over a slice, at place i -/
def Rd (w : World) (R : Nat) (A : Option Addr) (n c i : Nat) : Prop := ∃ pr : Int, Blk w R 116 #[.slice A n c, .int .i64 i, .int .i64 pr]
theorem Rd.kept {w w' : World} {R n c i : Nat} {A : Option Addr} {S : List Nat} (h : Rd w R A n c i) (hk : Kept S w w') (hn : R ∉ S) : Rd w' R A n c i := by
  obtain ⟨pr, h⟩ := h; exact ⟨pr, h.kept hk hn⟩
theorem Rd.lt {w : World} {R n c i : Nat} {A : Option Addr} (h : Rd w R A n c i) : R < w.heap.size := by obtain ⟨pr, h⟩ := h; exact h.lt
/-- io.EOF is this value -/
def Eof (w : World) (v : Value) : Prop := w.cell? ⟨0, 0, none⟩ = some v ∧ ∃ p, v = .iface 93 (.pointer (some p))
theorem infoByte : (Tryd.prog.info? 5).map (·.size) = some 1 := by kernel_rfl
/-- what Read has done -/
def ReadSome (w : World) (R D : Nat) (A : Option Addr) (n c i k : Nat) (t : TypeId) (cur' : List Value) (e : Ending) (w' : World) : Prop :=
  e = .returned (.tuple #[.int .i64 k, .nilIface]) ∧ Rd w' R A n c (i + k) ∧ Blk w' D t cur'.toArray ∧ Kept [R, D] w w'
def ReadEnd (w : World) (R : Nat) (v : Value) (A : Option Addr) (n c i : Nat) (e : Ending) (w' : World) : Prop :=
  e = .returned (.tuple #[.int .i64 0, v]) ∧ Rd w' R A n c i ∧ Kept [] w w'
set_option maxRecDepth 100000 in
set_option maxHeartbeats 1000000 in
theorem read_end (R : Nat) (A D : Option Addr) (n c i m dc : Nat) (v : Value) (w : World) (hR : Rd w R A n c i) (hi : n ≤ i) (hn : i ≤ 9223372036854775807) (hE : Eof w v) :
    Calls Tryd.prog 72 #[.pointer (some ⟨R, 0, none⟩), .slice D m dc] w (ReadEnd w R v A n c i) := by
  obtain ⟨pr, hb⟩ := hR
  have h0 : w.cell? ⟨R, 0, none⟩ = some (.slice A n c) := hb.cell 0 rfl
  have h1 : w.cell? ⟨R, 1, none⟩ = some (.int .i64 i) := hb.cell 1 rfl
  have hv := hE.1
  have hi' : (n : Int) ≤ (i : Int) := by omega
  have HB := hid hb
  clear hb hE
  go_enter Tryd.func72, Tryd.ntmps72
  go_wp2_with fail
  go_quiet (fail)
  go_wp2_with fail
  go_quiet (fail)
  go_wp2_with fail
  go_ret2
  exact ⟨rfl, ⟨pr, HB.out⟩, ((Kept.refl _ _).drewN _).drewN _⟩
set_option maxRecDepth 100000 in
set_option maxHeartbeats 2000000 in
theorem read_some (B R : Nat) (A : Option Addr) (n c i : Nat) (l : List UInt8) (D off m dc k : Nat) (t : TypeId) (cur : List Value) (w : World) (hR : Rd w R A n c i) (hi : i < n) (hn : n ≤ 140737488355328) (hnc : n ≤ c)
    (hl : Bytes w B A n l) (hBR : B ≤ R) (hBD : B ≤ D) (hRD : R ≠ D) (hD : Blk w D t cur.toArray) (hk : k = min (n - i) m) (hfit : off + m ≤ cur.length) :
    Calls Tryd.prog 72 #[.pointer (some ⟨R, 0, none⟩), .slice (some ⟨D, off, none⟩) m dc] w (ReadSome w R D A n c i k t (splice cur off (byteCells ((l.drop i).take k)))) := by
  obtain ⟨pr, hb⟩ := hR
  have h0 : w.cell? ⟨R, 0, none⟩ = some (.slice A n c) := hb.cell 0 rfl
  have h1 : w.cell? ⟨R, 1, none⟩ = some (.int .i64 i) := hb.cell 1 rfl
  have h2 : w.cell? ⟨R, 2, none⟩ = some (.int .i64 pr) := hb.cell 2 rfl
  have h3 : w.frozen? ⟨R, 2, none⟩ = false := hb.frozen 2
  obtain ⟨A', hA, hsl⟩ := slice_from .i64 A n c i (by omega)
  have hi' : (i : Int) < (n : Int) := by omega
  have HB := hid hb
  have HD := hid hD
  have HL := hid hl
  have HN := hid hn
  have HK := hid hk
  have HF := hid hfit
  have HI := hid hi
  have HA := hid hA
  have HC := hid hnc
  clear hb hD hl hn hk hfit hA hnc
  go_enter Tryd.func72, Tryd.ntmps72
  go_wp2_with fail
  go_quiet (fail)
  go_wp2_with fail
  obtain ⟨w1, hw1⟩ : ∃ w1, w1 = (w.drewN nq).setCell ⟨R, 2, none⟩ (.int .i64 (-1)) := ⟨_, rfl⟩
  rw [← hw1]
  have hbR : Blk w1.drew R 116 #[.slice A n c, .int .i64 i, .int .i64 (-1)] := by rw [hw1]; exact Blk.set_ (show Blk (w.drewN nq) R _ _ from HB.out) 2 _
  have hbD : Blk w1.drew D t cur.toArray := by rw [hw1]; exact Blk.far (show Blk (w.drewN nq) D _ _ from HD.out) (fun e => hRD e.symm) _
  have hbL : Bytes w1.drew B A n l := by
    rw [hw1]
    exact ⟨(HL.out.1.drewN nq).setCell (p := ⟨R, 2, none⟩) hBR _, HL.out.2⟩
  have HK1 := hid (show Kept [R] w w1.drew by rw [hw1]; exact (((Kept.refl [R] w).drewN nq).setCell (.inl (by simp)) _).drew)
  have HR := hid hbR
  have HD1 := hid hbD
  have HL1 := hid (HA.out _ _ _ hbL HC.out)
  have HX := hid (And.intro (show w1.drew.cell? ⟨R, 0, none⟩ = some (.slice A n c) from hbR.cell 0 rfl) (show w1.drew.cell? ⟨R, 1, none⟩ = some (.int .i64 i) from hbR.cell 1 rfl))
  have hlen : Hid ((byteCells ((l.drop i).take k)).length = Nat.min (n - i) m) := hid (by have := HL.out.len; simp [byteCells, HK.out, this])
  have hpos : Hid (0 < (byteCells ((l.drop i).take k)).length → some (⟨D, off, none⟩ : Addr) = some ⟨D, off, none⟩ ∧ ∃ ad, A' = some ad ∧ ∀ j v, (byteCells ((l.drop i).take k))[j]? = some v → w1.drew.cell? (ad.add j) = some v) := hid (fun _ => by
    obtain ⟨ad, e, _, hc⟩ := HL1.out.1.2 (by have := HI.out; omega)
    refine ⟨rfl, ad, e, fun j v hj => hc j v ?_⟩
    simp only [byteCells, List.map_take] at hj ⊢
    rw [List.getElem?_take] at hj
    split at hj
    · exact hj
    · cases hj)
  have hkk : (byteCells ((l.drop i).take k)).length = k := by rw [hlen.out, HK.out]
  obtain ⟨cs, hcs⟩ : ∃ cs, cs = byteCells ((l.drop i).take k) := ⟨_, rfl⟩
  have hone : Hid (∀ v ∈ cs, v.oneCell' = true) := hid (by rw [hcs]; exact cells_one _)
  rw [← hcs] at hlen hpos hkk ⊢
  have hsum : (i : Int) + (k : Int) < 140737488355329 := by have := HN.out; have := HK.out; have := HI.out; omega
  have HKK := hid hkk
  clear hw1 hbR hbD hbL h0 h1 h2 h3 hkk
  have HCS := hid hcs
  clear hcs
  go_region_held3 (fun w' => w'.cell? ⟨R, 0, none⟩ = some (.slice A n c) ∧ w'.cell? ⟨R, 1, none⟩ = some (.int .i64 i))
    (exact HX.out)
    ((refine step_copy_kept (by rfl) _ _ _ _ (by rfl) 5 Tryd.underlying26 infoByte _ _ _ _ _ _ (by rfl) (by rfl) D off cur t HD1.out cs hlen.out hpos.out (by have := HF.out; have := hlen.out; have : Nat.min (n - i) m ≤ m := Nat.min_le_right _ _; omega) hone.out ?_; intro w2 HG2 HK2 HZ2; have HX := hid (And.intro ((HK2.out.cell (p := ⟨R, 0, none⟩) HR.out.lt (by simpa using hRD)).trans HX.out.1) ((HK2.out.cell (p := ⟨R, 1, none⟩) HR.out.lt (by simpa using hRD)).trans HX.out.2)); have hz := HKK.out; have hfz : w2.frozen? ⟨R, 1, none⟩ = false := (HK2.out.frozen (p := ⟨R, 1, none⟩) HR.out.lt (by simpa using hRD)).trans (HR.out.frozen 1)))
  all_goals
    go_wp2_with fail
    go_ret2
    refine ⟨rfl, ⟨-1, ?_⟩, ?_, ?_⟩
    · have := Blk.set_ (HR.out.kept HK2.out (by simpa using hRD)) 1 (.int .i64 ((i : Int) + (k : Int)))
      rw [show ((i + k : Nat) : Int) = (i : Int) + (k : Int) by omega]
      exact this
    · have hg := HG2.out
      rw [HCS.out] at hg
      exact Blk.far (p := ⟨R, 1, none⟩) (show Blk w2 D t _ from hg) (fun e => hRD e.symm) _
    · exact ((HK1.out.more (by simp)).trans HK2.out (by simp)).setCell (.inl (by simp)) _
end Go.Proofs.YtdbkafpflicdiaaDoor.rd
