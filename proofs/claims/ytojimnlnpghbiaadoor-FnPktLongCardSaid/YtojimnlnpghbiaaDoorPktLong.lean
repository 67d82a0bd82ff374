/- FnPktLong, walked. -/
import Derived.Test.YtojimnlnpghbiaaDoorPktEncode
import Derived.Lib.AppendZerosOnto
set_option linter.unusedVariables false
attribute [local go_sem ↓] Go.wp_at_zero Go.wp_at_succ
namespace Go.Proofs.YtojimnlnpghbiaaDoor.pkt
open Go.RowKit Lib frm mem rd text

theorem wpList_append_run {P : Program} {w : World} {ops : Array Oper} {rest : List Oper} {o : Oper} {a : Act} {Q : Exit → Act → World → Prop} (hgd : o.guard = none) (s x : Operand) (t tn : TypeId)
    (ho : o.op = .call { callee := .builtin .append, args := #[s, x], argTypes := #[t, tn] }) (v n v' : Value) (w' : World) (hs : a.eval s = v) (hx : a.eval x = n)
    (hrun : (Builtin.append_ #[t, tn] o.type #[v, n]).run P w = .ok v' w') (h : wpList P ops Q rest (a.put o.dst v') w') : wpList P ops Q (o :: rest) a w :=
  wpList_plain hgd fun _ hK => by
    unfold Oper.wp execOp
    simp only [ho, resolve, invoke, builtin, Sem.run_bind, Sem.run_pure, Result.andThen_ok, List.map_toArray, List.map_cons, List.map_nil, hs, hx, hrun]
    exact hK _ _ h
def errCell (w : World) (pl : Addr) : Prop := w.cell? ⟨1, 0, none⟩ = some (.iface 202 (.pointer (some pl)))
def Refused (pl : Addr) (w : World) (e : Ending) (w' : World) : Prop := e = .returned (.iface 202 (.pointer (some pl))) ∧ w' = w
set_option maxRecDepth 100000 in
theorem line_long (ge m d : Nat) (D : Option Addr) (pl : Addr) (w : World) (hm : 65516 < m) (hE : errCell w pl) :
    Calls Tryd.prog 33 #[.pointer (some ⟨ge, 0, none⟩), .slice D m d] w (Refused pl w) := by
  unfold errCell at hE
  have e2 : (65516 : Int) < (m : Int) := by omega
  clear hm
  go_enter Tryd.func33, Tryd.ntmps33
  go_wp2_with fail
  go_ret
  exact ⟨rfl, rfl⟩
set_option maxRecDepth 100000 in
theorem encode_long (ge R m d : Nat) (D : Option Addr) (pl : Addr) (w : World) (hm : 65516 < m) (hE : errCell w pl) (hR : w.cell? ⟨R, 0, none⟩ = some (.slice D m d)) :
    Calls Tryd.prog 22 #[.pointer (some ⟨ge, 0, none⟩), .slice (some ⟨R, 0, none⟩) 1 1] w (Refused pl w) := by
  have c1 := hid (line_long ge m d D pl w hm hE)
  clear hm hE
  go_enter Tryd.func22, Tryd.ntmps22
  go_wp2_with fail
  refine wp_loop_rounds 1 ?_
  rw [rounds_succ]
  go_wp2_with fail
  refine c1.out.mono ?_
  rintro e x1 ⟨rfl, hx⟩
  obtain rfl : w = x1 := hx.symm
  clear hx
  go_wp2_with fail
  go_ret
  exact ⟨rfl, rfl⟩
def NotOk (w : World) (e : Ending) (w' : World) : Prop := Below w.heap.size w w' ∧ ∃ v, e = .returned (.tuple #[v, .bool false])
set_option maxRecDepth 100000 in
set_option maxHeartbeats 2000000 in
theorem write_long (R m d : Nat) (D : Option Addr) (pl : Addr) (w : World) (hm : 65516 < m) (hE : errCell w pl) (hg : 1 < w.heap.size) (hR : w.cell? ⟨R, 0, none⟩ = some (.slice D m d)) (hRl : R < w.heap.size) :
    Calls Tryd.prog 9 #[.slice (some ⟨R, 0, none⟩) 1 1] w (NotOk w) := by
  have c2 := hid (fun ge (w' : World) (h : Below w.heap.size w w') => encode_long ge R m d D pl w' hm ((h.cell (p := ⟨_, 0, none⟩) hg).trans hE) ((h.cell (p := ⟨R, 0, none⟩) hRl).trans hR))
  have hF := hid (fresh_isBuffer 44 5 w)
  have hB := hid ((Below.refl w.heap.size w).alloc (Nat.le_refl _) (.cells #[.slice none 0 0, .int .i64 0, .int .i8 0] 44))
  clear hm hE hg hR hRl
  go_enter Tryd.func9, Tryd.ntmps9
  go_wp2_with fail
  generalize hw1 : w.alloc _ = w1 at *
  refine (newEnc_calls w w1 hF.out hB.out).mono ?_
  rintro e w2 ⟨ge, rfl, hst⟩
  have HS := hid hst
  clear hst
  go_wp2_with fail
  refine (c2.out _ _ HS.out.below).mono ?_
  rintro e w3 ⟨rfl, hx⟩
  obtain rfl : w2 = w3 := hx.symm
  clear hx
  have c3 := hid (fun (w' : World) h => Tryd.Buffer_Bytes w.heap.size w.heap.size [] w' h)
  have HB := hid HS.out.drew.buf
  have HL := hid HS.out.drew.below
  clear c2 HS
  go_wp2_with fail
  go_region_held3 (fun _ => True) (trivial)
    ((go_at_call 23; refine (c3.out _ HB.out).mono ?_; rintro e x4 ⟨v, rfl, ho, hq⟩; have HQ := hid hq; clear ho hq))
  all_goals
    go_wp2_with fail
    go_ret2
    exact ⟨HL.out.trans (below_draws HQ.out), _, rfl⟩
/-- a row of 65516 cells, k of them written -/
def lc (x : UInt8) (k : Nat) : Array Value := (List.replicate k (Value.int .u8 x.toNat) ++ List.replicate (65516 - k) (Value.int .u8 0)).toArray
theorem lc_step (x : UInt8) (k : Nat) (h : k < 65516) : (lc x k).setIfInBounds k (.int .u8 x.toNat) = lc x (k + 1) := by
  unfold lc
  apply Array.ext'
  simp only [Array.toList_setIfInBounds]
  have e1 : 65516 - k = (65516 - (k + 1)) + 1 := by omega
  rw [List.set_append, if_neg (by simp), List.length_replicate, Nat.sub_self, e1, List.replicate_succ (n := 65516 - (k + 1)), List.set_cons_zero, List.replicate_succ' (n := k)]
  simp
theorem lc_at (x : UInt8) (k : Nat) (h : k < 65516) : (lc x k)[k]? = some (.int .u8 0) := by
  unfold lc
  simp only [List.getElem?_toArray]
  rw [List.getElem?_append_right (by simp), List.length_replicate, Nat.sub_self, List.getElem?_replicate, if_pos (by omega)]
theorem lc_end (x : UInt8) (n : Nat) (hn : n = 65516) : lc x n = (Lib.byteCells (List.replicate n x)).toArray := by
  unfold lc Lib.byteCells
  rw [show 65516 - n = 0 by omega, List.replicate_zero, List.append_nil, List.map_replicate]
theorem isErr_rep (x : UInt8) (n : Nat) (h : 4 ≤ n) : isErr (List.replicate n x) = false := by
  unfold isErr
  rw [List.take_replicate, Nat.min_eq_left h]
  by_cases hx : x = 69
  · subst hx; decide
  · simp [List.replicate, hx]
theorem next_ok (k : Nat) (h0 : 0 < k) (h : k ≤ 9) : Builtin.nextslicecap (65516 + k) 65516 * 1 ≤ 281474976710656 := by
  match k, h0, h with
  | 1, _, _ => decide
  | 2, _, _ => decide
  | 3, _, _ => decide
  | 4, _, _ => decide
  | 5, _, _ => decide
  | 6, _, _ => decide
  | 7, _, _ => decide
  | 8, _, _ => decide
  | 9, _, _ => decide
  | k + 10, _, h => omega
end Go.Proofs.YtojimnlnpghbiaaDoor.pkt
