/- Stamps and times: impl.timeOf, zztime.Unix, impl.stampOf. -/
import Derived.Test.YtnidjkmfnojlaaaDoorIdxSpec
set_option linter.unusedVariables false
attribute [local go_sem ↓] Go.wp_at_zero Go.wp_at_succ
namespace Go.Proofs.YtnidjkmfnojlaaaDoor.idx
open Go.RowKit Lib frm mem opn hash strs

/-- A store of a whole struct as a step of a region that draws (go_region_held3's third argument). -/
theorem step_store_kept {P : Program} {ops : Array Oper} {o : Oper} {a : Act} {w : World} {K : Act → World → Prop} {Q : Exit → Act → World → Prop} {E : Prop} (hgd : o.guard = none) (ty : TypeId) (x y : Operand) (ho : o.op = .store ty x y)
    (g : Nat) (cells : Array Value) (hx : a.eval x = .pointer (some ⟨g, 0, none⟩)) (hy : a.eval y = .agg cells)
    (t : TypeId) (old : Array Value) (hg : w.heap[g]? = some (.cells old t (0, 0))) (hi : (P.info? ty).map (·.size) = some cells.size)
    (hold : old.size = cells.size) (h1 : cells.all (·.oneCell') = true)
    (h : ∀ w', Hid (Blk w' g t cells) → Hid (Kept [g] w w') → Hid (w'.heap.size = w.heap.size) → K (a.put o.dst undef) w') :
    if Region.wanted o (yielded ops a.tmps) = true then Oper.wp P o a w K Q else E := by
  have hw : Region.wanted o (yielded ops a.tmps) = true := by simp [Region.wanted, hgd]
  rw [if_pos hw]
  exact wp_store_row ty x y ho g cells hx hy t old hg hi hold h1 (h _ (hid (setRow_heap w g _ _ t _ hg)) (hid (kept_setRow _)) (hid (by simp [World.setRow])))
def timeV (s n : Int) : Value := .agg #[.int .i64 (s + 62135596800), .int .i64 n, .int .i64 0]
def Gives (v : Value) (w : World) (e : Ending) (w' : World) : Prop := e = .returned v ∧ Kept [] w w'
set_option maxRecDepth 100000 in
set_option maxHeartbeats 4000000 in
theorem unix_calls (s n : Int) (w : World) (h1 : 1 ≤ s) (h2 : s < 4294967296) (h3 : 0 ≤ n) (h4 : n < 1000000000) :
    Calls Tryd.prog 40 #[.int .i64 s, .int .i64 n] w (Gives (timeV s n) w) := by
  have q : n / 1000000000 = 0 := by omega
  have r : n % 1000000000 = n := by omega
  go_enter Tryd.func40, Tryd.ntmps40
  go_wp2_with fail
  refine bodyPost_ret (v := timeV s n) (by simp [results, Tryd.results40, go_sem, timeV]) rfl ?_
  exact ⟨rfl, by repeat (first | exact Kept.refl _ _ | refine Kept.alloc ?_ _ | (refine Kept.setCell ?_ (.inr (by simp)) _))⟩
set_option maxRecDepth 100000 in
set_option maxHeartbeats 4000000 in
theorem timeOf_calls (s n : Int) (w : World) (h1 : 1 ≤ s) (h2 : s < 4294967296) (h3 : 0 ≤ n) (h4 : n < 1000000000) :
    Calls Tryd.prog 29 #[.agg #[.int .i64 s, .int .i64 n]] w (Gives (timeV s n) w) := by
  have e0 : (s == 0) = false := by rw [beq_eq_false_iff_ne]; omega
  have c1 := hid (fun w => unix_calls s n w h1 h2 h3 h4)
  go_enter Tryd.func29, Tryd.ntmps29
  go_wp2_with fail
  refine (c1.out _).mono ?_
  rintro e w1 ⟨rfl, hk⟩
  have HB := hid ((Blk.new (w.alloc (.cells #[.int .i64 s, .int .i64 n] 26)) 63 #[.int .i64 0, .int .i64 0, .int .i64 0]).kept hk (by simp))
  have HK := hid ((((Kept.refl [] w).alloc _).alloc _).trans_ hk)
  clear hk
  have b0 : w1.cell? ⟨w.heap.size + 1, 0, none⟩ = some (.int .i64 0) := by have := HB.out.cell 0 rfl; simpa using this
  have b1 : w1.cell? ⟨w.heap.size + 1, 1, none⟩ = some (.int .i64 0) := by have := HB.out.cell 1 rfl; simpa using this
  have b2 : w1.cell? ⟨w.heap.size + 1, 2, none⟩ = some (.int .i64 0) := by have := HB.out.cell 2 rfl; simpa using this
  have HB' : Hid (Blk w1 (w.heap.size + 1) 63 #[.int .i64 0, .int .i64 0, .int .i64 0]) := hid (by have := HB.out; simpa using this)
  have z0 := HB'.out.frozen 0
  have z1 := HB'.out.frozen 1
  have z2 := HB'.out.frozen 2
  unfold timeV
  go_wp2_with fail
  refine bodyPost_ret (v := timeV s n) (by simp [results, Tryd.results29, go_sem, timeV, b0, b1, b2]) rfl ?_
  exact ⟨rfl, by repeat (first | exact HK.out | (refine Kept.setCell ?_ (.inr (by simp)) _))⟩
theorem zero_calls (s n : Int) (w : World) (h1 : 1 ≤ s) (h2 : s < 4294967296) :
    Calls Tryd.prog 42 #[timeV s n] w (Gives (.bool false) w) := by
  have e0 : (s + 62135596800 == 0) = false := by rw [beq_eq_false_iff_ne]; omega
  go_enter Tryd.func42, Tryd.ntmps42
  unfold timeV
  go_wp2_with fail
  go_ret
  exact ⟨rfl, (Kept.refl [] _).alloc _⟩
theorem sec_calls (s n : Int) (w : World) (h1 : 1 ≤ s) (h2 : s < 4294967296) :
    Calls Tryd.prog 43 #[timeV s n] w (Gives (.int .i64 s) w) := by
  have e1 : IntKind.i64.wrap (s + 62135596800 - 62135596800) = s := by rw [IntWalk.i64_in _ (by omega)]; omega
  go_enter Tryd.func43, Tryd.ntmps43
  unfold timeV
  go_wp2_with fail
  go_ret
  exact ⟨rfl, (Kept.refl [] _).alloc _⟩
theorem nano_calls (s n : Int) (w : World) (h3 : 0 ≤ n) (h4 : n < 1000000000) :
    Calls Tryd.prog 44 #[timeV s n] w (Gives (.int .i64 n) w) := by
  go_enter Tryd.func44, Tryd.ntmps44
  unfold timeV
  go_wp2_with fail
  go_ret
  exact ⟨rfl, (Kept.refl [] _).alloc _⟩
set_option maxRecDepth 100000 in
set_option maxHeartbeats 4000000 in
theorem stampOf_calls (s n : Int) (w : World) (h1 : 1 ≤ s) (h2 : s < 4294967296) (h3 : 0 ≤ n) (h4 : n < 1000000000) :
    Calls Tryd.prog 31 #[timeV s n] w (Gives (.agg #[.int .i64 s, .int .i64 n]) w) := by
  have c0 := hid (fun w => zero_calls s n w h1 h2)
  have c1 := hid (fun w => sec_calls s n w h1 h2)
  have c2 := hid (fun w => nano_calls s n w h3 h4)
  go_enter Tryd.func31, Tryd.ntmps31
  unfold timeV
  go_wp2_with fail
  refine (c0.out _).mono ?_
  rintro e w1 ⟨rfl, hk⟩
  have HB1 := hid (((Blk.new w 63 #[.int .i64 (s + 62135596800), .int .i64 n, .int .i64 0]).kept ((Kept.refl [] _).alloc _) (by simp)).kept hk (by simp))
  have HB2 := hid ((Blk.new (w.alloc (.cells #[.int .i64 (s + 62135596800), .int .i64 n, .int .i64 0] 63)) 26 #[.int .i64 0, .int .i64 0]).kept hk (by simp))
  have HK := hid ((((Kept.refl [] w).alloc _).alloc _).trans_ hk)
  clear hk
  have F : ∀ w', Kept [] w1 w' → Hid (w'.cell? ⟨w.heap.size, 0, none⟩ = some (.int .i64 (s + 62135596800)) ∧ w'.cell? ⟨w.heap.size, 1, none⟩ = some (.int .i64 n) ∧ w'.cell? ⟨w.heap.size, 2, none⟩ = some (.int .i64 0)) := fun w' h =>
    hid ⟨(HB1.out.kept h (by simp)).cell 0 rfl, (HB1.out.kept h (by simp)).cell 1 rfl, (HB1.out.kept h (by simp)).cell 2 rfl⟩
  have HF := hid F
  have HB2' : Hid (Blk w1 (w.heap.size + 1) 26 #[.int .i64 0, .int .i64 0]) := hid (by have := HB2.out; simpa using this)
  obtain ⟨f0, f1, f2⟩ := (F w1 (Kept.refl _ _)).out
  clear F
  unfold timeV at c0 c1 c2
  go_wp2_with fail
  go_region_held3 (fun w' => w'.cell? ⟨w.heap.size, 0, none⟩ = some (.int .i64 (s + 62135596800)) ∧ w'.cell? ⟨w.heap.size, 1, none⟩ = some (.int .i64 n) ∧ w'.cell? ⟨w.heap.size, 2, none⟩ = some (.int .i64 0))
    (first | go_keep | exact (HF.out _ ((Kept.refl [] w1).drew)).out | exact (HF.out _ HK3.out).out | exact (HF.out _ HK2.out).out)
    (first
      | (go_at_call 43; refine (c1.out _).mono ?_; rintro e w2 ⟨rfl, hk2⟩; have HK2 := hid (((Kept.refl [] w1).drew).trans_ hk2); clear hk2)
      | (go_at_call 44; refine (c2.out _).mono ?_; rintro e w3 ⟨rfl, hk3⟩; have HK3 := hid (HK2.out.trans_ hk3); have HB3 := hid (HB2'.out.kept HK3.out (by simp)); have b0 : w3.cell? ⟨w.heap.size + 1, 0, none⟩ = some (.int .i64 0) := HB3.out.cell 0 rfl; have b1 : w3.cell? ⟨w.heap.size + 1, 1, none⟩ = some (.int .i64 0) := HB3.out.cell 1 rfl; have z0 := HB3.out.frozen 0; have z1 := HB3.out.frozen 1; clear hk3))
  go_wp2_with fail
  refine bodyPost_ret (v := .agg #[.int .i64 s, .int .i64 n]) (by simp [results, Tryd.results31, go_sem, b0, b1]) rfl ?_
  exact ⟨rfl, by repeat (first | exact HK.out.trans_ HK3.out | (refine Kept.setCell ?_ (.inr (by simp)) _))⟩
end Go.Proofs.YtnidjkmfnojlaaaDoor.idx
