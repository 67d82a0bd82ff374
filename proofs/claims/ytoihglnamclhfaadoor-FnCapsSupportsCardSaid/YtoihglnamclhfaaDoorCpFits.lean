/- laws.zzFits16, zzFits30, zzFits29: what they tell. -/
import Derived.Test.YtoihglnamclhfaaDoorCpData
import Derived.Deep.MidRow
import Derived.Laws.Tables
import Derived.Laws.Rows
import Derived.WalkKit
import Derived.ProofKit
import Derived.Lib.Hide
set_option linter.unusedVariables false
namespace Go.Proofs.YtoihglnamclhfaaDoor.cap
open Go.RowKit Lib mem opn frm text

def Told (w : World) (F : Bool → Prop) (e : Ending) (w' : World) : Prop := Kept [] w w' ∧ ∃ b, e = .returned (.bool b) ∧ F b
def If (F : Prop) (b : Bool) : Prop := b = true → F
def Fits (l : List (List UInt8)) (b : Bool) : Prop := b = true → l.length ≤ 2147483647 ∧ ∀ x ∈ l, x.length ≤ 2147483647
abbrev Kty : TypeId := 48
theorem infoK : (Tryd.prog.info? Kty).map (·.size) = some 2 := by kernel_rfl
theorem all_of {cs : List Value} (h : ∀ v ∈ cs, v.oneCell' = true) : cs.toArray.all (·.oneCell') = true := Array.all_eq_true_iff_forall_mem.2 (fun v hv => h v (by simpa using hv))
theorem ValSl.one {w : World} {B : Nat} {v : Value} {os : List (List UInt8)} (h : ValSl w B v os) : v.oneCell' = true := by obtain ⟨A, c, rfl, _⟩ := h; rfl
theorem cap_all (x : CapD) (h : x.vv.oneCell' = true) : x.cells.toArray.all (·.oneCell') = true := all_of (by intro v hv; simp only [CapD.cells, List.mem_cons, List.not_mem_nil, or_false] at hv; rcases hv with rfl | rfl; rfl; exact h)
theorem cap_sz (x : CapD) : (Tryd.prog.info? Kty).map (·.size) = some x.cells.toArray.size := by rw [infoK]; rfl
theorem wpList_store_kept {P : Program} {ops : Array Oper} {rest : List Oper} {o : Oper} {a : Act} {w : World} {Q : Exit → Act → World → Prop} (hgd : o.guard = none) (ty : TypeId) (x y : Operand) (ho : o.op = .store ty x y)
    (g : Nat) (cells : Array Value) (hx : a.eval x = .pointer (some ⟨g, 0, none⟩)) (hy : a.eval y = .agg cells)
    (t : TypeId) (old : Array Value) (hg : w.heap[g]? = some (.cells old t (0, 0))) (hi : (P.info? ty).map (·.size) = some cells.size)
    (hold : old.size = cells.size) (h1 : cells.all (·.oneCell') = true)
    (h : ∀ w', Hid (Blk w' g t cells) → Hid (Kept [g] w w') → Hid (w'.heap.size = w.heap.size) → wpList P ops Q rest (a.put o.dst undef) w') : wpList P ops Q (o :: rest) a w :=
  wpList_store_row hgd ty x y ho g cells hx hy t old hg hi hold h1 (h _ (hid (setRow_heap w g _ _ t _ hg)) (hid (kept_setRow _)) (hid (by simp [World.setRow])))
theorem blk_range {w : World} {g : Nat} {t : TypeId} {cs : List Value} (h : Blk w g t cs.toArray) : w.rangeAt g 0 cs := fun i u hu => by rw [Nat.zero_add]; exact h.cell i (by simpa using hu)
theorem all_next {α : Type} {l : List α} {F : α → Prop} {k : Nat} {x : α} (h : ∀ y ∈ l.take k, F y) (hx : l[k]? = some x) (hf : F x) : ∀ y ∈ l.take (k + 1), F y := by
  intro y hy
  rw [List.take_add_one, List.mem_append] at hy
  rcases hy with hy | hy
  · exact h y hy
  · rw [hx] at hy; simp at hy; subst hy; exact hf
theorem all_whole {α : Type} {l : List α} {F : α → Prop} {k : Nat} (h : ∀ y ∈ l.take k, F y) (hk : l.length ≤ k) : ∀ y ∈ l, F y := by
  rwa [List.take_of_length_le hk] at h
theorem of_all {α : Type} {F : α → Prop} {xs : List α} {n : Nat} (hn : n = xs.length) (h : ∀ i o, i < n → xs[i]? = some o → F o) : ∀ o ∈ xs, F o := fun o ho => by
  obtain ⟨i, hi, rfl⟩ := List.getElem_of_mem ho
  exact h i _ (by omega) (List.getElem?_eq_getElem hi)
theorem all_snoc {α : Type} {F : α → Prop} {xs : List α} {k : Nat} {x : α} (h : ∀ i o, i < k → xs[i]? = some o → F o) (hx : xs[k]? = some x) (hF : F x) : ∀ i o, i < k + 1 → xs[i]? = some o → F o := fun i o hi ho => by
  by_cases e : i = k
  · subst e; rw [hx] at ho; injection ho with ho; subst ho; exact hF
  · exact h i o (by omega) ho
theorem at_kept {α : Type} {f : α → List Value} {size : Nat} {w w' : World} {B : Nat} {A : Option Addr} {n : Nat} {xs : List α} (h : Structs f size w B A n xs) (hs : ∀ x, (f x).length = size) (hk : Kept [] w w') (hB : B ≤ w.heap.size) {k : Nat} (hkn : k < n) :
    ∃ g o x, A = some ⟨g, o, none⟩ ∧ g < w.heap.size ∧ xs[k]? = some x ∧ x ∈ xs ∧ w'.rangeAt g (o + k * size) (f x) := by
  obtain ⟨g, o, x, h1, h2, h3, h4, h5⟩ := Structs.at_ h (fun x _ => hs x) hkn
  exact ⟨g, o, x, h1, by omega, h3, h4, fun i u hu => (hk.cell (p := ⟨g, o + k * size + i, none⟩) (by show g < _; omega) (by simp)).trans (by rw [Nat.add_assoc]; exact h5 i u hu)⟩
attribute [local go_sem] CapD.cells
set_option maxRecDepth 100000 in
set_option maxHeartbeats 4000000 in
theorem fits16_calls (A : Option Addr) (n c B : Nat) (l : List (List UInt8)) (w : World) (h : Strs w B A n l) :
    Calls Tryd.prog 12 #[.slice A n c] w (Told w (Fits l)) := by
  have HL := hid h.len
  have HS := hid h
  clear h
  by_cases h0 : 2147483647 < n
  · have e0 : (2147483647 : Int) < n := by omega
    go_enter Tryd.func12, Tryd.ntmps12
    go_wp2_with fail
    go_ret
    exact ⟨Kept.refl _ _, false, rfl, nofun⟩
  · have e0 : ¬ (2147483647 : Int) < n := by omega
    go_enter Tryd.func12, Tryd.ntmps12
    go_wp2_with fail
    go_loop [10] (fun iv => ∃ k : Nat, k ≤ n ∧ iv = .int .i64 k ∧ Hid (∀ x ∈ l.take k, x.length ≤ 2147483647)) (fun iv => n - (RowKit.intOf iv).toNat)
    case atStart => exact ⟨0, by omega, rfl, hid (by simp)⟩
    case round =>
      obtain ⟨k, hk, rfl, hh⟩ := hrel
      by_cases hlt : k < n
      · obtain ⟨g, o, x, rfl, hg, hcell, _, hx⟩ := HS.out.next hlt
        have HX := hid hx
        clear hx
        by_cases hx2 : 2147483647 < (ofL x).size
        · have e1 : (2147483647 : Int) < (ofL x).size := by omega
          go_wp2_with fail
          go_ret
          exact ⟨Kept.refl _ _, false, rfl, nofun⟩
        · have e1 : ¬ (2147483647 : Int) < (ofL x).size := by omega
          have hh2 := hid (all_next hh.out HX.out (by rw [ofL_size] at hx2; omega))
          go_wp2_with fail
          go_round
          case rel => exact ⟨k + 1, by omega, by go_num, hh2⟩
          case measure => simp [RowKit.intOf]; omega
      · have hh2 := hid (all_whole hh.out (by rw [HL.out]; omega))
        go_wp2_with fail
        go_ret
        exact ⟨Kept.refl _ _, true, rfl, fun _ => ⟨by rw [HL.out]; omega, hh2.out⟩⟩
set_option maxRecDepth 100000 in
set_option maxHeartbeats 4000000 in
theorem fits30_calls (B : Nat) (x : CapD) (w : World) (h : ValSl w B x.vv x.vals) (hB : B ≤ w.heap.size) (hm : x.name.size ≤ 140737488355328) : Calls Tryd.prog 43 #[.agg x.cells.toArray] w (Told w (If (LimC 2147483647 x))) := by
  obtain ⟨A, c, hv, hc, hs⟩ := h
  have c1 := hid (fun (w' : World) (hk : Kept [] w w') => fits16_calls A x.vals.length c B x.vals w' (hs.below (hk.below hB (by simp))))
  obtain ⟨xn, xv, xo⟩ := x
  simp only at hv
  subst hv
  clear hs
  by_cases h1 : xn.size ≤ 2147483647
  · have h1' : ¬ (2147483647 : Int) < xn.size := by omega
    have H1 := hid h1
    simp only at hc
    obtain ⟨n, hn⟩ : ∃ n, n = xo.length := ⟨_, rfl⟩
    have HN := hid hn
    simp only at c1
    rw [← hn] at c1 ⊢
    clear h1 hm hc hn
    go_enter Tryd.func43, Tryd.ntmps43
    go_wp2_with fail
    refine (c1.out _ (by repeat (first | exact Kept.refl _ _ | refine Kept.alloc ?_ _))).mono ?_
    rintro e w3 ⟨hk3, b, rfl, ht⟩
    have HK3 := hid (((Kept.refl [] w).alloc _).trans_ hk3)
    have HT := hid ht
    clear hk3 c1 ht
    cases b with
    | false =>
      go_wp2_with fail
      go_ret
      exact ⟨HK3.out, _, rfl, nofun⟩
    | true =>
      go_wp2_with fail
      go_ret
      exact ⟨HK3.out, _, rfl, fun _ => ⟨H1.out, HT.out rfl⟩⟩
  · have h1' : (2147483647 : Int) < xn.size := by omega
    clear hm c1
    go_enter Tryd.func43, Tryd.ntmps43
    go_wp2_with fail
    go_ret
    exact ⟨(by repeat (first | exact Kept.refl _ _ | refine Kept.alloc ?_ _ | (refine Kept.setCell ?_ (.inr (by simp)) _))), _, rfl, nofun⟩
set_option maxRecDepth 100000 in
set_option maxHeartbeats 4000000 in
theorem fits29_calls (B : Nat) (v : Value) (xs : List CapD) (w : World) (h : CapSl w B v xs) (hB : B ≤ w.heap.size) (hm : LimN xs) : Calls Tryd.prog 21 #[v] w (Told w (If (LimCs 2147483647 xs))) := by
  obtain ⟨A, c, rfl, -, hF, hS⟩ := h
  have HF := hid hF
  have HS := hid hS
  have HM := hid hm.2
  have HBB := hid hB
  obtain ⟨n, hnn⟩ : ∃ n, n = xs.length := ⟨_, rfl⟩
  have HN := hid hnn
  rw [← hnn] at HF ⊢
  have hn' : (n : Int) ≤ 140737488355328 := by have := hm.1; omega
  clear hF hm hB hnn hS
  by_cases hbig : n ≤ 2147483647
  · have hb : ¬ (2147483647 : Int) < (n : Int) := by omega
    go_enter Tryd.func21, Tryd.ntmps21
    go_wp2_with fail
    go_loopw [10] (fun iv wr => ∃ k : Nat, k ≤ n ∧ iv = .int .i64 k ∧ Hid (Kept [] w wr) ∧ Hid (∀ i o, i < k → xs[i]? = some o → LimC 2147483647 o)) (fun iv _ => n - (RowKit.intOf iv).toNat)
    case atStart => exact ⟨0, by omega, rfl, hid (Kept.refl _ _), hid (fun i o h => absurd h (by omega))⟩
    case round =>
      obtain ⟨k, hk, rfl, hK, hP⟩ := hrel
      by_cases hlt : k < n
      · obtain ⟨g, o, x, rfl, hg, hxk, hmem, hR⟩ := at_kept HF.out CapD.len hK.out HBB.out hlt
        have HR := hid hR
        have HX := hid hxk
        have hlt' : (k : Int) < n := by omega
        have c1 := hid (fun (w' : World) (hk : Kept [] w w') => fits30_calls B x w' ((HS.out x hmem).below (hk.below HBB.out (by simp))) (Nat.le_trans HBB.out hk.size) (HM.out x hmem))
        have hmem0 := hid hmem
        clear hR hxk hg hmem
        have HO := hid (HS.out x hmem0.out).one
        go_wp2_with (first
          | (refine wpList_load_mid rfl Kty (.tmp 12) rfl g (o + k * 2) rfl x.cells _ HR.out Tryd.underlying48 rfl infoK ?_)
          | (refine wpList_store_kept rfl Kty (.tmp 4) (.tmp 13) rfl wr.heap.size x.cells.toArray rfl rfl Kty _ (Blk.new wr Kty _) (cap_sz x) rfl (cap_all x HO.out) ?_; intro w2 h1 h2 h3; have HR2 := hid (blk_range h1.out); have HK2 := hid ((hK.out.alloc _).trans h2.out (by simp; exact hK.out.size)); clear h1 h2 h3)
          | (refine wpList_load_mid rfl Kty (.tmp 4) rfl wr.heap.size 0 rfl x.cells _ HR2.out Tryd.underlying48 rfl infoK ?_)
          | fail)
        refine (c1.out _ HK2.out).mono ?_
        rintro e w3 ⟨hk3, b, rfl, ht⟩
        have HK3 := hid (HK2.out.trans_ hk3)
        have HT := hid ht
        clear hk3 ht c1
        cases b with
        | false =>
          go_wp2_with fail
          go_ret
          exact ⟨HK3.out, _, rfl, nofun⟩
        | true =>
          have HP2 := hid (all_snoc hP.out HX.out (HT.out rfl))
          go_wp2_with fail
          go_roundw
          case rel => exact ⟨k + 1, by omega, by go_num, HK3, HP2⟩
          case measure => simp [RowKit.intOf]; omega
      · have hlt' : ¬ (k : Int) < n := by omega
        obtain rfl : k = n := by omega
        go_wp2_with fail
        go_ret
        exact ⟨hK.out, _, rfl, fun _ => ⟨by have := HN.out; omega, of_all HN.out hP.out⟩⟩
  · have hb : (2147483647 : Int) < (n : Int) := by omega
    go_enter Tryd.func21, Tryd.ntmps21
    go_wp2_with fail
    go_ret
    exact ⟨(by repeat (first | exact Kept.refl _ _ | refine Kept.alloc ?_ _ | (refine Kept.setCell ?_ (.inr (by simp)) _))), _, rfl, nofun⟩
end Go.Proofs.YtoihglnamclhfaaDoor.cap
