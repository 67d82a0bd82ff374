/- spec.goodCap, spec.GoodCaps: what they tell. -/
import Derived.Test.YtoihglnamclhfaaDoorCpWord
set_option linter.unusedVariables false
namespace Go.Proofs.YtoihglnamclhfaaDoor.cap
open Go.RowKit Lib mem opn frm text

attribute [local go_sem] CapD.cells
set_option maxRecDepth 100000 in
set_option maxHeartbeats 4000000 in
theorem plainCaps_calls (w : World) : Calls Tryd.prog 64 #[] w fun e w' => Kept [] w w' ∧ ∃ A, e = .returned (.slice A 16 16) ∧ Strs w' w'.heap.size A 16 plainN := by
  go_enter Tryd.func64, Tryd.ntmps64
  go_wp2_with fail
  go_ret
  refine ⟨(Kept.refl [] w).alloc _, _, rfl, ⟨⟨rfl, fun _ => ⟨_, rfl, by simp, fun j u hu => ?_⟩⟩, fun _ => ⟨_, _, rfl⟩⟩⟩
  rw [Lib.addr_add, Nat.zero_add, Lib.cell_of_heap (heap_alloc_new w _) j, ← hu]
  have e : strCells plainN = [.string ⟨#[109, 117, 108, 116, 105, 95, 97, 99, 107]⟩, .string ⟨#[109, 117, 108, 116, 105, 95, 97, 99, 107, 95, 100, 101, 116, 97, 105, 108, 101, 100]⟩, .string ⟨#[110, 111, 45, 100, 111, 110, 101]⟩, .string ⟨#[116, 104, 105, 110, 45, 112, 97, 99, 107]⟩, .string ⟨#[115, 105, 100, 101, 45, 98, 97, 110, 100]⟩, .string ⟨#[115, 105, 100, 101, 45, 98, 97, 110, 100, 45, 54, 52, 107]⟩, .string ⟨#[111, 102, 115, 45, 100, 101, 108, 116, 97]⟩, .string ⟨#[115, 104, 97, 108, 108, 111, 119]⟩, .string ⟨#[110, 111, 45, 112, 114, 111, 103, 114, 101, 115, 115]⟩, .string ⟨#[105, 110, 99, 108, 117, 100, 101, 45, 116, 97, 103]⟩, .string ⟨#[114, 101, 112, 111, 114, 116, 45, 115, 116, 97, 116, 117, 115]⟩, .string ⟨#[100, 101, 108, 101, 116, 101, 45, 114, 101, 102, 115]⟩, .string ⟨#[113, 117, 105, 101, 116]⟩, .string ⟨#[97, 116, 111, 109, 105, 99]⟩, .string ⟨#[97, 108, 108, 111, 119, 45, 116, 105, 112, 45, 115, 104, 97, 49, 45, 105, 110, 45, 119, 97, 110, 116]⟩, .string ⟨#[97, 108, 108, 111, 119, 45, 114, 101, 97, 99, 104, 97, 98, 108, 101, 45, 115, 104, 97, 49, 45, 105, 110, 45, 119, 97, 110, 116]⟩] := rfl
  rw [e]
  simp
theorem name_is {s : ByteArray} {l : List UInt8} (h : (s.toList == l) = true) : s.data.toList = l := by rw [← ByteArray.toList_eq]; exact eq_of_beq h
theorem name_is' {s : ByteArray} {l : List UInt8} (h : (s.toList == (ofL l).toList) = true) : s.data.toList = l := by have := name_is h; rw [this, ByteArray.toList_eq]; rfl
theorem data_is {s : ByteArray} {l : List UInt8} (h : s = ofL l) : s.data.toList = l := by rw [h]; rfl
set_option maxRecDepth 100000 in
set_option maxHeartbeats 4000000 in
theorem goodCap_calls (B : Nat) (x : CapD) (w : World) (h : ValSl w B x.vv x.vals) (hB : B ≤ w.heap.size) (hm : LimC 2147483647 x) : Calls Tryd.prog 44 #[.agg x.cells.toArray] w (Told w (If (GoodC (capOf x)))) := by
  obtain ⟨A, c, hv, hc, hs⟩ := h
  obtain ⟨xn, xv, l⟩ := x
  simp only at hv hs hc
  subst hv
  obtain ⟨n, hn⟩ : ∃ n, n = l.length := ⟨_, rfl⟩
  rw [← hn] at hs ⊢
  have hn' : (n : Int) ≤ 2147483647 := by have := hm.2.1; simp only at this; omega
  have HN := hid hn
  have HM := hid hm
  obtain ⟨w1, hw1⟩ : ∃ w1, w1 = w.alloc (.cells #[.string xn, .slice A n c] Kty) := ⟨_, rfl⟩
  have hK1 : Kept [] w w1 := by rw [hw1]; exact (Kept.refl [] w).alloc _
  have HB1 : Hid (Blk w1 w.heap.size Kty #[.string xn, .slice A n c]) := hid (by rw [hw1]; exact Blk.new w Kty _)
  have HS := hid (hs.below (hK1.below hB (by simp)))
  have HK1 := hid hK1
  have HW := hid hw1
  have q0 : w1.cell? ⟨w.heap.size, 0, none⟩ = some (.string xn) := HB1.out.cell 0 rfl
  have q1 : w1.cell? ⟨w.heap.size, 1, none⟩ = some (.slice A n c) := HB1.out.cell 1 rfl
  clear hm hn hs hB hK1 hw1 hc
  show Calls Tryd.prog 44 #[.agg #[.string xn, .slice A n c]] w _
  go_enter Tryd.func44, Tryd.ntmps44
  go_wp2_with fail
  rw [← HW.out]
  go_loop [10] (fun iv => ∃ k : Nat, k ≤ n ∧ iv = .int .i64 k ∧ Hid (∀ x ∈ l.take k, Word x)) (fun iv => n - (RowKit.intOf iv).toNat)
  case atStart => exact ⟨0, by omega, rfl, hid (by simp)⟩
  case round =>
    obtain ⟨k, hk, rfl, hh⟩ := hrel
    by_cases hlt : k < n
    · obtain ⟨g, o, x, rfl, hg, hcell, _, hx⟩ := HS.out.next hlt
      have HX := hid hx
      have c1 := hid (isWord_calls (ofL x) w1 (by have := HM.out.2.2 x (List.mem_of_getElem? hx); rw [ofL_size]; omega))
      clear hx hg
      go_wp2_with fail
      refine c1.out.mono ?_
      rintro e w' ⟨rfl, b, rfl, hb⟩
      have HB := hid hb
      clear hb c1
      cases b with
      | false =>
        go_wp2_with fail
        go_ret
        exact ⟨HK1.out, false, rfl, nofun⟩
      | true =>
        have hh2 := hid (all_next hh.out HX.out (HB.out rfl))
        go_wp2_with fail
        go_round
        case rel => exact ⟨k + 1, by omega, by go_num, hh2⟩
        case measure => simp [RowKit.intOf]; omega
    · have HA := hid (all_whole hh.out (by rw [← HN.out]; omega))
      have hnl : ¬ (k : Int) < n := by omega
      clear hh
      have HG : Hid (∀ b : Bool, (b = true → xn.data.toList = agentN ∧ l.length = 1 ∨ xn.data.toList = symrefN ∧ 1 ≤ l.length ∧ l.length ≤ 60 ∨ xn.data.toList ∈ plainN ∧ l = []) → If (GoodC (capOf ⟨xn, .slice A n c, l⟩)) b) := hid (fun b hb he => ⟨HA.out, hb he⟩)
      clear HA
      by_cases hA : (xn.toList == [97, 103, 101, 110, 116]) = true
      · have HE := hid (name_is hA)
        go_wp2_with fail
        go_ret
        exact ⟨HK1.out, _, rfl, HG.out _ fun h => .inl ⟨HE.out, by have h1 := eq_of_beq h; have := HN.out; omega⟩⟩
      · have hA' : (xn.toList == [97, 103, 101, 110, 116]) = false := by simpa using hA
        clear hA
        by_cases hR : (xn.toList == [115, 121, 109, 114, 101, 102]) = true
        · have HE := hid (name_is hR)
          by_cases h1 : 1 ≤ n
          · have e1 : (1 : Int) ≤ n := by omega
            go_wp2_with fail
            go_ret
            exact ⟨HK1.out, _, rfl, HG.out _ fun h => .inr (.inl ⟨HE.out, by have h1 := of_decide_eq_true h; have := HN.out; omega⟩)⟩
          · have e1 : ¬ (1 : Int) ≤ n := by omega
            go_wp2_with fail
            go_ret
            exact ⟨HK1.out, _, rfl, nofun⟩
        · have hR' : (xn.toList == [115, 121, 109, 114, 101, 102]) = false := by simpa using hR
          clear hR
          go_wp2_with fail
          refine (plainCaps_calls w1).mono ?_
          rintro e w2 ⟨hk2, A2, rfl, hs2⟩
          have HK2 := hid (HK1.out.trans_ hk2)
          have HS2 := hid hs2
          have HB2 := hid (HB1.out.kept hk2 (by simp))
          have p0 : w2.cell? ⟨w.heap.size, 0, none⟩ = some (.string xn) := HB2.out.cell 0 rfl
          have p1 : w2.cell? ⟨w.heap.size, 1, none⟩ = some (.slice A n c) := HB2.out.cell 1 rfl
          clear hs2 hk2 q0 q1 HS HB1 hnl hlt hk HW
          clear hn'
          go_wp2_with fail
          go_loop [40] (fun iv => ∃ k : Nat, k ≤ 16 ∧ iv = .int .i64 k) (fun iv => 16 - (RowKit.intOf iv).toNat)
          case atStart => exact ⟨0, by omega, rfl⟩
          case round =>
            obtain ⟨j, hj, rfl⟩ := hrel
            by_cases hlt : j < 16
            · obtain ⟨g, o, x, rfl, hg, hcell, _, hx⟩ := HS2.out.next hlt
              have HX := hid (List.mem_of_getElem? hx)
              have hlt' : (j : Int) < 16 := by omega
              clear hx hg
              by_cases hb : (xn.toList == (ofL x).toList) = true
              · have HE := hid (name_is' hb)
                go_wp2_with fail
                go_ret
                exact ⟨HK2.out, _, rfl, HG.out _ fun h => .inr (.inr ⟨by rw [HE.out]; exact HX.out, by have h1 := eq_of_beq h; have := HN.out; exact List.eq_nil_of_length_eq_zero (by omega)⟩)⟩
              · have hb' : (xn.toList == (ofL x).toList) = false := by simpa using hb
                clear hb
                go_wp2_with fail
                go_round
                case rel => exact ⟨j + 1, by omega, by go_num⟩
                case measure => simp [RowKit.intOf]; omega
            · have hnl : ¬ (j : Int) < 16 := by omega
              go_wp2_with fail
              go_ret
              exact ⟨HK2.out, _, rfl, nofun⟩
/-- no name stands twice among the first k -/
def Apart (xs : List CapD) (k : Nat) : Prop := ∀ i o, i < k → xs[i]? = some o → ∀ j u, j < i → xs[j]? = some u → u.name ≠ o.name
theorem Apart.step {xs : List CapD} {k : Nat} {x : CapD} (h : Apart xs k) (hx : xs[k]? = some x) (hj : ∀ j u, j < k → xs[j]? = some u → u.name ≠ x.name) : Apart xs (k + 1) := fun i o hi ho j u hju hu => by
  by_cases e : i = k
  · subst e; rw [hx] at ho; injection ho with ho; subst ho; exact hj j u hju hu
  · exact h i o (by omega) ho j u hju hu
theorem name_inj {a b : ByteArray} (h : a.data.toList = b.data.toList) : a = b := by
  cases a with | mk a => cases b with | mk b => cases a; cases b; simp_all
theorem good_of {xs : List CapD} {n : Nat} (hn : n = xs.length) (h60 : n ≤ 60) (hP : ∀ i o, i < n → xs[i]? = some o → GoodC (capOf o)) (hA : Apart xs n) : GoodL (xs.map capOf) := by
  refine ⟨fun c hc => ?_, ?_, by simp; omega⟩
  · obtain ⟨o, ho, rfl⟩ := List.mem_map.1 hc
    exact of_all hn hP o ho
  · rw [List.map_map]
    unfold List.Nodup
    rw [List.pairwise_map, List.pairwise_iff_getElem]
    intro j i hj hi hji e
    exact hA i xs[i] (by omega) (List.getElem?_eq_getElem hi) j xs[j] hji (List.getElem?_eq_getElem hj) (name_inj e)
attribute [local go_sem] CapD.cells
set_option maxRecDepth 100000 in
set_option maxHeartbeats 8000000 in
theorem goodCaps_calls (B : Nat) (v : Value) (xs : List CapD) (w : World) (h : CapSl w B v xs) (hB : B ≤ w.heap.size) (hm : LimCs 2147483647 xs) :
    Calls Tryd.prog 22 #[v] w (Told w (If (GoodL (xs.map capOf)))) := by
  obtain ⟨A, c, rfl, hcap, hF, hS⟩ := h
  have HF := hid hF
  have HS := hid hS
  have HM := hid hm.2
  have hn' : (xs.length : Int) ≤ 2147483647 := by have := hm.1; omega
  have hcap' : (xs.length : Int) ≤ c := by omega
  have HBB := hid hB
  obtain ⟨n, hnn⟩ : ∃ n, n = xs.length := ⟨_, rfl⟩
  have HNN := hid hnn
  rw [← hnn] at HF hn' hcap' ⊢
  clear hF hB hnn hm hS hcap
  go_enter Tryd.func22, Tryd.ntmps22
  go_wp2_with fail
  go_loopw [9] (fun iv wr => ∃ k : Nat, k ≤ n ∧ iv = .int .i64 k ∧ Hid (Kept [] w wr) ∧ Hid (∀ i s, i < k → xs[i]? = some s → GoodC (capOf s)) ∧ Hid (Apart xs k)) (fun iv _ => n - (RowKit.intOf iv).toNat)
  case atStart => exact ⟨0, by omega, rfl, hid (Kept.refl _ _), hid (fun i o h => absurd h (by omega)), hid (fun i o h => absurd h (by omega))⟩
  case round =>
    obtain ⟨k, hk, rfl, hK, hP, hAp⟩ := hrel
    obtain ⟨wo, rfl⟩ : ∃ wo, wo = wr := ⟨_, rfl⟩
    by_cases hlt : k < n
    · obtain ⟨g, o, x, rfl, hg, hxk, hmem, hR⟩ := at_kept HF.out CapD.len hK.out HBB.out hlt
      have HR := hid hR
      have HOne := hid (ValSl.one (HS.out x hmem))
      have c1 := hid (fun w' (hk : Kept [] w w') => goodCap_calls B x w' ((HS.out x hmem).below (hk.below HBB.out (by simp))) (Nat.le_trans HBB.out hk.size) (HM.out x hmem))
      have HXK := hid hxk
      have hlt' : (k : Int) < n := by omega
      have hkc : (k : Int) ≤ c := by omega
      clear hR hxk hg hmem
      go_wp2_with (first
        | (refine wpList_load_mid rfl Kty (.tmp 12) rfl g (o + k * 2) rfl x.cells _ HR.out Tryd.underlying48 rfl infoK ?_)
        | (refine wpList_store_kept rfl Kty (.tmp 4) (.tmp 13) rfl wo.heap.size x.cells.toArray rfl rfl Kty _ (Blk.new wo Kty _) (cap_sz x) rfl (cap_all x HOne.out) ?_; intro w2 h1 h2 h3; have HB2 : Hid (Blk w2 wo.heap.size Kty x.cells.toArray) := hid h1.out; have HR2 := hid (blk_range h1.out); have HK2 := hid ((hK.out.alloc _).trans h2.out (by simp; exact hK.out.size)); clear h1 h2 h3)
        | (refine wpList_load_mid rfl Kty (.tmp 4) rfl wo.heap.size 0 rfl x.cells _ HR2.out Tryd.underlying48 rfl infoK ?_)
        | fail)
      refine (c1.out _ HK2.out).mono ?_
      rintro e w3 ⟨hk3, b, rfl, hb⟩
      have HK3 := hid (HK2.out.trans_ hk3)
      have HB3 := hid (HB2.out.kept hk3 (by simp))
      clear hk3 HR2
      cases b with
      | false =>
        clear hb
        go_wp2_with fail
        go_ret
        exact ⟨HK3.out, _, rfl, nofun⟩
      | true =>
        have HO := hid (hb rfl)
        clear hb
        go_wp2_with fail
        go_loopw [21] (fun iv wr => ∃ j : Nat, j ≤ k ∧ iv = .int .i64 j ∧ Hid (Kept [] w wr) ∧ Hid (Blk wr wo.heap.size Kty x.cells.toArray) ∧ Hid (∀ i u, i < j → xs[i]? = some u → u.name ≠ x.name)) (fun iv _ => k - (RowKit.intOf iv).toNat)
        case atStart => exact ⟨0, by omega, rfl, HK3, HB3, hid (fun i o h => absurd h (by omega))⟩
        case round =>
          obtain ⟨j, hj, rfl, hK4, hB4, hN⟩ := hrel
          obtain ⟨wp, rfl⟩ : ∃ wp, wp = wr := ⟨_, rfl⟩
          by_cases hjk : j < k
          · obtain ⟨g', o', y, hA', hg', hyk, -, hR'⟩ := at_kept HF.out CapD.len hK4.out HBB.out (k := j) (by omega)
            cases hA'
            have HR' := hid hR'
            have hyk' : y ∈ xs := List.mem_of_getElem? hyk
            have HOy := hid (ValSl.one (HS.out y hyk'))
            have HYK := hid hyk
            have hjk' : (j : Int) < k := by omega
            clear hR' hyk hg' hyk'
            by_cases hb : (y.name.toList == x.name.toList) = true
            · go_wp2_with (first
                | (refine wpList_load_mid rfl Kty (.tmp 23) rfl g (o + j * 2) rfl y.cells _ HR'.out Tryd.underlying48 rfl infoK ?_)
                | (refine wpList_store_kept rfl Kty (.tmp 6) (.tmp 24) rfl wp.heap.size y.cells.toArray rfl rfl Kty _ (Blk.new wp Kty _) (cap_sz y) rfl (cap_all y HOy.out) ?_; intro w5 h1 h2 h3; have q6 : w5.cell? ⟨wp.heap.size, 0, none⟩ = some (.string y.name) := h1.out.cell 0 rfl; have HB5 : Hid (Blk w5 wo.heap.size Kty x.cells.toArray) := hid ((hB4.out.alloc _).kept h2.out (by have := hB4.out.lt; simp; omega)); have q4 : w5.cell? ⟨wo.heap.size, 0, none⟩ = some (.string x.name) := HB5.out.cell 0 rfl; have HK5 := hid ((hK4.out.alloc _).trans h2.out (by simp; exact hK4.out.size)); clear h1 h2 h3)
                | fail)
              go_ret
              exact ⟨HK5.out, _, rfl, nofun⟩
            · have hb' : (y.name.toList == x.name.toList) = false := by simpa using hb
              have HN2 := hid (show ∀ i u, i < j + 1 → xs[i]? = some u → u.name ≠ x.name from fun i u hi hu => by
                by_cases e : i = j
                · subst e
                  rw [HYK.out] at hu
                  injection hu with hu
                  subst hu
                  intro e
                  rw [e] at hb'
                  simp at hb'
                · exact hN.out i u (by omega) hu)
              clear hb
              go_wp2_with (first
                | (refine wpList_load_mid rfl Kty (.tmp 23) rfl g (o + j * 2) rfl y.cells _ HR'.out Tryd.underlying48 rfl infoK ?_)
                | (refine wpList_store_kept rfl Kty (.tmp 6) (.tmp 24) rfl wp.heap.size y.cells.toArray rfl rfl Kty _ (Blk.new wp Kty _) (cap_sz y) rfl (cap_all y HOy.out) ?_; intro w5 h1 h2 h3; have q6 : w5.cell? ⟨wp.heap.size, 0, none⟩ = some (.string y.name) := h1.out.cell 0 rfl; have HB5 : Hid (Blk w5 wo.heap.size Kty x.cells.toArray) := hid ((hB4.out.alloc _).kept h2.out (by have := hB4.out.lt; simp; omega)); have q4 : w5.cell? ⟨wo.heap.size, 0, none⟩ = some (.string x.name) := HB5.out.cell 0 rfl; have HK5 := hid ((hK4.out.alloc _).trans h2.out (by simp; exact hK4.out.size)); clear h1 h2 h3)
                | fail)
              go_roundw
              case rel => exact ⟨j + 1, by omega, by go_num, HK5, HB5, HN2⟩
              case measure => simp [RowKit.intOf]; omega
          · have hjk' : ¬ (j : Int) < k := by omega
            obtain rfl : j = k := by omega
            have HP2 := hid (all_snoc hP.out HXK.out HO.out)
            have HA2 := hid (hAp.out.step HXK.out hN.out)
            go_wp2_with fail
            go_roundw
            case rel => exact ⟨j + 1, by omega, by go_num, hK4, HP2, HA2⟩
            case measure => simp [RowKit.intOf]; omega
    · have hlt' : ¬ (k : Int) < n := by omega
      obtain rfl : k = n := by omega
      go_wp2_with fail
      go_ret
      exact ⟨hK.out, _, rfl, fun h => good_of HNN.out (by have := of_decide_eq_true h; omega) hP.out hAp.out⟩
end Go.Proofs.YtoihglnamclhfaaDoor.cap
