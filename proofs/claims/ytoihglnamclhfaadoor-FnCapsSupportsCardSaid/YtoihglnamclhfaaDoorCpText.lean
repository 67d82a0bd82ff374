/- spec.CapsText. -/
import Derived.Test.YtoihglnamclhfaaDoorCpGood
set_option linter.unusedVariables false
namespace Go.Proofs.YtoihglnamclhfaaDoor.cap
open Go.RowKit Lib mem opn frm text

/-- the text so far, and the pieces to come -/
def TextAt (W : List (List UInt8)) (w : World) (b : Nat) (R : List (List UInt8)) : Prop := ∃ L, W = L ++ R ∧ Blk w b 9 #[.string (ofL (L.foldl addT []))]
theorem TextAt.lt {W : List (List UInt8)} {w : World} {b : Nat} {R : List (List UInt8)} (h : TextAt W w b R) : b < w.heap.size := by obtain ⟨L, _, h⟩ := h; exact h.lt
theorem TextAt.kept {W : List (List UInt8)} {w w' : World} {b : Nat} {R : List (List UInt8)} {S : List Nat} (h : TextAt W w b R) (hk : Kept S w w') (hn : b ∉ S) : TextAt W w' b R := by obtain ⟨L, e, h⟩ := h; exact ⟨L, e, h.kept hk hn⟩
theorem cat_data (a b : ByteArray) : (a ++ b).data.toList = a.data.toList ++ b.data.toList := by simp
theorem ofL_of {s : ByteArray} {l : List UInt8} (h : s.data.toList = l) : s = ofL l := by rw [← h]; rfl
theorem addT_ne {T s : List UInt8} (h : T ≠ []) : addT T s = T ++ 32 :: s := by unfold addT; rw [if_neg h]
def Added (W : List (List UInt8)) (R : List (List UInt8)) (w : World) (b : Nat) (e : Ending) (w' : World) : Prop := e = .returned (.tuple #[]) ∧ TextAt W w' b R ∧ Kept [b] w w'
set_option maxRecDepth 100000 in
set_option maxHeartbeats 4000000 in
theorem add_calls (W R : List (List UInt8)) (sv : ByteArray) (s : List UInt8) (b : Nat) (w : World) (hsv : sv.data.toList = s) (h : TextAt W w b (s :: R)) (hW : (∀ s ∈ W, Ink s) ∧ W.length ≤ 3600) :
    Calls Tryd.prog 49 #[.string sv, .pointer (some ⟨b, 0, none⟩)] w (Added W R w b) := by
  obtain ⟨L, hL, hB⟩ := h
  have hL1 : ∀ x ∈ L, Ink x := fun x hx => hW.1 x (by rw [hL]; simp [hx])
  have hL2 : L.length ≤ 3600 := by have := hW.2; rw [hL] at this; simp at this; omega
  have hT := text_len hL1
  have hs := hW.1 s (by rw [hL]; simp)
  have hE := fold_snoc L s
  obtain ⟨T, hTT⟩ : ∃ T, T = ofL (L.foldl addT []) := ⟨_, rfl⟩
  have hTd : T.data.toList = L.foldl addT [] := by rw [hTT]; rfl
  have z0 : T.size ≤ 1000000 := by rw [hTT, ofL_size]; omega
  have z1 : sv.size ≤ 121 := by
    have h1 : sv.size = s.length := by rw [← hsv]; simp
    have := hs.2.2; omega
  have z2 : ¬ 9223372036854775807 < T.size + sv.size := by omega
  have z3 : ¬ 9223372036854775807 < T.size + 1 := by omega
  have z4 : ¬ 9223372036854775807 < T.size + 1 + sv.size := by omega
  rw [← hTT] at hB
  have HB := hid hB
  have q0 : w.cell? ⟨b, 0, none⟩ = some (.string T) := hB.cell 0 rfl
  have f0 : w.frozen? ⟨b, 0, none⟩ = false := hB.frozen 0
  have HE : Hid (∀ w' U, Blk w' b 9 #[.string U] → U.data.toList = addT (L.foldl addT []) s → TextAt W w' b R) := hid (fun w' U hU hd => ⟨L ++ [s], by rw [hL]; simp, by rw [hE, ← hd]; exact hU⟩)
  clear hB hL hT hs hL1 hL2 hE hTT
  have HD := hid (And.intro hTd hsv)
  clear hTd hsv
  by_cases h0 : T.toList.isEmpty = true
  · have HT := hid (show T.data.toList = [] by rw [← ByteArray.toList_eq]; simpa using h0)
    go_enter Tryd.func49, Tryd.ntmps49
    go_wp2_with fail
    go_end0
    refine ⟨rfl, HE.out _ _ (by simpa using (HB.out.set_ 0 (.string (T ++ sv)))) ?_, (Kept.refl _ _).setCell (.inl (by simp)) _⟩
    rw [cat_data, HT.out, HD.out.2, ← HD.out.1, HT.out]; rfl
  · have h0' : T.toList.isEmpty = false := by simpa using h0
    have HT := hid (fun e : L.foldl addT [] = [] => h0 (by rw [ByteArray.toList_eq, HD.out.1, e]; rfl))
    clear h0
    go_enter Tryd.func49, Tryd.ntmps49
    go_wp2_with fail
    go_end0
    refine ⟨rfl, HE.out _ (T ++ ⟨#[32]⟩ ++ sv) (by simpa using ((HB.out.set_ 0 (.string (T ++ ⟨#[32]⟩))).set_ 0 (.string (T ++ ⟨#[32]⟩ ++ sv)))) ?_, ((Kept.refl _ _).setCell (.inl (by simp)) _).setCell (.inl (by simp)) _⟩
    rw [cat_data, cat_data, HD.out.1, HD.out.2]
    rw [addT_ne HT.out]
    simp
def Rest (xs : List CapD) (k : Nat) : List (List UInt8) := ((xs.drop k).map capOf).flatMap items
theorem rest_next {xs : List CapD} {k : Nat} {x : CapD} (h : xs[k]? = some x) : Rest xs k = items (capOf x) ++ Rest xs (k + 1) := by
  obtain ⟨hk, rfl⟩ := List.getElem?_eq_some_iff.1 h
  unfold Rest
  rw [List.drop_eq_getElem_cons hk, List.map_cons, List.flatMap_cons]
theorem rest_end {xs : List CapD} {k : Nat} (h : xs.length ≤ k) : Rest xs k = [] := by unfold Rest; rw [List.drop_eq_nil_of_le h]; rfl
theorem items_none {x : CapD} (h : x.vals = []) : items (capOf x) = [x.name.data.toList] := by unfold items; rw [if_pos (by exact h)]; rfl
def mk (x : CapD) (v : List UInt8) : List UInt8 := x.name.data.toList ++ 61 :: v
theorem items_some {x : CapD} (h : x.vals ≠ []) : items (capOf x) = x.vals.map (mk x) := by unfold items; rw [if_neg (by exact h)]; rfl
theorem mk_next {x : CapD} {j : Nat} {v : List UInt8} (h : x.vals[j]? = some v) : (x.vals.drop j).map (mk x) = mk x v :: (x.vals.drop (j + 1)).map (mk x) := by
  obtain ⟨hk, rfl⟩ := List.getElem?_eq_some_iff.1 h
  rw [List.drop_eq_getElem_cons hk]; rfl
def Text (W : List (List UInt8)) (w : World) (e : Ending) (w' : World) : Prop := Kept [] w w' ∧ e = .returned (.string (ofL (W.foldl addT [])))
attribute [local go_sem] CapD.cells
set_option maxRecDepth 100000 in
set_option maxHeartbeats 8000000 in
theorem capsText_calls (B : Nat) (v : Value) (xs : List CapD) (w : World) (h : CapSl w B v xs) (hB : B ≤ w.heap.size) (hg : GoodL (xs.map capOf)) :
    Calls Tryd.prog 25 #[v] w (Text (Rest xs 0) w) := by
  have hmf : ∀ (fn : Fn) (first cap : Array Value) (w : World), (Instr.makeFunc fn first cap).run Tryd.prog w = .ok (.func fn first cap) w := fun _ _ _ _ => rfl
  obtain ⟨A, c, rfl, hcap, hF, hS⟩ := h
  have HF := hid hF
  have HS := hid hS
  have hR0 : Rest xs 0 = (xs.map capOf).flatMap items := by unfold Rest; simp
  obtain ⟨W, hWW⟩ : ∃ W, W = Rest xs 0 := ⟨_, rfl⟩
  have HW : Hid ((∀ s ∈ W, Ink s) ∧ W.length ≤ 3600) := hid (by rw [hWW, hR0]; exact ⟨all_ink hg, all_len hg⟩)
  have HG := hid hg
  have hn' : (xs.length : Int) ≤ 60 := by have := hg.2.2; simp at this; omega
  have HBB := hid hB
  obtain ⟨n, hnn⟩ : ∃ n, n = xs.length := ⟨_, rfl⟩
  have HNN := hid hnn
  rw [← hWW]
  have HWW := hid hWW
  have hx60 : ∀ x ∈ xs, x.vals.length ≤ 60 := fun x hx => by
    rcases (hg.1 (capOf x) (List.mem_map_of_mem hx)).2 with h | h | h
    · have h2 : x.vals.length = 1 := h.2
      omega
    · exact h.2.2
    · have h2 : x.vals = [] := h.2
      rw [h2]; simp
  have HX60 := hid hx60
  rw [← hnn] at HF hn' ⊢
  clear hF hB hnn hS hcap hg hWW hR0 hx60
  obtain ⟨w1, hw1⟩ : ∃ w1, w1 = w.alloc (.cells #[.string ⟨#[]⟩] 9) := ⟨_, rfl⟩
  have hk1 : Kept [] w w1 := by rw [hw1]; exact (Kept.refl [] w).alloc _
  have hB1 : Blk w1 w.heap.size 9 #[.string ⟨#[]⟩] := by rw [hw1]; exact Blk.new w 9 #[.string ⟨#[]⟩]
  have HK1 := hid hk1
  have HT1 : Hid (TextAt W w1 w.heap.size (Rest xs 0)) := hid ⟨[], by rw [HWW.out]; rfl, hB1⟩
  have HE := hid hw1
  clear hk1 hB1 hw1
  go_enter Tryd.func25, Tryd.ntmps25
  go_wp2_with fail
  rw [← HE.out]
  go_loopw [12] (fun iv wr => ∃ k : Nat, k ≤ n ∧ iv = .int .i64 k ∧ Hid (Kept [] w wr) ∧ Hid (TextAt W wr w.heap.size (Rest xs k))) (fun iv _ => n - (RowKit.intOf iv).toNat)
  case atStart => exact ⟨0, by omega, rfl, HK1, HT1⟩
  case round =>
    obtain ⟨k, hk, rfl, hK, hT⟩ := hrel
    obtain ⟨wo, rfl⟩ : ∃ wo, wo = wr := ⟨_, rfl⟩
    by_cases hlt : k < n
    · obtain ⟨g, o, x, rfl, hg, hxk, hmem, hR⟩ := at_kept HF.out CapD.len hK.out HBB.out hlt
      have HR := hid hR
      have HMem := hid hmem
      obtain ⟨D, d, hvv, hdc, hSv⟩ := HS.out x hmem
      have hm60 := HX60.out x hmem
      obtain ⟨m, hm⟩ : ∃ m, m = x.vals.length := ⟨_, rfl⟩
      rw [← hm] at hvv hSv hm60
      have HSv := hid hSv
      have HM := hid hm
      have HVV := hid hvv
      have HOne := hid (show x.vv.oneCell' = true by rw [hvv]; rfl)
      have HXK := hid hxk
      have hT2 : Hid (TextAt W wo w.heap.size (items (capOf x) ++ Rest xs (k + 1))) := hid (by rw [← rest_next hxk]; exact hT.out)
      have hlt' : (k : Int) < n := by omega
      have hm60' : (m : Int) ≤ 60 := by omega
      clear hR hxk hg hmem hm hvv hSv hdc hT hm60
      have HNe : Hid (¬ wo.heap.size = w.heap.size) := hid (by have := hT2.out.lt; omega)
      by_cases hm0 : m = 0
      · subst hm0
        have hI : items (capOf x) = [x.name.data.toList] := items_none (List.eq_nil_of_length_eq_zero HM.out.symm)
        rw [hI] at hT2
        clear hI
        go_wp2_with (first
          | (refine wpList_load_mid rfl Kty (.tmp 14) rfl g (o + k * 2) rfl x.cells _ HR.out Tryd.underlying48 rfl infoK ?_)
          | (refine wpList_store_kept rfl Kty (.tmp 6) (.tmp 15) rfl wo.heap.size x.cells.toArray rfl rfl Kty _ (Blk.new wo Kty _) (cap_sz x) rfl (cap_all x HOne.out) ?_; intro w2 h1 h2 h3; have HT3 : Hid (TextAt W w2 w.heap.size ([x.name.data.toList] ++ Rest xs (k + 1))) := hid ((hT2.out.kept ((Kept.refl [] wo).alloc _) (by simp)).kept h2.out (by have := hT2.out.lt; simp; omega)); have q0 : w2.cell? ⟨wo.heap.size, 0, none⟩ = some (.string x.name) := h1.out.cell 0 rfl; have q1 : w2.cell? ⟨wo.heap.size, 1, none⟩ = some (.slice D 0 d) := (by rw [← HVV.out]; exact h1.out.cell 1 rfl); have HB2 := hid h1.out; have HK2 := hid ((hK.out.alloc _).trans h2.out (by simp; exact hK.out.size)); clear h1 h2 h3)
          | fail)
        refine (add_calls W (Rest xs (k + 1)) x.name _ w.heap.size _ rfl HT3.out HW.out).mono ?_
        rintro e w3 ⟨rfl, ht3, hk3⟩
        have HK3 := hid (HK2.out.trans hk3 (by simp))
        have HT4 := hid ht3
        have q2 : w3.cell? ⟨wo.heap.size, 1, none⟩ = some (.slice D 0 d) := (hk3.cell (p := ⟨wo.heap.size, 1, none⟩) (by exact HB2.out.lt) (by simp; exact HNe.out)).trans q1
        clear ht3 hk3 q0 q1
        go_wp2_with fail
        clear q2
        go_loopw [27] (fun iv wr => iv = .int .i64 0 ∧ Hid (Kept [] w wr) ∧ Hid (TextAt W wr w.heap.size (Rest xs (k + 1)))) (fun iv _ => 0)
        case atStart => exact ⟨rfl, HK3, HT4⟩
        case round =>
          obtain ⟨rfl, hK4, hT4⟩ := hrel
          go_wp2_with fail
          go_roundw
          case rel => exact ⟨k + 1, by omega, by go_num, hK4, hT4⟩
          case measure => simp [RowKit.intOf]; omega
      · have hI : items (capOf x) = x.vals.map (mk x) := items_some (fun e => hm0 (by have := HM.out; rw [e] at this; simpa using this))
        rw [hI] at hT2
        have hm1 : ¬ (m : Int) = 0 := by omega
        have hm1' : ((m : Int) == 0) = false := beq_eq_false_iff_ne.2 hm1
        clear hI
        go_wp2_with (first
          | (refine wpList_load_mid rfl Kty (.tmp 14) rfl g (o + k * 2) rfl x.cells _ HR.out Tryd.underlying48 rfl infoK ?_)
          | (refine wpList_store_kept rfl Kty (.tmp 6) (.tmp 15) rfl wo.heap.size x.cells.toArray rfl rfl Kty _ (Blk.new wo Kty _) (cap_sz x) rfl (cap_all x HOne.out) ?_; intro w2 h1 h2 h3; have HT3 : Hid (TextAt W w2 w.heap.size (x.vals.map (mk x) ++ Rest xs (k + 1))) := hid ((hT2.out.kept ((Kept.refl [] wo).alloc _) (by simp)).kept h2.out (by have := hT2.out.lt; simp; omega)); have q1 : w2.cell? ⟨wo.heap.size, 1, none⟩ = some (.slice D m d) := (by rw [← HVV.out]; exact h1.out.cell 1 rfl); have HB2 := hid h1.out; have HK2 := hid ((hK.out.alloc _).trans h2.out (by simp; exact hK.out.size)); clear h1 h2 h3)
          | fail)
        clear q1
        go_loopw [27] (fun iv wr => ∃ j : Nat, j ≤ m ∧ iv = .int .i64 j ∧ Hid (Kept [] w wr) ∧ Hid (TextAt W wr w.heap.size ((x.vals.drop j).map (mk x) ++ Rest xs (k + 1))) ∧ Hid (Blk wr wo.heap.size Kty x.cells.toArray)) (fun iv _ => m - (RowKit.intOf iv).toNat)
        case atStart => exact ⟨0, by omega, rfl, HK2, HT3, HB2⟩
        case round =>
          obtain ⟨j, hj, rfl, hK4, hT4, hB4⟩ := hrel
          obtain ⟨wp, rfl⟩ : ∃ wp, wp = wr := ⟨_, rfl⟩
          by_cases hjm : j < m
          · obtain ⟨g2, o2, u, rfl, hg2, hcell, _, hu⟩ := (HSv.out.below (hK4.out.below HBB.out (by simp))).next hjm
            have hjm' : (j : Int) < m := by omega
            have q0 : wp.cell? ⟨wo.heap.size, 0, none⟩ = some (.string x.name) := hB4.out.cell 0 rfl
            have hT5 : Hid (TextAt W wp w.heap.size (mk x u :: ((x.vals.drop (j + 1)).map (mk x) ++ Rest xs (k + 1)))) := hid (by have := hT4.out; rw [mk_next hu] at this; exact this)
            have hin : mk x u ∈ W := by
              obtain ⟨L, e, _⟩ := hT5.out
              rw [e]; simp
            have hz := (HW.out.1 _ hin).2.2
            have hz1 : x.name.size + 1 + (ofL u).size ≤ 121 := by
              have e : (mk x u).length = x.name.size + (u.length + 1) := by simp [mk]
              rw [ofL_size]; omega
            have z1 : ¬ 9223372036854775807 < x.name.size + 1 := by omega
            have z2 : ¬ 9223372036854775807 < x.name.size + 1 + (ofL u).size := by omega
            clear hu hg2 hin hz hz1 hT4
            go_wp2_with fail
            refine (add_calls W _ _ (mk x u) w.heap.size _ (by rw [cat_data, cat_data]; simp [mk, ofL]) hT5.out HW.out).mono ?_
            rintro e w3 ⟨rfl, ht3, hk3⟩
            have HK3 := hid (hK4.out.trans hk3 (by simp))
            have HT6 := hid ht3
            have HB3 := hid (hB4.out.kept hk3 (by simp; exact HNe.out))
            clear ht3 hk3 q0 hT5
            go_wp2_with fail
            go_roundw
            case rel => exact ⟨j + 1, by omega, by go_num, HK3, HT6, HB3⟩
            case measure => simp [RowKit.intOf]; omega
          · have hjm' : ¬ (j : Int) < m := by omega
            obtain rfl : j = m := by omega
            have hT5 : Hid (TextAt W wp w.heap.size (Rest xs (k + 1))) := hid (by have := hT4.out; rw [HM.out, List.drop_length] at this; exact this)
            clear hT4
            go_wp2_with fail
            go_roundw
            case rel => exact ⟨k + 1, by omega, by go_num, hK4, hT5⟩
            case measure => simp [RowKit.intOf]; omega
    · have hlt' : ¬ (k : Int) < n := by omega
      have hE : Rest xs k = [] := rest_end (by have := HNN.out; omega)
      rw [hE] at hT
      obtain ⟨L, hL, hBl⟩ := hT.out
      rw [List.append_nil] at hL
      subst hL
      have q0 : wo.cell? ⟨w.heap.size, 0, none⟩ = some (.string (ofL (W.foldl addT []))) := hBl.cell 0 rfl
      clear hBl hE hT
      go_wp2_with fail
      go_ret
      exact ⟨hK.out, rfl⟩
end Go.Proofs.YtoihglnamclhfaaDoor.cap
