/- laws.FnCapsSupports. -/
import Derived.Test.YtoihglnamclhfaaDoorCpDec
import Derived.Test.YtoihglnamclhfaaDoorCpText
import Derived.Test.YtoihglnamclhfaaDoorPktWorks
import Derived.Lib.ConvBytes
import Derived.WalkSmall
set_option linter.unusedVariables false
namespace Go.Proofs.YtoihglnamclhfaaDoor.cap
open Go.RowKit Lib frm mf mem opn text pkt

set_option maxRecDepth 100000 in
set_option maxHeartbeats 4000000 in
theorem newList_calls (w : World) : Calls Tryd.prog 46 #[] w fun e w' => e = .returned (.pointer (some ⟨w.heap.size + 1, 0, none⟩)) ∧ Kept [] w w' ∧ Blk w' (w.heap.size + 1) ListT #[.map (some w.heap.size), .slice none 0 0] ∧ MapF Tryd.prog CapT w' w.heap.size 0 (fun _ => none) := by
  have hmm := @run_makeMap Tryd.prog
  go_enter Tryd.func46, Tryd.ntmps46
  go_wp2_with fail
  go_ret
  have hz : (w.alloc (.map #[] 0)).heap.size = w.heap.size + 1 := by simp
  have hb := Blk.new (w.alloc (.map #[] 0)) ListT #[.map (some w.heap.size), .slice none 0 0]
  rw [hz] at hb
  exact ⟨rfl, ((Kept.refl [] w).alloc _).alloc _, hb, (MapF.made w).heap (heap_alloc_old _ _ (by simp))⟩
def Has (ns : List ByteArray) (nm : ByteArray) (w : World) (e : Ending) (w' : World) : Prop := Kept [] w w' ∧ ∃ b, e = .returned (.bool b) ∧ (b = true ↔ nm ∈ ns)
set_option maxRecDepth 100000 in
set_option maxHeartbeats 4000000 in
theorem supportsOf_calls (b o c : Nat) (W : List (List UInt8)) (ns : List ByteArray) (nm : ByteArray) (w : World) (hB : Bytes w w.heap.size (some ⟨b, o, none⟩) (W.foldl addT []).length (W.foldl addT [])) (hc : (W.foldl addT []).length ≤ c) (hW : (∀ s ∈ W, Ink s) ∧ W.length ≤ 3600) (hR : Runs [] W ns)
    (hnm : nm.size ≤ maxLen) (htab : ∀ w', Kept [] w w' → Lib.TabIs Tryd.prog w' "bytes.asciiSpace" .u8 Lib.asciiSpaceTab) :
    Calls Tryd.prog 24 #[.slice (some ⟨b, o, none⟩) (W.foldl addT []).length c, .string nm] w (Has ns nm w) := by
  have cd := hid (fun w' (hk : Kept [] w w') (hL : Blk w' (w.heap.size + 1) ListT #[.map (some w.heap.size), .slice none 0 0]) (hM : MapF Tryd.prog CapT w' w.heap.size 0 (fun _ => none)) =>
    decode_calls (w.heap.size + 1) w.heap.size w.heap.size b o c W ns w' hL hM (by omega) (Nat.le_refl _) (hB.below (hk.below (Nat.le_refl _) (by simp))) hc hW hR (htab w' hk))
  have HN := hid hnm
  clear hB hc hW hR htab hnm
  generalize (W.foldl addT []).length = n at *
  go_enter Tryd.func24, Tryd.ntmps24
  go_wp2_with fail
  refine (newList_calls w).mono ?_
  rintro e w1 ⟨rfl, hk1, hL1, hM1⟩
  have HK1 := hid hk1
  have hd := cd.out w1 hk1 hL1 hM1
  clear hk1 hL1 hM1 cd
  go_wp2_with fail
  refine hd.mono ?_
  rintro e w2 ⟨rfl, ⟨w0, N, f, sv, xs, hF⟩, hk2⟩
  have HK2 := hid (HK1.out.trans hk2 (by simp))
  have HF := hid hF
  have c0 : w2.cell? ⟨w.heap.size + 1, 0, none⟩ = some (.map (some w.heap.size)) := hF.blk.cell 0 rfl
  clear hk2 hF hd
  go_wp2_with fail
  refine (supports_calls (w.heap.size + 1) w.heap.size N f nm w2 HN.out c0 HF.out.map).mono ?_
  rintro e w3 ⟨rfl, hw3⟩
  obtain rfl : w2 = w3 := hw3.symm
  clear hw3
  have HM := hid (HF.out.mem nm)
  generalize (f nm).isSome = bb at *
  go_wp2_with fail
  go_ret
  exact ⟨HK2.out, _, rfl, HM.out⟩
theorem names_of (xs : List CapD) : ∀ nm : ByteArray, nm ∈ namesOf (xs.map capOf) ↔ ∃ x ∈ xs, x.name = nm := by
  intro nm
  unfold namesOf
  rw [List.map_map, List.mem_map]
  constructor
  · rintro ⟨x, hx, e⟩; exact ⟨x, hx, e⟩
  · rintro ⟨x, hx, e⟩; exact ⟨x, hx, e⟩
/-- is a name among the first k -/
def Among (xs : List CapD) (nm : ByteArray) (k : Nat) : Prop := ∃ i x, i < k ∧ xs[i]? = some x ∧ x.name = nm
theorem Among.all {xs : List CapD} {nm : ByteArray} {n : Nat} (hn : n = xs.length) : Among xs nm n ↔ ∃ x ∈ xs, x.name = nm := by
  constructor
  · rintro ⟨i, x, _, hx, e⟩; exact ⟨x, List.mem_of_getElem? hx, e⟩
  · rintro ⟨x, hx, e⟩
    obtain ⟨i, hi, rfl⟩ := List.getElem_of_mem hx
    exact ⟨i, _, by omega, List.getElem?_eq_getElem hi, e⟩
theorem Among.next {xs : List CapD} {nm : ByteArray} {k : Nat} {x : CapD} (hx : xs[k]? = some x) : Among xs nm (k + 1) ↔ Among xs nm k ∨ x.name = nm := by
  constructor
  · rintro ⟨i, y, hi, hy, e⟩
    by_cases h : i = k
    · subst h; rw [hx] at hy; cases hy; exact .inr e
    · exact .inl ⟨i, y, by omega, hy, e⟩
  · rintro (⟨i, y, hi, hy, e⟩ | e)
    · exact ⟨i, y, by omega, hy, e⟩
    · exact ⟨k, x, by omega, hx, e⟩
theorem str_eq' {s t : ByteArray} (h : (s.toList == t.toList) = true) : s = t := by
  have e := eq_of_beq h
  rw [ByteArray.toList_eq, ByteArray.toList_eq] at e
  exact name_inj e
theorem below_bytes (w : World) (e : TypeId) (s : ByteArray) : Below w.heap.size w (bytesWorld w e s) := ⟨rfl, rfl, rfl, by rw [bytesWorld_size]; omega, fun i hi => bytesWorld_at_old w e s i hi⟩
theorem conv_ex (w : World) (t : ByteArray) (p : List UInt8) (h : t.data.toList = p) : ∃ w1 cap, (convert 9 28 (.string t)).run Tryd.prog w = .ok (.slice (some ⟨w.heap.size, 0, none⟩) p.length cap) w1 ∧ Bytes w1 w1.heap.size (some ⟨w.heap.size, 0, none⟩) p.length p ∧ Kept [] w w1 ∧ p.length ≤ cap := by
  have hts : t.size = p.length := by rw [← h]; simp
  have hcv := Go.Lib.run_convert_string_bytes (P := Tryd.prog) w 9 28 5 t Tryd.underlying9 Tryd.underlying28 Tryd.underlying5
  refine ⟨bytesWorld w 5 t, grownCap w t.size 0 5, ?_, ?_, .of_below (below_bytes w 5 t), ?_⟩
  · rw [hcv, hts]
  · refine ⟨⟨by simp [Lib.byteCells], fun _ => ⟨_, rfl, by rw [bytesWorld_size]; simp, fun j u hu => ?_⟩⟩, fun _ => ⟨_, _, rfl⟩⟩
    have hj : j < t.size := by
      have := (List.getElem?_eq_some_iff.1 hu).1
      rw [hts]
      simpa [Lib.byteCells] using this
    rw [Lib.addr_add, Nat.zero_add, bytesWorld_cell w 5 t j hj, ← hu, ← h]
    have hj2 : j < t.data.toList.length := by simpa using hj
    simp only [Lib.byteCells, List.getElem?_map, List.getElem?_eq_getElem hj2, Option.map_some, List.getD_eq_getElem?_getD, Option.getD_some]
  · rw [← hts]; exact grownCap_ge _ _ _ _
attribute [local go_sem] CapD.cells
set_option maxRecDepth 100000 in
set_option maxHeartbeats 16000000 in
theorem law_calls (v : Value) (xs : List CapD) (nm : ByteArray) (w : World) (h : CapSl w w.heap.size v xs) (hm : LimN xs) (hnm : nm.size ≤ 140737488355328) (pe pu : Addr) (hT : Two w pe pu) (htab : Lib.TabIs Tryd.prog w "bytes.asciiSpace" .u8 Lib.asciiSpaceTab) (hg : 3 < w.heap.size) :
    Calls Tryd.prog 6 #[v, .string nm] w (Yes w) := by
  have c1 := hid (fits29_calls w.heap.size v xs w h (Nat.le_refl _) hm)
  have HC := hid h
  have HT := hid hT
  have HTab := hid (fun (w' : World) (hk : Kept [] w w') => (var?_below (hk.below (Nat.le_refl _) (by simp)) (by kernel_rfl) hg htab : Lib.TabIs Tryd.prog w' "bytes.asciiSpace" .u8 Lib.asciiSpaceTab))
  obtain ⟨A, c, rfl, hcap, hF, hS⟩ := id h
  have HF := hid hF
  have HS := hid hS
  have hnm' : (nm.size : Int) ≤ 140737488355328 := by omega
  have HN9 := hid (show nm.size ≤ maxLen by unfold maxLen; omega)
  clear h hm hT htab hg hF hS hcap hnm
  obtain ⟨n, hn⟩ : ∃ n, n = xs.length := ⟨_, rfl⟩
  rw [← hn] at c1 HF HC ⊢
  have HNN := hid hn
  clear hn
  go_enter Tryd.func6, Tryd.ntmps6
  go_wp2_with fail
  refine c1.out.mono ?_
  rintro e w1 ⟨hk1, b1, rfl, hb1⟩
  have HK1 := hid hk1
  have HB1 := hid hb1
  clear hk1 hb1 c1
  cases b1 with
  | false =>
    go_wp2_with fail
    go_ret
    exact ⟨rfl, HK1.out.below (Nat.le_refl _) (by simp)⟩
  | true =>
  by_cases hbig : (2147483647 : Int) < nm.size
  · go_wp2_with fail
    go_ret
    exact ⟨rfl, HK1.out.below (Nat.le_refl _) (by simp)⟩
  have hlim := HB1.out rfl
  have HLim := hid hlim
  have hn1 : (n : Int) ≤ 2147483647 := by have := hlim.1; have := HNN.out; omega
  have hbig' : ¬ (2147483647 : Int) < nm.size := hbig
  have c2 := hid (goodCaps_calls w.heap.size (.slice A n c) xs w1 (HC.out.below (HK1.out.below (Nat.le_refl _) (by simp))) HK1.out.size hlim)
  clear hlim HB1 hbig
  go_wp2_with fail
  refine c2.out.mono ?_
  rintro e w2 ⟨hk2, b2, rfl, hb2⟩
  have HK2 := hid (HK1.out.trans_ hk2)
  have HB2 := hid hb2
  clear hk2 hb2 c2
  cases b2 with
  | false =>
    go_wp2_with fail
    refine (works_calls pe pu _ (HT.out.below_ (HK2.out.below (Nat.le_refl _) (by simp)))).mono ?_
    rintro e w3 ⟨rfl, h3⟩
    have H3 := hid (below_more (HK2.out.below (Nat.le_refl _) (by simp)) h3)
    clear h3
    go_wp2_with fail
    go_ret
    exact ⟨rfl, H3.out⟩
  | true =>
  have hgood := HB2.out rfl
  have HGood := hid hgood
  clear hgood HB2
  go_wp2_with fail
  go_loopw [22, 5] (fun iv sv wr => ∃ (k : Nat) (b : Bool), k ≤ n ∧ iv = .int .i64 k ∧ sv = .bool b ∧ Hid (Kept [] w wr) ∧ Hid (b = true ↔ Among xs nm k)) (fun iv _ _ => n - (RowKit.intOf iv).toNat)
  case atStart => exact ⟨0, false, by omega, rfl, rfl, HK2, hid ⟨nofun, fun ⟨i, _, h, _⟩ => absurd h (by omega)⟩⟩
  case round =>
    obtain ⟨k, b, hk, rfl, rfl, hK, hI⟩ := hrel
    obtain ⟨wo, rfl⟩ : ∃ wo, wo = wr := ⟨_, rfl⟩
    by_cases hlt : k < n
    · obtain ⟨g, o, x, rfl, hg, hxk, hmem, hR⟩ := at_kept HF.out CapD.len hK.out (Nat.le_refl _) hlt
      have HR := hid hR
      have HOne := hid (ValSl.one (HS.out x hmem))
      have HXK := hid hxk
      have hlt' : (k : Int) < n := by omega
      clear hR hxk hg hmem
      cases b with
      | true =>
        have hI2 : Hid (true = true ↔ Among xs nm (k + 1)) := hid ⟨fun _ => (Among.next HXK.out).2 (.inl (hI.out.1 rfl)), fun _ => rfl⟩
        go_wp2_with (first
          | (refine wpList_load_mid rfl Kty (.tmp 24) rfl g (o + k * 2) rfl x.cells _ HR.out Tryd.underlying48 rfl infoK ?_)
          | (refine wpList_store_kept rfl Kty (.tmp 7) (.tmp 25) rfl wo.heap.size x.cells.toArray rfl rfl Kty _ (Blk.new wo Kty _) (cap_sz x) rfl (cap_all x HOne.out) ?_; intro w5 h1 h2 h3; have q0 : w5.cell? ⟨wo.heap.size, 0, none⟩ = some (.string x.name) := h1.out.cell 0 rfl; have HK5 := hid ((hK.out.alloc _).trans h2.out (by simp; exact hK.out.size)); clear h1 h2 h3)
          | fail)
        go_roundw
        case rel => exact ⟨k + 1, true, by omega, by go_num, rfl, HK5, hI2⟩
        case measure => simp [RowKit.intOf]; omega
      | false =>
        cases hb : (x.name.toList == nm.toList) with
        | true =>
          have hI2 : Hid (true = true ↔ Among xs nm (k + 1)) := hid ⟨fun _ => (Among.next HXK.out).2 (.inr (str_eq' hb)), fun _ => rfl⟩
          go_wp2_with (first
            | (refine wpList_load_mid rfl Kty (.tmp 24) rfl g (o + k * 2) rfl x.cells _ HR.out Tryd.underlying48 rfl infoK ?_)
            | (refine wpList_store_kept rfl Kty (.tmp 7) (.tmp 25) rfl wo.heap.size x.cells.toArray rfl rfl Kty _ (Blk.new wo Kty _) (cap_sz x) rfl (cap_all x HOne.out) ?_; intro w5 h1 h2 h3; have q0 : w5.cell? ⟨wo.heap.size, 0, none⟩ = some (.string x.name) := h1.out.cell 0 rfl; have HK5 := hid ((hK.out.alloc _).trans h2.out (by simp; exact hK.out.size)); clear h1 h2 h3)
            | fail)
          go_roundw
          case rel => exact ⟨k + 1, true, by omega, by go_num, rfl, HK5, hI2⟩
          case measure => simp [RowKit.intOf]; omega
        | false =>
          have hI2 : Hid (false = true ↔ Among xs nm (k + 1)) := hid ⟨nofun, fun h => by
            rcases (Among.next HXK.out).1 h with h | h
            · exact hI.out.2 h
            · rw [h] at hb; simp at hb⟩
          go_wp2_with (first
            | (refine wpList_load_mid rfl Kty (.tmp 24) rfl g (o + k * 2) rfl x.cells _ HR.out Tryd.underlying48 rfl infoK ?_)
            | (refine wpList_store_kept rfl Kty (.tmp 7) (.tmp 25) rfl wo.heap.size x.cells.toArray rfl rfl Kty _ (Blk.new wo Kty _) (cap_sz x) rfl (cap_all x HOne.out) ?_; intro w5 h1 h2 h3; have q0 : w5.cell? ⟨wo.heap.size, 0, none⟩ = some (.string x.name) := h1.out.cell 0 rfl; have HK5 := hid ((hK.out.alloc _).trans h2.out (by simp; exact hK.out.size)); clear h1 h2 h3)
            | fail)
          go_roundw
          case rel => exact ⟨k + 1, false, by omega, by go_num, rfl, HK5, hI2⟩
          case measure => simp [RowKit.intOf]; omega
    · have hlt' : ¬ (k : Int) < n := by omega
      obtain rfl : k = n := by omega
      have HIs := hid (hI.out.trans ((Among.all HNN.out).trans (names_of xs nm).symm))
      have c3 := hid (capsText_calls w.heap.size (.slice A k c) xs wo (HC.out.below (hK.out.below (Nat.le_refl _) (by simp))) hK.out.size HGood.out)
      clear hI
      go_wp2_with fail
      refine c3.out.mono ?_
      rintro e w3 ⟨hk3, rfl⟩
      have HK3 := hid (hK.out.trans_ hk3)
      have hWR : Rest xs 0 = (xs.map capOf).flatMap items := by unfold Rest; simp
      obtain ⟨W, hW⟩ : ∃ W, W = Rest xs 0 := ⟨_, rfl⟩
      have hW1 : (∀ s ∈ W, Ink s) ∧ W.length ≤ 3600 := by rw [hW, hWR]; exact ⟨all_ink HGood.out, all_len HGood.out⟩
      have hW2 : Runs [] W (namesOf (xs.map capOf)) := by
        have := runs_all (xs.map capOf) [] HGood.out.1 HGood.out.2.1 (by simp)
        rw [hW, hWR]; simpa using this
      rw [← hW]
      obtain ⟨w4, cap, hcv, hby, hk4, hcp⟩ := conv_ex w3 (ofL (W.foldl addT [])) (W.foldl addT []) rfl
      have HK4 := hid (HK3.out.trans_ hk4)
      have c4 := hid (supportsOf_calls w3.heap.size 0 cap W (namesOf (xs.map capOf)) nm w4 hby hcp hW1 hW2 HN9.out (fun w' hk' => HTab.out w' (HK4.out.trans_ hk')))
      obtain ⟨t, ht⟩ : ∃ t, t = ofL (W.foldl addT []) := ⟨_, rfl⟩
      rw [← ht] at hcv ⊢
      generalize (W.foldl addT []).length = m at *
      clear hk3 hWR hW hW1 hW2 hby hk4 hcp c3 ht
      go_wp2_with fail
      refine c4.out.mono ?_
      rintro e w5 ⟨hk5, b5, rfl, hb5⟩
      have HK5 := hid (HK4.out.trans_ hk5)
      obtain rfl : b5 = b := by
        have h1 := hb5.trans HIs.out.symm
        cases b5 <;> cases b <;> simp_all
      clear hk5 hb5 c4 hcv
      have hTT := HT.out.below_ (HK5.out.below (Nat.le_refl _) (by simp))
      cases b5
      all_goals
        go_wp2_with fail
        refine (works_calls pe pu _ hTT).mono ?_
        rintro e w6 ⟨rfl, h6⟩
        have H6 := hid (below_more (HK5.out.below (Nat.le_refl _) (by simp)) h6)
        clear h6 hTT
        go_wp2_with fail
        go_ret
        exact ⟨rfl, H6.out⟩
end Go.Proofs.YtoihglnamclhfaaDoor.cap
