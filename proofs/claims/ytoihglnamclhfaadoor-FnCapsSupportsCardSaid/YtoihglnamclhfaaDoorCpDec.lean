/- capability.List.Decode over the text of a list. -/
import Derived.Test.YtoihglnamclhfaaDoorCpTrim
import Derived.Test.YtoihglnamclhfaaDoorCpAddV
import Derived.Test.YtoihglnamclhfaaDoorCpSplit
set_option linter.unusedVariables false
namespace Go.Proofs.YtoihglnamclhfaaDoor.cap
open Go.RowKit Lib frm mf mem text pkt

/-- 'Capability(b)' -/
theorem cap_of_bytes {w : World} {B : Nat} {A : Option Addr} {n c : Nat} {l : List UInt8} (h : Bytes w B A n l) : (convert 28 CapT (.slice A n c)).run Tryd.prog w = .ok (.string ⟨l.toArray⟩) w := by
  have hl := h.len
  rcases Nat.eq_zero_or_pos n with h0 | h0
  · have hl0 : l = [] := List.eq_nil_of_length_eq_zero (by omega)
    subst hl0 h0
    cases A with
    | none => exact run_convert_bytes_nil w 28 5 Tryd.underlying28 Tryd.underlying5 0 c CapT Tryd.underlying86
    | some a => exact run_convert_bytes_back w 28 CapT 5 a c [] Tryd.underlying28 Tryd.underlying5 Tryd.underlying86 (fun j hj => absurd hj (by simp))
  · obtain ⟨ad, rfl, _, hc⟩ := h.1.2 h0
    subst hl
    exact run_convert_bytes_back w 28 CapT 5 ad c l Tryd.underlying28 Tryd.underlying5 Tryd.underlying86 (fun j hj => hc j _ (by simp [byteCells, hj]))
/-- a row of pieces, read in a world that keeps it -/
theorem pieces_at {w w' : World} {base B n c : Nat} {e : TypeId} {A : Option Addr} {vs : List Value} {ls : List (List UInt8)} (h : w'.ownsRow base e 1 (.slice A n c) n vs) (hr : All2 (RowB w B) vs ls) (hb : Below B w w') {k : Nat} (hk : k < n) :
    ∃ g D d p, A = some ⟨g, 0, none⟩ ∧ w'.cell? ⟨g, k, none⟩ = some (.slice D p.length d) ∧ ls[k]? = some p ∧ p.length ≤ d ∧ Bytes w' B D p.length p := by
  have hr' : All2 (RowB w' B) vs ls := hr.mono fun v l ⟨A, c, e, hc, hB⟩ => ⟨A, c, e, hc, hB.below hb⟩
  rcases id h with ⟨hl, ⟨h1, h0⟩ | ⟨g, cap, cur, h1, hBg, hg, hnc, hcm, hcs, htk⟩⟩
  · omega
  · injection h1 with h1 h2 h3
    subst h1
    have hlen : vs.length = n := by simpa using hl
    have h1 := h.cells (g := g) rfl
    have hv : vs[k]? = some (vs[k]'(by omega)) := List.getElem?_eq_getElem _
    have hll := hr'.len
    have hp : ls[k]? = some (ls[k]'(by omega)) := List.getElem?_eq_getElem _
    obtain ⟨D, d, e1, e2, e3⟩ := hr'.at_ hv hp
    have h2 := h1 k _ hv
    rw [Lib.addr_add, e1, Nat.zero_add] at h2
    exact ⟨g, D, d, _, rfl, h2, hp, e2, e3⟩
theorem runs_cons {ns ns' : List ByteArray} {p : List UInt8} {R : List (List UInt8)} (h : Runs ns (p :: R) ns') :
    (p ∈ plainN ∧ ofL p ∉ ns ∧ Runs (ns ++ [ofL p]) R ns') ∨ ∃ n v, p = n ++ 61 :: v ∧ (n = agentN ∨ n = symrefN) ∧ v ≠ [] ∧ (ofL n ∉ ns ∧ Runs (ns ++ [ofL n]) R ns' ∨ n = symrefN ∧ symS ∈ ns ∧ Runs ns R ns') := by
  generalize hq : p :: R = q at h
  cases h with
  | nil => cases hq
  | plain h1 h2 h3 => cases hq; exact .inl ⟨h1, h2, h3⟩
  | val h1 h2 h3 h4 => cases hq; exact .inr ⟨_, _, rfl, h1, h2, .inl ⟨h3, h4⟩⟩
  | again h1 h2 h3 => cases hq; exact .inr ⟨_, _, rfl, .inr rfl, h1, .inr ⟨rfl, h2, h3⟩⟩
theorem runs_end {ns ns' : List ByteArray} (h : Runs ns [] ns') : ns = ns' := by cases h; rfl
theorem LS.nil_ {w0 w w' : World} {lb mb N : Nat} {ns : List ByteArray} (h : LS w0 lb mb N ns w) (hk : Kept [] w w') : LS w0 lb mb N ns w' := by obtain ⟨f, sv, xs, h⟩ := h; exact ⟨f, sv, xs, h.nil_ hk⟩
theorem LS.more {w0 w : World} {lb mb N M : Nat} {ns : List ByteArray} (h : LS w0 lb mb N ns w) (hM : N ≤ M) : LS w0 lb mb M ns w := by obtain ⟨f, sv, xs, h⟩ := h; exact ⟨f, sv, xs, h.more hM⟩
theorem LS.kept {w0 w : World} {lb mb N : Nat} {ns : List ByteArray} (h : LS w0 lb mb N ns w) : Kept [lb, mb] w0 w := by obtain ⟨f, sv, xs, h⟩ := h; exact h.kept
theorem one_byte (w : World) (c : UInt8) : Bytes (w.alloc (.cells #[.int .u8 c.toNat] 5)) (w.heap.size + 1) (some ⟨w.heap.size, 0, none⟩) 1 [c] :=
  ⟨⟨rfl, fun _ => ⟨_, rfl, by simp, fun j u hu => by
    rw [Lib.addr_add, Nat.zero_add, Lib.cell_of_heap (heap_alloc_new w _) j, ← hu]
    simp [byteCells]⟩⟩, fun _ => ⟨_, _, rfl⟩⟩
def Decoded (lb mb : Nat) (ns : List ByteArray) (w : World) (e : Ending) (w' : World) : Prop := e = .returned .nilIface ∧ (∃ w0 N, LS w0 lb mb N ns w') ∧ Kept [lb, mb] w w'
set_option maxRecDepth 100000 in
set_option maxHeartbeats 16000000 in
theorem decode_calls (lb mb B0 b o c : Nat) (W : List (List UInt8)) (ns' : List ByteArray) (w : World) (hL : Blk w lb ListT #[.map (some mb), .slice none 0 0]) (hM : MapF Tryd.prog CapT w mb 0 (fun _ => none)) (hbl : B0 ≤ lb) (hbm : B0 ≤ mb)
    (hB : Bytes w B0 (some ⟨b, o, none⟩) (W.foldl addT []).length (W.foldl addT [])) (hc : (W.foldl addT []).length ≤ c) (hW : (∀ s ∈ W, Ink s) ∧ W.length ≤ 3600) (hR : Runs [] W ns') (htab : Lib.TabIs Tryd.prog w "bytes.asciiSpace" .u8 Lib.asciiSpaceTab) :
    Calls Tryd.prog 47 #[.pointer (some ⟨lb, 0, none⟩), .slice (some ⟨b, o, none⟩) (W.foldl addT []).length c] w (Decoded lb mb ns' w) := by
  obtain ⟨T, hT⟩ : ∃ T, T = W.foldl addT [] := ⟨_, rfl⟩
  have hz : T.length ≤ 500000 := by have h1 := text_len hW.1; rw [← hT] at h1; have := hW.2; omega
  have hTr : Trim T := ⟨by rw [hT]; exact text_ascii hW.1, fun h => by
    have hW0 : W ≠ [] := by rintro rfl; exact h hT
    obtain ⟨T', e, h1, h2⟩ := text_ends hW.1 hW0
    rw [← hT] at e
    subst e
    exact ⟨h1, h2⟩⟩
  have hlsf : LSF w lb mb 0 [] (fun _ => none) (.slice none 0 0) [] w := LSF.mk (Kept.refl _ _) hL.lt hM.lt (Nat.le_refl _) hM hL (World.ownsRow_nil _ _ _ _) (by simp) (fun v hv => by cases hv)
  rw [← hT] at hB hc ⊢
  have ct := hid (trim_calls b o c T w B0 hB hc (by omega) hTr htab)
  have HH := hid (And.intro hL (And.intro hM (And.intro hbl hbm)))
  have HB := hid hB
  have HW := hid hW
  have HR := hid hR
  have HLS := hid hlsf
  have HC := hid hc
  have HT := hid hT
  by_cases h0 : T = []
  · have hW0 : W = [] := by
      cases hWW : W with
      | nil => rfl
      | cons a l => exact absurd (hT.symm.trans h0) (text_ne hW.1 (by rw [hWW]; simp))
    rw [hW0] at hR
    have hns : ns' = [] := by cases hR; rfl
    subst h0
    rw [if_pos rfl] at ct
    clear hL hM hbl hbm hB hc hW hR htab hTr hlsf hT hW0 hz
    go_enter Tryd.func47, Tryd.ntmps47
    go_wp2_with fail
    refine ct.out.mono ?_
    rintro e w1 ⟨rfl, hw1⟩
    obtain rfl : w = w1 := hw1.symm
    clear hw1
    go_wp2_with fail
    go_ret
    exact ⟨rfl, ⟨w, 0, by rw [hns]; exact ⟨_, _, _, HLS.out⟩⟩, Kept.refl _ _⟩
  · rw [if_neg h0] at ct
    obtain ⟨n, hn⟩ : ∃ n, n = T.length := ⟨_, rfl⟩
    have hn0 : ¬ (n : Int) = 0 := by have := List.length_pos_iff.2 h0; omega
    have hn1 : ((n : Int) == 0) = false := beq_eq_false_iff_ne.2 hn0
    have hpc : pieces 32 T = W := by
      rw [hT]; exact text_pieces hW.1 (by rintro rfl; exact h0 hT)
    have HPC := hid hpc
    have HN := hid hn
    rw [← hn] at ct hz hc HB ⊢
    have hz' : (n : Int) ≤ 500000 := by omega
    clear hL hM hbl hbm hB hW hR htab hTr hlsf hT h0 hpc hn
    go_enter Tryd.func47, Tryd.ntmps47
    go_wp2_with fail
    refine ct.out.mono ?_
    rintro e w1 ⟨rfl, hw1⟩
    obtain rfl : w = w1 := hw1.symm
    clear hw1 ct
    go_wp2_with fail
    obtain ⟨wa, hwa⟩ : ∃ wa, wa = w.alloc (.cells #[.int .u8 32] 5) := ⟨_, rfl⟩
    have hka : Kept [] w wa := by rw [hwa]; exact (Kept.refl [] w).alloc _
    have hza : wa.heap.size = w.heap.size + 1 := by rw [hwa]; simp
    have hb0 : B0 ≤ w.heap.size := by have := HH.out.1.lt; have := HH.out.2.2.1; omega
    have hsep : Bytes wa wa.heap.size (some ⟨w.heap.size, 0, none⟩) 1 [32] := by rw [hza, hwa]; exact one_byte w 32
    have hBa : Bytes wa B0 (some ⟨b, o, none⟩) n T := HB.out.below (hka.below hb0 (by simp))
    rw [← hwa]
    refine (splitAll_calls B0 (some ⟨b, o, none⟩) n c 1 (some ⟨w.heap.size, 0, none⟩) 32 T wa (by omega) hBa hc (by omega) hsep).mono ?_
    rintro e w2 ⟨hb2, out, vs, rfl, hown, hrows⟩
    rw [HPC.out] at hown hrows
    obtain ⟨A, ca, rfl⟩ := own_shape hown
    obtain ⟨m, hm⟩ : ∃ m, m = W.length := ⟨_, rfl⟩
    rw [← hm] at hown ⊢
    have hm3 : m ≤ 3600 := by rw [hm]; exact HW.out.2
    have hm3' : (m : Int) ≤ 3600 := by omega
    have HM := hid hm
    have hk2 : Kept [] w w2 := hka.trans_ (.of_below hb2)
    have hne : lb ≠ mb := map_ne HH.out.2.1 HH.out.1
    have HLS2 : Hid (LS w2 lb mb 0 [] w2) := hid ⟨_, _, [], LSF.mk (Kept.refl _ _) (Nat.lt_of_lt_of_le HH.out.1.lt hk2.size) (Nat.lt_of_lt_of_le HH.out.2.1.lt hk2.size) (Nat.le_refl 0) (HH.out.2.1.heap (hk2.block mb HH.out.2.1.lt (by simp))) (HH.out.1.kept hk2 (by simp)) (World.ownsRow_nil _ _ _ _) (by simp) (fun v hv => by cases hv)⟩
    have HP : Hid (∀ wr, Kept [lb, mb] w2 wr → ∀ k, k < m → ∃ g D d p, A = some ⟨g, 0, none⟩ ∧ wr.cell? ⟨g, k, none⟩ = some (.slice D p.length d) ∧ W[k]? = some p ∧ p.length ≤ d ∧ Bytes wr B0 D p.length p) := hid (fun wr hk k hkm =>
      pieces_at (own_kept hown hk (fun x hx => by
        have h1 := (hown.lt x hx).1
        have h2 := HH.out.1.lt
        have h3 := HH.out.2.1.lt
        simp; omega)) hrows ((below_le hb2 (by omega)).trans (hk.below (by have := hk2.size; omega) (by intro x hx; have h1 := HH.out.2.2.1; have h2 := HH.out.2.2.2; simp at hx; rcases hx with rfl | rfl <;> assumption))) hkm)
    have HK2 := hid hk2
    have HB0 := hid (show B0 ≤ w2.heap.size by have := hk2.size; omega)
    clear hb2 hown hrows hk2 hka hza hb0 hsep hBa hwa hne hm HB HPC HLS
    go_wp2_with fail
    go_loopw [20] (fun iv wr => ∃ (k : Nat) (ns : List ByteArray), k ≤ m ∧ iv = .int .i64 k ∧ Hid (LS w2 lb mb (2 * k) ns wr) ∧ Hid (Runs ns (W.drop k) ns')) (fun iv _ => m - (RowKit.intOf iv).toNat)
    case atStart => exact ⟨0, [], by omega, rfl, HLS2, HR⟩
    case round =>
      obtain ⟨k, ns, hk, rfl, hLS, hRu⟩ := hrel
      obtain ⟨wo, rfl⟩ : ∃ wo, wo = wr := ⟨_, rfl⟩
      by_cases hlt : k < m
      · obtain ⟨g, D, d, p, rfl, hcell, hp, hpd, hby⟩ := HP.out wo hLS.out.kept k hlt
        have hlt' : (k : Int) < m := by omega
        have hdrop : W.drop k = p :: W.drop (k + 1) := by
          obtain ⟨h1, h2⟩ := List.getElem?_eq_some_iff.1 hp
          rw [List.drop_eq_getElem_cons h1, h2]
        have hru := hRu.out
        rw [hdrop] at hru
        have hp121 := (HW.out.1 p (List.mem_of_getElem? hp)).2.2
        obtain ⟨q, hq⟩ : ∃ q, q = p.length := ⟨_, rfl⟩
        rw [← hq] at hcell hpd hby hp121
        have HBY := hid hby
        have HRU := hid hru
        have HQ := hid hq
        clear hby hru hdrop hp hRu hq
        go_wp2_with fail
        obtain ⟨wa, hwa⟩ : ∃ wa, wa = wo.alloc (.cells #[.int .u8 61] 5) := ⟨_, rfl⟩
        have hka : Kept [] wo wa := by rw [hwa]; exact (Kept.refl [] wo).alloc _
        have hza : wa.heap.size = wo.heap.size + 1 := by rw [hwa]; simp
        have hko := hLS.out.kept.size
        have hb0 : B0 ≤ wo.heap.size := by have := HB0.out; omega
        have hsep : Bytes wa wa.heap.size (some ⟨wo.heap.size, 0, none⟩) 1 [61] := by rw [hza, hwa]; exact one_byte wo 61
        have hBa : Bytes wa B0 D q p := HBY.out.below (hka.below hb0 (by simp))
        rw [← hwa]
        refine (splitTwo_calls B0 D q d 1 (some ⟨wo.heap.size, 0, none⟩) 61 p wa (by omega) hBa hpd (by omega) hsep).mono ?_
        rintro e w3 ⟨hb3, out2, vs2, rfl, hown, hrows⟩
        obtain ⟨A2, c2, rfl⟩ := own_shape hown
        have HLS3 := hid (hLS.out.nil_ (hka.trans_ (.of_below hb3)))
        have hb3' : Below B0 wa w3 := below_le hb3 (by omega)
        have hk72 : 2 * k ≤ 7200 := by omega
        rcases runs_cons HRU.out with ⟨hpl, hnew, hR2⟩ | ⟨nm, v, hpv, hnm, hv0, hR2⟩
        · have hcut : cutAt 61 p = [p] := by rw [cutAt_is]; exact cut2_name (some1_plain p hpl)
          rw [hcut] at hown hrows ⊢
          obtain ⟨g2, D2, d2, p2, rfl, hc0, hp0, _, hby2⟩ := pieces_at hown hrows hb3' (k := 0) (by simp)
          obtain rfl : p = p2 := by simpa using hp0
          have hcv : (convert 28 CapT (.slice D2 p.length d2)).run Tryd.prog w3 = .ok (.string (ofL p)) w3 := cap_of_bytes hby2
          have hkn := plain_known p hpl
          have ca := hid (addNew0_calls w2 lb mb (2 * k) ns (ofL p) w3 HLS3.out (by rw [ofL_size]; omega) (by omega) hkn.1 hkn.2.1 hnew)
          have HR2 := hid hR2
          obtain ⟨q2, hq2⟩ : ∃ q2, q2 = p.length := ⟨_, rfl⟩
          rw [← hq2] at hc0 hcv
          obtain ⟨s, hs⟩ : ∃ s, s = ofL p := ⟨_, rfl⟩
          rw [← hs] at hcv ca HR2
          clear hown hrows hb3 hb3' hby2 hp0 hcut hwa hka hza hsep hBa hpl hnew hR2 hkn hcell hpd hko hb0 hq2 hs HLS3 HBY HRU
          go_wp2_with fail
          refine ca.out.mono ?_
          rintro e w4 ⟨rfl, hls4⟩
          have HLS4 := hid (hls4.more (show 2 * k + 1 ≤ 2 * (k + 1) by omega))
          clear hls4 ca
          go_wp2_with fail
          go_roundw
          case rel => exact ⟨k + 1, ns ++ [s], by omega, by go_num, HLS4, HR2⟩
          case measure => simp [RowKit.intOf]; omega
        · have hs1 := some1_val nm hnm
          have hcut : cutAt 61 p = [nm, v] := by rw [cutAt_is, hpv]; exact cut2_val hs1
          rw [hcut] at hown hrows ⊢
          obtain ⟨g2, D2, d2, p2, rfl, hc0, hp0, _, hby2⟩ := pieces_at hown hrows hb3' (k := 0) (by simp)
          obtain rfl : nm = p2 := by simpa using hp0
          obtain ⟨g3, D3, d3, p3, hA3, hc1, hp1, _, hby3⟩ := pieces_at hown hrows hb3' (k := 1) (by simp)
          obtain rfl : v = p3 := by simpa using hp1
          obtain rfl : g2 = g3 := by cases hA3; rfl
          have hcv : (convert 28 CapT (.slice D2 nm.length d2)).run Tryd.prog w3 = .ok (.string (ofL nm)) w3 := cap_of_bytes hby2
          have hcw : (convert 28 9 (.slice D3 v.length d3)).run Tryd.prog w3 = .ok (.string (ofL v)) w3 := text_of_bytes hby3
          have hkn := val_known nm hnm
          have ca : ∃ ns2, Hid (Calls Tryd.prog 71 #[.pointer (some ⟨lb, 0, none⟩), .string (ofL nm), .slice (some ⟨w3.heap.size, 0, none⟩) 1 1] (w3.alloc (.cells #[.string (ofL v)] StrT)) (Done w2 lb mb (2 * k + 2) ns2)) ∧ Hid (Runs ns2 (W.drop (k + 1)) ns') := by
            rcases hR2 with ⟨hnew, hR2⟩ | ⟨hsy, hin, hR2⟩
            · exact ⟨_, hid (addNew1_calls w2 lb mb (2 * k) ns (ofL nm) v w3 HLS3.out (by rw [ofL_size]; have := hs1.2.2; omega) (by omega) hkn.1 hkn.2.1 hnew hv0), hid hR2⟩
            · exact ⟨_, hid ((addOld_calls w2 lb mb (2 * k) ns (ofL nm) v w3 HLS3.out (by rw [hsy]; exact symS_is) (by omega) hin hv0).mono fun e w' h => ⟨h.1, h.2.more (by omega)⟩), hid hR2⟩
          obtain ⟨ns2, ca, HR2⟩ := ca
          obtain ⟨q2, hq2⟩ : ∃ q2, q2 = nm.length := ⟨_, rfl⟩
          obtain ⟨q3, hq3⟩ : ∃ q3, q3 = v.length := ⟨_, rfl⟩
          rw [← hq2] at hc0 hcv
          rw [← hq3] at hc1 hcw
          obtain ⟨s, hs⟩ : ∃ s, s = ofL nm := ⟨_, rfl⟩
          obtain ⟨t, ht⟩ : ∃ t, t = ofL v := ⟨_, rfl⟩
          rw [← hs] at hcv ca
          rw [← ht] at hcw ca
          clear hown hrows hb3 hb3' hby2 hby3 hp0 hp1 hA3 hcut hwa hka hza hsep hBa hpv hnm hv0 hR2 hkn hs1 hcell hpd hko hb0 hq2 hq3 hs ht HLS3 HBY HRU
          go_wp2_with fail
          refine ca.out.mono ?_
          rintro e w4 ⟨rfl, hls4⟩
          have HLS4 := hid (hls4.more (show 2 * k + 2 ≤ 2 * (k + 1) by omega))
          clear hls4 ca
          go_wp2_with fail
          go_roundw
          case rel => exact ⟨k + 1, ns2, by omega, by go_num, HLS4, HR2⟩
          case measure => simp [RowKit.intOf]; omega
      · have hlt' : ¬ (k : Int) < m := by omega
        have hru := hRu.out
        rw [List.drop_eq_nil_of_le (by have := HM.out; omega)] at hru
        obtain rfl := runs_end hru
        clear hru hRu
        go_wp2_with fail
        go_ret
        exact ⟨rfl, ⟨w2, _, hLS.out⟩, (HK2.out.more (T := [lb, mb]) (by simp)).trans_ hLS.out.kept⟩
end Go.Proofs.YtoihglnamclhfaaDoor.cap
