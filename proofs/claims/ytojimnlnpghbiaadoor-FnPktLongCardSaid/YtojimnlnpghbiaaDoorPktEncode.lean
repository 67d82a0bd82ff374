/- Lines written by the encoder; FnPktWritten, walked. -/
import Derived.Test.YtojimnlnpghbiaaDoorPktEnc
set_option linter.unusedVariables false
attribute [local go_sem ↓] Go.wp_at_zero Go.wp_at_succ
namespace Go.Proofs.YtojimnlnpghbiaaDoor.pkt
open Go.RowKit Lib frm mem rd text

theorem below_draws {w w' : World} {B : Nat} (h : ∃ k, w' = w.drewN k) : Below B w w' := by obtain ⟨k, rfl⟩ := h; exact ⟨rfl, rfl, rfl, Nat.le_refl _, fun _ _ => rfl⟩
set_option maxRecDepth 100000 in
set_option maxHeartbeats 2000000 in
theorem encode_calls (B b ge : Nat) (A : Option Addr) (n c : Nat) (ls : List (List UInt8)) (w0 w : World) (h : EncSt B b ge [] w0 w) (hA : Rows w0 B A n ls) (hn : n ≤ 1000) (hg : ∀ p ∈ ls, p.length ≤ 65516) :
    Calls Tryd.prog 22 #[.pointer (some ⟨ge, 0, none⟩), .slice A n c] w (Enc1 B b ge (lines ls) w0) := by
  have H := hid hA
  have HS := hid h
  have HG := hid hg
  have hn' : (n : Int) ≤ 1000 := by omega
  have HN := hid hn
  clear h hA hg hn
  go_enter Tryd.func22, Tryd.ntmps22
  go_wp2_with fail
  go_loopw [10] (fun iv wr => ∃ k : Nat, k ≤ n ∧ iv = .int .i64 (k : Int) ∧ EncSt B b ge (lines (ls.take k)) w0 wr) (fun iv _ => n - (RowKit.intOf iv).toNat)
  case atStart => exact ⟨0, by omega, rfl, HS.out⟩
  case round =>
    obtain ⟨k, hk, rfl, hst⟩ := hrel
    have HT := hid hst
    clear hst
    by_cases hlt : k < n
    · obtain ⟨g, o, D, d, p, rfl, hgl, hc, _, hp, hpd, hbp⟩ := (H.out.below HT.out.below).next hlt
      obtain ⟨g', o', D', d', p', hA', _, hc', _, hp', hpd', hbp'⟩ := H.out.next hlt
      injection hA' with hA'
      obtain ⟨rfl, rfl⟩ : g = g' ∧ o = o' := by injection hA' with h1 h2; exact ⟨h1, h2⟩
      obtain rfl : p = p' := by rw [hp] at hp'; injection hp'
      have hDD : D' = D := by
        have := HT.out.below.cell (p := ⟨g, o + k, none⟩) hgl
        rw [hc, hc'] at this
        injection this with this
        injection this with h1 h2 h3
        exact h1.symm
      subst hDD
      have hpg := HG.out p (List.mem_of_getElem? hp)
      have hlk := lines_len (ls.take k) (fun q hq => HG.out q (List.mem_of_mem_take hq))
      have hts : Hid (lines (ls.take (k + 1)) = lines (ls.take k) ++ line p) := hid (by rw [take_snoc hp, lines_append]; simp [lines])
      have c1 := hid (encodeLine_calls B b ge D' d (lines (ls.take k)) p w0 wr HT.out hbp' hpg (by have : (ls.take k).length ≤ k := List.length_take_le _ _; have := HN.out; omega))
      have hlt' : (k : Int) < n := by omega
      clear hp hpd hbp hpg hlk hp' hpd' hbp' hc'
      go_wp2_with fail
      refine c1.out.mono ?_
      rintro e w1 ⟨rfl, hst⟩
      have HST := hid hst
      clear hst c1
      go_wp2_with fail
      go_roundw
      case rel =>
        refine ⟨k + 1, by omega, by go_num, ?_⟩
        rw [hts.out]
        exact HST.out
      case measure => simp [RowKit.intOf]; omega
    · have hlt' : ¬ (k : Int) < n := by omega
      have hkn : ls.take k = ls := List.take_of_length_le (by have := H.out.len; omega)
      have HKN := hid hkn
      clear hkn
      go_wp2_with fail
      go_ret
      refine ⟨rfl, ?_⟩
      have := HT.out
      rw [HKN.out] at this
      exact this
def Fresh (w0 : World) (b : Nat) (e : Ending) (w' : World) : Prop := ∃ ge, e = .returned (.pointer (some ⟨ge, 0, none⟩)) ∧ EncSt b b ge [] w0 w'
set_option maxRecDepth 100000 in
theorem newEnc_calls (w w1 : World) (hF : IsBuffer 44 5 w.heap.size w.heap.size [] w1) (hB : Below w.heap.size w w1) :
    Calls Tryd.prog 21 #[.iface 49 (.pointer (some ⟨w.heap.size, 0, none⟩))] w1 (Fresh w w.heap.size) := by
  have HF := hid hF
  have HB := hid hB
  clear hF hB
  go_enter Tryd.func21, Tryd.ntmps21
  go_wp2_with fail
  go_ret
  exact ⟨_, rfl, HF.out.old ((Below.refl _ _).alloc (Nat.le_refl _) _), heap_alloc_new w1 _, HB.out.alloc HB.out.size _⟩
/-- bytes of the call's own, and that they are right -/
def OwnOk (w : World) (l : List UInt8) (e : Ending) (w' : World) : Prop := Below w.heap.size w w' ∧ ∃ v, e = .returned (.tuple #[v, .bool true]) ∧ w'.ownsRow w.heap.size 5 1 v l.length (byteCells l)
set_option maxRecDepth 100000 in
set_option maxHeartbeats 2000000 in
theorem writeLines_calls (A : Option Addr) (n c : Nat) (ls : List (List UInt8)) (w : World) (hA : Rows w w.heap.size A n ls) (hn : n ≤ 1000) (hg : ∀ p ∈ ls, p.length ≤ 65516) :
    Calls Tryd.prog 9 #[.slice A n c] w (OwnOk w (lines ls)) := by
  have c2 := hid (fun b ge (w' : World) (h : EncSt w.heap.size b ge [] w w') => encode_calls w.heap.size b ge A n c ls w w' h hA hn hg)
  have hF := hid (fresh_isBuffer 44 5 w)
  have hB := hid ((Below.refl w.heap.size w).alloc (Nat.le_refl _) (.cells #[.slice none 0 0, .int .i64 0, .int .i8 0] 44))
  clear hA hn hg
  go_enter Tryd.func9, Tryd.ntmps9
  go_wp2_with fail
  have hB0 := hid hB
  generalize hw1 : w.alloc _ = w1 at *
  refine (newEnc_calls w w1 hF.out hB.out).mono ?_
  rintro e w2 ⟨ge, rfl, hst⟩
  have HS := hid hst
  clear hst
  go_wp2_with fail
  refine (c2.out _ _ _ HS.out).mono ?_
  rintro e w3 ⟨rfl, hst⟩
  have HT := hid hst
  have c3 := hid (fun (w' : World) h => Tryd.Buffer_Bytes w.heap.size w.heap.size (byteCells (lines ls)) w' h)
  have HB := hid hst.drew.buf
  have HL := hid hst.drew.below
  clear hst c2 HS
  go_wp2_with fail
  go_region_held3 (fun _ => True) (trivial)
    ((go_at_call 23; refine (c3.out _ HB.out).mono ?_; rintro e x4 ⟨v, rfl, ho, hq⟩; have HO := hid ho; have HQ := hid hq; clear ho hq))
  all_goals
    go_wp2_with fail
    go_ret2
    exact ⟨HL.out.trans (below_draws HQ.out), _, rfl, by simpa [byteCells] using HO.out⟩
set_option maxRecDepth 100000 in
theorem deltaSame_calls (A D : Option Addr) (c d B B' : Nat) (l : List UInt8) (w : World) (h : Bytes w B A l.length l) (h' : Bytes w B' D l.length l) :
    Calls Tryd.prog 11 #[.slice A l.length c, .slice D l.length d] w fun e w' => e = .returned (.bool true) ∧ w' = w := by
  have k1 : (convert 22 9 (.slice A l.length c)).run Tryd.prog w = .ok (.string ⟨l.toArray⟩) w := text_of_bytes h
  have k2 : (convert 22 9 (.slice D l.length d)).run Tryd.prog w = .ok (.string ⟨l.toArray⟩) w := text_of_bytes h'
  obtain ⟨x, hx⟩ : ∃ x : ByteArray, x = ⟨l.toArray⟩ := ⟨_, rfl⟩
  rw [← hx] at k1 k2
  clear hx h h'
  go_enter Tryd.func11, Tryd.ntmps11
  go_wp2_with fail
  go_ret
  exact ⟨rfl, rfl⟩
set_option maxRecDepth 100000 in
set_option maxHeartbeats 4000000 in
theorem written_calls (A : Option Addr) (n c : Nat) (ls : List (List UInt8)) (pe pu : Addr) (w : World) (hA : Rows w w.heap.size A n ls) (hn : n ≤ 140737488355328) (hT : Two w pe pu) :
    Calls Tryd.prog 4 #[.slice A n c] w (Yes w) := by
  have f1 := hid (fits19_calls A n c ls w hA hn)
  have g1 := hid (goodLines_calls A n c ls w hA hn)
  have HA := hid hA
  have HT := hid hT
  have W0 := hid (works_calls pe pu w hT)
  clear hA hn hT
  go_enter Tryd.func4, Tryd.ntmps4
  go_wp2_with fail
  refine f1.out.mono ?_
  rintro e x1 ⟨hx, b1, rfl, _⟩
  obtain rfl : w = x1 := hx.symm
  clear hx
  cases b1 with
  | false =>
    go_wp2_with fail
    go_ret
    exact ⟨rfl, Below.refl _ _⟩
  | true =>
  go_wp2_with fail
  refine g1.out.mono ?_
  rintro e x1 ⟨hx, b1, rfl, hg1⟩
  obtain rfl : w = x1 := hx.symm
  clear hx
  cases b1 with
  | false =>
    clear hg1
    go_wp2_with fail
    refine W0.out.mono ?_
    rintro e x1 ⟨rfl, hb⟩
    have HB := hid hb
    clear hb
    go_wp2_with fail
    go_ret
    exact ⟨rfl, HB.out⟩
  | true =>
  have G1 := hid (hg1 rfl)
  clear hg1 W0 g1 f1
  have p1 := hid (writeLines_calls A n c ls w HA.out G1.out.1 (fun q hq => (G1.out.2 q hq).1))
  go_wp2_with fail
  refine p1.out.mono ?_
  rintro e w1 ⟨hb1, v1, rfl, ho1⟩
  have HB1 := hid hb1
  have HO1 := hid ho1
  have p2 := hid (packetLines_calls A n c ls w1 (two_frame (B := 0) HA.out hb1) G1.out.1 G1.out.2)
  obtain ⟨A1, c1, rfl, hc1, hy1, _⟩ := own_bytes ho1
  have HY1 := hid hy1
  clear hb1 ho1 p1 hc1 hy1
  go_wp2_with fail
  refine p2.out.mono ?_
  rintro e w2 ⟨hb2, v2, rfl, ho2⟩
  obtain ⟨A2, c2, rfl, hc2, hy2, _⟩ := own_bytes ho2
  have HB2 := hid (below_more HB1.out hb2)
  have s1 := hid (deltaSame_calls A1 A2 c1 c2 _ _ (lines ls) w2 (HY1.out.below hb2) hy2)
  have W2 := hid (works_calls pe pu w2 (HT.out.below_ (below_more HB1.out hb2)))
  clear hb2 ho2 hc2 hy2 p2
  go_wp2_with fail
  refine s1.out.mono ?_
  rintro e x3 ⟨rfl, hx⟩
  obtain rfl : w2 = x3 := hx.symm
  clear hx s1
  go_wp2_with fail
  refine W2.out.mono ?_
  rintro e w8 ⟨rfl, hb8⟩
  have HB8 := hid (below_more HB2.out hb8)
  clear hb8
  go_wp2_with fail
  go_ret
  exact ⟨rfl, HB8.out⟩
end Go.Proofs.YtojimnlnpghbiaaDoor.pkt
