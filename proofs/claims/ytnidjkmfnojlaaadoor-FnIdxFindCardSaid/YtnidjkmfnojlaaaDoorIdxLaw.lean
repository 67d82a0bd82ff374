/- laws.FnIdxFind. -/
import Derived.Test.YtnidjkmfnojlaaaDoorIdxGet
import Derived.Test.YtnidjkmfnojlaaaDoorFileName

set_option linter.unusedVariables false
attribute [local go_sem ↓] Go.wp_at_zero Go.wp_at_succ
namespace Go.Proofs.YtnidjkmfnojlaaaDoor.idx
open Go.RowKit Lib frm mem opn hash strs
attribute [local go_sem] FileD.cells
set_option maxRecDepth 100000 in
set_option maxHeartbeats 4000000 in
theorem law_calls (c3 : FileOf) (A : Option Addr) (n c : Nat) (fs : List FileD) (nm : ByteArray) (w : World) (hF : Files w w.heap.size A n fs) (hok : ∀ f ∈ fs, f.Ok) (hn : n ≤ 140737488355328) (hnm : nm.size ≤ 140737488351232)
    (ev : Value) (hE : w.cell? ⟨7, 0, none⟩ = some ev) (hlt : 7 < w.heap.size)
    (t : TypeId) (pv : Value) (hN : w.cell? ⟨0, 0, none⟩ = some (.iface t pv)) (hlt2 : 0 < w.heap.size) :
    Calls Tryd.prog 3 #[.slice A n c, .string nm] w fun e w' => e = .returned (.bool true) ∧ Below w.heap.size w w' := by
  have HF := hid hF
  go_enter Tryd.func3, Tryd.ntmps3
  go_wp2_with fail
  refine (fits17_calls A n c fs w hF hn).mono ?_
  rintro e w1 ⟨⟨b1, rfl⟩, hk1⟩
  have HE := hid hE
  have HN := hid hN
  have HOK := hid hok
  have HK1 := hid hk1
  clear hE hN hok hk1 hF
  cases b1 with
  | false =>
    go_wp2_with fail
    go_ret
    exact ⟨rfl, HK1.out.nil_below⟩
  | true =>
  by_cases hbig : nm.size ≤ 2147483647
  · have e0 : decide ((2147483647 : Int) < (nm.size : Int)) = false := decide_eq_false (by omega)
    go_wp2_with fail
    refine (are_calls A n c fs w1 ⟨(HF.out.1.keep fun p hp => HK1.out.cell hp (by simp)).more HK1.out.size, HF.out.2⟩ HOK.out hn).mono ?_
    rintro e w2 ⟨hk2, b2, rfl, hg⟩
    have HK2 := hid (HK1.out.trans_ hk2)
    clear hk2
    cases b2 with
    | false =>
      go_wp2_with fail
      go_ret
      exact ⟨rfl, HK2.out.nil_below⟩
    | true =>
      obtain ⟨hlen, hpl⟩ := hg rfl
      have HP := hid hpl
      have hl : fs.length = n := HF.out.2.1
      have hn1 : n ≤ 1000 := by omega
      clear hpl hg
      go_wp2_with fail
      refine (isFileName_calls nm w2 hnm).mono ?_
      rintro e w3 ⟨rfl, rfl⟩
      cases hfn : fnameB nm with
      | false =>
        clear hfn
        go_wp2_with fail
        go_ret
        exact ⟨rfl, HK2.out.nil_below⟩
      | true =>
        clear hfn
        go_wp2_with fail
        refine (findFile_calls c3 A n c fs nm w3 ⟨(HF.out.1.keep fun p hp => HK2.out.cell hp (by simp)).more HK2.out.size, HF.out.2⟩ hn1 HP.out ev ((HK2.out.cell (p := ⟨7, 0, none⟩) hlt (by simp)).trans HE.out) (Nat.lt_of_lt_of_le hlt HK2.out.size) t pv ((HK2.out.cell (p := ⟨0, 0, none⟩) hlt2 (by simp)).trans HN.out) (Nat.lt_of_lt_of_le hlt2 HK2.out.size)).mono ?_
        rintro e w4 ⟨hk4, ⟨f, hfo, rfl⟩ | ⟨hno, rfl⟩⟩
        · have HK4 := hid (HK2.out.trans_ hk4)
          have HFo := hid hfo
          clear hk4 hfo
          go_wp2_with fail
          go_loopw [33] (fun iv wr => ∃ k : Nat, k ≤ n ∧ iv = .int .i64 k ∧ Hid (Kept [] w wr) ∧ Hid (Blk wr w4.heap.size Fty f.cells.toArray) ∧ Hid (∀ (j : Nat) (x : FileD), j < k → fs[j]? = some x → x.name ≠ nm)) (fun iv _ => n - (RowKit.intOf iv).toNat)
          case atStart => exact ⟨0, by omega, rfl, hid (HK4.out.alloc _), hid (Blk.new w4 Fty f.cells.toArray), hid (fun j x hj => absurd hj (by omega))⟩
          case round =>
            obtain ⟨k, hk, rfl, hK, hBf, hP⟩ := hrel
            by_cases hlt : k < n
            · obtain ⟨g, o, x, rfl, hg, hfk, hmem, hc⟩ := HF.out.at_ hlt
              have HR : Hid (wr.rangeAt g (o + k * 15) x.cells) := hid (cells_kept hK.out hg hc)
              have HFk := hid hfk
              clear hc hmem hfk
              by_cases hx : x.name = nm
              · have hxf : x = f := by
                  obtain ⟨i, h1, h2, h3⟩ := HFo.out
                  rcases Nat.lt_trichotomy i k with h | h | h
                  · exact absurd h2 (hP.out i f h h1)
                  · subst h; rw [HFk.out] at h1; cases h1; rfl
                  · exact absurd hx (h3 k x h HFk.out)
                have e1 : (x.name.toList == nm.toList) = true := by rw [hx]; exact beq_self_eq_true _
                subst hxf
                clear hx
                go_wp2_with (first
                      | (refine wpList_load_mid rfl Fty (.tmp 35) rfl g (o + k * 15) rfl x.cells _ HR.out Tryd.underlying29 rfl infoFile ?_)
                      | (refine wpList_store_kept rfl Fty (.tmp 8) (.tmp 36) rfl wr.heap.size x.cells.toArray rfl rfl Fty _ (Blk.new wr Fty _) (file_sz x) rfl (file_all x) ?_; intro w5 h1 h2 h3; have HK5 := hid ((hK.out.alloc _).trans h2.out (by simp; exact hK.out.size)); have HB5 := hid (((hBf.out.alloc _).kept h2.out (by have := hBf.out.lt; simp; omega))); have HX5 := hid h1.out; have c11 := h1.out.cell 11 rfl; obtain ⟨p0, p1, p2, p3, p4, p5, p6, p7, p8, p9, p10, p11, p12, p13, p14⟩ := blk15 HB5.out; obtain ⟨q0, q1, q2, q3, q4, q5, q6, q7, q8, q9, q10, q11, q12, q13, q14⟩ := blk15 HX5.out; clear h1 h2 h3)
                      | fail)
                go_ret
                exact ⟨rfl, HK5.out.nil_below⟩
              · have e1 : (x.name.toList == nm.toList) = false := by rw [beq_eq_false_iff_ne]; exact fun h => hx (list_inj h)
                have HX := hid hx
                clear hx
                go_wp2_with (first
                      | (refine wpList_load_mid rfl Fty (.tmp 35) rfl g (o + k * 15) rfl x.cells _ HR.out Tryd.underlying29 rfl infoFile ?_)
                      | (refine wpList_store_kept rfl Fty (.tmp 8) (.tmp 36) rfl wr.heap.size x.cells.toArray rfl rfl Fty _ (Blk.new wr Fty _) (file_sz x) rfl (file_all x) ?_; intro w5 h1 h2 h3; have HK5 := hid ((hK.out.alloc _).trans h2.out (by simp; exact hK.out.size)); have HB5 := hid (((hBf.out.alloc _).kept h2.out (by have := hBf.out.lt; simp; omega))); have HX5 := hid h1.out; have c11 := h1.out.cell 11 rfl; clear h1 h2 h3)
                      | fail)
                go_roundw
                case rel => exact ⟨k + 1, by omega, by go_num, HK5, HB5, hid (fun j y hj hy => by rcases Nat.lt_succ_iff_lt_or_eq.mp hj with h | rfl; exact hP.out j y h hy; rw [HFk.out] at hy; cases hy; exact HX.out)⟩
                case measure => simp [RowKit.intOf]; omega
            · obtain ⟨i, h1, h2, -⟩ := HFo.out
              exact absurd h2 (hP.out i f (by have := (List.getElem?_eq_some_iff.1 h1).1; omega) h1)
        · have HK4 := hid (HK2.out.trans_ hk4)
          have HNo := hid hno
          clear hk4 hno
          go_wp2_with fail
          go_loopw [33] (fun iv wr => ∃ k : Nat, k ≤ n ∧ iv = .int .i64 k ∧ Hid (Kept [] w wr) ∧ Hid (Blk wr w4.heap.size Fty zeroF.cells.toArray) ∧ Hid (∀ (j : Nat) (x : FileD), j < k → fs[j]? = some x → x.name ≠ nm)) (fun iv _ => n - (RowKit.intOf iv).toNat)
          case atStart => exact ⟨0, by omega, rfl, hid (HK4.out.alloc _), hid (Blk.new w4 Fty zeroF.cells.toArray), hid (fun j x hj => absurd hj (by omega))⟩
          case round =>
            obtain ⟨k, hk, rfl, hK, hBf, hP⟩ := hrel
            by_cases hlt : k < n
            · obtain ⟨g, o, x, rfl, hg, hfk, hmem, hc⟩ := HF.out.at_ hlt
              have HR : Hid (wr.rangeAt g (o + k * 15) x.cells) := hid (cells_kept hK.out hg hc)
              have HFk := hid hfk
              clear hc hmem hfk
              have hx : x.name ≠ nm := HNo.out x (List.mem_of_getElem? HFk.out)
              have e1 : (x.name.toList == nm.toList) = false := by rw [beq_eq_false_iff_ne]; exact fun h => hx (list_inj h)
              have HX := hid hx
              clear hx
              go_wp2_with (first
                    | (refine wpList_load_mid rfl Fty (.tmp 35) rfl g (o + k * 15) rfl x.cells _ HR.out Tryd.underlying29 rfl infoFile ?_)
                    | (refine wpList_store_kept rfl Fty (.tmp 8) (.tmp 36) rfl wr.heap.size x.cells.toArray rfl rfl Fty _ (Blk.new wr Fty _) (file_sz x) rfl (file_all x) ?_; intro w5 h1 h2 h3; have HK5 := hid ((hK.out.alloc _).trans h2.out (by simp; exact hK.out.size)); have HB5 := hid (((hBf.out.alloc _).kept h2.out (by have := hBf.out.lt; simp; omega))); have HX5 := hid h1.out; have c11 := h1.out.cell 11 rfl; clear h1 h2 h3)
                    | fail)
              go_roundw
              case rel => exact ⟨k + 1, by omega, by go_num, HK5, HB5, hid (fun j y hj hy => by rcases Nat.lt_succ_iff_lt_or_eq.mp hj with h | rfl; exact hP.out j y h hy; rw [HFk.out] at hy; cases hy; exact HX.out)⟩
              case measure => simp [RowKit.intOf]; omega
            · go_wp2_with fail
              go_ret
              exact ⟨rfl, hK.out.nil_below⟩
  · have e0 : decide ((2147483647 : Int) < (nm.size : Int)) = true := decide_eq_true (by omega)
    go_wp2_with fail
    go_ret
    exact ⟨rfl, HK1.out.nil_below⟩
end Go.Proofs.YtnidjkmfnojlaaaDoor.idx
