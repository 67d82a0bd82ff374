/- spec.ChannelText, spec.ChunkLines. -/
import Derived.Test.YtkjfndkcagkhaaaDoorSdGood
set_option linter.unusedVariables false
attribute [local go_sem ↓] Go.wp_at_zero Go.wp_at_succ
namespace Go.Proofs.YtkjfndkcagkhaaaDoor.side
open Go.RowKit Lib frm mem text pkt rd opn

/-- the bytes of a channel -/
def txt (ch : Int) (xs : List ChD) : List UInt8 := xs.flatMap fun x => if x.ch = ch then x.t else []
theorem txt_snoc (ch : Int) (xs : List ChD) (x : ChD) : txt ch (xs ++ [x]) = txt ch xs ++ (if x.ch = ch then x.t else []) := by simp [txt]
theorem txt_len (ch : Int) (xs : List ChD) (h : ∀ x ∈ xs, x.t.length ≤ 60000) : (txt ch xs).length ≤ 60000 * xs.length := by
  induction xs with
  | nil => simp [txt]
  | cons x xs ih =>
    have h1 := h x (by simp)
    have h2 := ih (fun y hy => h y (by simp [hy]))
    have e : txt ch (x :: xs) = (if x.ch = ch then x.t else []) ++ txt ch xs := by simp [txt]
    rw [e, List.length_append, List.length_cons]
    split <;> simp <;> omega
theorem take_snoc {α : Type} {l : List α} {k : Nat} {a : α} (h : l[k]? = some a) : l.take (k + 1) = l.take k ++ [a] := by
  obtain ⟨hk, e⟩ := List.getElem?_eq_some_iff.1 h
  rw [List.take_succ_eq_append_getElem hk, e]
def OwnText (w : World) (l : List UInt8) (e : Ending) (w' : World) : Prop := ∃ v, e = .returned v ∧ Below w.heap.size w w' ∧ w'.ownsRow w.heap.size U8 1 v l.length (byteCells l)
theorem own_grown {a b : World} {base size n : Nat} {e : TypeId} {v : Value} {xs : List Value} (hown : a.ownsRow base e size v n xs) (hg : a.grownBy b v.ownBlock) : Kept v.ownBlock.toList a b :=
  ⟨hg.os, hg.tape, hg.output, hg.size, fun i hi hn => hg.block i hi (fun e => hn (by rw [← e]; simp))⟩
theorem below_own {a b w : World} {size n : Nat} {e : TypeId} {v : Value} {xs : List Value} (h : Below w.heap.size w a) (hown : a.ownsRow w.heap.size e size v n xs) (hg : a.grownBy b v.ownBlock) : Below w.heap.size w b :=
  h.trans ((own_grown hown hg).below h.size (fun x hx => (hown.lt x (by simpa using hx)).1))
attribute [local go_sem] ChD.cells
set_option maxRecDepth 100000 in
set_option maxHeartbeats 4000000 in
theorem channelText_calls (B : Nat) (A : Option Addr) (n c : Nat) (xs : List ChD) (ch : Int) (w : World) (h : ChSl w B A n xs) (hB : B ≤ w.heap.size) (hn : n ≤ 60) (hl : ∀ x ∈ xs, x.t.length ≤ 60000) :
    Calls Tryd.prog 22 #[.slice A n c, .int .i64 ch] w (OwnText w (txt ch xs)) := by
  obtain ⟨i0, hi, hz0, hz1, hz2⟩ := info_parts mem.infoByte
  have hn' : (n : Int) ≤ 60 := by omega
  have H := hid h
  have HL := hid hl
  have HBB := hid hB
  have HN : Hid (n = xs.length) := hid h.1.2.1.symm
  clear h hl hn hB
  go_enter Tryd.func22, Tryd.ntmps22
  go_wp2_with fail
  go_loopw [5, 10] (fun vv iv wr => ∃ (k N : Nat), k ≤ n ∧ iv = .int .i64 k ∧ Hid (Below w.heap.size w wr) ∧ Hid (N = (txt ch (xs.take k)).length) ∧ Hid (wr.ownsRow w.heap.size U8 1 vv N (byteCells (txt ch (xs.take k))))) (fun _ iv _ => n - (RowKit.intOf iv).toNat)
  case atStart => exact ⟨0, 0, by omega, rfl, hid (Below.refl _ _), hid (by simp [txt]), hid (World.ownsRow_nil _ _ _ _)⟩
  case round =>
    obtain ⟨k, N, hk, rfl, hK, hN, hO⟩ := hrel
    by_cases hlt : k < n
    · obtain ⟨g, o, x, D, d, rfl, hxk, hmem, hR, hxt, hd, hBt⟩ := H.out.at_ (hK.out.mono HBB.out) hlt
      have HR := hid hR
      have HX := hid hxk
      have HO1 := hid (show x.tv.oneCell' = true by rw [hxt]; rfl)
      obtain ⟨q, hq⟩ : ∃ q, q = x.t.length := ⟨_, rfl⟩
      have hq' : q ≤ 60000 := by have := HL.out x hmem; omega
      have hN' : N ≤ 3600000 := by
        rw [hN.out]
        have := txt_len ch (xs.take k) (fun y hy => HL.out y (List.mem_of_mem_take hy))
        have h2 : (xs.take k).length ≤ k := by simp; omega
        omega
      rw [← hq] at hxt hBt
      have HXT := hid hxt
      have HQ := hid hq
      have HBT := hid hBt
      have hlt' : (k : Int) < n := by omega
      clear hR hxk hmem hxt hd hBt hq
      by_cases hc : x.ch = ch
      · have HC := hid hc
        clear hc
        go_wp2_with (first
          | (refine wpList_load_mid rfl Cty (.tmp 12) rfl g (o + k * 2) rfl x.cells _ HR.out Tryd.underlying73 rfl infoC ?_)
          | (refine wpList_store_kept rfl Cty (.tmp 7) (.tmp 13) rfl wr.heap.size x.cells.toArray rfl rfl Cty _ (Blk.new wr Cty _) (ch_sz x) rfl (ch_all x HO1.out) ?_; intro w2 h1 h2 h3; have q0 : w2.cell? ⟨wr.heap.size, 0, none⟩ = some (.int .i64 ch) := (by rw [← HC.out]; exact h1.out.cell 0 rfl); have q1 : w2.cell? ⟨wr.heap.size, 1, none⟩ = some (.slice D q d) := (by rw [← HXT.out]; exact h1.out.cell 1 rfl); have hk2 : Kept [] wr w2 := ((Kept.refl [] wr).alloc _).trans h2.out (by simp); have HK2 := hid (hK.out.trans (hk2.below hK.out.size (by simp))); have HO2 := hid (own_kept hO.out hk2 (by simp)); have HB2 := hid ((HBT.out.below (hk2.below (Nat.le_trans HBB.out hK.out.size) (by simp))).1); clear h1 h2 h3 hk2)
          | (at_builtin; refine wpList_append_any _ rfl (.tmp 18) (.tmp 20) _ rfl w.heap.size U8 i0 _ 1 1 Tryd.underlying25 hi hz0 hz1 hz2 (by rfl) (by omega) u5 N _ rfl HO2.out B D q d (byteCells x.t) rfl HB2.out (cells_one _) (by simp only [maxLen]; omega) (by omega) HK2.out.size ?_; intro v6 w6 hown6 hg6 hat6; have H6 := hid (And.intro hown6 hg6); clear hown6 hg6 hat6)
          | fail)
        clear q0 q1
        have hT : txt ch (xs.take (k + 1)) = txt ch (xs.take k) ++ x.t := by rw [take_snoc HX.out, txt_snoc, if_pos HC.out]
        have HN6 := hid (show N + q = (txt ch (xs.take (k + 1))).length by rw [hT, List.length_append, ← hN.out, ← HQ.out])
        have HO6 : Hid (w6.ownsRow w.heap.size U8 1 v6 (N + q) (byteCells (txt ch (xs.take (k + 1))))) := hid (by rw [hT]; have := H6.out.1; simpa [byteCells] using this)
        have HK6 := hid (below_own HK2.out HO2.out H6.out.2)
        clear hT
        go_roundw
        case rel => exact ⟨k + 1, N + q, by omega, by go_num, HK6, HN6, HO6⟩
        case measure => simp [RowKit.intOf]; omega
      · have HC := hid hc
        clear hc
        go_wp2_with (first
          | (refine wpList_load_mid rfl Cty (.tmp 12) rfl g (o + k * 2) rfl x.cells _ HR.out Tryd.underlying73 rfl infoC ?_)
          | (refine wpList_store_kept rfl Cty (.tmp 7) (.tmp 13) rfl wr.heap.size x.cells.toArray rfl rfl Cty _ (Blk.new wr Cty _) (ch_sz x) rfl (ch_all x HO1.out) ?_; intro w2 h1 h2 h3; have q0 : w2.cell? ⟨wr.heap.size, 0, none⟩ = some (.int .i64 x.ch) := h1.out.cell 0 rfl; have hne := HC.out; have hk2 : Kept [] wr w2 := ((Kept.refl [] wr).alloc _).trans h2.out (by simp); have HK2 := hid (hK.out.trans (hk2.below hK.out.size (by simp))); have HO2 := hid (own_kept hO.out hk2 (by simp)); clear h1 h2 h3 hk2)
          | fail)
        clear q0 hne
        have hT : txt ch (xs.take (k + 1)) = txt ch (xs.take k) := by rw [take_snoc HX.out, txt_snoc, if_neg HC.out, List.append_nil]
        have HN6 := hid (show N = (txt ch (xs.take (k + 1))).length by rw [hT, ← hN.out])
        have HO6 : Hid (w2.ownsRow w.heap.size U8 1 u5 N (byteCells (txt ch (xs.take (k + 1))))) := hid (by rw [hT]; exact HO2.out)
        clear hT
        go_roundw
        case rel => exact ⟨k + 1, N, by omega, by go_num, HK2, HN6, HO6⟩
        case measure => simp [RowKit.intOf]; omega
    · have hlt' : ¬ (k : Int) < n := by omega
      obtain rfl : k = n := by omega
      have e : xs.take k = xs := List.take_of_length_le (by have := HN.out; omega)
      have hO' := hO.out
      have hN' := hN.out
      rw [e] at hO' hN'
      have H9 := hid hO'
      have HN9 := hid hN'
      clear hO' hN' e
      go_wp2_with fail
      go_ret
      refine ⟨_, rfl, hK.out, ?_⟩
      rw [← HN9.out]; exact H9.out
end Go.Proofs.YtkjfndkcagkhaaaDoor.side
