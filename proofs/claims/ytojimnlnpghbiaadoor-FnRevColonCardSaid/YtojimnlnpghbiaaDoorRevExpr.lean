/- tokenizeExpression: a word, a number. Printed by gen_tok.py. -/
import Derived.Test.YtojimnlnpghbiaaDoorRevTok
import Derived.Lib.Props
set_option linter.unusedVariables false
attribute [local go_sem ↓] Go.wp_at_zero Go.wp_at_succ
namespace Go.Proofs.YtojimnlnpghbiaaDoor.rev
open Go.RowKit Lib frm mem rd

/-- a letter's class, by the table -/
def zOf (x : UInt8) : Int := Lib.propertiesTab.getD x.toNat 0
/-- a letter that is spoken of -/
def Dom (x : UInt8) : Prop := 33 ≤ x.toNat ∧ x.toNat < 128 ∧ Zs (zOf x)
/-- the table lies in the world -/
def Props (w : World) : Prop := 9 < w.heap.size ∧ ∀ x : UInt8, x.toNat < 128 → AtZ w x (zOf x)
theorem Props.kept {S : List Nat} {w w' : World} (h : Props w) (hk : Kept S w w') (hn : 9 ∉ S) : Props w' :=
  ⟨Nat.lt_of_lt_of_le h.1 hk.size, fun x hx => (hk.cell (p := ⟨9, x.toNat, none⟩) h.1 hn).trans (h.2 x hx)⟩
theorem Rn.lt {p : Pl} {l : List UInt8} {w : World} (h : Rn p l w) : ∀ x ∈ p.bs, x < w.heap.size := by
  obtain ⟨r, wv, m, lb, ls, N, h1, h2, h3, ⟨cs, _, h4, _⟩, h5, h6, h7, ⟨lr, h8⟩⟩ := h
  intro x hx
  simp only [Pl.bs, List.mem_cons, List.not_mem_nil, or_false] at hx
  rcases hx with rfl | rfl | rfl | rfl
  · exact Blk.lt h1
  · exact Blk.lt h5
  · exact Blk.lt h8
  · exact Blk.lt h4
theorem Rn.below {p : Pl} {l : List UInt8} {w w' : World} {S : List Nat} (h : Rn p l w) (hb : Kept S w w') (hn : ∀ x ∈ p.bs, x ∉ S) : Rn p l w' := by
  obtain ⟨r, wv, m, lb, ls, N, h1, h2, h3, h4, h5, h6, h7, h8⟩ := h
  exact ⟨r, wv, m, lb, ls, N, h1.kept hb (hn _ (by simp [Pl.bs])), h2, h3, h4.kept hb (hn _ (by simp [Pl.bs])), h5.kept hb (hn _ (by simp [Pl.bs])), h6, h7, h8.kept hb (hn _ (by simp [Pl.bs]))⟩
theorem kept_list {w a b : World} {r : Option Nat} (h : Kept [] w a) (hg : a.grownBy b r) : Kept r.toList w b := by
  cases r with
  | none => exact h.trans (T := []) (Kept.of_grown_none hg) (by simp)
  | some g => exact (h.more (T := [g]) (by simp)).trans (T := [g]) (Kept.of_grown hg) (by simp)
theorem own_keep {w w' : World} {K : List Nat} {base size n : Nat} {e : TypeId} {v : Value} {xs : List Value} (h : w.ownsRow base e size v n xs) (hk : Kept K w w') (hn : ∀ x ∈ K, x < base) : w'.ownsRow base e size v n xs := by
  obtain ⟨hl, h0 | ⟨g, cap, cur, rfl, hB, hg, hr⟩⟩ := h
  · exact ⟨hl, .inl h0⟩
  · exact ⟨hl, .inr ⟨g, cap, cur, rfl, hB, hk.heap hg (fun hm => by have := hn g hm; omega), hr⟩⟩
theorem kept_grown {S : List Nat} {w a b : World} {r : Option Nat} (h : Kept S w a) (hg : a.grownBy b r) (hr : ∀ g, r = some g → w.heap.size ≤ g) : Kept S w b := by
  cases r with
  | none => exact h.trans (T := []) (Kept.of_grown_none hg) (by simp)
  | some g => exact h.trans (T := [g]) (Kept.of_grown hg) (by intro x hx; simp at hx; subst hx; exact .inr (hr _ rfl))
theorem infoRune : (Tryd.prog.info? 21).map (fun i => (i.zero, i.size, i.bytes)) = some (some (.int .i32 0), 1, 4) := by kernel_rfl
def lenSl : Value → Nat
  | .slice _ n _ => n
  | _ => 0
theorem own_len {w : World} {base size n : Nat} {e : TypeId} {v : Value} {xs : List Value} (h : w.ownsRow base e size v n xs) : lenSl v = n := by
  rcases h.2 with ⟨rfl, rfl⟩ | ⟨g, cap, cur, rfl, _⟩ <;> rfl
theorem one_rune (w : World) (v : Value) {e : TypeId} : Reads (w.alloc (.cells #[v] e)) (w.heap.size + 1) 1 (some ⟨w.heap.size, 0, none⟩) 1 [v] :=
  ⟨rfl, fun _ => ⟨_, rfl, by simp, fun j u hu => by rw [Lib.addr_add, Nat.zero_add, Lib.cell_of_heap (heap_alloc_new w _) j]; match j, hu with | 0, hu => exact hu⟩⟩
theorem runes_append (a b : List UInt8) : runeCells (a ++ b) = runeCells a ++ runeCells b := by simp [runeCells]
set_option maxRecDepth 100000 in
set_option maxHeartbeats 4000000 in
theorem tok_word (p : Pl) (x0 : UInt8) (a b : List UInt8) (w : World) (he : Env p w) (hp : Props w) (hpn : 9 ∉ p.bs) (h : Rn p (a ++ b) w) (hx0 : x0.toNat < 128) (ha : ∀ x ∈ a, Dom x ∧ zOf x = 192) (hb : b = [] ∨ ∃ y t, b = y :: t ∧ Dom y ∧ zOf y ≠ 192) (hl : a.length ≤ 4096) :
    Calls Tryd.prog 89 #[.int .i32 x0.toNat, .int .i64 19, .func (.func 88) #[] #[], .pointer (some ⟨p.R, 0, none⟩)] w (Tok p 19 ⟨(x0 :: a).toArray⟩ b w) := by
  obtain ⟨i0, hi, hz0, hz1, hz2⟩ := info_parts infoRune
  have HE := hid he
  have HP := hid (And.intro hp hpn)
  have H := hid h
  have HA := hid (And.intro ha (And.intro hb (And.intro hl hx0)))
  have hlt := hid h.lt
  obtain ⟨v0, hv0⟩ : ∃ v0 : Int, v0 = (x0.toNat : Int) := ⟨_, rfl⟩
  rw [← hv0]
  have HV0 := hid hv0
  clear he hp hpn h ha hb hl hx0 hv0
  go_enter Tryd.func89, Tryd.ntmps89
  have ho0 := hid ((World.ownsRow_nil w w.heap.size 21 1).alloc (.cells #[.int .i32 v0] 21))
  have hr0 := hid (one_rune w (.int .i32 v0) (e := 21))
  go_wp2_with (at_builtin; refine wpList_append_any _ rfl (.tmp 16) (.tmp 18) _ rfl w.heap.size 21 i0 _ 1 4 Tryd.underlying195 hi hz0 hz1 hz2 rfl (by omega) (.slice none 0 0) 0 [] rfl ho0.out (w.heap.size + 1) (some ⟨w.heap.size, 0, none⟩) 1 1 [.int .i32 v0] rfl hr0.out (by simp [Value.oneCell']) (by simp only [maxLen]; omega) (by omega) (by simp) ?_; intro v2 w5 hown2 hg2 hat2; have H5 := hid (And.intro hown2 (And.intro hg2 hat2)); clear hown2 hg2 hat2)
  go_wp2_with fail
  have hk5 : Kept [] w w5 := kept_grown ((Kept.refl [] w).alloc (.cells #[.int .i32 v0] 21)) H5.out.2.1 (by simp [Value.ownBlock])
  have ho5 : w5.ownsRow w.heap.size 21 1 v2 1 (runeCells [x0]) := by
    have := H5.out.1
    rw [HV0.out] at this
    exact this
  have HO5 := hid ho5
  have HK5 := hid hk5
  have HR5 := hid (H.out.below hk5 (by simp))
  clear ho5 hk5 ho0 hr0 H5
  go_loopw [11] (fun dv wr => ∃ k : Nat, k ≤ a.length ∧ wr.ownsRow w.heap.size 21 1 dv (k + 1) (runeCells (x0 :: a.take k)) ∧ Rn p (a.drop k ++ b) wr ∧ Kept p.bs w wr) (fun dv _ => a.length + 1 - lenSl dv)
  case atStart => exact ⟨0, by omega, HO5.out, HR5.out, HK5.out.more (by simp)⟩
  case round =>
    obtain ⟨k, hk, hown, hrn, hkp⟩ := hrel
    have HO := hid hown
    have HRn := hid hrn
    have HK := hid hkp
    have HEr := hid (HE.out.kept hkp)
    have HPr := hid (HP.out.1.kept hkp HP.out.2)
    clear hown hrn hkp
    by_cases hka : k < a.length
    · obtain ⟨y, hy⟩ : ∃ y, y = a[k] := ⟨_, rfl⟩
      have hdrop : a.drop k = y :: a.drop (k + 1) := by rw [hy]; exact List.drop_eq_getElem_cons hka
      have hd : Dom y ∧ zOf y = 192 := HA.out.1 y (by rw [hy]; exact List.getElem_mem hka)
      have c1 := hid (read_one p y (a.drop (k + 1) ++ b) wr HEr.out (.inr (by have := HRn.out; rw [hdrop] at this; exact this)) hd.1.2.1)
      have HD := hid hd
      have htk : Hid (runeCells (x0 :: a.take (k + 1)) = runeCells (x0 :: a.take k) ++ [.int .i32 y.toNat]) := hid (by
        rw [List.take_succ_eq_append_getElem hka, ← List.cons_append, runes_append, hy]; rfl)
      have gy : ¬ (y.toNat : Int) = 0 := by have := hd.1.1; omega
      clear hdrop hd hy
      go_wp2_with fail
      refine c1.out.mono ?_
      rintro e w1 ⟨rfl, hgot, hk1⟩
      have c2 := hid (letter_calls y (zOf y) w1 HD.out.1.2.1 HD.out.1.2.2 ((HPr.out.kept hk1 HP.out.2).2 y HD.out.1.2.1))
      have ho1 := own_keep HO.out hk1 hlt.out
      have HG := hid hgot
      have HK1 := hid (HK.out.trans_ hk1)
      have HO1 := hid (ho1.alloc (.cells #[.int .i32 y.toNat] 21))
      have hr1 := hid (one_rune w1 (.int .i32 y.toNat) (e := 21))
      have hbz := hid (show w.heap.size ≤ (w1.alloc (.cells #[.int .i32 y.toNat] 21)).heap.size by have := HK1.out.size; simp; omega)
      have hbnd : Hid (k + 1 + 1 ≤ 5000) := hid (by have := HA.out.2.2.1; omega)
      clear hgot hk1 ho1 c1
      go_wp2_with fail
      refine c2.out.mono ?_
      rintro e x1 ⟨rfl, hx⟩
      obtain rfl : w1 = x1 := hx.symm
      have hz : decide (zOf y = 192) = true := decide_eq_true HD.out.2
      rw [hz]
      clear hx c2 hz
      go_wp2_with (at_builtin; refine wpList_append_any _ rfl (.tmp 34) (.tmp 36) _ rfl w.heap.size 21 i0 _ 1 4 Tryd.underlying195 hi hz0 hz1 hz2 rfl (by omega) u11 (k + 1) (runeCells (x0 :: a.take k)) rfl HO1.out (w1.heap.size + 1) (some ⟨w1.heap.size, 0, none⟩) 1 1 [.int .i32 y.toNat] rfl hr1.out (by simp [Value.oneCell']) (by have := hbnd.out; simp only [maxLen]; omega) (by have := hbnd.out; omega) hbz.out ?_; intro v2 w6 hown2 hg2 hat2; have H6 := hid (And.intro hown2 (And.intro hg2 hat2)); clear hown2 hg2 hat2)
      go_roundw
      case rel =>
        have hkw := kept_list ((Kept.refl [] w1).alloc (.cells #[.int .i32 y.toNat] 21)) H6.out.2.1
        have hge : ∀ x ∈ u11.ownBlock.toList, w.heap.size ≤ x := fun x hx => (HO1.out.lt x (by simpa using hx)).1
        refine ⟨k + 1, by omega, ?_, HG.out.run.below hkw (fun x hx hm => by have := hge x hm; have := hlt.out x hx; omega), HK1.out.trans hkw (fun x hx => .inr (hge x hx))⟩
        rw [htk.out]
        exact H6.out.1
      case measure =>
        have e1 := own_len HO1.out
        have e2 := own_len H6.out.1
        simp
        omega
    · have hke : k = a.length := by omega
      have HRb := hid (show Rn p b wr by have := HRn.out; rwa [hke, List.drop_length, List.nil_append] at this)
      have HOb := hid (show wr.ownsRow w.heap.size 21 1 u11 (x0 :: a).length (runeCells (x0 :: a)) by have := HO.out; rw [hke, List.take_length] at this; exact this)
      have hall : Hid (∀ x ∈ x0 :: a, x.toNat < 128) := hid (by
        intro x hx
        rcases List.mem_cons.1 hx with rfl | hx
        · exact HA.out.2.2.2
        · exact (HA.out.1 x hx).1.2.1)
      obtain ⟨s, hs⟩ : ∃ s : ByteArray, s = ⟨(x0 :: a).toArray⟩ := ⟨_, rfl⟩
      rw [← hs]
      have HS := hid hs
      clear hs hka HO HRn
      rcases HA.out.2.1 with hb | ⟨y, t, hb, hdy, hny⟩
      · have c1 := hid (read_end p wr HEr.out (by have := HRb.out; rwa [hb] at this))
        have HB := hid hb
        clear hb
        go_wp2_with fail
        refine c1.out.mono ?_
        rintro e w1 ⟨rfl, hrn, hk1⟩
        have ho1 := own_keep HOb.out hk1 hlt.out
        have kc : ∀ q, (convert 195 9 u11).run Tryd.prog (w1.drewN q) = .ok (.string s) (w1.drewN q) := fun q => by rw [HS.out]; exact conv_runes (w := w1.drewN q) ho1 (by simp) hall.out
        have HRN := hid hrn
        have HK1 := hid (HK.out.trans_ hk1)
        clear hrn hk1 ho1 c1
        go_wp2_with fail
        go_quiet (fail)
        go_wp2_with fail
        refine bodyPost_ret (by simp [results, Tryd.results89, go_sem]; rfl) rfl ?_
        exact ⟨by rw [HS.out]; rfl, by rw [HB.out]; exact HRN.out.below (S := []) ((Kept.refl [] w1).drewN _) (by simp), HK1.out.drewN _⟩
      · have c1 := hid (read_one p y t wr HEr.out (.inr (by have := HRb.out; rwa [hb] at this)) hdy.2.1)
        have gy : ¬ (y.toNat : Int) = 0 := by have := hdy.1; omega
        have HB := hid (And.intro hb (And.intro hdy hny))
        clear hb hdy hny
        go_wp2_with fail
        refine c1.out.mono ?_
        rintro e w1 ⟨rfl, hgot, hk1⟩
        have c2 := hid (letter_calls y (zOf y) w1 HB.out.2.1.2.1 HB.out.2.1.2.2 ((HPr.out.kept hk1 HP.out.2).2 y HB.out.2.1.2.1))
        have c3 := hid (read_back p y t w1 (HEr.out.kept hk1) hgot)
        have HO1 := hid (own_keep HOb.out hk1 hlt.out)
        have HK1 := hid (HK.out.trans_ hk1)
        clear hgot hk1 c1
        go_wp2_with fail
        refine c2.out.mono ?_
        rintro e x1 ⟨rfl, hx⟩
        obtain rfl : w1 = x1 := hx.symm
        have hz : decide (zOf y = 192) = false := decide_eq_false HB.out.2.2
        rw [hz]
        clear hx c2 hz
        go_wp2_with fail
        refine c3.out.mono ?_
        rintro e w2 ⟨rfl, hrn, hk2⟩
        have ho2 := own_keep HO1.out hk2 hlt.out
        have kc : ∀ q, (convert 195 9 u11).run Tryd.prog (w2.drewN q) = .ok (.string s) (w2.drewN q) := fun q => by rw [HS.out]; exact conv_runes (w := w2.drewN q) ho2 (by simp) hall.out
        have HRN := hid hrn
        have HK2 := hid (HK1.out.trans_ hk2)
        clear hrn hk2 ho2 c3
        go_wp2_with fail
        go_quiet (fail)
        go_wp2_with fail
        refine bodyPost_ret (by simp [results, Tryd.results89, go_sem]; rfl) rfl ?_
        exact ⟨by rw [HS.out]; rfl, by rw [HB.out.1]; exact HRN.out.below (S := []) ((Kept.refl [] w2).drewN _) (by simp), HK2.out.drewN _⟩
set_option maxRecDepth 100000 in
set_option maxHeartbeats 4000000 in
theorem tok_num (p : Pl) (x0 : UInt8) (a b : List UInt8) (w : World) (he : Env p w) (hp : Props w) (hpn : 9 ∉ p.bs) (h : Rn p (a ++ b) w) (hx0 : x0.toNat < 128) (ha : ∀ x ∈ a, Dom x ∧ zOf x = 132) (hb : b = [] ∨ ∃ y t, b = y :: t ∧ Dom y ∧ zOf y ≠ 132) (hl : a.length ≤ 4096) :
    Calls Tryd.prog 89 #[.int .i32 x0.toNat, .int .i64 11, .func (.func 90) #[] #[], .pointer (some ⟨p.R, 0, none⟩)] w (Tok p 11 ⟨(x0 :: a).toArray⟩ b w) := by
  obtain ⟨i0, hi, hz0, hz1, hz2⟩ := info_parts infoRune
  have HE := hid he
  have HP := hid (And.intro hp hpn)
  have H := hid h
  have HA := hid (And.intro ha (And.intro hb (And.intro hl hx0)))
  have hlt := hid h.lt
  obtain ⟨v0, hv0⟩ : ∃ v0 : Int, v0 = (x0.toNat : Int) := ⟨_, rfl⟩
  rw [← hv0]
  have HV0 := hid hv0
  clear he hp hpn h ha hb hl hx0 hv0
  go_enter Tryd.func89, Tryd.ntmps89
  have ho0 := hid ((World.ownsRow_nil w w.heap.size 21 1).alloc (.cells #[.int .i32 v0] 21))
  have hr0 := hid (one_rune w (.int .i32 v0) (e := 21))
  go_wp2_with (at_builtin; refine wpList_append_any _ rfl (.tmp 16) (.tmp 18) _ rfl w.heap.size 21 i0 _ 1 4 Tryd.underlying195 hi hz0 hz1 hz2 rfl (by omega) (.slice none 0 0) 0 [] rfl ho0.out (w.heap.size + 1) (some ⟨w.heap.size, 0, none⟩) 1 1 [.int .i32 v0] rfl hr0.out (by simp [Value.oneCell']) (by simp only [maxLen]; omega) (by omega) (by simp) ?_; intro v2 w5 hown2 hg2 hat2; have H5 := hid (And.intro hown2 (And.intro hg2 hat2)); clear hown2 hg2 hat2)
  go_wp2_with fail
  have hk5 : Kept [] w w5 := kept_grown ((Kept.refl [] w).alloc (.cells #[.int .i32 v0] 21)) H5.out.2.1 (by simp [Value.ownBlock])
  have ho5 : w5.ownsRow w.heap.size 21 1 v2 1 (runeCells [x0]) := by
    have := H5.out.1
    rw [HV0.out] at this
    exact this
  have HO5 := hid ho5
  have HK5 := hid hk5
  have HR5 := hid (H.out.below hk5 (by simp))
  clear ho5 hk5 ho0 hr0 H5
  go_loopw [11] (fun dv wr => ∃ k : Nat, k ≤ a.length ∧ wr.ownsRow w.heap.size 21 1 dv (k + 1) (runeCells (x0 :: a.take k)) ∧ Rn p (a.drop k ++ b) wr ∧ Kept p.bs w wr) (fun dv _ => a.length + 1 - lenSl dv)
  case atStart => exact ⟨0, by omega, HO5.out, HR5.out, HK5.out.more (by simp)⟩
  case round =>
    obtain ⟨k, hk, hown, hrn, hkp⟩ := hrel
    have HO := hid hown
    have HRn := hid hrn
    have HK := hid hkp
    have HEr := hid (HE.out.kept hkp)
    have HPr := hid (HP.out.1.kept hkp HP.out.2)
    clear hown hrn hkp
    by_cases hka : k < a.length
    · obtain ⟨y, hy⟩ : ∃ y, y = a[k] := ⟨_, rfl⟩
      have hdrop : a.drop k = y :: a.drop (k + 1) := by rw [hy]; exact List.drop_eq_getElem_cons hka
      have hd : Dom y ∧ zOf y = 132 := HA.out.1 y (by rw [hy]; exact List.getElem_mem hka)
      have c1 := hid (read_one p y (a.drop (k + 1) ++ b) wr HEr.out (.inr (by have := HRn.out; rw [hdrop] at this; exact this)) hd.1.2.1)
      have HD := hid hd
      have htk : Hid (runeCells (x0 :: a.take (k + 1)) = runeCells (x0 :: a.take k) ++ [.int .i32 y.toNat]) := hid (by
        rw [List.take_succ_eq_append_getElem hka, ← List.cons_append, runes_append, hy]; rfl)
      have gy : ¬ (y.toNat : Int) = 0 := by have := hd.1.1; omega
      clear hdrop hd hy
      go_wp2_with fail
      refine c1.out.mono ?_
      rintro e w1 ⟨rfl, hgot, hk1⟩
      have c2 := hid (number_calls y (zOf y) w1 HD.out.1.2.1 HD.out.1.2.2 ((HPr.out.kept hk1 HP.out.2).2 y HD.out.1.2.1))
      have ho1 := own_keep HO.out hk1 hlt.out
      have HG := hid hgot
      have HK1 := hid (HK.out.trans_ hk1)
      have HO1 := hid (ho1.alloc (.cells #[.int .i32 y.toNat] 21))
      have hr1 := hid (one_rune w1 (.int .i32 y.toNat) (e := 21))
      have hbz := hid (show w.heap.size ≤ (w1.alloc (.cells #[.int .i32 y.toNat] 21)).heap.size by have := HK1.out.size; simp; omega)
      have hbnd : Hid (k + 1 + 1 ≤ 5000) := hid (by have := HA.out.2.2.1; omega)
      clear hgot hk1 ho1 c1
      go_wp2_with fail
      refine c2.out.mono ?_
      rintro e x1 ⟨rfl, hx⟩
      obtain rfl : w1 = x1 := hx.symm
      have hz : decide (zOf y = 132) = true := decide_eq_true HD.out.2
      rw [hz]
      clear hx c2 hz
      go_wp2_with (at_builtin; refine wpList_append_any _ rfl (.tmp 34) (.tmp 36) _ rfl w.heap.size 21 i0 _ 1 4 Tryd.underlying195 hi hz0 hz1 hz2 rfl (by omega) u11 (k + 1) (runeCells (x0 :: a.take k)) rfl HO1.out (w1.heap.size + 1) (some ⟨w1.heap.size, 0, none⟩) 1 1 [.int .i32 y.toNat] rfl hr1.out (by simp [Value.oneCell']) (by have := hbnd.out; simp only [maxLen]; omega) (by have := hbnd.out; omega) hbz.out ?_; intro v2 w6 hown2 hg2 hat2; have H6 := hid (And.intro hown2 (And.intro hg2 hat2)); clear hown2 hg2 hat2)
      go_roundw
      case rel =>
        have hkw := kept_list ((Kept.refl [] w1).alloc (.cells #[.int .i32 y.toNat] 21)) H6.out.2.1
        have hge : ∀ x ∈ u11.ownBlock.toList, w.heap.size ≤ x := fun x hx => (HO1.out.lt x (by simpa using hx)).1
        refine ⟨k + 1, by omega, ?_, HG.out.run.below hkw (fun x hx hm => by have := hge x hm; have := hlt.out x hx; omega), HK1.out.trans hkw (fun x hx => .inr (hge x hx))⟩
        rw [htk.out]
        exact H6.out.1
      case measure =>
        have e1 := own_len HO1.out
        have e2 := own_len H6.out.1
        simp
        omega
    · have hke : k = a.length := by omega
      have HRb := hid (show Rn p b wr by have := HRn.out; rwa [hke, List.drop_length, List.nil_append] at this)
      have HOb := hid (show wr.ownsRow w.heap.size 21 1 u11 (x0 :: a).length (runeCells (x0 :: a)) by have := HO.out; rw [hke, List.take_length] at this; exact this)
      have hall : Hid (∀ x ∈ x0 :: a, x.toNat < 128) := hid (by
        intro x hx
        rcases List.mem_cons.1 hx with rfl | hx
        · exact HA.out.2.2.2
        · exact (HA.out.1 x hx).1.2.1)
      obtain ⟨s, hs⟩ : ∃ s : ByteArray, s = ⟨(x0 :: a).toArray⟩ := ⟨_, rfl⟩
      rw [← hs]
      have HS := hid hs
      clear hs hka HO HRn
      rcases HA.out.2.1 with hb | ⟨y, t, hb, hdy, hny⟩
      · have c1 := hid (read_end p wr HEr.out (by have := HRb.out; rwa [hb] at this))
        have HB := hid hb
        clear hb
        go_wp2_with fail
        refine c1.out.mono ?_
        rintro e w1 ⟨rfl, hrn, hk1⟩
        have ho1 := own_keep HOb.out hk1 hlt.out
        have kc : ∀ q, (convert 195 9 u11).run Tryd.prog (w1.drewN q) = .ok (.string s) (w1.drewN q) := fun q => by rw [HS.out]; exact conv_runes (w := w1.drewN q) ho1 (by simp) hall.out
        have HRN := hid hrn
        have HK1 := hid (HK.out.trans_ hk1)
        clear hrn hk1 ho1 c1
        go_wp2_with fail
        go_quiet (fail)
        go_wp2_with fail
        refine bodyPost_ret (by simp [results, Tryd.results89, go_sem]; rfl) rfl ?_
        exact ⟨by rw [HS.out]; rfl, by rw [HB.out]; exact HRN.out.below (S := []) ((Kept.refl [] w1).drewN _) (by simp), HK1.out.drewN _⟩
      · have c1 := hid (read_one p y t wr HEr.out (.inr (by have := HRb.out; rwa [hb] at this)) hdy.2.1)
        have gy : ¬ (y.toNat : Int) = 0 := by have := hdy.1; omega
        have HB := hid (And.intro hb (And.intro hdy hny))
        clear hb hdy hny
        go_wp2_with fail
        refine c1.out.mono ?_
        rintro e w1 ⟨rfl, hgot, hk1⟩
        have c2 := hid (number_calls y (zOf y) w1 HB.out.2.1.2.1 HB.out.2.1.2.2 ((HPr.out.kept hk1 HP.out.2).2 y HB.out.2.1.2.1))
        have c3 := hid (read_back p y t w1 (HEr.out.kept hk1) hgot)
        have HO1 := hid (own_keep HOb.out hk1 hlt.out)
        have HK1 := hid (HK.out.trans_ hk1)
        clear hgot hk1 c1
        go_wp2_with fail
        refine c2.out.mono ?_
        rintro e x1 ⟨rfl, hx⟩
        obtain rfl : w1 = x1 := hx.symm
        have hz : decide (zOf y = 132) = false := decide_eq_false HB.out.2.2
        rw [hz]
        clear hx c2 hz
        go_wp2_with fail
        refine c3.out.mono ?_
        rintro e w2 ⟨rfl, hrn, hk2⟩
        have ho2 := own_keep HO1.out hk2 hlt.out
        have kc : ∀ q, (convert 195 9 u11).run Tryd.prog (w2.drewN q) = .ok (.string s) (w2.drewN q) := fun q => by rw [HS.out]; exact conv_runes (w := w2.drewN q) ho2 (by simp) hall.out
        have HRN := hid hrn
        have HK2 := hid (HK1.out.trans_ hk2)
        clear hrn hk2 ho2 c3
        go_wp2_with fail
        go_quiet (fail)
        go_wp2_with fail
        refine bodyPost_ret (by simp [results, Tryd.results89, go_sem]; rfl) rfl ?_
        exact ⟨by rw [HS.out]; rfl, by rw [HB.out.1]; exact HRN.out.below (S := []) ((Kept.refl [] w2).drewN _) (by simp), HK2.out.drewN _⟩
end Go.Proofs.YtojimnlnpghbiaaDoor.rev
