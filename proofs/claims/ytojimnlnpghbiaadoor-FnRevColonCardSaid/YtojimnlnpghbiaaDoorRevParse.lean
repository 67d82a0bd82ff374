/- Parser.Parse. -/
import Derived.Test.YtojimnlnpghbiaaDoorRevValid
import Derived.Test.YtojimnlnpghbiaaDoorRevAtoi
import Derived.Outline
set_option linter.unusedVariables false
attribute [local go_sem ↓] Go.wp_at_zero Go.wp_at_succ
namespace Go.Proofs.YtojimnlnpghbiaaDoor.rev
open Go.RowKit Lib frm mem rd

/-- one part is read: the token in front tells which way -/
inductive Way (p : Pl) (h S : Nat) : Nat → ByteArray → List Tk → Rv → List Tk → Prop
  | ref {s ts r ts'} : (∀ w, Ahead p h S ((19, s) :: ts) w → Calls Tryd.prog 60 #[.pointer (some ⟨h, 0, none⟩)] w (PRev p h S (Rv.v r) ts' w)) → Way p h S 19 s ts r ts'
  | at_ {s ts r ts'} : (∀ w, Ahead p h S ts w → Calls Tryd.prog 54 #[.pointer (some ⟨h, 0, none⟩)] w (PRev p h S (Rv.v r) ts' w)) → Way p h S 3 s ts r ts'
  | colon {s ts r ts'} : (∀ w, Ahead p h S ts w → Calls Tryd.prog 57 #[.pointer (some ⟨h, 0, none⟩)] w (PRev p h S (Rv.v r) ts' w)) → Way p h S 6 s ts r ts'
/-- part after part, and the end; or a parent that is refused -/
inductive Chain (p : Pl) (h S : Nat) : List Tk → List Rv → Bool → Prop
  | done {ts} : Chain p h S (eofT :: ts) [] true
  | bad {s ts} : (∀ w, Ahead p h S ts w → Calls Tryd.prog 56 #[.pointer (some ⟨h, 0, none⟩)] w (PErr p h w)) → Chain p h S ((4, s) :: ts) [] false
  | step {k s ts r ts' rs ok} : Way p h S k s ts r ts' → Chain p h S ts' rs ok → Chain p h S ((k, s) :: ts) (r :: rs) ok
theorem Ahead.lt {p : Pl} {h S : Nat} {ts : List Tk} {w : World} (d : Ahead p h S ts w) : ∀ x ∈ own p h, x < w.heap.size := by
  intro x hx
  rcases Nat.lt_or_ge x w.heap.size with h1 | h1
  · exact h1
  · have hf := d.far x h1
    rcases List.mem_cons.1 hx with e | e
    · exact absurd e hf.2.1
    · exact absurd e hf.2.2.1
abbrev Rty : TypeId := 88
theorem infoRev : (Tryd.prog.info? Rty).map (fun i => (i.zero, i.size, i.bytes)) = some (some .nilIface, 1, 16) := by kernel_rfl
def Parsed (p : Pl) (h : Nat) (rs : List Rv) (ok : Bool) (w : World) (e : Ending) (w' : World) : Prop :=
  Kept (own p h) w w' ∧ ∃ v er, e = .returned (.tuple #[v, er]) ∧ (ok = true → er = .nilIface ∧ w'.ownsRow w.heap.size Rty 1 v rs.length (rs.map Rv.v)) ∧
    (ok = false → ∃ a : Addr, er = .iface 145 (.pointer (some a)))
theorem own_mono {w : World} {base base' size n : Nat} {e : TypeId} {v : Value} {xs : List Value} (h : w.ownsRow base e size v n xs) (hb : base' ≤ base) : w.ownsRow base' e size v n xs := by
  obtain ⟨hl, h0 | ⟨g, cap, cur, rfl, hB, hr⟩⟩ := h
  · exact ⟨hl, .inl h0⟩
  · exact ⟨hl, .inr ⟨g, cap, cur, rfl, Nat.le_trans hb hB, hr⟩⟩
theorem own_set {w : World} {base size n : Nat} {e : TypeId} {v : Value} {xs : List Value} (h : w.ownsRow base e size v n xs) {p : Addr} (hp : p.block < base) (u : Value) : (w.setCell p u).ownsRow base e size v n xs :=
  own_keep h ((Kept.refl [p.block] w).setCell (.inl (by simp)) u) (by intro x hx; simp at hx; omega)
theorem own_form {w : World} {base size n : Nat} {e : TypeId} {v : Value} {xs : List Value} (h : w.ownsRow base e size v n xs) : ∃ A k c, v = .slice A k c := by
  rcases h.2 with ⟨rfl, _⟩ | ⟨g, cap, cur, rfl, _⟩ <;> exact ⟨_, _, _, rfl⟩
theorem Rv.isIface (r : Rv) : ∃ t x, r.v = .iface t x := by cases r <;> exact ⟨_, _, rfl⟩
set_option maxRecDepth 100000 in
set_option maxHeartbeats 4000000 in
theorem parse_calls (p : Pl) (h S : Nat) (ts : List Tk) (rs : List Rv) (ok : Bool) (w : World) (hch : Chain p h S ts rs ok) (ha : Ahead p h S ts w) (hg : ok = true → Good rs) (hl : rs.length ≤ 10) :
    Calls Tryd.prog 41 #[.pointer (some ⟨h, 0, none⟩)] w (Parsed p h rs ok w) := by
  obtain ⟨i0, hi, hz0, hz1, hz2⟩ := info_parts infoRev
  have HC := hid hch
  have HG := hid hg
  have HL := hid hl
  have HFar := hid ha.far
  have HLt := hid ha.lt
  have HA0 := hid (ha.kept ((Kept.refl [] w).alloc (.cells #[.slice none 0 0] 83)))
  have HK0 := hid (show Kept (own p h) w (w.alloc (.cells #[.slice none 0 0] 83)) from (Kept.refl _ w).alloc _)
  have HB0 := hid (Blk.new w 83 #[.slice none 0 0])
  have HO0 := hid ((World.ownsRow_nil w (w.heap.size + 1) Rty 1).alloc (.cells #[.slice none 0 0] 83))
  clear hch ha hg hl
  go_enter Tryd.func41, Tryd.ntmps41
  go_wp2_with fail
  go_loopg [4] rs.length (fun g rv wr => ∃ (done rest : List Rv) (tt : List Tk) (sl : Value), rest.length = g ∧ Hid (rs = done ++ rest) ∧ Hid (Chain p h S tt rest ok) ∧ Hid (Ahead p h S tt wr) ∧ Hid (Blk wr w.heap.size 83 #[sl]) ∧ Hid (wr.ownsRow (w.heap.size + 1) Rty 1 sl done.length (done.map Rv.v)) ∧ Hid (Kept (own p h) w wr))
  case atStart => exact ⟨[], rs, ts, _, rfl, hid rfl, HC, HA0, HB0, HO0, HK0⟩
  case round =>
    obtain ⟨done, rest, tt, sl, hg, hrs, hC, hA, hB, hO, hK⟩ := hrel
    have HGk := hid hg
    clear hg
    have hbc : wr.cell? ⟨w.heap.size, 0, none⟩ = some sl := hB.out.cell 0 rfl
    rcases hC.out with _ | ⟨hbad⟩ | @⟨k0, s0, t0, r0, t1, r1, _, hw, hn⟩
    · have c1 := hid (scan_calls p h S eofT _ wr hA.out)
      go_wp2_with fail
      refine c1.out.mono ?_
      rintro e w1 ⟨rfl, hd, hk⟩
      have HB1 := hid (Blk.kept hB.out hk (fun hm => Nat.lt_irrefl _ (HLt.out _ hm)))
      have ho1 := own_keep hO.out hk (fun x hx => Nat.lt_succ_of_lt (HLt.out x hx))
      have hds : rs = done := by have := hrs.out; simpa using this
      have c2 := hid (valid_calls (.pointer (some ⟨h, 0, none⟩)) w.heap.size (w.heap.size + 1) rs sl w1 (HG.out (by trivial)) (HB1.out.cell 0 rfl) (by rw [hds]; exact ho1))
      have HO1 := hid ho1
      have HD := hid hds
      have HK1 := hid (hK.out.trans_ hk)
      clear hd hk ho1 hds c1 hbc
      go_wp2_with fail
      refine c2.out.mono ?_
      rintro e w2 ⟨rfl, n, rfl⟩
      have hbc2 : (w1.drewN n).cell? ⟨w.heap.size, 0, none⟩ = some sl := HB1.out.cell 0 rfl
      clear c2
      go_wp2_with fail
      refine bodyPost_ret (by simp [results, Tryd.results41, go_sem]; rfl) rfl ?_
      exact ⟨HK1.out.drewN n, _, _, rfl, fun _ => ⟨rfl, by rw [HD.out]; exact own_mono HO1.out (Nat.le_succ _)⟩, nofun⟩
    · have HBad := hid hbad
      have c1 := hid (scan_calls p h S (4, _) _ wr hA.out)
      clear hbad
      go_wp2_with fail
      refine c1.out.mono ?_
      rintro e w1 ⟨rfl, hd, hk⟩
      have c2 := hid (HBad.out w1 hd.ahead)
      have HK1 := hid (hK.out.trans_ hk)
      clear hd hk c1 hbc
      go_wp2_with fail
      refine c2.out.mono ?_
      rintro e w2 ⟨⟨a, rfl⟩, hk⟩
      have HK2 := hid (HK1.out.trans_ hk)
      clear hk c2
      go_wp2_with fail
      refine bodyPost_ret (by simp [results, Tryd.results41, go_sem]; rfl) rfl ?_
      exact ⟨by repeat (first | exact HK2.out | refine Kept.alloc ?_ _), _, _, rfl, nofun, fun _ => ⟨a, rfl⟩⟩
    · obtain ⟨it, iv, hiv⟩ := r0.isIface
      have HIV := hid hiv
      obtain hx | hx | hx := hw
      · -- ref
        have c1 := hid (scan_calls p h S (19, _) _ wr hA.out)
        rw [hiv] at hx
        have HX := hid hx
        have HN := hid hn
        clear hx hn hiv
        go_wp2_with fail
        refine c1.out.mono ?_
        rintro e w1 ⟨rfl, hd, hk⟩
        have c2 := hid (back_calls p h S _ _ w1 hd)
        have HK1 := hid hk
        clear hd hk c1
        go_wp2_with fail
        refine c2.out.mono ?_
        rintro e w1b ⟨rfl, hd, hk⟩
        have c3 := hid (HX.out w1b hd)
        have HK2 := hid (HK1.out.trans_ hk)
        clear hd hk c2
        go_wp2_with fail
        refine c3.out.mono ?_
        rintro e w2 ⟨rfl, hd, hk⟩
        have hk2 := HK2.out.trans_ hk
        have HA2 := hid hd
        have HB2 := hid (Blk.kept hB.out hk2 (fun hm => Nat.lt_irrefl _ (HLt.out _ hm)))
        have HO2 := hid ((own_keep hO.out hk2 (fun x hx => Nat.lt_succ_of_lt (HLt.out x hx))).alloc (.cells #[.iface it iv] Rty))
        have hbc2 : w2.cell? ⟨w.heap.size, 0, none⟩ = some sl := HB2.out.cell 0 rfl
        have HK3 := hid (hK.out.trans_ hk2)
        have hr1 := hid (one_rune w2 (.iface it iv) (e := Rty))
        have HBnd := hid (show done.length + 1 ≤ 11 by have h1 := hrs.out; have h2 := HL.out; rw [h1] at h2; simp at h2; omega)
        have hsz := hid (show w.heap.size + 1 ≤ (w2.alloc (.cells #[.iface it iv] Rty)).heap.size by have := HK3.out.size; simp; omega)
        clear hd hk hk2 c3 hbc
        go_wp2_with (at_builtin; refine wpList_append_any _ rfl (.tmp 66) (.tmp 68) _ rfl (w.heap.size + 1) Rty i0 _ 1 16 Tryd.underlying83 hi hz0 hz1 hz2 rfl (by omega) sl done.length (done.map Rv.v) rfl HO2.out (w2.heap.size + 1) (some ⟨w2.heap.size, 0, none⟩) 1 1 [.iface it iv] rfl hr1.out (by simp [Value.oneCell']) (by have := HBnd.out; simp only [maxLen]; omega) (by have := HBnd.out; omega) hsz.out ?_; intro v2 w5 hown2 hg2 hat2; obtain ⟨sA, sn, sc, rfl⟩ := own_form hown2; have hk5 := kept_list ((Kept.refl [] w2).alloc (.cells #[.iface it iv] Rty)) hg2; have H5 := hid (And.intro hown2 (And.intro hk5 HK3.out)); have HB5 := hid (Blk.kept HB2.out hk5 (fun hm => by have := (HO2.out.lt w.heap.size (by simpa using hm)).1; omega)); clear hown2 hg2 hat2 hk5; have hc5 : w5.cell? ⟨w.heap.size, 0, none⟩ = some sl := HB5.out.cell 0 rfl; have hf5 : w5.frozen? ⟨w.heap.size, 0, none⟩ = false := HB5.out.frozen 0)
        go_roundg r1.length
        case measure => have := HGk.out; simp at this; omega
        case rel =>
          have hge : ∀ x ∈ sl.ownBlock.toList, w.heap.size ≤ x := fun x hx => by have := (HO2.out.lt x (by simpa using hx)).1; omega
          have hks : Kept [w.heap.size] w5 (w5.setCell ⟨w.heap.size, 0, none⟩ (.slice sA sn sc)) := (Kept.refl _ w5).setCell (.inl (by simp)) _
          have hk6 : Kept (w.heap.size :: sl.ownBlock.toList) w2 (w5.setCell ⟨w.heap.size, 0, none⟩ (.slice sA sn sc)) := (H5.out.2.1.more (fun x hx => .inl (List.mem_cons_of_mem _ hx))).trans hks (by simp)
          have hge' : ∀ x ∈ w.heap.size :: sl.ownBlock.toList, w.heap.size ≤ x := fun x hx => by
            rcases List.mem_cons.1 hx with e | hx
            · omega
            · exact hge x hx
          refine ⟨done ++ [r0], r1, t1, .slice sA sn sc, rfl, hid (by rw [hrs.out]; simp), HN, hid (HA2.out.keep hk6 (fun x hx => HFar.out x (hge' x hx))), hid ?_, hid ?_, hid (HK3.out.trans hk6 (fun x hx => .inr (hge' x hx)))⟩
          · have := HB5.out.set_ 0 (.slice sA sn sc)
            simpa using this
          · have h5 := own_set H5.out.1 (p := ⟨w.heap.size, 0, none⟩) (by simp) (.slice sA sn sc)
            simpa [HIV.out] using h5
      · -- at
        have c1 := hid (scan_calls p h S (3, _) _ wr hA.out)
        rw [hiv] at hx
        have HX := hid hx
        have HN := hid hn
        clear hx hn hiv
        go_wp2_with fail
        refine c1.out.mono ?_
        rintro e w1 ⟨rfl, hd, hk⟩
        have c3 := hid (HX.out w1 hd.ahead)
        have HK2 := hid hk
        clear hd hk c1
        go_wp2_with fail
        refine c3.out.mono ?_
        rintro e w2 ⟨rfl, hd, hk⟩
        have hk2 := HK2.out.trans_ hk
        have HA2 := hid hd
        have HB2 := hid (Blk.kept hB.out hk2 (fun hm => Nat.lt_irrefl _ (HLt.out _ hm)))
        have HO2 := hid ((own_keep hO.out hk2 (fun x hx => Nat.lt_succ_of_lt (HLt.out x hx))).alloc (.cells #[.iface it iv] Rty))
        have hbc2 : w2.cell? ⟨w.heap.size, 0, none⟩ = some sl := HB2.out.cell 0 rfl
        have HK3 := hid (hK.out.trans_ hk2)
        have hr1 := hid (one_rune w2 (.iface it iv) (e := Rty))
        have HBnd := hid (show done.length + 1 ≤ 11 by have h1 := hrs.out; have h2 := HL.out; rw [h1] at h2; simp at h2; omega)
        have hsz := hid (show w.heap.size + 1 ≤ (w2.alloc (.cells #[.iface it iv] Rty)).heap.size by have := HK3.out.size; simp; omega)
        clear hd hk hk2 c3 hbc
        go_wp2_with (at_builtin; refine wpList_append_any _ rfl (.tmp 66) (.tmp 68) _ rfl (w.heap.size + 1) Rty i0 _ 1 16 Tryd.underlying83 hi hz0 hz1 hz2 rfl (by omega) sl done.length (done.map Rv.v) rfl HO2.out (w2.heap.size + 1) (some ⟨w2.heap.size, 0, none⟩) 1 1 [.iface it iv] rfl hr1.out (by simp [Value.oneCell']) (by have := HBnd.out; simp only [maxLen]; omega) (by have := HBnd.out; omega) hsz.out ?_; intro v2 w5 hown2 hg2 hat2; obtain ⟨sA, sn, sc, rfl⟩ := own_form hown2; have hk5 := kept_list ((Kept.refl [] w2).alloc (.cells #[.iface it iv] Rty)) hg2; have H5 := hid (And.intro hown2 (And.intro hk5 HK3.out)); have HB5 := hid (Blk.kept HB2.out hk5 (fun hm => by have := (HO2.out.lt w.heap.size (by simpa using hm)).1; omega)); clear hown2 hg2 hat2 hk5; have hc5 : w5.cell? ⟨w.heap.size, 0, none⟩ = some sl := HB5.out.cell 0 rfl; have hf5 : w5.frozen? ⟨w.heap.size, 0, none⟩ = false := HB5.out.frozen 0)
        go_roundg r1.length
        case measure => have := HGk.out; simp at this; omega
        case rel =>
          have hge : ∀ x ∈ sl.ownBlock.toList, w.heap.size ≤ x := fun x hx => by have := (HO2.out.lt x (by simpa using hx)).1; omega
          have hks : Kept [w.heap.size] w5 (w5.setCell ⟨w.heap.size, 0, none⟩ (.slice sA sn sc)) := (Kept.refl _ w5).setCell (.inl (by simp)) _
          have hk6 : Kept (w.heap.size :: sl.ownBlock.toList) w2 (w5.setCell ⟨w.heap.size, 0, none⟩ (.slice sA sn sc)) := (H5.out.2.1.more (fun x hx => .inl (List.mem_cons_of_mem _ hx))).trans hks (by simp)
          have hge' : ∀ x ∈ w.heap.size :: sl.ownBlock.toList, w.heap.size ≤ x := fun x hx => by
            rcases List.mem_cons.1 hx with e | hx
            · omega
            · exact hge x hx
          refine ⟨done ++ [r0], r1, t1, .slice sA sn sc, rfl, hid (by rw [hrs.out]; simp), HN, hid (HA2.out.keep hk6 (fun x hx => HFar.out x (hge' x hx))), hid ?_, hid ?_, hid (HK3.out.trans hk6 (fun x hx => .inr (hge' x hx)))⟩
          · have := HB5.out.set_ 0 (.slice sA sn sc)
            simpa using this
          · have h5 := own_set H5.out.1 (p := ⟨w.heap.size, 0, none⟩) (by simp) (.slice sA sn sc)
            simpa [HIV.out] using h5
      · -- colon
        have c1 := hid (scan_calls p h S (6, _) _ wr hA.out)
        rw [hiv] at hx
        have HX := hid hx
        have HN := hid hn
        clear hx hn hiv
        go_wp2_with fail
        refine c1.out.mono ?_
        rintro e w1 ⟨rfl, hd, hk⟩
        have c3 := hid (HX.out w1 hd.ahead)
        have HK2 := hid hk
        clear hd hk c1
        go_wp2_with fail
        refine c3.out.mono ?_
        rintro e w2 ⟨rfl, hd, hk⟩
        have hk2 := HK2.out.trans_ hk
        have HA2 := hid hd
        have HB2 := hid (Blk.kept hB.out hk2 (fun hm => Nat.lt_irrefl _ (HLt.out _ hm)))
        have HO2 := hid ((own_keep hO.out hk2 (fun x hx => Nat.lt_succ_of_lt (HLt.out x hx))).alloc (.cells #[.iface it iv] Rty))
        have hbc2 : w2.cell? ⟨w.heap.size, 0, none⟩ = some sl := HB2.out.cell 0 rfl
        have HK3 := hid (hK.out.trans_ hk2)
        have hr1 := hid (one_rune w2 (.iface it iv) (e := Rty))
        have HBnd := hid (show done.length + 1 ≤ 11 by have h1 := hrs.out; have h2 := HL.out; rw [h1] at h2; simp at h2; omega)
        have hsz := hid (show w.heap.size + 1 ≤ (w2.alloc (.cells #[.iface it iv] Rty)).heap.size by have := HK3.out.size; simp; omega)
        clear hd hk hk2 c3 hbc
        go_wp2_with (at_builtin; refine wpList_append_any _ rfl (.tmp 66) (.tmp 68) _ rfl (w.heap.size + 1) Rty i0 _ 1 16 Tryd.underlying83 hi hz0 hz1 hz2 rfl (by omega) sl done.length (done.map Rv.v) rfl HO2.out (w2.heap.size + 1) (some ⟨w2.heap.size, 0, none⟩) 1 1 [.iface it iv] rfl hr1.out (by simp [Value.oneCell']) (by have := HBnd.out; simp only [maxLen]; omega) (by have := HBnd.out; omega) hsz.out ?_; intro v2 w5 hown2 hg2 hat2; obtain ⟨sA, sn, sc, rfl⟩ := own_form hown2; have hk5 := kept_list ((Kept.refl [] w2).alloc (.cells #[.iface it iv] Rty)) hg2; have H5 := hid (And.intro hown2 (And.intro hk5 HK3.out)); have HB5 := hid (Blk.kept HB2.out hk5 (fun hm => by have := (HO2.out.lt w.heap.size (by simpa using hm)).1; omega)); clear hown2 hg2 hat2 hk5; have hc5 : w5.cell? ⟨w.heap.size, 0, none⟩ = some sl := HB5.out.cell 0 rfl; have hf5 : w5.frozen? ⟨w.heap.size, 0, none⟩ = false := HB5.out.frozen 0)
        go_roundg r1.length
        case measure => have := HGk.out; simp at this; omega
        case rel =>
          have hge : ∀ x ∈ sl.ownBlock.toList, w.heap.size ≤ x := fun x hx => by have := (HO2.out.lt x (by simpa using hx)).1; omega
          have hks : Kept [w.heap.size] w5 (w5.setCell ⟨w.heap.size, 0, none⟩ (.slice sA sn sc)) := (Kept.refl _ w5).setCell (.inl (by simp)) _
          have hk6 : Kept (w.heap.size :: sl.ownBlock.toList) w2 (w5.setCell ⟨w.heap.size, 0, none⟩ (.slice sA sn sc)) := (H5.out.2.1.more (fun x hx => .inl (List.mem_cons_of_mem _ hx))).trans hks (by simp)
          have hge' : ∀ x ∈ w.heap.size :: sl.ownBlock.toList, w.heap.size ≤ x := fun x hx => by
            rcases List.mem_cons.1 hx with e | hx
            · omega
            · exact hge x hx
          refine ⟨done ++ [r0], r1, t1, .slice sA sn sc, rfl, hid (by rw [hrs.out]; simp), HN, hid (HA2.out.keep hk6 (fun x hx => HFar.out x (hge' x hx))), hid ?_, hid ?_, hid (HK3.out.trans hk6 (fun x hx => .inr (hge' x hx)))⟩
          · have := HB5.out.set_ 0 (.slice sA sn sc)
            simpa using this
          · have h5 := own_set H5.out.1 (p := ⟨w.heap.size, 0, none⟩) (by simp) (.slice sA sn sc)
            simpa [HIV.out] using h5
end Go.Proofs.YtojimnlnpghbiaaDoor.rev
