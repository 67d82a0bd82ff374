/- impl.ParseRevision. -/
import Derived.Test.YtojimnlnpghbiaaDoorRevSame
set_option linter.unusedVariables false
attribute [local go_sem ↓] Go.wp_at_zero Go.wp_at_succ
namespace Go.Proofs.YtojimnlnpghbiaaDoor.rev
open Go.RowKit Lib frm mem rd

theorem infoPart : (Tryd.prog.info? Pty).map (fun i => (i.zero, i.size, i.bytes)) = some (some (.agg #[.string ⟨#[]⟩, .string ⟨#[]⟩, .int .i64 0, .bool false]), 4, 48) := by kernel_rfl
theorem cellsOf_take (rs : List Rv) (k : Nat) (r : Rv) (h : rs[k]? = some r) : cellsOf (rs.take (k + 1)) = cellsOf (rs.take k) ++ r.cells := by
  have hk : k < rs.length := (List.getElem?_eq_some_iff.1 h).1
  have hr : rs[k] = r := (List.getElem?_eq_some_iff.1 h).2
  rw [List.take_succ_eq_append_getElem hk, hr]
  simp [cellsOf]
theorem four_cells (w : World) (a b c d : Value) {e : TypeId} : Reads (w.alloc (.cells #[a, b, c, d] e)) (w.heap.size + 1) 4 (some ⟨w.heap.size, 0, none⟩) 1 [a, b, c, d] :=
  ⟨rfl, fun _ => ⟨_, rfl, by simp, fun j u hu => by
    rw [Lib.addr_add, Nat.zero_add, Lib.cell_of_heap (heap_alloc_new w _) j]
    match j, hu with
    | 0, hu => exact hu
    | 1, hu => exact hu
    | 2, hu => exact hu
    | 3, hu => exact hu⟩⟩
/-- a text whose tokens make these parts -/
structure Spoken (s : ByteArray) (rs : List Rv) (ok : Bool) : Prop where
  pos : 0 < s.size
  le : s.size ≤ 100
  few : rs.length ≤ 10
  good : ok = true → Good rs
  way : ∃ ts, Lex s.data.toList ts ∧ ∀ p h S, Chain p h S ts rs ok
def Revd (rs : List Rv) (ok : Bool) (w : World) (e : Ending) (w' : World) : Prop :=
  Kept [] w w' ∧ ∃ v, e = .returned (.tuple #[v, .bool ok]) ∧ (ok = true → w'.ownsRow w.heap.size Pty 4 v rs.length (cellsOf rs))
set_option maxRecDepth 100000 in
set_option maxHeartbeats 4000000 in
theorem parseRev_calls (s : ByteArray) (rs : List Rv) (ok : Bool) (w : World) (pv : Addr) (hs : Start w pv) (hsp : Spoken s rs ok) :
    Calls Tryd.prog 31 #[.string s] w (Revd rs ok w) := by
  obtain ⟨i0, hi, hz0, hz1, hz2⟩ := info_parts infoPart
  obtain ⟨h0, h1, h2, h3, ts, hx, hch⟩ := hsp
  have c1 := hid (made_calls s w)
  have HS := hid hs
  have HX := hid (And.intro h0 (And.intro h1 (And.intro hx (And.intro hch h3))))
  have HL := hid h2
  clear h0 h1 hx hch h3 hs
  go_enter Tryd.func31, Tryd.ntmps31
  go_wp2_with fail
  refine c1.out.mono ?_
  rintro e w1 hm
  obtain ⟨p, hh, S, rfl, hb, hk, hp, hph, hpS⟩ := begun HS.out HX.out.1 (by have := HX.out.2.1; omega) hm
  have hah := hb.ahead HX.out.2.2.1 (by have := HS.out.props.1; omega) (by have := HS.out.fg; omega) (by have := HS.out.eg; omega)
  have c2 := hid (parse_calls p hh S ts rs ok w1 (HX.out.2.2.2.1 p hh S) hah HX.out.2.2.2.2 HL.out)
  have hown : ∀ x ∈ own p hh, w.heap.size ≤ x := fun x hx => by
    rcases List.mem_cons.1 hx with e | e
    · omega
    · exact Nat.le_of_lt (hp x e)
  have HK1 := hid (And.intro hk hown)
  clear hm hb hk hp hph hpS hah hown c1
  go_wp2_with fail
  refine c2.out.mono ?_
  rintro e w2 ⟨hk2, v, er, rfl, hT, hF⟩
  have HK2 := hid (HK1.out.1.trans hk2 (fun x hx => .inr (HK1.out.2 x hx)))
  clear hk2 c2
  cases ok with
  | false =>
    obtain ⟨a, rfl⟩ := hF rfl
    clear hT hF
    go_wp2_with fail
    refine bodyPost_ret (by simp [results, Tryd.results31, go_sem]; rfl) rfl ?_
    exact ⟨HK2.out, _, rfl, nofun⟩
  | true =>
    obtain ⟨rfl, ho⟩ := hT rfl
    have key : ∃ g cap, v = .slice (some ⟨g, 0, none⟩) rs.length cap ∧ g < w2.heap.size ∧ ∀ j u, (rs.map Rv.v)[j]? = some u → w2.cell? ⟨g, j, none⟩ = some u := by
      rcases id ho with ⟨hl, ⟨h1, h2⟩ | ⟨b, c, cur, h1, _, hh, _⟩⟩
      · exfalso
        have := HX.out.2.2.2.2 rfl
        cases this <;> exact absurd h2 (by simp)
      · subst h1
        exact ⟨b, c, rfl, Lib.lt_of_heap hh, fun j u hu => by have := ho.cells (g := b) rfl j u hu; rwa [Lib.addr_add, Nat.zero_add] at this⟩
    obtain ⟨g, cap, rfl, hgl, hcell⟩ := key
    have HCell := hid (And.intro hgl hcell)
    obtain ⟨n, hn⟩ : ∃ n, n = rs.length := ⟨_, rfl⟩
    have hn10 : n ≤ 10 := by rw [hn]; exact HL.out
    rw [← hn]
    have HN := hid hn
    clear ho hgl hcell hT hF hn h2
    go_wp2_with fail
    go_loopw [6, 19] (fun ov iv wr => ∃ k : Nat, k ≤ n ∧ iv = .int .i64 k ∧ Hid (wr.ownsRow w2.heap.size Pty 4 ov k (cellsOf (rs.take k))) ∧ Hid (Kept [] w2 wr)) (fun _ iv _ => n - (RowKit.intOf iv).toNat)
    case atStart => exact ⟨0, by omega, rfl, hid (World.ownsRow_nil w2 w2.heap.size Pty 4), hid (Kept.refl _ _)⟩
    case round =>
      obtain ⟨k, hk, rfl, hO, hK⟩ := hrel
      by_cases hlt : k < n
      · obtain ⟨r, hr⟩ : ∃ r, rs[k]? = some r := ⟨_, List.getElem?_eq_getElem (by rw [← HN.out]; exact hlt)⟩
        have hc0 : wr.cell? ⟨g, k, none⟩ = some r.v := (hK.out.cell (p := ⟨g, k, none⟩) HCell.out.1 (by simp)).trans (HCell.out.2 k _ (by rw [List.getElem?_map, hr]; rfl))
        obtain ⟨x, t, d, b, hcs⟩ := r.form
        have hpart : r.part = .agg #[.string x, .string t, .int .i64 d, .bool b] := by unfold Rv.part; rw [hcs]
        have c3 := hid (part_calls r wr)
        unfold PartIs at c3
        rw [hpart] at c3
        have HR := hid (And.intro hr hcs)
        clear hr hcs hpart
        go_wp2_with fail
        refine c3.out.mono ?_
        rintro e w3 ⟨rfl, hk3⟩
        have HO3 := hid ((own_keep hO.out hk3 (by simp)).alloc (.cells #[.string x, .string t, .int .i64 d, .bool b] Pty))
        have HK3 := hid (hK.out.trans hk3 (by simp))
        have hr3 := hid (four_cells w3 (.string x) (.string t) (.int .i64 d) (.bool b) (e := Pty))
        have hsz := hid (show w2.heap.size ≤ (w3.alloc (.cells #[.string x, .string t, .int .i64 d, .bool b] Pty)).heap.size by have := HK3.out.size; simp; omega)
        clear hk3 c3 hc0
        go_wp2_with (at_builtin; refine wpList_append_any _ rfl (.tmp 23) (.tmp 26) _ rfl w2.heap.size Pty i0 _ 4 48 Tryd.underlying59 hi hz0 hz1 hz2 rfl (by omega) u6 k (cellsOf (rs.take k)) rfl HO3.out (w3.heap.size + 1) (some ⟨w3.heap.size, 0, none⟩) 1 1 [.string x, .string t, .int .i64 d, .bool b] rfl hr3.out (by simp [Value.oneCell']) (by simp only [maxLen]; omega) (by omega) hsz.out ?_; intro v2 w5 hown2 hg2 hat2; have hk5 := kept_list ((Kept.refl [] w3).alloc (.cells #[.string x, .string t, .int .i64 d, .bool b] Pty)) hg2; have H5 := hid (And.intro hown2 hk5); clear hown2 hg2 hat2 hk5)
        go_roundw
        case rel =>
          refine ⟨k + 1, by omega, by go_num, hid ?_, hid (HK3.out.trans H5.out.2 (fun y hy => .inr (HO3.out.lt y (by simpa using hy)).1))⟩
          rw [cellsOf_take rs k r HR.out.1, HR.out.2]
          exact H5.out.1
        case measure => simp [RowKit.intOf]; omega
      · have hkn : k = n := by omega
        subst hkn
        have ho := hO.out
        rw [HN.out, List.take_length] at ho
        have HO := hid ho
        clear ho
        go_wp2_with fail
        refine bodyPost_ret (by simp [results, Tryd.results31, go_sem]; rfl) rfl ?_
        exact ⟨HK2.out.trans hK.out (by simp), _, rfl, fun _ => own_mono HO.out HK2.out.size⟩
end Go.Proofs.YtojimnlnpghbiaaDoor.rev
