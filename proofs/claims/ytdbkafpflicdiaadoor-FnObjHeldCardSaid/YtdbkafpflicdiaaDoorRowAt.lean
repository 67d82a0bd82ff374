/- A row of the call's own of which the front has been cut off: append onto it, the cut, what it reads as. Of any program. -/
import Derived.Test.YtdbkafpflicdiaaDoorFrame
import Derived.Test.YtdbkafpflicdiaaDoorMem
import Derived.Laws.AppendOwn
set_option linter.unusedVariables false
namespace Go.Proofs.YtdbkafpflicdiaaDoor.row
open Go.RowKit Lib frm mem

/-- v reads as xs, in a row of the call's own (block B or later), perhaps not from the row's begin -/
def RowAt (w : World) (B : Nat) (e : TypeId) (v : Value) (xs : List Value) : Prop :=
  (v = .slice none 0 0 ∧ xs = []) ∨ ∃ g o c cur, v = .slice (some ⟨g, o, none⟩) xs.length c ∧ B ≤ g ∧ w.heap[g]? = some (.cells cur e (0, 0)) ∧ xs.length ≤ c ∧ c ≤ maxLen ∧ o + c ≤ cur.size ∧ (cur.toList.drop o).take xs.length = xs
section
variable {w w' : World} {B : Nat} {e : TypeId} {v : Value} {xs : List Value}
theorem RowAt.nil_ (w : World) (B : Nat) (e : TypeId) : RowAt w B e (.slice none 0 0) [] := .inl ⟨rfl, rfl⟩
theorem RowAt.lt (h : RowAt w B e v xs) : ∀ g, v.ownBlock = some g → B ≤ g ∧ g < w.heap.size := by
  intro g hg
  rcases h with ⟨rfl, rfl⟩ | ⟨g', o, c, cur, rfl, hb, hh, _⟩
  · cases hg
  · cases hg; exact ⟨hb, Lib.lt_of_heap hh⟩
theorem RowAt.typed (h : RowAt w B e v xs) {g : Nat} (hg : v.ownBlock = some g) : ∃ cs, Blk w g e cs := by
  rcases h with ⟨rfl, rfl⟩ | ⟨g', o, c, cur, rfl, hb, hh, _⟩
  · cases hg
  · cases hg; exact ⟨cur, hh⟩
theorem RowAt.kept {K : List Nat} (h : RowAt w B e v xs) (hk : Kept K w w') (hn : ∀ x, v.ownBlock = some x → x ∉ K) : RowAt w' B e v xs := by
  rcases h with h | ⟨g, o, c, cur, rfl, hb, hh, hr⟩
  · exact .inl h
  · exact .inr ⟨g, o, c, cur, rfl, hb, hk.heap hh (hn g rfl), hr⟩
theorem RowAt.shape (h : RowAt w B e v xs) : ∃ A c, v = .slice A xs.length c ∧ xs.length ≤ c := by
  rcases h with ⟨rfl, rfl⟩ | ⟨g, o, c, cur, rfl, _, _, hc, _⟩
  · exact ⟨none, 0, rfl, Nat.le_refl _⟩
  · exact ⟨_, c, rfl, hc⟩
theorem RowAt.cells (h : RowAt w B e v xs) : ∀ A c, v = .slice A xs.length c → Reads w w.heap.size 1 A xs.length xs ∧ (0 < xs.length → ∃ g o, A = some ⟨g, o, none⟩) := by
  intro A c hv
  rcases h with ⟨rfl, rfl⟩ | ⟨g, o, c', cur, rfl, hb, hh, hc, hm, hs, ht⟩
  · exact ⟨⟨by simp, fun h => absurd h (by simp)⟩, fun h => absurd h (by simp)⟩
  · cases hv
    refine ⟨⟨by simp, fun hn => ⟨_, rfl, Lib.lt_of_heap hh, fun j u hu => ?_⟩⟩, fun _ => ⟨_, _, rfl⟩⟩
    have hj := (List.getElem?_eq_some_iff.1 hu).1
    rw [Lib.addr_add, Lib.cell_of_heap hh]
    have h1 : ((cur.toList.drop o).take xs.length)[j]? = some u := by rw [ht]; exact hu
    rw [List.getElem?_take, if_pos hj, List.getElem?_drop] at h1
    simpa using h1
/-- the front cut off -/
theorem RowAt.cut {A : Option Addr} {n c k : Nat} (h : RowAt w B e (.slice A n c) xs) (hk : k ≤ n) : RowAt w B e (.slice (if c = k then A else A.map (·.add k)) (n - k) (c - k)) (xs.drop k) := by
  rcases h with ⟨h1, rfl⟩ | ⟨g, o, c', cur, h1, hb, hh, hc, hm, hs, ht⟩
  · cases h1
    have : k = 0 := by omega
    subst this
    exact .inl ⟨by simp, by simp⟩
  · cases h1
    by_cases he : c = k
    · rw [if_pos he]
      refine .inr ⟨g, o, c - k, cur, by simp, hb, hh, by simp; omega, by omega, by omega, ?_⟩
      have : xs.length = k := by omega
      rw [List.drop_eq_nil_of_le (by omega)]; simp
    · rw [if_neg he]
      refine .inr ⟨g, o + k, c - k, cur, by simp [Lib.addr_add], hb, hh, by simp; omega, by omega, by omega, ?_⟩
      rw [List.length_drop, ← List.drop_drop, ← List.drop_take, ht]
end
section
variable {P : Program} (w : World)
theorem run_append_room_at (t ty e : TypeId) (i : TypeInfo) (ht : P.underlying t = some (.slice e)) (hi : P.info? e = some i) (h1s : i.size = 1)
    (g o sLen sCap : Nat) (cur : Array Value) (hg : w.heap[g]? = some (.cells cur e (0, 0)))
    (a : Addr) (m c : Nat) (news : List Value) (hl : news.length = m) (hnews : ∀ j u, news[j]? = some u → w.cell? (a.add j) = some u) (h1 : ∀ u ∈ news, u.oneCell' = true)
    (hroom : sLen + m ≤ sCap) (hfit : o + sLen + m ≤ cur.size) :
    (Builtin.append_ #[t, t] ty #[.slice (some ⟨g, o, none⟩) sLen sCap, .slice (some a) m c]).run P w =
      .ok (.slice (some ⟨g, o, none⟩) (sLen + m) sCap) (w.setRow g (cur.toList.take (o + sLen) ++ news ++ cur.toList.drop (o + sLen + m)).toArray) := by
  have hf := run_firstCells_some (P := P) w 1 m a m c news (by omega) hnews
  have hst := run_storeCells_at P g (o + sLen) e news 0 cur w hg (by omega) h1
  simp only [Nat.add_zero, hl, List.append_assoc] at hst
  have ha : (⟨g, o, none⟩ : Addr).add sLen = ⟨g, o + sLen, none⟩ := Lib.addr_add g o sLen
  simp [Builtin.append_, run_underlying ht, sizeOf, typeInfo, hi, Builtin.lenOf, hroom, hf, h1s, ha, hst]
theorem run_append_at (B : Nat) (t ty e : TypeId) (i : TypeInfo) (z : Value) (bytes : Nat) (ht : P.underlying t = some (.slice e)) (hi : P.info? e = some i) (hz : i.zero = some z)
    (hsize : i.size = 1) (hby : i.bytes = bytes) (hzs : z.cells.size = 1)
    (v : Value) (xs : List Value) (hown : RowAt w B e v xs) (B' : Nat) (A : Option Addr) (m c : Nat) (news : List Value) (hr : Reads w B' 1 A m news) (h1 : ∀ u ∈ news, u.oneCell' = true)
    (h63 : xs.length + m ≤ maxLen) (hbytes : (xs.length + m) * bytes ≤ 140737488355328) (hbase : B ≤ w.heap.size) :
    ∃ v' w', (Builtin.append_ #[t, t] ty #[v, .slice A m c]).run P w = .ok v' w' ∧ RowAt w' B e v' (xs ++ news) ∧ w.grownBy w' v.ownBlock ∧ (v'.ownBlock = v.ownBlock ∨ v'.ownBlock = some w.heap.size) := by
  subst hby
  have hm63 : xs.length + m ≤ 9223372036854775807 := by simp only [maxLen] at h63; omega
  have hlm : news.length = m := by simpa using hr.1
  rcases Nat.eq_zero_or_pos m with h0 | h0
  · subst h0
    have hn : news = [] := List.eq_nil_of_length_eq_zero hlm
    subst hn
    refine ⟨v, w, ?_, by simpa using hown, World.grownBy.refl w _, .inl rfl⟩
    rcases hown with ⟨rfl, rfl⟩ | ⟨g, o, cap, cur, rfl, _, _, hnc, _⟩
    · cases A <;> simp [Builtin.append_, run_underlying ht, sizeOf, typeInfo, hi, Builtin.lenOf, Builtin.firstCells, loadCells, loadCellsFrom]
    · cases A <;> simp [Builtin.append_, run_underlying ht, sizeOf, typeInfo, hi, Builtin.lenOf, Builtin.firstCells, hnc, storeCells, loadCells, loadCellsFrom]
  · obtain ⟨ad, rfl, _, hc⟩ := hr.2 h0
    have grown : ∀ (old : Nat), old < xs.length + m → ∀ (row : Option Nat),
        RowAt (w.drew.alloc (.cells (xs.toArray ++ news.toArray ++ Builtin.zeroCells z.cells (grownCap w (xs.length + m) old e - (xs.length + m))) e)) B e (.slice (some ⟨w.heap.size, 0, none⟩) (xs.length + m) (grownCap w (xs.length + m) old e)) (xs ++ news) ∧
        w.grownBy (w.drew.alloc (.cells (xs.toArray ++ news.toArray ++ Builtin.zeroCells z.cells (grownCap w (xs.length + m) old e - (xs.length + m))) e)) row := by
      intro old ho row
      have hge := grownCap_ge w (xs.length + m) old e
      have hcm : grownCap w (xs.length + m) old e ≤ maxLen := grownCap_le_maxLen w (xs.length + m) old e h63
      refine ⟨.inr ⟨w.heap.size, 0, _, _, by simp [hlm], hbase, heap_alloc_new w.drew _, by simp; omega, hcm, ?_, ?_⟩, ⟨rfl, rfl, rfl, by simp, fun k hk _ => heap_alloc_old w.drew _ k hk⟩⟩
      · simp only [Array.size_append, List.size_toArray, size_zeroCells, hzs, hlm]
        omega
      · simp only [Array.toList_append, List.drop_zero]
        exact List.take_left
    rcases hown with ⟨rfl, rfl⟩ | ⟨g, o, cap, cur, rfl, hbg, hg, hnc, hcm, hcs, htake⟩
    · have hr := run_append_nil (P := P) w t ty e i z ht hi hz ad m c news (by rw [hsize]; omega) hc h0 (by simp at hm63; omega) (by have hb := hbytes; simp only [List.length_nil, Nat.zero_add] at hb; omega)
      have hgr := grown 0 (by omega) (Value.ownBlock (.slice none 0 0))
      simp only [List.length_nil, Nat.zero_add, List.nil_append, Array.empty_append] at hgr ⊢
      exact ⟨_, _, hr, hgr.1, hgr.2, .inr rfl⟩
    · by_cases hroom : xs.length + m ≤ cap
      · have hr := run_append_room_at (P := P) w t ty e i ht hi hsize g o xs.length cap cur hg ad m c news hlm hc h1 hroom (by omega)
        refine ⟨_, _, hr, .inr ⟨g, o, cap, _, by simp [hlm], hbg, setRow_heap w g cur _ e _ hg, by simp; omega, hcm, ?_, ?_⟩, ⟨rfl, rfl, rfl, by simp, fun k _ hk => setRow_other w g k _ (fun e => hk (by simp [Value.ownBlock, e]))⟩, .inl rfl⟩
        · simp only [List.size_toArray, List.length_append, List.length_take, List.length_drop, Array.length_toList]
          omega
        · have e1 : (cur.toList.take (o + xs.length) ++ news ++ cur.toList.drop (o + xs.length + m)).drop o = (cur.toList.drop o).take xs.length ++ news ++ cur.toList.drop (o + xs.length + m) := by
            rw [List.drop_append_of_le_length (by simp; omega), List.drop_append_of_le_length (by simp; omega), List.drop_take]
            congr 3
            omega
          rw [e1, htake]
          exact List.take_left
      · have hcell : ∀ j u, xs[j]? = some u → w.cell? ((⟨g, o, none⟩ : Addr).add j) = some u := by
          have h2 := (RowAt.cells (w := w) (B := B) (e := e) (.inr ⟨g, o, cap, cur, rfl, hbg, hg, hnc, hcm, hcs, htake⟩) _ cap rfl).1
          intro j u hu
          rcases Nat.eq_zero_or_pos xs.length with h3 | h3
          · have : xs = [] := List.eq_nil_of_length_eq_zero h3
            subst this; simp at hu
          · obtain ⟨ad', e1, _, h4⟩ := h2.2 h3
            cases e1
            exact h4 j u hu
        have hr := run_append_grow (P := P) w t ty e i z ht hi hz ⟨g, o, none⟩ xs.length cap xs (by rw [hsize]; omega) hcell ad m c news (by rw [hsize]; omega) hc (by omega) (by omega) (growslice_fits (by omega) hbytes)
        have hgr := grown cap (by omega) (Value.ownBlock (.slice (some ⟨g, o, none⟩) xs.length cap))
        exact ⟨_, _, hr, hgr.1, hgr.2, .inr rfl⟩
theorem wp_append_at {o : Oper} {a : Act} {K : Act → World → Prop} {Q : Exit → Act → World → Prop} (s x : Operand) (t : TypeId)
    (ho : o.op = .call { callee := .builtin .append, args := #[s, x], argTypes := #[t, t] })
    (B : Nat) (e : TypeId) (i : TypeInfo) (z : Value) (bytes : Nat) (ht : P.underlying t = some (.slice e)) (hi : P.info? e = some i) (hz : i.zero = some z)
    (hsize : i.size = 1) (hby : i.bytes = bytes) (hzs : z.cells.size = 1)
    (v : Value) (xs : List Value) (hs : a.eval s = v) (hown : RowAt w B e v xs) (B' : Nat) (A : Option Addr) (m c : Nat) (news : List Value) (hx : a.eval x = .slice A m c) (hr : Reads w B' 1 A m news) (h1 : ∀ u ∈ news, u.oneCell' = true)
    (h63 : xs.length + m ≤ maxLen) (hbytes : (xs.length + m) * bytes ≤ 140737488355328) (hbase : B ≤ w.heap.size)
    (h : ∀ v' w', RowAt w' B e v' (xs ++ news) → w.grownBy w' v.ownBlock → (v'.ownBlock = v.ownBlock ∨ v'.ownBlock = some w.heap.size) → K (a.put o.dst v') w') : o.wp P a w K Q := by
  obtain ⟨v', w', hrun, h2, h3, h4⟩ := run_append_at (P := P) w B t o.type e i z bytes ht hi hz hsize hby hzs v xs hown B' A m c news hr h1 h63 hbytes hbase
  unfold Oper.wp execOp
  simp only [ho, resolve, invoke, builtin, Sem.run_bind, Sem.run_pure, Result.andThen_ok, List.map_toArray, List.map_cons, List.map_nil, hs, hx, hrun]
  exact h v' w' h2 h3 h4
theorem wpList_append_at {ops : Array Oper} {rest : List Oper} {o : Oper} {a : Act} {Q : Exit → Act → World → Prop} (hgd : o.guard = none) (s x : Operand) (t : TypeId)
    (ho : o.op = .call { callee := .builtin .append, args := #[s, x], argTypes := #[t, t] })
    (B : Nat) (e : TypeId) (i : TypeInfo) (z : Value) (bytes : Nat) (ht : P.underlying t = some (.slice e)) (hi : P.info? e = some i) (hz : i.zero = some z)
    (hsize : i.size = 1) (hby : i.bytes = bytes) (hzs : z.cells.size = 1)
    (v : Value) (xs : List Value) (hs : a.eval s = v) (hown : RowAt w B e v xs) (B' : Nat) (A : Option Addr) (m c : Nat) (news : List Value) (hx : a.eval x = .slice A m c) (hr : Reads w B' 1 A m news) (h1 : ∀ u ∈ news, u.oneCell' = true)
    (h63 : xs.length + m ≤ maxLen) (hbytes : (xs.length + m) * bytes ≤ 140737488355328) (hbase : B ≤ w.heap.size)
    (h : ∀ v' w', RowAt w' B e v' (xs ++ news) → w.grownBy w' v.ownBlock → (v'.ownBlock = v.ownBlock ∨ v'.ownBlock = some w.heap.size) → wpList P ops Q rest (a.put o.dst v') w') : wpList P ops Q (o :: rest) a w :=
  wpList_plain hgd fun _ hK => wp_append_at w s x t ho B e i z bytes ht hi hz hsize hby hzs v xs hs hown B' A m c news hx hr h1 h63 hbytes hbase fun v' w' h2 h3 h4 => hK _ _ (h v' w' h2 h3 h4)
end
end Go.Proofs.YtdbkafpflicdiaaDoor.row
