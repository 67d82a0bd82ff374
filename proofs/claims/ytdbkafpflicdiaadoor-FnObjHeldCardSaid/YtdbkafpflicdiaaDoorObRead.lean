/- impl.readAll over the reader of an object. -/
import Derived.Test.YtdbkafpflicdiaaDoorObMHash
set_option linter.unusedVariables false
attribute [local go_sem ↓] Go.wp_at_zero Go.wp_at_succ
namespace Go.Proofs.YtdbkafpflicdiaaDoor.ob
open Go.RowKit Lib mem frm row sha rd

theorem own_low {w : World} {base b2 size n : Nat} {e : TypeId} {v : Value} {xs : List Value} (h : w.ownsRow base e size v n xs) (hb : b2 ≤ base) : w.ownsRow b2 e size v n xs := by
  obtain ⟨hl, h0 | ⟨g, cap, cur, rfl, hB, hg, hr⟩⟩ := h
  · exact ⟨hl, .inl h0⟩
  · exact ⟨hl, .inr ⟨g, cap, cur, rfl, Nat.le_trans hb hB, hg, hr⟩⟩
theorem own_keepK {w w' : World} {K : List Nat} {base size n : Nat} {e : TypeId} {v : Value} {xs : List Value} (h : w.ownsRow base e size v n xs) (hk : Kept K w w') (hn : ∀ x ∈ K, x < base) : w'.ownsRow base e size v n xs := by
  obtain ⟨hl, h0 | ⟨g, cap, cur, rfl, hB, hg, hr⟩⟩ := h
  · exact ⟨hl, .inl h0⟩
  · exact ⟨hl, .inr ⟨g, cap, cur, rfl, hB, hk.heap hg (fun hm => by have := hn g hm; omega), hr⟩⟩
theorem eq_same (w : World) (p : Addr) : (binOp .eql 42 (.iface 93 (.pointer (some p))) (.iface 93 (.pointer (some p)))).run Tryd.prog w = .ok (.bool true) w := by
  obtain ⟨i, hi, hc⟩ : ∃ i, Tryd.prog.info? 93 = some i ∧ i.comparable = true := by
    have h : (Tryd.prog.info? 93).map (·.comparable) = some true := by kernel_rfl
    cases hh : Tryd.prog.info? 93 with
    | none => rw [hh] at h; cases h
    | some i => rw [hh] at h; exact ⟨i, rfl, by simpa using h⟩
  obtain ⟨j, hj⟩ : ∃ j, Tryd.prog.info? 123 = some j := by
    have h : (Tryd.prog.info? 123).map (·.size) = some 1 := by kernel_rfl
    cases hh : Tryd.prog.info? 123 with
    | none => rw [hh] at h; cases h
    | some i => exact ⟨i, rfl⟩
  exact run_eql_iface_ptr_same w p Tryd.underlying42 Tryd.underlying93 hi hc hj
/-- what the reading has done: out, the reader's place, the buffer -/
structure Got (w1 wr : World) (q D : Nat) (A : Option Addr) (n c i : Nat) (l : List UInt8) (v : Value) : Prop where
  r : Rd wr q A n c i
  d : ∃ cur : List Value, cur.length = 512 ∧ Blk wr D 5 cur.toArray
  o : Own w1 wr v i (l.take i)
  le : i ≤ n
  k : Kept [q, D] w1 wr
theorem splice_front (cur cs : List Value) (h : cs.length ≤ cur.length) : (splice cur 0 cs).length = cur.length ∧ ∀ (j : Nat) (u : Value), cs[j]? = some u → (splice cur 0 cs)[j]? = some u := by
  unfold splice
  refine ⟨by simp; omega, fun j u hu => ?_⟩
  have hj := (List.getElem?_eq_some_iff.1 hu).1
  simp only [List.take_zero, List.nil_append]
  rw [List.getElem?_append_left hj]
  exact hu
theorem reads_front {w : World} {D : Nat} {t : TypeId} {cur cs : List Value} (hD : Blk w D t (splice cur 0 cs).toArray) (h : cs.length ≤ cur.length) : Reads w w.heap.size 1 (some ⟨D, 0, none⟩) cs.length cs :=
  ⟨by simp, fun _ => ⟨_, rfl, hD.lt, fun j u hu => by
    rw [Lib.addr_add, Nat.zero_add]
    exact hD.cell j (by have := (splice_front cur cs h).2 j u hu; simpa using this)⟩⟩
/-- the append behind the end -/
theorem got_end {w w1 w2 w3 : World} {q g : Nat} {e : TypeId} {u v0 : Value} {size i : Nat} {xs : List Value} (hk : Kept [q] w w2) (ho : w2.ownsRow w1.heap.size e size u i xs) (hg : w2.grownBy w3 u.ownBlock) (hz : w.heap.size ≤ w1.heap.size) (hgl : g < w.heap.size)
    (hc : w2.cell? ⟨g, 0, none⟩ = some v0) : Kept [q] w w3 ∧ w3.cell? ⟨g, 0, none⟩ = some v0 := by
  have hk3 : Kept u.ownBlock.toList w2 w3 := Kept.of_grown_own hg (fun g hg => .inl (by simp [hg]))
  have hne : ∀ x, x ∈ u.ownBlock.toList → w1.heap.size ≤ x := fun x hx => by
    rcases ho.2 with ⟨h, _⟩ | ⟨g, cap, cur, h, hB, _⟩
    · rw [h] at hx; simp [Value.ownBlock] at hx
    · rw [h] at hx; simp [Value.ownBlock] at hx; rw [hx]; exact hB
  exact ⟨hk.trans hk3 (fun x hx => .inr (Nat.le_trans hz (hne x hx))), (hk3.cell (p := ⟨g, 0, none⟩) (World.block_lt_of_cell? w2 _ hc) (fun hm => by have := hne g hm; omega)).trans hc⟩
def AllRead (w : World) (q n : Nat) (l : List UInt8) (e : Ending) (w' : World) : Prop := Kept [q] w w' ∧ ∃ v, e = .returned (.tuple #[v, .bool true]) ∧ Own w w' v n l
theorem zero512 : (madeCells (Value.int .u8 0).cells (512 * 1)).toList.length = 512 := by simp [madeCells, Value.cells]
set_option maxRecDepth 100000 in
set_option maxHeartbeats 4000000 in
theorem readAll_calls (B q n c : Nat) (A : Option Addr) (l : List UInt8) (v0 : Value) (w : World) (hq : Rd w q A n c 0) (hl : Bytes w B A n l) (hB : B ≤ q) (hn : n ≤ 1000000) (hnc : n ≤ c) (hE : Eof w v0) (hg : 0 < w.heap.size) (hgq : 0 ≠ q) :
    Calls Tryd.prog 18 #[.iface NC (.agg #[.pointer (some ⟨q, 0, none⟩)]), .int .i64 512] w (AllRead w q n l) := by
  have hna : ∀ w : World, Sem.run Tryd.prog (nilAhead 233 NC (.agg #[.pointer (some ⟨q, 0, none⟩)]) "Read") w = .ok (some false) w := fun _ => by kernel_rfl
  have hme : ∀ w : World, Sem.run Tryd.prog (method 233 NC (.agg #[.pointer (some ⟨q, 0, none⟩)]) "Read") w = .ok (72, .pointer (some ⟨q, 0, none⟩)) w := fun _ => by kernel_rfl
  obtain ⟨i0, hi, hz0, hz1, hz2⟩ := info_parts infoU8
  have hqlt := hq.lt
  have HQ := hid hq
  have HL := hid hl
  have HB := hid hB
  have HNC := hid hnc
  have HE := hid hE
  have HG := hid hg
  have HGQ := hid hgq
  have HQL := hid hqlt
  obtain ⟨D, hD⟩ : ∃ D, D = w.heap.size := ⟨_, rfl⟩
  have HD := hid hD
  have HN := hid hn
  clear hq hl hB hnc hE hg hgq hqlt hn hD
  go_enter Tryd.func18, Tryd.ntmps18
  go_wp2_with (at_make; refine wpList_make_full _ rfl _ _ 26 rfl w.heap.size 5 i0 _ 1 Tryd.underlying26 hi hz0 hz1 .i64 .i64 512 512 512 rfl rfl rfl rfl (by rw [hz2]; decide) (by decide) (by simp) ?_; intro w1 hown hgr; rw [← HD.out]; rw [← HD.out] at hown; have H1 := hid (And.intro hown hgr); clear hown hgr)
  have HK1 : Hid (Kept [] w w1) := hid (Kept.of_grown_none H1.out.2)
  have HD1 : Hid (D < w1.heap.size ∧ ∃ cur : List Value, cur.length = 512 ∧ Blk w1 D 5 cur.toArray) := hid (by
    have ho := H1.out.1
    rcases ho.2 with ⟨h1, _⟩ | ⟨g, cap, cur, h1, _, hg, _, _, hcs, _⟩
    · cases h1
    · injection h1 with h1 h2 h3
      injection h1 with h1
      injection h1 with h1
      rw [h1]
      exact ⟨Lib.lt_of_heap hg, cur.toList, by rw [Array.length_toList, hcs, ← h3], hg⟩)
  have HGot : Hid (Got w1 w1 q D A n c 0 l (.slice none 0 0)) := hid ⟨HQ.out.kept HK1.out (by simp), HD1.out.2, ⟨by simp, World.ownsRow_nil _ _ _ _⟩, Nat.zero_le _, Kept.refl _ _⟩
  clear H1
  go_loopg [6] (n + 1) (fun G sv wr => ∃ i : Nat, Hid (Got w1 wr q D A n c i l sv) ∧ Hid (n - i + 1 ≤ G))
  case atStart => exact ⟨0, HGot, hid (by omega)⟩
  case round =>
    obtain ⟨i, hGot, hG⟩ := hrel
    obtain ⟨wo, rfl⟩ : ∃ wo, wo = wr := ⟨_, rfl⟩
    have hKw : Kept [q] w wo := (HK1.out.more (T := [q]) (by simp)).trans hGot.out.k (fun x hx => by
      simp only [List.mem_cons, List.not_mem_nil, or_false] at hx ⊢
      rcases hx with hx | hx
      · exact .inl hx
      · exact .inr (by rw [hx, HD.out]; exact Nat.le_refl _))
    have hlw : Bytes wo B A n l := HL.out.below (hKw.below (Nat.le_trans HB.out (Nat.le_of_lt HQL.out)) (by simp; exact HB.out))
    have HLW := hid hlw
    have HKW := hid hKw
    clear hKw hlw
    obtain ⟨cur, hcl, hcb⟩ := hGot.out.d
    have HCB := hid hcb
    have HCL := hid hcl
    have HBD : Hid (B ≤ D ∧ q ≠ D) := hid (by have := HB.out; have := HQL.out; have := HD.out; omega)
    have HX1 : Hid (∀ x ∈ [q, D], x < w1.heap.size) := hid (by
      have h1 := HD1.out.1
      have h2 := HK1.out.size
      have h3 := HQL.out
      intro x hx
      simp only [List.mem_cons, List.not_mem_nil, or_false] at hx
      rcases hx with hx | hx <;> omega)
    clear hcb hcl
    by_cases hlt : i < n
    · obtain ⟨k, hk⟩ : ∃ k, k = min (n - i) 512 := ⟨_, rfl⟩
      have c1 := hid (read_some B q A n c i l D 0 512 512 k 5 cur wo hGot.out.r hlt (by have := HN.out; omega) HNC.out HLW.out HB.out HBD.out.1 HBD.out.2 HCB.out hk (by have := HCL.out; omega))
      have hsl : ∀ w, (Instr.sliceAt 26 (.slice (some ⟨D, 0, none⟩) 512 512) none (some (.int .i64 (k : Int))) none).run Tryd.prog w = .ok (.slice (some ⟨D, 0, none⟩) k 512) w := fun w => slice_to .i64 (some ⟨D, 0, none⟩) 512 512 k (by omega) w
      have HKL : Hid ((byteCells ((l.drop i).take k)).length = k) := hid (by have := HL.out.len; simp [byteCells]; omega)
      have HIK : Hid (i + k ≤ n ∧ k ≤ 512 ∧ 0 < k) := hid (by omega)
      clear hk hlt
      go_wp2_with (first
        | (refine c1.out.mono ?_; rintro e w2 ⟨rfl, h1, h2, h3⟩; have H1 := hid h1; have H2 := hid h2; have H3 := hid h3; clear h1 h2 h3; have HO2 : Hid (w2.ownsRow w1.heap.size 5 1 u6 i (byteCells (l.take i))) := hid (own_keepK hGot.out.o.2 H3.out HX1.out))
        | (at_builtin; refine wpList_append_any _ rfl (.tmp 19) (.tmp 22) 26 rfl w1.heap.size 5 i0 (.int .u8 0) 1 1 Tryd.underlying26 hi hz0 hz1 hz2 rfl (by decide) u6 i (byteCells (l.take i)) rfl HO2.out w2.heap.size (some ⟨D, 0, none⟩) k 512 (byteCells ((l.drop i).take k)) rfl (by have h9 := reads_front H2.out (by have := HKL.out; have := HCL.out; have := HIK.out; omega); rw [HKL.out] at h9; exact h9) (cells_one _) (by have := HIK.out; have := HN.out; unfold maxLen; omega) (by have := HIK.out; have := HN.out; omega) (Nat.le_trans hGot.out.k.size H3.out.size) ?_; intro v3 w3 h1 h2 h3; have HO3 := hid h1; have HG3 := hid h2; clear h1 h2 h3)
        | fail)
      go_roundg (n - (i + k) + 1)
      case measure => have := hG.out; have := HIK.out; omega
      case rel =>
        refine ⟨i + k, hid ?_, hid (Nat.le_refl _)⟩
        have hk3 : Kept u6.ownBlock.toList w2 w3 := Kept.of_grown_own HG3.out (fun g hg => .inl (by simp [hg]))
        have hne : ∀ x, x ∈ u6.ownBlock.toList → w1.heap.size ≤ x := fun x hx => by
          rcases HO2.out.2 with ⟨h, _⟩ | ⟨g, cap, cur, h, hB, _⟩
          · rw [h] at hx; simp [Value.ownBlock] at hx
          · rw [h] at hx; simp [Value.ownBlock] at hx; rw [hx]; exact hB
        have hnq : ∀ x ∈ [q, D], x ∉ u6.ownBlock.toList := fun x hx hm => by have h1 := HX1.out x hx; have h2 := hne x hm; omega
        refine ⟨H1.out.kept hk3 (hnq q (by simp)), ⟨_, ?_, H2.out.kept hk3 (hnq D (by simp))⟩, ⟨?_, ?_⟩, HIK.out.1, (hGot.out.k.trans_ H3.out).trans hk3 (fun x hx => .inr (hne x hx))⟩
        · rw [(splice_front cur _ (by have := HKL.out; have := HCL.out; have := HIK.out; omega)).1]; exact HCL.out
        · have := HL.out.len; have := HIK.out; simp; omega
        · have := HO3.out
          rw [← byteCells_app, ← List.take_add] at this
          exact this
    · have c1 := hid (read_end q A (some ⟨D, 0, none⟩) n c i 512 512 v0 wo hGot.out.r (by omega) (by have := hGot.out.le; have := HN.out; omega) ⟨(HKW.out.cell (p := ⟨0, 0, none⟩) HG.out (by simpa using HGQ.out)).trans HE.out.1, HE.out.2⟩)
      have hsl : ∀ w, (Instr.sliceAt 26 (.slice (some ⟨D, 0, none⟩) 512 512) none (some (.int .i64 0)) none).run Tryd.prog w = .ok (.slice (some ⟨D, 0, none⟩) 0 512) w := fun w => slice_to .i64 (some ⟨D, 0, none⟩) 512 512 0 (by omega) w
      obtain ⟨p0, rfl⟩ := HE.out.2
      have HIN : Hid (i = n) := hid (by have := hGot.out.le; omega)
      have HEW := hid ((HKW.out.cell (p := ⟨0, 0, none⟩) HG.out (by simpa using HGQ.out)).trans HE.out.1)
      have heq := fun w => eq_same w p0
      clear hlt
      go_wp2_with (first
        | (refine c1.out.mono ?_; rintro e w2 ⟨rfl, h1, h3⟩; have H1 := hid h1; have H3 := hid h3; clear h1 h3; have HO2 : Hid (w2.ownsRow w1.heap.size 5 1 u6 i (byteCells (l.take i))) := hid (own_keepK hGot.out.o.2 H3.out (by simp)); have q0 : w2.cell? ⟨0, 0, none⟩ = some (.iface 93 (.pointer (some p0))) := (H3.out.cell (p := ⟨0, 0, none⟩) (Nat.lt_of_lt_of_le HG.out HKW.out.size) (by simp)).trans HEW.out; have Q0 := hid q0; clear q0)
        | (at_builtin; refine wpList_append_any _ rfl (.tmp 19) (.tmp 22) 26 rfl w1.heap.size 5 i0 (.int .u8 0) 1 1 Tryd.underlying26 hi hz0 hz1 hz2 rfl (by decide) u6 i (byteCells (l.take i)) rfl HO2.out w2.heap.size (some ⟨D, 0, none⟩) 0 512 [] rfl ⟨rfl, fun h => absurd h (by omega)⟩ (by simp) (by have := hGot.out.le; have := HN.out; unfold maxLen; omega) (by have := hGot.out.le; have := HN.out; omega) (Nat.le_trans hGot.out.k.size H3.out.size) ?_; intro v3 w3 h1 h2 h3; have HO3 := hid h1; have HG3 := hid h2; clear h1 h2 h3; obtain ⟨hk3, q3⟩ := got_end (HKW.out.trans_ (H3.out.more (by simp))) HO2.out HG3.out HK1.out.size HG.out Q0.out; have HK3 := hid hk3; clear hk3)
        | fail)
      go_quiet (fail)
      go_wp2_with fail
      go_ret2
      refine ⟨HK3.out.drewN _, v3, rfl, by have := HL.out.len; omega, ?_⟩
      have := HO3.out
      rw [HIN.out, List.take_of_length_le (by have := HL.out.len; omega)] at this
      have h2 : w3.ownsRow w1.heap.size 5 1 v3 n (byteCells l) := by simpa using this
      exact own_low (show (w3.drewN nq).ownsRow w1.heap.size 5 1 v3 n (byteCells l) from h2) HK1.out.size
end Go.Proofs.YtdbkafpflicdiaaDoor.ob
