/- zzSha1.Sum(nil). -/
import Derived.Test.YtdbkafpflicdiaaDoorShaNew
import Derived.Test.YtdbkafpflicdiaaDoorHeld
set_option linter.unusedVariables false
namespace Go.Proofs.YtdbkafpflicdiaaDoor.sha
open Go.RowKit Lib mem frm row

theorem RowAt.of_owns {w : World} {B n : Nat} {v : Value} {l : List UInt8} (h : w.ownsRow B U8 1 v n (byteCells l)) : RowAt w B U8 v (byteCells l) := by
  rcases h with ⟨hl, ⟨rfl, rfl⟩ | ⟨g, cap, cur, rfl, hb, hg, h1, h2, h3, h4⟩⟩
  · exact .inl ⟨rfl, List.eq_nil_of_length_eq_zero (by omega)⟩
  · have : n = (byteCells l).length := by omega
    subst this
    exact .inr ⟨g, 0, cap, cur, rfl, hb, hg, h1, h2, by omega, by simpa using h4⟩
theorem range5 {w : World} {g : Nat} {s : Five} {v : Value} {d : Nat} (h : Blk w g ShaT (seven s v d)) : w.rangeAt g 0 (five s).toList := fun i u hu => by
  rw [Nat.zero_add]
  refine h.cell i ?_
  have : i < 5 := by have := (List.getElem?_eq_some_iff.1 hu).1; simpa [five] using this
  rcases (by omega : i = 0 ∨ i = 1 ∨ i = 2 ∨ i = 3 ∨ i = 4) with rfl | rfl | rfl | rfl | rfl <;> simpa [five, seven] using hu
/-- the working copy -/
structure En (w wr : World) (eb : Nat) (st : Five) (d : Nat) (l : List UInt8) (v : Value) : Prop where
  k : Kept [] w wr
  s : Blk wr eb ShaT (seven st v d)
  r : RowAt wr w.heap.size U8 v (byteCells l)
  n : w.heap.size ≤ eb
/-- the copy, when its row has been appended to and is not yet stored -/
structure Mid (w wr : World) (eb : Nat) (st : Five) (d : Nat) (l : List UInt8) (v v2 : Value) : Prop where
  k : Kept [] w wr
  s : Blk wr eb ShaT (seven st v d)
  r : RowAt wr w.heap.size U8 v2 (byteCells l)
  n : w.heap.size ≤ eb
theorem Mid.store {w wr : World} {eb : Nat} {st : Five} {d : Nat} {l : List UInt8} {v v2 : Value} (h : Mid w wr eb st d l v v2) : En w (wr.setCell ⟨eb, 5, none⟩ v2) eb st d l v2 := by
  have hk : Kept [eb] wr (wr.setCell ⟨eb, 5, none⟩ v2) := (Kept.refl [eb] wr).setCell (.inl (by simp)) _
  refine ⟨h.k.setCell (.inr h.n) _, by simpa [seven] using h.s.set_ 5 v2, h.r.kept hk (fun x hx => by simpa using row_far h.r h.s x hx), h.n⟩
theorem En.nil_ {w wr wr' : World} {eb : Nat} {st : Five} {d : Nat} {l : List UInt8} {v : Value} (h : En w wr eb st d l v) (hk : Kept [] wr wr') : En w wr' eb st d l v := ⟨h.k.trans_ hk, h.s.kept hk (by simp), h.r.kept hk (by simp), h.n⟩
/-- 'append(end.block, b)' -/
theorem wpList_pushE {w wz : World} {ops : Array Oper} {rest : List Oper} {o : Oper} {a : Act} {Q : Exit → Act → World → Prop} (hg : o.guard = none) (s x : Operand) (ho : o.op = .call { callee := .builtin .append, args := #[s, x], argTypes := #[26, 26] })
    (eb : Nat) (st : Five) (d : Nat) (l : List UInt8) (v : Value) (b : UInt8) (z : Int) (hz : z = (b.toNat : Int)) (n : Nat) (hn : l.length = n) (h : En w wz eb st d l v) (hs : a.eval s = v) (hx : a.eval x = .slice (some ⟨wz.heap.size, 0, none⟩) 1 1) (hm : n + 1 ≤ 140737488355328)
    (hK : ∀ A c w', Hid (Mid w w' eb st d (l ++ [b]) v (.slice A (n + 1) c)) → w'.cell? ⟨eb, 5, none⟩ = some v → w'.frozen? ⟨eb, 5, none⟩ = false → wpList Tryd.prog ops Q rest (a.put o.dst (.slice A (n + 1) c)) w') : wpList Tryd.prog ops Q (o :: rest) a (wz.alloc (.cells #[.int .u8 z] U8)) := by
  obtain ⟨i0, hi, hz0, hz1, hz2⟩ := info_parts infoU8
  subst hz hn
  have h1 := h.nil_ ((Kept.refl [] wz).alloc (.cells #[.int .u8 (b.toNat : Int)] U8))
  refine wpList_append_at _ hg s x _ ho w.heap.size U8 i0 (.int .u8 0) 1 Tryd.underlying26 hi hz0 hz1 hz2 rfl v (byteCells l) hs h1.r (wz.heap.size + 1) (some ⟨wz.heap.size, 0, none⟩) 1 1 (byteCells [b]) hx ⟨rfl, fun _ => ⟨_, rfl, by simp, one_cell wz b⟩⟩ (cells_one _) (by simp [byteCells]; unfold maxLen; omega) (by simp [byteCells]; omega) h1.k.size ?_
  intro v2 w2 hr2 hg2 _
  have hr2' := joinB hr2
  obtain ⟨A2, c2, rfl, -⟩ := shapeB hr2'
  rw [List.length_append] at hr2' ⊢
  have hk2 : Kept v.ownBlock.toList _ w2 := Kept.of_grown_own (S := v.ownBlock.toList) hg2 (fun g hg => .inl (by simp [hg]))
  have hs2 := h1.s.kept hk2 (fun hx => row_far h1.r h1.s eb (by simpa using hx) rfl)
  exact hK A2 c2 w2 (hid ⟨h1.k.trans hk2 (fun x hx => .inr (h1.r.lt x (by simpa using hx)).1), hs2, hr2', h1.n⟩) (hs2.cell 5 rfl) (hs2.frozen 5)
/-- 'append(out, b0, b1, b2, b3)' -/
theorem wpList_push4 {w wz : World} {ops : Array Oper} {rest : List Oper} {o : Oper} {a : Act} {Q : Exit → Act → World → Prop} (hg : o.guard = none) (s x : Operand) (ho : o.op = .call { callee := .builtin .append, args := #[s, x], argTypes := #[26, 26] })
    (v : Value) (m : Nat) (l : List UInt8) (y : Int) (hown : Own w wz v m l) (hk : Kept [] w wz) (hs : a.eval s = v) (hx : a.eval x = .slice (some ⟨wz.heap.size, 0, none⟩) 4 4) (hm : m + 4 ≤ 140737488355328)
    (hK : ∀ A c w', Hid (Own w w' (.slice A (m + 4) c) (m + 4) (l ++ numB y)) → Hid (Kept [] w w') → wpList Tryd.prog ops Q rest (a.put o.dst (.slice A (m + 4) c)) w') : wpList Tryd.prog ops Q (o :: rest) a (wz.alloc (.cells #[.int .u8 (y / 16777216 % 256), .int .u8 (y / 65536 % 256), .int .u8 (y / 256 % 256), .int .u8 (y % 256)] U8)) := by
  obtain ⟨i0, hi, hz0, hz1, hz2⟩ := info_parts infoU8
  have hc : (#[.int .u8 (y / 16777216 % 256), .int .u8 (y / 65536 % 256), .int .u8 (y / 256 % 256), .int .u8 (y % 256)] : Array Value) = (byteCells (numB y)).toArray := by
    simp only [byteCells, numB, List.map_cons, List.map_nil, ← mod_num]
  have hcell : ∀ j u, (byteCells (numB y))[j]? = some u → (wz.alloc (.cells (byteCells (numB y)).toArray U8)).cell? ((⟨wz.heap.size, 0, none⟩ : Addr).add j) = some u := fun j u hu => by
    rw [Lib.addr_add, Nat.zero_add, Lib.cell_of_heap (heap_alloc_new wz _) j, ← hu]; simp
  rw [hc]
  refine wpList_append_own _ hg s x 26 ho w.heap.size 5 i0 (.int .u8 0) 1 1 Tryd.underlying26 hi hz0 hz1 hz2 rfl (by decide) v m (byteCells l) hs (hown.alloc _).2 ⟨wz.heap.size, 0, none⟩ 4 4 (byteCells (numB y)) hx rfl hcell (cells_one _) (by unfold maxLen; omega) (by omega) (by have := hk.size; simp; omega) ?_
  intro v2 w2 h1 h2 _
  obtain ⟨A2, c2, rfl⟩ := own_shape h1
  exact hK A2 c2 w2 (hid (Own.push hown.1 rfl h1)) (hid ((hown.alloc _).kept_new (hk.alloc _) h2))
def Summed (w : World) (data : List UInt8) (e : Ending) (w' : World) : Prop := Kept [] w w' ∧ ∃ v, e = .returned v ∧ Own w w' v 20 (sha1 data)
set_option maxRecDepth 100000 in
set_option maxHeartbeats 8000000 in
theorem sum_calls (B sb : Nat) (v : Value) (data : List UInt8) (w : World) (h : Sha w B sb v data) (hlim : data.length ≤ 1073741824) :
    Calls Tryd.prog 64 #[.pointer (some ⟨sb, 0, none⟩), .slice none 0 0] w (Summed w data) := by
  obtain ⟨i0, hi, hz0, hz1, hz2⟩ := info_parts infoU8
  obtain ⟨st, hst⟩ : ∃ st, st = (blocks data init).1 := ⟨_, rfl⟩
  obtain ⟨l0, hl0⟩ : ∃ l0, l0 = (blocks data init).2 := ⟨_, rfl⟩
  obtain ⟨d, hd⟩ : ∃ d, d = data.length := ⟨_, rfl⟩
  have hl064 : l0.length < 64 := by rw [hl0]; exact blocks_rest data init
  have hmod : l0.length % 64 = d % 64 := by rw [hl0, hd]; exact blocks_mod data init
  have hsha : sha1 data = outB (blocks (l0 ++ pad d) st).1 := by
    unfold sha1
    rw [blocks_append, ← hst, ← hl0, ← hd]
  obtain ⟨hs0, hr0⟩ := h
  rw [← hst, ← hd] at hs0
  rw [← hl0] at hr0
  obtain ⟨A0, c0, rfl, hc0⟩ := shapeB hr0
  have HSH := hid hsha
  have HM := hid (And.intro hl064 (And.intro hmod (by omega : d ≤ 1073741824)))
  have hd9 : (d : Int) ≤ 1073741824 := by omega
  have HS0 := hid hs0
  have HR0 := hid hr0
  clear hs0 hr0 hst hl0 hd hl064 hmod hsha hlim hc0
  go_enter Tryd.func64, Tryd.ntmps64
  go_wp2_with fail
  obtain ⟨C, hC0, hCf, hCk, hCo⟩ : ∃ C : World → Prop, C w.drew ∧ (∀ w', C w' → w'.rangeAt sb 0 (five st).toList ∧ w'.cell? ⟨sb, 5, none⟩ = some (.slice A0 l0.length c0) ∧ w'.cell? ⟨sb, 6, none⟩ = some (.int .u64 d)) ∧ (∀ w' w'', C w' → Kept [] w' w'' → C w'') ∧ (∀ w', C w' → Kept [] w w') :=
    ⟨fun w' => Kept [] w w', (Kept.refl _ w).drew, fun w' h => ⟨range5 (HS0.out.kept h (by simp)), (HS0.out.kept h (by simp)).cell 5 rfl, (HS0.out.kept h (by simp)).cell 6 rfl⟩, fun _ _ h h' => h.trans_ h', fun _ h => h⟩
  try dsimp only [Act.put]
  refine wp_region_held_drew (S := C) (by kernel_rfl) hC0 (fun _ => ?_)
  refine held.take 0 (.pointer (some ⟨sb, 0, none⟩)) rfl (by kernel_rfl) (fun _ _ _ h => h) (Or.inl ⟨by rfl, fun wq hq => by obtain ⟨-, e0, e1⟩ := hCf wq hq; go_simp⟩) hC0 ?_
  refine held.take 1 (.pointer (some ⟨sb, 0, none⟩)) rfl (by kernel_rfl) (fun _ _ _ h => h) (Or.inl ⟨by rfl, fun wq hq => by obtain ⟨-, e0, e1⟩ := hCf wq hq; go_simp⟩) hC0 ?_
  refine held.take 2 (.pointer (some ⟨sb, 0, none⟩)) rfl (by kernel_rfl) (fun _ _ _ h => h) (Or.inl ⟨by rfl, fun wq hq => by obtain ⟨-, e0, e1⟩ := hCf wq hq; go_simp⟩) hC0 ?_
  refine held.take 3 (.agg (five st)) rfl (by kernel_rfl) (fun _ _ _ h => h) (yieldsIf_load_mid rfl T5 (.tmp 12) rfl sb 0 rfl (five st).toList _ (fun w' h => (hCf w' h).1) Tryd.underlying75 rfl info5) hC0 ?_
  refine held.take 5 (.pointer (some ⟨sb, 0, none⟩)) rfl (by kernel_rfl) (fun _ _ _ h => h) (Or.inl ⟨by rfl, fun wq hq => by obtain ⟨-, e0, e1⟩ := hCf wq hq; go_simp⟩) hC0 ?_
  refine held.take 6 (.pointer (some ⟨sb, 0, none⟩)) rfl (by kernel_rfl) (fun _ _ _ h => h) (Or.inl ⟨by rfl, fun wq hq => by obtain ⟨-, e0, e1⟩ := hCf wq hq; go_simp⟩) hC0 ?_
  refine held.take 7 (.pointer (some ⟨sb, 5, none⟩)) rfl (by kernel_rfl) (fun _ _ _ h => h) (Or.inl ⟨by rfl, fun wq hq => by obtain ⟨-, e0, e1⟩ := hCf wq hq; go_simp⟩) hC0 ?_
  refine held.take 8 (.slice A0 l0.length c0) rfl (by kernel_rfl) (fun _ _ _ h => h) (Or.inl ⟨by rfl, fun wq hq => by obtain ⟨-, e0, e1⟩ := hCf wq hq; go_simp⟩) hC0 ?_
  refine held.take 10 (.pointer (some ⟨sb, 0, none⟩)) rfl (by kernel_rfl) (fun _ _ _ h => h) (Or.inl ⟨by rfl, fun wq hq => by obtain ⟨-, e0, e1⟩ := hCf wq hq; go_simp⟩) hC0 ?_
  refine held.take 11 (.pointer (some ⟨sb, 0, none⟩)) rfl (by kernel_rfl) (fun _ _ _ h => h) (Or.inl ⟨by rfl, fun wq hq => by obtain ⟨-, e0, e1⟩ := hCf wq hq; go_simp⟩) hC0 ?_
  refine held.take 12 (.pointer (some ⟨sb, 6, none⟩)) rfl (by kernel_rfl) (fun _ _ _ h => h) (Or.inl ⟨by rfl, fun wq hq => by obtain ⟨-, e0, e1⟩ := hCf wq hq; go_simp⟩) hC0 ?_
  refine held.take 13 (.int .u64 d) rfl (by kernel_rfl) (fun _ _ _ h => h) (Or.inl ⟨by rfl, fun wq hq => by obtain ⟨-, e0, e1⟩ := hCf wq hq; go_simp⟩) hC0 ?_
  refine held.forced 4 (by kernel_rfl) rfl rfl (fun K hK3 => ?_)
  go_simp
  refine hK3 _ _ (hCk _ _ hC0 ((Kept.refl [] _).alloc _)) ?_
  clear hK3 K
  have hC1 := hCk _ _ hC0 ((Kept.refl [] w.drew).alloc (.cells #[] U8))
  refine held.forced 9 (by kernel_rfl) rfl rfl (fun K hK3 => ?_)
  refine wp_append_any _ (.tmp 14) (.tmp 18) 26 rfl w.heap.size U8 i0 (.int .u8 0) 1 1 Tryd.underlying26 hi hz0 hz1 hz2 rfl (by decide) _ 0 [] rfl (own_new (heap_alloc_new w.drew _) (Nat.le_refl _)) (w.drew.alloc (.cells #[] U8)).heap.size A0 l0.length c0 (byteCells l0) rfl (bytes_of_row (HR0.out.kept (hCo _ hC1) (by simp)) rfl).1 (cells_one l0) (by have := HM.out; unfold maxLen; omega) (by have := HM.out; omega) (by simp) ?_
  intro v1 w1 h1 h2 h3
  have hk1 : Kept [] w.drew w1 := ((Kept.refl [] w.drew).alloc (.cells #[] U8)).trans (Kept.of_grown (g := w.heap.size) h2) (by simp)
  have hr1 : RowAt w1 w.heap.size U8 v1 (byteCells l0) := RowAt.of_owns (by simpa using h1)
  have hC2 := hCk _ _ hC0 hk1
  refine hK3 _ _ hC2 ?_
  obtain ⟨A1, c1, rfl, -⟩ := shapeB hr1
  clear hK3 K h1 h2 h3
  refine held.take 14 (.agg #[.int .u32 st.a, .int .u32 st.b, .int .u32 st.c, .int .u32 st.d, .int .u32 st.e, .slice A1 l0.length c1, .int .u64 d]) rfl (by kernel_rfl) (fun _ _ _ h => h) (Or.inl ⟨by rfl, fun wq hq => by simp only [five]; go_simp⟩) hC2 ?_
  refine held.forced 15 (by kernel_rfl) rfl rfl (fun K hK3 => ?_)
  go_simp
  refine hK3 _ _ (hCk _ _ hC2 ((Kept.refl [] w1).alloc _)) ?_
  clear hK3 K
  refine held.forced 16 (by kernel_rfl) rfl rfl (fun K hK3 => ?_)
  go_simp
  refine hK3 _ _ (hCk _ _ hC2 ((Kept.refl [] w1).alloc _)) ?_
  clear hK3 K
  refine wpAnyH_done (by kernel_rfl) ?_ _
  obtain ⟨eb, heb⟩ : ∃ eb, eb = w1.heap.size := ⟨_, rfl⟩
  obtain ⟨w2, hw2⟩ : ∃ w2, w2 = w1.alloc (.cells (seven st (.slice A1 l0.length c1) d) ShaT) := ⟨_, rfl⟩
  have hE0 : En w w2 eb st d l0 (.slice A1 l0.length c1) := by
    rw [hw2]
    exact ⟨(hCo _ hC2).alloc _, by rw [heb]; exact Blk.new w1 ShaT _, hr1.kept ((Kept.refl [] w1).alloc _) (by simp), by rw [heb]; exact (hCo _ hC2).size⟩
  rw [← heb, show w1.alloc (.cells #[.int .u32 st.a, .int .u32 st.b, .int .u32 st.c, .int .u32 st.d, .int .u32 st.e, .slice A1 l0.length c1, .int .u64 d] 78) = w2 from hw2.symm]
  have HE0 := hid hE0
  have c6 : w2.cell? ⟨sb, 6, none⟩ = some (.int .u64 d) := (HS0.out.kept hE0.k (by simp)).cell 6 rfl
  have c5 : w2.cell? ⟨eb, 5, none⟩ = some (.slice A1 l0.length c1) := hE0.s.cell 5 rfl
  clear hE0 hw2 heb hr1 hC2 hk1 hC1 hCo hCk hCf hC0
  go_wp2_with (first
    | (at_builtin; refine wpList_pushE rfl (.tmp 35) (.tmp 36) rfl eb st d l0 _ 128 _ rfl l0.length rfl HE0.out rfl rfl (by have := HM.out; omega) ?_; intro A2 c2 w3 HM3 q5 g5)
    | fail)
  have HE1 := hid HM3.out.store
  generalize w3.setCell ⟨eb, 5, none⟩ (.slice A2 (l0.length + 1) c2) = w4 at *
  clear c6 c5 q5 g5 HE0 HM3
  have HZ : Hid (padZ d = (120 - (d + 1) % 64) % 64) := hid rfl
  go_loopg [] 64 (fun G wr => ∃ (k m : Nat) (A : Option Addr) (c : Nat), Hid (m = l0.length + 1 + k ∧ k ≤ 64 ∧ k + (120 - m % 64) % 64 = padZ d ∧ (120 - m % 64) % 64 ≤ G) ∧ Hid (En w wr eb st d (l0 ++ 128 :: List.replicate k 0) (.slice A m c)))
  case atStart => exact ⟨0, l0.length + 1, A2, c2, hid ⟨rfl, by omega, by rw [HZ.out]; have := HM.out; omega, by omega⟩, HE1⟩
  case round =>
    obtain ⟨k, m, A, c, hm, hE⟩ := hrel
    obtain ⟨wo, rfl⟩ : ∃ wo, wo = wr := ⟨_, rfl⟩
    have hm9 : (m : Int) ≤ 200 := by have h1 := hm.out; have h2 := HM.out; omega
    have c5 : wo.cell? ⟨eb, 5, none⟩ = some (.slice A m c) := hE.out.s.cell 5 rfl
    by_cases h56 : m % 64 = 56
    · have e56 : (m : Int) % 64 = 56 := by omega
      have hkz : k = padZ d := by have := hm.out; omega
      subst hkz
      have HMM := hid hm.out.1
      have hE2 : Hid (En w wo eb st d (l0 ++ 128 :: List.replicate (padZ d) 0 ++ (be8 (d * 8)).take 0) (.slice A (m + 0) c)) := hid (by simpa using hE.out)
      clear hm hE h56 HZ
      generalize hP0 : l0 ++ 128 :: List.replicate (padZ d) 0 = P0 at hE2
      have HP0 := hid hP0
      have HPL : Hid (P0.length = m) := hid (by rw [← hP0, HMM.out]; simp; omega)
      clear hP0
      go_wp2_with fail
      clear e56 c5
      go_loopw [7] (fun iv wr => ∃ (j : Nat) (A : Option Addr) (c : Nat), iv = .int .i64 (56 - 8 * (j : Int)) ∧ j ≤ 8 ∧ Hid (En w wr eb st d (P0 ++ (be8 (d * 8)).take j) (.slice A (m + j) c))) (fun iv _ => (RowKit.intOf iv + 8).toNat)
      case atStart => exact ⟨0, A, c, by simp, by omega, hE2⟩
      case round =>
        obtain ⟨j, A4, c4, rfl, hj, hE4⟩ := hrel
        obtain ⟨wp, rfl⟩ : ∃ wp, wp = wr := ⟨_, rfl⟩
        obtain ⟨m2, hm2⟩ : ∃ m2, m2 = m + j := ⟨_, rfl⟩
        rw [← hm2] at hE4
        have c5 : wp.cell? ⟨eb, 5, none⟩ = some (.slice A4 m2 c4) := hE4.out.s.cell 5 rfl
        by_cases hj8 : j < 8
        · obtain ⟨y, hy⟩ : ∃ y : Nat, y = 56 - 8 * j := ⟨_, rfl⟩
          have hy1 : (56 : Int) - 8 * (j : Int) = (y : Int) := by omega
          have hy0 : (0 : Int) ≤ y := by omega
          have hy64 : (y : Int) ≤ 56 := by omega
          rw [hy1]
          have HJ := hid (And.intro hm2 (And.intro hj (And.intro hj8 (And.intro hy hy1))))
          have HL2 : Hid ((P0 ++ (be8 (d * 8)).take j).length = m2) := hid (by simp [be8_len, HPL.out, hm2]; omega)
          have HB2 : Hid (m2 + 1 ≤ 140737488355328) := hid (by omega)
          clear hm2 hj hj8 hy hy1
          go_wp2_with (first
            | (at_builtin; refine wpList_pushE rfl (.tmp 64) (.tmp 70) rfl eb st d (P0 ++ (be8 (d * 8)).take j) _ (UInt8.ofNat (d * 8 / 2 ^ y % 256)) _ (byte_num d y) m2 HL2.out hE4.out rfl rfl HB2.out ?_; intro A5 c5' w5 HM5 q5 g5)
            | fail)
          have HE5 := hid HM5.out.store
          generalize w5.setCell ⟨eb, 5, none⟩ (.slice A5 (m2 + 1) c5') = w6 at *
          go_roundw
          case rel =>
            obtain ⟨h1, h2, h3, h4, h5⟩ := HJ.out
            refine ⟨j + 1, A5, c5', congrArg (Value.int .i64) (by omega), by omega, ?_⟩
            rw [be8_next (d * 8) j h3, ← List.append_assoc, ← h4, ← Nat.add_assoc, ← h1]
            exact HE5
          case measure => simp [RowKit.intOf]; omega
        · have hj8' : ¬ (0 : Int) ≤ 56 - 8 * (j : Int) := by omega
          obtain rfl : j = 8 := by omega
          have hP : P0 ++ (be8 (d * 8)).take 8 = l0 ++ pad d := by rw [← HP0.out, List.take_of_length_le (by rw [be8_len]; omega)]; simp [pad]
          rw [hP] at hE4
          have HPm : Hid ((l0 ++ pad d).length = m2) := hid (by rw [← hP, hm2]; simp [be8_len, HPL.out])
          generalize l0 ++ pad d = P at hE4 HSH HPm
          have hj8'' : ¬ (0 : Int) ≤ 56 - 8 * ((8 : Nat) : Int) := hj8'
          clear hP hm2 HP0 hj8 HPL HMM
          go_wp2_with fail
          clear hj8' hj8'' c5
          go_loopg [] m2 (fun G wr => ∃ (l : List UInt8) (s : Five) (A3 : Option Addr) (c3 : Nat), Hid (l.length ≤ G) ∧ Hid (blocks P st = blocks l s) ∧ Hid (En w wr eb s d l (.slice A3 l.length c3)))
          case atStart => exact ⟨P, st, A4, c4, hid (Nat.le_of_eq HPm.out), hid rfl, by rw [HPm.out]; exact hE4⟩
          case round =>
            obtain ⟨l, s, A3, c3, hG, hEq, hI⟩ := hrel
            obtain ⟨wa, rfl⟩ : ∃ wa, wa = wr := ⟨_, rfl⟩
            have q5 : wa.cell? ⟨eb, 5, none⟩ = some (.slice A3 l.length c3) := hI.out.s.cell 5 rfl
            by_cases hlt : 64 ≤ l.length
            · have hlt' : (64 : Int) ≤ l.length := by omega
              have hR := hI.out.r
              obtain ⟨A9, c9, h9, hc9⟩ := shapeB hR
              cases h9
              obtain ⟨g, o, rfl⟩ := (bytes_of_row hR rfl).2 (by omega)
              have hsl : ∀ w, (Instr.sliceAt 26 (.slice (some ⟨g, o, none⟩) l.length c3) none (some (.int .i64 64)) none).run Tryd.prog w = .ok (.slice (some ⟨g, o, none⟩) 64 c3) w := fun w => slice_to .i64 _ l.length c3 64 (by omega) w
              obtain ⟨A4', hr4, ho4, hf4⟩ := row_from .i64 (some ⟨g, o, none⟩) l.length c3 64 hlt
              have hf4' : ∀ w, (Instr.sliceAt 26 (.slice (some ⟨g, o, none⟩) l.length c3) (some (.int .i64 64)) none none).run Tryd.prog w = .ok (.slice A4' (l.length - 64) (c3 - 64)) w := hf4
              have HC := hid (step_calls eb g o c3 wa.heap.size s (.slice (some ⟨g, o, none⟩) l.length c3) d (l.take 64) wa hI.out.s ((bytes_of_row hR rfl).front hlt) (Nat.le_refl _))
              have HR4 := hid hr4
              have HLT := hid hlt
              clear hR hc9 hr4 ho4 hf4 hlt
              go_wp2_with (first
                | (refine HC.out.mono ?_; rintro e w5 ⟨rfl, hk5, hs5⟩; have q9 : w5.cell? ⟨eb, 5, none⟩ = some (.slice (some ⟨g, o, none⟩) l.length c3) := hs5.cell 5 rfl; have f9 := hs5.frozen 5; have HK5 := hid hk5; have HS5 := hid hs5; clear hk5 hs5)
                | fail)
              have HW9 : Hid (En w (w5.setCell ⟨eb, 5, none⟩ (.slice A4' (l.length - 64) (c3 - 64))) eb (compress (l.take 64) s) d (l.drop 64) (.slice A4' (l.length - 64) (c3 - 64))) := hid (by
                have hI0 := hI.out
                have hs := HS5.out.set_ 5 (.slice A4' (l.length - 64) (c3 - 64))
                have hk9 : Kept [eb] wa (w5.setCell ⟨eb, 5, none⟩ (.slice A4' (l.length - 64) (c3 - 64))) := HK5.out.setCell (.inl (by simp)) _
                refine ⟨hI0.k.trans hk9 (fun x hx => .inr (by simp at hx; rw [hx]; exact hI0.n)), by simpa [seven] using hs, HR4.out _ _ _ (hI0.r.kept hk9 (fun x hx => by simpa using row_far hI0.r hI0.s x hx)), hI0.n⟩)
              have HE9 : Hid (blocks P st = blocks (l.drop 64) (compress (l.take 64) s)) := hid (by rw [hEq.out, blocks_long _ HLT.out])
              have HL9 : Hid (l.length - 64 = (l.drop 64).length) := hid (by simp)
              generalize w5.setCell ⟨eb, 5, none⟩ (.slice A4' (l.length - 64) (c3 - 64)) = w9 at *
              go_roundg (l.length - 64)
              case measure => have := HLT.out; have := hG.out; omega
              case rel => exact ⟨l.drop 64, compress (l.take 64) s, A4', c3 - 64, hid (by rw [← HL9.out]; exact Nat.le_refl _), HE9, by rw [← HL9.out]; exact HW9⟩
            · have hlt' : ¬ (64 : Int) ≤ l.length := by omega
              have HS8 : Hid (sha1 data = outB s) := hid (by rw [HSH.out, hEq.out, blocks_short _ (by omega)])
              have HR5 := hid (range5 hI.out.s)
              have HK8 := hid hI.out.k
              clear hlt hG hEq hI
              go_wp2_with (first
                | (refine wpList_load_mid rfl T5 (.tmp 97) rfl eb 0 rfl (five s).toList _ HR5.out Tryd.underlying75 rfl info5 ?_)
                | fail)
              clear q5
              go_loopw [99, 1] (fun iv pv wr => ∃ (k c5 : Nat) (A5 : Option Addr), k ≤ 5 ∧ iv = .int .i64 k ∧ pv = .slice A5 (4 * k) c5 ∧ Hid (Kept [] w wr) ∧ Hid (Own w wr (.slice A5 (4 * k) c5) (4 * k) (part s k))) (fun iv _ _ => 5 - (RowKit.intOf iv).toNat)
              case atStart => exact ⟨0, 0, none, by omega, rfl, rfl, HK8, hid ⟨rfl, World.ownsRow_nil _ _ _ _⟩⟩
              case round =>
                obtain ⟨k, c5, A5, hk, rfl, rfl, hK8, hO8⟩ := hrel
                obtain ⟨wg, rfl⟩ : ∃ wg, wg = wr := ⟨_, rfl⟩
                by_cases hk5 : k < 5
                · have hk5' : (k : Int) < 5 := by omega
                  obtain ⟨x, hix, hx2⟩ := field_of s k hk5
                  have HX2 := hid hx2
                  obtain ⟨m3, hm3⟩ : ∃ m3, m3 = 4 * k := ⟨_, rfl⟩
                  rw [← hm3] at hO8 ⊢
                  have HM3 := hid hm3
                  have HM9 : Hid (m3 + 4 ≤ 140737488355328) := hid (by omega)
                  clear hx2 hm3
                  go_wp2_with (first
                    | (at_builtin; refine wpList_push4 rfl (.tmp 102) (.tmp 114) rfl _ m3 (part s k) x hO8.out hK8.out rfl rfl HM9.out ?_; intro A9 c9 w9 HO9 HK9)
                    | fail)
                  go_roundw
                  case rel =>
                    refine ⟨k + 1, c9, A9, by omega, by go_num, ?_, HK9, ?_⟩
                    · rw [HM3.out]; rfl
                    · rw [HX2.out, show 4 * (k + 1) = m3 + 4 by have := HM3.out; omega]; exact HO9
                  case measure => simp [RowKit.intOf]; omega
                · obtain rfl : k = 5 := by omega
                  have hk5' : ¬ ((5 : Nat) : Int) < 5 := by omega
                  go_wp2_with fail
                  go_ret
                  refine ⟨hK8.out, _, rfl, ?_⟩
                  rw [HS8.out, ← part_all]
                  exact hO8.out
    · have e56 : ¬ (m : Int) % 64 = 56 := by omega
      have HL2 : Hid ((l0 ++ 128 :: List.replicate k 0).length = m) := hid (by rw [hm.out.1]; simp; omega)
      have HB2 : Hid (m + 1 ≤ 140737488355328) := hid (by omega)
      have HH := hid h56
      clear h56
      go_wp2_with (first
        | (at_builtin; refine wpList_pushE rfl (.tmp 51) (.tmp 52) rfl eb st d (l0 ++ 128 :: List.replicate k 0) _ 0 _ rfl m HL2.out hE.out rfl rfl HB2.out ?_; intro A5 c5' w5 HM5 q5 g5)
        | fail)
      have HE5 := hid HM5.out.store
      generalize w5.setCell ⟨eb, 5, none⟩ (.slice A5 (m + 1) c5') = w6 at *
      go_roundg ((120 - (m + 1) % 64) % 64)
      case measure =>
        have h1 := hm.out
        have := HH.out
        omega
      case rel =>
        have h1 := hm.out
        have h2 := HH.out
        refine ⟨k + 1, m + 1, A5, c5', hid ⟨by omega, ?_, by omega, Nat.le_refl _⟩, ?_⟩
        · have : padZ d < 64 := by unfold padZ; omega
          omega
        · rw [← zero_more, ← List.cons_append, ← List.append_assoc]
          exact HE5
end Go.Proofs.YtdbkafpflicdiaaDoor.sha
