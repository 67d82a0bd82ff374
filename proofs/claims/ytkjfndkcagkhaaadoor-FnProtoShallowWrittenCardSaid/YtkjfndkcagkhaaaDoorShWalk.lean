/- ShallowUpdate.Encode: the walk. -/
import Derived.Test.YtkjfndkcagkhaaaDoorShUpd
import Derived.Test.YtkjfndkcagkhaaaDoorAckDec
set_option linter.unusedVariables false
attribute [local go_sem ↓] Go.wp_at_zero Go.wp_at_succ
namespace Go.Proofs.YtkjfndkcagkhaaaDoor.enc
open Go.RowKit Lib frm mem rd pkt text buf hash

theorem cat_run {P : Program} (a b : ByteArray) (h : a.size + b.size ≤ 9223372036854775807) : ∀ w, (Op.stringOp .add a b).run P w = .ok (.string (a ++ b)) w := fun w => by
  rw [run_string_add_if, if_neg (by omega)]
theorem cat_ex {P : Program} (a b : ByteArray) (h : a.size + b.size ≤ 9223372036854775807) : ∃ c : ByteArray, (∀ w, (Op.stringOp .add a b).run P w = .ok (.string c) w) ∧ c.data.toList = a.data.toList ++ b.data.toList ∧ c.size = a.size + b.size :=
  ⟨a ++ b, cat_run a b h, by simp, by simp [ByteArray.size_append]⟩
abbrev Uty : TypeId := 58
/-- the round's state: l has been written -/
def At (B b ge : Nat) (l : List UInt8) (w wr : World) : Prop := Es B b ge l wr ∧ Below B w wr ∧ FK b w wr
theorem At.done {B b ge : Nat} {l l2 : List UInt8} {w wr w3 : World} (h : At B b ge l w wr) (hd : Es B b ge l2 w3 ∧ Below B wr w3 ∧ FK b wr w3) : At B b ge l2 w w3 := ⟨hd.1, h.2.1.trans hd.2.1, h.2.2.trans hd.2.2⟩
theorem lineOf_len {s : ByteArray} (h : Hex40 s) (t : List UInt8) (ht : t.length ≤ 20) : (lineOf t s).length ≤ 70 := by
  have h40 : s.data.toList.length = 40 := by simpa using h.1
  unfold lineOf
  rw [line_eq, List.length_append, hex4_len]
  simp [h40]; omega
theorem linesOf_len (t : List UInt8) (ht : t.length ≤ 20) (ss : List ByteArray) (h : ∀ s ∈ ss, Hex40 s) : (linesOf t ss).length ≤ 70 * ss.length := by
  induction ss with
  | nil => simp [linesOf]
  | cons s ss ih =>
    have h1 := ih (fun x hx => h x (by simp [hx]))
    have h2 := lineOf_len (h s (by simp)) t ht
    simp only [linesOf, List.map_cons, List.flatten_cons, List.length_append, List.length_cons] at h1 ⊢
    omega
theorem slice_eq {a a' : Option Addr} {n c c' : Nat} (h : Value.slice a n c = Value.slice a' n c') : a = a' ∧ c = c' := by
  injection h with h1 _ h2
  exact ⟨h1, h2⟩
set_option maxRecDepth 100000 in
set_option maxHeartbeats 8000000 in
theorem updEncode_calls (B b U : Nat) (v1 v2 : Value) (s1 s2 : List ByteArray) (w : World) (hb : IsBuffer 62 5 B b (byteCells []) w) (hU : Blk w U Uty #[v1, v2]) (h1 : HsAt w v1 s1) (h2 : HsAt w v2 s2) (hn1 : s1.length ≤ 1000) (hn2 : s2.length ≤ 1000) :
    Calls Tryd.prog 30 #[.pointer (some ⟨U, 0, none⟩), .iface 66 (.pointer (some ⟨b, 0, none⟩))] w fun e w' => e = .returned .nilIface ∧ IsBuffer 62 5 B b (byteCells (linesOf [115, 104, 97, 108, 108, 111, 119, 32] s1 ++ linesOf [117, 110, 115, 104, 97, 108, 108, 111, 119, 32] s2 ++ [48, 48, 48, 48])) w' ∧ Below B w w' := by
  have HLn := hid (fun (s : ByteArray) (h : Hex40 s) => hashCells_len h)
  have HU := hid hU
  have H1 := hid h1
  have H2 := hid h2
  have HBF := hid hb
  have hBw : B ≤ w.heap.size := Nat.le_trans hb.1 (Nat.le_of_lt hb.lt)
  have HBW := hid hBw
  have hUb : U ≠ b := by
    rintro rfl
    obtain ⟨_, v, lr, hk, _⟩ := hb
    have := hU
    unfold Blk at this
    rw [hk] at this
    injection this with this
    injection this with _ this
    exact absurd this (by decide)
  have HUB := hid hUb
  have c0 := hid (newEnc_calls b w)
  obtain ⟨A1, d1, e1, _⟩ := h1.2
  obtain ⟨A2, d2, e2, _⟩ := h2.2
  subst e1 e2
  have HUk := hid (fun (w' : World) (hk : FK b w w') => (show Blk w' U Uty #[.slice A1 s1.length d1, .slice A2 s2.length d2] from hk.keep U _ hU hUb (fun c e => by injection e with _ e; exact absurd e (by decide))))
  clear hb hU h1 h2 hBw hUb
  go_enter Tryd.func30, Tryd.ntmps30
  go_wp2_with fail
  refine c0.out.mono ?_
  rintro e w1 ⟨rfl, h1⟩
  have hAt : At B b w.heap.size [] w w1 := by
    rw [h1]
    have hk := (Kept.refl [] w).alloc (.cells #[.iface 66 (.pointer (some ⟨b, 0, none⟩))] 143)
    exact ⟨⟨HBF.out.old hk.nil_below, heap_alloc_new w _⟩, kept_below hk HBW.out, FK.of_kept hk⟩
  have HA1 := hid hAt
  have q0 : w1.cell? ⟨U, 0, none⟩ = some (.slice A1 s1.length d1) := (HUk.out _ hAt.2.2).cell 0 rfl
  clear h1 hAt c0
  obtain ⟨ge, hge⟩ : ∃ ge, ge = w.heap.size := ⟨_, rfl⟩
  rw [← hge] at HA1 ⊢
  clear hge
  obtain ⟨n1, hn1'⟩ : ∃ n, n = s1.length := ⟨_, rfl⟩
  obtain ⟨n2, hn2'⟩ : ∃ n, n = s2.length := ⟨_, rfl⟩
  have HN1 := hid hn1'
  have HN2 := hid hn2'
  rw [← hn1'] at q0 HUk hn1
  rw [← hn2'] at HUk hn2
  clear hn1' hn2'
  have hb1 : (n1 : Int) ≤ 1000 := by omega
  have hb2 : (n2 : Int) ≤ 1000 := by omega
  have HLB := hid (And.intro hn1 hn2)
  clear hn1 hn2
  go_wp2_with fail
  go_loopw [19] (fun iv wr => ∃ k : Nat, k ≤ n1 ∧ iv = .int .i64 k ∧ Hid (At B b ge (linesOf [115, 104, 97, 108, 108, 111, 119, 32] (s1.take k)) w wr)) (fun iv _ => n1 - (RowKit.intOf iv).toNat)
  case atStart => exact ⟨0, by omega, rfl, HA1⟩
  case round =>
    obtain ⟨k, hk, rfl, hA⟩ := hrel
    by_cases hlt : k < n1
    ·
      obtain ⟨g, cc, s, hv, hsk, h40, hr⟩ := (H1.out.fk HBF.out hA.out.2.2).at_ (k := k) (by have := HN1.out; omega)
      obtain ⟨rfl, rfl⟩ := slice_eq hv
      rw [Nat.zero_add] at hr
      have HR := hid hr
      have HS := hid h40
      have HSK := hid hsk
      have HSz : Hid ((Tryd.prog.info? Hty).map (·.size) = some (hashCells s).toArray.size) := hid (by rw [infoHash]; simp [hashCells_len h40])
      have HSl : Hid ((Tryd.prog.info? Hty).map (·.size) = some (hashCells s).length) := hid (by rw [infoHash, hashCells_len h40])
      have HOld : Hid (zero20.toArray.size = (hashCells s).toArray.size) := hid (by simp [hashCells_len h40, zero20])
      have HOne : Hid ((hashCells s).toArray.all (·.oneCell') = true) := hid (all_one (hash_one s))
      have hlt' : (k : Int) < n1 := by omega
      obtain ⟨t1, ht1, hl1, hz1⟩ := cat_ex (P := Tryd.prog) ⟨#[115, 104, 97, 108, 108, 111, 119, 32]⟩ s (by have := h40.1; show 8 + s.size ≤ _; omega)
      obtain ⟨t2, ht2, hl2, hz2⟩ := cat_ex (P := Tryd.prog) t1 ⟨#[10]⟩ (by have := h40.1; rw [hz1]; show 8 + s.size + 1 ≤ _; omega)
      have hts : t2.size = 49 := by have := h40.1; rw [hz2, hz1]; show 8 + s.size + 1 = _; omega
      have HTX : Hid (line t2.data.toList = lineOf [115, 104, 97, 108, 108, 111, 119, 32] s) := hid (by rw [hl2, hl1]; rfl)
      have HTS := hid hts
      have hll : (linesOf [115, 104, 97, 108, 108, 111, 119, 32] (s1.take k)).length ≤ 140000 := by have h1 := linesOf_len [115, 104, 97, 108, 108, 111, 119, 32] (by decide) (s1.take k) (fun x hx => H1.out.1 x (List.mem_of_mem_take hx)); have h2 := HN1.out; have h3 := HLB.out; rw [List.length_take] at h1; omega
      have HLL := hid hll
      clear hv hsk h40 hr hl1 hl2 hz1 hz2 hts hll
      go_wp2_with (first
        | (refine wpList_load_mid rfl Hty (.tmp 21) rfl g (k * 20) rfl (hashCells s) _ HR.out Tryd.underlying102 rfl HSl.out ?_)
        | (refine ack.wpList_store_kept rfl Hty (.tmp 7) (.tmp 22) rfl wr.heap.size (hashCells s).toArray rfl rfl Hty zero20.toArray (Blk.new wr Hty _) HSz.out HOld.out HOne.out ?_; intro w3 h1 h2 h3; have HB3 : Hid (w3.heap[wr.heap.size]? = some (.cells (hashCells s).toArray Hty (0, 0))) := hid h1.out; have HK3 : Hid (Kept [] wr w3) := hid (((Kept.refl [] wr).alloc _).trans h2.out (by simp)); clear h1 h2 h3)
        | fail)
      have HE3 := hid (hA.out.1.kept HK3.out)
      have hCh : ∀ w', FK b w3 w' → w'.rangeAt wr.heap.size 0 (hashCells s) := fun w' hk i u hu => by
        rw [Lib.cell_of_heap (hk.keep _ _ HB3.out (buf_hash HE3.out.buf HB3.out) (no_hash _)), Nat.zero_add]
        simpa using hu
      dsimp only [Act.put]
      refine wp_region_held_drew (S := fun w' => FK b w3 w') (by kernel_rfl) (FK.of_kept (Kept.refl [] w3).drew) (fun _ => ?_)
      refine held.take 0 (.pointer (some ⟨ge, 0, none⟩)) rfl (by kernel_rfl) (fun _ _ _ h => h) (Or.inl ⟨by rfl, fun _ _ => by rfl⟩) (FK.of_kept (Kept.refl [] w3).drew) ?_
      refine held.take 3 (.agg (hashCells s).toArray) rfl (by kernel_rfl) (fun _ _ _ h => h) (yieldsIf_load_mid (by rfl) Hty (.tmp 7) rfl wr.heap.size 0 rfl (hashCells s) _ hCh Tryd.underlying102 rfl HSl.out) (FK.of_kept (Kept.refl [] w3).drew) ?_
      refine held.forced 1 (by kernel_rfl) rfl rfl (fun K hK => ?_)
      go_simp
      refine (shallow_calls _).mono ?_
      rintro e x1 ⟨g1, c1, rfl, hsrc, hk1⟩
      have HX1 := hid ((Kept.refl [] w3).drew.trans_ hk1)
      refine hK _ _ (FK.of_kept HX1.out) ?_
      clear hK K
      have HE1 := hid (HE3.out.kept HX1.out)
      have hne := hsrc.ne HE1.out.buf (by decide)
      refine held.narrow (fun w' => FK b x1 w') (fun w' h => (FK.of_kept HX1.out).trans h) ?_
      refine held.take 2 (.string ⟨#[115, 104, 97, 108, 108, 111, 119, 32]⟩) rfl (by kernel_rfl) (fun _ _ _ h => h) (Or.inl ⟨by rfl, fun wq hq => by have e0 : (convert 25 9 (.slice (some ⟨g1, 0, none⟩) 8 c1)).run Tryd.prog wq = .ok (.string ⟨#[115, 104, 97, 108, 108, 111, 119, 32]⟩) wq := src_text (c := c1) (hsrc.kept hq hne); go_simp⟩) (FK.refl _ _) ?_
      refine held.forced 4 (by kernel_rfl) rfl rfl (fun K hK => ?_)
      go_simp
      refine (hashText_calls s _ HS.out).mono ?_
      rintro e x2 ⟨rfl, hk2⟩
      have HX2 := hid hk2
      refine hK _ _ (FK.of_kept hk2) ?_
      clear hK K hk2
      have HE2 := hid (HE1.out.kept HX2.out)
      refine held.take 5 (.string t1) rfl (by kernel_rfl) (fun _ _ _ h => h) (Or.inl ⟨by rfl, fun wq hq => by go_simp⟩) (FK.of_kept HX2.out) ?_
      refine held.take 6 (.string t2) rfl (by kernel_rfl) (fun _ _ _ h => h) (Or.inl ⟨by rfl, fun wq hq => by go_simp⟩) (FK.of_kept HX2.out) ?_
      refine held.forced 7 (by kernel_rfl) rfl rfl (fun K hK => ?_)
      go_simp
      refine hK _ _ ((FK.of_kept HX2.out).trans (FK.of_kept ((Kept.refl [] x2).alloc _))) ?_
      clear hK K
      have HX3 := hid ((Kept.refl [] x2).alloc (.cells #[.string t2] 9))
      have HE4 := hid (HE2.out.kept HX3.out)
      have hq4 : (x2.alloc (.cells #[.string t2] 9)).cell? ⟨x2.heap.size, 0, none⟩ = some (.string t2) := by rw [Lib.cell_of_heap (heap_alloc_new x2 _)]; rfl
      refine held.forced 8 (by kernel_rfl) rfl rfl (fun K hK => ?_)
      go_simp
      refine (encodeString_one B b ge x2.heap.size t2 _ _ HE4.out hq4 (by have := HTS.out; omega) (by have := HTS.out; omega) (by have := HLL.out; omega)).mono ?_
      rintro e x5 ⟨rfl, hd1, hd2, hd3⟩
      have HFX := hid ((FK.of_kept HX2.out).trans ((FK.of_kept HX3.out).trans hd3))
      refine hK _ _ HFX.out ?_
      clear hK K
      have HWX := hid ((HK3.out.trans_ HX1.out).trans_ (HX2.out.trans_ HX3.out))
      have HD5 := hid (hA.out.done ⟨hd1, (kept_below HWX.out hA.out.1.size).trans hd2, (FK.of_kept HWX.out).trans hd3⟩)
      clear hd1 hd2 hd3
      refine held.take 9 .nilIface rfl (by kernel_rfl) (fun _ _ _ h => h) (Or.inl ⟨by rfl, fun _ _ => by rfl⟩) HFX.out ?_
      refine wpAnyH_done (by kernel_rfl) ?_ _
      clear hCh hne ht1 ht2
      have HD6 := hid (show At B b ge ((linesOf [115, 104, 97, 108, 108, 111, 119, 32] (s1.take (k + 1)))) w x5 by
        have := HD5.out
        rw [HTX.out] at this
        rw [linesOf_succ [115, 104, 97, 108, 108, 111, 119, 32] s1 k s HSK.out]
        simpa using this)
      clear HD5
      go_wp2_with fail
      go_roundw
      case rel => exact ⟨k + 1, by omega, by go_num, HD6⟩
      case measure => simp [RowKit.intOf]; omega
    ·
      obtain rfl : k = n1 := by omega
      have HA2 := hid (show At B b ge (linesOf [115, 104, 97, 108, 108, 111, 119, 32] s1) w wr by
        have := hA.out
        rw [List.take_of_length_le (by have := HN1.out; omega)] at this
        exact this)
      have HPL0 := hid (show (linesOf [115, 104, 97, 108, 108, 111, 119, 32] s1).length ≤ 70000 by have h1 := linesOf_len [115, 104, 97, 108, 108, 111, 119, 32] (by decide) s1 H1.out.1; have h2 := HN1.out; have h3 := HLB.out; omega)
      obtain ⟨P1, hP1⟩ : ∃ P1, P1 = linesOf [115, 104, 97, 108, 108, 111, 119, 32] s1 := ⟨_, rfl⟩
      have HP1 := hid hP1
      rw [← hP1] at HA2 HPL0
      have HPL := HPL0
      have q1 : wr.cell? ⟨U, 1, none⟩ = some (.slice A2 n2 d2) := (HUk.out _ HA2.out.2.2).cell 1 rfl
      clear hP1 HPL0 hA q0 hk hlt
      go_wp2_with fail
      go_loopw [41] (fun iv wr => ∃ k : Nat, k ≤ n2 ∧ iv = .int .i64 k ∧ Hid (At B b ge (P1 ++ linesOf [117, 110, 115, 104, 97, 108, 108, 111, 119, 32] (s2.take k)) w wr)) (fun iv _ => n2 - (RowKit.intOf iv).toNat)
      case atStart => exact ⟨0, by omega, rfl, hid (by have := HA2.out; simpa [linesOf] using this)⟩
      case round =>
        clear q1
        obtain ⟨k, hk, rfl, hA⟩ := hrel
        by_cases hlt : k < n2
        ·
          obtain ⟨g, cc, s, hv, hsk, h40, hr⟩ := (H2.out.fk HBF.out hA.out.2.2).at_ (k := k) (by have := HN2.out; omega)
          obtain ⟨rfl, rfl⟩ := slice_eq hv
          rw [Nat.zero_add] at hr
          have HR := hid hr
          have HS := hid h40
          have HSK := hid hsk
          have HSz : Hid ((Tryd.prog.info? Hty).map (·.size) = some (hashCells s).toArray.size) := hid (by rw [infoHash]; simp [hashCells_len h40])
          have HSl : Hid ((Tryd.prog.info? Hty).map (·.size) = some (hashCells s).length) := hid (by rw [infoHash, hashCells_len h40])
          have HOld : Hid (zero20.toArray.size = (hashCells s).toArray.size) := hid (by simp [hashCells_len h40, zero20])
          have HOne : Hid ((hashCells s).toArray.all (·.oneCell') = true) := hid (all_one (hash_one s))
          have hlt' : (k : Int) < n2 := by omega
          obtain ⟨t1, ht1, hl1, hz1⟩ := cat_ex (P := Tryd.prog) ⟨#[117, 110, 115, 104, 97, 108, 108, 111, 119, 32]⟩ s (by have := h40.1; show 10 + s.size ≤ _; omega)
          obtain ⟨t2, ht2, hl2, hz2⟩ := cat_ex (P := Tryd.prog) t1 ⟨#[10]⟩ (by have := h40.1; rw [hz1]; show 10 + s.size + 1 ≤ _; omega)
          have hts : t2.size = 51 := by have := h40.1; rw [hz2, hz1]; show 10 + s.size + 1 = _; omega
          have HTX : Hid (line t2.data.toList = lineOf [117, 110, 115, 104, 97, 108, 108, 111, 119, 32] s) := hid (by rw [hl2, hl1]; rfl)
          have HTS := hid hts
          have hll : (P1 ++ linesOf [117, 110, 115, 104, 97, 108, 108, 111, 119, 32] (s2.take k)).length ≤ 140000 := by have h1 := linesOf_len [117, 110, 115, 104, 97, 108, 108, 111, 119, 32] (by decide) (s2.take k) (fun x hx => H2.out.1 x (List.mem_of_mem_take hx)); have h2 := HN2.out; have h3 := HLB.out; have h4 := HPL.out; rw [List.length_take] at h1; rw [List.length_append]; omega
          have HLL := hid hll
          clear hv hsk h40 hr hl1 hl2 hz1 hz2 hts hll
          go_wp2_with (first
            | (refine wpList_load_mid rfl Hty (.tmp 43) rfl g (k * 20) rfl (hashCells s) _ HR.out Tryd.underlying102 rfl HSl.out ?_)
            | (refine ack.wpList_store_kept rfl Hty (.tmp 10) (.tmp 44) rfl wr.heap.size (hashCells s).toArray rfl rfl Hty zero20.toArray (Blk.new wr Hty _) HSz.out HOld.out HOne.out ?_; intro w3 h1 h2 h3; have HB3 : Hid (w3.heap[wr.heap.size]? = some (.cells (hashCells s).toArray Hty (0, 0))) := hid h1.out; have HK3 : Hid (Kept [] wr w3) := hid (((Kept.refl [] wr).alloc _).trans h2.out (by simp)); clear h1 h2 h3)
            | fail)
          have HE3 := hid (hA.out.1.kept HK3.out)
          have hCh : ∀ w', FK b w3 w' → w'.rangeAt wr.heap.size 0 (hashCells s) := fun w' hk i u hu => by
            rw [Lib.cell_of_heap (hk.keep _ _ HB3.out (buf_hash HE3.out.buf HB3.out) (no_hash _)), Nat.zero_add]
            simpa using hu
          dsimp only [Act.put]
          refine wp_region_held_drew (S := fun w' => FK b w3 w') (by kernel_rfl) (FK.of_kept (Kept.refl [] w3).drew) (fun _ => ?_)
          refine held.take 0 (.pointer (some ⟨ge, 0, none⟩)) rfl (by kernel_rfl) (fun _ _ _ h => h) (Or.inl ⟨by rfl, fun _ _ => by rfl⟩) (FK.of_kept (Kept.refl [] w3).drew) ?_
          refine held.take 3 (.agg (hashCells s).toArray) rfl (by kernel_rfl) (fun _ _ _ h => h) (yieldsIf_load_mid (by rfl) Hty (.tmp 10) rfl wr.heap.size 0 rfl (hashCells s) _ hCh Tryd.underlying102 rfl HSl.out) (FK.of_kept (Kept.refl [] w3).drew) ?_
          refine held.forced 1 (by kernel_rfl) rfl rfl (fun K hK => ?_)
          go_simp
          refine (unshallow_calls _).mono ?_
          rintro e x1 ⟨g1, c1, rfl, hsrc, hk1⟩
          have HX1 := hid ((Kept.refl [] w3).drew.trans_ hk1)
          refine hK _ _ (FK.of_kept HX1.out) ?_
          clear hK K
          have HE1 := hid (HE3.out.kept HX1.out)
          have hne := hsrc.ne HE1.out.buf (by decide)
          refine held.narrow (fun w' => FK b x1 w') (fun w' h => (FK.of_kept HX1.out).trans h) ?_
          refine held.take 2 (.string ⟨#[117, 110, 115, 104, 97, 108, 108, 111, 119, 32]⟩) rfl (by kernel_rfl) (fun _ _ _ h => h) (Or.inl ⟨by rfl, fun wq hq => by have e0 : (convert 25 9 (.slice (some ⟨g1, 0, none⟩) 10 c1)).run Tryd.prog wq = .ok (.string ⟨#[117, 110, 115, 104, 97, 108, 108, 111, 119, 32]⟩) wq := src_text (c := c1) (hsrc.kept hq hne); go_simp⟩) (FK.refl _ _) ?_
          refine held.forced 4 (by kernel_rfl) rfl rfl (fun K hK => ?_)
          go_simp
          refine (hashText_calls s _ HS.out).mono ?_
          rintro e x2 ⟨rfl, hk2⟩
          have HX2 := hid hk2
          refine hK _ _ (FK.of_kept hk2) ?_
          clear hK K hk2
          have HE2 := hid (HE1.out.kept HX2.out)
          refine held.take 5 (.string t1) rfl (by kernel_rfl) (fun _ _ _ h => h) (Or.inl ⟨by rfl, fun wq hq => by go_simp⟩) (FK.of_kept HX2.out) ?_
          refine held.take 6 (.string t2) rfl (by kernel_rfl) (fun _ _ _ h => h) (Or.inl ⟨by rfl, fun wq hq => by go_simp⟩) (FK.of_kept HX2.out) ?_
          refine held.forced 7 (by kernel_rfl) rfl rfl (fun K hK => ?_)
          go_simp
          refine hK _ _ ((FK.of_kept HX2.out).trans (FK.of_kept ((Kept.refl [] x2).alloc _))) ?_
          clear hK K
          have HX3 := hid ((Kept.refl [] x2).alloc (.cells #[.string t2] 9))
          have HE4 := hid (HE2.out.kept HX3.out)
          have hq4 : (x2.alloc (.cells #[.string t2] 9)).cell? ⟨x2.heap.size, 0, none⟩ = some (.string t2) := by rw [Lib.cell_of_heap (heap_alloc_new x2 _)]; rfl
          refine held.forced 8 (by kernel_rfl) rfl rfl (fun K hK => ?_)
          go_simp
          refine (encodeString_one B b ge x2.heap.size t2 _ _ HE4.out hq4 (by have := HTS.out; omega) (by have := HTS.out; omega) (by have := HLL.out; omega)).mono ?_
          rintro e x5 ⟨rfl, hd1, hd2, hd3⟩
          have HFX := hid ((FK.of_kept HX2.out).trans ((FK.of_kept HX3.out).trans hd3))
          refine hK _ _ HFX.out ?_
          clear hK K
          have HWX := hid ((HK3.out.trans_ HX1.out).trans_ (HX2.out.trans_ HX3.out))
          have HD5 := hid (hA.out.done ⟨hd1, (kept_below HWX.out hA.out.1.size).trans hd2, (FK.of_kept HWX.out).trans hd3⟩)
          clear hd1 hd2 hd3
          refine held.take 9 .nilIface rfl (by kernel_rfl) (fun _ _ _ h => h) (Or.inl ⟨by rfl, fun _ _ => by rfl⟩) HFX.out ?_
          refine wpAnyH_done (by kernel_rfl) ?_ _
          clear hCh hne ht1 ht2
          have HD6 := hid (show At B b ge (P1 ++ linesOf [117, 110, 115, 104, 97, 108, 108, 111, 119, 32] (s2.take (k + 1))) w x5 by
            have := HD5.out
            rw [HTX.out] at this
            rw [linesOf_succ [117, 110, 115, 104, 97, 108, 108, 111, 119, 32] s2 k s HSK.out]
            simpa using this)
          clear HD5
          go_wp2_with fail
          go_roundw
          case rel => exact ⟨k + 1, by omega, by go_num, HD6⟩
          case measure => simp [RowKit.intOf]; omega
        · obtain rfl : k = n2 := by omega
          have HA3 := hid (show At B b ge (P1 ++ linesOf [117, 110, 115, 104, 97, 108, 108, 111, 119, 32] s2) w wr by
            have := hA.out
            rw [List.take_of_length_le (by have := HN2.out; omega)] at this
            exact this)
          have hll : (P1 ++ linesOf [117, 110, 115, 104, 97, 108, 108, 111, 119, 32] s2).length + 4 ≤ 140737488355328 := by
            have h1 := linesOf_len [117, 110, 115, 104, 97, 108, 108, 111, 119, 32] (by decide) s2 H2.out.1
            have h2 := HN2.out
            have h3 := HLB.out
            have h4 := HPL.out
            rw [List.length_append]
            omega
          go_wp2_with fail
          refine (flush_calls B b ge _ _ HA3.out.1 hll).mono ?_
          rintro e w9 ⟨rfl, hd⟩
          have HD9 := hid (HA3.out.done hd)
          clear hd
          go_wp2_with fail
          go_ret
          refine ⟨rfl, ?_, HD9.out.2.1⟩
          have := HD9.out.1.buf
          rw [HP1.out] at this
          exact this
end Go.Proofs.YtkjfndkcagkhaaaDoor.enc
