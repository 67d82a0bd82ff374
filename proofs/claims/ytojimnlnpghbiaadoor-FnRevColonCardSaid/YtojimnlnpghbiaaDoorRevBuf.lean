/- A bytes.Buffer that is read, under an io.LimitedReader. -/
import Derived.Test.YtojimnlnpghbiaaDoorRd
set_option linter.unusedVariables false
attribute [local go_sem ↓] Go.wp_at_zero Go.wp_at_succ
namespace Go.Proofs.YtojimnlnpghbiaaDoor.rev
open Go.RowKit Lib frm mem rd

/-- a bytes.Buffer in block b -/
def Bf (w : World) (b : Nat) (A : Option Addr) (n c off : Nat) : Prop := ∃ lr : Int, Blk w b 44 #[.slice A n c, .int .i64 off, .int .i8 lr]
theorem Bf.kept {S : List Nat} {w w' : World} {b : Nat} {A : Option Addr} {n c off : Nat} (h : Bf w b A n c off) (hk : Kept S w w') (hn : b ∉ S) : Bf w' b A n c off := by
  obtain ⟨lr, h⟩ := h; exact ⟨lr, h.kept hk hn⟩
theorem Bf.lt {w : World} {b : Nat} {A : Option Addr} {n c off : Nat} (h : Bf w b A n c off) : b < w.heap.size := by obtain ⟨lr, h⟩ := h; exact h.lt
set_option maxRecDepth 100000 in
theorem empty_calls (b : Nat) (A : Option Addr) (n c off : Nat) (lr : Int) (w : World) (h : Blk w b 44 #[.slice A n c, .int .i64 off, .int .i8 lr]) (t : Bool) (ht : decide (n ≤ off) = t) :
    Calls Tryd.prog 145 #[.pointer (some ⟨b, 0, none⟩)] w fun e w' => e = .returned (.bool t) ∧ ∃ q, w' = w.drewN q := by
  have h0 : w.cell? ⟨b, 0, none⟩ = some (.slice A n c) := h.cell 0 rfl
  have h1 : w.cell? ⟨b, 1, none⟩ = some (.int .i64 off) := h.cell 1 rfl
  clear h
  cases t with
  | true =>
    have hi : (n : Int) ≤ (off : Int) := by simp at ht; omega
    clear ht
    go_enter Tryd.func145, Tryd.ntmps145
    go_wp2_with fail
    go_quiet (fail)
    go_wp2_with fail
    go_ret
    exact ⟨rfl, _, rfl⟩
  | false =>
    have HT := hid ht
    clear ht
    go_enter Tryd.func145, Tryd.ntmps145
    go_wp2_with fail
    go_quiet (fail)
    go_wp2_with fail
    go_ret
    exact ⟨congrArg (fun t => Ending.returned (.bool t)) HT.out, _, rfl⟩
def ResetTo (w : World) (b : Nat) (A : Option Addr) (c : Nat) (e : Ending) (w' : World) : Prop := e = .returned (.tuple #[]) ∧ Bf w' b A 0 c 0 ∧ Kept [b] w w'
set_option maxRecDepth 100000 in
theorem reset_calls (b : Nat) (A : Option Addr) (n c off : Nat) (lr : Int) (w : World) (h : Blk w b 44 #[.slice A n c, .int .i64 off, .int .i8 lr]) :
    Calls Tryd.prog 142 #[.pointer (some ⟨b, 0, none⟩)] w (ResetTo w b A c) := by
  have h0 : w.cell? ⟨b, 0, none⟩ = some (.slice A n c) := h.cell 0 rfl
  have h1 : w.cell? ⟨b, 1, none⟩ = some (.int .i64 off) := h.cell 1 rfl
  have h2 : w.cell? ⟨b, 2, none⟩ = some (.int .i8 lr) := h.cell 2 rfl
  have f0 : w.frozen? ⟨b, 0, none⟩ = false := h.frozen 0
  have f1 : w.frozen? ⟨b, 1, none⟩ = false := h.frozen 1
  have f2 : w.frozen? ⟨b, 2, none⟩ = false := h.frozen 2
  have hs := slice_to .i64 A n c 0 (Nat.zero_le _)
  have HB := hid h
  clear h
  go_enter Tryd.func142, Tryd.ntmps142
  go_wp2_with fail
  go_end0
  refine ⟨rfl, ⟨0, ?_⟩, ?_⟩
  · have := ((HB.out.set_ 0 (.slice A 0 c)).set_ 1 (.int .i64 0)).set_ 2 (.int .i8 0)
    simpa using this
  · exact (((Kept.refl [b] w).setCell (p := ⟨b, 0, none⟩) (.inl (by simp)) _).setCell (p := ⟨b, 1, none⟩) (.inl (by simp)) _).setCell (p := ⟨b, 2, none⟩) (.inl (by simp)) _
/-- the end is met -/
def BufEnd (w : World) (b : Nat) (v : Value) (A : Option Addr) (c : Nat) (e : Ending) (w' : World) : Prop := e = .returned (.tuple #[.int .i64 0, v]) ∧ Bf w' b A 0 c 0 ∧ Kept [b] w w'
set_option maxRecDepth 100000 in
set_option maxHeartbeats 1000000 in
theorem bufRead_end (b : Nat) (A D : Option Addr) (n c m dc : Nat) (v : Value) (w : World) (h : Bf w b A n c n) (hm : 0 < m) (hE : Eof w v) (hg : 0 < w.heap.size) (hgb : 0 ≠ b) :
    Calls Tryd.prog 141 #[.pointer (some ⟨b, 0, none⟩), .slice D m dc] w (BufEnd w b v A c) := by
  obtain ⟨lr, h⟩ := h
  have h2 : w.cell? ⟨b, 2, none⟩ = some (.int .i8 lr) := h.cell 2 rfl
  have f2 : w.frozen? ⟨b, 2, none⟩ = false := h.frozen 2
  have HB := hid h
  have HE := hid (And.intro hE.1 (And.intro hg hgb))
  have hm' : ¬ (m : Int) = 0 := by omega
  have c1 := hid (fun (w' : World) (h : Blk w' b 44 #[.slice A n c, .int .i64 n, .int .i8 0]) => empty_calls b A n c n 0 w' h true (by simp))
  have c2 := hid (fun (w' : World) (h : Blk w' b 44 #[.slice A n c, .int .i64 n, .int .i8 0]) => reset_calls b A n c n 0 w' h)
  clear h hE hm hg hgb
  go_enter Tryd.func141, Tryd.ntmps141
  go_wp2_with fail
  have hb1 : Blk (w.setCell ⟨b, 2, none⟩ (.int .i8 0)) b 44 #[.slice A n c, .int .i64 n, .int .i8 0] := by simpa using HB.out.set_ 2 (.int .i8 0)
  have hk1 : Kept [b] w (w.setCell ⟨b, 2, none⟩ (.int .i8 0)) := (Kept.refl [b] w).setCell (p := ⟨b, 2, none⟩) (.inl (by simp)) _
  generalize w.setCell ⟨b, 2, none⟩ (.int .i8 0) = w1 at *
  have HB1 := hid hb1
  have HK1 := hid hk1
  clear hb1 hk1 h2 f2
  refine (c1.out _ HB1.out).mono ?_
  rintro e x1 ⟨rfl, q, rfl⟩
  go_wp2_with fail
  refine (c2.out _ (show Blk (w1.drewN q) b _ _ from HB1.out)).mono ?_
  rintro e w2 ⟨rfl, hb2, hk2⟩
  have hk : Kept [b] w w2 := (HK1.out.drewN q).trans_ hk2
  have hv : w2.cell? ⟨0, 0, none⟩ = some v := (hk.cell (p := ⟨0, 0, none⟩) HE.out.2.1 (by simpa using HE.out.2.2)).trans HE.out.1
  have HB2 := hid hb2
  have HK2 := hid hk
  clear hb2 hk2 hk
  go_wp2_with fail
  go_quiet (fail)
  go_wp2_with fail
  go_ret2
  exact ⟨rfl, HB2.out.kept ((Kept.refl [] _).drewN _) (by simp), HK2.out.drewN _⟩
/-- all that is there is read -/
def BufAll (w : World) (b G : Nat) (A : Option Addr) (n c : Nat) (t : TypeId) (cur' : List Value) (e : Ending) (w' : World) : Prop :=
  e = .returned (.tuple #[.int .i64 n, .nilIface]) ∧ Bf w' b A n c n ∧ Blk w' G t cur'.toArray ∧ Kept [b, G] w w'
set_option maxRecDepth 100000 in
set_option maxHeartbeats 2000000 in
theorem bufRead_all (B b G : Nat) (A : Option Addr) (n c m dc : Nat) (l : List UInt8) (t : TypeId) (cur : List Value) (w : World) (h : Bf w b A n c 0) (hn : 0 < n) (hnm : n ≤ m) (hm : m ≤ 140737488355328) (hnc : n ≤ c)
    (hl : Bytes w B A n l) (hBb : B ≤ b) (hbG : b ≠ G) (hG : Blk w G t cur.toArray) (hfit : m ≤ cur.length) :
    Calls Tryd.prog 141 #[.pointer (some ⟨b, 0, none⟩), .slice (some ⟨G, 0, none⟩) m dc] w (BufAll w b G A n c t (splice cur 0 (byteCells l))) := by
  obtain ⟨lr, h⟩ := h
  have h2 : w.cell? ⟨b, 2, none⟩ = some (.int .i8 lr) := h.cell 2 rfl
  have f2 : w.frozen? ⟨b, 2, none⟩ = false := h.frozen 2
  have HB := hid h
  have HG := hid hG
  have HL := hid hl
  have HN := hid (And.intro hn (And.intro hnm (And.intro hm (And.intro hnc hfit))))
  have HBb := hid (And.intro hBb hbG)
  have c1 := hid (fun (w' : World) (h : Blk w' b 44 #[.slice A n c, .int .i64 (0 : Nat), .int .i8 0]) => empty_calls b A n c 0 0 w' h false (by simp; omega))
  have hs0 := slice_zero .i64 A n c
  have gt0 : (0 : Int) < (n : Int) := by omega
  have gtm : (n : Int) ≤ 140737488355328 := by omega
  clear h hl hn hnm hm hnc hBb hbG hG hfit
  go_enter Tryd.func141, Tryd.ntmps141
  go_wp2_with fail
  have hb1 : Blk (w.setCell ⟨b, 2, none⟩ (.int .i8 0)) b 44 #[.slice A n c, .int .i64 (0 : Nat), .int .i8 0] := by simpa using HB.out.set_ 2 (.int .i8 0)
  have hk1 : Kept [b] w (w.setCell ⟨b, 2, none⟩ (.int .i8 0)) := (Kept.refl [b] w).setCell (p := ⟨b, 2, none⟩) (.inl (by simp)) _
  have hg1 : Blk (w.setCell ⟨b, 2, none⟩ (.int .i8 0)) G t cur.toArray := HG.out.far (p := ⟨b, 2, none⟩) (fun e => HBb.out.2 e.symm) _
  have hl1 : Bytes (w.setCell ⟨b, 2, none⟩ (.int .i8 0)) B A n l := ⟨HL.out.1.setCell (p := ⟨b, 2, none⟩) HBb.out.1 _, HL.out.2⟩
  generalize w.setCell ⟨b, 2, none⟩ (.int .i8 0) = w1 at *
  refine (c1.out _ hb1).mono ?_
  rintro e x1 ⟨rfl, q, rfl⟩
  go_wp2_with fail
  have hb2 : Blk (w1.drewN q).drew b 44 #[.slice A n c, .int .i64 (0 : Nat), .int .i8 0] := hb1
  have hg2 : Blk (w1.drewN q).drew G t cur.toArray := hg1
  have hl2 : Bytes (w1.drewN q).drew B A n l := hl1
  have HB2 := hid hb2
  have HG2 := hid hg2
  have HK2 := hid (show Kept [b] w (w1.drewN q).drew from (hk1.drewN q).drew)
  have HX := hid (And.intro (show (w1.drewN q).drew.cell? ⟨b, 0, none⟩ = some (.slice A n c) from hb2.cell 0 rfl) (show (w1.drewN q).drew.cell? ⟨b, 1, none⟩ = some (.int .i64 (0 : Int)) from hb2.cell 1 rfl))
  have hlen : Hid ((byteCells l).length = Nat.min n m) := hid (by have h1 := HL.out.len; have h2 := HN.out.2.1; rw [show (byteCells l).length = l.length by simp [byteCells], h1]; exact (Nat.min_eq_left h2).symm)
  have hpos : Hid (0 < (byteCells l).length → some (⟨G, 0, none⟩ : Addr) = some ⟨G, 0, none⟩ ∧ ∃ ad, A = some ad ∧ ∀ j v, (byteCells l)[j]? = some v → (w1.drewN q).drew.cell? (ad.add j) = some v) := hid (fun _ => by
    obtain ⟨ad, e, _, hc⟩ := hl2.1.2 HN.out.1
    exact ⟨rfl, ad, e, hc⟩)
  have hkk : (byteCells l).length = n := by rw [show (byteCells l).length = l.length by simp [byteCells]]; exact HL.out.len
  obtain ⟨cs, hcs⟩ : ∃ cs, cs = byteCells l := ⟨_, rfl⟩
  have hone : Hid (∀ v ∈ cs, v.oneCell' = true) := hid (by rw [hcs]; exact cells_one _)
  rw [← hcs] at hlen hpos hkk ⊢
  have HKK := hid hkk
  have HCS := hid hcs
  clear hb1 hk1 hg1 hl1 hb2 hg2 hl2 hkk hcs h2 f2
  go_region_held3 (fun w' => w'.cell? ⟨b, 0, none⟩ = some (.slice A n c) ∧ w'.cell? ⟨b, 1, none⟩ = some (.int .i64 (0 : Int)))
    (exact HX.out)
    ((refine step_copy_kept (by rfl) _ _ _ _ (by rfl) 5 Tryd.underlying22 infoByte _ _ _ _ _ _ (by rfl) (by rfl) G 0 cur t HG2.out cs hlen.out hpos.out (by have := HN.out; have := hlen.out; have : Nat.min n m ≤ m := Nat.min_le_right _ _; omega) hone.out ?_; intro w2 HG3 HK3 HZ3; have HX := hid (And.intro ((HK3.out.cell (p := ⟨b, 0, none⟩) HB2.out.lt (by simpa using HBb.out.2)).trans HX.out.1) ((HK3.out.cell (p := ⟨b, 1, none⟩) HB2.out.lt (by simpa using HBb.out.2)).trans HX.out.2)); have hz := HKK.out; have hx1 := HX.out.2; have hx2 : w2.cell? ⟨b, 2, none⟩ = some (.int .i8 0) := (HK3.out.cell (p := ⟨b, 2, none⟩) HB2.out.lt (by simpa using HBb.out.2)).trans (HB2.out.cell 2 rfl); have hf1 : w2.frozen? ⟨b, 1, none⟩ = false := (HK3.out.frozen (p := ⟨b, 1, none⟩) HB2.out.lt (by simpa using HBb.out.2)).trans (HB2.out.frozen 1); have hf2 : w2.frozen? ⟨b, 2, none⟩ = false := (HK3.out.frozen (p := ⟨b, 2, none⟩) HB2.out.lt (by simpa using HBb.out.2)).trans (HB2.out.frozen 2)))
  all_goals
    go_wp2_with fail
    go_ret2
    refine ⟨rfl, ⟨-1, ?_⟩, ?_, ?_⟩
    · have := ((HB2.out.kept HK3.out (by simpa using HBb.out.2)).set_ 1 (.int .i64 n)).set_ 2 (.int .i8 (-1))
      simpa using this
    · have hg := HG3.out
      rw [HCS.out] at hg
      exact ((show Blk w2 G t _ from hg).far (p := ⟨b, 1, none⟩) (fun e => HBb.out.2 e.symm) _).far (p := ⟨b, 2, none⟩) (fun e => HBb.out.2 e.symm) _
    · exact (((HK2.out.more (by simp)).trans HK3.out (by simp)).setCell (p := ⟨b, 1, none⟩) (.inl (by simp)) _).setCell (p := ⟨b, 2, none⟩) (.inl (by simp)) _
/-- an io.LimitedReader in block q, over the buffer in block b -/
def Lm (w : World) (q b : Nat) (N : Int) : Prop := Blk w q 190 #[.iface 49 (.pointer (some ⟨b, 0, none⟩)), .int .i64 N]
def LimAll (w : World) (q b G : Nat) (N : Int) (A : Option Addr) (n c : Nat) (t : TypeId) (cur' : List Value) (e : Ending) (w' : World) : Prop :=
  e = .returned (.tuple #[.int .i64 n, .nilIface]) ∧ Lm w' q b (N - n) ∧ Bf w' b A n c n ∧ Blk w' G t cur'.toArray ∧ Kept [q, b, G] w w'
set_option maxRecDepth 100000 in
set_option maxHeartbeats 2000000 in
theorem limRead_all (B q b G : Nat) (N : Int) (A : Option Addr) (n c m dc : Nat) (l : List UInt8) (t : TypeId) (cur : List Value) (w : World) (hq : Lm w q b N) (hN : (m : Int) ≤ N) (hN2 : N ≤ 140737488355328) (h : Bf w b A n c 0) (hn : 0 < n) (hnm : n ≤ m) (hm : m ≤ 140737488355328) (hnc : n ≤ c)
    (hl : Bytes w B A n l) (hBb : B ≤ b) (hbG : b ≠ G) (hqb : q ≠ b) (hqG : q ≠ G) (hG : Blk w G t cur.toArray) (hfit : m ≤ cur.length) :
    Calls Tryd.prog 158 #[.pointer (some ⟨q, 0, none⟩), .slice (some ⟨G, 0, none⟩) m dc] w (LimAll w q b G N A n c t (splice cur 0 (byteCells l))) := by
  have hna : ∀ w : World, Sem.run Tryd.prog (nilAhead 346 49 (.pointer (some ⟨b, 0, none⟩)) "Read") w = .ok (some false) w := fun _ => by kernel_rfl
  have hme : ∀ w : World, Sem.run Tryd.prog (method 346 49 (.pointer (some ⟨b, 0, none⟩)) "Read") w = .ok (141, .pointer (some ⟨b, 0, none⟩)) w := fun _ => by kernel_rfl
  have h0 : w.cell? ⟨q, 0, none⟩ = some (.iface 49 (.pointer (some ⟨b, 0, none⟩))) := hq.cell 0 rfl
  have h1 : w.cell? ⟨q, 1, none⟩ = some (.int .i64 N) := hq.cell 1 rfl
  have c1 := hid (bufRead_all B b G A n c m dc l t cur w h hn hnm hm hnc hl hBb hbG hG hfit)
  have e1 : ¬ N ≤ 0 := by omega
  have e2 : ¬ N < (m : Int) := by omega
  have HQ := hid hq
  have HD := hid (And.intro hqb hqG)
  have hb1 : (n : Int) ≤ N := by omega
  clear h hl hn hnm hm hnc hBb hbG hG hfit hN hqb hqG hq
  go_enter Tryd.func158, Tryd.ntmps158
  go_wp2_with fail
  refine c1.out.mono ?_
  rintro e w1 ⟨rfl, hb, hg, hk⟩
  have hq1 : Lm w1 q b N := HQ.out.kept hk (by simpa using HD.out)
  have h1 : w1.cell? ⟨q, 1, none⟩ = some (.int .i64 N) := hq1.cell 1 rfl
  have f1 : w1.frozen? ⟨q, 1, none⟩ = false := hq1.frozen 1
  have HB := hid hb
  have HG := hid hg
  have HK := hid hk
  have HQ1 := hid hq1
  clear hb hg hk hq1 c1 h0
  go_wp2_with fail
  go_ret2
  have hne1 : b ≠ q := fun e => HD.out.1 e.symm
  have hne2 : G ≠ q := fun e => HD.out.2 e.symm
  refine ⟨rfl, ?_, ?_, HG.out.far (p := ⟨q, 1, none⟩) hne2 _, ((HK.out.more (by simp))).setCell (p := ⟨q, 1, none⟩) (.inl (by simp)) _⟩
  · have := HQ1.out.set_ 1 (.int .i64 (N - n))
    unfold Lm
    simpa using this
  · obtain ⟨lr, hb⟩ := HB.out
    exact ⟨lr, hb.far (p := ⟨q, 1, none⟩) hne1 _⟩
def LimEnd (w : World) (q b : Nat) (N : Int) (v : Value) (A : Option Addr) (c : Nat) (e : Ending) (w' : World) : Prop :=
  e = .returned (.tuple #[.int .i64 0, v]) ∧ Lm w' q b N ∧ Bf w' b A 0 c 0 ∧ Kept [q, b] w w'
set_option maxRecDepth 100000 in
set_option maxHeartbeats 2000000 in
theorem limRead_end (q b : Nat) (N : Int) (A D : Option Addr) (n c m dc : Nat) (v : Value) (w : World) (hq : Lm w q b N) (hN : (m : Int) ≤ N) (hN2 : N ≤ 140737488355328) (h : Bf w b A n c n) (hm : 0 < m) (hE : Eof w v) (hg : 0 < w.heap.size) (hgb : 0 ≠ b) (hqb : q ≠ b) :
    Calls Tryd.prog 158 #[.pointer (some ⟨q, 0, none⟩), .slice D m dc] w (LimEnd w q b N v A c) := by
  have hna : ∀ w : World, Sem.run Tryd.prog (nilAhead 346 49 (.pointer (some ⟨b, 0, none⟩)) "Read") w = .ok (some false) w := fun _ => by kernel_rfl
  have hme : ∀ w : World, Sem.run Tryd.prog (method 346 49 (.pointer (some ⟨b, 0, none⟩)) "Read") w = .ok (141, .pointer (some ⟨b, 0, none⟩)) w := fun _ => by kernel_rfl
  have h0 : w.cell? ⟨q, 0, none⟩ = some (.iface 49 (.pointer (some ⟨b, 0, none⟩))) := hq.cell 0 rfl
  have h1 : w.cell? ⟨q, 1, none⟩ = some (.int .i64 N) := hq.cell 1 rfl
  have c1 := hid (bufRead_end b A D n c m dc v w h hm hE hg hgb)
  have e1 : ¬ N ≤ 0 := by omega
  have e2 : ¬ N < (m : Int) := by omega
  have HQ := hid hq
  have HD := hid hqb
  clear h hm hE hg hgb hN hqb hq
  go_enter Tryd.func158, Tryd.ntmps158
  go_wp2_with fail
  refine c1.out.mono ?_
  rintro e w1 ⟨rfl, hb, hk⟩
  have hq1 : Lm w1 q b N := HQ.out.kept hk (by simpa using HD.out)
  have h1 : w1.cell? ⟨q, 1, none⟩ = some (.int .i64 N) := hq1.cell 1 rfl
  have f1 : w1.frozen? ⟨q, 1, none⟩ = false := hq1.frozen 1
  have HB := hid hb
  have HK := hid hk
  have HQ1 := hid hq1
  clear hb hk hq1 c1 h0
  go_wp2_with fail
  go_ret2
  have hne1 : b ≠ q := fun e => HD.out e.symm
  refine ⟨rfl, ?_, ?_, ((HK.out.more (by simp))).setCell (p := ⟨q, 1, none⟩) (.inl (by simp)) _⟩
  · have := HQ1.out.set_ 1 (.int .i64 N)
    unfold Lm
    simpa using this
  · obtain ⟨lr, hb⟩ := HB.out
    exact ⟨lr, hb.far (p := ⟨q, 1, none⟩) hne1 _⟩
end Go.Proofs.YtojimnlnpghbiaaDoor.rev
