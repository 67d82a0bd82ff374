/- Scan of a pktline.Scanner. -/
import Derived.Test.YtoihglnamclhfaaDoorPkt
import Derived.Laws.MakeOwn
import Derived.Lib.SlBytesConst
set_option linter.unusedVariables false
attribute [local go_sem ↓] Go.wp_at_zero Go.wp_at_succ
namespace Go.Proofs.YtoihglnamclhfaaDoor.pkt
open Go.RowKit Lib frm mem rd text

def ScanEnd (w : World) (S R : Nat) (pv : Value) (A : Option Addr) (n c i : Nat) (e : Ending) (w' : World) : Prop :=
  e = .returned (.bool false) ∧ Sc w' S R .nilIface pv ∧ Rd w' R A n c i ∧ Kept [S] w w'
/-- the errors that are compared: io.EOF, io.ErrUnexpectedEOF -/
structure Two (w : World) (p pu : Addr) : Prop where
  eof : w.cell? ⟨2, 0, none⟩ = some (.iface 246 (.pointer (some p)))
  eofg : 2 < w.heap.size
  unx : w.cell? ⟨7, 0, none⟩ = some (.iface 246 (.pointer (some pu)))
  unxg : 7 < w.heap.size
  ne : p ≠ pu
  pb : ∃ cs t, w.heap[p.block]? = some (.cells cs t (0, 0))
  pub_ : ∃ cs t, w.heap[pu.block]? = some (.cells cs t (0, 0))
theorem Two.below {w w' : World} {B : Nat} {p pu : Addr} (h : Two w p pu) (hb : Below B w w') (hg : 2 < B) (hu : 7 < B) (hp : p.block < B) (hpu : pu.block < B) : Two w' p pu :=
  ⟨(hb.cell (p := ⟨2, 0, none⟩) hg).trans h.eof, Nat.lt_of_lt_of_le h.eofg hb.size, (hb.cell (p := ⟨7, 0, none⟩) hu).trans h.unx, Nat.lt_of_lt_of_le h.unxg hb.size, h.ne,
    by obtain ⟨cs, t, e⟩ := h.pb; exact ⟨cs, t, (hb.block _ hp).trans e⟩, by obtain ⟨cs, t, e⟩ := h.pub_; exact ⟨cs, t, (hb.block _ hpu).trans e⟩⟩
theorem Two.kept {w w' : World} {p pu : Addr} (h : Two w p pu) (hb : Kept [] w w') : Two w' p pu := by
  obtain ⟨c1, t1, e1⟩ := h.pb
  obtain ⟨c2, t2, e2⟩ := h.pub_
  exact h.below hb.nil_below h.eofg h.unxg (Lib.lt_of_heap e1) (Lib.lt_of_heap e2)
theorem Two.neq {w : World} {p pu : Addr} (h : Two w p pu) : (binOp .eql 58 (.iface 246 (.pointer (some p))) (.iface 246 (.pointer (some pu)))).run Tryd.prog w = .ok (.bool false) w := by
  obtain ⟨c1, t1, e1⟩ := h.pb
  obtain ⟨c2, t2, e2⟩ := h.pub_
  obtain ⟨i, hi, hc⟩ : ∃ i, Tryd.prog.info? 246 = some i ∧ i.comparable = true := by
    have h : (Tryd.prog.info? 246).map (·.comparable) = some true := by kernel_rfl
    cases hh : Tryd.prog.info? 246 with
    | none => rw [hh] at h; cases h
    | some i => rw [hh] at h; exact ⟨i, rfl, by simpa using h⟩
  obtain ⟨j, hj, hz⟩ : ∃ j, Tryd.prog.info? 248 = some j ∧ j.size = 1 := by
    have h : (Tryd.prog.info? 248).map (·.size) = some 1 := by kernel_rfl
    cases hh : Tryd.prog.info? 248 with
    | none => rw [hh] at h; cases h
    | some i => rw [hh] at h; exact ⟨i, rfl, by simpa using h⟩
  exact run_eql_iface_ptr_other w Tryd.underlying58 Tryd.underlying246 hi hc hj (by omega) h.ne e1 e2
theorem eq_same (w : World) (p : Addr) : (binOp .eql 58 (.iface 246 (.pointer (some p))) (.iface 246 (.pointer (some p)))).run Tryd.prog w = .ok (.bool true) w := by
  obtain ⟨i, hi, hc⟩ : ∃ i, Tryd.prog.info? 246 = some i ∧ i.comparable = true := by
    have h : (Tryd.prog.info? 246).map (·.comparable) = some true := by kernel_rfl
    cases hh : Tryd.prog.info? 246 with
    | none => rw [hh] at h; cases h
    | some i => rw [hh] at h; exact ⟨i, rfl, by simpa using h⟩
  obtain ⟨j, hj⟩ : ∃ j, Tryd.prog.info? 248 = some j := by
    have h : (Tryd.prog.info? 248).map (·.size) = some 1 := by kernel_rfl
    cases hh : Tryd.prog.info? 248 with
    | none => rw [hh] at h; cases h
    | some i => exact ⟨i, rfl⟩
  exact run_eql_iface_ptr_same w p Tryd.underlying58 Tryd.underlying246 hi hc hj
set_option maxRecDepth 100000 in
set_option maxHeartbeats 2000000 in
theorem scan_end (S R : Nat) (ev pv : Value) (A : Option Addr) (n c i : Nat) (p pu : Addr) (w : World) (hS : Sc w S R ev pv) (hR : Rd w R A n c i) (hi : n ≤ i) (hn : i ≤ 140737488355328) (hT : Two w p pu) (hSR : S ≠ R) (hSg : 2 ≠ S) :
    Calls Tryd.prog 66 #[.pointer (some ⟨S, 0, none⟩)] w (ScanEnd w S R pv A n c i) := by
  have c1 := hid (head_end S R ev pv A n c i p pu w hS hR hi hn ⟨hT.eof, p, rfl⟩ hT.eofg hT.unx hT.unxg (fun w' h => (hT.kept h).neq))
  have HS := hid hS
  have HR := hid hR
  have HT := hid hT
  clear hS hR hi hn hT
  go_enter Tryd.func66, Tryd.ntmps66
  go_wp2_with fail
  refine c1.out.mono ?_
  rintro e w1 ⟨rfl, hk⟩
  have HK := hid hk
  have HS1 := hid (HS.out.kept hk (by simp))
  have HR1 := hid (HR.out.kept hk (by simp))
  have HT1 := hid (HT.out.kept hk)
  clear hk
  obtain ⟨x0, x1, x2, x3, hb⟩ := HS1.out
  have k1 : w1.cell? ⟨S, 1, none⟩ = some ev := hb.cell 1 rfl
  have f1 : w1.frozen? ⟨S, 1, none⟩ = false := hb.frozen 1
  have HB := hid hb
  clear hb
  have q2 := fun w => eq_same w p
  go_wp2_with fail
  obtain ⟨w2, hw2⟩ : ∃ w2, w2 = w1.setCell ⟨S, 1, none⟩ (.iface 246 (.pointer (some p))) := ⟨_, rfl⟩
  rw [← hw2]
  have hb2 : Blk w2 S 162 #[.iface 91 (.pointer (some ⟨R, 0, none⟩)), .iface 246 (.pointer (some p)), pv, x0, x1, x2, x3] := by rw [hw2]; exact HB.out.set_ 1 _
  have HK2 := hid (show Kept [S] w w2 by rw [hw2]; exact (HK.out.more (by simp)).setCell (.inl (by simp)) _)
  have HB2 := hid hb2
  have HR2 := hid (show Rd w2 R A n c i by rw [hw2]; obtain ⟨pr, hr⟩ := HR1.out; exact ⟨pr, hr.far (fun e => hSR e.symm) _⟩)
  have q1 : w2.cell? ⟨2, 0, none⟩ = some (.iface 246 (.pointer (some p))) := by
    rw [hw2]; exact (World.cell?_setCell_other w1 ⟨S, 1, none⟩ ⟨2, 0, none⟩ _ (by intro e; injection e with e; exact hSg e.symm)).trans HT1.out.eof
  have k1 : w2.cell? ⟨S, 1, none⟩ = some (.iface 246 (.pointer (some p))) := hb2.cell 1 rfl
  have f1 : w2.frozen? ⟨S, 1, none⟩ = false := hb2.frozen 1
  clear hw2 hb2
  go_quiet (fail)
  go_wp2_with fail
  go_ret
  refine ⟨rfl, ⟨x0, x1, x2, x3, ?_⟩, ?_, ?_⟩
  · exact Blk.set_ (show Blk (w2.drewN _) S _ _ from HB2.out) 1 _
  · obtain ⟨pr, hr⟩ := HR2.out
    exact ⟨pr, Blk.far (p := ⟨S, 1, none⟩) (show Blk (w2.drewN _) R _ _ from hr) (fun e => hSR e.symm) _⟩
  · exact (HK2.out.drewN _).setCell (.inl (by simp)) _
/-- the payload's buffer, of capacity pc -/
def PayOk (w : World) (B S R : Nat) (PA : Option Addr) (pc : Nat) : Prop :=
  (PA = none ∧ pc = 0) ∨ ∃ (Pb : Nat) (cur : List Value), PA = some ⟨Pb, 0, none⟩ ∧ Blk w Pb 5 cur.toArray ∧ cur.length = pc ∧ B ≤ Pb ∧ Pb ≠ S ∧ Pb ≠ R ∧ pc ≤ 140737488355328
def blkOf : Option Addr → List Nat
  | none => []
  | some a => [a.block]
theorem PayOk.kept {w w' : World} {B S R pc : Nat} {PA : Option Addr} {K : List Nat} (h : PayOk w B S R PA pc) (hk : Kept K w w') (hn : ∀ x ∈ blkOf PA, x ∉ K) : PayOk w' B S R PA pc := by
  rcases h with h | ⟨Pb, cur, rfl, h1, h2⟩
  · exact .inl h
  · exact .inr ⟨Pb, cur, rfl, h1.kept hk (hn Pb (by simp [blkOf])), h2⟩
theorem PayOk.no {w : World} {B S R pc : Nat} {PA : Option Addr} (h : PayOk w B S R PA pc) : ∀ x ∈ blkOf PA, B ≤ x ∧ x ≠ S ∧ x ≠ R ∧ x < w.heap.size := by
  rcases h with ⟨rfl, _⟩ | ⟨Pb, cur, rfl, h1, h2⟩
  · simp [blkOf]
  · intro x hx; simp [blkOf] at hx; subst hx; exact ⟨h2.2.1, h2.2.2.1, h2.2.2.2.1, h1.lt⟩
theorem PayOk.most {w : World} {B S R pc : Nat} {PA : Option Addr} (h : PayOk w B S R PA pc) : pc ≤ 140737488355328 := by
  rcases h with ⟨_, rfl⟩ | ⟨Pb, cur, rfl, h1, h2⟩
  · omega
  · exact h2.2.2.2.2
def Filled (w : World) (B S R : Nat) (PA : Option Addr) (pc : Nat) (A : Option Addr) (n c i m : Nat) (p : List UInt8) (e : Ending) (w' : World) : Prop :=
  e = .returned (.tuple #[.int .i64 m, .nilIface]) ∧ Rd w' R A n c (i + m) ∧ PayOk w' B S R PA pc ∧ Bytes w' w'.heap.size PA m p ∧ Kept (R :: blkOf PA) w w'
theorem bytes_of_row {w : World} {g : Nat} {t : TypeId} {cs : List Value} {p : List UInt8} (h : Blk w g t cs.toArray) (hp : cs.take p.length = byteCells p) : Bytes w w.heap.size (some ⟨g, 0, none⟩) p.length p := by
  refine ⟨⟨by simp [byteCells], fun _ => ⟨_, rfl, h.lt, fun j u hu => ?_⟩⟩, fun _ => ⟨g, 0, rfl⟩⟩
  rw [Lib.addr_add, Nat.zero_add]
  refine h.cell j ?_
  rw [← hp, List.getElem?_take] at hu
  split at hu
  · simpa using hu
  · cases hu
theorem fill_calls (B S R : Nat) (PA : Option Addr) (pc : Nat) (A : Option Addr) (n c i m : Nat) (l : List UInt8) (w : World) (hP : PayOk w B S R PA pc) (hmp : m ≤ pc) (hR : Rd w R A n c i) (hi : i + m ≤ n) (hn : n ≤ 140737488355328) (hnc : n ≤ c)
    (hl : Bytes w B A n l) (hBR : B ≤ R) : Calls Tryd.prog 93 #[.iface 91 (.pointer (some ⟨R, 0, none⟩)), .slice PA m pc] w (Filled w B S R PA pc A n c i m ((l.drop i).take m)) := by
  rcases Nat.eq_zero_or_pos m with h0 | h0
  · subst h0
    refine (full_zero _ PA pc w).mono ?_
    rintro e w' ⟨rfl, hk⟩
    refine ⟨rfl, hR.kept hk (by simp), hP.kept hk (by simp), ?_, hk.more (by simp)⟩
    simp only [List.take_zero]
    exact Bytes.nil_
  · rcases hP with ⟨_, rfl⟩ | ⟨Pb, cur, rfl, h1, h2, h3, h4, h5, h6⟩
    · omega
    · refine (full_all B R A n c i l Pb 0 m pc 5 cur w hR hi h0 hn hnc hmp hl hBR h3 (fun e => h5 e.symm) h1 (by omega)).mono ?_
      rintro e w' ⟨rfl, hr, hd, hk⟩
      have hlen : ((l.drop i).take m).length = m := by simp [hl.len]; omega
      refine ⟨rfl, hr, .inr ⟨Pb, _, rfl, hd, ?_, h3, h4, h5, h6⟩, ?_, hk⟩
      · rw [length_splice _ _ _ (by simp [byteCells]; omega), h2]
      · have := bytes_of_row (p := (l.drop i).take m) hd (by simp [splice, byteCells])
        rw [hlen] at this
        exact this
/-- the prefix of a line that tells of an error -/
def Made4 (w : World) (l : List UInt8) (e : Ending) (w' : World) : Prop := ∃ g, e = .returned (.slice (some ⟨g, 0, none⟩) 4 4) ∧ Bytes w' w'.heap.size (some ⟨g, 0, none⟩) 4 l ∧ Kept [] w w'
set_option maxRecDepth 100000 in
theorem errPrefix_calls (w : World) : Calls Tryd.prog 95 #[] w (Made4 w [69, 82, 82, 32]) := by
  have kc := fun (w : World) (C : Array Value) (n c : Nat) => Lib.run_convert_bytes_const (P := Tryd.prog) w 28 5 C n c Tryd.underlying28 Tryd.underlying5
  go_enter Tryd.func95, Tryd.ntmps95
  go_wp2_with fail
  go_ret
  refine ⟨_, rfl, ⟨⟨rfl, fun _ => ⟨_, rfl, by simp, fun j u hu => ?_⟩⟩, fun _ => ⟨_, _, rfl⟩⟩, (Kept.refl [] w).alloc _⟩
  rw [Lib.addr_add, Nat.zero_add, Lib.cell_of_heap (heap_alloc_new w _) j]
  match j, hu with
  | 0, hu => exact hu
  | 1, hu => exact hu
  | 2, hu => exact hu
  | 3, hu => exact hu
set_option maxRecDepth 100000 in
theorem equal_false {B B' : Nat} {A D : Option Addr} {n c m d : Nat} {a b : List UInt8} (w : World) (h1 : Bytes w B A n a) (h2 : Bytes w B' D m b) (hne : a ≠ b) :
    Calls Tryd.prog 83 #[.slice A n c, .slice D m d] w fun e w' => e = .returned (.bool false) ∧ w' = w := by
  have k1 := text_of_bytes (c := c) h1
  have k2 := text_of_bytes (c := d) h2
  obtain ⟨x, hx⟩ : ∃ x : ByteArray, x = ⟨a.toArray⟩ := ⟨_, rfl⟩
  obtain ⟨y, hy⟩ : ∃ y : ByteArray, y = ⟨b.toArray⟩ := ⟨_, rfl⟩
  rw [← hx] at k1
  rw [← hy] at k2
  have q : (x.toList == y.toList) = false := by
    rw [hx, hy, beq_eq_false_iff_ne]
    simpa [ByteArray.toList_eq] using hne
  clear hx hy h1 h2 hne
  go_enter Tryd.func83, Tryd.ntmps83
  go_wp2_with fail
  go_ret
  exact ⟨rfl, rfl⟩
set_option maxRecDepth 100000 in
theorem prefix_false {B B' : Nat} {A D : Option Addr} {n c d : Nat} {a b : List UInt8} (w : World) (h1 : Bytes w B A n a) (hnc : n ≤ c) (h2 : Bytes w B' D 4 b) (hne : (a.take 4 == b) = false) (hn : n ≤ 140737488355328) :
    Calls Tryd.prog 94 #[.slice A n c, .slice D 4 d] w fun e w' => e = .returned (.bool false) ∧ w' = w := by
  by_cases h4 : 4 ≤ n
  · have c1 := hid (equal_false (c := c) (d := d) w (h1.front h4) h2 (by simpa using hne))
    have hs : ∀ w : World, (Instr.sliceAt 28 (.slice A n c) none (some (.int .i64 4)) none).run Tryd.prog w = .ok (.slice A 4 c) w := fun w => slice_to .i64 A n c 4 (by omega) w
    have e1 : (4 : Int) ≤ n := by omega
    clear h1 h2 hne hnc hn h4
    go_enter Tryd.func94, Tryd.ntmps94
    go_wp2_with fail
    refine c1.out.mono ?_
    rintro e w' ⟨rfl, rfl⟩
    go_wp2_with fail
    go_ret
    exact ⟨rfl, rfl⟩
  · have e1 : ¬ (4 : Int) ≤ n := by omega
    clear h1 h2 hne hnc hn h4
    go_enter Tryd.func94, Tryd.ntmps94
    go_wp2_with fail
    go_ret
    exact ⟨rfl, rfl⟩
theorem make_bytes (m : Nat) (hm : m ≤ 281474976710656) : ∃ cur : List Value, cur.length = m ∧ ∀ w : World, (Instr.makeSlice 28 (.int .i64 0) (.int .i64 m)).run Tryd.prog w = .ok (.slice (some ⟨w.heap.size, 0, none⟩) 0 m) (w.alloc (.cells cur.toArray 5)) := by
  obtain ⟨i0, hi, hz0, hz1, hz2⟩ := info_parts mem.infoByte
  refine ⟨(madeCells (Value.int .u8 0).cells (m * 1)).toList, by simp [madeCells, Value.cells], fun w => ?_⟩
  have hr := run_make (P := Tryd.prog) w 28 5 i0 (.int .u8 0) Tryd.underlying28 hi hz0 .i64 .i64 ((0 : Nat) : Int) (m : Int) (by omega) (by omega) (by rw [hz2]; omega) (by omega)
  simp only [Int.toNat_natCast, hz1] at hr
  exact hr
/-- ahead of the reading of a payload: the buffer is great enough -/
def Ready (w3 w : World) (B S R : Nat) (PA A : Option Addr) (n c i m : Nat) : Prop :=
  ∃ PA1 pn1 pc1, Sc w3 S R .nilIface (.slice PA1 pn1 pc1) ∧ PayOk w3 B S R PA1 pc1 ∧ m ≤ pc1 ∧ Kept [R, S] w w3 ∧ Rd w3 R A n c (i + 4) ∧ ∀ x ∈ blkOf PA1, x ∈ blkOf PA ∨ w.heap.size ≤ x
theorem bytes_keep {w w' : World} {B n : Nat} {A : Option Addr} {l : List UInt8} {K : List Nat} (h : Bytes w B A n l) (hk : Kept K w w') (hB : B ≤ w.heap.size) (hn : ∀ x ∈ blkOf A, x ∉ K) : Bytes w' B A n l := by
  refine ⟨⟨h.1.1, fun h0 => ?_⟩, h.2⟩
  obtain ⟨ad, rfl, hb, hc⟩ := h.1.2 h0
  exact ⟨ad, rfl, hb, fun j u hu => (hk.cell (p := ad.add j) (by rw [block_of_add]; omega) (by rw [block_of_add]; exact hn _ (by simp [blkOf]))).trans (hc j u hu)⟩
/-- behind the reading of a payload -/
def Tail (w5 w : World) (B S R : Nat) (PA PA1 : Option Addr) (pc1 : Nat) (A : Option Addr) (n c i m : Nat) (p : List UInt8) : Prop :=
  Sc w5 S R .nilIface (.slice PA1 m pc1) ∧ PayOk w5 B S R PA1 pc1 ∧ m ≤ pc1 ∧ Bytes w5 w5.heap.size PA1 m p ∧ Rd w5 R A n c (i + 4 + m) ∧ Kept (S :: R :: blkOf PA) w w5 ∧ ∀ x ∈ blkOf PA1, x ∈ blkOf PA ∨ w.heap.size ≤ x
def ScanLine (w : World) (B S R : Nat) (PA0 : Option Addr) (A : Option Addr) (n c i : Nat) (p : List UInt8) (e : Ending) (w' : World) : Prop :=
  e = .returned (.bool true) ∧ ∃ PA pc, Sc w' S R .nilIface (.slice PA p.length pc) ∧ PayOk w' B S R PA pc ∧ p.length ≤ pc ∧ Bytes w' w'.heap.size PA p.length p ∧ Rd w' R A n c (i + 4 + p.length) ∧ Kept (S :: R :: blkOf PA0) w w' ∧ ∀ x ∈ blkOf PA, x ∈ blkOf PA0 ∨ w.heap.size ≤ x
set_option maxRecDepth 100000 in
set_option maxHeartbeats 4000000 in
theorem scan_line (B S R : Nat) (ev : Value) (PA : Option Addr) (pn pc : Nat) (A : Option Addr) (n c i : Nat) (l p : List UInt8) (pe pu : Addr) (w : World) (hS : Sc w S R ev (.slice PA pn pc)) (hP : PayOk w B S R PA pc) (hpn : pn ≤ pc) (hpc : pc ≤ 140737488355328) (hR : Rd w R A n c i)
    (hi : i + 4 + p.length ≤ n) (hn : n ≤ 140737488355328) (hnc : n ≤ c) (hl : Bytes w B A n l) (hBR : B ≤ R) (hBS : B ≤ S) (hRS : R ≠ S) (hT : Two w pe pu) (hTB : 2 < B)
    (hp : (l.drop i).take (4 + p.length) = line p) (hg : Good p) :
    Calls Tryd.prog 66 #[.pointer (some ⟨S, 0, none⟩)] w (ScanLine w B S R PA A n c i p) := by
  have hBw : B ≤ w.heap.size := Nat.le_trans hBS (Nat.le_of_lt hS.lt)
  have h4 : (l.drop i).take 4 = hex4 (lenOf p) := by
    have := congrArg (List.take 4) hp
    rw [List.take_take, Nat.min_eq_left (by omega), line_eq, List.take_left' (hex4_len _)] at this
    exact this
  have hpl : (l.drop (i + 4)).take p.length = p := by
    have := congrArg (List.drop 4) hp
    rw [List.drop_take, List.drop_drop, line_eq, List.drop_left' (hex4_len _), show 4 + p.length - 4 = p.length by omega] at this
    exact this
  have hlq : lenOf p - 4 = p.length := by unfold lenOf; split <;> simp_all
  have hlq1 : lenOf p = 0 ∨ (4 < lenOf p ∧ lenOf p ≤ 65524) := by
    have := hg.1
    unfold lenOf
    split
    · exact .inl rfl
    · rename_i hne
      have : 0 < p.length := List.length_pos_iff.2 hne
      exact .inr ⟨by omega, by omega⟩
  have c1 := head_line B S R ev (.slice PA pn pc) A n c i (lenOf p) l w hS hR (by omega) hn hnc hl hBR hBS hRS h4 hlq1
  rw [hlq] at c1
  have C1 := hid c1
  have hm1 : (p.length : Int) ≤ 65516 := by have := hg.1; omega
  have HP := hid hP
  have HL := hid hl
  have HT := hid hT
  have HN := hid (And.intro hn (And.intro hnc (And.intro hi hpc)))
  have HPL := hid hpl
  have HG := hid hg
  have HBW := hid hBw
  obtain ⟨m, hm⟩ : ∃ m, m = p.length := ⟨_, rfl⟩
  rw [← hm] at hm1 C1
  have HM := hid hm
  have HPN := hid hpn
  have hpc' : (pc : Int) ≤ 140737488355328 := by omega
  clear c1 hS hR hi hn hnc hl hT hp hg h4 hpl hlq hlq1 hP hBw hm hpn hpc
  go_enter Tryd.func66, Tryd.ntmps66
  go_wp2_with fail
  refine C1.out.mono ?_
  rintro e w1 ⟨rfl, hs, hr, hk⟩
  have HR1 := hid hr
  have HK1 := hid hk
  obtain ⟨x0, x1, x2, x3, hb⟩ := hs
  have k1 : w1.cell? ⟨S, 1, none⟩ = some ev := hb.cell 1 rfl
  have f1 : w1.frozen? ⟨S, 1, none⟩ = false := hb.frozen 1
  have HB1 := hid hb
  clear hr hk hb
  go_wp2_with fail
  obtain ⟨w2, hw2⟩ : ∃ w2, w2 = w1.setCell ⟨S, 1, none⟩ .nilIface := ⟨_, rfl⟩
  rw [← hw2]
  have hb2 : Blk w2 S 162 #[.iface 91 (.pointer (some ⟨R, 0, none⟩)), .nilIface, .slice PA pn pc, x0, x1, x2, x3] := by rw [hw2]; exact HB1.out.set_ 1 _
  have HB2 := hid hb2
  have HK2 := hid (show Kept [R, S] w w2 by rw [hw2]; exact HK1.out.setCell (.inl (by simp)) _)
  have HR2 := hid (show Rd w2 R A n c (i + 4) by rw [hw2]; obtain ⟨pr, hr⟩ := HR1.out; exact ⟨pr, hr.far hRS _⟩)
  have k1 : w2.cell? ⟨S, 1, none⟩ = some .nilIface := hb2.cell 1 rfl
  have k2 : w2.cell? ⟨S, 2, none⟩ = some (.slice PA pn pc) := hb2.cell 2 rfl
  have k0 : w2.cell? ⟨S, 0, none⟩ = some (.iface 91 (.pointer (some ⟨R, 0, none⟩))) := hb2.cell 0 rfl
  have q1 : w2.cell? ⟨2, 0, none⟩ = some (.iface 246 (.pointer (some pe))) := ((HK2.out.below HBW.out (by simp; omega)).cell (p := ⟨2, 0, none⟩) hTB).trans HT.out.eof
  have q2 := fun w => run_eql_iface_nil_left (P := Tryd.prog) w 246 (.pointer (some pe)) Tryd.underlying58
  clear hw2 hb2
  go_quiet (fail)
  have HPw2 := hid (HP.out.kept HK2.out (fun x hx => by have := HP.out.no x hx; simp; omega))
  have HT0 : True := trivial
  by_cases hcm : (pc : Int) < m
  · obtain ⟨cur, hcur, hmk⟩ := make_bytes m (by omega)
    have HCUR := hid hcur
    clear hcur
    have hB2a : Blk ((w2.drewN nq).alloc (.cells cur.toArray 5)) S 162 #[.iface 91 (.pointer (some ⟨R, 0, none⟩)), .nilIface, .slice PA pn pc, x0, x1, x2, x3] := Blk.alloc (show Blk (w2.drewN nq) S _ _ from HB2.out) _
    have k2a : ((w2.drewN nq).alloc (.cells cur.toArray 5)).cell? ⟨S, 2, none⟩ = some (.slice PA pn pc) := hB2a.cell 2 rfl
    have f2a : ((w2.drewN nq).alloc (.cells cur.toArray 5)).frozen? ⟨S, 2, none⟩ = false := hB2a.frozen 2
    have HB2A := hid hB2a
    clear hB2a
    go_wp2_with fail
    have HALL : Ready (((w2.drewN nq).alloc (.cells cur.toArray 5)).setCell ⟨S, 2, none⟩ (.slice (some ⟨w2.heap.size, 0, none⟩) 0 m)) w B S R PA A n c i m := by
      have hS2 := HB2.out.lt
      have hsz : w.heap.size ≤ w2.heap.size := HK2.out.size
      refine ⟨some ⟨w2.heap.size, 0, none⟩, 0, m, ⟨x0, x1, x2, x3, HB2A.out.set_ 2 _⟩, .inr ⟨w2.heap.size, cur, rfl, ?_, HCUR.out, by have := HBW.out; omega, by omega, by have := HR2.out.lt; omega, by omega⟩, Nat.le_refl _, ?_, ?_, by simp [blkOf]; omega⟩
      · exact Blk.far (p := ⟨S, 2, none⟩) (show Blk ((w2.drewN nq).alloc _) w2.heap.size _ _ from Blk.new (w2.drewN nq) _ _) (by show w2.heap.size ≠ S; omega) _
      · exact ((HK2.out.drewN nq).alloc _).setCell (.inl (by simp)) _
      · obtain ⟨pr, hr⟩ := HR2.out
        exact ⟨pr, Blk.far (p := ⟨S, 2, none⟩) (Blk.alloc (show Blk (w2.drewN nq) R _ _ from hr) _) hRS _⟩
    have HALL' := hid HALL
    clear HALL HB2A HCUR k2a f2a hmk
    generalize ((w2.drewN nq).alloc (.cells cur.toArray 5)).setCell ⟨S, 2, none⟩ (.slice (some ⟨w2.heap.size, 0, none⟩) 0 m) = w3 at *
    obtain ⟨PA1, pn1, pc1, ⟨y0, y1, y2, y3, hb3⟩, hp3, hm3, hk3, hr3, hx3⟩ := HALL'.out
    clear HALL' k0 k1 k2 q1 q2 f1
    have H3 := hid (And.intro hb3 (And.intro hp3 (And.intro hm3 (And.intro hk3 (And.intro hr3 hx3)))))
    clear hb3 hp3 hm3 hk3 hr3 hx3
    clear HB1 HB2 HK1 HR1 HK2 HR2 HPw2 C1
    have hno := H3.out.2.1.no
    have hSn : S ∉ R :: blkOf PA1 := by
      simp only [List.mem_cons, not_or]
      exact ⟨fun e => hRS e.symm, fun h => (hno S h).2.1 rfl⟩
    have hs1 := slice_to .i64 PA1 pn1 pc1 m H3.out.2.2.1
    have hs2 := slice_to .i64 PA1 m pc1 m H3.out.2.2.1
    have C2 := hid (fill_calls B S R PA1 pc1 A n c (i + 4) m l w3.drew (show PayOk w3.drew B S R PA1 pc1 from H3.out.2.1) H3.out.2.2.1 (show Rd w3.drew R A n c (i + 4) from H3.out.2.2.2.2.1) (by have := HN.out.2.2.1; have := HM.out; omega) HN.out.1 HN.out.2.1 (HL.out.below (H3.out.2.2.2.1.drew.below HBW.out (by simp; omega))) hBR)
    have hSn' := hid hSn
    have hno' := hid hno
    have HX := hid (And.intro (show w3.drew.cell? ⟨S, 0, none⟩ = some (.iface 91 (.pointer (some ⟨R, 0, none⟩))) from H3.out.1.cell 0 rfl) (show w3.drew.cell? ⟨S, 2, none⟩ = some (.slice PA1 pn1 pc1) from H3.out.1.cell 2 rfl))
    clear hno hSn
    go_region_held3 (fun w' => w'.cell? ⟨S, 0, none⟩ = some (.iface 91 (.pointer (some ⟨R, 0, none⟩))) ∧ w'.cell? ⟨S, 2, none⟩ = some (.slice PA1 pn1 pc1))
      (first | with_reducible exact HX.out | with_reducible exact HY.out)
      ((go_at_call 93; refine C2.out.mono ?_; rintro e w4 ⟨rfl, hr, hp, hby, hk⟩; have hb4 := (show Blk w3.drew S _ _ from H3.out.1).kept hk hSn'.out; have H4 := hid (And.intro hb4 (And.intro hr (And.intro hp (And.intro hby hk)))); have HX := hid (And.intro (show w4.cell? ⟨S, 0, none⟩ = some (.iface 91 (.pointer (some ⟨R, 0, none⟩))) from hb4.cell 0 rfl) (show w4.cell? ⟨S, 2, none⟩ = some (.slice PA1 pn1 pc1) from hb4.cell 2 rfl)); have HY := hid (And.intro (show (w4.setCell ⟨S, 1, none⟩ .nilIface).cell? ⟨S, 0, none⟩ = some (.iface 91 (.pointer (some ⟨R, 0, none⟩))) from (hb4.set_ 1 .nilIface).cell 0 rfl) (show (w4.setCell ⟨S, 1, none⟩ .nilIface).cell? ⟨S, 2, none⟩ = some (.slice PA1 pn1 pc1) from (hb4.set_ 1 .nilIface).cell 2 rfl)); have k1 : w4.cell? ⟨S, 1, none⟩ = some .nilIface := hb4.cell 1 rfl; have k2 : w4.cell? ⟨S, 2, none⟩ = some (.slice PA1 pn1 pc1) := hb4.cell 2 rfl; have f1 := hb4.frozen 1; have f2 := hb4.frozen 2; clear hr hp hby hk hb4))
    all_goals
      go_wp2_with fail
      have hT5 : Tail ((w4.setCell ⟨S, 1, none⟩ .nilIface).setCell ⟨S, 2, none⟩ (.slice PA1 m pc1)) w B S R PA PA1 pc1 A n c i m p := by
        obtain ⟨hb4, hr4, hp4, hy4, hk4⟩ := H4.out
        obtain ⟨hb3, hp3, hm3, hk3, hr3, hx3⟩ := H3.out
        have hkk : Kept [S] w4 ((w4.setCell ⟨S, 1, none⟩ .nilIface).setCell ⟨S, 2, none⟩ (.slice PA1 m pc1)) := ((Kept.refl [S] w4).setCell (.inl (by simp)) _).setCell (.inl (by simp)) _
        refine ⟨⟨y0, y1, y2, y3, (hb4.set_ 1 _).set_ 2 _⟩, hp4.kept hkk (fun x hx => by have := hno'.out x hx; simp; omega), hm3, ?_, hr4.kept hkk (by simpa using hRS), ?_, hx3⟩
        · have hy5 := (bytes_keep hy4 hkk (Nat.le_refl _) (fun x hx => by have := hno'.out x hx; simp; omega)).more hkk.size
          have e : (l.drop (i + 4)).take m = p := by rw [HM.out]; exact HPL.out
          rw [e] at hy5
          exact hy5
        · have hk4' : Kept (R :: blkOf PA1) w3 w4 := ⟨hk4.os, hk4.tape, hk4.output, hk4.size, hk4.block⟩
          have hk3' : Kept (S :: R :: blkOf PA) w w3 := hk3.more (by intro x hx; simp at hx; rcases hx with h | h <;> simp [h])
          refine (hk3'.trans hk4' ?_).trans hkk (by simp)
          intro x hx
          rcases List.mem_cons.1 hx with rfl | hx
          · simp
          · rcases hx3 x hx with h | h
            · exact .inl (by simp [h])
            · exact .inr h
      have HT5 := hid hT5
      clear hT5 k1 k2 f1 f2 HX HY H4
      generalize (w4.setCell ⟨S, 1, none⟩ .nilIface).setCell ⟨S, 2, none⟩ (.slice PA1 m pc1) = w5 at *
      have C3 := hid (errPrefix_calls w5.drew)
      have HX := hid (show w5.drew.cell? ⟨S, 2, none⟩ = some (.slice PA1 m pc1) by obtain ⟨z0, z1, z2, z3, hz⟩ := HT5.out.1; exact hz.cell 2 rfl)
      have HE : Hid (∀ (w6 : World) (g : Nat), Kept [] w5.drew w6 → Bytes w6 w6.heap.size (some ⟨g, 0, none⟩) 4 [69, 82, 82, 32] → Calls Tryd.prog 94 #[.slice PA1 m pc1, .slice (some ⟨g, 0, none⟩) 4 4] w6 fun e w' => e = .returned (.bool false) ∧ w' = w6) := hid (fun w6 g hk hy => prefix_false w6 (show Bytes w6 w5.heap.size PA1 m p from (show Bytes w5.drew w5.heap.size PA1 m p from HT5.out.2.2.2.1).below hk.nil_below) HT5.out.2.2.1 hy HG.out.2 (by omega))
      have HS2 := hid (fun (w6 : World) (hk : Kept [] w5.drew w6) => (show w6.cell? ⟨S, 2, none⟩ = some (.slice PA1 m pc1) by obtain ⟨z0, z1, z2, z3, hz⟩ := HT5.out.1; exact (Blk.kept (show Blk w5.drew S _ _ from hz) hk (by simp)).cell 2 rfl))
      go_region_held3 (fun w' => w'.cell? ⟨S, 2, none⟩ = some (.slice PA1 m pc1))
        (exact HX.out)
        (first
          | (go_at_call 95; refine C3.out.mono ?_; rintro e w6 ⟨g, rfl, hy, hk⟩; have H6 := hid (And.intro hy hk); have HX := hid (HS2.out w6 hk); clear hy hk)
          | (go_at_call 94; refine (HE.out _ _ H6.out.2 H6.out.1).mono ?_; rintro e w7 ⟨rfl, h7⟩; obtain rfl : w6 = w7 := h7.symm))
      all_goals
        go_wp2_with fail
        go_ret
        obtain ⟨t1, t2, t3, t4, t5, t6, t7⟩ := HT5.out
        have hk6 : Kept [] w5 w6 := ⟨H6.out.2.os, H6.out.2.tape, H6.out.2.output, H6.out.2.size, H6.out.2.block⟩
        refine ⟨rfl, PA1, pc1, ?_, t2.kept hk6 (by simp), by rw [← HM.out]; exact t3, ?_, ?_, t6.trans hk6 (by simp), t7⟩
        · rw [← HM.out]; exact t1.kept hk6 (by simp)
        · rw [← HM.out]; exact (t4.below hk6.nil_below).more hk6.size
        · rw [← HM.out]; exact t5.kept hk6 (by simp)
  · go_wp2_with fail
    have HALL : Ready (w2.drewN nq) w B S R PA A n c i m := ⟨PA, pn, pc, ⟨x0, x1, x2, x3, HB2.out⟩, HPw2.out, by omega, HK2.out.drewN _, HR2.out, fun x hx => .inl hx⟩
    have HALL' := hid HALL
    clear HALL
    generalize w2.drewN nq = w3 at *
    obtain ⟨PA1, pn1, pc1, ⟨y0, y1, y2, y3, hb3⟩, hp3, hm3, hk3, hr3, hx3⟩ := HALL'.out
    clear HALL' k0 k1 k2 q1 q2 f1
    have H3 := hid (And.intro hb3 (And.intro hp3 (And.intro hm3 (And.intro hk3 (And.intro hr3 hx3)))))
    clear hb3 hp3 hm3 hk3 hr3 hx3
    clear HB1 HB2 HK1 HR1 HK2 HR2 HPw2 C1
    have hno := H3.out.2.1.no
    have hSn : S ∉ R :: blkOf PA1 := by
      simp only [List.mem_cons, not_or]
      exact ⟨fun e => hRS e.symm, fun h => (hno S h).2.1 rfl⟩
    have hs1 := slice_to .i64 PA1 pn1 pc1 m H3.out.2.2.1
    have hs2 := slice_to .i64 PA1 m pc1 m H3.out.2.2.1
    have C2 := hid (fill_calls B S R PA1 pc1 A n c (i + 4) m l w3.drew (show PayOk w3.drew B S R PA1 pc1 from H3.out.2.1) H3.out.2.2.1 (show Rd w3.drew R A n c (i + 4) from H3.out.2.2.2.2.1) (by have := HN.out.2.2.1; have := HM.out; omega) HN.out.1 HN.out.2.1 (HL.out.below (H3.out.2.2.2.1.drew.below HBW.out (by simp; omega))) hBR)
    have hSn' := hid hSn
    have hno' := hid hno
    have HX := hid (And.intro (show w3.drew.cell? ⟨S, 0, none⟩ = some (.iface 91 (.pointer (some ⟨R, 0, none⟩))) from H3.out.1.cell 0 rfl) (show w3.drew.cell? ⟨S, 2, none⟩ = some (.slice PA1 pn1 pc1) from H3.out.1.cell 2 rfl))
    clear hno hSn
    go_region_held3 (fun w' => w'.cell? ⟨S, 0, none⟩ = some (.iface 91 (.pointer (some ⟨R, 0, none⟩))) ∧ w'.cell? ⟨S, 2, none⟩ = some (.slice PA1 pn1 pc1))
      (first | with_reducible exact HX.out | with_reducible exact HY.out)
      ((go_at_call 93; refine C2.out.mono ?_; rintro e w4 ⟨rfl, hr, hp, hby, hk⟩; have hb4 := (show Blk w3.drew S _ _ from H3.out.1).kept hk hSn'.out; have H4 := hid (And.intro hb4 (And.intro hr (And.intro hp (And.intro hby hk)))); have HX := hid (And.intro (show w4.cell? ⟨S, 0, none⟩ = some (.iface 91 (.pointer (some ⟨R, 0, none⟩))) from hb4.cell 0 rfl) (show w4.cell? ⟨S, 2, none⟩ = some (.slice PA1 pn1 pc1) from hb4.cell 2 rfl)); have HY := hid (And.intro (show (w4.setCell ⟨S, 1, none⟩ .nilIface).cell? ⟨S, 0, none⟩ = some (.iface 91 (.pointer (some ⟨R, 0, none⟩))) from (hb4.set_ 1 .nilIface).cell 0 rfl) (show (w4.setCell ⟨S, 1, none⟩ .nilIface).cell? ⟨S, 2, none⟩ = some (.slice PA1 pn1 pc1) from (hb4.set_ 1 .nilIface).cell 2 rfl)); have k1 : w4.cell? ⟨S, 1, none⟩ = some .nilIface := hb4.cell 1 rfl; have k2 : w4.cell? ⟨S, 2, none⟩ = some (.slice PA1 pn1 pc1) := hb4.cell 2 rfl; have f1 := hb4.frozen 1; have f2 := hb4.frozen 2; clear hr hp hby hk hb4))
    all_goals
      go_wp2_with fail
      have hT5 : Tail ((w4.setCell ⟨S, 1, none⟩ .nilIface).setCell ⟨S, 2, none⟩ (.slice PA1 m pc1)) w B S R PA PA1 pc1 A n c i m p := by
        obtain ⟨hb4, hr4, hp4, hy4, hk4⟩ := H4.out
        obtain ⟨hb3, hp3, hm3, hk3, hr3, hx3⟩ := H3.out
        have hkk : Kept [S] w4 ((w4.setCell ⟨S, 1, none⟩ .nilIface).setCell ⟨S, 2, none⟩ (.slice PA1 m pc1)) := ((Kept.refl [S] w4).setCell (.inl (by simp)) _).setCell (.inl (by simp)) _
        refine ⟨⟨y0, y1, y2, y3, (hb4.set_ 1 _).set_ 2 _⟩, hp4.kept hkk (fun x hx => by have := hno'.out x hx; simp; omega), hm3, ?_, hr4.kept hkk (by simpa using hRS), ?_, hx3⟩
        · have hy5 := (bytes_keep hy4 hkk (Nat.le_refl _) (fun x hx => by have := hno'.out x hx; simp; omega)).more hkk.size
          have e : (l.drop (i + 4)).take m = p := by rw [HM.out]; exact HPL.out
          rw [e] at hy5
          exact hy5
        · have hk4' : Kept (R :: blkOf PA1) w3 w4 := ⟨hk4.os, hk4.tape, hk4.output, hk4.size, hk4.block⟩
          have hk3' : Kept (S :: R :: blkOf PA) w w3 := hk3.more (by intro x hx; simp at hx; rcases hx with h | h <;> simp [h])
          refine (hk3'.trans hk4' ?_).trans hkk (by simp)
          intro x hx
          rcases List.mem_cons.1 hx with rfl | hx
          · simp
          · rcases hx3 x hx with h | h
            · exact .inl (by simp [h])
            · exact .inr h
      have HT5 := hid hT5
      clear hT5 k1 k2 f1 f2 HX HY H4
      generalize (w4.setCell ⟨S, 1, none⟩ .nilIface).setCell ⟨S, 2, none⟩ (.slice PA1 m pc1) = w5 at *
      have C3 := hid (errPrefix_calls w5.drew)
      have HX := hid (show w5.drew.cell? ⟨S, 2, none⟩ = some (.slice PA1 m pc1) by obtain ⟨z0, z1, z2, z3, hz⟩ := HT5.out.1; exact hz.cell 2 rfl)
      have HE : Hid (∀ (w6 : World) (g : Nat), Kept [] w5.drew w6 → Bytes w6 w6.heap.size (some ⟨g, 0, none⟩) 4 [69, 82, 82, 32] → Calls Tryd.prog 94 #[.slice PA1 m pc1, .slice (some ⟨g, 0, none⟩) 4 4] w6 fun e w' => e = .returned (.bool false) ∧ w' = w6) := hid (fun w6 g hk hy => prefix_false w6 (show Bytes w6 w5.heap.size PA1 m p from (show Bytes w5.drew w5.heap.size PA1 m p from HT5.out.2.2.2.1).below hk.nil_below) HT5.out.2.2.1 hy HG.out.2 (by omega))
      have HS2 := hid (fun (w6 : World) (hk : Kept [] w5.drew w6) => (show w6.cell? ⟨S, 2, none⟩ = some (.slice PA1 m pc1) by obtain ⟨z0, z1, z2, z3, hz⟩ := HT5.out.1; exact (Blk.kept (show Blk w5.drew S _ _ from hz) hk (by simp)).cell 2 rfl))
      go_region_held3 (fun w' => w'.cell? ⟨S, 2, none⟩ = some (.slice PA1 m pc1))
        (exact HX.out)
        (first
          | (go_at_call 95; refine C3.out.mono ?_; rintro e w6 ⟨g, rfl, hy, hk⟩; have H6 := hid (And.intro hy hk); have HX := hid (HS2.out w6 hk); clear hy hk)
          | (go_at_call 94; refine (HE.out _ _ H6.out.2 H6.out.1).mono ?_; rintro e w7 ⟨rfl, h7⟩; obtain rfl : w6 = w7 := h7.symm))
      all_goals
        go_wp2_with fail
        go_ret
        obtain ⟨t1, t2, t3, t4, t5, t6, t7⟩ := HT5.out
        have hk6 : Kept [] w5 w6 := ⟨H6.out.2.os, H6.out.2.tape, H6.out.2.output, H6.out.2.size, H6.out.2.block⟩
        refine ⟨rfl, PA1, pc1, ?_, t2.kept hk6 (by simp), by rw [← HM.out]; exact t3, ?_, ?_, t6.trans hk6 (by simp), t7⟩
        · rw [← HM.out]; exact t1.kept hk6 (by simp)
        · rw [← HM.out]; exact (t4.below hk6.nil_below).more hk6.size
        · rw [← HM.out]; exact t5.kept hk6 (by simp)
end Go.Proofs.YtoihglnamclhfaaDoor.pkt
