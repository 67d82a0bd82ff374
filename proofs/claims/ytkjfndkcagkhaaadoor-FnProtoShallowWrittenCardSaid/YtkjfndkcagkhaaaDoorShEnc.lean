/- The packet lines' encoder over a buffer, with an exact frame. -/
import Derived.Test.YtkjfndkcagkhaaaDoorBufW
import Derived.Test.YtkjfndkcagkhaaaDoorPktWorks
import Derived.Lib.BufferOld
import Derived.Lib.ConvBytes
set_option linter.unusedVariables false
attribute [local go_sem ↓] Go.wp_at_zero Go.wp_at_succ
namespace Go.Proofs.YtkjfndkcagkhaaaDoor.enc
open Go.RowKit Lib frm mem rd pkt text buf

theorem byteCells_append' (a b : List UInt8) : byteCells (a ++ b) = byteCells a ++ byteCells b := by simp [byteCells]
/-- bytes in a block of their own that is no row -/
def OwnSrc (w : World) (n : Nat) (l : List UInt8) (e : Ending) (w' : World) : Prop := ∃ A c, e = .returned (.slice A n c) ∧ buf.Src w' A l ∧ Kept [] w w'
def OwnSrc0 (w : World) (n : Nat) (l : List UInt8) (e : Ending) (w' : World) : Prop := ∃ A c, e = .returned (.slice A n c) ∧ buf.Src0 w' A l ∧ Kept [] w w'
theorem src40 {w : World} {D : Nat} {t : TypeId} {a b c d : UInt8} (h : Blk w D t #[.int .u8 a.toNat, .int .u8 b.toNat, .int .u8 c.toNat, .int .u8 d.toNat]) : buf.Src0 w (some ⟨D, 0, none⟩) [a, b, c, d] :=
  ⟨D, 0, rfl, fun j u hu => by
    rw [Nat.zero_add]
    refine h.cell j ?_
    rw [← hu]
    simp [byteCells]⟩
theorem src4 {w : World} {D : Nat} {t : TypeId} {a b c d : UInt8} (h : Blk w D t #[.int .u8 a.toNat, .int .u8 b.toNat, .int .u8 c.toNat, .int .u8 d.toNat]) (ht : t ≠ 5) : buf.Src w (some ⟨D, 0, none⟩) [a, b, c, d] :=
  ⟨D, 0, _, rfl, h, fun c e => by injection e with _ e; exact ht e, fun j u hu => by
    rw [Nat.zero_add]
    refine h.cell j ?_
    rw [← hu]
    simp [byteCells]⟩
theorem toHex_calls (k : Nat) (w : World) (h : k < 16) : Calls Tryd.prog 135 #[.int .u8 k] w fun e w' => e = .returned (.int .u8 (hexd k).toNat) ∧ w' = w := by
  have hx := hexd_toNat k h
  by_cases h9 : k < 10
  · rw [if_pos h9] at hx
    rw [hx]
    have e1 : (k : Int) < 10 := by omega
    have e2 : IntKind.u8.wrap (48 + (k : Int)) = ((48 + k : Nat) : Int) := by rw [IntKind.wrap_u8]; omega
    clear hx h h9
    go_enter Tryd.func135, Tryd.ntmps135
    go_wp2_with fail
    go_ret
    exact ⟨by simp, rfl⟩
  · rw [if_neg h9] at hx
    rw [hx]
    have e1 : ¬ (k : Int) < 10 := by omega
    have e2 : IntKind.u8.wrap (87 + (k : Int)) = ((87 + k : Nat) : Int) := by rw [IntKind.wrap_u8]; omega
    clear hx h h9
    go_enter Tryd.func135, Tryd.ntmps135
    go_wp2_with fail
    go_ret
    exact ⟨by simp, rfl⟩
theorem andMask (n m k s : Nat) (h : n < 65536) (hm : m = 15 * 2 ^ s) (hk : k = n / 2 ^ s % 16) (hs : s ≤ 12) : bits .and .i64 (n : Int) (m : Int) = ((k * 2 ^ s : Nat) : Int) := by
  have hm2 : m < 65536 := by
    have h1 : 2 ^ s ≤ 2 ^ 12 := Nat.pow_le_pow_right (by omega) hs
    omega
  unfold bits
  simp only [BitVec.toNat_and]
  have e1 : (BitVec.ofInt IntKind.i64.bits (n : Int)).toNat = n := by
    rw [BitVec.toNat_ofInt]
    show ((n : Int) % 18446744073709551616).toNat = n
    omega
  have e2 : (BitVec.ofInt IntKind.i64.bits (m : Int)).toNat = m := by
    rw [BitVec.toNat_ofInt]
    show ((m : Int) % 18446744073709551616).toNat = m
    omega
  rw [e1, e2, IntKind.wrap_i64]
  have h2 : n &&& m = k * 2 ^ s := by
    apply Nat.eq_of_testBit_eq
    intro i
    rw [Nat.testBit_and, hm, hk, Nat.testBit_mul_two_pow, Nat.testBit_mul_two_pow]
    rcases Nat.lt_or_ge i s with hi | hi
    · simp [Nat.not_le.2 hi]
    · simp only [hi, decide_true, Bool.true_and]
      rw [show (15 : Nat) = 2 ^ 4 - 1 from rfl, Nat.testBit_two_pow_sub_one, show (16 : Nat) = 2 ^ 4 from rfl, Nat.testBit_mod_two_pow, Nat.testBit_div_two_pow]
      rw [show i - s + s = i by omega]
      cases n.testBit i <;> simp
  rw [h2]
  have h3 : k * 2 ^ s ≤ 15 * 2 ^ s := Nat.mul_le_mul_right _ (by omega)
  generalize k * 2 ^ s = z at *
  omega
theorem reads4 {w : World} {D : Nat} {t : TypeId} {a b c d : UInt8} {B : Nat} (h : Blk w D t #[.int .u8 a.toNat, .int .u8 b.toNat, .int .u8 c.toNat, .int .u8 d.toNat]) (hB : D < B) : Bytes w B (some ⟨D, 0, none⟩) 4 [a, b, c, d] := by
  refine ⟨⟨rfl, fun _ => ⟨_, rfl, hB, fun j u hu => ?_⟩⟩, fun _ => ⟨_, _, rfl⟩⟩
  rw [Lib.addr_add, Nat.zero_add]
  refine h.cell j ?_
  rw [← hu]
  simp [byteCells]
set_option maxRecDepth 100000 in
set_option maxHeartbeats 2000000 in
theorem hex16_calls (n : Nat) (w : World) (h : n < 65536) : Calls Tryd.prog 123 #[.int .i64 n] w (OwnSrc w 4 (hex4 n)) := by
  obtain ⟨k3, hk3⟩ : ∃ k, k = n / 4096 % 16 := ⟨_, rfl⟩
  obtain ⟨k2, hk2⟩ : ∃ k, k = n / 256 % 16 := ⟨_, rfl⟩
  obtain ⟨k1, hk1⟩ : ∃ k, k = n / 16 % 16 := ⟨_, rfl⟩
  obtain ⟨k0, hk0⟩ : ∃ k, k = n % 16 := ⟨_, rfl⟩
  have m3 : bits .and .i64 (n : Int) 61440 = 4096 * (k3 : Int) := (andMask n 61440 k3 12 h rfl hk3 (by omega)).trans (by omega)
  have m2 : bits .and .i64 (n : Int) 3840 = 256 * (k2 : Int) := (andMask n 3840 k2 8 h rfl hk2 (by omega)).trans (by omega)
  have m1 : bits .and .i64 (n : Int) 240 = 16 * (k1 : Int) := (andMask n 240 k1 4 h rfl hk1 (by omega)).trans (by omega)
  have m0 : bits .and .i64 (n : Int) 15 = (k0 : Int) := (andMask n 15 k0 0 h rfl (by omega) (by omega)).trans (by omega)
  have q3 : IntKind.u8.wrap (k3 : Int) = k3 := by rw [IntKind.wrap_u8]; omega
  have q2 : IntKind.u8.wrap (k2 : Int) = k2 := by rw [IntKind.wrap_u8]; omega
  have q1 : IntKind.u8.wrap (k1 : Int) = k1 := by rw [IntKind.wrap_u8]; omega
  have q0 : IntKind.u8.wrap (k0 : Int) = k0 := by rw [IntKind.wrap_u8]; omega
  have s3 : (4096 * (k3 : Int)) / 4096 = k3 := by omega
  have s2 : (256 * (k2 : Int)) / 256 = k2 := by omega
  have s1 : (16 * (k1 : Int)) / 16 = k1 := by omega
  have c3 := hid (fun w => toHex_calls k3 w (by omega))
  have c2 := hid (fun w => toHex_calls k2 w (by omega))
  have c1 := hid (fun w => toHex_calls k1 w (by omega))
  have c0 := hid (fun w => toHex_calls k0 w (by omega))
  have hh : Hid (hex4 n = [hexd k3, hexd k2, hexd k1, hexd k0]) := hid (by rw [hk3, hk2, hk1, hk0]; rfl)
  generalize hexd k3 = y3 at *
  generalize hexd k2 = y2 at *
  generalize hexd k1 = y1 at *
  generalize hexd k0 = y0 at *
  clear hk3 hk2 hk1 hk0 h
  go_enter Tryd.func123, Tryd.ntmps123
  go_wp2_with fail
  refine (c3.out _).mono ?_
  rintro e x1 ⟨rfl, rfl⟩
  go_wp2_with fail
  refine (c2.out _).mono ?_
  rintro e x1 ⟨rfl, rfl⟩
  go_wp2_with fail
  refine (c1.out _).mono ?_
  rintro e x1 ⟨rfl, rfl⟩
  go_wp2_with fail
  refine (c0.out _).mono ?_
  rintro e x1 ⟨rfl, rfl⟩
  go_wp2_with fail
  go_ret
  exact ⟨_, _, rfl, by rw [hh.out]; exact src4 (Blk.new w _ _) (by decide), (Kept.refl [] w).alloc _⟩
set_option maxRecDepth 100000 in
theorem flushPkt_calls (w : World) : Calls Tryd.prog 80 #[] w (OwnSrc0 w 4 [48, 48, 48, 48]) := by
  go_enter Tryd.func80, Tryd.ntmps80
  go_wp2_with fail
  go_ret
  exact ⟨_, _, rfl, src40 (a := 48) (b := 48) (c := 48) (d := 48) (Blk.new w _ _), (Kept.refl [] w).alloc _⟩
/-- an encoder in block ge, over the buffer in block b -/
structure Es (B b ge : Nat) (l : List UInt8) (w : World) : Prop where
  buf : IsBuffer 62 5 B b (byteCells l) w
  enc : w.heap[ge]? = some (.cells #[.iface 66 (.pointer (some ⟨b, 0, none⟩))] 143 (0, 0))
section
variable {B b ge : Nat} {l : List UInt8} {w w' : World}
theorem Es.size (h : Es B b ge l w) : B ≤ w.heap.size := Nat.le_trans h.buf.1 (Nat.le_of_lt h.buf.lt)
theorem Es.cell (h : Es B b ge l w) : w.cell? ⟨ge, 0, none⟩ = some (.iface 66 (.pointer (some ⟨b, 0, none⟩))) := by rw [Lib.cell_of_heap h.enc]; rfl
theorem Es.kept (h : Es B b ge l w) (hk : Kept [] w w') : Es B b ge l w' := ⟨h.buf.old hk.nil_below, (hk.block ge (lt_of_heap h.enc) (by simp)).trans h.enc⟩
theorem Es.ne (h : Es B b ge l w) : ge ≠ b := by
  rintro rfl
  obtain ⟨_, v, lr, hk, _⟩ := h.buf
  have := h.enc
  rw [hk] at this
  simp at this
theorem Es.put {l2 : List UInt8} (h : Es B b ge l w) (hb : IsBuffer 62 5 B b (byteCells l2) w') (hk : FK b w w') : Es B b ge l2 w' :=
  ⟨hb, hk.keep ge _ h.enc h.ne (fun c e => by injection e with _ e; exact absurd e (by decide))⟩
end
/-- written, and no error -/
def Done (B b ge : Nat) (l : List UInt8) (w : World) (e : Ending) (w' : World) : Prop := e = .returned .nilIface ∧ Es B b ge l w' ∧ Below B w w' ∧ FK b w w'
theorem kept_below {B : Nat} {w w' : World} (hk : Kept [] w w') (hB : B ≤ w.heap.size) : Below B w w' := hk.below hB (by simp)
set_option maxRecDepth 100000 in
set_option maxHeartbeats 2000000 in
theorem flush_calls (B b ge : Nat) (l : List UInt8) (w : World) (h : Es B b ge l w) (hlim : l.length + 4 ≤ 140737488355328) :
    Calls Tryd.prog 59 #[.pointer (some ⟨ge, 0, none⟩)] w (Done B b ge (l ++ [48, 48, 48, 48]) w) := by
  have hna : ∀ w : World, Sem.run Tryd.prog (nilAhead 328 66 (.pointer (some ⟨b, 0, none⟩)) "Write") w = .ok (some false) w := fun _ => by kernel_rfl
  have hme : ∀ w : World, Sem.run Tryd.prog (method 328 66 (.pointer (some ⟨b, 0, none⟩)) "Write") w = .ok (42, .pointer (some ⟨b, 0, none⟩)) w := fun _ => by kernel_rfl
  have c1 := hid (fun w => flushPkt_calls w)
  have c2 := hid (fun (w' : World) (A : Option Addr) (c : Nat) (hk : Kept [] w w') (hs : buf.Src0 w' A [48, 48, 48, 48]) => buf.write_calls B b l [48, 48, 48, 48] A c w' (h.kept hk).buf (Nat.le_trans h.size hk.size) hs (by decide) hlim)
  have HS := hid h
  have HK : Hid (w.drew.cell? ⟨ge, 0, none⟩ = some (.iface 66 (.pointer (some ⟨b, 0, none⟩)))) := hid h.cell
  clear h hlim
  go_enter Tryd.func59, Tryd.ntmps59
  go_wp2_with fail
  go_region_held3 (fun w' => w'.cell? ⟨ge, 0, none⟩ = some (.iface 66 (.pointer (some ⟨b, 0, none⟩))))
    (exact HK.out)
    (first
      | (go_at_call 80; refine (c1.out _).mono ?_; rintro e x1 ⟨D, d, rfl, hs, hk⟩; have HY := hid hs; have HX := hid ((Kept.refl [] w).drew.trans_ hk); have HK := hid (HS.out.kept HX.out).cell; clear hs hk)
      | (go_at_call 42; refine (c2.out _ _ _ HX.out HY.out).mono ?_; rintro e x2 ⟨rfl, hb, hbel, hfk⟩; have HF := hid (And.intro ((HS.out.kept HX.out).put hb hfk) (And.intro ((kept_below HX.out HS.out.size).trans hbel) ((FK.of_kept HX.out).trans hfk))); have HK := hid HF.out.1.cell; clear hb hbel hfk)
      | fail)
  all_goals
    go_wp2_with fail
    go_ret
    exact ⟨rfl, HF.out⟩
set_option maxRecDepth 100000 in
set_option maxHeartbeats 2000000 in
theorem encodeLine_calls (B b ge : Nat) (D : Option Addr) (d : Nat) (l p : List UInt8) (w : World) (h : Es B b ge l w) (hp : buf.Src w D p) (hl0 : 0 < p.length) (hm : p.length ≤ 65516) (hlim : l.length + 65520 ≤ 140737488355328) :
    Calls Tryd.prog 102 #[.pointer (some ⟨ge, 0, none⟩), .slice D p.length d] w (Done B b ge (l ++ line p) w) := by
  have hna : ∀ w : World, Sem.run Tryd.prog (nilAhead 328 66 (.pointer (some ⟨b, 0, none⟩)) "Write") w = .ok (some false) w := fun _ => by kernel_rfl
  have hme : ∀ w : World, Sem.run Tryd.prog (method 328 66 (.pointer (some ⟨b, 0, none⟩)) "Write") w = .ok (42, .pointer (some ⟨b, 0, none⟩)) w := fun _ => by kernel_rfl
  have c1 := hid (fun w => hex16_calls (p.length + 4) w (by omega))
  have h0 : p ≠ [] := List.length_pos_iff.1 hl0
  have HLI : Hid (line p = hex4 (p.length + 4) ++ p) := hid (line_cons h0)
  have c2 := hid (fun (w' : World) (A : Option Addr) (c : Nat) (hk : Kept [] w w') (hs : buf.Src w' A (hex4 (p.length + 4))) => buf.write_calls B b l (hex4 (p.length + 4)) A c w' (h.kept hk).buf (Nat.le_trans h.size hk.size) hs.zero (by rw [hex4_len]; omega) (by rw [hex4_len]; omega))
  rw [hex4_len] at c2
  have c3 := hid (fun (w' : World) (c : Nat) (hE : Es B b ge (l ++ hex4 (p.length + 4)) w') (hs : buf.Src w' D p) => buf.write_calls B b (l ++ hex4 (p.length + 4)) p D c w' hE.buf hE.size hs.zero hl0 (by rw [List.length_append, hex4_len]; omega))
  have hne := hp.ne h.buf hl0
  have HNE := hid hne
  have HP := hid hp
  have e1 : ¬ ((p.length : Nat) : Int) = 0 := by omega
  have e2 : ¬ (65516 : Int) < ((p.length : Nat) : Int) := by omega
  have e3 : IntKind.i64.wrap ((p.length : Int) + 4) = ((p.length + 4 : Nat) : Int) := by rw [IntWalk.i64_in _ (by omega)]; omega
  have E4 : Hid ((p.length : Int) + 4 = ((p.length + 4 : Nat) : Int)) := hid (by omega)
  have HS := hid h
  have HK : Hid (w.drew.cell? ⟨ge, 0, none⟩ = some (.iface 66 (.pointer (some ⟨b, 0, none⟩)))) := hid h.cell
  clear h hp h0 hl0 hlim hm hne
  go_enter Tryd.func102, Tryd.ntmps102
  go_wp2_with fail
  try rw [E4.out]
  go_region_held3 (fun w' => w'.cell? ⟨ge, 0, none⟩ = some (.iface 66 (.pointer (some ⟨b, 0, none⟩))))
    (exact HK.out)
    (first
      | (go_at_call 123; refine (c1.out _).mono ?_; rintro e x1 ⟨D1, d1, rfl, hs, hk⟩; have HY := hid hs; have HX := hid ((Kept.refl [] w).drew.trans_ hk); have HK := hid (HS.out.kept HX.out).cell; clear hs hk)
      | (go_at_call 42; refine (c2.out _ _ _ HX.out HY.out).mono ?_; rintro e x2 ⟨rfl, hb, hbel, hfk⟩; have HF := hid (And.intro ((HS.out.kept HX.out).put hb hfk) (And.intro ((kept_below HX.out HS.out.size).trans hbel) ((FK.of_kept HX.out).trans hfk))); have HK := hid HF.out.1.cell; clear hb hbel hfk)
      | fail)
  all_goals
    have hk := HK.out
    have HP2 := hid (HP.out.kept HF.out.2.2 HNE.out)
    go_wp2_with fail
    refine (c3.out _ _ HF.out.1 HP2.out).mono ?_
    rintro e x3 ⟨rfl, hb, hbel, hfk⟩
    have HG := hid (And.intro (HF.out.1.put hb hfk) (And.intro (HF.out.2.1.trans hbel) (HF.out.2.2.trans hfk)))
    clear hb hbel hfk hk
    go_wp2_with fail
    go_ret
    refine ⟨rfl, ?_⟩
    have := HG.out
    rw [List.append_assoc, ← HLI.out] at this
    exact this
end Go.Proofs.YtkjfndkcagkhaaaDoor.enc
