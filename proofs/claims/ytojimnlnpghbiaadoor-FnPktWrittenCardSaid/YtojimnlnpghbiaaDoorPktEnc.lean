/- The packet lines' encoder, over a buffer. -/
import Derived.Test.YtojimnlnpghbiaaDoorPktWorks
import Derived.Test.YtojimnlnpghbiaaDoorShelf
import Derived.Lib.BufferOld
set_option linter.unusedVariables false
attribute [local go_sem ↓] Go.wp_at_zero Go.wp_at_succ
namespace Go.Proofs.YtojimnlnpghbiaaDoor.pkt
open Go.RowKit Lib frm mem rd text

theorem toHex_calls (k : Nat) (w : World) (h : k < 16) : Calls Tryd.prog 64 #[.int .u8 k] w fun e w' => e = .returned (.int .u8 (hexd k).toNat) ∧ w' = w := by
  have hx := hexd_toNat k h
  by_cases h9 : k < 10
  · rw [if_pos h9] at hx
    rw [hx]
    have e1 : (k : Int) < 10 := by omega
    have e2 : IntKind.u8.wrap (48 + (k : Int)) = ((48 + k : Nat) : Int) := by rw [IntKind.wrap_u8]; omega
    clear hx h h9
    go_enter Tryd.func64, Tryd.ntmps64
    go_wp2_with fail
    go_ret
    exact ⟨by simp, rfl⟩
  · rw [if_neg h9] at hx
    rw [hx]
    have e1 : ¬ (k : Int) < 10 := by omega
    have e2 : IntKind.u8.wrap (87 + (k : Int)) = ((87 + k : Nat) : Int) := by rw [IntKind.wrap_u8]; omega
    clear hx h h9
    go_enter Tryd.func64, Tryd.ntmps64
    go_wp2_with fail
    go_ret
    exact ⟨by simp, rfl⟩
theorem andMask (n m k s : Nat) (h : n < 65536) (hm : m = 15 * 2 ^ s) (hk : k = n / 2 ^ s % 16) (hs : s ≤ 12) : bits .and .i64 (n : Int) (m : Int) = ((k * 2 ^ s : Nat) : Int) := by
  have hm2 : m < 65536 := by
    have h1 : 2 ^ s ≤ 2 ^ 12 := Nat.pow_le_pow_right (by omega) hs
    omega
  unfold bits
  simp only [BitVec.toNat_and]
  have e1 : (BitVec.ofInt IntKind.i64.bits (n : Int)).toNat = n := by
    rw [BitVec.toNat_ofInt]
    show ((n : Int) % 18446744073709551616).toNat = n
    omega
  have e2 : (BitVec.ofInt IntKind.i64.bits (m : Int)).toNat = m := by
    rw [BitVec.toNat_ofInt]
    show ((m : Int) % 18446744073709551616).toNat = m
    omega
  rw [e1, e2, IntKind.wrap_i64]
  have h2 : n &&& m = k * 2 ^ s := by
    apply Nat.eq_of_testBit_eq
    intro i
    rw [Nat.testBit_and, hm, hk, Nat.testBit_mul_two_pow, Nat.testBit_mul_two_pow]
    rcases Nat.lt_or_ge i s with hi | hi
    · simp [Nat.not_le.2 hi]
    · simp only [hi, decide_true, Bool.true_and]
      rw [show (15 : Nat) = 2 ^ 4 - 1 from rfl, Nat.testBit_two_pow_sub_one, show (16 : Nat) = 2 ^ 4 from rfl, Nat.testBit_mod_two_pow, Nat.testBit_div_two_pow]
      rw [show i - s + s = i by omega]
      cases n.testBit i <;> simp
  rw [h2]
  have h3 : k * 2 ^ s ≤ 15 * 2 ^ s := Nat.mul_le_mul_right _ (by omega)
  generalize k * 2 ^ s = z at *
  omega
theorem reads4 {w : World} {D : Nat} {t : TypeId} {a b c d : UInt8} {B : Nat} (h : Blk w D t #[.int .u8 a.toNat, .int .u8 b.toNat, .int .u8 c.toNat, .int .u8 d.toNat]) (hB : D < B) : Bytes w B (some ⟨D, 0, none⟩) 4 [a, b, c, d] := by
  refine ⟨⟨rfl, fun _ => ⟨_, rfl, hB, fun j u hu => ?_⟩⟩, fun _ => ⟨_, _, rfl⟩⟩
  rw [Lib.addr_add, Nat.zero_add]
  refine h.cell j ?_
  rw [← hu]
  simp [byteCells]
set_option maxRecDepth 100000 in
set_option maxHeartbeats 2000000 in
theorem hex16_calls (n : Nat) (w : World) (h : n < 65536) : Calls Tryd.prog 44 #[.int .i64 n] w (SomeBytes w (hex4 n)) := by
  obtain ⟨k3, hk3⟩ : ∃ k, k = n / 4096 % 16 := ⟨_, rfl⟩
  obtain ⟨k2, hk2⟩ : ∃ k, k = n / 256 % 16 := ⟨_, rfl⟩
  obtain ⟨k1, hk1⟩ : ∃ k, k = n / 16 % 16 := ⟨_, rfl⟩
  obtain ⟨k0, hk0⟩ : ∃ k, k = n % 16 := ⟨_, rfl⟩
  have m3 : bits .and .i64 (n : Int) 61440 = 4096 * (k3 : Int) := (andMask n 61440 k3 12 h rfl hk3 (by omega)).trans (by omega)
  have m2 : bits .and .i64 (n : Int) 3840 = 256 * (k2 : Int) := (andMask n 3840 k2 8 h rfl hk2 (by omega)).trans (by omega)
  have m1 : bits .and .i64 (n : Int) 240 = 16 * (k1 : Int) := (andMask n 240 k1 4 h rfl hk1 (by omega)).trans (by omega)
  have m0 : bits .and .i64 (n : Int) 15 = (k0 : Int) := (andMask n 15 k0 0 h rfl (by omega) (by omega)).trans (by omega)
  have q3 : IntKind.u8.wrap (k3 : Int) = k3 := by rw [IntKind.wrap_u8]; omega
  have q2 : IntKind.u8.wrap (k2 : Int) = k2 := by rw [IntKind.wrap_u8]; omega
  have q1 : IntKind.u8.wrap (k1 : Int) = k1 := by rw [IntKind.wrap_u8]; omega
  have q0 : IntKind.u8.wrap (k0 : Int) = k0 := by rw [IntKind.wrap_u8]; omega
  have s3 : (4096 * (k3 : Int)) / 4096 = k3 := by omega
  have s2 : (256 * (k2 : Int)) / 256 = k2 := by omega
  have s1 : (16 * (k1 : Int)) / 16 = k1 := by omega
  have c3 := hid (fun w => toHex_calls k3 w (by omega))
  have c2 := hid (fun w => toHex_calls k2 w (by omega))
  have c1 := hid (fun w => toHex_calls k1 w (by omega))
  have c0 := hid (fun w => toHex_calls k0 w (by omega))
  have hh : Hid (hex4 n = [hexd k3, hexd k2, hexd k1, hexd k0]) := hid (by rw [hk3, hk2, hk1, hk0]; rfl)
  generalize hexd k3 = y3 at *
  generalize hexd k2 = y2 at *
  generalize hexd k1 = y1 at *
  generalize hexd k0 = y0 at *
  clear hk3 hk2 hk1 hk0 h
  go_enter Tryd.func44, Tryd.ntmps44
  go_wp2_with fail
  refine (c3.out _).mono ?_
  rintro e x1 ⟨rfl, rfl⟩
  go_wp2_with fail
  refine (c2.out _).mono ?_
  rintro e x1 ⟨rfl, rfl⟩
  go_wp2_with fail
  refine (c1.out _).mono ?_
  rintro e x1 ⟨rfl, rfl⟩
  go_wp2_with fail
  refine (c0.out _).mono ?_
  rintro e x1 ⟨rfl, rfl⟩
  go_wp2_with fail
  go_ret
  exact ⟨_, _, rfl, Nat.le_refl _, by rw [hh.out]; exact reads4 (Blk.new w _ _) (by simp), (Below.refl _ _).alloc (Nat.le_refl _) _⟩
set_option maxRecDepth 100000 in
theorem flushPkt_calls (w : World) : Calls Tryd.prog 63 #[] w (SomeBytes w [48, 48, 48, 48]) := by
  go_enter Tryd.func63, Tryd.ntmps63
  go_wp2_with fail
  go_ret
  refine ⟨_, _, rfl, Nat.le_refl _, ?_, (Below.refl _ _).alloc (Nat.le_refl _) _⟩
  exact reads4 (a := 48) (b := 48) (c := 48) (d := 48) (Blk.new w _ _) (by simp)
/-- an encoder in block ge, over the buffer in block b -/
structure EncSt (B b ge : Nat) (l : List UInt8) (w0 w : World) : Prop where
  buf : IsBuffer 44 5 B b (byteCells l) w
  enc : w.heap[ge]? = some (.cells #[.iface 49 (.pointer (some ⟨b, 0, none⟩))] 66 (0, 0))
  below : Below B w0 w
section
variable {B b ge : Nat} {l : List UInt8} {w0 w w' : World}
theorem EncSt.size (h : EncSt B b ge l w0 w) : B ≤ w.heap.size := Nat.le_trans h.buf.1 (Nat.le_of_lt h.buf.lt)
theorem EncSt.cell (h : EncSt B b ge l w0 w) : w.cell? ⟨ge, 0, none⟩ = some (.iface 49 (.pointer (some ⟨b, 0, none⟩))) := by rw [Lib.cell_of_heap h.enc]; rfl
theorem EncSt.old (h : EncSt B b ge l w0 w) (hb : Below w.heap.size w w') : EncSt B b ge l w0 w' :=
  ⟨h.buf.old hb, (hb.block ge (Lib.lt_of_heap h.enc)).trans h.enc, h.below.trans ⟨hb.os, hb.tape, hb.output, hb.size, fun i hi => hb.block i (by have := h.size; omega)⟩⟩
theorem EncSt.drew (h : EncSt B b ge l w0 w) : EncSt B b ge l w0 w.drew :=
  ⟨h.buf, h.enc, ⟨h.below.os, h.below.tape, h.below.output, h.below.size, h.below.block⟩⟩
theorem EncSt.put {p : List UInt8} (h : EncSt B b ge l w0 w) (hb : IsBuffer 44 5 B b (byteCells (l ++ p)) w') (hl : Below B w w') (ho : Lib.OthersKept 5 (some b) w w') : EncSt B b ge (l ++ p) w0 w' := by
  refine ⟨hb, ho ge _ h.enc ?_ ?_, h.below.trans hl⟩
  · intro e
    injection e with e
    subst e
    obtain ⟨_, v, lr, hk, _⟩ := h.buf
    rw [h.enc] at hk
    simp at hk
  · intro c fz e
    injection e with _ e
    exact absurd e (by decide)
end
theorem buf_ne {B b : Nat} {l : List UInt8} {w : World} {g o : Nat} {x : Int} (h : IsBuffer 44 5 B b (byteCells l) w) (hc : w.cell? ⟨g, o, none⟩ = some (.int .u8 x)) : g ≠ b := by
  rintro rfl
  obtain ⟨_, v, lr, hk, ho, _⟩ := h
  rw [Lib.cell_of_heap hk] at hc
  match o, hc with
  | 0, hc =>
    simp at hc
    subst hc
    rcases ho.2 with ⟨h1, _⟩ | ⟨_, _, _, h1, _⟩ <;> cases h1
  | 1, hc => simp at hc
  | 2, hc => simp at hc
  | n + 3, hc => simp at hc
/-- written behind l -/
def Wrote (B b ge n : Nat) (l : List UInt8) (w0 : World) (e : Ending) (w' : World) : Prop := e = .returned (.tuple #[.int .i64 n, .nilIface]) ∧ EncSt B b ge l w0 w'
theorem write_calls {B b ge B' : Nat} {l p : List UInt8} {w0 w : World} {A : Option Addr} {c : Nat} (h : EncSt B b ge l w0 w) (hp : Bytes w B' A p.length p) (h0 : 0 < p.length) (hlim : l.length + p.length ≤ 140737488355328) :
    Calls Tryd.prog 144 #[.pointer (some ⟨b, 0, none⟩), .slice A p.length c] w (Wrote B b ge p.length (l ++ p) w0) := by
  obtain ⟨g, o, rfl⟩ := hp.2 h0
  obtain ⟨ad, e, _, hc⟩ := hp.1.2 h0
  injection e with e
  subst e
  have hne : g ≠ b := by
    cases p with
    | nil => simp at h0
    | cons x p => exact buf_ne h.buf (by simpa [Lib.addr_add] using hc 0 (.int .u8 x.toNat) (by simp [byteCells]))
  refine (Tryd.Buffer_Write_any B b (byteCells l) (byteCells p) ⟨g, o, none⟩ p.length c w h.buf h.size (cells_one _) (by simp [byteCells]) hne hc (cells_one _) (by simpa [byteCells] using hlim)).mono ?_
  rintro e w' ⟨rfl, hb, hl, ho⟩
  exact ⟨rfl, h.put (by rw [byteCells_append']; exact hb) hl ho⟩
/-- written, and no error -/
def Enc1 (B b ge : Nat) (l : List UInt8) (w0 : World) (e : Ending) (w' : World) : Prop := e = .returned .nilIface ∧ EncSt B b ge l w0 w'
set_option maxRecDepth 100000 in
set_option maxHeartbeats 2000000 in
theorem flush_calls (B b ge : Nat) (l : List UInt8) (w0 w : World) (h : EncSt B b ge l w0 w) (hlim : l.length + 4 ≤ 140737488355328) :
    Calls Tryd.prog 43 #[.pointer (some ⟨ge, 0, none⟩)] w (Enc1 B b ge (l ++ [48, 48, 48, 48]) w0) := by
  have hna : ∀ w : World, Sem.run Tryd.prog (nilAhead 346 49 (.pointer (some ⟨b, 0, none⟩)) "Write") w = .ok (some false) w := fun _ => by kernel_rfl
  have hme : ∀ w : World, Sem.run Tryd.prog (method 346 49 (.pointer (some ⟨b, 0, none⟩)) "Write") w = .ok (144, .pointer (some ⟨b, 0, none⟩)) w := fun _ => by kernel_rfl
  have c1 := hid (fun w => flushPkt_calls w)
  have HS := hid h.drew
  have HK : Hid (w.drew.cell? ⟨ge, 0, none⟩ = some (.iface 49 (.pointer (some ⟨b, 0, none⟩)))) := hid h.drew.cell
  have HL := hid hlim
  clear h hlim
  go_enter Tryd.func43, Tryd.ntmps43
  go_wp2_with fail
  go_region_held3 (fun w' => w'.cell? ⟨ge, 0, none⟩ = some (.iface 49 (.pointer (some ⟨b, 0, none⟩))))
    (exact HK.out)
    (first
      | (go_at_call 63; refine (c1.out _).mono ?_; rintro e x1 ⟨D, d, rfl, hd, hby, hb⟩; have HS := hid (HS.out.old hb); have HY := hid hby; have HK := hid HS.out.cell; clear hd hby hb)
      | (go_at_call 144; refine (write_calls HS.out HY.out (by decide) (by exact HL.out)).mono ?_; rintro e x2 ⟨rfl, hst⟩; have HF := hid hst; have HK := hid hst.cell; clear hst))
  all_goals
    go_wp2_with fail
    go_ret
    exact ⟨rfl, HF.out⟩
set_option maxRecDepth 100000 in
set_option maxHeartbeats 2000000 in
theorem encodeLine_calls (B b ge : Nat) (D : Option Addr) (d : Nat) (l p : List UInt8) (w0 w : World) (h : EncSt B b ge l w0 w) (hp : Bytes w0 B D p.length p) (hm : p.length ≤ 65516) (hlim : l.length + 65520 ≤ 140737488355328) :
    Calls Tryd.prog 33 #[.pointer (some ⟨ge, 0, none⟩), .slice D p.length d] w (Enc1 B b ge (l ++ line p) w0) := by
  by_cases h0 : p = []
  · subst h0
    rw [line_nil]
    have c1 := hid (flush_calls B b ge l w0 w h (by omega))
    simp only [List.length_nil]
    clear h hp hm hlim
    go_enter Tryd.func33, Tryd.ntmps33
    go_wp2_with fail
    refine c1.out.mono ?_
    rintro e w1 ⟨rfl, hst⟩
    have HS := hid hst
    clear hst c1
    go_wp2_with fail
    go_ret
    exact ⟨rfl, HS.out⟩
  · have hl0 : 0 < p.length := List.length_pos_iff.2 h0
    have hna : ∀ w : World, Sem.run Tryd.prog (nilAhead 346 49 (.pointer (some ⟨b, 0, none⟩)) "Write") w = .ok (some false) w := fun _ => by kernel_rfl
    have hme : ∀ w : World, Sem.run Tryd.prog (method 346 49 (.pointer (some ⟨b, 0, none⟩)) "Write") w = .ok (144, .pointer (some ⟨b, 0, none⟩)) w := fun _ => by kernel_rfl
    have c1 := hid (fun w => hex16_calls (p.length + 4) w (by omega))
    have HLI : Hid (line p = hex4 (p.length + 4) ++ p) := hid (line_cons h0)
    have e1 : ¬ ((p.length : Nat) : Int) = 0 := by omega
    have e2 : ¬ (65516 : Int) < ((p.length : Nat) : Int) := by omega
    have e3 : IntKind.i64.wrap ((p.length : Int) + 4) = ((p.length + 4 : Nat) : Int) := by rw [IntWalk.i64_in _ (by omega)]; omega
    have E4 : Hid ((p.length : Int) + 4 = ((p.length + 4 : Nat) : Int)) := hid (by omega)
    have HS := hid h.drew
    have HK : Hid (w.drew.cell? ⟨ge, 0, none⟩ = some (.iface 49 (.pointer (some ⟨b, 0, none⟩)))) := hid h.drew.cell
    have HP := hid (And.intro hp (And.intro hl0 (And.intro hm hlim)))
    clear h hp h0 hl0 hlim
    go_enter Tryd.func33, Tryd.ntmps33
    go_wp2_with fail
    try rw [E4.out]
    go_region_held3 (fun w' => w'.cell? ⟨ge, 0, none⟩ = some (.iface 49 (.pointer (some ⟨b, 0, none⟩))))
      (exact HK.out)
      (first
        | (go_at_call 44; refine (c1.out _).mono ?_; rintro e x1 ⟨D1, d1, rfl, hd, hby, hb⟩; have HS := hid (HS.out.old hb); have HY := hid hby; have HK := hid HS.out.cell; clear hd hby hb)
        | (go_at_call 144; refine (write_calls HS.out HY.out (by rw [hex4_len]; decide) (by have := HP.out.2.2.2; rw [hex4_len]; omega)).mono ?_; rintro e x2 ⟨rfl, hst⟩; have HF := hid hst; have HK := hid hst.cell; clear hst))
    all_goals
      have hk := HK.out
      have c2 := hid (write_calls (c := d) HF.out (HP.out.1.below HF.out.below) HP.out.2.1 (by have := HP.out.2.2; rw [List.length_append, hex4_len]; omega))
      go_wp2_with fail
      refine c2.out.mono ?_
      rintro e x3 ⟨rfl, hst⟩
      have HG := hid hst
      clear hst c2 hk
      go_wp2_with fail
      go_ret
      refine ⟨rfl, ?_⟩
      have := HG.out
      rw [List.append_assoc, ← HLI.out] at this
      exact this
end Go.Proofs.YtojimnlnpghbiaaDoor.pkt
