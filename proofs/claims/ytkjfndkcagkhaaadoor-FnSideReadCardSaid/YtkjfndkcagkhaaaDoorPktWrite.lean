/- Packet lines, as the spec writes them. -/
import Derived.Test.YtkjfndkcagkhaaaDoorPktSpec
import Derived.Laws.BitsAllLaws
import Derived.Laws.BitsLemmas
set_option linter.unusedVariables false
attribute [local go_sem ↓] Go.wp_at_zero Go.wp_at_succ
namespace Go.Proofs.YtkjfndkcagkhaaaDoor.pkt
open Go.RowKit Lib frm mem rd text

theorem byteCells_append' (a b : List UInt8) : byteCells (a ++ b) = byteCells a ++ byteCells b := by simp [byteCells]
/-- bytes of the call's own -/
def OwnBytes (w : World) (l : List UInt8) (e : Ending) (w' : World) : Prop := Below w.heap.size w w' ∧ ∃ v, e = .returned v ∧ w'.ownsRow w.heap.size 5 1 v l.length (byteCells l)
theorem and15 (n : Nat) (h : n < 65536) : bits .and .i64 (n : Int) 15 = ((n % 16 : Nat) : Int) := by
  unfold bits
  simp only [BitVec.toNat_and]
  have e1 : (BitVec.ofInt IntKind.i64.bits (n : Int)).toNat = n := by
    rw [BitVec.toNat_ofInt]
    show ((n : Int) % 18446744073709551616).toNat = n
    omega
  have e2 : (BitVec.ofInt IntKind.i64.bits (15 : Int)).toNat = 15 := by decide
  rw [e1, e2, IntKind.wrap_i64]
  have h2 : n &&& 15 = n % 16 := by rw [show (15 : Nat) = 2 ^ 4 - 1 from rfl, Nat.and_two_pow_sub_one_eq_mod]
  rw [h2]
  omega
theorem index_hex (k : Nat) (h : k < 16) : ∃ z : Nat, z = (hexd k).toNat ∧ ∀ w : World, (Instr.index 9 (.string ⟨#[48, 49, 50, 51, 52, 53, 54, 55, 56, 57, 97, 98, 99, 100, 101, 102]⟩) (.int .i64 (k : Int))).run Tryd.prog w = .ok (.int .u8 z) w := by
  refine ⟨_, rfl, fun w => ?_⟩
  have hh : ∀ k : Fin 16, (⟨#[48, 49, 50, 51, 52, 53, 54, 55, 56, 57, 97, 98, 99, 100, 101, 102]⟩ : ByteArray).data[k.1]? = some (hexd k.1) := by decide
  have h2 := hh ⟨k, h⟩
  rw [run_index_string (h := Tryd.underlying9)]
  simp only [] at h2
  have hk : k < (⟨#[48, 49, 50, 51, 52, 53, 54, 55, 56, 57, 97, 98, 99, 100, 101, 102]⟩ : ByteArray).size := h
  obtain ⟨_, h3⟩ := Array.getElem?_eq_some_iff.1 h2
  rw [dif_pos ⟨by omega, by omega⟩]
  simp only [Int.toNat_natCast]
  rw [← h3]
  rfl
/-- a digit of n -/
theorem digit_at (n m : Nat) (h : m < 65536) : ∃ (d z : Nat), bits .and .i64 (m : Int) 15 = (d : Int) ∧ z = (hexd (m % 16)).toNat ∧
    ∀ w : World, (Instr.index 9 (.string ⟨#[48, 49, 50, 51, 52, 53, 54, 55, 56, 57, 97, 98, 99, 100, 101, 102]⟩) (.int .i64 (d : Int))).run Tryd.prog w = .ok (.int .u8 z) w := by
  obtain ⟨z, hz, hi⟩ := index_hex (m % 16) (Nat.mod_lt _ (by omega))
  exact ⟨m % 16, z, and15 _ h, hz, hi⟩
theorem one_reads (w : World) (v : Value) {e : TypeId} : Reads (w.alloc (.cells #[v] e)) (w.heap.size + 1) 1 (some ⟨w.heap.size, 0, none⟩) 1 [v] :=
  ⟨rfl, fun _ => ⟨_, rfl, by simp, fun j u hu => by rw [Lib.addr_add, Nat.zero_add, Lib.cell_of_heap (heap_alloc_new w _) j]; match j, hu with | 0, hu => exact hu⟩⟩
theorem below_app {w wr w5 : World} {o : Obj} {r : Option Nat} (hb : Below w.heap.size w wr) (hg : (wr.alloc o).grownBy w5 r) (hr : ∀ x, r = some x → w.heap.size ≤ x) : Below w.heap.size w w5 :=
  (hb.alloc hb.size o).grown hg (by have := hb.size; simp; omega) hr
set_option maxRecDepth 100000 in
set_option maxHeartbeats 4000000 in
theorem hex4_calls (n : Nat) (w : World) (h : n < 65536) : Calls Tryd.prog 35 #[.int .i64 n] w (OwnBytes w (hex4 n)) := by
  obtain ⟨i0, hi, hz0, hz1, hz2⟩ := info_parts mem.infoByte
  obtain ⟨d3, z3, b3, e3, i3⟩ := digit_at n (n / 4096) (by omega)
  obtain ⟨d2, z2, b2, e2, i2⟩ := digit_at n (n / 256) (by omega)
  obtain ⟨d1, z1, b1, e1, i1⟩ := digit_at n (n / 16) (by omega)
  obtain ⟨d0, z0, b0, e0, i_0⟩ := digit_at n n h
  have HE := hid (And.intro e3 (And.intro e2 (And.intro e1 e0)))
  have b3' : bits .and .i64 ((n : Int) / 4096) 15 = (d3 : Int) := b3
  have b2' : bits .and .i64 ((n : Int) / 256) 15 = (d2 : Int) := b2
  have b1' : bits .and .i64 ((n : Int) / 16) 15 = (d1 : Int) := b1
  clear e3 e2 e1 e0 h b3 b2 b1
  go_enter Tryd.func35, Tryd.ntmps35
  go_wp2_with fail
  go_loopw [3, 4] (fun vv iv wr => ∃ k : Nat, k ≤ 4 ∧ iv = .int .i64 (12 - 4 * (k : Int)) ∧ Below w.heap.size w wr ∧ wr.ownsRow w.heap.size 5 1 vv k (byteCells ((hex4 n).take k))) (fun _ iv _ => (RowKit.intOf iv + 4).toNat)
  case atStart => exact ⟨0, by omega, rfl, Below.refl _ _, World.ownsRow_nil _ _ _ _⟩
  case round =>
    obtain ⟨k, hk, rfl, hb, hown⟩ := hrel
    match k, hk with
    | 0, _ =>
      have ho1 := hid (hown.alloc (.cells #[.int .u8 z3] 5))
      have hr1 := hid (one_reads wr (.int .u8 z3) (e := 5))
      have hbz := hid (show w.heap.size ≤ (wr.alloc (.cells #[.int .u8 z3] 5)).heap.size by have := hb.size; simp; omega)
      have HB := hid hb
      have hz : Hid (Value.int .u8 z3 = .int .u8 ((hex4 n).getD 0 0).toNat) := hid (by rw [HE.out.1]; rfl)
      clear hown hb
      go_wp2_with (at_builtin; refine wpList_append_any _ rfl (.tmp 9) (.tmp 15) _ rfl w.heap.size 5 i0 _ 1 1 Tryd.underlying25 hi hz0 hz1 hz2 rfl (by omega) u3 0 (byteCells ((hex4 n).take 0)) rfl ho1.out (wr.heap.size + 1) (some ⟨wr.heap.size, 0, none⟩) 1 1 [.int .u8 z3] rfl hr1.out (by simp [Value.oneCell']) (by simp only [maxLen]; omega) (by omega) hbz.out ?_; intro v2 w5 hown2 hg2 hat2; have H5 := hid (And.intro hown2 (And.intro hg2 hat2)); clear hown2 hg2 hat2)
      go_roundw
      case rel =>
        refine ⟨1, by omega, by rfl, ?_, ?_⟩
        · exact below_app HB.out H5.out.2.1 (fun x hx => (ho1.out.lt x hx).1)
        · have h := H5.out.1
          rw [hz.out] at h
          exact h
      case measure => simp [RowKit.intOf]
    | 1, _ =>
      have ho1 := hid (hown.alloc (.cells #[.int .u8 z2] 5))
      have hr1 := hid (one_reads wr (.int .u8 z2) (e := 5))
      have hbz := hid (show w.heap.size ≤ (wr.alloc (.cells #[.int .u8 z2] 5)).heap.size by have := hb.size; simp; omega)
      have HB := hid hb
      have hz : Hid (Value.int .u8 z2 = .int .u8 ((hex4 n).getD 1 0).toNat) := hid (by rw [HE.out.2.1]; rfl)
      clear hown hb
      go_wp2_with (at_builtin; refine wpList_append_any _ rfl (.tmp 9) (.tmp 15) _ rfl w.heap.size 5 i0 _ 1 1 Tryd.underlying25 hi hz0 hz1 hz2 rfl (by omega) u3 1 (byteCells ((hex4 n).take 1)) rfl ho1.out (wr.heap.size + 1) (some ⟨wr.heap.size, 0, none⟩) 1 1 [.int .u8 z2] rfl hr1.out (by simp [Value.oneCell']) (by simp only [maxLen]; omega) (by omega) hbz.out ?_; intro v2 w5 hown2 hg2 hat2; have H5 := hid (And.intro hown2 (And.intro hg2 hat2)); clear hown2 hg2 hat2)
      go_roundw
      case rel =>
        refine ⟨2, by omega, by rfl, ?_, ?_⟩
        · exact below_app HB.out H5.out.2.1 (fun x hx => (ho1.out.lt x hx).1)
        · have h := H5.out.1
          rw [hz.out] at h
          exact h
      case measure => simp [RowKit.intOf]
    | 2, _ =>
      have ho1 := hid (hown.alloc (.cells #[.int .u8 z1] 5))
      have hr1 := hid (one_reads wr (.int .u8 z1) (e := 5))
      have hbz := hid (show w.heap.size ≤ (wr.alloc (.cells #[.int .u8 z1] 5)).heap.size by have := hb.size; simp; omega)
      have HB := hid hb
      have hz : Hid (Value.int .u8 z1 = .int .u8 ((hex4 n).getD 2 0).toNat) := hid (by rw [HE.out.2.2.1]; rfl)
      clear hown hb
      go_wp2_with (at_builtin; refine wpList_append_any _ rfl (.tmp 9) (.tmp 15) _ rfl w.heap.size 5 i0 _ 1 1 Tryd.underlying25 hi hz0 hz1 hz2 rfl (by omega) u3 2 (byteCells ((hex4 n).take 2)) rfl ho1.out (wr.heap.size + 1) (some ⟨wr.heap.size, 0, none⟩) 1 1 [.int .u8 z1] rfl hr1.out (by simp [Value.oneCell']) (by simp only [maxLen]; omega) (by omega) hbz.out ?_; intro v2 w5 hown2 hg2 hat2; have H5 := hid (And.intro hown2 (And.intro hg2 hat2)); clear hown2 hg2 hat2)
      go_roundw
      case rel =>
        refine ⟨3, by omega, by rfl, ?_, ?_⟩
        · exact below_app HB.out H5.out.2.1 (fun x hx => (ho1.out.lt x hx).1)
        · have h := H5.out.1
          rw [hz.out] at h
          exact h
      case measure => simp [RowKit.intOf]
    | 3, _ =>
      have ho1 := hid (hown.alloc (.cells #[.int .u8 z0] 5))
      have hr1 := hid (one_reads wr (.int .u8 z0) (e := 5))
      have hbz := hid (show w.heap.size ≤ (wr.alloc (.cells #[.int .u8 z0] 5)).heap.size by have := hb.size; simp; omega)
      have HB := hid hb
      have hz : Hid (Value.int .u8 z0 = .int .u8 ((hex4 n).getD 3 0).toNat) := hid (by rw [HE.out.2.2.2]; rfl)
      clear hown hb
      go_wp2_with (at_builtin; refine wpList_append_any _ rfl (.tmp 9) (.tmp 15) _ rfl w.heap.size 5 i0 _ 1 1 Tryd.underlying25 hi hz0 hz1 hz2 rfl (by omega) u3 3 (byteCells ((hex4 n).take 3)) rfl ho1.out (wr.heap.size + 1) (some ⟨wr.heap.size, 0, none⟩) 1 1 [.int .u8 z0] rfl hr1.out (by simp [Value.oneCell']) (by simp only [maxLen]; omega) (by omega) hbz.out ?_; intro v2 w5 hown2 hg2 hat2; have H5 := hid (And.intro hown2 (And.intro hg2 hat2)); clear hown2 hg2 hat2)
      go_roundw
      case rel =>
        refine ⟨4, by omega, by rfl, ?_, ?_⟩
        · exact below_app HB.out H5.out.2.1 (fun x hx => (ho1.out.lt x hx).1)
        · have h := H5.out.1
          rw [hz.out] at h
          exact h
      case measure => simp [RowKit.intOf]
    | 4, _ =>
      have HB := hid hb
      have HO := hid hown
      clear hb hown
      go_wp2_with fail
      go_ret
      exact ⟨HB.out, _, rfl, HO.out⟩
/-- bytes that lie somewhere -/
def SomeBytes (w : World) (l : List UInt8) (e : Ending) (w' : World) : Prop := ∃ A c, e = .returned (.slice A l.length c) ∧ l.length ≤ c ∧ Bytes w' w'.heap.size A l.length l ∧ Below w.heap.size w w'
set_option maxRecDepth 100000 in
set_option maxHeartbeats 1000000 in
theorem line_calls (D : Option Addr) (d : Nat) (B : Nat) (p : List UInt8) (w : World) (h : Bytes w B D p.length p) (hB : B ≤ w.heap.size) (hp : p.length ≤ 65516) :
    Calls Tryd.prog 15 #[.slice D p.length d] w (SomeBytes w (line p)) := by
  obtain ⟨i0, hi, hz0, hz1, hz2⟩ := info_parts mem.infoByte
  by_cases h0 : p = []
  · subst h0
    have kc := fun (w : World) (C : Array Value) (n c : Nat) => Lib.run_convert_bytes_const (P := Tryd.prog) w 25 5 C n c Tryd.underlying25 Tryd.underlying5
    simp only [List.length_nil]
    clear h hp
    go_enter Tryd.func15, Tryd.ntmps15
    go_wp2_with fail
    go_ret
    refine ⟨_, _, rfl, Nat.le_refl _, ⟨⟨rfl, fun _ => ⟨_, rfl, by simp, fun j u hu => ?_⟩⟩, fun _ => ⟨_, _, rfl⟩⟩, (Below.refl _ _).alloc (Nat.le_refl _) _⟩
    rw [Lib.addr_add, Nat.zero_add, Lib.cell_of_heap (heap_alloc_new w _) j, ← hu]
    have e : byteCells (line []) = [.int .u8 48, .int .u8 48, .int .u8 48, .int .u8 48] := by rw [line_nil]; rfl
    rw [e]
    simp
  · have hl0 : 0 < p.length := List.length_pos_iff.2 h0
    have c1 := hid (hex4_calls (p.length + 4) w (by omega))
    have hle : Hid (line p = hex4 (p.length + 4) ++ p) := hid (line_cons h0)
    have e1 : ¬ ((p.length : Nat) : Int) = 0 := by omega
    have e2 : IntKind.i64.wrap ((p.length : Int) + 4) = ((p.length + 4 : Nat) : Int) := by rw [IntWalk.i64_in _ (by omega)]; omega
    have e3 : (p.length : Int) + 4 = ((p.length + 4 : Nat) : Int) := by omega
    have E3 := hid e3
    have hm1 : (p.length : Int) ≤ 65516 := by omega
    have H := hid h
    have HB := hid hB
    obtain ⟨m, hm⟩ : ∃ m, m = p.length := ⟨_, rfl⟩
    rw [← hm] at e1 E3 hm1 c1 ⊢
    have HM := hid hm
    have hm2 := hid (show m ≤ 65516 by omega)
    clear h hB hp h0 e2 e3 hl0 hm
    go_enter Tryd.func15, Tryd.ntmps15
    go_wp2_with fail
    rw [E3.out]
    refine c1.out.mono ?_
    rintro e w1 ⟨hb1, v1, rfl, hown⟩
    have HB1 := hid hb1
    have HO := hid hown
    have HR := hid (show Reads w1 w.heap.size 1 D m (byteCells p) by have := (H.out.more HB.out).below hb1; rw [← HM.out] at this; exact this.1)
    clear hb1 hown
    go_wp2_with (at_builtin; refine wpList_append_any _ rfl (.tmp 11) (.tmp 12) _ rfl w.heap.size 5 i0 _ 1 1 Tryd.underlying25 hi hz0 hz1 hz2 rfl (by omega) v1 4 (byteCells (hex4 (m + 4))) rfl HO.out w.heap.size D m d (byteCells p) rfl HR.out (cells_one _) (by have := hm2.out; simp only [maxLen]; omega) (by have := hm2.out; omega) HB1.out.size ?_; intro v2 w2 hown2 hg2 hat2; have H2 := hid (And.intro hown2 (And.intro hg2 hat2)); clear hown2 hg2 hat2)
    go_ret
    have h2 := H2.out.1
    rw [← byteCells_append', HM.out, ← hle.out, show 4 + p.length = (line p).length by rw [line_len]; omega] at h2
    obtain ⟨A2, c2, rfl, hc2, hb2, _⟩ := own_bytes h2
    exact ⟨A2, c2, rfl, hc2, hb2, HB1.out.grown H2.out.2.1 HB1.out.size (fun x hx => (HO.out.lt x hx).1)⟩
end Go.Proofs.YtkjfndkcagkhaaaDoor.pkt
