/- spec.ReadLines over good lines. -/
import Derived.Test.YtkjfndkcagkhaaaDoorSdHex
import Derived.Test.YtkjfndkcagkhaaaDoorPktSpec
set_option linter.unusedVariables false
attribute [local go_sem ↓] Go.wp_at_zero Go.wp_at_succ
namespace Go.Proofs.YtkjfndkcagkhaaaDoor.side
open Go.RowKit Lib frm mem text pkt rd opn

abbrev T25 : TypeId := 25
theorem infoSl : (Tryd.prog.info? T25).map (fun i => (i.zero, i.size, i.bytes)) = some (some (.slice none 0 0), 1, 24) := by kernel_rfl
theorem one_val (w : World) (v : Value) {e : TypeId} : Reads (w.alloc (.cells #[v] e)) (w.heap.size + 1) 1 (some ⟨w.heap.size, 0, none⟩) 1 [v] :=
  ⟨rfl, fun _ => ⟨_, rfl, by simp, fun j u hu => by rw [Lib.addr_add, Nat.zero_add, Lib.cell_of_heap (heap_alloc_new w _) j]; match j, hu with | 0, hu => exact hu⟩⟩
/-- a payload that is read as it is -/
def OkP (p : List UInt8) : Prop := pkt.Good p ∧ p ≠ []
theorem hex_val (m : Nat) (hm : m < 65536) : val (m / 4096 % 16) (m / 256 % 16) (m / 16 % 16) (m % 16) 4 = m := by
  show ((m / 4096 % 16 * 16 + m / 256 % 16) * 16 + m / 16 % 16) * 16 + m % 16 = m
  omega
theorem hex_cells {w : World} {B g o n : Nat} {p rest : List UInt8} (h : Bytes w B (some ⟨g, o, none⟩) n (hex4 (p.length + 4) ++ (p ++ rest))) (hp : p.length + 4 < 65536) : ∀ i, i < 4 → w.cell? ⟨g, o + i, none⟩ = some (.int .u8 (if dig ((p.length + 4) / 4096 % 16) ((p.length + 4) / 256 % 16) ((p.length + 4) / 16 % 16) ((p.length + 4) % 16) i < 10 then 48 + dig ((p.length + 4) / 4096 % 16) ((p.length + 4) / 256 % 16) ((p.length + 4) / 16 % 16) ((p.length + 4) % 16) i else 87 + dig ((p.length + 4) / 4096 % 16) ((p.length + 4) / 256 % 16) ((p.length + 4) / 16 % 16) ((p.length + 4) % 16) i : Nat)) := by
  intro i hi
  have hn : 0 < n := by have := h.len; simp [hex4] at this; omega
  obtain ⟨ad, e, _, hc⟩ := h.1.2 hn
  injection e with e
  subst e
  have key : ∀ d : Nat, d < 16 → (byteCells (hex4 (p.length + 4) ++ (p ++ rest)))[i]? = some (.int .u8 (hexd d).toNat) → w.cell? ⟨g, o + i, none⟩ = some (.int .u8 (if d < 10 then 48 + d else 87 + d : Nat)) := fun d hd hx => by
    have := hc i _ hx
    rw [Lib.addr_add, hexd_toNat d hd] at this
    exact this
  match i, hi with
  | 0, _ => exact key ((p.length + 4) / 4096 % 16) (by omega) (by simp [byteCells, hex4])
  | 1, _ => exact key ((p.length + 4) / 256 % 16) (by omega) (by simp [byteCells, hex4])
  | 2, _ => exact key ((p.length + 4) / 16 % 16) (by omega) (by simp [byteCells, hex4])
  | 3, _ => exact key ((p.length + 4) % 16) (by omega) (by simp [byteCells, hex4])
theorem All2b {w w' : World} {B : Nat} {vs : List Value} {ls : List (List UInt8)} (h : All2 (RowB w B) vs ls) (hb : Below B w w') : All2 (RowB w' B) vs ls := h.mono fun _ _ h => by
  obtain ⟨A, c, e, hc, hB⟩ := h; exact ⟨A, c, e, hc, hB.below hb⟩
def LinesIs (B : Nat) (ls : List (List UInt8)) (w : World) (e : Ending) (w' : World) : Prop := ∃ v vs, e = .returned (.tuple #[v, .int .i64 0]) ∧ Below w.heap.size w w' ∧ w'.ownsRow w.heap.size T25 1 v ls.length vs ∧ All2 (RowB w' B) vs ls
set_option maxRecDepth 100000 in
set_option maxHeartbeats 8000000 in
theorem readLines_calls (B : Nat) (A0 : Option Addr) (n0 c0 : Nat) (ls : List (List UInt8)) (w : World) (h : Bytes w B A0 n0 (lines ls)) (hc0 : n0 ≤ c0) (hB : B ≤ w.heap.size) (hn : n0 ≤ 140737488355328) (hls : ls.length ≤ 60) (hok : ∀ p ∈ ls, OkP p) :
    Calls Tryd.prog 37 #[.slice A0 n0 c0] w (LinesIs B ls w) := by
  obtain ⟨i0, hi, hz0, hz1, hz2⟩ := info_parts infoSl
  have HB := hid hB
  have HL := hid hls
  have HOK := hid hok
  have HI : Hid (n0 = (lines ls).length ∧ n0 ≤ c0 ∧ n0 ≤ 140737488355328 ∧ Bytes w B A0 n0 (lines ls)) := hid ⟨h.len.symm, hc0, hn, h⟩
  clear h hc0 hB hn hls hok
  go_enter Tryd.func37, Tryd.ntmps37
  go_wp2_with fail
  go_loopg [0, 4] ls.length (fun G bv lv wr => ∃ (done rest : List (List UInt8)) (A : Option Addr) (n c K : Nat) (vs : List Value), bv = .slice A n c ∧ Hid (rest.length = G) ∧ Hid (ls = done ++ rest) ∧ Hid (n ≤ c ∧ n ≤ 140737488355328) ∧ Hid (Bytes wr B A n (lines rest)) ∧ Hid (Below w.heap.size w wr) ∧ Hid (K = done.length) ∧ Hid (wr.ownsRow w.heap.size T25 1 lv K vs) ∧ Hid (All2 (RowB wr B) vs done))
  case atStart => exact ⟨[], ls, A0, n0, c0, 0, [], rfl, hid rfl, hid rfl, hid ⟨HI.out.2.1, HI.out.2.2.1⟩, hid HI.out.2.2.2, hid (Below.refl _ _), hid rfl, hid (World.ownsRow_nil _ _ _ _), hid .nil⟩
  case round =>
    obtain ⟨done, rest, A, n, c, K, vs, rfl, hG, hLS, hNC, hBy, hK, hKd, hO, hA⟩ := hrel
    obtain ⟨wo, rfl⟩ : ∃ wo, wo = wr := ⟨_, rfl⟩
    cases hrest : rest with
    | nil =>
      have hn0 : n = 0 := by have := hBy.out.len; rw [hrest] at this; simpa [lines] using this.symm
      subst hn0
      have HE := hid hrest
      clear hrest
      go_wp2_with fail
      go_ret2
      have hd : ls = done := by rw [hLS.out, HE.out, List.append_nil]
      subst hd
      refine ⟨_, vs, rfl, hK.out, ?_, hA.out⟩
      rw [← hKd.out]; exact hO.out
    | cons p rest' =>
      have hmem : p ∈ ls := by rw [hLS.out, hrest]; simp
      obtain ⟨hg, hp0⟩ := HOK.out p hmem
      have hp1 : 0 < p.length := List.length_pos_iff.2 hp0
      have hg1 := hg.1
      have hl : lines rest = hex4 (p.length + 4) ++ (p ++ lines rest') := by rw [hrest]; show line p ++ lines rest' = _; rw [line_cons hp0, List.append_assoc]
      have hbb := hBy.out
      rw [hl] at hbb
      have hlen := hbb.len
      rw [List.length_append, List.length_append, hex4_len] at hlen
      obtain ⟨m, hm⟩ : ∃ m, m = p.length + 4 := ⟨_, rfl⟩
      obtain ⟨g, o, rfl⟩ := hbb.2 (by omega)
      have hcells := hex_cells hbb (by omega)
      rw [← hm] at hcells
      have c1 := hid (readHex4_calls g o n c _ _ _ _ wo (by omega) (by omega) (by omega) (by omega) (by omega) hNC.out.2 hcells)
      rw [hex_val m (by omega)] at c1
      obtain ⟨A1, hA1, hs1⟩ := slice_mid .i64 .i64 (some ⟨g, o, none⟩) n c 4 m (by omega) (by omega) hNC.out.1
      obtain ⟨A2, hA2, hs2⟩ := slice_from .i64 (some ⟨g, o, none⟩) n c m (by omega)
      have hp' : m - 4 = p.length := by omega
      have hb1 : Bytes wo B A1 (m - 4) p := by
        have := hA1 wo B _ hbb
        rw [List.drop_left' (hex4_len _), hp', List.take_left' rfl] at this
        rw [hp']; exact this
      have hb2 : Bytes wo B A2 (n - m) (lines rest') := by
        have := hA2 wo B _ hbb hNC.out.1
        rw [hm, ← List.append_assoc, List.drop_left' (by rw [List.length_append, hex4_len]; omega), ← hm] at this
        exact this
      have c2 := isErr_calls A1 (c - 4) B p wo (by rw [← hp']; exact hb1) (by have := hNC.out.1; omega)
      rw [hg.2, ← hp'] at c2
      have C2 := hid c2
      have hs1' : ∀ w, (Instr.sliceAt 25 (.slice (some ⟨g, o, none⟩) n c) (some (.int .i64 4)) (some (.int .i64 m)) none).run Tryd.prog w = .ok (.slice A1 (m - 4) (c - 4)) w := hs1
      have hm4 : (4 : Int) < m := by omega
      have hm5 : (m : Int) ≤ 65520 := by omega
      have hmn : (m : Int) ≤ n := by omega
      have hn2 : (n : Int) ≤ 140737488355328 := by have := hNC.out.2; omega
      have HB1 := hid hb1
      have HB2 := hid hb2
      have HM := hid hm
      have HRT := hid hrest
      have HNC2 := hid (show n - m ≤ c - m ∧ n - m ≤ 140737488355328 by have := hNC.out; omega)
      have HRL := hid (show m - 4 ≤ c - 4 by have := hNC.out.1; omega)
      have hK60 : K ≤ 60 := by
        have h1 := congrArg List.length hLS.out
        rw [List.length_append] at h1
        have h2 := HL.out
        rw [hKd.out]; omega
      clear hmem hg hp0 hp1 hg1 hl hbb hlen hm hcells hA1 hs1 hA2 hp' hb1 hb2 c2 hrest
      go_wp2_with fail
      refine c1.out.mono ?_
      rintro e w1 ⟨rfl, hw1⟩
      obtain rfl : wo = w1 := hw1.symm
      clear hw1 c1
      go_wp2_with fail
      refine C2.out.mono ?_
      rintro e w1 ⟨rfl, hw1⟩
      obtain rfl : wo = w1 := hw1.symm
      clear hw1 C2
      have HOA : Hid ((wo.alloc (.cells #[.slice A1 (m - 4) (c - 4)] T25)).ownsRow w.heap.size T25 1 u4 K vs) := hid (own_kept hO.out ((Kept.refl [] wo).alloc _) (by simp))
      have HKA : Hid (Below w.heap.size w (wo.alloc (.cells #[.slice A1 (m - 4) (c - 4)] T25))) := hid (hK.out.trans ((Below.refl _ _).alloc hK.out.size _))
      have HRd := hid (one_val wo (.slice A1 (m - 4) (c - 4)) (e := T25))
      go_wp2_with (at_builtin; refine wpList_append_any _ rfl (.tmp 45) (.tmp 49) _ rfl w.heap.size T25 i0 _ 1 24 Tryd.underlying52 hi hz0 hz1 hz2 (by rfl) (by omega) u4 K vs rfl HOA.out (wo.heap.size + 1) (some ⟨wo.heap.size, 0, none⟩) 1 1 [.slice A1 (m - 4) (c - 4)] rfl HRd.out (by simp [Value.oneCell']) (by simp only [maxLen]; omega) (by omega) HKA.out.size ?_; intro v6 w6 hown6 hg6 hat6; have H6 := hid (And.intro hown6 hg6); clear hown6 hg6 hat6)
      have hb6 := below_own HKA.out HOA.out H6.out.2
      have hbB : Below B wo w6 := ((Below.refl B wo).alloc (Nat.le_trans HB.out hK.out.size) (.cells #[.slice A1 (m - 4) (c - 4)] T25)).trans ((own_grown HOA.out H6.out.2).below (by simp; exact Nat.le_trans HB.out (Nat.le_trans hK.out.size (Nat.le_succ _))) (fun x hx => Nat.le_trans HB.out (HOA.out.lt x (by simpa using hx)).1))
      have HA6 := hid (show All2 (RowB w6 B) (vs ++ [.slice A1 (m - 4) (c - 4)]) (done ++ [p]) from (All2b hA.out hbB).snoc ⟨A1, c - 4, by rw [show p.length = m - 4 by have := HM.out; omega], by have := HRL.out; have := HM.out; omega, by rw [show p.length = m - 4 by have := HM.out; omega]; exact HB1.out.below hbB⟩)
      have HB6 := hid hb6
      have HBY := hid (HB2.out.below hbB)
      have HO6 := hid H6.out.1
      have HLS2 := hid (show ls = (done ++ [p]) ++ rest' by rw [hLS.out, HRT.out]; simp)
      have HKD := hid (show K + 1 = (done ++ [p]).length by rw [hKd.out]; simp)
      clear hb6 hbB
      go_roundg rest'.length
      case measure => have h1 := hG.out; rw [HRT.out] at h1; simp at h1; omega
      case rel => exact ⟨done ++ [p], rest', A2, n - m, c - m, K + 1, _, by go_num, hid rfl, HLS2, HNC2, HBY, HB6, HKD, HO6, HA6⟩
end Go.Proofs.YtkjfndkcagkhaaaDoor.side
