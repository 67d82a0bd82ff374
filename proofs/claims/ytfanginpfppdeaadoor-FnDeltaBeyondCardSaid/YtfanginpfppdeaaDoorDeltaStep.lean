/- What the format's words for a copy compute. -/
import Derived.Test.YtfanginpfppdeaaDoorDeltaSize7
set_option linter.unusedVariables false
namespace Go.Proofs.YtfanginpfppdeaaDoor.delta
open Go.RowKit Lib patch mem

/-- the byte that stands at a place of a copy's seven -/
def byteOf (f s k : Nat) : Nat := if k < 4 then f / 2 ^ (8 * k) % 256 else s / 2 ^ (8 * (k - 4)) % 256
/-- whether it is written -/
def kept (f s : Nat) (wd : Nat → Bool) (k : Nat) : Bool := !(byteOf f s k == 0) || wd k
def stepCode (f s : Nat) (wd : Nat → Bool) : Nat → Nat → Nat → Nat
  | 0, _, c => c
  | n + 1, k, c => stepCode f s wd n (k + 1) (if kept f s wd k then c + 2 ^ k else c)
def stepRest (f s : Nat) (wd : Nat → Bool) : Nat → Nat → List UInt8
  | 0, _ => []
  | n + 1, k => (if kept f s wd k then [UInt8.ofNat (byteOf f s k)] else []) ++ stepRest f s wd n (k + 1)
/-- an instruction to copy -/
def stepBytes (f s : Nat) (wd : Nat → Bool) : List UInt8 :=
  UInt8.ofNat (stepCode f (if s = 65536 then 0 else s) wd 7 0 128) :: stepRest f (if s = 65536 then 0 else s) wd 7 0
theorem byteOf_lt (f s k : Nat) : byteOf f s k < 256 := by unfold byteOf; split <;> exact Nat.mod_lt _ (by omega)
structure AtS (w : World) (f s : Nat) (wdv : Int) (wd : Nat → Bool) (wr : World) (cv rv iv : Value) (k c : Nat) (pre : List UInt8) : Prop where
  idx : iv = .int .i64 k
  most : k ≤ 7
  code : cv = .int .u8 (128 + c : Nat)
  lt : c < 2 ^ k
  few : pre.length ≤ k
  below : Below w.heap.size w wr
  size : w.heap.size + 1 ≤ wr.heap.size
  cell1 : wr.cell? ⟨w.heap.size, 1, none⟩ = some (.int .i64 f)
  cell4 : wr.cell? ⟨w.heap.size, 4, none⟩ = some (.int .i64 wdv)
  own : wr.ownsRow (w.heap.size + 1) 5 1 rv pre.length (byteCells pre)
  eqc : stepCode f s wd 7 0 128 = stepCode f s wd (7 - k) k (128 + c)
  eqr : stepRest f s wd 7 0 = pre ++ stepRest f s wd (7 - k) k
theorem new_at {w : World} {o o2 : Obj} : ((w.alloc o).alloc o2).heap[w.heap.size + 1]? = some o2 := by
  have := heap_alloc_new (w.alloc o) o2
  rwa [alloc_size] at this
theorem own_lit {w : World} {B b : Nat} {x : Int} (hx : x = b) (hb : b < 256) (hB : B ≤ w.heap.size) : (w.alloc (.cells #[.int .u8 x] 5)).ownsRow B 5 1 (.slice (some ⟨w.heap.size, 0, none⟩) 1 1) 1 (byteCells [UInt8.ofNat b]) := by
  have e : (byteCells [UInt8.ofNat b]) = [.int .u8 x] := by
    subst hx
    simp [Lib.byteCells, UInt8.toNat_ofNat', Nat.mod_eq_of_lt hb]
  rw [e]
  exact ⟨rfl, .inr ⟨w.heap.size, 1, #[.int .u8 x], rfl, hB, heap_alloc_new w _, Nat.le_refl _, by decide, rfl, rfl⟩⟩
theorem code_or : ∀ k : Nat, k < 7 → ∀ c : Nat, c < 2 ^ k → bits .or .u8 (128 + (c : Int)) ((2 : Int) ^ k % 256) = ((128 + (c + 2 ^ k) : Nat) : Int) := by decide +kernel
theorem AtS.drop {w wr : World} {f s k c : Nat} {wdv : Int} {wd : Nat → Bool} {cv rv iv : Value} {pre : List UInt8} (h : AtS w f s wdv wd wr cv rv iv k c pre) (hk : k < 7) (hn : kept f s wd k = false) {iv' : Value} (hi : iv' = .int .i64 (k + 1 : Nat)) :
    AtS w f s wdv wd wr cv rv iv' (k + 1) c pre := by
  refine ⟨hi, by omega, h.code, Nat.lt_of_lt_of_le h.lt (Nat.pow_le_pow_right (by omega) (by omega)), by have := h.few; omega, h.below, h.size, h.cell1, h.cell4, h.own, ?_, ?_⟩
  · rw [h.eqc, show 7 - k = (7 - (k + 1)) + 1 by omega, stepCode, if_neg (by simp [hn])]
  · rw [h.eqr, show 7 - k = (7 - (k + 1)) + 1 by omega, stepRest, if_neg (by simp [hn])]; simp
theorem AtS.keep {w wr wr1 : World} {f s k c b : Nat} {wdv : Int} {wd : Nat → Bool} {cv rv iv v1 : Value} {pre : List UInt8} (h : AtS w f s wdv wd wr cv rv iv k c pre) (hk : k < 7) (hn : kept f s wd k = true) (hb : byteOf f s k = b) {iv' cv' : Value} (hi : iv' = .int .i64 (k + 1 : Nat))
    (hc : cv' = .int .u8 (128 + (c + 2 ^ k) : Nat)) {o : Obj}
    (hown : wr1.ownsRow (w.heap.size + 1) 5 1 v1 (pre.length + 1) (byteCells pre ++ byteCells [UInt8.ofNat b])) (hg : (wr.alloc o).grownBy wr1 rv.ownBlock) :
    AtS w f s wdv wd wr1 cv' v1 iv' (k + 1) (c + 2 ^ k) (pre ++ [UInt8.ofNat b]) := by
  have hba := h.below.alloc h.below.size o
  have hsz := alloc_size wr o
  have hlt : ∀ g, rv.ownBlock = some g → w.heap.size + 1 ≤ g := fun g hg => (h.own.lt g hg).1
  have hs := h.size
  have hc1 : ∀ j, wr1.cell? ⟨w.heap.size, j, none⟩ = wr.cell? ⟨w.heap.size, j, none⟩ := fun j => by
    rw [World.cell?_of_block (w := wr.alloc o) (w' := wr1) (a := ⟨w.heap.size, j, none⟩) (hg.block w.heap.size (by omega) (fun e => by have := hlt _ e.symm; omega))]
    exact World.cell?_alloc_lt wr o _ (by show w.heap.size < _; omega)
  refine ⟨hi, by omega, hc, ?_, by have := h.few; simp; omega, hba.grown hg (by omega) fun g hg => by have := hlt g hg; omega, ?_, by rw [hc1]; exact h.cell1, by rw [hc1]; exact h.cell4, ?_, ?_, ?_⟩
  · have := h.lt; rw [Nat.pow_succ]; omega
  · have := hg.size; omega
  · rw [byteCells_append, List.length_append]; exact hown
  · rw [h.eqc, show 7 - k = (7 - (k + 1)) + 1 by omega, stepCode, if_pos hn, Nat.add_assoc]
  · rw [h.eqr, show 7 - k = (7 - (k + 1)) + 1 by omega, stepRest, if_pos hn, hb]; simp
set_option maxRecDepth 100000 in
set_option maxHeartbeats 4000000 in
theorem step_calls (f s : Nat) (wdv : Int) (wd : Nat → Bool) (A : Option Addr) (n c : Nat) (w : World) (hf : f < 4294967296) (hs : s < 16777216)
    (hwd : ∀ k, k < 7 → (bits .and .i64 (wdv / 2 ^ k) 1 == 1) = wd k) :
    Calls Tryd.prog 12 #[.agg #[.bool true, .int .i64 f, .int .i64 s, .slice A n c, .int .i64 wdv]] w (Made w (stepBytes f s wd)) := by
  obtain ⟨i0, hi, hz0, hz1, hz2⟩ := info_parts infoByte
  go_enter Tryd.func12, Tryd.ntmps12
  by_cases h16 : s = 65536
  · have e1 : ((s : Int) == 65536) = true := by subst h16; rfl
    have HS : Hid (stepBytes f s wd = UInt8.ofNat (stepCode f 0 wd 7 0 128) :: stepRest f 0 wd 7 0) := hid (by unfold stepBytes; rw [if_pos h16])
    clear h16
    go_wp2_with fail
    go_loopw [4, 5, 24] (fun cv rv iv wr => ∃ k c pre, AtS w f 0 wdv wd wr cv rv iv k c pre) (fun _ _ iv _ => 7 - (RowKit.intOf iv).toNat)
    case atStart =>
      refine ⟨0, 0, [], ⟨rfl, by omega, rfl, by simp, Nat.le_refl _, ((Below.refl w.heap.size w).alloc (Nat.le_refl _) _).alloc (by rw [alloc_size]; omega) _, by rw [alloc_size, alloc_size]; omega, ?_, ?_, ?_, rfl, rfl⟩⟩
      · rw [World.cell?_alloc_lt _ _ _ (by rw [alloc_size]; show w.heap.size < _; omega), Lib.cell_of_heap (heap_alloc_new w _)]; rfl
      · rw [World.cell?_alloc_lt _ _ _ (by rw [alloc_size]; show w.heap.size < _; omega), Lib.cell_of_heap (heap_alloc_new w _)]; rfl
      · refine own_new (g := w.heap.size + 1) ?_ (Nat.le_refl _)
        exact new_at
    case round =>
      obtain ⟨k, cd, pre, hAt⟩ := hrel
      obtain rfl := hAt.idx
      obtain rfl := hAt.code
      have hk := hAt.most
      obtain ⟨Ao, co, rfl⟩ := own_shape hAt.own
      have hc1 := hAt.cell1
      have hc4 := hAt.cell4
      have hpl : pre.length ≤ 7 := Nat.le_trans hAt.few hAt.most
      have HAt := hid hAt
      clear hAt
      by_cases h7 : k < 7
      · have HO := hid (code_or k h7 cd HAt.out.lt)
        have hw0 := hwd k h7
        clear hwd
        by_cases h4 : k < 4
        · have hbx : byteOf f 0 k = f / 2 ^ (8 * k) % 256 := by unfold byteOf; rw [if_pos h4]
          by_cases hz : f / 2 ^ (8 * k) % 256 = 0
          · have hzi : (f : Int) / 2 ^ (8 * k) % 256 = 0 := by have := congrArg (Nat.cast : Nat → Int) hz; simpa using this
            rw [hz] at hbx
            clear hz
            cases hw : wd (k) with
            | false =>
              rw [hw] at hw0
              have hK : kept f 0 wd (k) = false := by unfold kept; rw [hbx, hw]; rfl
              clear hbx
              go_wp2_with fail
              go_roundw
              case rel => exact ⟨_, _, _, HAt.out.drop h7 hK (by go_num)⟩
              case measure => simp [RowKit.intOf]; omega
            | true =>
              rw [hw] at hw0
              have hK : kept f 0 wd (k) = true := by unfold kept; rw [hbx, hw]; rfl
              have hnew := new_byte (w := wr) (x := 0) (b := 0) (by simp) (by omega)
              have hown0 := own_alloc HAt.out.own (.cells #[.int .u8 0] 5)
              have hszA := HAt.out.size
              go_wp2_with (at_builtin; refine wpList_append_any _ rfl (.tmp 55) (.tmp 57) _ rfl (w.heap.size + 1) 5 i0 _ 1 1 Tryd.underlying22 hi hz0 hz1 hz2 rfl (by omega) (.slice Ao pre.length co) pre.length (byteCells pre) rfl hown0 (wr.heap.size + 1) (some ⟨wr.heap.size, 0, none⟩) 1 1 (byteCells [UInt8.ofNat (0)]) rfl hnew.1 (cells_one _) (by simp only [maxLen]; omega) (by omega) (by rw [alloc_size]; omega) ?_; intro v1 wr1 hown1 hg1 hat1)
              go_roundw
              case rel => exact ⟨_, _, _, HAt.out.keep h7 hK hbx (by go_num) (by rw [HO.out]) hown1 hg1⟩
              case measure => simp [RowKit.intOf]; omega
          · obtain ⟨b, hb⟩ : ∃ b, b = f / 2 ^ (8 * k) % 256 := ⟨_, rfl⟩
            have hbi : ((f : Nat) : Int) / 2 ^ (8 * k) % 256 = (b : Int) := by rw [hb]; simp
            have hb256 : b < 256 := by rw [hb]; exact Nat.mod_lt _ (by omega)
            rw [← hb] at hz hbx
            have hnz : ¬ ((f : Nat) : Int) / 2 ^ (8 * k) % 256 = 0 := by rw [hbi]; omega
            have hK : kept f 0 wd (k) = true := by unfold kept; rw [hbx]; simp [hz]
            have HB := hid hb
            clear hb
            have hnew := new_byte (w := wr) (x := ((f : Nat) : Int) / 2 ^ (8 * k) % 256) (b := b) hbi hb256
            have HBI := hid hbi
            clear hbi
            have hown0 := own_alloc HAt.out.own (.cells #[.int .u8 (((f : Nat) : Int) / 2 ^ (8 * k) % 256)] 5)
            have hszA := HAt.out.size
            go_wp2_with (at_builtin; refine wpList_append_any _ rfl (.tmp 55) (.tmp 57) _ rfl (w.heap.size + 1) 5 i0 _ 1 1 Tryd.underlying22 hi hz0 hz1 hz2 rfl (by omega) (.slice Ao pre.length co) pre.length (byteCells pre) rfl hown0 (wr.heap.size + 1) (some ⟨wr.heap.size, 0, none⟩) 1 1 (byteCells [UInt8.ofNat b]) rfl hnew.1 (cells_one _) (by simp only [maxLen]; omega) (by omega) (by rw [alloc_size]; omega) ?_; intro v1 wr1 hown1 hg1 hat1)
            go_roundw
            case rel => exact ⟨_, _, _, HAt.out.keep h7 hK hbx (by go_num) (by rw [HO.out]) hown1 hg1⟩
            case measure => simp [RowKit.intOf]; omega
        · obtain ⟨q, hq⟩ : ∃ q : Nat, k = q + 4 := ⟨k - 4, by omega⟩
          subst hq
          have hbx : byteOf f 0 (q + 4) = 0 / 2 ^ (8 * q) % 256 := by unfold byteOf; rw [if_neg h4, Nat.add_sub_cancel]
          rw [Nat.zero_div, Nat.zero_mod] at hbx
          cases hw : wd (q + 4) with
          | false =>
            rw [hw] at hw0
            have hK : kept f 0 wd (q + 4) = false := by unfold kept; rw [hbx, hw]; rfl
            clear hbx
            go_wp2_with fail
            go_roundw
            case rel => exact ⟨_, _, _, HAt.out.drop h7 hK (by go_num)⟩
            case measure => simp [RowKit.intOf]; omega
          | true =>
            rw [hw] at hw0
            have hK : kept f 0 wd (q + 4) = true := by unfold kept; rw [hbx, hw]; rfl
            have hnew := new_byte (w := wr) (x := 0) (b := 0) (by simp) (by omega)
            have hown0 := own_alloc HAt.out.own (.cells #[.int .u8 0] 5)
            have hszA := HAt.out.size
            go_wp2_with (at_builtin; refine wpList_append_any _ rfl (.tmp 55) (.tmp 57) _ rfl (w.heap.size + 1) 5 i0 _ 1 1 Tryd.underlying22 hi hz0 hz1 hz2 rfl (by omega) (.slice Ao pre.length co) pre.length (byteCells pre) rfl hown0 (wr.heap.size + 1) (some ⟨wr.heap.size, 0, none⟩) 1 1 (byteCells [UInt8.ofNat (0)]) rfl hnew.1 (cells_one _) (by simp only [maxLen]; omega) (by omega) (by rw [alloc_size]; omega) ?_; intro v1 wr1 hown1 hg1 hat1)
            go_roundw
            case rel => exact ⟨_, _, _, HAt.out.keep h7 hK hbx (by go_num) (by rw [HO.out]) hown1 hg1⟩
            case measure => simp [RowKit.intOf]; omega
      · have hk7 : k = 7 := by omega
        subst hk7
        have hcd : cd < 128 := HAt.out.lt
        have hR : Hid (stepRest f 0 wd 7 0 = pre) := hid (by rw [HAt.out.eqr]; simp [stepRest])
        have hC : Hid (stepCode f 0 wd 7 0 128 = 128 + cd) := hid (by rw [HAt.out.eqc]; rfl)
        have hB := own_alloc HAt.out.own (.cells #[.int .u8 (128 + (cd : Int))] 5)
        obtain ⟨A', c', hv, hcc, hBB⟩ := own_bytes hB
        injection hv with hv1 hv2 hv3
        subst hv1 hv3
        have hszA := HAt.out.size
        have hownC := own_lit (w := wr) (B := w.heap.size) (x := 128 + (cd : Int)) (b := 128 + cd) (by simp) (by omega) (by omega)
        have hba := HAt.out.below.alloc HAt.out.below.size (.cells #[.int .u8 (128 + (cd : Int))] 5)
        go_wp2_with (at_builtin; refine wpList_append_any _ rfl (.tmp 61) (.tmp 62) _ rfl w.heap.size 5 i0 _ 1 1 Tryd.underlying22 hi hz0 hz1 hz2 rfl (by omega) (.slice (some ⟨wr.heap.size, 0, none⟩) 1 1) 1 (byteCells [UInt8.ofNat (128 + cd)]) rfl hownC _ Ao pre.length co (byteCells pre) rfl hBB.1 (cells_one _) (by simp only [maxLen]; omega) (by omega) hba.size ?_; intro v1 wr1 hown1 hg1 hat1)
        go_ret
        refine ⟨hba.grown hg1 hba.size fun g hg => (hownC.lt g hg).1, v1, rfl, ?_⟩
        rw [HS.out, hR.out, hC.out, List.length_cons, Nat.add_comm]
        have := byteCells_append [UInt8.ofNat (128 + cd)] pre
        rw [List.singleton_append] at this
        rw [this]
        exact hown1
  · have e1 : ((s : Int) == 65536) = false := by simp; omega
    have HS : Hid (stepBytes f s wd = UInt8.ofNat (stepCode f s wd 7 0 128) :: stepRest f s wd 7 0) := hid (by unfold stepBytes; rw [if_neg h16])
    go_wp2_with fail
    go_loopw [4, 5, 24] (fun cv rv iv wr => ∃ k c pre, AtS w f s wdv wd wr cv rv iv k c pre) (fun _ _ iv _ => 7 - (RowKit.intOf iv).toNat)
    case atStart =>
      refine ⟨0, 0, [], ⟨rfl, by omega, rfl, by simp, Nat.le_refl _, ((Below.refl w.heap.size w).alloc (Nat.le_refl _) _).alloc (by rw [alloc_size]; omega) _, by rw [alloc_size, alloc_size]; omega, ?_, ?_, ?_, rfl, rfl⟩⟩
      · rw [World.cell?_alloc_lt _ _ _ (by rw [alloc_size]; show w.heap.size < _; omega), Lib.cell_of_heap (heap_alloc_new w _)]; rfl
      · rw [World.cell?_alloc_lt _ _ _ (by rw [alloc_size]; show w.heap.size < _; omega), Lib.cell_of_heap (heap_alloc_new w _)]; rfl
      · refine own_new (g := w.heap.size + 1) ?_ (Nat.le_refl _)
        exact new_at
    case round =>
      obtain ⟨k, cd, pre, hAt⟩ := hrel
      obtain rfl := hAt.idx
      obtain rfl := hAt.code
      have hk := hAt.most
      obtain ⟨Ao, co, rfl⟩ := own_shape hAt.own
      have hc1 := hAt.cell1
      have hc4 := hAt.cell4
      have hpl : pre.length ≤ 7 := Nat.le_trans hAt.few hAt.most
      have HAt := hid hAt
      clear hAt
      by_cases h7 : k < 7
      · have HO := hid (code_or k h7 cd HAt.out.lt)
        have hw0 := hwd k h7
        clear hwd
        by_cases h4 : k < 4
        · have hbx : byteOf f s k = f / 2 ^ (8 * k) % 256 := by unfold byteOf; rw [if_pos h4]
          by_cases hz : f / 2 ^ (8 * k) % 256 = 0
          · have hzi : (f : Int) / 2 ^ (8 * k) % 256 = 0 := by have := congrArg (Nat.cast : Nat → Int) hz; simpa using this
            rw [hz] at hbx
            clear hz
            cases hw : wd (k) with
            | false =>
              rw [hw] at hw0
              have hK : kept f s wd (k) = false := by unfold kept; rw [hbx, hw]; rfl
              clear hbx
              go_wp2_with fail
              go_roundw
              case rel => exact ⟨_, _, _, HAt.out.drop h7 hK (by go_num)⟩
              case measure => simp [RowKit.intOf]; omega
            | true =>
              rw [hw] at hw0
              have hK : kept f s wd (k) = true := by unfold kept; rw [hbx, hw]; rfl
              have hnew := new_byte (w := wr) (x := 0) (b := 0) (by simp) (by omega)
              have hown0 := own_alloc HAt.out.own (.cells #[.int .u8 0] 5)
              have hszA := HAt.out.size
              go_wp2_with (at_builtin; refine wpList_append_any _ rfl (.tmp 55) (.tmp 57) _ rfl (w.heap.size + 1) 5 i0 _ 1 1 Tryd.underlying22 hi hz0 hz1 hz2 rfl (by omega) (.slice Ao pre.length co) pre.length (byteCells pre) rfl hown0 (wr.heap.size + 1) (some ⟨wr.heap.size, 0, none⟩) 1 1 (byteCells [UInt8.ofNat (0)]) rfl hnew.1 (cells_one _) (by simp only [maxLen]; omega) (by omega) (by rw [alloc_size]; omega) ?_; intro v1 wr1 hown1 hg1 hat1)
              go_roundw
              case rel => exact ⟨_, _, _, HAt.out.keep h7 hK hbx (by go_num) (by rw [HO.out]) hown1 hg1⟩
              case measure => simp [RowKit.intOf]; omega
          · obtain ⟨b, hb⟩ : ∃ b, b = f / 2 ^ (8 * k) % 256 := ⟨_, rfl⟩
            have hbi : ((f : Nat) : Int) / 2 ^ (8 * k) % 256 = (b : Int) := by rw [hb]; simp
            have hb256 : b < 256 := by rw [hb]; exact Nat.mod_lt _ (by omega)
            rw [← hb] at hz hbx
            have hnz : ¬ ((f : Nat) : Int) / 2 ^ (8 * k) % 256 = 0 := by rw [hbi]; omega
            have hK : kept f s wd (k) = true := by unfold kept; rw [hbx]; simp [hz]
            have HB := hid hb
            clear hb
            have hnew := new_byte (w := wr) (x := ((f : Nat) : Int) / 2 ^ (8 * k) % 256) (b := b) hbi hb256
            have HBI := hid hbi
            clear hbi
            have hown0 := own_alloc HAt.out.own (.cells #[.int .u8 (((f : Nat) : Int) / 2 ^ (8 * k) % 256)] 5)
            have hszA := HAt.out.size
            go_wp2_with (at_builtin; refine wpList_append_any _ rfl (.tmp 55) (.tmp 57) _ rfl (w.heap.size + 1) 5 i0 _ 1 1 Tryd.underlying22 hi hz0 hz1 hz2 rfl (by omega) (.slice Ao pre.length co) pre.length (byteCells pre) rfl hown0 (wr.heap.size + 1) (some ⟨wr.heap.size, 0, none⟩) 1 1 (byteCells [UInt8.ofNat b]) rfl hnew.1 (cells_one _) (by simp only [maxLen]; omega) (by omega) (by rw [alloc_size]; omega) ?_; intro v1 wr1 hown1 hg1 hat1)
            go_roundw
            case rel => exact ⟨_, _, _, HAt.out.keep h7 hK hbx (by go_num) (by rw [HO.out]) hown1 hg1⟩
            case measure => simp [RowKit.intOf]; omega
        · obtain ⟨q, hq⟩ : ∃ q : Nat, k = q + 4 := ⟨k - 4, by omega⟩
          subst hq
          have hbx : byteOf f s (q + 4) = s / 2 ^ (8 * q) % 256 := by unfold byteOf; rw [if_neg h4, Nat.add_sub_cancel]
          by_cases hz : s / 2 ^ (8 * q) % 256 = 0
          · have hzi : (s : Int) / 2 ^ (8 * q) % 256 = 0 := by have := congrArg (Nat.cast : Nat → Int) hz; simpa using this
            rw [hz] at hbx
            clear hz
            cases hw : wd (q + 4) with
            | false =>
              rw [hw] at hw0
              have hK : kept f s wd (q + 4) = false := by unfold kept; rw [hbx, hw]; rfl
              clear hbx
              go_wp2_with fail
              go_roundw
              case rel => exact ⟨_, _, _, HAt.out.drop h7 hK (by go_num)⟩
              case measure => simp [RowKit.intOf]; omega
            | true =>
              rw [hw] at hw0
              have hK : kept f s wd (q + 4) = true := by unfold kept; rw [hbx, hw]; rfl
              have hnew := new_byte (w := wr) (x := 0) (b := 0) (by simp) (by omega)
              have hown0 := own_alloc HAt.out.own (.cells #[.int .u8 0] 5)
              have hszA := HAt.out.size
              go_wp2_with (at_builtin; refine wpList_append_any _ rfl (.tmp 55) (.tmp 57) _ rfl (w.heap.size + 1) 5 i0 _ 1 1 Tryd.underlying22 hi hz0 hz1 hz2 rfl (by omega) (.slice Ao pre.length co) pre.length (byteCells pre) rfl hown0 (wr.heap.size + 1) (some ⟨wr.heap.size, 0, none⟩) 1 1 (byteCells [UInt8.ofNat (0)]) rfl hnew.1 (cells_one _) (by simp only [maxLen]; omega) (by omega) (by rw [alloc_size]; omega) ?_; intro v1 wr1 hown1 hg1 hat1)
              go_roundw
              case rel => exact ⟨_, _, _, HAt.out.keep h7 hK hbx (by go_num) (by rw [HO.out]) hown1 hg1⟩
              case measure => simp [RowKit.intOf]; omega
          · obtain ⟨b, hb⟩ : ∃ b, b = s / 2 ^ (8 * q) % 256 := ⟨_, rfl⟩
            have hbi : ((s : Nat) : Int) / 2 ^ (8 * q) % 256 = (b : Int) := by rw [hb]; simp
            have hb256 : b < 256 := by rw [hb]; exact Nat.mod_lt _ (by omega)
            rw [← hb] at hz hbx
            have hnz : ¬ ((s : Nat) : Int) / 2 ^ (8 * q) % 256 = 0 := by rw [hbi]; omega
            have hK : kept f s wd (q + 4) = true := by unfold kept; rw [hbx]; simp [hz]
            have HB := hid hb
            clear hb
            have hnew := new_byte (w := wr) (x := ((s : Nat) : Int) / 2 ^ (8 * q) % 256) (b := b) hbi hb256
            have HBI := hid hbi
            clear hbi
            have hown0 := own_alloc HAt.out.own (.cells #[.int .u8 (((s : Nat) : Int) / 2 ^ (8 * q) % 256)] 5)
            have hszA := HAt.out.size
            go_wp2_with (at_builtin; refine wpList_append_any _ rfl (.tmp 55) (.tmp 57) _ rfl (w.heap.size + 1) 5 i0 _ 1 1 Tryd.underlying22 hi hz0 hz1 hz2 rfl (by omega) (.slice Ao pre.length co) pre.length (byteCells pre) rfl hown0 (wr.heap.size + 1) (some ⟨wr.heap.size, 0, none⟩) 1 1 (byteCells [UInt8.ofNat b]) rfl hnew.1 (cells_one _) (by simp only [maxLen]; omega) (by omega) (by rw [alloc_size]; omega) ?_; intro v1 wr1 hown1 hg1 hat1)
            go_roundw
            case rel => exact ⟨_, _, _, HAt.out.keep h7 hK hbx (by go_num) (by rw [HO.out]) hown1 hg1⟩
            case measure => simp [RowKit.intOf]; omega
      · have hk7 : k = 7 := by omega
        subst hk7
        have hcd : cd < 128 := HAt.out.lt
        have hR : Hid (stepRest f s wd 7 0 = pre) := hid (by rw [HAt.out.eqr]; simp [stepRest])
        have hC : Hid (stepCode f s wd 7 0 128 = 128 + cd) := hid (by rw [HAt.out.eqc]; rfl)
        have hB := own_alloc HAt.out.own (.cells #[.int .u8 (128 + (cd : Int))] 5)
        obtain ⟨A', c', hv, hcc, hBB⟩ := own_bytes hB
        injection hv with hv1 hv2 hv3
        subst hv1 hv3
        have hszA := HAt.out.size
        have hownC := own_lit (w := wr) (B := w.heap.size) (x := 128 + (cd : Int)) (b := 128 + cd) (by simp) (by omega) (by omega)
        have hba := HAt.out.below.alloc HAt.out.below.size (.cells #[.int .u8 (128 + (cd : Int))] 5)
        go_wp2_with (at_builtin; refine wpList_append_any _ rfl (.tmp 61) (.tmp 62) _ rfl w.heap.size 5 i0 _ 1 1 Tryd.underlying22 hi hz0 hz1 hz2 rfl (by omega) (.slice (some ⟨wr.heap.size, 0, none⟩) 1 1) 1 (byteCells [UInt8.ofNat (128 + cd)]) rfl hownC _ Ao pre.length co (byteCells pre) rfl hBB.1 (cells_one _) (by simp only [maxLen]; omega) (by omega) hba.size ?_; intro v1 wr1 hown1 hg1 hat1)
        go_ret
        refine ⟨hba.grown hg1 hba.size fun g hg => (hownC.lt g hg).1, v1, rfl, ?_⟩
        rw [HS.out, hR.out, hC.out, List.length_cons, Nat.add_comm]
        have := byteCells_append [UInt8.ofNat (128 + cd)] pre
        rw [List.singleton_append] at this
        rw [this]
        exact hown1
end Go.Proofs.YtfanginpfppdeaaDoor.delta
