-- PRINTED BY print.sh 35421559b90ae4d0a3588c463048766b98c2df88dd9212a6774a882060cdf62d: not written by this session
import Derived.Test.YtplhhgcejajmoaaPFnModeBytesx0
namespace Go.Proofs.Ytplhhgcejajmoaa.PFnModeBytes
open Go.RowKit Go.Proofs.YtplhhgcejajmoaaW.PrintWords Go.Proofs.YtplhhgcejajmoaaW.PrintLast Go.Proofs.YtplhhgcejajmoaaW.PrintMore
attribute [local go_sem] max2_int min2_int max_two min_two max_three min_three max_four min_four   -- for this text's walks alone
set_option linter.unusedVariables false
set_option linter.unusedSimpArgs false

/-! ### laws_obBytes: function 6 -/
def laws_obBytes.f (l0 : List Int) (l1 : List Int) : Option (Bool) := some ((strOfNums l0).toList == (strOfNums l1).toList)
set_option maxHeartbeats 8000000 in
set_option maxRecDepth 100000 in
theorem laws_obBytes.calls (A0 : Option Addr) (c0 : Nat) (l0 : List Int) (A1 : Option Addr) (c1 : Nat) (l1 : List Int) (r : Bool) (w : World) (hr0 : Kd.C (Kd.int .u8) w A0 l0.length l0) (hc0 : l0.length ≤ c0) (hr1 : Kd.C (Kd.int .u8) w A1 l1.length l1) (hc1 : l1.length ≤ c1) (h : laws_obBytes.f l0 l1 = some r) :
    Calls Try.prog 6 #[.slice A0 l0.length c0, .slice A1 l1.length c1] w fun e w' => e = .returned (.bool r) ∧ Drawn0 w w' := by
  have HR0 := Aside0.mk hr0
  have HC0 := Aside0.mk hc0
  clear hr0 hc0
  have HR1 := Aside0.mk hr1
  have HC1 := Aside0.mk hc1
  clear hr1 hc1
  have H : (some ((strOfNums l0).toList == (strOfNums l1).toList)) = some r := h
  clear h
  obtain rfl := Option.some.inj H
  have hcv3 := Kd.C_string (P := Try.prog) (A := A0) (c := c0) Try.underlying24 Try.underlying5 Try.underlying9 HR0.out
  have hcv4 := Kd.C_string (P := Try.prog) (A := A1) (c := c1) Try.underlying24 Try.underlying5 Try.underlying9 HR1.out
  go_enter Try.func6, Try.ntmps6
  go_wp2
  go_ret
  exact ⟨by first | rfl | (simp; done) | (simp [*]; done), by repeat (first | exact Drawn0.refl _ | apply Drawn0.step)⟩

/-! ### filemode_FileMode_Bytes: function 12 -/
def filemode_FileMode_Bytes.f (a0 : Int) : Option (List Int) := if 4 ≤ 281474976710656 then ((some (List.replicate 4 0 : List Int)).bind fun y101 => (if 0 < (y101.length : Int) then (if 1 < (y101.length : Int) then (if 2 < (y101.length : Int) then (if 3 < (y101.length : Int) then (some ((((y101.set (0 : Int).toNat ((a0) % 256)).set (1 : Int).toNat ((a0 / 256) % 256)).set (2 : Int).toNat ((a0 / 65536) % 256)).set (3 : Int).toNat ((a0 / 16777216) % 256))) else (none)) else (none)) else (none)) else (none))) else (none)
set_option maxHeartbeats 8000000 in
set_option maxRecDepth 100000 in
theorem filemode_FileMode_Bytes.calls (a0 : Int) (r : List Int) (w : World) (h : filemode_FileMode_Bytes.f a0 = some r) :
    Calls Try.prog 12 #[.int .u32 a0] w fun e w' => ∃ v0_ : Value, e = .returned (v0_) ∧ Kd.R (Kd.int .u8) 5 w' w.heap.size (fun _ => True) v0_ r ∧ Below w.heap.size w w' := by
  have HB := Aside0.mk (Below.refl w.heap.size w)
  have H : (if 4 ≤ 281474976710656 then ((some (List.replicate 4 0 : List Int)).bind fun y101 => (if 0 < (y101.length : Int) then (if 1 < (y101.length : Int) then (if 2 < (y101.length : Int) then (if 3 < (y101.length : Int) then (some ((((y101.set (0 : Int).toNat ((a0) % 256)).set (1 : Int).toNat ((a0 / 256) % 256)).set (2 : Int).toNat ((a0 / 65536) % 256)).set (3 : Int).toNat ((a0 / 16777216) % 256))) else (none)) else (none)) else (none)) else (none))) else (none)) = some r := h
  clear h
  by_cases c2 : 4 ≤ 281474976710656
  · rw [if_pos c2] at H
    have c2b0 := eq_true c2
    have c2b1 : decide (4 ≤ 281474976710656) = true := decide_eq_true c2
    clear c2
    obtain ⟨y101, hy101⟩ : ∃ y_ : List Int, y_ = (List.replicate 4 0) := ⟨_, rfl⟩
    replace H : (if 0 < (y101.length : Int) then (if 1 < (y101.length : Int) then (if 2 < (y101.length : Int) then (if 3 < (y101.length : Int) then (some ((((y101.set (0 : Int).toNat ((a0) % 256)).set (1 : Int).toNat ((a0 / 256) % 256)).set (2 : Int).toNat ((a0 / 65536) % 256)).set (3 : Int).toNat ((a0 / 16777216) % 256))) else (none)) else (none)) else (none)) else (none)) = some r := by first | (rw [hy101]; with_reducible exact H) | (have H2_ := (Option.bind_some _ _).symm.trans H; rw [hy101]; with_reducible exact H2_) | (have H2_ := (Option.bind_some _ _).symm.trans H; with_reducible exact H2_) | with_reducible exact H | (rw [hy101]; exact H) | exact H
    have Ny101 := Aside0.mk hy101
    clear hy101
    by_cases c3 : 0 < (y101.length : Int)
    · rw [if_pos c3] at H
      have c3b0 : decide (0 < (y101.length : Int)) = true := decide_eq_true c3
      have c3b1 : decide (0 < y101.length) = true := decide_eq_true (by omega)
      clear c3
      obtain ⟨y104, hy104⟩ : ∃ y_ : List Int, y_ = (y101.set (0 : Int).toNat ((a0) % 256)) := ⟨_, rfl⟩
      replace H : (if 1 < (y101.length : Int) then (if 2 < (y101.length : Int) then (if 3 < (y101.length : Int) then (some (((y104.set (1 : Int).toNat ((a0 / 256) % 256)).set (2 : Int).toNat ((a0 / 65536) % 256)).set (3 : Int).toNat ((a0 / 16777216) % 256))) else (none)) else (none)) else (none)) = some r := by first | (rw [hy104]; with_reducible exact H) | (have H2_ := (Option.bind_some _ _).symm.trans H; rw [hy104]; with_reducible exact H2_) | (have H2_ := (Option.bind_some _ _).symm.trans H; with_reducible exact H2_) | with_reducible exact H | (rw [hy104]; exact H) | exact H
      have Ny104 := Aside0.mk hy104
      clear hy104
      by_cases c5 : 1 < (y101.length : Int)
      · rw [if_pos c5] at H
        have c5b0 : decide (1 < (y101.length : Int)) = true := decide_eq_true c5
        have c5b1 : decide (1 < y101.length) = true := decide_eq_true (by omega)
        clear c5
        obtain ⟨y105, hy105⟩ : ∃ y_ : List Int, y_ = (y104.set (1 : Int).toNat ((a0 / 256) % 256)) := ⟨_, rfl⟩
        replace H : (if 2 < (y101.length : Int) then (if 3 < (y101.length : Int) then (some ((y105.set (2 : Int).toNat ((a0 / 65536) % 256)).set (3 : Int).toNat ((a0 / 16777216) % 256))) else (none)) else (none)) = some r := by first | (rw [hy105]; with_reducible exact H) | (have H2_ := (Option.bind_some _ _).symm.trans H; rw [hy105]; with_reducible exact H2_) | (have H2_ := (Option.bind_some _ _).symm.trans H; with_reducible exact H2_) | with_reducible exact H | (rw [hy105]; exact H) | exact H
        have Ny105 := Aside0.mk hy105
        clear hy105
        by_cases c7 : 2 < (y101.length : Int)
        · rw [if_pos c7] at H
          have c7b0 : decide (2 < (y101.length : Int)) = true := decide_eq_true c7
          have c7b1 : decide (2 < y101.length) = true := decide_eq_true (by omega)
          clear c7
          obtain ⟨y106, hy106⟩ : ∃ y_ : List Int, y_ = (y105.set (2 : Int).toNat ((a0 / 65536) % 256)) := ⟨_, rfl⟩
          replace H : (if 3 < (y101.length : Int) then (some (y106.set (3 : Int).toNat ((a0 / 16777216) % 256))) else (none)) = some r := by first | (rw [hy106]; with_reducible exact H) | (have H2_ := (Option.bind_some _ _).symm.trans H; rw [hy106]; with_reducible exact H2_) | (have H2_ := (Option.bind_some _ _).symm.trans H; with_reducible exact H2_) | with_reducible exact H | (rw [hy106]; exact H) | exact H
          have Ny106 := Aside0.mk hy106
          clear hy106
          by_cases c9 : 3 < (y101.length : Int)
          · rw [if_pos c9] at H
            have c9b0 : decide (3 < (y101.length : Int)) = true := decide_eq_true c9
            have c9b1 : decide (3 < y101.length) = true := decide_eq_true (by omega)
            clear c9
            obtain ⟨y107, hy107⟩ : ∃ y_ : List Int, y_ = (y106.set (3 : Int).toNat ((a0 / 16777216) % 256)) := ⟨_, rfl⟩
            replace H : (some y107) = some r := by first | (rw [hy107]; with_reducible exact H) | (have H2_ := (Option.bind_some _ _).symm.trans H; rw [hy107]; with_reducible exact H2_) | (have H2_ := (Option.bind_some _ _).symm.trans H; with_reducible exact H2_) | with_reducible exact H | (rw [hy107]; exact H) | exact H
            have Ny107 := Aside0.mk hy107
            clear hy107
            obtain rfl := Option.some.inj H
            go_enter Try.func12, Try.ntmps12
            go_wp2_with (first | ((with_reducible refine gate_dst (N := 4) rfl ?_); refine Kd.R_make (Kd.int .u8) _ 5 rfl (N := 4) rfl 24 _ _ rfl 4 rfl rfl Try.underlying24 (.int .u8 0) 1 info5 rfl (by decide) (by omega) 0 (ok := fun _ => True) (okp := fun _ => True) rfl (fun _ hk => hk) trivial (by omega) (by omega) (Below.refl _ _) (Nat.le_refl _) ?_; intro v102 w11 ho12 hb hg_ hnew_; clear hg_ hnew_; (first | rw [← Ny101.out] at ho12 | (simp only [Int.reduceToNat] at ho12; rw [← Ny101.out] at ho12)); have n0_ := Aside0.mk (Kd.R_lower ho12 (below_size (by repeat (first | (with_reducible first | exact HB.out | apply below_alloc | apply pw_below_drewN | apply below_drew1) | exact HB.out)))); have n1_ := Aside0.mk (below_step (by repeat (first | (with_reducible first | exact HB.out | apply below_alloc | apply pw_below_drewN | apply below_drew1) | exact HB.out)) hb); clear HB; have HO103 := n0_; have HB := n1_; clear n0_ n1_; clear hb ho12; have p4 : 0 ≤ (0 : Int) := (by omega); have q4 : (0 : Int) < ((y101.length : Int) : Int) := of_decide_eq_true (by first | (with_reducible assumption) | assumption); have qi4 : (0 < y101.length) = True := eq_true (by omega); obtain ⟨go4, co4, eo4, gb4, gl4, cl4, HG4⟩ := Kd.R_form HO103.out (by omega); (first | cases eo4 | (injection eo4 with ea_ en_ ec_; (first | subst ea_ | (injection ea_ with ea_; subst ea_)); subst ec_; clear en_)); have GB4 := Aside0.mk gb4; have GG4 := Aside0.mk HG4; clear gb4 gl4 HG4; obtain ⟨hx4_0, hf4_0⟩ := Kd.R_celln 0 HO103.out (0 : Int) p4 q4; (try rw [show ((0 : Int)).toNat = 0 from rfl] at hx4_0); (try simp only [Nat.reduceMul, Nat.zero_mul, Nat.zero_add, Nat.reduceAdd] at hx4_0); (try rw [show ((0 : Int)).toNat = 0 from rfl] at hf4_0); (try simp only [Nat.reduceMul, Nat.zero_mul, Nat.zero_add, Nat.reduceAdd] at hf4_0); replace p4 := eq_true p4; replace q4 := eq_true q4; obtain ⟨hy13_, hz13_⟩ := Kd.R_celln 0 HO103.out (0 : Int) (by omega) (of_decide_eq_true (by first | (with_reducible assumption) | assumption)); (try simp only [Int.reduceToNat, Int.toNat_zero, Int.toNat_ofNat, Nat.reduceMul, Nat.zero_mul, Nat.zero_add] at hy13_ hz13_); (try rw [show ((0 : Int)).toNat = 0 from rfl] at hy13_); (try rw [show ((0 : Int)).toNat = 0 from rfl] at hz13_); have HP13 := Kd.R_putg HO103.out (0 : Int) ((a0) % 256)) | ((with_reducible refine gate_store (t := 5) (p := 20) rfl ?_); refine store_event (t := 5) (p := 20) (v := ?vo_w14) (w1 := (w11.setCell ⟨go4, (0 : Int).toNat, none⟩ (.int .u8 ((a0) % 256)))) ?hg ?ho ?hn ?hr ?_; (case ho => rfl); (case hg => rfl); (case hn => rfl); (case hr => first | (go_simp; done) | (go_simp; rfl)); intro w14 hw; have hg : w11.grownBy w14 (some go4) := (by rw [hw]; exact HP13.2); have hp_ : Kd.R (Kd.int .u8) 5 w14 w.heap.size (fun _ => True) (.slice (some ⟨go4, 0, none⟩) y101.length co4) y104 := (by rw [hw, Ny104.out]; exact HP13.1); clear HP13; have n0_ := Aside0.mk (hp_); have n1_ := Aside0.mk ((by rw [hw]; exact below_set (HB.out) GB4.out : Below w.heap.size w w14)); clear HO103; clear HB; have HO103 := n0_; have HB := n1_; clear n0_ n1_; clear hg hw hp_; have p6 : 0 ≤ (1 : Int) := (by omega); have q6 : (1 : Int) < ((y101.length : Int) : Int) := of_decide_eq_true (by first | (with_reducible assumption) | assumption); have qi6 : (1 < y101.length) = True := eq_true (by omega); obtain ⟨hx6_0, hf6_0⟩ := Kd.R_celln 0 HO103.out (1 : Int) p6 q6; (try rw [show ((1 : Int)).toNat = 1 from rfl] at hx6_0); (try simp only [Nat.reduceMul, Nat.zero_mul, Nat.zero_add, Nat.reduceAdd] at hx6_0); (try rw [show ((1 : Int)).toNat = 1 from rfl] at hf6_0); (try simp only [Nat.reduceMul, Nat.zero_mul, Nat.zero_add, Nat.reduceAdd] at hf6_0); replace p6 := eq_true p6; replace q6 := eq_true q6; obtain ⟨hy15_, hz15_⟩ := Kd.R_celln 0 HO103.out (1 : Int) (by omega) (of_decide_eq_true (by first | (with_reducible assumption) | assumption)); (try simp only [Int.reduceToNat, Int.toNat_zero, Int.toNat_ofNat, Nat.reduceMul, Nat.zero_mul, Nat.zero_add] at hy15_ hz15_); (try rw [show ((1 : Int)).toNat = 1 from rfl] at hy15_); (try rw [show ((1 : Int)).toNat = 1 from rfl] at hz15_); have HP15 := Kd.R_putg HO103.out (1 : Int) ((a0 / 256) % 256)) | ((with_reducible refine gate_store (t := 5) (p := 21) rfl ?_); refine store_event (t := 5) (p := 21) (v := ?vo_w16) (w1 := (w14.setCell ⟨go4, (1 : Int).toNat, none⟩ (.int .u8 ((a0 / 256) % 256)))) ?hg ?ho ?hn ?hr ?_; (case ho => rfl); (case hg => rfl); (case hn => rfl); (case hr => first | (go_simp; done) | (go_simp; rfl)); intro w16 hw; have hg : w14.grownBy w16 (some go4) := (by rw [hw]; exact HP15.2); have hp_ : Kd.R (Kd.int .u8) 5 w16 w.heap.size (fun _ => True) (.slice (some ⟨go4, 0, none⟩) y101.length co4) y105 := (by rw [hw, Ny105.out]; exact HP15.1); clear HP15; have n0_ := Aside0.mk (hp_); have n1_ := Aside0.mk ((by rw [hw]; exact below_set (HB.out) GB4.out : Below w.heap.size w w16)); clear HO103; clear HB; have HO103 := n0_; have HB := n1_; clear n0_ n1_; clear hg hw hp_; have p8 : 0 ≤ (2 : Int) := (by omega); have q8 : (2 : Int) < ((y101.length : Int) : Int) := of_decide_eq_true (by first | (with_reducible assumption) | assumption); have qi8 : (2 < y101.length) = True := eq_true (by omega); obtain ⟨hx8_0, hf8_0⟩ := Kd.R_celln 0 HO103.out (2 : Int) p8 q8; (try rw [show ((2 : Int)).toNat = 2 from rfl] at hx8_0); (try simp only [Nat.reduceMul, Nat.zero_mul, Nat.zero_add, Nat.reduceAdd] at hx8_0); (try rw [show ((2 : Int)).toNat = 2 from rfl] at hf8_0); (try simp only [Nat.reduceMul, Nat.zero_mul, Nat.zero_add, Nat.reduceAdd] at hf8_0); replace p8 := eq_true p8; replace q8 := eq_true q8; obtain ⟨hy17_, hz17_⟩ := Kd.R_celln 0 HO103.out (2 : Int) (by omega) (of_decide_eq_true (by first | (with_reducible assumption) | assumption)); (try simp only [Int.reduceToNat, Int.toNat_zero, Int.toNat_ofNat, Nat.reduceMul, Nat.zero_mul, Nat.zero_add] at hy17_ hz17_); (try rw [show ((2 : Int)).toNat = 2 from rfl] at hy17_); (try rw [show ((2 : Int)).toNat = 2 from rfl] at hz17_); have HP17 := Kd.R_putg HO103.out (2 : Int) ((a0 / 65536) % 256)) | ((with_reducible refine gate_store (t := 5) (p := 22) rfl ?_); refine store_event (t := 5) (p := 22) (v := ?vo_w18) (w1 := (w16.setCell ⟨go4, (2 : Int).toNat, none⟩ (.int .u8 ((a0 / 65536) % 256)))) ?hg ?ho ?hn ?hr ?_; (case ho => rfl); (case hg => rfl); (case hn => rfl); (case hr => first | (go_simp; done) | (go_simp; rfl)); intro w18 hw; have hg : w16.grownBy w18 (some go4) := (by rw [hw]; exact HP17.2); have hp_ : Kd.R (Kd.int .u8) 5 w18 w.heap.size (fun _ => True) (.slice (some ⟨go4, 0, none⟩) y101.length co4) y106 := (by rw [hw, Ny106.out]; exact HP17.1); clear HP17; have n0_ := Aside0.mk (hp_); have n1_ := Aside0.mk ((by rw [hw]; exact below_set (HB.out) GB4.out : Below w.heap.size w w18)); clear HO103; clear HB; have HO103 := n0_; have HB := n1_; clear n0_ n1_; clear hg hw hp_; have p10 : 0 ≤ (3 : Int) := (by omega); have q10 : (3 : Int) < ((y101.length : Int) : Int) := of_decide_eq_true (by first | (with_reducible assumption) | assumption); have qi10 : (3 < y101.length) = True := eq_true (by omega); obtain ⟨hx10_0, hf10_0⟩ := Kd.R_celln 0 HO103.out (3 : Int) p10 q10; (try rw [show ((3 : Int)).toNat = 3 from rfl] at hx10_0); (try simp only [Nat.reduceMul, Nat.zero_mul, Nat.zero_add, Nat.reduceAdd] at hx10_0); (try rw [show ((3 : Int)).toNat = 3 from rfl] at hf10_0); (try simp only [Nat.reduceMul, Nat.zero_mul, Nat.zero_add, Nat.reduceAdd] at hf10_0); replace p10 := eq_true p10; replace q10 := eq_true q10; obtain ⟨hy19_, hz19_⟩ := Kd.R_celln 0 HO103.out (3 : Int) (by omega) (of_decide_eq_true (by first | (with_reducible assumption) | assumption)); (try simp only [Int.reduceToNat, Int.toNat_zero, Int.toNat_ofNat, Nat.reduceMul, Nat.zero_mul, Nat.zero_add] at hy19_ hz19_); (try rw [show ((3 : Int)).toNat = 3 from rfl] at hy19_); (try rw [show ((3 : Int)).toNat = 3 from rfl] at hz19_); have HP19 := Kd.R_putg HO103.out (3 : Int) ((a0 / 16777216) % 256)) | ((with_reducible refine gate_store (t := 5) (p := 23) rfl ?_); refine store_event (t := 5) (p := 23) (v := ?vo_w20) (w1 := (w18.setCell ⟨go4, (3 : Int).toNat, none⟩ (.int .u8 ((a0 / 16777216) % 256)))) ?hg ?ho ?hn ?hr ?_; (case ho => rfl); (case hg => rfl); (case hn => rfl); (case hr => first | (go_simp; done) | (go_simp; rfl)); intro w20 hw; have hg : w18.grownBy w20 (some go4) := (by rw [hw]; exact HP19.2); have hp_ : Kd.R (Kd.int .u8) 5 w20 w.heap.size (fun _ => True) (.slice (some ⟨go4, 0, none⟩) y101.length co4) y107 := (by rw [hw, Ny107.out]; exact HP19.1); clear HP19; have n0_ := Aside0.mk (hp_); have n1_ := Aside0.mk ((by rw [hw]; exact below_set (HB.out) GB4.out : Below w.heap.size w w20)); clear HO103; clear HB; have HO103 := n0_; have HB := n1_; clear n0_ n1_; clear hg hw hp_))
            go_ret
            exact ⟨_, by first | rfl | (simp [errW_none, errW_some] <;> rfl) | (simp [*, errW_none, errW_some] <;> rfl), by (with_reducible repeat (first | apply Kd.R_alloc | apply Kd.R_drewN | apply Kd.R_drew)); exact HO103.out, by repeat (first | (with_reducible first | exact HB.out | apply below_alloc | apply pw_below_drewN | apply below_drew1) | exact HB.out)⟩
          · rw [if_neg c9] at H
            exact absurd H (by simp)
        · rw [if_neg c7] at H
          exact absurd H (by simp)
      · rw [if_neg c5] at H
        exact absurd H (by simp)
    · rw [if_neg c3] at H
      exact absurd H (by simp)
  · rw [if_neg c2] at H
    exact absurd H (by simp)

/-! ### impl_ModeBytes: function 7 -/
def impl_ModeBytes.f (a0 : Int) : Option (List Int) := (filemode_FileMode_Bytes.f a0).bind fun t108 => (some t108)
set_option maxHeartbeats 8000000 in
set_option maxRecDepth 100000 in
theorem impl_ModeBytes.calls (a0 : Int) (r : List Int) (w : World) (h : impl_ModeBytes.f a0 = some r) :
    Calls Try.prog 7 #[.int .u32 a0] w fun e w' => ∃ v0_ : Value, e = .returned (v0_) ∧ Kd.R (Kd.int .u8) 5 w' w.heap.size (fun _ => True) v0_ r ∧ Below w.heap.size w w' := by
  have HB := Aside0.mk (Below.refl w.heap.size w)
  have H : ((filemode_FileMode_Bytes.f a0).bind fun t108 => (some t108)) = some r := h
  clear h
  replace H := Option.bind_eq_some_iff.mp H
  obtain ⟨t108, A20, H⟩ := H
  replace H : (some t108) = some r := H
  have A2 := Aside0.mk A20
  clear A20
  obtain rfl := Option.some.inj H
  go_enter Try.func7, Try.ntmps7
  go_wp2_with (first | ((with_reducible refine gate_callee (f := 12) rfl ?_); refine goesL_ (some 4) rfl rfl Try.func12 (by kernel_rfl) rfl #[.int .u32 a0] rfl (by (try simp only [List.map_toArray, List.map_cons, List.map_nil]); first | done | rfl | (simp only [List.length_drop, List.length_take]; rfl)) ?_; (with_reducible refine (filemode_FileMode_Bytes.calls a0 t108 _ A2.out).mono ?_); rintro e w3 ⟨v109, rfl, ho0, hb⟩; refine ⟨_, rfl, ?_⟩; have n0_ := Aside0.mk (Kd.R_lower ho0 (below_size (by repeat (first | (with_reducible first | exact HB.out | apply below_alloc | apply pw_below_drewN | apply below_drew1) | exact HB.out)))); have n1_ := Aside0.mk (below_step (by repeat (first | (with_reducible first | exact HB.out | apply below_alloc | apply pw_below_drewN | apply below_drew1) | exact HB.out)) hb); clear HB; have HO110 := n0_; have HB := n1_; clear n0_ n1_; (try clear hb); (try clear hb2); (try clear hk); (try clear hi); (try clear ho0)))
  go_ret
  exact ⟨_, by first | rfl | (simp [errW_none, errW_some] <;> rfl) | (simp [*, errW_none, errW_some] <;> rfl), by (with_reducible repeat (first | apply Kd.R_alloc | apply Kd.R_drewN | apply Kd.R_drew)); exact HO110.out, by repeat (first | (with_reducible first | exact HB.out | apply below_alloc | apply pw_below_drewN | apply below_drew1) | exact HB.out)⟩

/-! ### laws_FnModeBytes: function 3 -/
def laws_FnModeBytes.f (a0 : Int) : Option (Bool) := (impl_ModeBytes.f a0).bind fun t111 => ((laws_obBytes.f t111 (([(a0) % 256, (a0 / 256) % 256, (a0 / 65536) % 256, (a0 / 16777216) % 256] : List Int))).bind fun t117 => (some t117))
set_option maxHeartbeats 8000000 in
set_option maxRecDepth 100000 in
theorem laws_FnModeBytes.calls (a0 : Int) (r : Bool) (w : World) (h : laws_FnModeBytes.f a0 = some r) :
    Calls Try.prog 3 #[.int .u32 a0] w fun e w' => e = .returned (.bool r) ∧ Below w.heap.size w w' := by
  have HB := Aside0.mk (Below.refl w.heap.size w)
  have H : ((impl_ModeBytes.f a0).bind fun t111 => ((laws_obBytes.f t111 (([(a0) % 256, (a0 / 256) % 256, (a0 / 65536) % 256, (a0 / 16777216) % 256] : List Int))).bind fun t117 => (some t117))) = some r := h
  clear h
  replace H := Option.bind_eq_some_iff.mp H
  obtain ⟨t111, A20, H⟩ := H
  replace H : ((laws_obBytes.f t111 (([(a0) % 256, (a0 / 256) % 256, (a0 / 65536) % 256, (a0 / 16777216) % 256] : List Int))).bind fun t117 => (some t117)) = some r := H
  have A2 := Aside0.mk A20
  clear A20
  obtain ⟨y114, hy114⟩ : ∃ y_ : List Int, y_ = (([(a0) % 256, (a0 / 256) % 256, (a0 / 65536) % 256, (a0 / 16777216) % 256] : List Int)) := ⟨_, rfl⟩
  replace H : ((laws_obBytes.f t111 y114).bind fun t117 => (some t117)) = some r := by first | (rw [hy114]; with_reducible exact H) | (have H2_ := (Option.bind_some _ _).symm.trans H; rw [hy114]; with_reducible exact H2_) | (have H2_ := (Option.bind_some _ _).symm.trans H; with_reducible exact H2_) | with_reducible exact H | (rw [hy114]; exact H) | exact H
  have Ny114 := Aside0.mk hy114
  clear hy114
  replace H := Option.bind_eq_some_iff.mp H
  obtain ⟨t117, A30, H⟩ := H
  replace H : (some t117) = some r := H
  have A3 := Aside0.mk A30
  clear A30
  obtain rfl := Option.some.inj H
  go_enter Try.func3, Try.ntmps3
  go_wp2_with (first | ((with_reducible refine gate_callee (f := 7) rfl ?_); refine goesL_ (some 4) rfl rfl Try.func7 (by kernel_rfl) rfl #[.int .u32 a0] rfl (by (try simp only [List.map_toArray, List.map_cons, List.map_nil]); first | done | rfl | (simp only [List.length_drop, List.length_take]; rfl)) ?_; (with_reducible refine (impl_ModeBytes.calls a0 t111 _ A2.out).mono ?_); rintro e w4 ⟨v112, rfl, ho0, hb⟩; refine ⟨_, rfl, ?_⟩; have n0_ := Aside0.mk (Kd.R_lower ho0 (below_size (by repeat (first | (with_reducible first | exact HB.out | apply below_alloc | apply pw_below_drewN | apply below_drew1) | exact HB.out)))); have n1_ := Aside0.mk (below_step (by repeat (first | (with_reducible first | exact HB.out | apply below_alloc | apply pw_below_drewN | apply below_drew1) | exact HB.out)) hb); clear HB; have HO113 := n0_; have HB := n1_; clear n0_ n1_; (try clear hb); (try clear hb2); (try clear hk); (try clear hi); (try clear ho0)) | ((with_reducible refine gate_dst (N := 16) rfl ?_); refine Kd.R_lit (Kd.int .u8) _ 5 ?hg (N := 16) ?hd (xs := ([(a0) % 256, (a0 / 256) % 256, (a0 / 65536) % 256, (a0 / 16777216) % 256] : List Int)) (inner := [.int .u8 ((a0) % 256), .int .u8 ((a0 / 256) % 256), .int .u8 ((a0 / 65536) % 256), .int .u8 ((a0 / 16777216) % 256)]) (ok := fun _ => True) (okp := fun _ => True) ?hr ?hp (fun _ hk => hk) trivial (Below.refl _ _) (Nat.le_refl _) (by simp) ?_; (case hd => rfl); (case hg => rfl); (case hr => first | (go_simp; done) | (go_simp; rfl)); (case hp => exact (Reps.one (show Kd.M (Kd.int .u8) _ _ _ ((a0) % 256) [.int .u8 ((a0) % 256)] from rfl) (Reps.one (show Kd.M (Kd.int .u8) _ _ _ ((a0 / 256) % 256) [.int .u8 ((a0 / 256) % 256)] from rfl) (Reps.one (show Kd.M (Kd.int .u8) _ _ _ ((a0 / 65536) % 256) [.int .u8 ((a0 / 65536) % 256)] from rfl) (Reps.one (show Kd.M (Kd.int .u8) _ _ _ ((a0 / 16777216) % 256) [.int .u8 ((a0 / 16777216) % 256)] from rfl) (Reps.none _ _)))))); intro v115 w5 ho6 hb hg_ hnew_; clear hg_ hnew_; (first | rw [← Ny114.out] at ho6 | (simp only [Int.reduceToNat] at ho6; rw [← Ny114.out] at ho6)); have n0_ := Aside0.mk (Kd.R_elder' (by (with_reducible repeat (first | apply Kd.R_alloc | apply Kd.R_drewN | apply Kd.R_drew)); exact HO113.out) (Kd.R_base ho6) hb); have n1_ := Aside0.mk (Kd.R_lower (Kd.R_new' ho6 (Kd.R_lt (by (with_reducible repeat (first | apply Kd.R_alloc | apply Kd.R_drewN | apply Kd.R_drew)); exact HO113.out))) (below_size (by repeat (first | (with_reducible first | exact HB.out | apply below_alloc | apply pw_below_drewN | apply below_drew1) | exact HB.out)))); have n2_ := Aside0.mk (below_step (by repeat (first | (with_reducible first | exact HB.out | apply below_alloc | apply pw_below_drewN | apply below_drew1) | exact HB.out)) hb); clear HO113; clear HB; have HO113 := n0_; have HO116 := n1_; have HB := n2_; clear n0_ n1_ n2_; clear hb ho6; obtain ⟨Ao7, co7, eo7⟩ := Kd.R_slice HO113.out; subst eo7; obtain ⟨Ao8, co8, eo8⟩ := Kd.R_slice HO116.out; subst eo8) | ((with_reducible refine gate_callee (f := 6) rfl ?_); refine goesL_ (some 17) rfl rfl Try.func6 (by kernel_rfl) rfl #[.slice Ao7 t111.length co7, .slice Ao8 y114.length co8] rfl (by (try simp only [List.map_toArray, List.map_cons, List.map_nil]); first | done | rfl | (simp only [List.length_drop, List.length_take]; rfl)) ?_; (with_reducible refine (laws_obBytes.calls _ _ t111 _ _ y114 t117 _ ?side1 ?side2 ?side3 ?side4 A3.out).mono ?_); (case side1 => repeat (first | exact (Kd.R_reads' HO113.out).2.2 | (with_reducible refine Kd.C_alloc ?_ _) | (with_reducible refine Kd.C_drewN ?_ _) | (with_reducible refine Kd.C_drew ?_))); (case side2 => exact (Kd.R_reads' HO113.out).2.1); (case side3 => repeat (first | exact (Kd.R_reads' HO116.out).2.2 | (with_reducible refine Kd.C_alloc ?_ _) | (with_reducible refine Kd.C_drewN ?_ _) | (with_reducible refine Kd.C_drew ?_))); (case side4 => exact (Kd.R_reads' HO116.out).2.1); rintro e w' ⟨rfl, ⟨nd, rfl⟩⟩; refine ⟨_, rfl, ?_⟩))
  go_ret
  exact ⟨by first | rfl | (simp [errW_none, errW_some] <;> rfl) | (simp [*, errW_none, errW_some] <;> rfl), by repeat (first | (with_reducible first | exact HB.out | apply below_alloc | apply pw_below_drewN | apply below_drew1) | exact HB.out)⟩

/-- THE ONE PURE STATEMENT of laws_FnModeBytes: yours. -/
def laws_FnModeBytes.Pure : Prop := ∀ (a0 : Int), (Lit.int .u32 a0).wf = true → laws_FnModeBytes.f a0 = some true
theorem laws_FnModeBytes.walk (P : laws_FnModeBytes.Pure) (a0 : Int) (w : World) (w0 : (Lit.int .u32 a0).wf = true) :
    Calls Try.prog 3 #[.int .u32 a0] w fun e w' => e = .returned (.bool true) ∧ Below w.heap.size w w' := by
  have h := P a0 w0
  refine (laws_FnModeBytes.calls a0 true w h).mono ?_
  rintro e w' ⟨rfl, hd⟩
  exact ⟨rfl, hd⟩

end Go.Proofs.Ytplhhgcejajmoaa.PFnModeBytes
