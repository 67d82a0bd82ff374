/- laws.FnObjHeld. -/
import Derived.Test.YtdbkafpflicdiaaDoorObHeld
import Derived.Test.YtdbkafpflicdiaaDoorBits
set_option linter.unusedVariables false
attribute [local go_sem ↓] Go.wp_at_zero Go.wp_at_succ
namespace Go.Proofs.YtdbkafpflicdiaaDoor.ob
open Go.RowKit Lib mem frm row sha rd brows

def KindOut (w : World) (e : Ending) (w' : World) : Prop := w' = w ∧ ∃ k : Nat, 1 ≤ k ∧ k ≤ 4 ∧ e = .returned (.int .i64 k)
theorem kind_calls (k : Int) (w : World) : Calls Tryd.prog 6 #[.int .i64 k] w (KindOut w) := by
  obtain ⟨m, hm⟩ : ∃ m : Nat, (m : Int) = k % 16777216 := ⟨(k % 16777216).toNat, by omega⟩
  have hb : bits .and .i64 k 16777215 = (m : Int) := by rw [bitsx.and_mask24, hm]
  have hm0 : (m : Int) < 16777216 := by omega
  obtain ⟨z, hz⟩ : ∃ z : Nat, z = 1 + m % 4 := ⟨_, rfl⟩
  have hz' : Hid ((1 : Int) + (m : Int) % 4 = (z : Int)) := hid (by omega)
  have hz2 : Hid (1 ≤ z ∧ z ≤ 4) := hid (by omega)
  clear hm hz
  go_enter Tryd.func6, Tryd.ntmps6
  go_wp2_with fail
  go_ret
  exact ⟨rfl, z, hz2.out.1, hz2.out.2, by rw [← hz'.out]; rfl⟩
theorem bytes_calls (A D : Option Addr) (n c m d : Nat) (l : List UInt8) (w : World) (hA : Bytes w w.heap.size A n l) (hD : Bytes w w.heap.size D m l) :
    Calls Tryd.prog 10 #[.slice A n c, .slice D m d] w fun e w' => e = .returned (.bool true) ∧ w' = w := by
  have t1 := text_of_bytes (c := c) hA
  have t2 := text_of_bytes (c := d) hD
  clear hA hD
  go_enter Tryd.func10, Tryd.ntmps10
  go_wp2_with fail
  go_ret
  exact ⟨rfl, rfl⟩
set_option maxRecDepth 100000 in
set_option maxHeartbeats 8000000 in
theorem law_calls (A : Option Addr) (n c : Nat) (k : Int) (ls : List (List UInt8)) (v0 : Value) (w : World) (h : LsAt w w.heap.size A n ls) (hn : n ≤ 140737488355328) (hE : EofAt w v0)
    (hT : Lib.TabIs Tryd.prog w "internal/strconv.uint64pow10" .u64 Lib.pow10Tab) :
    Calls Tryd.prog 3 #[.int .i64 k, .slice A n c] w fun e w' => e = .returned (.bool true) ∧ Below w.heap.size w w' := by
  have c1 := hid (fits19_calls A n c ls w h hn)
  have c2 := hid (fun hf => short_calls A n c ls w h hn hf)
  have c3 := hid (kind_calls k w)
  have c4 := hid (fun ht => joined_calls A n c ls w h hn ht)
  have c5 := hid (fun (kk : Nat) (w' : World) (hk : Kept [] w w') ht h1 h4 => held_calls A n c kk ls v0 w' ((h.below hk.nil_below).more hk.size) hn ht h1 h4 (hE.kept hk (by simp)) (Lib.tabBelow_of_tabIs hT w' (hk.below (Nat.le_refl _) (by simp))))
  have HT := hid (Lib.tabBelow_of_tabIs hT)
  clear h hn hE hT
  go_enter Tryd.func3, Tryd.ntmps3
  go_wp2_with fail
  refine c1.out.mono ?_
  rintro e w' ⟨rfl, b1, rfl, hb1⟩
  cases b1 with
  | false =>
    go_wp2_with fail
    go_ret
    exact ⟨rfl, Below.refl _ _⟩
  | true =>
    have HF := hid (hb1 rfl)
    clear hb1
    have C2 := hid (c2.out HF.out)
    clear c2
    go_wp2_with fail
    refine C2.out.mono ?_
    rintro e w'' ⟨rfl, b2, rfl, hb2⟩
    cases b2 with
    | false =>
      go_wp2_with fail
      go_ret
      exact ⟨rfl, Below.refl _ _⟩
    | true =>
      have HS := hid (hb2 rfl)
      clear hb2
      have C4 := hid (c4.out HS.out)
      clear c4
      go_wp2_with fail
      refine c3.out.mono ?_
      rintro e w3 ⟨rfl, kk, hk1, hk4, rfl⟩
      have HKK := hid (And.intro hk1 hk4)
      clear hk1 hk4
      go_wp2_with fail
      refine C4.out.mono ?_
      rintro e w4 ⟨hk4, v4, rfl, ho4⟩
      have h5 := c5.out kk w4 hk4 HS.out HKK.out.1 HKK.out.2
      obtain ⟨F, hF⟩ : ∃ F, F = ls.flatten := ⟨_, rfl⟩
      have hm1 : total ls = F.length := by rw [hF]; rfl
      have hm2 : F.length ≤ 1000000 := by have := HS.out; omega
      rw [hm1, ← hF] at ho4
      rw [← hF] at h5
      obtain ⟨A4, d4, rfl, -, hb4⟩ := own_bytes ho4.2
      have C5 := hid h5
      have HB4 := hid hb4
      have HK4 := hid hk4
      have HM := hid hm2
      clear hk4 ho4 c5 h5 hF hm1 hm2 hb4
      go_wp2_with fail
      refine C5.out.mono ?_
      rintro e w5 ⟨hk5, v5, rfl, ho5⟩
      obtain ⟨A5, d5, rfl, -, hb5⟩ := own_bytes ho5.2
      have HK5 := hid (HK4.out.trans_ hk5)
      have C6 := hid (hashOf_calls kk F.length d4 w4.heap.size A4 F w5 HKK.out.1 HKK.out.2 (HB4.out.below hk5.nil_below) hk5.size HM.out (HT.out w5 (HK5.out.below (Nat.le_refl _) (by simp))))
      have hx1 := hexS_size (objHash kk F) (objHash_len kk F)
      obtain ⟨hx, hhx⟩ : ∃ hx, hx = hexS (objHash kk F) := ⟨_, rfl⟩
      have hc6 := C6.out
      unfold NameOut at hc6
      rw [← hhx] at hx1 hc6 ⊢
      have hx2 : (hx.size : Int) = 40 := by omega
      have C7 := hid hc6
      have HB4' := hid ((HB4.out.below hk5.nil_below).more hk5.size)
      have HB5 := hid hb5
      clear hk5 ho5 hb5 hc6 hx1 hhx C6 HB4 C5
      go_wp2_with (first
        | (go_at_call 9; refine C7.out.mono ?_; rintro e w6 ⟨rfl, hk6⟩; have HK6 := hid (HK5.out.trans_ hk6); have C8 := hid (bytes_calls A5 A4 F.length d5 F.length d4 F w6 ((HB5.out.below hk6.nil_below).more hk6.size) ((HB4'.out.below hk6.nil_below).more hk6.size)); clear hk6)
        | (go_at_call 10; refine C8.out.mono ?_; rintro e w7 ⟨rfl, rfl⟩)
        | fail)
      go_ret
      exact ⟨rfl, HK6.out.nil_below⟩
end Go.Proofs.YtdbkafpflicdiaaDoor.ob
