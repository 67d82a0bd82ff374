/- Two digits, and a zone: what the spec's words compute. -/
import Derived.Test.YtmhcbgmnhcfhfaaDoorDecimal
import Derived.Lib.Buffer
set_option linter.unusedVariables false
namespace Go.Proofs.YtmhcbgmnhcfhfaaDoor.who
open Go.RowKit Lib text

def Made (w : World) (l : List UInt8) (e : Ending) (w' : World) : Prop := Below w.heap.size w w' ∧ ∃ s : ByteArray, e = .returned (.string s) ∧ s.data.toList = l
def twoOf (n : Nat) : List UInt8 := [UInt8.ofNat (48 + n / 10 % 10), UInt8.ofNat (48 + n % 10)]
theorem byte_cell {b : Nat} {x : Int} (h : x = b) (hb : b < 256) : Value.int .u8 x = .int .u8 (UInt8.ofNat b).toNat := by
  subst h
  simp [UInt8.toNat_ofNat', Nat.mod_eq_of_lt hb]
set_option maxRecDepth 100000 in
set_option maxHeartbeats 4000000 in
theorem two_calls (n : Nat) (w : World) (h : n < 100) : Calls Tryd.prog 35 #[.int .i64 n] w (Made w (twoOf n)) := by
  have hconv : ∀ wa, wa = w.alloc (.cells #[.int .u8 (48 + (n : Int) / 10 % 10), .int .u8 (48 + (n : Int) % 10)] 5) → (convert 46 9 (.slice (some ⟨w.heap.size, 0, none⟩) 2 2)).run Tryd.prog wa = .ok (.string ⟨(twoOf n).toArray⟩) wa := fun wa hwa => by
    have hb := run_convert_bytes_back (P := Tryd.prog) wa 46 9 5 ⟨w.heap.size, 0, none⟩ 2 (twoOf n) Tryd.underlying46 Tryd.underlying5 Tryd.underlying9 (fun j hj => by
      subst hwa
      rw [Lib.addr_add, Lib.cell_of_heap (heap_alloc_new w _)]
      match j, hj with
      | 0, _ =>
        show some (Value.int .u8 (48 + (n : Int) / 10 % 10)) = some (.int .u8 ((UInt8.ofNat (48 + n / 10 % 10)).toNat : Int))
        rw [byte_cell (x := 48 + (n : Int) / 10 % 10) (b := 48 + n / 10 % 10) (by omega) (by omega)]
      | 1, _ =>
        show some (Value.int .u8 (48 + (n : Int) % 10)) = some (.int .u8 ((UInt8.ofNat (48 + n % 10)).toNat : Int))
        rw [byte_cell (x := 48 + (n : Int) % 10) (b := 48 + n % 10) (by omega) (by omega)])
    exact hb
  have hC := hconv _ rfl
  have hba := hid ((Below.refl w.heap.size w).alloc (Nat.le_refl _) (.cells #[.int .u8 (48 + (n : Int) / 10 % 10), .int .u8 (48 + (n : Int) % 10)] 5))
  clear hconv
  go_enter Tryd.func35, Tryd.ntmps35
  go_wp2_with fail
  go_ret
  exact ⟨hba.out, _, rfl, rfl⟩
/-- a zone: a sign, the hours, the minutes -/
def zoneOf (z : Int) : List UInt8 := (if z < 0 then 45 else 43) :: (twoOf (z.natAbs / 3600) ++ twoOf (z.natAbs / 60 % 60))
set_option maxRecDepth 100000 in
set_option maxHeartbeats 4000000 in
theorem zone_calls (z : Int) (w : World) (h1 : -360000 < z) (h2 : z < 360000) : Calls Tryd.prog 18 #[.int .i64 z] w (Made w (zoneOf z)) := by
  by_cases hz : z < 0
  · obtain ⟨m, hm, hm2⟩ : ∃ m : Nat, -z = m ∧ z.natAbs = m := ⟨z.natAbs, by omega, rfl⟩
    have hq : Hid (zoneOf z = 45 :: (twoOf (m / 3600) ++ twoOf (m / 60 % 60))) := hid (by unfold zoneOf; rw [if_pos hz, hm2])
    have hm3 : m < 360000 := by omega
    have HM := hid hm3
    have c1 := hid (fun w => two_calls (m / 3600) w (by omega))
    have c2 := hid (fun w => two_calls (m / 60 % 60) w (by omega))
    have E1 : Hid ((m : Int) / 3600 = ((m / 3600 : Nat) : Int)) := hid (by omega)
    have E2 : Hid ((m : Int) / 60 % 60 = ((m / 60 % 60 : Nat) : Int)) := hid (by omega)
    have hb : (m : Int) < 360000 := by omega
    clear hm2 hm3
    go_enter Tryd.func18, Tryd.ntmps18
    go_wp2_with fail
    rw [E1.out]
    refine (c1.out w).mono ?_
    rintro e w1 ⟨hb1, s1, rfl, hs1⟩
    have z1 : s1.size = 2 := by rw [← list_size, hs1]; rfl
    have HS1 := hid hs1
    have HB1 := hid hb1
    clear hs1 hb1
    go_wp2_with fail
    rw [E2.out]
    refine (c2.out w1).mono ?_
    rintro e w2 ⟨hb2, s2, rfl, hs2⟩
    have z2 : s2.size = 2 := by rw [← list_size, hs2]; rfl
    have HS2 := hid hs2
    have HB2 := hid (HB1.out.trans ⟨hb2.os, hb2.tape, hb2.output, hb2.size, fun k hk => hb2.block k (by have := HB1.out.size; omega)⟩)
    clear hs2 hb2
    go_wp2_with fail
    go_ret
    refine ⟨HB2.out, _, rfl, ?_⟩
    rw [append_list, append_list, HS1.out, HS2.out, hq.out]
    rfl
  · obtain ⟨m, rfl⟩ : ∃ m : Nat, z = m := ⟨z.natAbs, by omega⟩
    have hq : Hid (zoneOf (m : Int) = 43 :: (twoOf (m / 3600) ++ twoOf (m / 60 % 60))) := hid (by unfold zoneOf; rw [if_neg hz, Int.natAbs_natCast])
    have hm3 : m < 360000 := by omega
    have c1 := hid (fun w => two_calls (m / 3600) w (by omega))
    have c2 := hid (fun w => two_calls (m / 60 % 60) w (by omega))
    have E1 : Hid ((m : Int) / 3600 = ((m / 3600 : Nat) : Int)) := hid (by omega)
    have E2 : Hid ((m : Int) / 60 % 60 = ((m / 60 % 60 : Nat) : Int)) := hid (by omega)
    have hw1 : wrap64 ((m : Int) / 3600) = (m : Int) / 3600 := by unfold wrap64; omega
    have hw2 : wrap64 ((m : Int) / 60) = (m : Int) / 60 := by unfold wrap64; omega
    have hz' : ¬ (m : Int) < 0 := by omega
    clear hm3 hz h1 h2
    go_enter Tryd.func18, Tryd.ntmps18
    go_wp2_with fail
    rw [E1.out]
    refine (c1.out w).mono ?_
    rintro e w1 ⟨hb1, s1, rfl, hs1⟩
    have z1 : s1.size = 2 := by rw [← list_size, hs1]; rfl
    have HS1 := hid hs1
    have HB1 := hid hb1
    clear hs1 hb1
    go_wp2_with fail
    rw [E2.out]
    refine (c2.out w1).mono ?_
    rintro e w2 ⟨hb2, s2, rfl, hs2⟩
    have z2 : s2.size = 2 := by rw [← list_size, hs2]; rfl
    have HS2 := hid hs2
    have HB2 := hid (HB1.out.trans ⟨hb2.os, hb2.tape, hb2.output, hb2.size, fun k hk => hb2.block k (by have := HB1.out.size; omega)⟩)
    clear hs2 hb2
    go_wp2_with fail
    go_ret
    refine ⟨HB2.out, _, rfl, ?_⟩
    rw [append_list, append_list, HS1.out, HS2.out, hq.out]
    rfl
end Go.Proofs.YtmhcbgmnhcfhfaaDoor.who
