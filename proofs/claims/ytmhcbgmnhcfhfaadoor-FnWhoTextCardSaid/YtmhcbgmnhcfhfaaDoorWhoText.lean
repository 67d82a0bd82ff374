/- Someone, as the spec writes it. -/
import Derived.Test.YtmhcbgmnhcfhfaaDoorWho
import Derived.Deep.RegionHeld3
import Derived.Deep.DrawnRows
import Derived.Laws.Concat
set_option linter.unusedVariables false
attribute [local go_sem ↓] Go.wp_at_zero Go.wp_at_succ
namespace Go.Proofs.YtmhcbgmnhcfhfaaDoor.who
open Go.RowKit Lib text

def whoText (s m : List UInt8) (t : Nat) (z : Int) : List UInt8 := s ++ [32, 60] ++ m ++ [62, 32] ++ decDigits t ++ [32] ++ zoneOf z
theorem zone_len (z : Int) : (zoneOf z).length = 5 := by unfold zoneOf twoOf; simp
theorem eq_of_list {a b : ByteArray} (h : a.data.toList = b.data.toList) : a = b := by
  cases a; cases b; congr 1; exact Array.toList_inj.1 h
theorem list_ex (l : List UInt8) : ∃ c : ByteArray, c.data.toList = l ∧ c.size = l.length := ⟨ofL l, data_ofL l, ofL_size l⟩
theorem cat_run {P : Program} (a b : ByteArray) (h : a.size + b.size ≤ 9223372036854775807) : ∀ w, (Op.stringOp .add a b).run P w = .ok (.string (a ++ b)) w := fun w => by
  rw [run_string_add_if, if_neg (by omega)]
/-- one string behind another one, under a name -/
theorem cat_ex {P : Program} (a b : ByteArray) (h : a.size + b.size ≤ 9223372036854775807) : ∃ c : ByteArray, (∀ w, (Op.stringOp .add a b).run P w = .ok (.string c) w) ∧ c.data.toList = a.data.toList ++ b.data.toList ∧ c.size = a.size + b.size :=
  ⟨a ++ b, cat_run a b h, append_list a b, by simp [ByteArray.size_append]⟩
set_option maxRecDepth 100000 in
set_option maxHeartbeats 4000000 in
theorem whoText_calls (s m : ByteArray) (t : Nat) (z : Int) (w : World) (hw : Who s m t z) :
    Calls Tryd.prog 8 #[.agg #[.string s, .string m, .int .i64 t, .int .i64 z]] w (Made w (whoText s.data.toList m.data.toList t z)) := by
  obtain ⟨hs, hm, ht0, ht1, hz0, hz1, hz2⟩ := hw
  have ht : t < 10 ^ (15 + 1) := by omega
  have c1 := hid (fun w => decimal_calls 15 t w ht (by omega))
  have c2 := hid (fun w => zone_calls z w hz0 hz1)
  have hdl := dec_len 15 t ht
  have HZL := hid (zone_len z)
  have HB := hid (fun o => (Below.refl w.heap.size w).alloc (Nat.le_refl _) o)
  have HS := hid hs
  have HM := hid hm
  have hs' : (s.size : Int) ≤ 4096 := by omega
  have hm' : (m.size : Int) ≤ 4096 := by omega
  have HDL := hid hdl
  clear ht ht0 ht1 hz0 hz1 hz2 hdl
  obtain ⟨a1, k1, l1, z1⟩ := cat_ex (P := Tryd.prog) s ⟨#[32, 60]⟩ (by have : (⟨#[32, 60]⟩ : ByteArray).size = 2 := rfl; omega)
  obtain ⟨a2, k2, l2, z2⟩ := cat_ex (P := Tryd.prog) a1 m (by have : (⟨#[32, 60]⟩ : ByteArray).size = 2 := rfl; omega)
  obtain ⟨a3, k3, l3, z3⟩ := cat_ex (P := Tryd.prog) a2 ⟨#[62, 32]⟩ (by have : (⟨#[32, 60]⟩ : ByteArray).size = 2 := rfl; have : (⟨#[62, 32]⟩ : ByteArray).size = 2 := rfl; omega)
  have HA3 : Hid (a3.size ≤ 8196 ∧ a3.data.toList = s.data.toList ++ [32, 60] ++ m.data.toList ++ [62, 32]) := hid ⟨by have : (⟨#[32, 60]⟩ : ByteArray).size = 2 := rfl; have : (⟨#[62, 32]⟩ : ByteArray).size = 2 := rfl; omega, by rw [l3, l2, l1]⟩
  clear l1 z1 l2 z2 l3 z3 hs hm
  obtain ⟨sd, hsd, hsz⟩ := list_ex (decDigits t)
  obtain ⟨sz, hsz1, hsz2⟩ := list_ex (zoneOf z)
  obtain ⟨a4, k4, l4, z4⟩ := cat_ex (P := Tryd.prog) a3 sd (by have := HA3.out.1; have := HDL.out; omega)
  obtain ⟨a5, k5, l5, z5⟩ := cat_ex (P := Tryd.prog) a4 ⟨#[32]⟩ (by have : (⟨#[32]⟩ : ByteArray).size = 1 := rfl; have := HA3.out.1; have := HDL.out; omega)
  obtain ⟨a6, k6, l6, z6⟩ := cat_ex (P := Tryd.prog) a5 sz (by have : (⟨#[32]⟩ : ByteArray).size = 1 := rfl; have := HA3.out.1; have := HDL.out; have := HZL.out; omega)
  have HSD := hid hsd
  have HSZ := hid hsz1
  have HA6 : Hid (a6.data.toList = whoText s.data.toList m.data.toList t z) := hid (by rw [l6, l5, l4, HA3.out.2, hsd, hsz1]; rfl)
  clear hsd hsz hsz1 hsz2 l4 z4 l5 z5 l6 z6
  go_enter Tryd.func8, Tryd.ntmps8
  go_wp2_with fail
  have k0 := fun j => Lib.cell_of_heap (b := w.heap.size) (heap_alloc_new w (.cells #[.string s, .string m, .int .i64 (t : Int), .int .i64 z] 23)) j
  have q0 := (k0 0).trans rfl
  have q1 := (k0 1).trans rfl
  have q2 := (k0 2).trans rfl
  have q3 := (k0 3).trans rfl
  have HBa := hid (HB.out (.cells #[.string s, .string m, .int .i64 (t : Int), .int .i64 z] 23))
  have hwz : w.heap.size < (w.alloc (.cells #[.string s, .string m, .int .i64 (t : Int), .int .i64 z] 23)).drew.heap.size := by show w.heap.size < (w.heap.push _).size; simp
  clear k0 HB
  generalize w.alloc (.cells #[.string s, .string m, .int .i64 (t : Int), .int .i64 z] 23) = wa at *
  have HK : Hid (wa.drew.cell? ⟨w.heap.size, 0, none⟩ = some (.string s) ∧ wa.drew.cell? ⟨w.heap.size, 1, none⟩ = some (.string m) ∧ wa.drew.cell? ⟨w.heap.size, 2, none⟩ = some (.int .i64 (t : Int)) ∧ wa.drew.cell? ⟨w.heap.size, 3, none⟩ = some (.int .i64 z)) := hid ⟨q0, q1, q2, q3⟩
  go_region_held3 (fun w' => w'.cell? ⟨w.heap.size, 0, none⟩ = some (.string s) ∧ w'.cell? ⟨w.heap.size, 1, none⟩ = some (.string m) ∧ w'.cell? ⟨w.heap.size, 2, none⟩ = some (.int .i64 (t : Int)) ∧ w'.cell? ⟨w.heap.size, 3, none⟩ = some (.int .i64 z))
    (first | go_keep | exact HK2.out | exact HK.out)
    (first
      | (go_at_call 17; refine (c1.out _).mono ?_; rintro e x1 ⟨rfl, sd', rfl, hsd⟩; obtain rfl : sd = sd' := eq_of_list (HSD.out.trans hsd.symm); clear hsd)
      | (go_at_call 18; refine (c2.out _).mono ?_; rintro e x2 ⟨hb2, sz', rfl, hsz⟩; obtain rfl : sz = sz' := eq_of_list (HSZ.out.trans hsz.symm); have HB2 := hid hb2; have HK2 := hid (And.intro ((hb2.cell (p := ⟨w.heap.size, 0, none⟩) hwz).trans HK.out.1) (And.intro ((hb2.cell (p := ⟨w.heap.size, 1, none⟩) hwz).trans HK.out.2.1) (And.intro ((hb2.cell (p := ⟨w.heap.size, 2, none⟩) hwz).trans HK.out.2.2.1) ((hb2.cell (p := ⟨w.heap.size, 3, none⟩) hwz).trans HK.out.2.2.2)))); clear hsz hb2))
  all_goals
    go_wp2_with fail
    go_ret
    refine ⟨HBa.out.trans ⟨HB2.out.os, HB2.out.tape, HB2.out.output, HB2.out.size, fun k hk => HB2.out.block k (Nat.lt_trans hk hwz)⟩, _, rfl, ?_⟩
    exact HA6.out
end Go.Proofs.YtmhcbgmnhcfhfaaDoor.who
