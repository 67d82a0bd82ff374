/- Someone written into a buffer. -/
import Derived.Test.YtmhcbgmnhcfhfaaDoorWhoFmt
import Derived.Lib.BufferOld
set_option linter.unusedVariables false
attribute [local go_sem ↓] Go.wp_at_zero Go.wp_at_succ
namespace Go.Proofs.YtmhcbgmnhcfhfaaDoor.who
open Go.RowKit Lib text

/-- written into the buffer in block b -/
def Put (B b : Nat) (l : List UInt8) (w : World) (e : Ending) (w' : World) : Prop := e = .returned .nilIface ∧ IsBuffer 50 5 B b (byteCells l) w' ∧ Below B w w'
def Put2 (B b : Nat) (n : Nat) (l : List UInt8) (w : World) (e : Ending) (w' : World) : Prop := e = .returned (.tuple #[.int .i64 n, .nilIface]) ∧ IsBuffer 50 5 B b (byteCells l) w' ∧ Below B w w'
theorem bytes_one (l : List UInt8) : ∀ v ∈ byteCells l, v.oneCell' = true := by
  intro v hv; simp only [byteCells, List.mem_map] at hv; obtain ⟨b, _, rfl⟩ := hv; rfl
theorem byteCells_append (a b : List UInt8) : byteCells (a ++ b) = byteCells a ++ byteCells b := by simp [byteCells]
set_option maxRecDepth 100000 in
theorem writeString_calls (B b : Nat) (l : List UInt8) (s : ByteArray) (w : World) (h : IsBuffer 50 5 B b (byteCells l) w) (hB : B ≤ w.heap.size) (hs : l.length + s.size ≤ 140737488355328) :
    Calls Tryd.prog 33 #[.iface 54 (.pointer (some ⟨b, 0, none⟩)), .string s] w (Put2 B b s.size (l ++ s.data.toList) w) := by
  have hta : ∀ w : World, (Instr.typeAssert (.iface 54 (.pointer (some ⟨b, 0, none⟩))) 72 100 true).run Tryd.prog w = .ok (.tuple #[.iface 54 (.pointer (some ⟨b, 0, none⟩)), .bool true]) w := fun _ => by kernel_rfl
  have hme : ∀ w : World, Sem.run Tryd.prog (method 289 54 (.pointer (some ⟨b, 0, none⟩)) "WriteString") w = .ok (96, .pointer (some ⟨b, 0, none⟩)) w := fun _ => by kernel_rfl
  have hc := hid (Tryd.Buffer_WriteString B b (byteCells l) s w h hB (bytes_one l) (by simpa [byteCells] using hs))
  clear h hB hs
  go_enter Tryd.func33, Tryd.ntmps33
  go_wp2_with fail
  refine hc.out.mono ?_
  rintro e w1 ⟨rfl, hb, hbl⟩
  have HB := hid hb
  have HBL := hid hbl
  clear hb hbl
  go_wp2_with fail
  go_ret2
  exact ⟨rfl, by rw [byteCells_append]; exact HB.out, HBL.out⟩
theorem below_ext {B : Nat} {w a b : World} (h : Below B w a) (hB : B ≤ w.heap.size) (k : Below a.heap.size a b) : Below B w b :=
  h.trans ⟨k.os, k.tape, k.output, k.size, fun i hi => k.block i (by have := h.size; omega)⟩
theorem below_grow (w : World) (k : Nat) (os : Array Obj) : Below w.heap.size w (Go.Sort.grow (w.drewN k) os) :=
  ⟨rfl, rfl, rfl, by simp [Go.Sort.grow], fun i hi => by simp only [Go.Sort.grow]; exact Array.getElem?_append_left hi⟩
/-- a signature in block g -/
def Sig (w : World) (g : Nat) (s m : ByteArray) (t z : Int) : Prop :=
  w.cell? ⟨g, 0, none⟩ = some (.string s) ∧ w.cell? ⟨g, 1, none⟩ = some (.string m) ∧ w.cell? ⟨g, 2, none⟩ = some (.int .i64 (t + 62135596800)) ∧ w.cell? ⟨g, 3, none⟩ = some (.int .i64 0) ∧ w.cell? ⟨g, 4, none⟩ = some (.int .i64 z)
theorem Sig.below {w w' : World} {g B : Nat} {s m : ByteArray} {t z : Int} (h : Sig w g s m t z) (hb : Below B w w') (hg : g < B) : Sig w' g s m t z :=
  ⟨(hb.cell (p := ⟨g, 0, none⟩) hg).trans h.1, (hb.cell (p := ⟨g, 1, none⟩) hg).trans h.2.1, (hb.cell (p := ⟨g, 2, none⟩) hg).trans h.2.2.1, (hb.cell (p := ⟨g, 3, none⟩) hg).trans h.2.2.2.1, (hb.cell (p := ⟨g, 4, none⟩) hg).trans h.2.2.2.2⟩
set_option maxRecDepth 100000 in
set_option maxHeartbeats 4000000 in
theorem encTime_calls (B b g : Nat) (l : List UInt8) (s m : ByteArray) (t : Nat) (z : Int) (w : World) (hI : IsBuffer 50 5 B b (byteCells l) w) (hB : B ≤ w.heap.size) (hs : l.length ≤ 100000) (hg : g < B)
    (hS : Sig w g s m t z) (ht : (t : Int) < 1099511627776) (z0 : -360000 < z) (z1 : z < 360000) (zw : 0 ≤ z ∨ z ≤ -3600) (htab : ∀ w', Below B w w' → TabIs Tryd.prog w' "internal/strconv.uint64pow10" .u64 pow10Tab) :
    Calls Tryd.prog 34 #[.pointer (some ⟨g, 0, none⟩), .iface 54 (.pointer (some ⟨b, 0, none⟩))] w (Put B b (l ++ decDigits t ++ [32] ++ zoneOf z) w) := by
  obtain ⟨sd, hsd, hsz⟩ := list_ex (decDigits t)
  obtain ⟨sz, hsz1, hsz2⟩ := list_ex (zoneOf z)
  have hdl := dec_len 15 t (by omega)
  have hzl := zone_len z
  obtain ⟨a1, k1, l1, y1⟩ := cat_ex (P := Tryd.prog) sd ⟨#[32]⟩ (by have : (⟨#[32]⟩ : ByteArray).size = 1 := rfl; omega)
  obtain ⟨a2, k2, l2, y2⟩ := cat_ex (P := Tryd.prog) a1 sz (by have : (⟨#[32]⟩ : ByteArray).size = 1 := rfl; omega)
  have HA2 : Hid (l.length + a2.size ≤ 140737488355328 ∧ l ++ a2.data.toList = l ++ decDigits t ++ [32] ++ zoneOf z) := hid ⟨by have : (⟨#[32]⟩ : ByteArray).size = 1 := rfl; omega, by rw [l2, l1, hsd, hsz1]; simp⟩
  have HSD := hid hsd
  have HSZ := hid hsz1
  clear hsd hsz hsz1 hsz2 hdl hzl l1 y1 l2 y2 hs
  have c0 := hid (fun w => timeUnix_calls t 0 z w (by omega) ht)
  have c1 := hid (fun w h => Tryd.strconv_FormatInt_10 (t : Int) (by omega) (by omega) w h)
  have c2 := hid (fun f w => format_calls ((t : Int) + 62135596800) 0 z f w z0 z1 zw)
  have c3 := hid (fun w h h' => writeString_calls B b l a2 w h h' HA2.out.1)
  have HT := hid htab
  have HI := hid hI
  have HW := hid (Below.refl B w)
  have hq1 := hS.2.2.1
  have hq2 := hS.2.2.2.1
  have hq3 := hS.2.2.2.2
  have HSig := hid hS
  have HS0 := hid hS
  have hitoa : Hid ((⟨(itoa (t : Int)).toArray⟩ : ByteArray) = sd) := hid (eq_of_list (by rw [HSD.out]; show itoa (t : Int) = _; unfold itoa; rw [if_neg (by omega), Int.toNat_natCast]))
  have gt0 : ¬ (t : Int) < 0 := by omega
  have HBs := hid hB
  have Hg := hid hg
  clear htab hI hS z0 z1 zw ht hB hg
  go_enter Tryd.func34, Tryd.ntmps34
  go_wp2_with fail
  refine (c0.out _).mono ?_
  rintro e w1 ⟨rfl, hb⟩
  have HI := hid (HI.out.old hb)
  have HW := hid (below_ext HW.out HBs.out hb)
  have HSig := hid (HSig.out.below HW.out Hg.out)
  clear hb hq1 hq2 hq3
  have HK : Hid (w1.drew.cell? ⟨g, 2, none⟩ = some (.int .i64 ((t : Int) + 62135596800)) ∧ w1.drew.cell? ⟨g, 3, none⟩ = some (.int .i64 0) ∧ w1.drew.cell? ⟨g, 4, none⟩ = some (.int .i64 z)) := hid HSig.out.2.2
  go_wp2_with fail
  have HC := hid (fun w' (hb : Below B w w') => (HS0.out.below hb Hg.out).2.2)
  have HI := hid (show IsBuffer 50 5 B b (byteCells l) w1.drew from HI.out)
  have HW := hid (show Below B w w1.drew from ⟨HW.out.os, HW.out.tape, HW.out.output, HW.out.size, HW.out.block⟩)
  go_region_held3 (fun w' => w'.cell? ⟨g, 2, none⟩ = some (.int .i64 ((t : Int) + 62135596800)) ∧ w'.cell? ⟨g, 3, none⟩ = some (.int .i64 0) ∧ w'.cell? ⟨g, 4, none⟩ = some (.int .i64 z))
    (exact HK.out)
    (first
      | (go_at_call 49; refine (c1.out _ (HT.out _ HW.out)).mono ?_; rintro e x1 ⟨rfl, k, os, rfl⟩; rw [hitoa.out]; have HK := hid (HC.out _ (below_ext HW.out HBs.out (below_grow _ k os))); have HI := hid (HI.out.old (below_grow _ k os)); have HW := hid (below_ext HW.out HBs.out (below_grow _ k os)); generalize Go.Sort.grow _ os = x1 at *)
      | (go_at_call 50; refine (c2.out _ _).mono ?_; rintro e x2 ⟨hb, sz', rfl, hsz⟩; obtain rfl : sz = sz' := eq_of_list (HSZ.out.trans hsz.symm); have HI := hid (HI.out.old hb); have HW := hid (below_ext HW.out HBs.out hb); have HK := hid (HC.out _ HW.out); clear hsz hb)
      | (go_at_call 33; refine (c3.out _ HI.out (Nat.le_trans HBs.out HW.out.size)).mono ?_; rintro e x3 ⟨rfl, hi, hb⟩; have HF := hid hi; have HFW := hid (HW.out.trans hb); have HK := hid (HC.out _ HFW.out); clear hi hb))
  all_goals
    go_wp2_with fail
    go_ret
    exact ⟨rfl, by rw [← HA2.out.2]; exact HF.out, HFW.out⟩
set_option maxRecDepth 100000 in
set_option maxHeartbeats 4000000 in
theorem encode_calls (B b g : Nat) (s m : ByteArray) (t : Nat) (z : Int) (w : World) (hI : IsBuffer 50 5 B b (byteCells []) w) (hB : B ≤ w.heap.size) (hg : g < B)
    (hS : Sig w g s m t z) (hsz : s.size ≤ 4096) (hmz : m.size ≤ 4096) (ht : (t : Int) < 1099511627776) (z0 : -360000 < z) (z1 : z < 360000) (zw : 0 ≤ z ∨ z ≤ -3600) (htab : ∀ w', Below B w w' → TabIs Tryd.prog w' "internal/strconv.uint64pow10" .u64 pow10Tab) :
    Calls Tryd.prog 15 #[.pointer (some ⟨g, 0, none⟩), .iface 54 (.pointer (some ⟨b, 0, none⟩))] w (Put B b (whoText s.data.toList m.data.toList t z) w) := by
  obtain ⟨a1, k1, l1, y1⟩ := cat_ex (P := Tryd.prog) s ⟨#[32, 60]⟩ (by have : (⟨#[32, 60]⟩ : ByteArray).size = 2 := rfl; omega)
  obtain ⟨a2, k2, l2, y2⟩ := cat_ex (P := Tryd.prog) a1 m (by have : (⟨#[32, 60]⟩ : ByteArray).size = 2 := rfl; omega)
  obtain ⟨a3, k3, l3, y3⟩ := cat_ex (P := Tryd.prog) a2 ⟨#[62, 32]⟩ (by have : (⟨#[32, 60]⟩ : ByteArray).size = 2 := rfl; have : (⟨#[62, 32]⟩ : ByteArray).size = 2 := rfl; omega)
  have HA3 : Hid (a3.size ≤ 8196 ∧ a3.data.toList = s.data.toList ++ [32, 60] ++ m.data.toList ++ [62, 32]) := hid ⟨by have : (⟨#[32, 60]⟩ : ByteArray).size = 2 := rfl; have : (⟨#[62, 32]⟩ : ByteArray).size = 2 := rfl; omega, by rw [l3, l2, l1]⟩
  clear l1 y1 l2 y2 l3 y3 hsz hmz
  have c3 := hid (fun w h h' => writeString_calls B b [] a3 w h h' (by have := HA3.out.1; simp; omega))
  have c4 := hid (fun (w' : World) h h' h'' h3 => encTime_calls B b g a3.data.toList s m t z w' h h' (by have := HA3.out.1; rw [list_size]; omega) hg h'' ht z0 z1 zw h3)
  have HT := hid htab
  have HI := hid (show IsBuffer 50 5 B b (byteCells []) w.drew from hI)
  have HK : Hid (w.drew.cell? ⟨g, 0, none⟩ = some (.string s) ∧ w.drew.cell? ⟨g, 1, none⟩ = some (.string m)) := hid ⟨hS.1, hS.2.1⟩
  have HS0 := hid hS
  have HBs := hid hB
  have Hg := hid hg
  have HD := hid (show Below B w w.drew from ⟨rfl, rfl, rfl, Nat.le_refl _, fun _ _ => rfl⟩)
  clear htab hI hS z0 z1 zw ht hB hg
  go_enter Tryd.func15, Tryd.ntmps15
  go_wp2_with fail
  go_region_held3 (fun w' => w'.cell? ⟨g, 0, none⟩ = some (.string s) ∧ w'.cell? ⟨g, 1, none⟩ = some (.string m))
    (exact HK.out)
    ((go_at_call 33; refine (c3.out _ HI.out HBs.out).mono ?_; rintro e x3 ⟨rfl, hi, hb⟩; have HF := hid hi; have HFW := hid (HD.out.trans hb); have HS1 := hid (HS0.out.below HFW.out Hg.out); have HK := hid (And.intro HS1.out.1 HS1.out.2.1); clear hi hb))
  all_goals
    go_wp2_with fail
    refine (c4.out _ HF.out (Nat.le_trans HBs.out HFW.out.size) HS1.out (fun w' h => HT.out _ (HFW.out.trans h))).mono ?_
    rintro e x4 ⟨rfl, hi, hb⟩
    have HE := hid hi
    have HEW := hid (HFW.out.trans hb)
    clear hi hb
    go_wp2_with fail
    go_ret
    refine ⟨rfl, ?_, HEW.out⟩
    have h := HE.out
    rw [HA3.out.2] at h
    exact h
end Go.Proofs.YtmhcbgmnhcfhfaaDoor.who
