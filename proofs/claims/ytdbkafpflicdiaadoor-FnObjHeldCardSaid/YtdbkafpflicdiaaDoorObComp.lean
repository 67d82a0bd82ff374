/- plumbing.ComputeHash, Hash.String. -/
import Derived.Test.YtdbkafpflicdiaaDoorObHash
set_option linter.unusedVariables false
namespace Go.Proofs.YtdbkafpflicdiaaDoor.ob
open Go.RowKit Lib mem frm row sha

/-- the name of an object -/
def objHash (k : Nat) (l : List UInt8) : List UInt8 := sha1 (header k l.length ++ l)
theorem header_len (k n : Nat) (h : n ≤ 1000000) : (header k n).length ≤ 40 := by
  have h1 := Lib.itoa_length_le n (by omega) (by omega)
  have h2 := obName_len k
  simp only [header, List.length_append, List.length_singleton]; omega
theorem foot_ne' {w0 w : World} {sb hb : Nat} {v : Value} {data : List UInt8} {t : TypeId} {cs : Array Value} (h : HS w0 w sb v data) (hB : Blk w hb t cs) (h1 : t ≠ ShaT) (h2 : t ≠ U8) : hb ∉ sha.foot sb v := foot_ne h hB h1 h2
set_option maxRecDepth 100000 in
set_option maxHeartbeats 4000000 in
theorem compute_calls (k n c B : Nat) (A : Option Addr) (l : List UInt8) (w : World) (h1 : 1 ≤ k) (h4 : k ≤ 4) (hB : Bytes w B A n l) (hBw : B ≤ w.heap.size) (hn : n ≤ 1000000) (hT : Lib.TabIs Tryd.prog w "internal/strconv.uint64pow10" .u64 Lib.pow10Tab) :
    Calls Tryd.prog 17 #[.int .i8 k, .slice A n c] w (HashOut w (objHash k l)) := by
  obtain ⟨w0, hw0⟩ : ∃ w0, w0 = w.alloc (.cells zero20.toArray Hty) := ⟨_, rfl⟩
  have hk0 : Kept [] w w0 := by rw [hw0]; exact (Kept.refl [] w).alloc _
  have hb0 : Blk w0 w.heap.size Hty zero20.toArray := by rw [hw0]; exact Blk.new w Hty _
  have hT0 : Lib.TabIs Tryd.prog w0 "internal/strconv.uint64pow10" .u64 Lib.pow10Tab := Lib.tabBelow_of_tabIs hT w0 (hk0.below (Nat.le_refl _) (by simp))
  have C1 := hid (newHasher_calls k n w0 h1 h4 hn hT0)
  have HK0 := hid hk0
  have HB0 := hid hb0
  have HW0 : Hid (w.alloc (.cells #[.int .u8 0, .int .u8 0, .int .u8 0, .int .u8 0, .int .u8 0, .int .u8 0, .int .u8 0, .int .u8 0, .int .u8 0, .int .u8 0, .int .u8 0, .int .u8 0, .int .u8 0, .int .u8 0, .int .u8 0, .int .u8 0, .int .u8 0, .int .u8 0, .int .u8 0, .int .u8 0] 37) = w0) := hid (by rw [hw0]; rfl)
  have HP := hid hB
  have HL := hid hB.len
  have HBW := hid hBw
  have HN := hid hn
  have hna : ∀ sb, ∀ w : World, Sem.run Tryd.prog (nilAhead 233 73 (.pointer (some ⟨sb, 0, none⟩)) "Write") w = .ok (some false) w := fun _ _ => by kernel_rfl
  have hme : ∀ sb, ∀ w : World, Sem.run Tryd.prog (method 233 73 (.pointer (some ⟨sb, 0, none⟩)) "Write") w = .ok (65, .pointer (some ⟨sb, 0, none⟩)) w := fun _ _ => by kernel_rfl
  clear h1 h4 hB hBw hn hT hw0 hk0 hb0 hT0
  go_enter Tryd.func17, Tryd.ntmps17
  go_wp2_with fail
  rw [HW0.out]
  refine C1.out.mono ?_
  rintro e w1 ⟨sb, v1, rfl, hs1⟩
  have hs2 := hs1.kept ((Kept.refl [] w1).alloc (.cells #[.iface 73 (.pointer (some ⟨sb, 0, none⟩))] HT))
  have hb2 := Blk.new w1 HT #[.iface 73 (.pointer (some ⟨sb, 0, none⟩))]
  have hr2 := (HB0.out.kept hs1.k (by simp)).alloc (.cells #[.iface 73 (.pointer (some ⟨sb, 0, none⟩))] HT)
  have HP2 : Hid (Bytes (w1.alloc (.cells #[.iface 73 (.pointer (some ⟨sb, 0, none⟩))] HT)) B A n l) := hid ((HP.out.below (HK0.out.below HBW.out (by simp))).below (hs2.k.below (Nat.le_trans HBW.out HK0.out.size) (by simp)))
  have HS2 := hid hs2
  have HB2 := hid hb2
  have HR2 := hid hr2
  have hna' := hna sb
  have hme' := hme sb
  have q2 : (w1.alloc (.cells #[.iface 73 (.pointer (some ⟨sb, 0, none⟩))] HT)).cell? ⟨w1.heap.size, 0, none⟩ = some (.iface 73 (.pointer (some ⟨sb, 0, none⟩))) := hb2.cell 0 rfl
  clear hs1 hs2 hb2 hr2 C1 HP hna hme
  go_wp2_with fail
  refine (HS2.out.write HP2.out (by have := header_len k n HN.out; have := HN.out; omega)).mono ?_
  rintro e w3 ⟨rfl, hk3, v3, hs3⟩
  have hb3 := HB2.out.kept hk3 (foot_ne HS2.out HB2.out (by decide) (by decide))
  have hr3 := HR2.out.kept hk3 (foot_ne HS2.out HR2.out (by decide) (by decide))
  have q3 : w3.cell? ⟨w1.heap.size, 0, none⟩ = some (.iface 73 (.pointer (some ⟨sb, 0, none⟩))) := hb3.cell 0 rfl
  have HC := hid (hsum_calls w0 w3 sb v3 _ hs3 (by have h1 := header_len k n HN.out; have h2 := HN.out; have h3 := HL.out; rw [List.length_append]; omega))
  have HR3 := hid hr3
  have HS3 := hid hs3
  clear q2 hk3 hb3 hr3 hs3 HP2 HS2 HB2 HR2
  go_wp2_with fail
  refine HC.out.mono ?_
  rintro e w4 ⟨rfl, hk4⟩
  have HR4 := hid (HR3.out.kept hk4 (by simp))
  have HK4 := hid ((HK0.out.trans_ HS3.out.k).trans_ hk4)
  have hd : header k n ++ l = header k l.length ++ l := by rw [HL.out]
  rw [hd]
  have hlc : (byteCells (objHash k l)).length = 20 := by simp [byteCells, objHash, sha1_len]
  have HSz : Hid ((Tryd.prog.info? Hty).map (·.size) = some (byteCells (objHash k l)).toArray.size) := hid (by rw [infoHash]; simp [hlc])
  have HOld : Hid (zero20.toArray.size = (byteCells (objHash k l)).toArray.size) := hid (by simp [hlc, zero20])
  have HOne := hid (all_one (cells_one (objHash k l)))
  rw [show sha1 (header k l.length ++ l) = objHash k l from rfl]
  clear hk4 HC HS3 HR3 q3 hd hlc
  go_wp2_with (first
    | (refine wpList_store_row rfl Hty (.tmp 4) (.tmp 15) rfl w.heap.size (byteCells (objHash k l)).toArray rfl rfl Hty zero20.toArray HR4.out HSz.out HOld.out HOne.out ?_)
    | fail)
  have hb5 : (w4.setRow w.heap.size (byteCells (objHash k l)).toArray).heap[w.heap.size]? = some (.cells (byteCells (objHash k l)).toArray Hty (0, 0)) := setRow_heap w4 w.heap.size _ _ Hty _ HR4.out
  refine bodyPost_ret (results_cell_row rfl _ _ w.heap.size Hty (byteCells (objHash k l)).toArray (0, 0) _ rfl hb5 Tryd.underlying37 rfl HSz.out) rfl ?_
  exact ⟨rfl, HK4.out.trans (kept_setRow _) (by simp)⟩
/-- the 40 digits of a hash -/
def hexS (l : List UInt8) : ByteArray := ⟨(Hx.encode l).toArray⟩
set_option maxRecDepth 100000 in
set_option maxHeartbeats 4000000 in
theorem hashText_calls (l : List UInt8) (w : World) (h : l.length = 20) :
    Calls Tryd.prog 15 #[.agg (byteCells l).toArray] w fun e w' => e = .returned (.string (hexS l)) ∧ Kept [] w w' := by
  have hk0 : Kept [] w (w.alloc (.cells (byteCells l).toArray Hty)) := (Kept.refl _ w).alloc _
  have hb0 := Blk.new w Hty (byteCells l).toArray
  have c1' := Tryd.hex_EncodeToString_bytes w.heap.size 0 20 l (w.alloc (.cells (byteCells l).toArray Hty)) (fun i hi => by
    rw [Nat.zero_add]
    refine hb0.cell i ?_
    simp [byteCells, hi]) hb0.lt (by omega)
  rw [h] at c1'
  have c1 := hid c1'
  have HK0 := hid hk0
  clear h hk0 hb0 c1'
  go_enter Tryd.func15, Tryd.ntmps15
  go_wp2_with fail
  refine c1.out.mono ?_
  rintro e w1 ⟨rfl, hb⟩
  have HK := hid (HK0.out.trans (T := []) (Kept.of_below hb) (by simp))
  clear hb c1
  go_wp2_with fail
  go_ret
  exact ⟨rfl, HK.out⟩
theorem hexS_size (l : List UInt8) (h : l.length = 20) : (hexS l).size = 40 := by
  have := Hx.encode_length l
  simp [hexS, ByteArray.size]; omega
end Go.Proofs.YtdbkafpflicdiaaDoor.ob
