/- plumbing.NewHash and Hash.String at names of 40 digits. -/
import Derived.Test.YtkjfndkcagkhaaaDoorFrame
import Derived.Test.YtkjfndkcagkhaaaDoorMem
import Derived.Test.YtkjfndkcagkhaaaDoorShelf
import Derived.Test.YtkjfndkcagkhaaaDoorSlices
import Derived.Lib.HexFns2
import Derived.Deep.RegionHeld3
import Derived.Deep.DrawnRows
import Derived.Deep.QuietTactic
import Derived.Deep.LoopGhost
import Derived.BigQuiet
import Derived.LoopN
import Derived.LaidEql
import Derived.WalkKit
import Derived.Lib.Hide
import Derived.ProofKit
import Derived.Outline
set_option linter.unusedVariables false
attribute [local go_sem ↓] Go.wp_at_zero Go.wp_at_succ
namespace Go.Proofs.YtkjfndkcagkhaaaDoor.hash
open Go.RowKit Lib frm mem

def Low (c : UInt8) : Prop := (48 ≤ c.toNat ∧ c.toNat ≤ 57) ∨ (97 ≤ c.toNat ∧ c.toNat ≤ 102)
instance (c : UInt8) : Decidable (Low c) := by unfold Low; infer_instance
theorem low_v : ∀ n : Fin 256, Low (UInt8.ofNat n.val) → Hx.v (UInt8.ofNat n.val) < 16 ∧ Hx.digit (Hx.v (UInt8.ofNat n.val)) = UInt8.ofNat n.val := by decide +kernel
theorem low_of (c : UInt8) (h : Low c) : Hx.v c < 16 ∧ Hx.digit (Hx.v c) = c := by
  have := low_v ⟨c.toNat, c.toNat_lt⟩
  simp only [UInt8.ofNat_toNat] at this
  exact this h
theorem dec_low (n : Nat) : ∀ l : List UInt8, l.length = 2 * n → (∀ x ∈ l, Low x) → (Hx.decode l).2 = .ok ∧ (Hx.decode l).1.length = n ∧ Hx.encode (Hx.decode l).1 = l := by
  induction n with
  | zero => intro l h _; obtain rfl : l = [] := List.eq_nil_of_length_eq_zero (by omega); rw [Hx.decode_nil]; exact ⟨rfl, rfl, rfl⟩
  | succ n ih =>
    intro l h hl
    match l, h, hl with
    | p :: q :: t, h, hl =>
      obtain ⟨p1, p2⟩ := low_of p (hl p (by simp))
      obtain ⟨q1, q2⟩ := low_of q (hl q (by simp))
      obtain ⟨t1, t2, t3⟩ := ih t (by simp only [List.length_cons] at h; omega) (fun x hx => hl x (by simp [hx]))
      rw [Hx.decode_two, if_neg (by omega), if_neg (by omega)]
      refine ⟨t1, by simp [t2], ?_⟩
      have e : (UInt8.ofNat (Hx.v p * 16 + Hx.v q)).toNat = Hx.v p * 16 + Hx.v q := by
        have : (Hx.v p * 16 + Hx.v q) % 256 = Hx.v p * 16 + Hx.v q := Nat.mod_eq_of_lt (by omega)
        simp
        omega
      simp only []
      rw [Hx.encode_cons, e, t3, show (Hx.v p * 16 + Hx.v q) / 16 = Hx.v p by omega, show (Hx.v p * 16 + Hx.v q) % 16 = Hx.v q by omega, p2, q2]
/-- a name: 40 digits in base 16 with small letters -/
def Hex40 (s : ByteArray) : Prop := s.size = 40 ∧ ∀ x ∈ s.data.toList, Low x
/-- its 20 bytes -/
def raw (s : ByteArray) : List UInt8 := (Hx.decode s.data.toList).1
theorem Hex40.facts {s : ByteArray} (h : Hex40 s) : (Hx.decode s.data.toList).2 = .ok ∧ (raw s).length = 20 ∧ Hx.encode (raw s) = s.data.toList :=
  dec_low 20 s.data.toList (by have := h.1; simpa using this) h.2
def hashCells (s : ByteArray) : List Value := byteCells (raw s)
theorem hashCells_len {s : ByteArray} (h : Hex40 s) : (hashCells s).length = 20 := by simp [hashCells, byteCells, h.facts.2.1]
def HashIs (s : ByteArray) (w : World) (e : Ending) (w' : World) : Prop := e = .returned (.agg (hashCells s).toArray) ∧ Kept [] w w'
def zero20 : List Value := List.replicate 20 (.int .u8 0)
theorem all_one {cs : List Value} (h : ∀ v ∈ cs, v.oneCell' = true) : cs.toArray.all (·.oneCell') = true :=
  Array.all_eq_true_iff_forall_mem.2 (fun v hv => h v (by simpa using hv))
abbrev Hty : TypeId := 102
theorem infoHash : (Tryd.prog.info? Hty).map (·.size) = some 20 := by kernel_rfl
theorem infoU8 : (Tryd.prog.info? 5).map (·.size) = some 1 := by kernel_rfl
theorem hash_one (s : ByteArray) : ∀ v ∈ hashCells s, v.oneCell' = true := cells_one _
set_option maxRecDepth 100000 in
set_option maxHeartbeats 4000000 in
theorem newHash_calls (s : ByteArray) (w : World) (ev : Value) (hE : w.cell? ⟨12, 0, none⟩ = some ev) (hlt : 12 < w.heap.size) (h : Hex40 s) :
    Calls Tryd.prog 53 #[.string s] w (HashIs s w) := by
  have hx := h.facts
  have hcl := hashCells_len h
  have hs : s.size = 40 := h.1
  obtain ⟨w0, hw0⟩ : ∃ w0, w0 = w.alloc (.cells zero20.toArray Hty) := ⟨_, rfl⟩
  have hk0 : Kept [] w w0 := by rw [hw0]; exact (Kept.refl _ w).alloc _
  have hb0 : Blk w0 w.heap.size Hty zero20.toArray := by rw [hw0]; exact Blk.new _ _ _
  have c1' := Tryd.hex_DecodeString_owns s w0 ev ((hk0.cell (p := ⟨12, 0, none⟩) hlt (by simp)).trans hE) (by omega)
  rw [hx.1] at c1'
  have c1 := hid c1'
  have HX := hid (And.intro hx.2 hcl)
  have HK0 := hid hk0
  have HB0 := hid hb0
  have HW0 := hid hw0
  clear hE hlt h hx hs hk0 hb0 c1' hcl
  go_enter Tryd.func53, Tryd.ntmps53
  go_wp2_with fail
  rw [show (w.alloc (.cells #[.int .u8 0, .int .u8 0, .int .u8 0, .int .u8 0, .int .u8 0, .int .u8 0, .int .u8 0, .int .u8 0, .int .u8 0, .int .u8 0, .int .u8 0, .int .u8 0, .int .u8 0, .int .u8 0, .int .u8 0, .int .u8 0, .int .u8 0, .int .u8 0, .int .u8 0, .int .u8 0] Hty)) = w0 from HW0.out.symm]
  refine c1.out.mono ?_
  rintro e w1 ⟨v, rfl, hown, hb1⟩
  have key : ∃ g cap, v = .slice (some ⟨g, 0, none⟩) 20 cap ∧ g < w1.heap.size ∧ ∀ j u, (hashCells s)[j]? = some u → w1.cell? ⟨g, j, none⟩ = some u := by
    have h20 : (Hx.decode s.data.toList).1.length = 20 := HX.out.1.1
    rcases id hown with ⟨hl, ⟨h1, h2⟩ | ⟨b, c, cur, h1, _, hh, _⟩⟩
    · omega
    · rw [h20] at h1
      exact ⟨b, c, h1, Lib.lt_of_heap hh, fun j u hu => by have := hown.cells (g := b) (by rw [h1]; rfl) j u hu; rwa [Lib.addr_add, Nat.zero_add] at this⟩
  obtain ⟨g, cap, rfl, hg, hcell⟩ := key
  have hk1 : Kept [] w0 w1 := Kept.of_below hb1
  obtain ⟨w2, hw2⟩ : ∃ w2, w2 = w1.alloc (.cells zero20.toArray Hty) := ⟨_, rfl⟩
  have hk2 : Kept [] w1 w2 := by rw [hw2]; exact (Kept.refl _ w1).alloc _
  have HB1 := hid ((HB0.out.kept hk1 (by simp)).kept hk2 (by simp))
  have HK1 := hid ((HK0.out.trans hk1 (by simp)).trans hk2 (by simp))
  have HG1 := hid (show Blk w2 w1.heap.size Hty zero20.toArray by rw [hw2]; exact Blk.new w1 Hty zero20.toArray)
  have HSrc := hid (show ∀ j u, (hashCells s)[j]? = some u → w2.cell? ((⟨g, 0, none⟩ : Addr).add j) = some u from fun j u hu => by
    rw [Lib.addr_add, Nat.zero_add]
    exact (hk2.cell (p := ⟨g, j, none⟩) hg (by simp)).trans (hcell j u hu))
  have HLt := hid (show w.heap.size < w1.heap.size from (HB0.out.kept hk1 (by simp)).lt)
  have hln : (hashCells s).length = Nat.min 20 20 := HX.out.2
  have HLn := hid hln
  have HW2 := hid hw2
  clear hown hb1 hg hcell hk1 c1 hln hk2 hw2
  have HG2 : Hid (Blk (w1.alloc (.cells #[.int .u8 0, .int .u8 0, .int .u8 0, .int .u8 0, .int .u8 0, .int .u8 0, .int .u8 0, .int .u8 0, .int .u8 0, .int .u8 0, .int .u8 0, .int .u8 0, .int .u8 0, .int .u8 0, .int .u8 0, .int .u8 0, .int .u8 0, .int .u8 0, .int .u8 0, .int .u8 0] 102)) w1.heap.size Hty zero20.toArray) := hid (by have := HG1.out; rw [HW2.out] at this; exact this)
  have HSrc2 : Hid (∀ j u, (hashCells s)[j]? = some u → (w1.alloc (.cells #[.int .u8 0, .int .u8 0, .int .u8 0, .int .u8 0, .int .u8 0, .int .u8 0, .int .u8 0, .int .u8 0, .int .u8 0, .int .u8 0, .int .u8 0, .int .u8 0, .int .u8 0, .int .u8 0, .int .u8 0, .int .u8 0, .int .u8 0, .int .u8 0, .int .u8 0, .int .u8 0] 102)).cell? ((⟨g, 0, none⟩ : Addr).add j) = some u) := hid (by have := HSrc.out; rw [HW2.out] at this; exact this)
  have HFit := hid (show 0 + (hashCells s).length ≤ zero20.length by rw [HLn.out]; decide)
  have HSpl := hid (show splice zero20 0 (hashCells s) = hashCells s by
    unfold splice
    rw [List.take_zero, List.nil_append, List.drop_eq_nil_of_le (by rw [Nat.zero_add, HLn.out]; decide), List.append_nil])
  have HSz := hid (show (Tryd.prog.info? Hty).map (·.size) = some (hashCells s).toArray.size by rw [infoHash]; simp [HX.out.2])
  have HOld := hid (show zero20.toArray.size = (hashCells s).toArray.size by simp [HX.out.2, zero20])
  have HOne := hid (all_one (hash_one s))
  have HBW : Hid (Blk (w1.alloc (.cells #[.int .u8 0, .int .u8 0, .int .u8 0, .int .u8 0, .int .u8 0, .int .u8 0, .int .u8 0, .int .u8 0, .int .u8 0, .int .u8 0, .int .u8 0, .int .u8 0, .int .u8 0, .int .u8 0, .int .u8 0, .int .u8 0, .int .u8 0, .int .u8 0, .int .u8 0, .int .u8 0] 102)) w.heap.size Hty zero20.toArray) := hid (by have := HB1.out; rw [HW2.out] at this; exact this)
  have HKW : Hid (Kept [] w (w1.alloc (.cells #[.int .u8 0, .int .u8 0, .int .u8 0, .int .u8 0, .int .u8 0, .int .u8 0, .int .u8 0, .int .u8 0, .int .u8 0, .int .u8 0, .int .u8 0, .int .u8 0, .int .u8 0, .int .u8 0, .int .u8 0, .int .u8 0, .int .u8 0, .int .u8 0, .int .u8 0, .int .u8 0] 102))) := hid (by have := HK1.out; rw [HW2.out] at this; exact this)
  clear hw0
  go_wp2_with (first
    | (refine wpList_copy_kept rfl (.tmp 11) (.tmp 12) 25 25 rfl 5 Tryd.underlying25 infoU8 (some ⟨w1.heap.size, 0, none⟩) (some ⟨g, 0, none⟩) 20 20 20 cap rfl rfl w1.heap.size 0 zero20 Hty HG2.out (hashCells s) HLn.out (fun _ => ⟨rfl, _, rfl, HSrc2.out⟩) HFit.out (hash_one s) ?_; intro w3 h1 h2 h3; have HB3 := hid (show Blk w3 w1.heap.size Hty (hashCells s).toArray by have := h1.out; rw [HSpl.out] at this; exact this); have HB4 := hid (HBW.out.kept h2.out (by have := HLt.out; simp; omega)); have HK4 := hid (HKW.out.trans h2.out (by have := HLt.out; simp; omega)); clear h1 h2 h3)
    | (refine wpList_load_row rfl Hty (.tmp 5) rfl w1.heap.size rfl Hty (hashCells s).toArray (0, 0) _ HB3.out Tryd.underlying102 rfl HSz.out ?_)
    | (refine wpList_store_row rfl Hty (.tmp 2) (.tmp 14) rfl w.heap.size (hashCells s).toArray rfl rfl Hty zero20.toArray HB4.out HSz.out HOld.out HOne.out ?_))
  have hb5 : (w3.setRow w.heap.size (hashCells s).toArray).heap[w.heap.size]? = some (.cells (hashCells s).toArray Hty (0, 0)) := setRow_heap w3 w.heap.size _ _ Hty _ HB4.out
  refine bodyPost_ret (results_cell_row rfl _ _ w.heap.size Hty (hashCells s).toArray (0, 0) _ rfl hb5 Tryd.underlying102 rfl HSz.out) rfl ?_
  exact ⟨rfl, HK4.out.trans (kept_setRow _) (by simp)⟩
set_option maxRecDepth 100000 in
set_option maxHeartbeats 4000000 in
theorem hashText_calls (s : ByteArray) (w : World) (h : Hex40 s) :
    Calls Tryd.prog 57 #[.agg (hashCells s).toArray] w fun e w' => e = .returned (.string s) ∧ Kept [] w w' := by
  have hx := h.facts
  have hk0 : Kept [] w (w.alloc (.cells (hashCells s).toArray Hty)) := (Kept.refl _ w).alloc _
  have hb0 := Blk.new w Hty (hashCells s).toArray
  have c1' := Tryd.hex_EncodeToString_bytes w.heap.size 0 20 (raw s) (w.alloc (.cells (hashCells s).toArray Hty)) (fun i hi => by
    rw [Nat.zero_add]
    refine hb0.cell i ?_
    simp [hashCells, byteCells, hi]) hb0.lt (by rw [hx.2.1]; omega)
  rw [hx.2.1, hx.2.2] at c1'
  have c1 := hid c1'
  have HK0 := hid hk0
  clear h hx hk0 hb0 c1'
  go_enter Tryd.func57, Tryd.ntmps57
  go_wp2_with fail
  refine c1.out.mono ?_
  rintro e w1 ⟨rfl, hb⟩
  have HK := hid (HK0.out.trans (T := []) (Kept.of_below hb) (by simp))
  clear hb c1
  go_wp2_with fail
  go_ret
  exact ⟨by obtain ⟨⟨d⟩⟩ := s; rfl, HK.out⟩
end Go.Proofs.YtkjfndkcagkhaaaDoor.hash
