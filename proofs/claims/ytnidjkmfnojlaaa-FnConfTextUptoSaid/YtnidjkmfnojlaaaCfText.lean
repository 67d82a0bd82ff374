/- spec.optionsText, spec.ConfText. -/
import Derived.Test.YtnidjkmfnojlaaaCfEnc2
import Derived.Deep.RegionHeld3
set_option linter.unusedVariables false
attribute [local go_sem ↓] Go.wp_at_zero Go.wp_at_succ
namespace Go.Proofs.Ytnidjkmfnojlaaa.cf
open Go.RowKit Lib mem opn frm strs text

/-- a text of just these letters -/
def TextIs (w : World) (l : List UInt8) (e : Ending) (w' : World) : Prop := Kept [] w w' ∧ ∃ s : ByteArray, e = .returned (.string s) ∧ s.data.toList = l
theorem size_len (s : ByteArray) : s.data.toList.length = s.size := by simp
attribute [local go_sem] OptD.cells SubD.cells SecD.cells
set_option maxRecDepth 100000 in
set_option maxHeartbeats 8000000 in
theorem optionsText_calls (B : Nat) (v : Value) (xs : List OptD) (w : World) (h : OptSl w B v xs) (hB : B ≤ w.heap.size) (hok : ∀ o ∈ xs, OptOk o) (hn : xs.length ≤ 1048576) (hs : (optsText xs).length ≤ 140737488355328) :
    Calls Try.prog 15 #[v] w (TextIs w (optsText xs)) := by
  obtain ⟨A, c, rfl, hF⟩ := h
  have HF := hid hF
  have hn' : (xs.length : Int) ≤ 1048576 := by omega
  have HBB := hid hB
  have HOK := hid hok
  have HS := hid hs
  obtain ⟨n, hnn⟩ : ∃ n, n = xs.length := ⟨_, rfl⟩
  have HNN := hid hnn
  rw [← hnn] at HF hn' ⊢
  clear hF hn hB hnn hok hs
  go_enter Try.func15, Try.ntmps15
  go_wp2_with fail
  go_loopw [3, 8] (fun tv iv wr => ∃ k : Nat, k ≤ n ∧ iv = .int .i64 k ∧ Hid (Kept [] w wr) ∧ ∃ t : ByteArray, tv = .string t ∧ Hid (t.data.toList = optsText (xs.take k))) (fun _ iv _ => n - (RowKit.intOf iv).toNat)
  case atStart => exact ⟨0, by omega, rfl, hid (Kept.refl _ _), _, rfl, hid (by simp [optsText])⟩
  case round =>
    obtain ⟨k, hk, rfl, hK, t, rfl, hT⟩ := hrel
    by_cases hlt : k < n
    · obtain ⟨g, o, x, rfl, hg, hxk, hmem, hR⟩ := at_kept HF.out OptD.len hK.out HBB.out hlt
      have HR := hid hR
      have hx := HOK.out x hmem
      have hvl := hx.v.2
      have hkl := hx.k.2
      have hfl := flat_le' (f := optText) hxk
      have htl : t.size + (optText x).length ≤ 140737488355328 := by
        have h1 := HS.out
        have h2 := size_len t
        rw [hT.out] at h2
        unfold optsText at h1 h2
        omega
      obtain ⟨a1, k1, l1, z1⟩ := cat_ex (P := Try.prog) ⟨#[9]⟩ x.key (by have : (⟨#[9]⟩ : ByteArray).size = 1 := rfl; omega)
      obtain ⟨a2, k2, l2, z2⟩ := cat_ex (P := Try.prog) a1 ⟨#[32, 61, 32]⟩ (by have : (⟨#[9]⟩ : ByteArray).size = 1 := rfl; have : (⟨#[32, 61, 32]⟩ : ByteArray).size = 3 := rfl; omega)
      obtain ⟨a3, k3, l3, z3⟩ := cat_ex (P := Try.prog) a2 x.val (by have : (⟨#[9]⟩ : ByteArray).size = 1 := rfl; have : (⟨#[32, 61, 32]⟩ : ByteArray).size = 3 := rfl; omega)
      obtain ⟨a4, k4, l4, z4⟩ := cat_ex (P := Try.prog) a3 ⟨#[10]⟩ (by have : (⟨#[9]⟩ : ByteArray).size = 1 := rfl; have : (⟨#[32, 61, 32]⟩ : ByteArray).size = 3 := rfl; have : (⟨#[10]⟩ : ByteArray).size = 1 := rfl; omega)
      have hl4 : a4.data.toList = optText x := by rw [l4, l3, l2, l1]; rfl
      obtain ⟨a5, k5, l5, z5⟩ := cat_ex (P := Try.prog) t a4 (by have := size_len a4; rw [hl4] at this; omega)
      have HL5 : Hid (a5.data.toList = optsText (xs.take (k + 1))) := hid (by rw [l5, hl4, hT.out]; exact (flat_snoc hxk).symm)
      have hlt' : (k : Int) < n := by omega
      clear l1 l2 l3 l4 l5 z1 z2 z3 z4 z5 hl4 htl hfl hR hxk hg hx hvl hkl hmem
      go_wp2_with (first
        | (refine wpList_load_mid rfl Oty (.tmp 10) rfl g (o + k * 2) rfl x.cells _ HR.out Try.underlying53 rfl infoO ?_)
        | (refine wpList_store_kept rfl Oty (.tmp 5) (.tmp 11) rfl wr.heap.size x.cells.toArray rfl rfl Oty _ (Blk.new wr Oty _) (opt_sz x) rfl (opt_all x) ?_; intro w2 h1 h2 h3; have q0 : w2.cell? ⟨wr.heap.size, 0, none⟩ = some (.string x.key) := h1.out.cell 0 rfl; have q1 : w2.cell? ⟨wr.heap.size, 1, none⟩ = some (.string x.val) := h1.out.cell 1 rfl; have HK2 := hid ((hK.out.alloc _).trans h2.out (by simp; exact hK.out.size)); clear h1 h2 h3))
      go_roundw
      case rel => exact ⟨k + 1, by omega, by go_num, HK2, _, rfl, HL5⟩
      case measure => simp [RowKit.intOf]; omega
    · have hlt' : ¬ (k : Int) < n := by omega
      go_wp2_with fail
      go_ret
      have e : xs.take k = xs := List.take_of_length_le (by have := HNN.out; omega)
      have := hT.out
      rw [e] at this
      exact ⟨hK.out, t, rfl, this⟩
end Go.Proofs.Ytnidjkmfnojlaaa.cf
