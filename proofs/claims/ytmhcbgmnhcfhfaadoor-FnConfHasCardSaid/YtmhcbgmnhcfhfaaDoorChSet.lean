/- config.Options: withAddedOption, withSettedOption: weakly. -/
import Derived.Test.YtmhcbgmnhcfhfaaDoorChOpt
set_option linter.unusedVariables false
attribute [local go_sem ↓] Go.wp_at_zero Go.wp_at_succ
namespace Go.Proofs.YtmhcbgmnhcfhfaaDoor.cf
open Go.RowKit Lib mem opn frm strs

/-- options of the call's own, n at most -/
def OwnOpts (w0 w : World) (v : Value) (n : Nat) : Prop := Kept [] w0 w ∧ ∃ m vs os, m ≤ n ∧ w.ownsRow w0.heap.size PO 1 v m vs ∧ All2 (OP w) vs os ∧ os.length = m
theorem OwnOpts.kept {w0 w w' : World} {v : Value} {n : Nat} (h : OwnOpts w0 w v n) (hk : Kept [] w w') : OwnOpts w0 w' v n := by
  obtain ⟨h0, m, vs, os, hm, ho, ha, hl⟩ := h
  exact ⟨h0.trans_ hk, m, vs, os, hm, own_ty (ts := [PO]) ho (.of_kept hk) (by simp), ha.mono fun _ _ h => h.ty (ts := [TO]) (.of_kept hk) (by simp), hl⟩
theorem OwnOpts.more {w0 w : World} {v : Value} {n n' : Nat} (h : OwnOpts w0 w v n) (hn : n ≤ n') : OwnOpts w0 w v n' := by
  obtain ⟨h0, m, vs, os, hm, r⟩ := h; exact ⟨h0, m, vs, os, Nat.le_trans hm hn, r⟩
/-- one more option, in block gp, stands behind -/
theorem OwnOpts.snoc {w0 w w6 : World} {v v6 : Value} {m n gp : Nat} {vs : List Value} {os : List OptD} {o : OptD} (h0 : Kept [] w0 w) (hm : m ≤ n) (hown : w.ownsRow w0.heap.size PO 1 v m vs) (ha : All2 (OP w) vs os) (hl : os.length = m) (hb : Blk w gp TO #[.string o.key, .string o.val])
    (h6 : w6.ownsRow w0.heap.size PO 1 v6 (m + 1) (vs ++ [.pointer (some ⟨gp, 0, none⟩)])) (hg : w.grownBy w6 v.ownBlock) : OwnOpts w0 w6 v6 (n + 1) := by
  have hT : Ty [TO] w w6 := Ty.own hown hg (by decide)
  exact ⟨kept_own h0 hown (Nat.le_refl _) hg, m + 1, _, os ++ [o], by omega, h6, (ha.mono fun _ _ h => h.ty hT (by simp)).snoc ⟨gp, rfl, hT _ _ _ (by simp) hb⟩, by simp [hl]⟩
set_option maxRecDepth 100000 in
set_option maxHeartbeats 4000000 in
theorem withAdded_calls (w0 : World) (v : Value) (n : Nat) (key val : ByteArray) (w : World) (h : OwnOpts w0 w v n) (hn : n ≤ 1048576) :
    Calls Tryd.prog 62 #[v, .string key, .string val] w fun e w' => ∃ v', e = .returned v' ∧ OwnOpts w0 w' v' (n + 1) := by
  obtain ⟨h0, m, vs, os, hm, ho, ha, hl⟩ := h
  obtain ⟨i0, hi, hz0, hz1, hz2⟩ := infoPtr PO (by kernel_rfl)
  obtain ⟨w1, hw1⟩ : ∃ w1, w1 = (w.alloc (.cells #[.string key, .string val] TO)).alloc (.cells #[.pointer (some ⟨w.heap.size, 0, none⟩)] PO) := ⟨_, rfl⟩
  have hk1 : Kept [] w w1 := by rw [hw1]; exact ((Kept.refl [] w).alloc _).alloc _
  have HK := hid (h0.trans_ hk1)
  have HO := hid (own_ty (ts := [PO]) ho (.of_kept hk1) (by simp))
  have HA := hid (show All2 (OP w1) vs os from ha.mono fun _ _ h => h.ty (ts := [TO]) (.of_kept hk1) (by simp))
  have HB := hid (show Blk w1 w.heap.size TO #[.string key, .string val] by rw [hw1]; exact (Blk.new w TO #[.string key, .string val]).alloc _)
  have HR := hid (show Reads w1 (w.heap.size + 2) 1 (some ⟨w.heap.size + 1, 0, none⟩) 1 [.pointer (some ⟨w.heap.size, 0, none⟩)] by
    rw [hw1]
    have := one_ptr (w.alloc (.cells #[.string key, .string val] TO)) (.pointer (some ⟨w.heap.size, 0, none⟩)) (e := PO) (B := w.heap.size + 2) (by simp)
    simpa using this)
  have HL := hid hl
  have HM := hid hm
  have HN := hid (show m ≤ 1048576 by omega)
  have HW1 := hid hw1
  clear h0 ho ha hk1 hw1 hl hm hn
  go_enter Tryd.func62, Tryd.ntmps62
  go_wp2_with (at_builtin; rw [← HW1.out]; refine wpList_append_any _ rfl (.tmp 7) (.tmp 12) _ rfl w0.heap.size PO i0 _ 1 8 Tryd.underlying79 hi hz0 hz1 hz2 rfl (by omega) v m vs rfl HO.out (w.heap.size + 2) (some ⟨w.heap.size + 1, 0, none⟩) 1 1 [.pointer (some ⟨w.heap.size, 0, none⟩)] rfl HR.out (by simp [Value.oneCell']) (by have := HN.out; simp only [maxLen]; omega) (by have := HN.out; omega) HK.out.size ?_; intro v6 w6 hown6 hg6 hat6; have H6 := hid (OwnOpts.snoc (o := ⟨key, val⟩) HK.out HM.out HO.out HA.out HL.out HB.out hown6 hg6); clear hown6 hg6 hat6)
  go_ret
  exact ⟨_, rfl, H6.out⟩
end Go.Proofs.YtmhcbgmnhcfhfaaDoor.cf
