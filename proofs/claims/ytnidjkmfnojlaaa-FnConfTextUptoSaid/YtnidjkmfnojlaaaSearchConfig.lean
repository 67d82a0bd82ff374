/- Contracts of a package's searches in texts (loop.example/pub-g01474/pub/gogit/plumbing/format/config). -/
import Derived.Test.YtnidjkmfnojlaaaStrs
import Derived.Test.YtnidjkmfnojlaaaText
import Derived.Laws.AppendOwn
import Derived.OwnWalk
import Derived.Deep.DeepMust
import Derived.WideShapes
import Derived.Lib.OthersKept
set_option linter.unusedVariables false
namespace Go.Proofs.Ytnidjkmfnojlaaa.searchConfig
open Go.RowKit Lib strs text Go.WideShapes

theorem none_take_succ (p : UInt8 → Bool) (s : ByteArray) (k : Nat) (h : k < s.size) (h0 : (s.data.toList.take k).any p = false) (h1 : p s[k] = false) : (s.data.toList.take (k + 1)).any p = false := by
  rw [List.take_succ_eq_append_getElem (by simpa using h), List.any_append, h0]
  simp only [List.any_cons, List.any_nil, Bool.or_false, Bool.false_or, Array.getElem_toList]
  exact h1
theorem any_at (p : UInt8 → Bool) (s : ByteArray) (k : Nat) (h : k < s.size) (h1 : p s[k] = true) : s.data.toList.any p = true := by
  rw [List.any_eq_true]
  exact ⟨s[k], by rw [show s[k] = s.data[k] from rfl]; exact Array.getElem_mem_toList _, h1⟩
/-- one of a text's bytes is one of some -/
def anyOf (cs l : List UInt8) : Bool := l.any fun c => cs.any (· == c)
theorem any_take (p : UInt8 → Bool) (s : ByteArray) (k : Nat) (h : k < s.size) (h0 : (s.data.toList.take k).any p = false) (h1 : p s[k] = false) : (s.data.toList.take (k + 1)).any p = false :=
  none_take_succ p s k h h0 h1
theorem any_end (p : UInt8 → Bool) (s : ByteArray) (k : Nat) (h : ¬ k < s.size) (h0 : (s.data.toList.take k).any p = false) : s.data.toList.any p = false := by
  rw [List.take_of_length_le (by simp; omega)] at h0
  exact h0
def InAt (C : Nat) (cs s : ByteArray) (c : UInt8) (B pos q : Nat) (w wi : World) : Prop :=
  wi.heap[C]? = some (.stringIter cs q) ∧ wi.heap[B]? = some (.stringIter s pos) ∧ Below B w wi ∧ (cs.data.toList.take q).any (· == c) = false ∧ q ≤ cs.size
set_option maxRecDepth 100000 in
set_option maxHeartbeats 2000000 in
theorem indexAny_calls (s cs : ByteArray) (w : World) (hs : s.size ≤ 140737488351232) (hcs : cs.size ≤ 140737488351232) (ha : ∀ k (h : k < s.size), s[k].toNat < 128) (hca : ∀ k (h : k < cs.size), cs[k].toNat < 128) :
    Calls Try.prog 33 #[.string s, .string cs] w fun e w' => ∃ r : Int, e = .returned (.int .i64 r) ∧ decide (0 ≤ r) = anyOf cs.data.toList s.data.toList ∧ Below w.heap.size w w' := by
  have HA := hid ha
  have HCA := hid hca
  clear ha hca
  go_enter Try.func33, Try.ntmps33
  go_wp2_with fail
  go_loopw [5, 6] (fun _ _ wr => ∃ pos, pos ≤ s.size ∧ wr.heap[w.heap.size]? = some (.stringIter s pos) ∧ Below w.heap.size w wr ∧ Hid ((s.data.toList.take pos).any (fun c => cs.data.toList.any (· == c)) = false)) (fun _ _ wr => s.size - wr.iterPos w.heap.size)
  case atStart => exact ⟨0, by omega, World.iter_heap _ _ _, (Below.refl _ _).alloc (Nat.le_refl _) _, hid (by simp)⟩
  case round =>
    obtain ⟨pos, hpos, hit, hb, hno⟩ := hrel
    have HB := hid hb; clear hb
    have HIT := hid hit; clear hit
    by_cases hp : pos < s.size
    · have hnx := fun ty => run_next_ascii_at (P := Try.prog) wr w.heap.size s pos ty HIT.out hp (HA.out pos hp)
      have hB1 := hid (below_iterAt HB.out (Nat.le_refl _) s (pos + 1))
      have hI1 := hid (iterAt_heap wr w.heap.size s pos (pos + 1) HIT.out)
      have hsz1 : Hid (w.heap.size < (wr.iterAt w.heap.size s (pos + 1)).heap.size) := hid (Array.getElem?_eq_some_iff.1 hI1.out).1
      have hp0 : Hid (wr.iterPos w.heap.size = pos) := hid (by unfold World.iterPos; rw [HIT.out])
      obtain ⟨W1, hW1⟩ : ∃ W1, W1 = wr.iterAt w.heap.size s (pos + 1) := ⟨_, rfl⟩
      rw [← hW1] at hnx hB1 hI1 hsz1
      clear hW1 HB HIT
      go_wp2_with fail
      clear hnx
      go_loopw [8] (fun _ wi => ∃ q, InAt W1.heap.size cs s s[pos] w.heap.size (pos + 1) q w wi) (fun _ wi => cs.size - wi.iterPos W1.heap.size)
      case atStart =>
        exact ⟨0, World.iter_heap _ _ _, ((alloc_old W1 _ w.heap.size hsz1.out).trans hI1.out), hB1.out.alloc hB1.out.size _, by simp, by omega⟩
      case round =>
        obtain ⟨q, hin⟩ := hrel
        have HIN := hid hin; clear hin
        by_cases hq : q < cs.size
        · have hnx := fun ty => run_next_ascii_at (P := Try.prog) wr W1.heap.size cs q ty HIN.out.1 hq (HCA.out q hq)
          by_cases he : cs[q] = s[pos]
          · have hr : Hid (anyOf cs.data.toList s.data.toList = true) := hid (any_at _ s pos hp (any_at _ cs q hq (by simpa using he)))
            have hBz := hid (below_iterAt HIN.out.2.2.1 (Nat.le_of_lt hsz1.out) cs (q + 1) : Below w.heap.size w (wr.iterAt W1.heap.size cs (q + 1)))
            have ee : ((s[pos].toNat : Int) == (cs[q].toNat : Int)) = true := by rw [he]; simp
            clear he
            go_wp2_with fail
            go_ret
            exact ⟨pos, rfl, by rw [hr.out]; simp, hBz.out⟩
          · have ee : ((s[pos].toNat : Int) == (cs[q].toNat : Int)) = false := by
              rw [beq_eq_false_iff_ne]; intro h; exact he (UInt8.toNat_inj.1 (by omega)).symm
            have hz := hid (any_take (· == s[pos]) cs q hq HIN.out.2.2.2.1 (by simpa using he))
            have hBz := hid (below_iterAt HIN.out.2.2.1 (Nat.le_of_lt hsz1.out) cs (q + 1) : Below w.heap.size w (wr.iterAt W1.heap.size cs (q + 1)))
            have hI2 := hid (iterAt_heap wr W1.heap.size cs q (q + 1) HIN.out.1)
            have hI3 : Hid ((wr.iterAt W1.heap.size cs (q + 1)).heap[w.heap.size]? = some (.stringIter s (pos + 1))) := hid ((iterAt_other wr W1.heap.size w.heap.size cs (q + 1) (Nat.ne_of_lt hsz1.out)).trans HIN.out.2.1)
            clear he
            go_wp2_with fail
            go_roundw
            case rel => exact ⟨q + 1, hI2.out, hI3.out, hBz.out, hz.out, by omega⟩
            case measure =>
              have e1 : (wr.iterAt W1.heap.size cs (q + 1)).iterPos W1.heap.size = q + 1 := by unfold World.iterPos; rw [hI2.out]
              have e2 : wr.iterPos W1.heap.size = q := by unfold World.iterPos; rw [HIN.out.1]
              rw [e1, e2]; omega
        · have hnx := fun ty => run_next_end_at (P := Try.prog) wr W1.heap.size cs q ty HIN.out.1 hq
          have hz := hid (any_take (fun c => cs.data.toList.any (· == c)) s pos hp hno.out (any_end _ cs q hq HIN.out.2.2.2.1))
          go_wp2_with fail
          go_roundw
          case rel => exact ⟨pos + 1, by omega, HIN.out.2.1, HIN.out.2.2.1, hz⟩
          case measure =>
            have e1 : wr.iterPos w.heap.size = pos + 1 := by unfold World.iterPos; rw [HIN.out.2.1]
            have e2 := hp0.out
            omega
    · have hnx := fun ty => run_next_end_at (P := Try.prog) wr w.heap.size s pos ty HIT.out hp
      go_wp2_with fail
      go_ret
      exact ⟨-1, rfl, by rw [show anyOf cs.data.toList s.data.toList = false from any_end _ s pos hp hno.out]; rfl, HB.out⟩
theorem containsAny_calls (s cs : ByteArray) (w : World) (hs : s.size ≤ 140737488351232) (hcs : cs.size ≤ 140737488351232) (ha : ∀ k (h : k < s.size), s[k].toNat < 128) (hca : ∀ k (h : k < cs.size), cs[k].toNat < 128) :
    Calls Try.prog 29 #[.string s, .string cs] w fun e w' => e = .returned (.bool (anyOf cs.data.toList s.data.toList)) ∧ Below w.heap.size w w' := by
  have HA := hid ha
  have HCA := hid hca
  clear ha hca
  go_enter Try.func29, Try.ntmps29
  go_wp2_with fail
  refine (indexAny_calls s cs _ hs hcs HA.out HCA.out).mono ?_
  rintro e w' ⟨r, rfl, hr, hb⟩
  have HR := hid hr; clear hr
  have HB := hid hb; clear hb
  go_wp2_with fail
  go_ret
  exact ⟨ret_bool HR.out, HB.out⟩
end Go.Proofs.Ytnidjkmfnojlaaa.searchConfig
