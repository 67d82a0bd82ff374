/- spec.Short and spec.Joined. -/
import Derived.Test.YtdbkafpflicdiaaDoorBRows
import Derived.Test.YtdbkafpflicdiaaDoorShaBase
set_option linter.unusedVariables false
namespace Go.Proofs.YtdbkafpflicdiaaDoor.ob
open Go.RowKit Lib frm mem brows sha

/-- the pieces have a million bytes at most, counted from n on -/
def shortB : Nat → List (List UInt8) → Bool
  | _, [] => true
  | n, p :: ps => if 1000000 < n + p.length then false else shortB (n + p.length) ps
def total (ls : List (List UInt8)) : Nat := ls.flatten.length
theorem total_cons (p : List UInt8) (ls : List (List UInt8)) : total (p :: ls) = p.length + total ls := by simp [total]
theorem total_app (a b : List (List UInt8)) : total (a ++ b) = total a + total b := by simp [total]
theorem shortB_total : ∀ (ls : List (List UInt8)) (n : Nat), n ≤ 1000000 → shortB n ls = true → n + total ls ≤ 1000000 := by
  intro ls
  induction ls with
  | nil => intro n hn _; simpa [total] using hn
  | cons p ps ih =>
    intro n hn h
    unfold shortB at h
    split at h
    · cases h
    · have := ih (n + p.length) (by omega) h
      rw [total_cons]; omega
theorem total_take (ls : List (List UInt8)) (k : Nat) : total (ls.take k) ≤ total ls := by
  have := total_app (ls.take k) (ls.drop k)
  rw [List.take_append_drop] at this
  omega
/-- true, and then the pieces are short; or false -/
def IsShort (ls : List (List UInt8)) (b : Bool) : Prop := b = true → total ls ≤ 1000000
set_option maxRecDepth 100000 in
theorem short_calls (A : Option Addr) (n c : Nat) (ls : List (List UInt8)) (w : World) (h : LsAt w w.heap.size A n ls) (hn : n ≤ 140737488355328) (hf : ∀ p ∈ ls, p.length ≤ 2147483647) : Calls Tryd.prog 5 #[.slice A n c] w (Tells w (IsShort ls)) := by
  have H := hid h
  have hl := h.len
  have hn' : (n : Int) ≤ 140737488355328 := by omega
  have HL := hid hl
  have HF := hid hf
  clear h hn hl hf
  go_enter Tryd.func5, Tryd.ntmps5
  go_wp2_with fail
  go_loop [3, 8] (fun sv iv => ∃ k t : Nat, k ≤ n ∧ iv = .int .i64 k ∧ sv = .int .i64 t ∧ t ≤ 1000000 ∧ Hid (t = total (ls.take k))) (fun _ iv => n - (RowKit.intOf iv).toNat)
  case atStart => exact ⟨0, 0, by omega, rfl, rfl, by omega, hid (by simp [total])⟩
  case round =>
    obtain ⟨k, t, hk, rfl, rfl, ht, hT⟩ := hrel
    by_cases hlt : k < n
    · obtain ⟨g, o, D, d, p, rfl, hg, hc, _, hp, _, _⟩ := H.out.next hlt
      have hlt' : (k : Int) < n := by omega
      have hpl := HF.out p (List.mem_of_getElem? hp)
      have HT2 : Hid (t + p.length = total (ls.take (k + 1))) := hid (by rw [take_snoc hp, total_app, hT.out]; simp [total])
      clear hp
      by_cases hs : (1000000 : Int) < (t : Int) + p.length
      · go_wp2_with fail
        go_ret
        exact ⟨rfl, _, rfl, nofun⟩
      · go_wp2_with fail
        go_round
        case rel => exact ⟨k + 1, t + p.length, by omega, by go_num, by go_num, by omega, HT2⟩
        case measure => simp [RowKit.intOf]; omega
    · have hlt' : ¬ (k : Int) < n := by omega
      have hkn : k = n := by omega
      go_wp2_with fail
      go_ret
      refine ⟨rfl, _, rfl, fun _ => ?_⟩
      have := hT.out
      rw [hkn, ← HL.out, List.take_length] at this
      omega
set_option maxRecDepth 100000 in
set_option maxHeartbeats 1000000 in
theorem joined_calls (A : Option Addr) (n c : Nat) (ls : List (List UInt8)) (w : World) (h : LsAt w w.heap.size A n ls) (hn : n ≤ 140737488355328) (ht : total ls ≤ 1000000) : Calls Tryd.prog 7 #[.slice A n c] w fun e w' => Kept [] w w' ∧ ∃ v, e = .returned v ∧ Own w w' v (total ls) ls.flatten := by
  obtain ⟨i0, hi, hz0, hz1, hz2⟩ := info_parts infoU8
  have H := hid h
  have hl := h.len
  have hn' : (n : Int) ≤ 140737488355328 := by omega
  have HL := hid hl
  have HT := hid ht
  clear h hn hl ht
  go_enter Tryd.func7, Tryd.ntmps7
  go_wp2_with fail
  go_loopw [3, 8] (fun vv iv wr => ∃ k t : Nat, k ≤ n ∧ iv = .int .i64 k ∧ Hid (Kept [] w wr) ∧ Hid (t = total (ls.take k)) ∧ Hid (Own w wr vv t (ls.take k).flatten)) (fun _ iv _ => n - (RowKit.intOf iv).toNat)
  case atStart => exact ⟨0, 0, by omega, rfl, hid (Kept.refl _ _), hid (by simp [total]), hid ⟨by simp, World.ownsRow_nil _ _ _ _⟩⟩
  case round =>
    obtain ⟨k, t, hk, rfl, hK, hT, hO⟩ := hrel
    by_cases hlt : k < n
    · obtain ⟨g, o, D, d, p, rfl, hg, hc, _, hp, hpd, hb⟩ := (H.out.below (hK.out.below (Nat.le_refl _) (by simp))).next hlt
      have hlt' : (k : Int) < n := by omega
      have HT2 : Hid (t + p.length = total (ls.take (k + 1))) := hid (by rw [take_snoc hp, total_app, hT.out]; simp [total])
      have HF2 : Hid ((ls.take k).flatten ++ p = (ls.take (k + 1)).flatten) := hid (by rw [take_snoc hp]; simp)
      have HT3 : Hid (t + p.length ≤ 1000000) := hid (by rw [HT2.out]; exact Nat.le_trans (total_take ls _) HT.out)
      have HB := hid hb
      have HZ := hid (show w.heap.size ≤ wr.heap.size from hK.out.size)
      clear hp hb hpd
      go_wp2_with (first
        | (at_builtin; refine wpList_append_any _ rfl (.tmp 12) (.tmp 13) 26 rfl w.heap.size 5 i0 (.int .u8 0) 1 1 Tryd.underlying26 hi hz0 hz1 hz2 rfl (by decide) _ t (byteCells (ls.take k).flatten) rfl hO.out.2 w.heap.size D p.length d (byteCells p) rfl HB.out.1 (cells_one _) (by have := HT3.out; unfold maxLen; omega) (by have := HT3.out; omega) HZ.out ?_; intro v9 w9 h1 h2 h3; have HO9 : Hid (Own w w9 v9 (t + p.length) ((ls.take k).flatten ++ p)) := hid (Own.push hO.out.1 rfl h1); have HK9 : Hid (Kept [] w w9) := hid (hO.out.kept_new hK.out h2); clear h1 h2 h3)
        | fail)
      go_roundw
      case rel => exact ⟨k + 1, t + p.length, by omega, by go_num, HK9, HT2, by rw [← HF2.out]; exact HO9⟩
      case measure => simp [RowKit.intOf]; omega
    · have hlt' : ¬ (k : Int) < n := by omega
      have hkn : k = n := by omega
      go_wp2_with fail
      go_ret
      have h1 := hT.out
      have h2 := hO.out
      rw [hkn, ← HL.out, List.take_length] at h1 h2
      exact ⟨hK.out, _, rfl, by rw [← h1]; exact h2⟩
end Go.Proofs.YtdbkafpflicdiaaDoor.ob
