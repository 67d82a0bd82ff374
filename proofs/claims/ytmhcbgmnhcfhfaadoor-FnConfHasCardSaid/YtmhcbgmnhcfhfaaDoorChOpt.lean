/- config.Options: IsKey, contains, withAddedOption. -/
import Derived.Test.YtmhcbgmnhcfhfaaDoorChPlain
set_option linter.unusedVariables false
attribute [local go_sem ↓] Go.wp_at_zero Go.wp_at_succ
namespace Go.Proofs.YtmhcbgmnhcfhfaaDoor.cf
open Go.RowKit Lib mem opn frm strs

set_option maxRecDepth 100000 in
theorem isKey_calls (g : Nat) (nm t : ByteArray) (vl : Value) (w : World) (h : Blk w g TO #[.string nm, vl]) (hn : WordOk nm) (ht : WordOk t) :
    Calls Tryd.prog 60 #[.pointer (some ⟨g, 0, none⟩), .string t] w (Ans w (decide (nm = t))) := by
  have c0 : w.cell? ⟨g, 0, none⟩ = some (.string nm) := h.cell 0 rfl
  have c1 := hid (Tryd.strings_EqualFold nm t w (by have := hn.2; omega) (word_ascii hn) (word_ascii ht))
  have e1 : equalFold nm.data.toList t.data.toList = decide (nm = t) := by rw [fold_word _ _ hn.1 ht.1]; exact decide_eq_decide.2 ba_eq
  rw [e1] at c1
  clear h hn ht e1
  go_enter Tryd.func60, Tryd.ntmps60
  go_wp2_with fail
  refine c1.out.mono ?_
  rintro e w' ⟨rfl, hw⟩
  obtain rfl : w = w' := hw.symm
  clear hw
  go_wp2_with fail
  go_ret
  exact ⟨rfl, rfl⟩
/-- an answer, whatever it is; the world is as it was -/
def Some (w : World) (e : Ending) (w' : World) : Prop := w' = w ∧ ∃ b, e = .returned (.bool b)
/-- a row of texts -/
def TextRow (w : World) (v : Value) (n : Nat) (xs : List ByteArray) : Prop := xs.length = n ∧ ∃ B, w.ownsRow B 9 1 v n (xs.map fun x => .string x)
set_option maxRecDepth 100000 in
set_option maxHeartbeats 4000000 in
theorem contains_calls (v : Value) (n : Nat) (xs : List ByteArray) (t : ByteArray) (w : World) (h : TextRow w v n xs) (hn : n ≤ 2147483647) :
    Calls Tryd.prog 61 #[v, .string t] w (Some w) := by
  obtain ⟨hl, B, hown⟩ := h
  obtain ⟨A, c, rfl, hc⟩ := row_some hown
  have HO := hid hown
  have e0 : (n : Int) ≤ 2147483647 := by omega
  clear hown hl hc hn
  go_enter Tryd.func61, Tryd.ntmps61
  go_wp2_with fail
  go_loop [9] (fun iv => ∃ k : Nat, k ≤ n ∧ iv = .int .i64 k) (fun iv => n - (RowKit.intOf iv).toNat)
  case atStart => exact ⟨0, by omega, rfl⟩
  case round =>
    obtain ⟨k, hk, rfl⟩ := hrel
    by_cases hlt : k < n
    · obtain ⟨g2, o2, c2, u, e2, hu, hcell⟩ := own_at HO.out hlt
      obtain ⟨x, rfl⟩ : ∃ x, u = .string x := by
        have := List.mem_of_getElem? hu
        obtain ⟨x, _, rfl⟩ := List.mem_map.1 this
        exact ⟨x, rfl⟩
      injection e2 with eA _ ec
      subst eA
      have hlt' : (k : Int) < n := by omega
      clear hu ec
      by_cases hb : (x.toList == t.toList) = true
      · go_wp2_with fail
        go_ret
        exact ⟨rfl, _, rfl⟩
      · have hb' : (x.toList == t.toList) = false := by simpa using hb
        clear hb
        go_wp2_with fail
        go_round
        case rel => exact ⟨k + 1, by omega, by go_num⟩
        case measure => simp [RowKit.intOf]; omega
    · have hnl : ¬ (k : Int) < n := by omega
      go_wp2_with fail
      go_ret
      exact ⟨rfl, _, rfl⟩
end Go.Proofs.YtmhcbgmnhcfhfaaDoor.cf
