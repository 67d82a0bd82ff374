/- Packet lines, as the spec writes and compares them. -/
import Derived.Test.YtojimnlnpghbiaaDoorPktLines
set_option linter.unusedVariables false
attribute [local go_sem ↓] Go.wp_at_zero Go.wp_at_succ
namespace Go.Proofs.YtojimnlnpghbiaaDoor.pkt
open Go.RowKit Lib frm mem rd text

/-- a slice of bytes below B -/
def RowB (w : World) (B : Nat) (v : Value) (l : List UInt8) : Prop := ∃ A c, v = .slice A l.length c ∧ l.length ≤ c ∧ Bytes w B A l.length l
/-- a slice of slices of bytes -/
def Rows (w : World) (B : Nat) (A : Option Addr) (n : Nat) (ls : List (List UInt8)) : Prop := ∃ vs, Reads w B 1 A n vs ∧ All2 (RowB w B) vs ls ∧ (0 < n → ∃ g o, A = some ⟨g, o, none⟩)
section
variable {w w' : World} {B B' n : Nat} {A : Option Addr} {ls : List (List UInt8)}
theorem Rows.len (h : Rows w B A n ls) : ls.length = n := by
  obtain ⟨vs, h1, h2, _⟩ := h
  have := h1.1
  have := h2.len
  omega
theorem Rows.next (h : Rows w B A n ls) {k : Nat} (hk : k < n) :
    ∃ g o D c p, A = some ⟨g, o, none⟩ ∧ g < B ∧ w.cell? ⟨g, o + k, none⟩ = some (.slice D p.length c) ∧ ls.drop k = p :: ls.drop (k + 1) ∧ ls[k]? = some p ∧ p.length ≤ c ∧ Bytes w B D p.length p := by
  have hl := h.len
  obtain ⟨vs, h1, h2, h3⟩ := h
  obtain ⟨ad, u, e, hb, hu, hc⟩ := h1.at_ hk
  obtain ⟨g, o, e'⟩ := h3 (by omega)
  have : ad = ⟨g, o, none⟩ := by rw [e] at e'; injection e'
  subst this
  have hp : ls[k]? = some ls[k] := List.getElem?_eq_getElem (by omega)
  obtain ⟨D, c, rfl, hc1, hc2⟩ := h2.at_ hu hp
  rw [Lib.addr_add] at hc
  exact ⟨g, o, D, c, _, e, hb, hc, List.drop_eq_getElem_cons (by omega), hp, hc1, hc2⟩
theorem Rows.below (h : Rows w B A n ls) (hb : Below B w w') : Rows w' B A n ls := by
  obtain ⟨vs, h1, h2, h3⟩ := h
  exact ⟨vs, h1.below hb, h2.mono fun v l ⟨A, c, e, hc, hB⟩ => ⟨A, c, e, hc, hB.below hb⟩, h3⟩
theorem Rows.more (h : Rows w B A n ls) (hB : B ≤ B') : Rows w B' A n ls := by
  obtain ⟨vs, h1, h2, h3⟩ := h
  exact ⟨vs, h1.more hB, h2.mono fun v l ⟨A, c, e, hc, hb⟩ => ⟨A, c, e, hc, hb.more hB⟩, h3⟩
end
set_option maxRecDepth 100000 in
theorem isErr_calls (A : Option Addr) (c : Nat) (B : Nat) (l : List UInt8) (w : World) (h : Bytes w B A l.length l) (hc : l.length ≤ c) :
    Calls Tryd.prog 29 #[.slice A l.length c] w fun e w' => e = .returned (.bool (isErr l)) ∧ w' = w := by
  by_cases h4 : 4 ≤ l.length
  · have k1 := text_of_bytes (c := c) (h.front h4)
    obtain ⟨x, hx⟩ : ∃ x : ByteArray, x = ⟨(l.take 4).toArray⟩ := ⟨_, rfl⟩
    rw [← hx] at k1
    have hs : ∀ w : World, (Instr.sliceAt 22 (.slice A l.length c) none (some (.int .i64 4)) none).run Tryd.prog w = .ok (.slice A 4 c) w := fun w => slice_to .i64 A l.length c 4 (by omega) w
    have q : (x.toList == [69, 82, 82, 32]) = isErr l := by
      rw [hx]; simp [ByteArray.toList_eq, isErr]
    have e1 : (4 : Int) ≤ (l.length : Int) := by omega
    clear hx h h4 hc
    generalize l.length = n at *
    generalize isErr l = b at *
    go_enter Tryd.func29, Tryd.ntmps29
    go_wp2_with fail
    go_ret
    exact ⟨rfl, rfl⟩
  · have e1 : ¬ (4 : Int) ≤ (l.length : Int) := by omega
    have q : isErr l = false := by
      unfold isErr
      rw [beq_eq_false_iff_ne]
      intro e
      have := congrArg List.length e
      simp at this
      omega
    rw [q]
    clear h hc h4 q
    go_enter Tryd.func29, Tryd.ntmps29
    go_wp2_with fail
    go_ret
    exact ⟨rfl, rfl⟩
def Told (w : World) (F : Bool → Prop) (e : Ending) (w' : World) : Prop := w' = w ∧ ∃ b, e = .returned (.bool b) ∧ F b
def Any (b : Bool) : Prop := True
def AllGood (n : Nat) (ls : List (List UInt8)) (b : Bool) : Prop := b = true → n ≤ 1000 ∧ ∀ p ∈ ls, Good p
set_option maxRecDepth 100000 in
theorem fits19_calls (A : Option Addr) (n c : Nat) (ls : List (List UInt8)) (w : World) (h : Rows w w.heap.size A n ls) (hn : n ≤ 140737488355328) : Calls Tryd.prog 12 #[.slice A n c] w (Told w Any) := by
  have H := hid h
  clear h
  by_cases h1 : (2147483647 : Int) < n
  · go_enter Tryd.func12, Tryd.ntmps12
    go_wp2_with fail
    go_ret
    exact ⟨rfl, _, rfl, trivial⟩
  · go_enter Tryd.func12, Tryd.ntmps12
    go_wp2_with fail
    go_loop [10] (fun iv => ∃ k : Nat, k ≤ n ∧ iv = .int .i64 k) (fun iv => n - (RowKit.intOf iv).toNat)
    case atStart => exact ⟨0, by omega, rfl⟩
    case round =>
      obtain ⟨k, hk, rfl⟩ := hrel
      by_cases hlt : k < n
      · obtain ⟨g, o, D, d, p, rfl, hg, hc, _, _, _, _⟩ := H.out.next hlt
        have hlt' : (k : Int) < n := by omega
        by_cases hp : (2147483647 : Int) < p.length
        · go_wp2_with fail
          go_ret
          exact ⟨rfl, _, rfl, trivial⟩
        · go_wp2_with fail
          go_round
          case rel => exact ⟨k + 1, by omega, by go_num⟩
          case measure => simp [RowKit.intOf]; omega
      · have hlt' : ¬ (k : Int) < n := by omega
        go_wp2_with fail
        go_ret
        exact ⟨rfl, _, rfl, trivial⟩
theorem take_snoc {α : Type} {l : List α} {k : Nat} {a : α} (h : l[k]? = some a) : l.take (k + 1) = l.take k ++ [a] := by
  obtain ⟨hk, e⟩ := List.getElem?_eq_some_iff.1 h
  rw [List.take_succ_eq_append_getElem hk, e]
set_option maxRecDepth 100000 in
set_option maxHeartbeats 1000000 in
theorem goodLines_calls (A : Option Addr) (n c : Nat) (ls : List (List UInt8)) (w : World) (h : Rows w w.heap.size A n ls) (hn : n ≤ 140737488355328) : Calls Tryd.prog 13 #[.slice A n c] w (Told w (AllGood n ls)) := by
  have H := hid h
  have hn' : (n : Int) ≤ 140737488355328 := by omega
  clear h hn
  go_enter Tryd.func13, Tryd.ntmps13
  go_wp2_with fail
  go_loop [7] (fun iv => ∃ k : Nat, k ≤ n ∧ iv = .int .i64 k ∧ ∀ p ∈ ls.take k, Good p) (fun iv => n - (RowKit.intOf iv).toNat)
  case atStart => exact ⟨0, by omega, rfl, by simp⟩
  case round =>
    obtain ⟨k, hk, rfl, hgood⟩ := hrel
    have HG := hid hgood
    clear hgood
    by_cases hlt : k < n
    · obtain ⟨g, o, D, d, p, rfl, hg, hc, _, hp, hpd, hb⟩ := H.out.next hlt
      have HP := hid hp
      have c1 := hid (isErr_calls D d _ p w hb hpd)
      clear hp hb hpd
      have hlt' : (k : Int) < n := by omega
      by_cases hp1 : (65516 : Int) < p.length
      · go_wp2_with fail
        go_ret
        exact ⟨rfl, false, rfl, nofun⟩
      · cases he : isErr p with
        | true =>
          rw [he] at c1
          go_wp2_with fail
          refine c1.out.mono ?_
          rintro e w' ⟨rfl, rfl⟩
          go_wp2_with fail
          go_ret
          exact ⟨rfl, false, rfl, nofun⟩
        | false =>
          rw [he] at c1
          have HE := hid he
          have hp2 : Hid (p.length ≤ 65516) := hid (by omega)
          clear he
          go_wp2_with fail
          refine c1.out.mono ?_
          rintro e w' ⟨rfl, rfl⟩
          go_wp2_with fail
          go_round
          case rel =>
            refine ⟨k + 1, by omega, by go_num, ?_⟩
            rw [take_snoc HP.out]
            intro q hq
            rcases List.mem_append.1 hq with h | h
            · exact HG.out q h
            · simp at h; subst h; exact ⟨hp2.out, HE.out⟩
          case measure => simp [RowKit.intOf]; omega
    · have hlt' : ¬ (k : Int) < n := by omega
      by_cases h3 : (n : Int) ≤ 1000
      · go_wp2_with fail
        go_ret
        refine ⟨rfl, true, rfl, fun _ => ⟨by omega, ?_⟩⟩
        have := HG.out
        rwa [List.take_of_length_le (by have := H.out.len; omega)] at this
      · go_wp2_with fail
        go_ret
        exact ⟨rfl, false, rfl, nofun⟩
end Go.Proofs.YtojimnlnpghbiaaDoor.pkt
