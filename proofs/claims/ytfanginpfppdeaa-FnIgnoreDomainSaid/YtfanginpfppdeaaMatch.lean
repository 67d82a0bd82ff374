/- What path.Match computes at patterns of names: whether a name is one of a pattern. -/
import Derived.Test.YtfanginpfppdeaaGlob
import Derived.Test.YtfanginpfppdeaaShelf
import Derived.Test.YtfanginpfppdeaaStrs
import Derived.WalkKit
import Derived.Lib.Hide
import Derived.ProofKit
import Derived.WalkSmall
import Derived.RowKitTokens
import Derived.Deep.DeepMust
import Derived.Deep.QuietTactic
import Derived.BigQuiet
set_option linter.unusedVariables false
namespace Go.Proofs.Ytfanginpfppdeaa.glob
open Go.RowKit Lib text strs

/-- a byte of a pattern; a byte of a name -/
def pl (x : UInt8) : Prop := x ≠ 91 ∧ x ≠ 92 ∧ x ≠ 93 ∧ x ≠ 47
def asc (x : UInt8) : Prop := x.toNat < 128 ∧ x ≠ 47
theorem ext_drop (r : ByteArray) (k : Nat) : (r.extract k r.size).data.toList = r.data.toList.drop k := by
  rw [extract_ofL, List.take_of_length_le (by simp)]
theorem ext_take (r : ByteArray) (k : Nat) : (r.extract 0 k).data.toList = r.data.toList.take k := by rw [extract_ofL, List.drop_zero]
theorem get_list (r : ByteArray) (k : Nat) (h : k < r.size) : r.data.toList[k]? = some r[k] := by
  rw [List.getElem?_eq_getElem (by simpa using h)]; simp; rfl
theorem cons_list (r : ByteArray) (h : 0 < r.size) : r.data.toList = r[0] :: r.data.toList.drop 1 := by
  have := List.drop_eq_getElem_cons (l := r.data.toList) (i := 0) (by simpa using h)
  rw [List.drop_zero] at this
  rw [this]; simp; rfl
theorem nil_list (r : ByteArray) (h : ¬ 0 < r.size) : r.data.toList = [] := by
  have : r.data.toList.length = r.size := by simp
  exact List.eq_nil_of_length_eq_zero (by omega)
theorem mem_get (r : ByteArray) (k : Nat) (h : k < r.size) : r[k] ∈ r.data.toList := by
  rw [show r[k] = r.data[k] from rfl]; exact Array.getElem_mem_toList _
theorem ne_int {x : UInt8} {n : Nat} (hn : n < 256) (h : x ≠ UInt8.ofNat n) : ((x.toNat : Int) == (n : Int)) = false := by
  rw [beq_eq_false_iff_ne]
  intro e
  apply h
  have e2 : x.toNat = n := by omega
  rw [← e2]; simp
theorem eq_int {x : UInt8} {n : Nat} (h : x.toNat = n) : x = UInt8.ofNat n := by rw [← h]; simp
theorem takeW (l : List UInt8) (k : Nat) (h : ∀ x ∈ l.take k, x ≠ 42) (hk : l[k]? = some 42) : l.takeWhile (· != 42) = l.take k ∧ l.dropWhile (· != 42) = l.drop k := by
  induction k generalizing l with
  | zero =>
    cases l with
    | nil => simp at hk
    | cons a l => simp at hk; subst hk; simp
  | succ k ih =>
    cases l with
    | nil => simp at hk
    | cons a l =>
      have ha : a ≠ 42 := h a (by simp)
      have := ih l (fun x hx => h x (by simp [hx])) (by simpa using hk)
      simp [ha, this.1, this.2]
theorem takeW_all (l : List UInt8) (h : ∀ x ∈ l, x ≠ 42) : l.takeWhile (· != 42) = l ∧ l.dropWhile (· != 42) = [] := by
  induction l with
  | nil => simp
  | cons a l ih =>
    have ha : a ≠ 42 := h a (by simp)
    have := ih (fun x hx => h x (by simp [hx]))
    simp [ha, this.1, this.2]
/-- how the cutting of a piece ends -/
def ScanEnd (w : World) (P : List UInt8) (e : Ending) (w' : World) : Prop :=
  (∃ k, w' = w.drewN k) ∧ ∃ c r : ByteArray, e = .returned (.tuple #[.bool (starred P), .string c, .string r]) ∧ c.data.toList = chunkOf P ∧ r.data.toList = restOf P
theorem unstar_self {p : List UInt8} (h : starred p = false) : unstar p = p := unstar_not p h
def strLen : Value → Nat
  | .string s => s.size
  | _ => 0
set_option maxRecDepth 100000 in
set_option maxHeartbeats 4000000 in
theorem scan_calls (P : ByteArray) (w : World) (hs : P.size ≤ 140737488351232) (hp : ∀ x ∈ P.data.toList, pl x) :
    Calls Try.prog 45 #[.string P] w (ScanEnd w P.data.toList) := by
  have HP := hid hp
  clear hp
  go_enter Try.func45, Try.ntmps45
  go_wp2_with fail
  go_loop [0, 2] (fun pv sv => ∃ (r : ByteArray) (b : Bool), pv = .string r ∧ sv = .bool b ∧ r.size ≤ P.size ∧ Hid (unstar P.data.toList = unstar r.data.toList ∧ (b = true → starred P.data.toList = true) ∧ (b = false → r = P) ∧ ∀ x ∈ r.data.toList, pl x)) (fun pv _ => strLen pv)
  case atStart => exact ⟨P, false, rfl, rfl, Nat.le_refl _, hid ⟨rfl, nofun, fun _ => rfl, HP.out⟩⟩
  case round =>
    obtain ⟨r, b, rfl, rfl, hr, hh⟩ := hrel
    by_cases h0 : 0 < r.size
    · by_cases h42 : r[0].toNat = 42
      · have e42 : (r[0].toNat : Int) = 42 := by omega
        have hn : Hid (unstar P.data.toList = unstar (r.data.toList.drop 1) ∧ starred P.data.toList = true ∧ ∀ x ∈ r.data.toList.drop 1, pl x) := hid (by
          have hc := cons_list r h0
          have e : r[0] = 42 := eq_int h42
          refine ⟨?_, ?_, fun x hx => hh.out.2.2.2 x (List.mem_of_mem_drop hx)⟩
          · rw [hh.out.1, hc, unstar, if_pos e]; rfl
          · cases b with
            | true => exact hh.out.2.1 rfl
            | false => rw [← hh.out.2.2.1 rfl, hc, starred, e]; rfl)
        clear hh h42
        go_wp2_with fail
        go_round
        case rel => exact ⟨_, true, rfl, rfl, by simp; omega, hid ⟨by rw [hn.out.1, ext_drop], fun _ => hn.out.2.1, nofun, by rw [ext_drop]; exact hn.out.2.2⟩⟩
        case measure => simp only [strLen]; simp; omega
      · have e42 : ((r[0].toNat : Int) == 42) = false := by rw [beq_eq_false_iff_ne]; omega
        have hn : Hid (starred P.data.toList = b ∧ unstar P.data.toList = r.data.toList) := hid (by
          have hc := cons_list r h0
          have hne : r[0] ≠ 42 := fun e => h42 (by rw [e]; rfl)
          have hu : unstar r.data.toList = r.data.toList := by rw [hc, unstar, if_neg hne]
          refine ⟨?_, by rw [hh.out.1, hu]⟩
          cases b with
          | true => exact hh.out.2.1 rfl
          | false => rw [← hh.out.2.2.1 rfl, hc, starred]; simpa using hne)
        have hg := hid hh.out.2.2.2
        clear hh h42
        go_wp2_with fail
        go_loop [2, 5, 6] (fun sv fv iv => ∃ k : Nat, k ≤ r.size ∧ sv = .bool b ∧ fv = .bool false ∧ iv = .int .i64 k ∧ Hid (∀ x ∈ r.data.toList.take k, x ≠ 42)) (fun _ _ iv => r.size - (RowKit.intOf iv).toNat)
        case atStart => exact ⟨0, by omega, rfl, rfl, rfl, hid (by simp)⟩
        case round =>
          obtain ⟨k, hk, rfl, rfl, rfl, hb⟩ := hrel
          by_cases hlt : k < r.size
          · have hpl := hg.out _ (mem_get r k hlt)
            have q91 := ne_int (n := 91) (by omega) hpl.1
            have q92 := ne_int (n := 92) (by omega) hpl.2.1
            have q93 := ne_int (n := 93) (by omega) hpl.2.2.1
            clear hpl
            by_cases h42' : r[k].toNat = 42
            · have q42 : (r[k].toNat : Int) = 42 := by omega
              have ht := hid (takeW _ k hb.out (by rw [get_list r k hlt, show r[k] = 42 from eq_int h42']))
              clear h42'
              go_wp2_with fail
              have q1 : (0 : Int) ≤ (k : Int) := by omega
              have q2 : (k : Int) ≤ (r.size : Int) := by omega
              go_quiet (fail)
              go_wp2_with fail
              refine bodyPost_ret (by simp [results, Try.results45, go_sem]; rfl) rfl ?_
              refine ⟨⟨_, rfl⟩, _, _, by rw [hn.out.1], ?_, ?_⟩
              · rw [ext_take]; unfold chunkOf; rw [hn.out.2, ht.out.1]
              · rw [ext_drop]; unfold restOf; rw [hn.out.2, ht.out.2]
            · have q42 : ((r[k].toNat : Int) == 42) = false := by rw [beq_eq_false_iff_ne]; omega
              have hb2 : Hid (∀ x ∈ r.data.toList.take (k + 1), x ≠ 42) := hid (by
                intro x hx
                rw [List.take_add_one, List.mem_append] at hx
                rcases hx with hx | hx
                · exact hb.out x hx
                · rw [get_list r k hlt] at hx
                  simp at hx
                  subst hx
                  intro e
                  apply h42'
                  rw [e]; rfl)
              clear h42'
              go_wp2_with fail
              go_round
              case rel => exact ⟨k + 1, by omega, rfl, rfl, by go_num, hb2⟩
              case measure => simp [RowKit.intOf]; omega
          · have ht := hid (takeW_all r.data.toList (by
              have := hb.out
              rwa [List.take_of_length_le (by simp; omega)] at this))
            go_wp2_with fail
            refine bodyPost_ret (by simp [results, Try.results45, go_sem]; rfl) rfl ?_
            refine ⟨⟨0, rfl⟩, _, _, by rw [hn.out.1], ?_, ?_⟩
            · unfold chunkOf; rw [hn.out.2, ht.out.1]
            · unfold restOf; rw [hn.out.2, ht.out.2]
    · have hn : Hid (starred P.data.toList = b ∧ unstar P.data.toList = r.data.toList) := hid (by
        have hc := nil_list r h0
        have hu : unstar r.data.toList = r.data.toList := by rw [hc]; rfl
        refine ⟨?_, by rw [hh.out.1, hu]⟩
        cases b with
        | true => exact hh.out.2.1 rfl
        | false => rw [← hh.out.2.2.1 rfl, hc]; rfl)
      have hg := hid hh.out.2.2.2
      clear hh
      go_wp2_with fail
      go_loop [2, 5, 6] (fun sv fv iv => ∃ k : Nat, k ≤ r.size ∧ sv = .bool b ∧ fv = .bool false ∧ iv = .int .i64 k ∧ Hid (∀ x ∈ r.data.toList.take k, x ≠ 42)) (fun _ _ iv => r.size - (RowKit.intOf iv).toNat)
      case atStart => exact ⟨0, by omega, rfl, rfl, rfl, hid (by simp)⟩
      case round =>
        obtain ⟨k, hk, rfl, rfl, rfl, hb⟩ := hrel
        by_cases hlt : k < r.size
        · exfalso; omega
        · have ht := hid (takeW_all r.data.toList (by
            have := hb.out
            rwa [List.take_of_length_le (by simp; omega)] at this))
          go_wp2_with fail
          refine bodyPost_ret (by simp [results, Try.results45, go_sem]; rfl) rfl ?_
          refine ⟨⟨0, rfl⟩, _, _, by rw [hn.out.1], ?_, ?_⟩
          · unfold chunkOf; rw [hn.out.2, ht.out.1]
          · unfold restOf; rw [hn.out.2, ht.out.2]
end Go.Proofs.Ytfanginpfppdeaa.glob
