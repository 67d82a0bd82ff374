/- FnModeText: a mode is told in base 8 with seven digits at least; for every mode, without conditions. -/
import Derived.Test.YtplhhgcejajmoaaRows
import Derived.WalkKit
import Derived.ProofKit
import Derived.OpenShut
import Derived.Below
import Derived.WalkLawsBesides
import Derived.WalkSpells
import Derived.Laws.Runes
import Derived.Lib.Hide
namespace Go.Proofs.Ytplhhgcejajmoaa.modeText
open Go.ChangeShapes Go.WideShapes Go.ChangeAt Go.RowKit Lib

def digs (n : Nat) : List UInt8 := if h : n < 8 then [UInt8.ofNat (48 + n)] else digs (n / 8) ++ [UInt8.ofNat (48 + n % 8)]

theorem rune_small (c : Int) (h0 : 0 ≤ c) (h1 : c < 128) : Utf8.encode c = ⟨#[UInt8.ofNat c.toNat]⟩ := by
  have hv : Utf8.valid c = true := by simp [Utf8.valid]; omega
  unfold Utf8.encode
  simp only [hv, if_true]
  rw [if_pos (by omega)]

theorem digs_small (n : Nat) (h : n < 8) : digs n = [UInt8.ofNat (48 + n)] := by rw [digs]; simp [h]
theorem digs_big (n : Nat) (h : ¬ n < 8) : digs n = digs (n / 8) ++ [UInt8.ofNat (48 + n % 8)] := by rw [digs]; simp [h]

theorem digs_len (k : Nat) : ∀ n : Nat, n < 8 ^ (k + 1) → (digs n).length ≤ k + 1 := by
  induction k with
  | zero => intro n h; rw [digs_small n (by omega)]; simp
  | succ k ih =>
    intro n h
    by_cases h8 : n < 8
    · rw [digs_small n h8]; simp
    · rw [digs_big n h8]
      have := ih (n / 8) (by rw [Nat.pow_succ] at h; omega)
      simp; omega
theorem digs_len32 (n : Nat) (h : n < 4294967296) : (digs n).length ≤ 11 := digs_len 10 n (by omega)
theorem enc_size (c : Int) (h0 : 0 ≤ c) (h1 : c < 128) : (Utf8.encode c).size = 1 := by rw [rune_small c h0 h1]; rfl
theorem append_mk (a b : List UInt8) : (⟨a.toArray⟩ : ByteArray) ++ ⟨b.toArray⟩ = ⟨(a ++ b).toArray⟩ := by
  apply ByteArray.ext; simp
theorem app_digit (l : List UInt8) (m : Int) (h0 : 0 ≤ m) (h1 : m < 8) : (⟨l.toArray⟩ : ByteArray) ++ Utf8.encode (48 + m) = ⟨(l ++ [UInt8.ofNat (48 + m.toNat)]).toArray⟩ := by
  rw [rune_small _ (by omega) (by omega), show (48 + m).toNat = 48 + m.toNat from by omega]
  exact append_mk l _
theorem digit_app (l : List UInt8) (m : Int) (h0 : 0 ≤ m) (h1 : m < 8) : Utf8.encode (48 + m) ++ (⟨l.toArray⟩ : ByteArray) = ⟨(UInt8.ofNat (48 + m.toNat) :: l).toArray⟩ := by
  rw [rune_small _ (by omega) (by omega), show (48 + m).toNat = 48 + m.toNat from by omega]
  exact append_mk [_] l
theorem mk_size (l : List UInt8) : (⟨l.toArray⟩ : ByteArray).size = l.length := by simp [ByteArray.size]
theorem ret_str {a b : ByteArray} (h : a = b) : Ending.returned (.string a) = .returned (.string b) := by rw [h]

set_option maxHeartbeats 400000 in
theorem octal_calls (k : Nat) : ∀ (n : Int) (w : World), 0 ≤ n → n ≤ k → n < 4294967296 →
    Calls Try.prog 8 #[.int .i64 n] w fun e w' => e = .returned (.string ⟨(digs n.toNat).toArray⟩) ∧ w = w' := by
  induction k using Nat.strongRecOn with
  | _ k ih =>
  intro n w h0 hk h1
  by_cases h8 : n < 8
  · go_enter Try.func8, Try.ntmps8
    go_wp2_with fail
    go_ret
    refine ⟨ret_str ?_, rfl⟩
    rw [digs_small _ (by omega), rune_small _ (by omega) (by omega), show (48 + n).toNat = 48 + n.toNat from by omega]
  · have hl := digs_len32 (n / 8).toNat (by omega)
    have he := enc_size (48 + n % 8) (by omega) (by omega)
    go_enter Try.func8, Try.ntmps8
    go_wp2_with fail
    refine (ih (n / 8).toNat (by omega) _ _ (by omega) (by omega) (by omega)).mono ?_
    rintro e w' ⟨rfl, rfl⟩
    go_wp2_with fail
    go_ret
    refine ⟨ret_str ?_, rfl⟩
    rw [app_digit _ _ (by omega) (by omega), digs_big n.toNat (by omega)]
    rw [show (n / 8).toNat = n.toNat / 8 from by omega, show (n % 8).toNat = n.toNat % 8 from by omega]

def pad (l : List UInt8) : List UInt8 := List.replicate (7 - l.length) 48 ++ l
/-- what the program's own loop will have made of a number and a text -/
def fin (x : Nat) (l : List UInt8) : List UInt8 :=
  if x = 0 then List.replicate (7 - l.length) 48 ++ l else List.replicate (7 - ((digs x).length + l.length)) 48 ++ (digs x ++ l)
theorem fin_start (n : Nat) : fin n [] = pad (digs n) := by
  unfold fin pad
  by_cases h : n = 0
  · subst h
    rw [if_pos rfl, digs_small 0 (by omega)]
    rfl
  · rw [if_neg h]; simp
theorem fin_step (x : Nat) (l : List UInt8) (h : 0 < x) : fin (x / 8) (UInt8.ofNat (48 + x % 8) :: l) = fin x l := by
  unfold fin
  rw [if_neg (show ¬ x = 0 by omega)]
  by_cases h8 : x < 8
  · rw [if_pos (by omega), digs_small x h8, show x % 8 = x from by omega]
    simp only [List.length_cons, List.length_nil, List.cons_append, List.nil_append]
    rw [show 7 - (0 + 1 + l.length) = 7 - (l.length + 1) from by omega]
  · rw [if_neg (by omega), digs_big x h8]
    simp only [List.length_append, List.length_cons, List.length_nil, List.append_assoc, List.cons_append, List.nil_append]
    rw [show 7 - ((digs (x / 8)).length + (0 + 1) + l.length) = 7 - ((digs (x / 8)).length + (l.length + 1)) from by omega]
theorem fin_pad (l : List UInt8) (h : l.length < 7) : fin 0 (48 :: l) = fin 0 l := by
  unfold fin
  rw [if_pos rfl, if_pos rfl]
  simp only [List.length_cons]
  rw [show 7 - l.length = (7 - (l.length + 1)) + 1 from by omega, List.replicate_succ', List.append_assoc]
  rfl
theorem fin_end (l : List UInt8) (h : ¬ l.length < 7) : fin 0 l = l := by
  unfold fin
  rw [if_pos rfl, show 7 - l.length = 0 from by omega]
  rfl
def room (x : Nat) (l : List UInt8) : Prop := l.length + (if x = 0 then 0 else (digs x).length) ≤ 11
def At (n x : Int) (l : List UInt8) : Prop := fin x.toNat l = pad (digs n.toNat) ∧ room x.toNat l
theorem at_start (n : Int) (h0 : 0 ≤ n) (h1 : n < 4294967296) : At n n [] :=
  ⟨fin_start _, by unfold room; have := digs_len32 n.toNat (by omega); split <;> simp; omega⟩
theorem at_step {n x : Int} {l : List UInt8} (h : At n x l) (hx : 0 < x) : At n (x / 8) (UInt8.ofNat (48 + (x % 8).toNat) :: l) := by
  obtain ⟨h, hr⟩ := h
  have e : (x / 8).toNat = x.toNat / 8 := by omega
  have e2 : (x % 8).toNat = x.toNat % 8 := by omega
  refine ⟨by rw [e, e2, fin_step _ _ (by omega)]; exact h, ?_⟩
  unfold room at hr ⊢
  rw [if_neg (show ¬ x.toNat = 0 by omega)] at hr
  rw [e]
  by_cases h8 : x.toNat < 8
  · rw [digs_small _ h8] at hr
    rw [if_pos (by omega)]; simp at hr ⊢; omega
  · rw [digs_big _ h8] at hr
    rw [if_neg (by omega)]; simp at hr ⊢; omega
theorem at_pad {n : Int} {l : List UInt8} (h : At n 0 l) (hl : l.length < 7) : At n 0 (48 :: l) := by
  obtain ⟨h, hr⟩ := h
  refine ⟨by rw [← h]; exact fin_pad l hl, ?_⟩
  unfold room
  rw [if_pos (by rfl)]; simp; omega
theorem At.len {n x : Int} {l : List UInt8} (h : At n x l) : l.length ≤ 11 := by
  have := h.2; unfold room at this; omega
def strLen : Value → Nat
  | .string s => s.size
  | _ => 0

set_option maxHeartbeats 400000 in
theorem zzOctal_calls (n : Int) (w : World) (h0 : 0 ≤ n) (h1 : n < 4294967296) :
    Calls Try.prog 18 #[.int .u32 n] w fun e w' => e = .returned (.string ⟨(pad (digs n.toNat)).toArray⟩) ∧ w = w' := by
  go_enter Try.func18, Try.ntmps18
  go_wp2_with fail
  go_loop [0, 3] (fun v s => ∃ (x : Int) (l : List UInt8), 0 ≤ x ∧ x ≤ n ∧ v = .int .u32 x ∧ s = .string ⟨l.toArray⟩ ∧ At n x l) (fun v s => (intOf v).toNat + (7 - strLen s))
  case atStart => exact ⟨n, [], h0, Int.le_refl _, rfl, rfl, at_start n h0 h1⟩
  case round =>
    obtain ⟨x, l, hx0, hx1, rfl, rfl, hA⟩ := hrel
    have hl := hA.len
    have he := enc_size (48 + x % 8) (by omega) (by omega)
    by_cases hx : 0 < x
    · go_wp2_with fail
      go_round
      case rel => exact ⟨x / 8, UInt8.ofNat (48 + (x % 8).toNat) :: l, by omega, by omega, rfl, by rw [digit_app _ _ (by omega) (by omega)], at_step hA hx⟩
      case measure => simp [intOf, strLen]; omega
    · obtain rfl : x = 0 := by omega
      have he0 : (Utf8.encode 48).size = 1 := rfl
      by_cases h7 : l.length < 7
      · go_wp2_with fail
        go_round
        case rel => exact ⟨0, 48 :: l, by omega, by omega, rfl, congrArg Value.string (append_mk [48] l), at_pad hA h7⟩
        case measure => simp [intOf, strLen, ByteArray.size_append, mk_size, he0]; omega
      · go_wp2_with fail
        go_ret
        exact ⟨ret_str (by rw [← hA.1]; exact congrArg (fun l => (⟨List.toArray l⟩ : ByteArray)) (fin_end l h7).symm), rfl⟩

theorem string_calls (n : Int) (w : World) (h0 : 0 ≤ n) (h1 : n < 4294967296) :
    Calls Try.prog 13 #[.int .u32 n] w fun e w' => e = .returned (.string ⟨(pad (digs n.toNat)).toArray⟩) ∧ w = w' := by
  go_enter Try.func13, Try.ntmps13
  go_wp2_with fail
  refine (zzOctal_calls n _ h0 h1).mono ?_
  rintro e w' ⟨rfl, rfl⟩
  go_wp2_with fail
  go_ret
  exact ⟨rfl, rfl⟩
theorem modeText_calls (n : Int) (w : World) (h0 : 0 ≤ n) (h1 : n < 4294967296) :
    Calls Try.prog 9 #[.int .u32 n] w fun e w' => e = .returned (.string ⟨(pad (digs n.toNat)).toArray⟩) ∧ w = w' := by
  go_enter Try.func9, Try.ntmps9
  go_wp2_with fail
  refine (string_calls n _ h0 h1).mono ?_
  rintro e w' ⟨rfl, rfl⟩
  go_wp2_with fail
  go_ret
  exact ⟨rfl, rfl⟩
theorem pad_step (l : List UInt8) (h : l.length < 7) : pad (48 :: l) = pad l := by
  unfold pad
  simp only [List.length_cons]
  rw [show 7 - l.length = (7 - (l.length + 1)) + 1 from by omega, List.replicate_succ', List.append_assoc]
  rfl
theorem pad_end (l : List UInt8) (h : ¬ l.length < 7) : pad l = l := by
  unfold pad
  rw [show 7 - l.length = 0 from by omega]
  rfl
theorem law_calls (n : Int) (w : World) (h0 : 0 ≤ n) (h1 : n < 4294967296) :
    Calls Try.prog 4 #[.int .u32 n] w fun e w' => e = .returned (.bool true) ∧ w = w' := by
  go_enter Try.func4, Try.ntmps4
  go_wp2_with fail
  refine (octal_calls n.toNat n _ h0 (by omega) h1).mono ?_
  rintro e w' ⟨rfl, rfl⟩
  go_wp2_with fail
  go_loop [3] (fun s => ∃ l : List UInt8, s = .string ⟨l.toArray⟩ ∧ Hid (pad l = pad (digs n.toNat)) ∧ l.length ≤ 11) (fun s => 7 - strLen s)
  case atStart => exact ⟨_, rfl, hid rfl, digs_len32 _ (by omega)⟩
  case round =>
    obtain ⟨l, rfl, hp, hl⟩ := hrel
    by_cases h7 : l.length < 7
    · go_wp2_with fail
      go_round
      case rel => exact ⟨48 :: l, congrArg Value.string (append_mk [48] l), hid (by rw [pad_step l h7]; exact hp.out), by simp; omega⟩
      case measure => simp only [strLen, ByteArray.size_append, mk_size, List.length_cons, List.length_nil]; omega
    · have hp' := pad_end l h7
      have hq : Hid (l = pad (digs n.toNat)) := hid (by rw [← hp']; exact hp.out)
      clear hp'
      go_wp2_with fail
      refine (modeText_calls n _ h0 h1).mono ?_
      rintro e w' ⟨rfl, rfl⟩
      go_wp2_with fail
      go_ret
      exact ⟨by rw [← hq.out]; simp, rfl⟩

theorem own : ownKnob Try.prog.godebug = none := by kernel_rfl
theorem walk (a0 : Int) (w : World) (w0 : (Lit.int .u32 a0).wf = true) :
    Calls Try.prog 4 #[.int .u32 a0] w fun e w' => e = .returned (.bool true) ∧ Grown w w' := by
  have hx : 0 ≤ a0 ∧ a0 ≤ 4294967295 := by simpa [Lit.wf, IntKind.min, IntKind.max, IntKind.signed, IntKind.bits] using w0
  refine (law_calls a0 w hx.1 (by omega)).mono ?_
  rintro e w' ⟨he, rfl⟩
  exact ⟨he, Grown.refl _⟩
set_option maxRecDepth 100000 in
theorem lifted (os : Os) (started : os.Started) (H : Type) (enc : TypeId × Value → H) :
    ReturnsInHanded {} Try.checked os 4 .any (Rows.fnModeTextSpec.pre6 enc Try.prog Try.f4 Rows.fnModeTextRow.domain false) (Rows.fnModeTextSpec.post enc Try.prog Try.f4 false true false false) := by
  refine returnsInHanded_of_change (C := Try.checked) own started (by kernel_rfl) Try.func4
    (ChangeSpec.witness6 (enc := enc) (C := Try.checked) false ⟨#[], #[.int .u32 0], []⟩ 8 (by kernel_rfl) (by kernel_rfl) (by kernel_rfl) (by kernel_rfl)) ?_
  intro W base args ds gs before hval hW hcnd _
  have hW' := hW
  obtain ⟨p, q, hA0, hV, rfl, hfz, hnd⟩ := hW
  have hA : DataW.TrodAll enc Try.prog W 0 (fun _ => true) true Try.f4.params.toList args.toList ds p := hA0
  rw [Try.params4] at hA hval
  obtain ⟨v0, vs0, d0, ds0, p0, q0, hargs, rfl, rfl, h0, r0⟩ := trodAll_cons hA
  obtain ⟨rfl, rfl, rfl⟩ := trodAll_nil r0
  obtain rfl : args = #[v0] := by cases args; simp_all
  obtain ⟨rfl, rfl⟩ := trodVars_none hV
  obtain ⟨a0, rfl, rfl, rfl, w0⟩ := open_int Try.underlying22 (hval 0 22 v0 rfl rfl) h0
  clear hA0
  simp only [List.append_nil] at hW'
  refine (walk a0 W w0).mono fun e W' ⟨he, hg⟩ => ?_
  subst he
  exact ⟨_, rfl, post_of_same (pa := []) (pv := []) hW' (fun _ _ _ => (trodAll_cons_mk (shut_bool Try.underlying4 _) trodAll_mk0)) (fun sp _ => (trodAll_cons_mk (shut_int Try.underlying22 w0) trodAll_mk0)) (fun _ _ => rfl) rfl
    (hg.frame _) hg.2.1 (ok_one (by kernel_rfl) rfl (okWide_bool_mk Try.underlying4 _))⟩
theorem over : Rows.fnModeTextRow.holds Try.pinned (OpenSpec.ofChange Rows.fnModeTextSpec) :=
  OpenClaim.holds_of_wide 4 Try.f4 rfl rfl rfl rfl rfl rfl rfl ⟨rfl, rfl, rfl, rfl, rfl⟩ rfl rfl rfl rfl rfl (by kernel_rfl) Try.func4 (by kernel_rfl)
    (of_decide_eq_true (by kernel_rfl)) (by unfold Func.isWrapper; first | (rw [if_pos (by decide +kernel)]; kernel_rfl) | (rw [if_neg (by decide +kernel)]; exact ⟨rfl, rfl⟩))
    (fun os started H enc _ => lifted os started H enc)
theorem proved : Rows.FnModeTextSaid := over
end Go.Proofs.Ytplhhgcejajmoaa.modeText
