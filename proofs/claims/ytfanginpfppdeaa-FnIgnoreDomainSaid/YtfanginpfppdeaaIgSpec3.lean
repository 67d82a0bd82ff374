/- Patterns with slashes between, the front of a path, a slash for folders: what they compute. -/
import Derived.Test.YtfanginpfppdeaaIgSpec2
set_option linter.unusedVariables false
namespace Go.Proofs.Ytfanginpfppdeaa.glob
open Go.RowKit Lib text strs mem

theorem joined_snoc : ∀ (l : List (List UInt8)) (x : List UInt8), l ≠ [] → joined (l ++ [x]) = joined l ++ 47 :: x := by
  intro l
  induction l with
  | nil => intro x h; exact absurd rfl h
  | cons p l ih =>
    intro x _
    cases l with
    | nil => rfl
    | cons q l =>
      rw [List.cons_append, List.cons_append, joined, ← List.cons_append, ih x (by simp), joined]
      simp
theorem append_list (a b : ByteArray) : (a ++ b).data.toList = a.data.toList ++ b.data.toList := by simp
theorem take_snoc {l : List (List UInt8)} {k : Nat} {x : List UInt8} (h : l[k]? = some x) : l.take (k + 1) = l.take k ++ [x] := by
  rw [List.take_add_one, h]; rfl
theorem size3 {t x : ByteArray} {k : Nat} (h : t.size ≤ 41 * k) (hx : x.size ≤ 40) : (t ++ ⟨#[47]⟩ ++ x).size ≤ 41 * (k + 1) := by
  have h1 : (⟨#[47]⟩ : ByteArray).size = 1 := rfl
  simp only [ByteArray.size_append]
  omega
def Wrote (w : World) (l : List UInt8) (e : Ending) (w' : World) : Prop := w' = w ∧ ∃ s : ByteArray, e = .returned (.string s) ∧ s.data.toList = l
set_option maxRecDepth 100000 in
set_option maxHeartbeats 4000000 in
theorem slashed_calls (A : Option Addr) (n c B : Nat) (l : List (List UInt8)) (w : World) (h : Strs w B A n l) (hn : n ≤ 100) (hg : ∀ x ∈ l, Glob x) :
    Calls Try.prog 12 #[.slice A n c] w (Wrote w (joined l)) := by
  have HL := hid h.len
  have HS := hid h
  have HG := hid hg
  clear h hg
  go_enter Try.func12, Try.ntmps12
  go_wp2_with fail
  go_loop [3, 8] (fun tv iv => ∃ (k : Nat) (t : ByteArray), k ≤ n ∧ iv = .int .i64 k ∧ tv = .string t ∧ t.size ≤ 41 * k ∧ Hid (t.data.toList = joined (l.take k))) (fun _ iv => n - (RowKit.intOf iv).toNat)
  case atStart => exact ⟨0, ⟨#[]⟩, by omega, rfl, rfl, Nat.le_refl _, hid rfl⟩
  case round =>
    obtain ⟨k, t, hk, rfl, rfl, hts, hh⟩ := hrel
    by_cases hlt : k < n
    · obtain ⟨g, o, x, rfl, hgB, hcell, _, hx⟩ := HS.out.next hlt
      have hxl := (HG.out x (List.mem_of_getElem? hx)).len
      have hxs : (ofL x).size ≤ 40 := by rw [ofL_size]; exact hxl
      have HX := hid hx
      clear hx hxl
      by_cases k0 : k = 0
      · subst k0
        simp only [Nat.add_zero] at hcell
        have hh2 : Hid ((t ++ ofL x).data.toList = joined (l.take 1)) := hid (by rw [append_list, hh.out, take_snoc HX.out]; rfl)
        go_wp2_with fail
        go_round
        case rel => exact ⟨1, _, by omega, rfl, rfl, by simp; omega, hh2⟩
        case measure => simp [RowKit.intOf]; omega
      · have e1 : (0 : Int) < k := by omega
        have hh2 : Hid ((t ++ ⟨#[47]⟩ ++ ofL x).data.toList = joined (l.take (k + 1))) := hid (by
          have hne : l.take k ≠ [] := by
            intro e
            have h1 := congrArg List.length e
            rw [List.length_take, HL.out] at h1
            simp at h1; omega
          rw [append_list, append_list, hh.out, take_snoc HX.out, joined_snoc _ _ hne]
          simp [ofL])
        go_wp2_with fail
        go_round
        case rel => exact ⟨k + 1, _, by omega, by go_num, rfl, size3 hts hxs, hh2⟩
        case measure => simp [RowKit.intOf]; omega
    · have hr : Hid (t.data.toList = joined l) := hid (by rw [hh.out, List.take_of_length_le (by rw [HL.out]; omega)])
      go_wp2_with fail
      go_ret
      exact ⟨rfl, t, rfl, hr.out⟩
theorem tail_calls (folder : Bool) (w : World) : Calls Try.prog 13 #[.bool folder] w (Wrote w (tailOf folder)) := by
  cases folder with
  | false =>
    go_enter Try.func13, Try.ntmps13
    go_wp2_with fail
    go_ret
    exact ⟨rfl, _, rfl, rfl⟩
  | true =>
    go_enter Try.func13, Try.ntmps13
    go_wp2_with fail
    go_ret
    exact ⟨rfl, _, rfl, rfl⟩
theorem fits_drop {ps q : List (List UInt8)} {k : Nat} {p x : List UInt8} (hp : ps.drop k = p :: ps.drop (k + 1)) (hq : q.drop k = x :: q.drop (k + 1)) : fits (ps.drop k) (q.drop k) = (glob p x && fits (ps.drop (k + 1)) (q.drop (k + 1))) := by
  rw [hp, hq, fits]
set_option maxRecDepth 100000 in
set_option maxHeartbeats 4000000 in
theorem front_calls (A D : Option Addr) (n c m d B : Nat) (ps q : List (List UInt8)) (folder dir : Bool) (w : World) (hp : Strs w B A n ps) (hq : Strs w B D m q) (hn : n ≤ 2147483647) (hm : m ≤ 2147483647)
    (hpl : ∀ x ∈ ps, x.length ≤ 2147483647) (hql : ∀ x ∈ q, x.length ≤ 2147483647) :
    Calls Try.prog 15 #[.slice A n c, .bool folder, .slice D m d, .bool dir] w (Yields w (front ps folder q dir)) := by
  have HPL := hid hp.len
  have HQL := hid hq.len
  have HP := hid hp
  have HQ := hid hq
  have HPx := hid hpl
  have HQx := hid hql
  clear hp hq hpl hql
  by_cases hnm : m < n
  · have e1 : (m : Int) < n := by omega
    have HR : Hid (front ps folder q dir = false) := hid (by
      unfold front
      cases hf : fits ps q with
      | false => rfl
      | true => have := fits_len _ _ hf; rw [HPL.out, HQL.out] at this; omega)
    go_enter Try.func15, Try.ntmps15
    go_wp2_with fail
    go_ret
    rw [HR.out]
    exact ⟨rfl, 0, rfl⟩
  · have e1 : ¬ (m : Int) < n := by omega
    go_enter Try.func15, Try.ntmps15
    go_wp2_with fail
    go_loopw [18] (fun iv wr => ∃ k : Nat, k ≤ n ∧ iv = .int .i64 k ∧ (∃ j, wr = w.drewN j) ∧ Hid (fits ps q = fits (ps.drop k) (q.drop k))) (fun iv _ => n - (RowKit.intOf iv).toNat)
    case atStart => exact ⟨0, by omega, rfl, ⟨0, rfl⟩, hid rfl⟩
    case round =>
      obtain ⟨k, hk, rfl, hw, hh⟩ := hrel
      by_cases hlt : k < n
      · obtain ⟨j, rfl⟩ := hw
        obtain ⟨g, o, p, rfl, hgB, hcell, hpd, hpx⟩ := HP.out.next hlt
        obtain ⟨g2, o2, x, rfl, hgB2, hcell2, hxd, hxx⟩ := HQ.out.next (k := k) (by omega)
        have hps : (ofL p).size ≤ 140737488351232 := by rw [ofL_size]; have := HPx.out p (List.mem_of_getElem? hpx); omega
        have hxs : (ofL x).size ≤ 140737488351232 := by rw [ofL_size]; have := HQx.out x (List.mem_of_getElem? hxx); omega
        have hcell' : (w.drewN j).cell? ⟨g, o + k, none⟩ = some (.string (ofL p)) := hcell
        have hcell2' : (w.drewN j).cell? ⟨g2, o2 + k, none⟩ = some (.string (ofL x)) := hcell2
        have HF := hid (fits_drop hpd hxd)
        clear hpd hxd hpx hxx
        have hkm : (k : Int) < m := by omega
        go_wp2_with fail
        refine (globs_calls _ (ofL p) (ofL x) _ rfl hps hxs).mono ?_
        rintro e w' ⟨rfl, d', rfl⟩
        rw [data_ofL, data_ofL]
        have hdr := hid (drew_more ⟨j, rfl⟩ d' : ∃ k, (w.drewN j).drewN d' = w.drewN k)
        generalize (w.drewN j).drewN d' = wn at *
        cases hg : glob p x with
        | true =>
          have hh2 : Hid (fits ps q = fits (ps.drop (k + 1)) (q.drop (k + 1))) := hid (by rw [hh.out, HF.out, hg]; rfl)
          clear hg
          go_wp2_with fail
          go_roundw
          case rel => exact ⟨k + 1, by omega, by go_num, hdr.out, hh2⟩
          case measure => simp [RowKit.intOf]; omega
        | false =>
          have HR : Hid (front ps folder q dir = false) := hid (by unfold front; rw [hh.out, HF.out, hg]; rfl)
          clear hg
          go_wp2_with fail
          go_ret
          rw [HR.out]
          exact ⟨rfl, hdr.out⟩
      · have HR : Hid (front ps folder q dir = (!folder || decide ((n : Int) < m) || dir)) := hid (by
          have hf : fits ps q = true := by rw [hh.out, List.drop_of_length_le (by rw [HPL.out]; omega)]; rfl
          unfold front
          rw [hf, HPL.out, HQL.out]
          have : decide (n < m) = decide ((n : Int) < m) := by simp
          rw [this]; rfl)
        have HW := hid hw
        clear hw
        cases folder with
        | false =>
          have hr : Hid (front ps false q dir = true) := hid (by rw [HR.out]; rfl)
          go_wp2_with fail
          go_ret
          rw [hr.out]
          exact ⟨rfl, HW.out⟩
        | true =>
          by_cases hlt2 : n < m
          · have e2 : (n : Int) < m := by omega
            have hr : Hid (front ps true q dir = true) := hid (by rw [HR.out, decide_eq_true e2]; rfl)
            go_wp2_with fail
            go_ret
            rw [hr.out]
            exact ⟨rfl, HW.out⟩
          · have e2 : ¬ (n : Int) < m := by omega
            have hr : Hid (front ps true q dir = dir) := hid (by rw [HR.out, decide_eq_false e2]; rfl)
            go_wp2_with fail
            go_ret
            rw [hr.out]
            exact ⟨rfl, HW.out⟩
end Go.Proofs.Ytfanginpfppdeaa.glob
