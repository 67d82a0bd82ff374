/- How a pattern that has been read takes a path. -/
import Derived.Test.YtfanginpfppdeaaIgParse
set_option linter.unusedVariables false
namespace Go.Proofs.Ytfanginpfppdeaa.glob
open Go.RowKit Lib text strs mem searchIgnore

theorem elemText : Try.prog.elem 22 = 9 := by kernel_rfl
theorem sizeText (w : World) : (sizeOf (Try.prog.elem 22)).run Try.prog w = .ok 1 w := by
  obtain ⟨i0, hi, hz0, hz1, hz2⟩ := info_parts infoText
  rw [elemText]
  simp [sizeOf, typeInfo, hi, hz1]
/-- 's[k:]' -/
theorem strs_from (kk : IntKind) (A : Option Addr) (q c k : Nat) (hk : k ≤ q) : ∃ A', (∀ w B l, Strs w B A q l → q ≤ c → Strs w B A' (q - k) (l.drop k)) ∧
    (∀ w, (Instr.sliceAt 22 (.slice A q c) (some (.int kk k)) none none).run Try.prog w = .ok (.slice A' (q - k) (c - k)) w) := by
  refine ⟨if c = k then A else A.map (·.add k), fun w B l h hc => h.cutAt hk hc, fun w => ?_⟩
  rw [run_sliceAt_slice (h := Try.underlying22), run_slice_l (ht := Try.underlying22) (h0 := by omega) (h1 := by omega), sizeText]
  simp [Result.andThen, sliced]
/-- patterns of names, two stars at the end perhaps -/
def okPats : List (List UInt8) → Prop
  | [] => True
  | p :: ps => (Glob p ∧ okPats ps) ∨ (p = [42, 42] ∧ ps = [])
theorem okPats_all : ∀ ps : List (List UInt8), (∀ p ∈ ps, Glob p) → okPats ps := by
  intro ps
  induction ps with
  | nil => intro _; trivial
  | cons p ps ih => intro h; exact .inl ⟨h p (by simp), ih (fun y hy => h y (by simp [hy]))⟩
theorem okPats_at : ∀ (ps : List (List UInt8)) (k : Nat) (p : List UInt8), okPats ps → ps[k]? = some p → Glob p ∨ (p = [42, 42] ∧ k + 1 = ps.length) := by
  intro ps
  induction ps with
  | nil => intro k p _ h; simp at h
  | cons a ps ih =>
    intro k p h hk
    cases k with
    | zero =>
      simp at hk; subst hk
      rcases h with h | ⟨h1, h2⟩
      · exact .inl h.1
      · exact .inr ⟨h1, by rw [h2]; rfl⟩
    | succ k =>
      simp at hk
      rcases h with h | ⟨h1, h2⟩
      · rcases ih k p h.2 hk with h3 | ⟨h3, h4⟩
        · exact .inl h3
        · exact .inr ⟨h3, by simp; exact h4⟩
      · rw [h2] at hk; simp at hk
theorem glob_pl {p : List UInt8} (h : Glob p) : ∀ x ∈ p, pl x := fun x hx => ⟨(ok47 (h.ok x hx)).2.1, (ok47 (h.ok x hx)).2.2.1, (ok47 (h.ok x hx)).2.2.2.1, (ok47 (h.ok x hx)).1⟩
theorem name_asc {p : List UInt8} (h : Name p) : ∀ x ∈ p, asc x := fun x hx => ⟨(ok47 (h.glob.ok x hx)).2.2.2.2.2.2, (ok47 (h.glob.ok x hx)).1⟩
def stepOf (d dir : Bool) (p : List UInt8) (ps : List (List UInt8)) : List (List UInt8) → Bool
  | [] => false
  | x :: t => if glob p x then gm d dir ps t true else false
theorem gm_stepOf (d dir : Bool) (p : List UInt8) (ps q : List (List UInt8)) (m : Bool) (h : p ≠ [42, 42]) : gm d dir (p :: ps) q m = stepOf d dir p ps q := by
  rw [gm_step _ _ _ _ _ _ (fun hx => h hx.1)]
  cases q <;> rfl
theorem ofL_toList (p : List UInt8) : (ofL p).toList = p := by rw [ByteArray.toList_eq]; rfl
set_option maxRecDepth 100000 in
set_option maxHeartbeats 8000000 in
theorem globMatch_calls (g : Nat) (A PA : Option Addr) (n c pn pc B : Nat) (pats q : List (List UInt8)) (d dir : Bool) (w : World) (hc1 : w.cell? ⟨g, 1, none⟩ = some (.slice PA pn pc)) (hc3 : w.cell? ⟨g, 3, none⟩ = some (.bool d))
    (hp : Strs w B PA pn pats) (hq : Strs w B A n q) (hnc : n ≤ c) (hpn : pn ≤ 1048576) (hn : n ≤ 2147483647) (hpo : okPats pats) (hqo : ∀ x ∈ q, Name x) :
    Calls Try.prog 42 #[.pointer (some ⟨g, 0, none⟩), .slice A n c, .bool dir] w (Yields w (gm d dir pats q false)) := by
  have HPL := hid hp.len
  have HP := hid hp
  have HQ := hid hq
  have HPO := hid hpo
  have HQO := hid hqo
  clear hp hq hpo hqo
  go_enter Try.func42, Try.ntmps42
  go_wp2_with fail
  go_loopw [1, 7, 8, 21] (fun pv mv cv iv wr => ∃ (k m' c' : Nat) (A' : Option Addr) (q' : List (List UInt8)) (mt : Bool), k ≤ pn ∧ iv = .int .i64 k ∧ pv = .slice A' m' c' ∧ m' ≤ c' ∧ m' ≤ n ∧ mv = .bool mt ∧ cv = .bool false ∧ (∃ j, wr = w.drewN j) ∧
    Hid (Strs w B A' m' q' ∧ (∀ x ∈ q', Name x) ∧ gm d dir pats q false = gm d dir (pats.drop k) q' mt)) (fun _ _ _ iv _ => pn - (RowKit.intOf iv).toNat)
  case atStart => exact ⟨0, n, c, A, q, false, by omega, rfl, rfl, hnc, Nat.le_refl _, rfl, rfl, ⟨0, rfl⟩, hid ⟨HQ.out, HQO.out, rfl⟩⟩
  case round =>
    obtain ⟨k, m', c', A', q', mt, hk, rfl, rfl, hmc, hmn, rfl, rfl, hw, hh⟩ := hrel
    obtain ⟨j, rfl⟩ := hw
    have hc1' : (w.drewN j).cell? ⟨g, 1, none⟩ = some (.slice PA pn pc) := hc1
    have hc3' : (w.drewN j).cell? ⟨g, 3, none⟩ = some (.bool d) := hc3
    by_cases hlt : k < pn
    · obtain ⟨pg, po, p, rfl, hpg, hcell, hpd, hpx⟩ := HP.out.next hlt
      have hcell' : (w.drewN j).cell? ⟨pg, po + k, none⟩ = some (.string (ofL p)) := hcell
      rcases okPats_at _ _ _ HPO.out hpx with hg | ⟨rfl, hlast⟩
      · have hps : (ofL p).size ≤ 40 := by rw [ofL_size]; exact hg.len
        have hpne : ¬ (ofL p).size = 0 := by rw [ofL_size]; intro e; exact hg.ne (List.eq_nil_of_length_eq_zero e)
        have e0 : (ofL p).toList.isEmpty = false := by rw [empty_toList]; exact decide_eq_false hpne
        have e2 : ((ofL p).toList == [42, 42]) = false := by rw [ofL_toList, beq_eq_false_iff_ne]; exact nodbl_ne hg.dbl
        have hnd := hid (nodbl_find p hg.dbl)
        have hstep := hid (show ∀ m, gm d dir (pats.drop k) q' m = stepOf d dir p (pats.drop (k + 1)) q' from fun m => by
          rw [hpd, gm_stepOf _ _ _ _ _ _ (nodbl_ne hg.dbl)])
        have HG := hid hg
        clear hpd hpx hg hpne
        go_wp2_with fail
        refine (contains_calls (ofL p) ⟨#[42, 42]⟩ _ (by omega) (by decide)).mono ?_
        rintro e w' ⟨rfl, rfl⟩
        rw [show (⟨#[42, 42]⟩ : ByteArray).data.toList = [42, 42] from rfl, data_ofL, hnd.out]
        by_cases m0 : m' = 0
        · have HF : Hid (gm d dir pats q false = false) := hid (by
            have := hh.out.1.len
            have hq0 : q' = [] := List.eq_nil_of_length_eq_zero (by omega)
            rw [hh.out.2.2, hstep.out, hq0]; rfl)
          have em : ((m' : Int) == 0) = true := by rw [beq_iff_eq]; omega
          go_wp2_with fail
          go_ret
          rw [HF.out]
          exact ⟨rfl, j, rfl⟩
        · have em : ((m' : Int) == 0) = false := by rw [beq_eq_false_iff_ne]; omega
          have em2 : (0 : Int) < m' := by omega
          obtain ⟨g2, o2, x, rfl, hg2, hcx, hqd, hqx⟩ := hh.out.1.next (k := 0) (by omega)
          simp only [Nat.add_zero] at hcx
          have hcx' : (w.drewN j).cell? ⟨g2, o2, none⟩ = some (.string (ofL x)) := hcx
          have hxn := hh.out.2.1 x (List.mem_of_getElem? hqx)
          have hxs : (ofL x).size ≤ 40 := by rw [ofL_size]; exact hxn.glob.len
          have HQE : Hid (q' = x :: q'.drop 1) := hid (by simpa using hqd)
          have HXN := hid hxn
          clear hqd hqx hxn hcx
          obtain ⟨A3, hA3, hs3⟩ := strs_from .i64 (some ⟨g2, o2, none⟩) m' c' 1 (by omega)
          have hcut := hid (hA3 _ _ _ hh.out.1 hmc)
          simp only [Int.natCast_one] at hs3
          clear hA3
          go_wp2_with fail
          refine (match_calls (ofL p) (ofL x) _ (by omega) (by omega) (by rw [data_ofL]; exact glob_pl HG.out) (by rw [data_ofL]; exact name_asc HXN.out)).mono ?_
          rintro e w1 ⟨hw1, rfl⟩
          rw [data_ofL, data_ofL]
          have HW1 : Hid (∃ k, w1 = w.drewN k) := hid (by obtain ⟨k2, rfl⟩ := hw1; exact drew_more ⟨j, rfl⟩ k2)
          clear hw1
          cases hgx : glob p x with
          | true =>
            have hh2 : Hid (Strs w B A3 (m' - 1) (q'.drop 1) ∧ (∀ y ∈ q'.drop 1, Name y) ∧ gm d dir pats q false = gm d dir (pats.drop (k + 1)) (q'.drop 1) true) := hid
              ⟨hcut.out, fun y hy => hh.out.2.1 y (List.mem_of_mem_drop hy), by
                rw [hh.out.2.2, hstep.out]
                rw [show stepOf d dir p (pats.drop (k + 1)) q' = stepOf d dir p (pats.drop (k + 1)) (x :: q'.drop 1) from congrArg _ HQE.out]
                simp only [stepOf, hgx, if_true]⟩
            clear hgx
            go_wp2_with fail
            go_roundw
            case rel => exact ⟨k + 1, m' - 1, c' - 1, A3, q'.drop 1, true, by omega, by go_num, rfl, by omega, by omega, rfl, rfl, HW1.out, hh2⟩
            case measure => simp [RowKit.intOf]; omega
          | false =>
            have HF : Hid (gm d dir pats q false = false) := hid (by
              rw [hh.out.2.2, hstep.out, show stepOf d dir p (pats.drop (k + 1)) q' = stepOf d dir p (pats.drop (k + 1)) (x :: q'.drop 1) from congrArg _ HQE.out]
              simp only [stepOf, hgx]
              rfl)
            clear hgx
            go_wp2_with fail
            go_ret
            rw [HF.out]
            exact ⟨rfl, HW1.out⟩
      · have e0 : (ofL [42, 42]).toList.isEmpty = false := by rw [ofL_toList]; rfl
        have e2 : ((ofL [42, 42]).toList == [42, 42]) = true := by rw [ofL_toList]; rfl
        have HF : Hid (gm d dir pats q false = (mt && !(d && !dir && q'.isEmpty))) := hid (by
          have hp0 : pats.drop (k + 1) = [] := List.drop_of_length_le (by omega)
          rw [hh.out.2.2, hpd, hp0, gm_end])
        have ek : ((k : Int) == (pn : Int) - 1) = true := by rw [beq_iff_eq]; have := HPL.out; omega
        clear hpd hpx
        by_cases m0 : m' = 0
        · have hq0 : Hid (q'.isEmpty = true) := hid (by have := hh.out.1.len; rw [List.isEmpty_iff]; exact List.eq_nil_of_length_eq_zero (by omega))
          have em : ((m' : Int) == 0) = true := by rw [beq_iff_eq]; omega
          clear hh m0
          cases mt <;> cases d <;> cases dir <;> (go_wp2_with fail; go_ret; exact ⟨by rw [HF.out, hq0.out]; rfl, j, rfl⟩)
        · have hq0 : Hid (q'.isEmpty = false) := hid (by
            have := hh.out.1.len
            cases q' with
            | nil => simp at this; omega
            | cons a l => rfl)
          have em : ((m' : Int) == 0) = false := by rw [beq_eq_false_iff_ne]; omega
          clear hh m0
          cases mt <;> cases d <;> cases dir <;> (go_wp2_with fail; go_ret; exact ⟨by rw [HF.out, hq0.out]; rfl, j, rfl⟩)
    · have HF : Hid (gm d dir pats q false = (mt && !(d && !dir && q'.isEmpty))) := hid (by
        rw [hh.out.2.2, List.drop_of_length_le (by rw [HPL.out]; omega), gm])
      by_cases m0 : m' = 0
      · have hq0 : Hid (q'.isEmpty = true) := hid (by have := hh.out.1.len; rw [List.isEmpty_iff]; exact List.eq_nil_of_length_eq_zero (by omega))
        have em : ((m' : Int) == 0) = true := by rw [beq_iff_eq]; omega
        clear hh m0
        cases mt <;> cases d <;> cases dir <;> (go_wp2_with fail; go_ret; exact ⟨by rw [HF.out, hq0.out]; rfl, j, rfl⟩)
      · have hq0 : Hid (q'.isEmpty = false) := hid (by
          have := hh.out.1.len
          cases q' with
          | nil => simp at this; omega
          | cons a l => rfl)
        have em : ((m' : Int) == 0) = false := by rw [beq_eq_false_iff_ne]; omega
        clear hh m0
        cases mt <;> cases d <;> cases dir <;> (go_wp2_with fail; go_ret; exact ⟨by rw [HF.out, hq0.out]; rfl, j, rfl⟩)
end Go.Proofs.Ytfanginpfppdeaa.glob
