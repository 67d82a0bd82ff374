/- Contract of ReferenceName.Validate: the walk. -/
import Derived.Test.YtplhhgcejajmoaaDoorValidate
set_option linter.unusedVariables false
namespace Go.Proofs.YtplhhgcejajmoaaDoor.refname
open Go.RowKit Lib strs text searchPlumb Go.WideShapes

set_option maxRecDepth 100000 in
set_option maxHeartbeats 4000000 in
theorem round_heads (s : ByteArray) (w : World) (a : Addr) (hE : Err w a) (hs : s.size ≤ 1048576) (ha : ascii s.data.toList = true) (h0 : s.data.toList ≠ []) (h1 : s.data.toList ≠ headL) (h2 : suffixOf s.data.toList [46] = false) (h3 : ¬ (pieces 47 s.data.toList).length < 2) (h4 : prefixOf s.data.toList heads = true) :
    Calls Tryd.prog 16 #[.string s] w fun e w' => Res w e w' a (valid s.data.toList) := by
  have hne : ((s.size : Int) == 0) = false := by
    rw [beq_eq_false_iff_ne]; intro h; exact h0 (List.eq_nil_of_length_eq_zero (by rw [Array.length_toList, ByteArray.size_data]; omega))
  have hnh : (s.toList == [72, 69, 65, 68]) = false := by rw [beq_eq_false_iff_ne, ByteArray.toList_eq]; exact h1
  have H4 := hid h4; clear h4
  have H0 := hid h0; clear h0
  have H1 := hid h1; clear h1
  have H2 := hid h2; clear h2
  have HA := hid ha; clear ha
  have HE := hid hE; clear hE
  go_enter Tryd.func16, Tryd.ntmps16
  go_wp2_with fail
  refine (HasSuffix_calls s _ _ (by omega)).mono ?_
  rintro e w' ⟨rfl, rfl⟩
  rw [one_data, H2.out]
  go_wp2_with fail
  refine (split_calls s 47 _ hs).mono ?_
  rintro e w1 ⟨v, rfl, hown, hb⟩
  obtain ⟨g, cap, rfl, hg, hcap⟩ := hown.form (by omega)
  have hA0 : Hid (AtRound g cap (pieces 47 s.data.toList) w w1 (bt s.data.toList) a 0) := hid ⟨hown, hb, cell_later hb HE.out, fun i hi => by omega⟩
  have HL := hid (pieces_len 47 s.data.toList); have HM := hid (pieces_mem 47 s.data.toList); have HS := hid (pieces_size 47 s.data.toList)
  obtain ⟨ps, hps⟩ : ∃ ps, ps = pieces 47 s.data.toList := ⟨_, rfl⟩
  rw [← hps] at hA0 HL HM HS h3 ⊢
  have HPS := hid hps; clear hps hown hb HE
  have hn2 : ¬ (ps.length : Int) < 2 := by omega
  have hlen : ps.length ≤ 1048577 := by have := HL.out; simp at this; omega
  go_wp2_with fail
  refine (branch_calls s _ (by omega)).mono ?_
  rintro e w' ⟨rfl, rfl⟩
  go_wp2_with fail
  refine (tag_calls s _ (by omega)).mono ?_
  rintro e w' ⟨rfl, rfl⟩
  rw [H4.out]
  have HBT : Hid (bt s.data.toList = true) := hid (by unfold bt; rw [H4.out]; rfl)
  clear H4
  go_wp2_with fail
  go_loopw [7, 8, 31] (fun _ _ i wr => ∃ k : Nat, k ≤ ps.length ∧ i = .int .i64 k ∧ Hid (AtRound g cap ps w wr (bt s.data.toList) a k)) (fun _ _ i _ => ps.length - (RowKit.intOf i).toNat)
  case atStart => exact ⟨0, by omega, rfl, hA0⟩
  case round =>
    obtain ⟨k, hk, rfl, hAt⟩ := hrel
    by_cases hlt : k < ps.length
    · have hc := hAt.out.cellAt hlt
      have he := hAt.out.2.2.1
      unfold Err at he
      obtain ⟨l, hl⟩ : ∃ l, l = ps.getD k [] := ⟨_, rfl⟩
      have hmem : l ∈ ps := by rw [hl]; exact getD_mem _ _ _ hlt
      have hla : Hid (ascii l = true) := hid (by
        have h1 := HM.out l hmem
        have h2 := HA.out
        unfold ascii at h2 ⊢
        rw [List.all_eq_true] at h2 ⊢
        exact fun x hx => h2 x (h1 x hx))
      have hlz : (ofL l).size ≤ 1048576 := by
        have h1 := HS.out l hmem
        rw [ofL_size]; simp at h1; omega
      rw [← hl] at hc
      have HLK := hid hl; clear hl hmem
      have bad : Hid (badPart l = true → valid s.data.toList = false) := hid (fun h => valid_no3 _ H0.out H1.out (by rw [← HPS.out]; exact partsOk_no _ _ k hlt (by rw [← HLK.out]; simp [partOk, h])))
      by_cases hz : l = []
      · have hz0 : (((ofL l).size : Int) == 0) = true := by rw [hz]; rfl
        have hv : Hid (valid s.data.toList = false) := hid (valid_no3 _ H0.out H1.out (by rw [← HPS.out]; exact partsOk_no _ _ k hlt (by rw [← HLK.out, hz]; rfl)))
        have hbel := hid hAt.out.2.1
        clear hz
        go_wp2_with fail
        go_ret
        exact res_no rfl hv.out hbel.out
      have hz0 : (((ofL l).size : Int) == 0) = false := by
        rw [beq_eq_false_iff_ne, ofL_size]; intro h; exact hz (List.eq_nil_of_length_eq_zero (by omega))
      have HZ := hid hz; clear hz
      cases hb0 : prefixOf l [46] with
      | true =>
        have B0 := hid hb0; clear hb0
        go_wp2_with fail
        refine (pc0 l _ hlz).mono ?_
        rintro e w' ⟨rfl, rfl⟩
        rw [B0.out]
        go_wp2_with fail
        go_ret
        exact res_no rfl (bad.out (by unfold badPart; rw [B0.out]; simp)) hAt.out.2.1
      | false =>
        have B0 := hid hb0; clear hb0
        cases hb1 : has [46, 46] l with
        | true =>
          have B1 := hid hb1; clear hb1
          go_wp2_with fail
          refine (pc0 l _ hlz).mono ?_
          rintro e w' ⟨rfl, rfl⟩
          rw [B0.out]
          go_wp2_with fail
          refine (pc1 l _ hlz).mono ?_
          rintro e w' ⟨rfl, rfl⟩
          rw [B1.out]
          go_wp2_with fail
          go_ret
          exact res_no rfl (bad.out (by unfold badPart; rw [B0.out, B1.out]; simp)) hAt.out.2.1
        | false =>
          have B1 := hid hb1; clear hb1
          cases hb2 : control l with
          | true =>
            have B2 := hid hb2; clear hb2
            go_wp2_with fail
            refine (pc0 l _ hlz).mono ?_
            rintro e w' ⟨rfl, rfl⟩
            rw [B0.out]
            go_wp2_with fail
            refine (pc1 l _ hlz).mono ?_
            rintro e w' ⟨rfl, rfl⟩
            rw [B1.out]
            go_wp2_with fail
            refine (pc2 l _ hlz).mono ?_
            rintro e w' ⟨rfl, rfl⟩
            rw [B2.out]
            go_wp2_with fail
            go_ret
            exact res_no rfl (bad.out (by unfold badPart; rw [B0.out, B1.out, B2.out]; simp)) hAt.out.2.1
          | false =>
            have B2 := hid hb2; clear hb2
            cases hb3 : anyOf seps l with
            | true =>
              have B3 := hid hb3; clear hb3
              go_wp2_with fail
              refine (pc0 l _ hlz).mono ?_
              rintro e w' ⟨rfl, rfl⟩
              rw [B0.out]
              go_wp2_with fail
              refine (pc1 l _ hlz).mono ?_
              rintro e w' ⟨rfl, rfl⟩
              rw [B1.out]
              go_wp2_with fail
              refine (pc2 l _ hlz).mono ?_
              rintro e w' ⟨rfl, rfl⟩
              rw [B2.out]
              go_wp2_with fail
              refine (pc3 l _ hlz hla.out).mono ?_
              rintro e w3 ⟨rfl, hb3⟩
              have hAt3 := hid (hAt.out.later hb3); clear hb3
              have he3 := hAt3.out.2.2.1
              unfold Err at he3
              rw [B3.out]
              go_wp2_with fail
              go_ret
              exact res_no rfl (bad.out (by unfold badPart; rw [B0.out, B1.out, B2.out, B3.out]; simp)) hAt3.out.2.1
            | false =>
              have B3 := hid hb3; clear hb3
              cases hb4 : has [64, 123] l with
              | true =>
                have B4 := hid hb4; clear hb4
                go_wp2_with fail
                refine (pc0 l _ hlz).mono ?_
                rintro e w' ⟨rfl, rfl⟩
                rw [B0.out]
                go_wp2_with fail
                refine (pc1 l _ hlz).mono ?_
                rintro e w' ⟨rfl, rfl⟩
                rw [B1.out]
                go_wp2_with fail
                refine (pc2 l _ hlz).mono ?_
                rintro e w' ⟨rfl, rfl⟩
                rw [B2.out]
                go_wp2_with fail
                refine (pc3 l _ hlz hla.out).mono ?_
                rintro e w3 ⟨rfl, hb3⟩
                have hAt3 := hid (hAt.out.later hb3); clear hb3
                have he3 := hAt3.out.2.2.1
                unfold Err at he3
                rw [B3.out]
                go_wp2_with fail
                refine (pc4 l _ hlz).mono ?_
                rintro e w' ⟨rfl, rfl⟩
                rw [B4.out]
                go_wp2_with fail
                go_ret
                exact res_no rfl (bad.out (by unfold badPart; rw [B0.out, B1.out, B2.out, B3.out, B4.out]; simp)) hAt3.out.2.1
              | false =>
                have B4 := hid hb4; clear hb4
                cases hb5 : (l == [64]) with
                | true =>
                  have B5 := hid hb5; clear hb5
                  have he5 : ((ofL l).toList == [64]) = true := by rw [ByteArray.toList_eq, data_ofL]; exact B5.out
                  go_wp2_with fail
                  refine (pc0 l _ hlz).mono ?_
                  rintro e w' ⟨rfl, rfl⟩
                  rw [B0.out]
                  go_wp2_with fail
                  refine (pc1 l _ hlz).mono ?_
                  rintro e w' ⟨rfl, rfl⟩
                  rw [B1.out]
                  go_wp2_with fail
                  refine (pc2 l _ hlz).mono ?_
                  rintro e w' ⟨rfl, rfl⟩
                  rw [B2.out]
                  go_wp2_with fail
                  refine (pc3 l _ hlz hla.out).mono ?_
                  rintro e w3 ⟨rfl, hb3⟩
                  have hAt3 := hid (hAt.out.later hb3); clear hb3
                  have he3 := hAt3.out.2.2.1
                  unfold Err at he3
                  rw [B3.out]
                  go_wp2_with fail
                  refine (pc4 l _ hlz).mono ?_
                  rintro e w' ⟨rfl, rfl⟩
                  rw [B4.out]
                  go_wp2_with fail
                  go_ret
                  exact res_no rfl (bad.out (by unfold badPart; rw [B0.out, B1.out, B2.out, B3.out, B4.out, B5.out]; simp)) hAt3.out.2.1
                | false =>
                  have B5 := hid hb5; clear hb5
                  have he5 : ((ofL l).toList == [64]) = false := by rw [ByteArray.toList_eq, data_ofL]; exact B5.out
                  cases hb6 : has [92] l with
                  | true =>
                    have B6 := hid hb6; clear hb6
                    go_wp2_with fail
                    refine (pc0 l _ hlz).mono ?_
                    rintro e w' ⟨rfl, rfl⟩
                    rw [B0.out]
                    go_wp2_with fail
                    refine (pc1 l _ hlz).mono ?_
                    rintro e w' ⟨rfl, rfl⟩
                    rw [B1.out]
                    go_wp2_with fail
                    refine (pc2 l _ hlz).mono ?_
                    rintro e w' ⟨rfl, rfl⟩
                    rw [B2.out]
                    go_wp2_with fail
                    refine (pc3 l _ hlz hla.out).mono ?_
                    rintro e w3 ⟨rfl, hb3⟩
                    have hAt3 := hid (hAt.out.later hb3); clear hb3
                    have he3 := hAt3.out.2.2.1
                    unfold Err at he3
                    rw [B3.out]
                    go_wp2_with fail
                    refine (pc4 l _ hlz).mono ?_
                    rintro e w' ⟨rfl, rfl⟩
                    rw [B4.out]
                    go_wp2_with fail
                    refine (pc6 l _ hlz).mono ?_
                    rintro e w' ⟨rfl, rfl⟩
                    rw [B6.out]
                    go_wp2_with fail
                    go_ret
                    exact res_no rfl (bad.out (by unfold badPart; rw [B0.out, B1.out, B2.out, B3.out, B4.out, B5.out, B6.out]; simp)) hAt3.out.2.1
                  | false =>
                    have B6 := hid hb6; clear hb6
                    cases hb7 : suffixOf l [46, 108, 111, 99, 107] with
                    | true =>
                      have B7 := hid hb7; clear hb7
                      go_wp2_with fail
                      refine (pc0 l _ hlz).mono ?_
                      rintro e w' ⟨rfl, rfl⟩
                      rw [B0.out]
                      go_wp2_with fail
                      refine (pc1 l _ hlz).mono ?_
                      rintro e w' ⟨rfl, rfl⟩
                      rw [B1.out]
                      go_wp2_with fail
                      refine (pc2 l _ hlz).mono ?_
                      rintro e w' ⟨rfl, rfl⟩
                      rw [B2.out]
                      go_wp2_with fail
                      refine (pc3 l _ hlz hla.out).mono ?_
                      rintro e w3 ⟨rfl, hb3⟩
                      have hAt3 := hid (hAt.out.later hb3); clear hb3
                      have he3 := hAt3.out.2.2.1
                      unfold Err at he3
                      rw [B3.out]
                      go_wp2_with fail
                      refine (pc4 l _ hlz).mono ?_
                      rintro e w' ⟨rfl, rfl⟩
                      rw [B4.out]
                      go_wp2_with fail
                      refine (pc6 l _ hlz).mono ?_
                      rintro e w' ⟨rfl, rfl⟩
                      rw [B6.out]
                      go_wp2_with fail
                      refine (pc7 l _ hlz).mono ?_
                      rintro e w' ⟨rfl, rfl⟩
                      rw [B7.out]
                      go_wp2_with fail
                      go_ret
                      exact res_no rfl (bad.out (by unfold badPart; rw [B0.out, B1.out, B2.out, B3.out, B4.out, B5.out, B6.out, B7.out]; simp)) hAt3.out.2.1
                    | false =>
                      have B7 := hid hb7; clear hb7
                      have HNB : Hid (badPart l = false) := hid (by unfold badPart; rw [B0.out, B1.out, B2.out, B3.out, B4.out, B5.out, B6.out, B7.out]; rfl)
                      go_wp2_with fail
                      refine (pc0 l _ hlz).mono ?_
                      rintro e w' ⟨rfl, rfl⟩
                      rw [B0.out]
                      go_wp2_with fail
                      refine (pc1 l _ hlz).mono ?_
                      rintro e w' ⟨rfl, rfl⟩
                      rw [B1.out]
                      go_wp2_with fail
                      refine (pc2 l _ hlz).mono ?_
                      rintro e w' ⟨rfl, rfl⟩
                      rw [B2.out]
                      go_wp2_with fail
                      refine (pc3 l _ hlz hla.out).mono ?_
                      rintro e w3 ⟨rfl, hb3⟩
                      have hAt3 := hid (hAt.out.later hb3); clear hb3
                      have he3 := hAt3.out.2.2.1
                      unfold Err at he3
                      rw [B3.out]
                      go_wp2_with fail
                      refine (pc4 l _ hlz).mono ?_
                      rintro e w' ⟨rfl, rfl⟩
                      rw [B4.out]
                      go_wp2_with fail
                      refine (pc6 l _ hlz).mono ?_
                      rintro e w' ⟨rfl, rfl⟩
                      rw [B6.out]
                      go_wp2_with fail
                      refine (pc7 l _ hlz).mono ?_
                      rintro e w' ⟨rfl, rfl⟩
                      rw [B7.out]
                      go_wp2_with fail
                      refine (pcm l _ hlz).mono ?_
                      rintro e w' ⟨rfl, rfl⟩
                      rcases Bool.eq_false_or_eq_true (prefixOf l [45]) with hm | hm
                      · rw [hm]
                        have HMM := hid hm; clear hm
                        by_cases hk2 : k = 2
                        · have e2 : ((k : Int) == 2) = true := by rw [hk2]; rfl
                          have hv : Hid (valid s.data.toList = false) := hid (valid_no3 _ H0.out H1.out (by rw [← HPS.out]; exact partsOk_no _ _ k hlt (by rw [← HLK.out]; unfold partOk; rw [HBT.out, HMM.out, hk2]; simp)))
                          clear hk2
                          go_wp2_with fail
                          go_ret
                          exact res_no rfl hv.out hAt3.out.2.1
                        · have e2 : ((k : Int) == 2) = false := by rw [beq_eq_false_iff_ne]; omega
                          have e3 : Hid ((k == 2) = false) := hid (by simpa using hk2)
                          clear hk2
                          go_wp2_with fail
                          go_roundw
                          case rel => exact ⟨k + 1, by omega, by go_num, hid (hAt3.out.next (by rw [← HLK.out]; exact partOk_mk _ _ _ HZ.out HNB.out (by rw [e3.out]; simp)))⟩
                          case measure => simp [RowKit.intOf]; omega
                      · rw [hm]
                        have HMM := hid hm; clear hm
                        go_wp2_with fail
                        go_roundw
                        case rel => exact ⟨k + 1, by omega, by go_num, hid (hAt3.out.next (by rw [← HLK.out]; exact partOk_mk _ _ _ HZ.out HNB.out (by rw [HMM.out]; simp)))⟩
                        case measure => simp [RowKit.intOf]; omega
    · have hv : Hid (valid s.data.toList = true) := hid (valid_yes _ H0.out H1.out H2.out (by rw [← HPS.out]; exact h3) (by rw [← HPS.out]; exact partsOk_yes _ _ (fun i hi => hAt.out.2.2.2 i (by omega))))
      have hbel := hid hAt.out.2.1
      go_wp2_with fail
      go_ret
      exact res_yes rfl hv.out hbel.out
end Go.Proofs.YtplhhgcejajmoaaDoor.refname
