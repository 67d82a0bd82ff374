/- How a pattern of a name that has been read takes a path. -/
import Derived.Test.YtfanginpfppdeaaIgMatch
set_option linter.unusedVariables false
namespace Go.Proofs.Ytfanginpfppdeaa.glob
open Go.RowKit Lib text strs mem searchIgnore

set_option maxRecDepth 100000 in
set_option maxHeartbeats 8000000 in
theorem simple_calls (g : Nat) (A PA : Option Addr) (n c pc B : Nat) (p : List UInt8) (q : List (List UInt8)) (d dir : Bool) (w : World) (hc1 : w.cell? ⟨g, 1, none⟩ = some (.slice PA 1 pc)) (hc3 : w.cell? ⟨g, 3, none⟩ = some (.bool d))
    (hp : Strs w B PA 1 [p]) (hq : Strs w B A n q) (hn : n ≤ 2147483647) (hg : Glob p) (hqo : ∀ x ∈ q, Name x) :
    Calls Try.prog 43 #[.pointer (some ⟨g, 0, none⟩), .slice A n c, .bool dir] w (Yields w (sm d dir p q)) := by
  obtain ⟨pg, po, x0, rfl, hpg, hcell, _, hx0⟩ := hp.next (k := 0) (by omega)
  simp only [Nat.add_zero] at hcell
  have hxp : x0 = p := by simpa using hx0.symm
  subst hxp
  have HQL := hid hq.len
  have HQ := hid hq
  have HQO := hid hqo
  have HG := hid hg
  have hps : (ofL x0).size ≤ 40 := by rw [ofL_size]; exact hg.len
  clear hq hqo hp hx0 hg
  go_enter Try.func43, Try.ntmps43
  go_wp2_with fail
  go_loopw [13] (fun iv wr => ∃ k : Nat, k ≤ n ∧ iv = .int .i64 k ∧ (∃ j, wr = w.drewN j) ∧ Hid (sm d dir x0 q = sm d dir x0 (q.drop k))) (fun iv _ => n - (RowKit.intOf iv).toNat)
  case atStart => exact ⟨0, by omega, rfl, ⟨0, rfl⟩, hid rfl⟩
  case round =>
    obtain ⟨k, hk, rfl, hw, hh⟩ := hrel
    obtain ⟨j, rfl⟩ := hw
    have hc1' : (w.drewN j).cell? ⟨g, 1, none⟩ = some (.slice (some ⟨pg, po, none⟩) 1 pc) := hc1
    have hc3' : (w.drewN j).cell? ⟨g, 3, none⟩ = some (.bool d) := hc3
    have hcell' : (w.drewN j).cell? ⟨pg, po, none⟩ = some (.string (ofL x0)) := hcell
    by_cases hlt : k < n
    · obtain ⟨g2, o2, x, rfl, hg2, hcx, hqd, hqx⟩ := HQ.out.next hlt
      have hcx' : (w.drewN j).cell? ⟨g2, o2 + k, none⟩ = some (.string (ofL x)) := hcx
      have hxn := HQO.out x (List.mem_of_getElem? hqx)
      have hxs : (ofL x).size ≤ 40 := by rw [ofL_size]; exact hxn.glob.len
      have HQD := hid hqd
      have HXN := hid hxn
      clear hqd hqx hxn hcx
      go_wp2_with fail
      refine (match_calls (ofL x0) (ofL x) _ (by omega) (by omega) (by rw [data_ofL]; exact glob_pl HG.out) (by rw [data_ofL]; exact name_asc HXN.out)).mono ?_
      rintro e w1 ⟨hw1, rfl⟩
      rw [data_ofL, data_ofL]
      obtain ⟨k2, rfl⟩ := hw1
      have HW1 : Hid (∃ k, (w.drewN j).drewN k2 = w.drewN k) := hid (drew_more ⟨j, rfl⟩ k2)
      have hc3'' : ((w.drewN j).drewN k2).cell? ⟨g, 3, none⟩ = some (.bool d) := hc3
      generalize (w.drewN j).drewN k2 = w1 at *
      cases hgx : glob x0 x with
      | true =>
        have HF : Hid (sm d dir x0 q = !(d && !dir && (q.drop (k + 1)).isEmpty)) := hid (by rw [hh.out, HQD.out, sm, hgx]; rfl)
        have hemp : Hid ((q.drop (k + 1)).isEmpty = ((k : Int) == (n : Int) - 1)) := hid (by
          rw [Bool.eq_iff_iff, List.isEmpty_iff, List.drop_eq_nil_iff, HQL.out, beq_iff_eq]
          omega)
        clear hgx
        by_cases hkn : k + 1 = n
        · have ek : ((k : Int) == (n : Int) - 1) = true := by rw [beq_iff_eq]; omega
          cases d <;> cases dir <;> (go_wp2_with fail; go_ret; exact ⟨by rw [HF.out, hemp.out, ek]; rfl, HW1.out⟩)
        · have ek : ((k : Int) == (n : Int) - 1) = false := by rw [beq_eq_false_iff_ne]; omega
          cases d <;> cases dir <;> (go_wp2_with fail; go_ret; exact ⟨by rw [HF.out, hemp.out, ek]; rfl, HW1.out⟩)
      | false =>
        have hh2 : Hid (sm d dir x0 q = sm d dir x0 (q.drop (k + 1))) := hid (by rw [hh.out, HQD.out, sm, hgx]; rfl)
        clear hgx
        go_wp2_with fail
        go_roundw
        case rel => exact ⟨k + 1, by omega, by go_num, HW1.out, hh2⟩
        case measure => simp [RowKit.intOf]; omega
    · have HF : Hid (sm d dir x0 q = false) := hid (by rw [hh.out, List.drop_of_length_le (by rw [HQL.out]; omega), sm])
      go_wp2_with fail
      go_ret
      rw [HF.out]
      exact ⟨rfl, j, rfl⟩
theorem pieces_one {b : List UInt8} (h : has [47] b = false) : pieces 47 b = [b] := by
  refine pieces_none 47 b ?_
  unfold has at h
  cases hf : find [47] b with
  | none => rfl
  | some i => rw [hf] at h; cases h
def Counted (w : World) (r : Nat) (e : Ending) (w' : World) : Prop := e = .returned (.int .i64 (r : Int)) ∧ ∃ k, w' = w.drewN k
set_option maxRecDepth 100000 in
set_option maxHeartbeats 8000000 in
theorem Match_calls (g B : Nat) (A : Option Addr) (n c : Nat) (P : List UInt8) (dom path : List (List UInt8)) (dir : Bool) (w : World) (hr : Read w g B P dom) (hq : Strs w B A n path) (hnc : n ≤ c) (hn : n ≤ 2147483647)
    (hpl : (pieces 47 (bodyOf P)).length ≤ 1048576) (hpo : okPats (pieces 47 (bodyOf P))) (hqo : ∀ x ∈ path, Name x) (hdl : dom.length ≤ 2147483647) (hgb : has [47] (bodyOf P) = false → Glob (bodyOf P)) :
    Calls Try.prog 41 #[.pointer (some ⟨g, 0, none⟩), .slice A n c, .bool dir] w (Counted w (matchRes P dom path dir)) := by
  obtain ⟨hgB, ⟨DA, dn, dc, hc0, hd, hdc⟩, ⟨PA, pn, pc, hc1, hp, hpc⟩, hc2, hc3, hc4⟩ := hr
  have HDL := hid hd.len
  have HQL := hid hq.len
  have HD := hid hd
  have HQ := hid hq
  have HP := hid hp
  have HPO := hid hpo
  have HQO := hid hqo
  have hdn : dn ≤ 2147483647 := by rw [← hd.len]; exact hdl
  have hpn : pn ≤ 1048576 := by rw [← hp.len]; exact hpl
  have HPL := hid hp.len
  clear hd hq hp hpo hqo hdl hpl
  by_cases h0 : n ≤ dn
  · have e0 : (n : Int) ≤ dn := by omega
    have HF : Hid (matchRes P dom path dir = 0) := hid (by unfold matchRes; rw [if_neg (by rw [HDL.out, HQL.out]; omega)])
    go_enter Try.func41, Try.ntmps41
    go_wp2_with fail
    go_ret
    rw [HF.out]
    exact ⟨rfl, 0, rfl⟩
  · have e0 : ¬ (n : Int) ≤ dn := by omega
    obtain ⟨A3, hA3, hs3⟩ := strs_from .i64 A n c dn (by omega)
    have hcut := hid (hA3 _ _ _ HQ.out hnc)
    have HGB := hid hgb
    clear hA3 hgb
    go_enter Try.func41, Try.ntmps41
    go_wp2_with fail
    go_loop [22] (fun iv => ∃ k : Nat, k ≤ dn ∧ iv = .int .i64 k ∧ Hid (path.take k = dom.take k)) (fun iv => dn - (RowKit.intOf iv).toNat)
    case atStart => exact ⟨0, by omega, rfl, hid (by simp)⟩
    case round =>
      obtain ⟨k, hk, rfl, hh⟩ := hrel
      by_cases hlt : k < dn
      · obtain ⟨g1, o1, x, rfl, hg1, hcx, _, hx⟩ := HD.out.next hlt
        obtain ⟨g2, o2, y, rfl, hg2, hcy, _, hy⟩ := HQ.out.next (k := k) (by omega)
        have hkn : (k : Int) < n := by omega
        have HX := hid hx
        have HY := hid hy
        clear hx hy
        by_cases hxy : y = x
        · have exy : ((ofL y).toList == (ofL x).toList) = true := by rw [ofL_toList, ofL_toList, hxy]; simp
          have hh2 : Hid (path.take (k + 1) = dom.take (k + 1)) := hid (by rw [List.take_add_one, List.take_add_one, HX.out, HY.out, hh.out, hxy])
          clear hxy
          go_wp2_with fail
          go_round
          case rel => exact ⟨k + 1, by omega, by go_num, hh2⟩
          case measure => simp [RowKit.intOf]; omega
        · have exy : ((ofL y).toList == (ofL x).toList) = false := by rw [ofL_toList, ofL_toList, beq_eq_false_iff_ne]; exact hxy
          have HF : Hid (matchRes P dom path dir = 0) := hid (by
            unfold matchRes
            rw [if_neg]
            rintro ⟨_, h2, _⟩
            rw [HDL.out] at h2
            have h3 := congrArg (fun l => l[k]?) h2
            simp only [List.getElem?_take, if_pos hlt, HX.out, HY.out, Option.some.injEq] at h3
            exact hxy h3)
          clear hxy
          go_wp2_with fail
          go_ret
          rw [HF.out]
          exact ⟨rfl, 0, rfl⟩
      · have HT : Hid (path.take dom.length = dom) := hid (by
          have h1 := hh.out
          have hkd : k = dn := by omega
          rw [hkd] at h1
          rw [HDL.out, h1, ← HDL.out, List.take_length])
        have HR : Hid (∀ b, takes P (path.drop dn) dir = b → matchRes P dom path dir = if b then 1 else 0) := hid (fun b hb => by
          unfold matchRes
          have h2 : dom.length < path.length := by rw [HDL.out, HQL.out]; omega
          rw [HDL.out] at h2 ⊢
          have h3 := HT.out
          rw [HDL.out] at h3
          subst hb
          cases takes P (path.drop dn) dir with
          | true => rw [if_pos ⟨h2, h3, rfl⟩]; rfl
          | false => rw [if_neg (fun hx => by cases hx.2.2)]; rfl)
        clear hh
        cases hgl : has [47] (bodyOf P) with
        | true =>
          rw [hgl] at hc4
          have HTK : Hid (takes P (path.drop dn) dir = gm (tailed P) dir (pieces 47 (bodyOf P)) (path.drop dn) false) := hid (by unfold takes; rw [hgl, if_pos rfl])
          clear hgl
          go_wp2_with fail
          refine (globMatch_calls g A3 PA (n - dn) (c - dn) pn pc B _ (path.drop dn) (tailed P) dir w hc1 hc3 HP.out hcut.out (by omega) hpn (by omega) HPO.out (fun x hx => HQO.out x (List.mem_of_mem_drop hx))).mono ?_
          rintro e w1 ⟨rfl, hw1⟩
          have HW1 := hid hw1
          rw [← HTK.out]
          clear HTK
          obtain ⟨k1, rfl⟩ := hw1
          have hc2' : (w.drewN k1).cell? ⟨g, 2, none⟩ = some (.bool false) := hc2
          have hc4' : (w.drewN k1).cell? ⟨g, 4, none⟩ = some (.bool true) := hc4
          cases htk : takes P (path.drop dn) dir with
          | true =>
            have HF : Hid (matchRes P dom path dir = 1) := hid (HR.out true htk)
            clear htk
            go_wp2_with fail
            go_ret
            rw [HF.out]
            exact ⟨rfl, HW1.out⟩
          | false =>
            have HF : Hid (matchRes P dom path dir = 0) := hid (HR.out false htk)
            clear htk
            go_wp2_with fail
            go_ret
            rw [HF.out]
            exact ⟨rfl, HW1.out⟩
        | false =>
          rw [hgl] at hc4
          have HTK : Hid (takes P (path.drop dn) dir = sm (tailed P) dir (bodyOf P) (path.drop dn)) := hid (by unfold takes; rw [hgl]; rfl)
          have hp1 := pieces_one hgl
          have hpn1 : pn = 1 := by have h1 := HPL.out; rw [hp1] at h1; simpa using h1.symm
          subst hpn1
          have HG := hid (HGB.out hgl)
          have HP1 : Hid (Strs w B PA 1 [bodyOf P]) := hid (by rw [← hp1]; exact HP.out)
          clear hgl hp1
          go_wp2_with fail
          refine (simple_calls g A3 PA (n - dn) (c - dn) pc B (bodyOf P) (path.drop dn) (tailed P) dir w hc1 hc3 HP1.out hcut.out (by omega) HG.out (fun x hx => HQO.out x (List.mem_of_mem_drop hx))).mono ?_
          rintro e w1 ⟨rfl, hw1⟩
          have HW1 := hid hw1
          rw [← HTK.out]
          clear HTK
          obtain ⟨k1, rfl⟩ := hw1
          have hc2' : (w.drewN k1).cell? ⟨g, 2, none⟩ = some (.bool false) := hc2
          have hc4' : (w.drewN k1).cell? ⟨g, 4, none⟩ = some (.bool false) := hc4
          cases htk : takes P (path.drop dn) dir with
          | true =>
            have HF : Hid (matchRes P dom path dir = 1) := hid (HR.out true htk)
            clear htk
            go_wp2_with fail
            go_ret
            rw [HF.out]
            exact ⟨rfl, HW1.out⟩
          | false =>
            have HF : Hid (matchRes P dom path dir = 0) := hid (HR.out false htk)
            clear htk
            go_wp2_with fail
            go_ret
            rw [HF.out]
            exact ⟨rfl, HW1.out⟩
end Go.Proofs.Ytfanginpfppdeaa.glob
