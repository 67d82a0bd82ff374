/- Contracts of a package's searches in texts (loop.example/pub-g01474/pub/gogit/plumbing/format/gitignore). -/
import Derived.Test.YtfanginpfppdeaaStrs
import Derived.Test.YtfanginpfppdeaaText
import Derived.Laws.AppendOwn
import Derived.OwnWalk
import Derived.Deep.DeepMust
import Derived.WideShapes
import Derived.Lib.OthersKept
set_option linter.unusedVariables false
namespace Go.Proofs.Ytfanginpfppdeaa.searchIgnore
open Go.RowKit Lib strs text Go.WideShapes

theorem toNat_sum (k n : Nat) : ((k : Int) + (n : Int)).toNat = k + n := by omega
set_option maxHeartbeats 800000 in
theorem index_calls (s p : ByteArray) (w : World) (hs : s.size ≤ 140737488351232) (hp : p.size ≤ 140737488351232) :
    Calls Try.prog 25 #[.string s, .string p] w fun e w' => e = .returned (.int .i64 (findInt p.data.toList s.data.toList)) ∧ w = w' := by
  go_enter Try.func25, Try.ntmps25
  go_wp2_with fail
  go_loop [5] (fun i => ∃ k : Nat, k ≤ s.size ∧ i = .int .i64 k ∧ Hid (find p.data.toList s.data.toList = (find p.data.toList (s.data.toList.drop k)).map (· + k))) (fun i => s.size + 1 - (RowKit.intOf i).toNat)
  case atStart => exact ⟨0, by omega, rfl, hid (by simp)⟩
  case round =>
    obtain ⟨k, hk, rfl, hf⟩ := hrel
    by_cases hlt : k + p.size ≤ s.size
    · have hlt' : (k : Int) + p.size ≤ s.size := by omega
      have hn := toNat_sum k p.size
      have hx : Hid ((s.extract k (k + p.size)).toList = p.toList ↔ p.data.toList.isPrefixOf (s.data.toList.drop k) = true) := hid (by
        rw [ByteArray.toList_eq, ByteArray.toList_eq, extract_ofL, prefix_take, beq_iff_eq, List.drop_take, show k + p.size - k = p.data.toList.length from by simp])
      cases hq : p.data.toList.isPrefixOf (s.data.toList.drop k) with
      | true =>
        have he : ((s.extract k (k + p.size)).toList == p.toList) = true := by rw [beq_iff_eq]; exact hx.out.2 hq
        have hr := hid (find_drop_hit _ _ k hf.out hq)
        clear hq hf hx
        go_wp2_with fail
        go_ret
        exact ⟨ret_int (by unfold findInt; rw [hr.out]), rfl⟩
      | false =>
        have he : ((s.extract k (k + p.size)).toList == p.toList) = false := by rw [beq_eq_false_iff_ne]; intro h; rw [hx.out.1 h] at hq; cases hq
        by_cases hk2 : k < s.size
        · have hr := hid (find_drop_miss _ _ k (by simpa using hk2) hf.out hq)
          clear hq hf hx
          go_wp2_with fail
          go_round
          case rel => exact ⟨k + 1, by omega, by go_num, hr⟩
          case measure => simp [RowKit.intOf]; omega
        · exfalso
          have e2 : p.data.toList.length = p.size := by simp
          have e0 : p.data.toList = [] := List.eq_nil_of_length_eq_zero (by omega)
          rw [e0] at hq; simp at hq
    · have hlt' : ¬ (k : Int) + p.size ≤ s.size := by omega
      have hr := hid (find_drop_none _ _ k (by simpa using hk) hf.out (by have e1 : s.data.toList.length = s.size := (by simp); have e2 : p.data.toList.length = p.size := (by simp); omega))
      clear hf
      go_wp2_with fail
      go_ret
      exact ⟨ret_int (by unfold findInt; rw [hr.out]), rfl⟩
theorem findInt_has (p l : List UInt8) : decide (0 ≤ findInt p l) = has p l := by
  unfold findInt has
  cases find p l <;> simp
theorem contains_calls (s p : ByteArray) (w : World) (hs : s.size ≤ 140737488351232) (hp : p.size ≤ 140737488351232) :
    Calls Try.prog 21 #[.string s, .string p] w fun e w' => e = .returned (.bool (has p.data.toList s.data.toList)) ∧ w = w' := by
  have h := hid (findInt_has p.data.toList s.data.toList)
  go_enter Try.func21, Try.ntmps21
  go_wp2_with fail
  refine (index_calls s p _ hs hp).mono ?_
  rintro e w' ⟨rfl, rfl⟩
  go_wp2_with fail
  go_ret
  exact ⟨ret_bool h.out, rfl⟩
theorem one_data (c : UInt8) : (⟨#[c]⟩ : ByteArray).data.toList = [c] := rfl
def strLen : Value → Nat
  | .string s => s.size
  | _ => 0
def strVals (l : List (List UInt8)) : List Value := l.map fun x => .string (ofL x)
theorem infoStr : (Try.prog.info? 9).map (fun i => (i.zero, i.size, i.bytes)) = some (some (.string ⟨#[]⟩), 1, 16) := by kernel_rfl
def SplitAt (B : Nat) (S : ByteArray) (c : UInt8) (w wr : World) (r : ByteArray) (done : List (List UInt8)) (out : Value) : Prop :=
  pieces c S.data.toList = done ++ pieces c r.data.toList ∧ wr.ownsRow B 9 1 out done.length (strVals done) ∧ Below B w wr ∧ done.length + r.size ≤ S.size
theorem split_more {B : Nat} {S r : ByteArray} {c : UInt8} {w wr w1 : World} {done : List (List UInt8)} {out out1 : Value} {i : Nat} (h : SplitAt B S c w wr r done out) (hf : find [c] r.data.toList = some i)
    (hown : w1.ownsRow B 9 1 out1 (done.length + 1) (strVals done ++ [.string (r.extract 0 i)])) (hb : Below B w w1) : SplitAt B S c w w1 (r.extract (i + 1) r.size) (done ++ [r.data.toList.take i]) out1 := by
  obtain ⟨h1, _, _, h4⟩ := h
  have hi := find_lt hf
  simp only [List.length_cons, List.length_nil, Array.length_toList, ByteArray.size_data] at hi
  have e1 : r.extract 0 i = ofL (r.data.toList.take i) := by
    apply bytes_inj; rw [extract_ofL, data_ofL]; simp
  have e2 : (r.extract (i + 1) r.size).data.toList = r.data.toList.drop (i + 1) := by
    rw [extract_ofL, List.take_of_length_le (by simp)]
  refine ⟨?_, ?_, hb, ?_⟩
  · rw [h1, pieces_some c _ i hf, e2]; simp
  · have e3 : strVals (done ++ [r.data.toList.take i]) = strVals done ++ [.string (r.extract 0 i)] := by simp [strVals, e1]
    rw [e3]; simpa using hown
  · simp only [List.length_append, List.length_cons, List.length_nil, ByteArray.size_extract]; omega
set_option maxRecDepth 100000 in
set_option maxHeartbeats 1000000 in
theorem split_calls (S : ByteArray) (c : UInt8) (w : World) (hs : S.size ≤ 1048576) :
    Calls Try.prog 22 #[.string S, .string ⟨#[c]⟩] w fun e w' => ∃ v, e = .returned v ∧ w'.ownsRow w.heap.size 9 1 v (pieces c S.data.toList).length (strVals (pieces c S.data.toList)) ∧ Below w.heap.size w w' := by
  obtain ⟨i0, hi, hz0, hz1, hz2⟩ := info_parts infoStr
  have hc1 : (⟨#[c]⟩ : ByteArray).size = 1 := rfl
  go_enter Try.func22, Try.ntmps22
  go_wp2_with fail
  go_loopw [0, 5] (fun s out wr => ∃ (r : ByteArray) (done : List (List UInt8)), s = .string r ∧ SplitAt w.heap.size S c w wr r done out) (fun s _ _ => strLen s)
  case atStart => exact ⟨S, [], rfl, rfl, ⟨rfl, .inl ⟨rfl, rfl⟩⟩, Below.refl _ _, by simp⟩
  case round =>
    obtain ⟨r, done, rfl, hAt⟩ := hrel
    have hown := hAt.2.1
    have hb := hAt.2.2.1
    have hlen := hAt.2.2.2
    have hBsz := hb.size
    go_wp2_with fail
    refine (index_calls r _ _ (by omega) (by omega)).mono ?_
    rintro e w' ⟨rfl, rfl⟩
    rw [one_data]
    cases hf : find [c] r.data.toList with
    | none =>
      have HF := hid hf; clear hf
      have HA := hid hAt; clear hAt
      rw [show findInt [c] r.data.toList = -1 from by unfold findInt; rw [HF.out]]
      go_wp2_with (at_builtin; refine wpList_append_own _ rfl _ _ 22 rfl (w.heap.size) 9 i0 (.string ⟨#[]⟩) 1 16 Try.underlying22 hi hz0 hz1 hz2 rfl (by decide) _ _ _ rfl (hown.alloc _) ⟨wr.heap.size, 0, none⟩ 1 1 [.string r] rfl rfl ?c1 ?c2 ?c3 ?c4 ?c5 ?_)
      case c1 => exact cell_one_new _ _ _
      case c2 => intro u hu; simp at hu; subst hu; rfl
      case c3 => unfold maxLen; omega
      case c4 => omega
      case c5 => simp; omega
      intro v' w1 hown' hgrow _
      have hb1 : Hid (Below w.heap.size w w1) := hid ((hb.alloc (by omega) _).grown hgrow (by simp; omega) (fun k hk => (hown.lt k hk).1))
      have HO := hid hown'; clear hown' hgrow hown hb
      go_wp2_with fail
      go_ret
      refine ⟨v', rfl, ?_, hb1.out⟩
      rw [HA.out.1, pieces_none c _ HF.out]
      have e3 : strVals (done ++ [r.data.toList]) = strVals done ++ [.string r] := by simp [strVals, ofL_data]
      rw [e3]; simpa using HO.out
    | some i =>
      have hi2 := find_lt hf
      simp only [List.length_cons, List.length_nil, Array.length_toList, ByteArray.size_data] at hi2
      have hi3 : (i : Int) + 1 ≤ r.size := by omega
      have HF := hid hf; clear hf
      have HA := hid hAt; clear hAt
      rw [show findInt [c] r.data.toList = i from by unfold findInt; rw [HF.out]]
      go_wp2_with (at_builtin; refine wpList_append_own _ rfl _ _ 22 rfl (w.heap.size) 9 i0 (.string ⟨#[]⟩) 1 16 Try.underlying22 hi hz0 hz1 hz2 rfl (by decide) _ _ _ rfl (hown.alloc _) ⟨wr.heap.size, 0, none⟩ 1 1 [.string (r.extract 0 i)] rfl rfl ?d1 ?d2 ?d3 ?d4 ?d5 ?_)
      case d1 => exact cell_one_new _ _ _
      case d2 => intro u hu; simp at hu; subst hu; rfl
      case d3 => unfold maxLen; omega
      case d4 => omega
      case d5 => simp; omega
      intro v' w1 hown' hgrow _
      have hb1 : Hid (Below w.heap.size w w1) := hid ((hb.alloc (by omega) _).grown hgrow (by simp; omega) (fun k hk => (hown.lt k hk).1))
      have HO := hid (split_more HA.out HF.out hown' hb1.out); clear hown' hgrow hown hb
      go_wp2_with fail
      go_roundw
      case rel => exact ⟨_, _, rfl, HO.out⟩
      case measure => simp only [strLen, ByteArray.size_extract]; omega
end Go.Proofs.Ytfanginpfppdeaa.searchIgnore
