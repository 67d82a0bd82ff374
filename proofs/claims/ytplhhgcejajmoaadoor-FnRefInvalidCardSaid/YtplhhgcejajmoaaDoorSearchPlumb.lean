/- Contracts of a package's searches in texts (loop.example/pub-g01474/pub/gogit/plumbing). -/
import Derived.Test.YtplhhgcejajmoaaDoorStrs
import Derived.Test.YtplhhgcejajmoaaDoorText
import Derived.Laws.AppendOwn
import Derived.OwnWalk
import Derived.Deep.DeepMust
import Derived.WideShapes
import Derived.Lib.OthersKept
set_option linter.unusedVariables false
namespace Go.Proofs.YtplhhgcejajmoaaDoor.searchPlumb
open Go.RowKit Lib strs text Go.WideShapes

theorem toNat_sum (k n : Nat) : ((k : Int) + (n : Int)).toNat = k + n := by omega
set_option maxHeartbeats 800000 in
theorem index_calls (s p : ByteArray) (w : World) (hs : s.size ≤ 140737488351232) (hp : p.size ≤ 140737488351232) :
    Calls Tryd.prog 39 #[.string s, .string p] w fun e w' => e = .returned (.int .i64 (findInt p.data.toList s.data.toList)) ∧ w = w' := by
  go_enter Tryd.func39, Tryd.ntmps39
  go_wp2_with fail
  go_loop [5] (fun i => ∃ k : Nat, k ≤ s.size ∧ i = .int .i64 k ∧ Hid (find p.data.toList s.data.toList = (find p.data.toList (s.data.toList.drop k)).map (· + k))) (fun i => s.size + 1 - (RowKit.intOf i).toNat)
  case atStart => exact ⟨0, by omega, rfl, hid (by simp)⟩
  case round =>
    obtain ⟨k, hk, rfl, hf⟩ := hrel
    by_cases hlt : k + p.size ≤ s.size
    · have hlt' : (k : Int) + p.size ≤ s.size := by omega
      have hn := toNat_sum k p.size
      have hx : Hid ((s.extract k (k + p.size)).toList = p.toList ↔ p.data.toList.isPrefixOf (s.data.toList.drop k) = true) := hid (by
        rw [ByteArray.toList_eq, ByteArray.toList_eq, extract_ofL, prefix_take, beq_iff_eq, List.drop_take, show k + p.size - k = p.data.toList.length from by simp])
      cases hq : p.data.toList.isPrefixOf (s.data.toList.drop k) with
      | true =>
        have he : ((s.extract k (k + p.size)).toList == p.toList) = true := by rw [beq_iff_eq]; exact hx.out.2 hq
        have hr := hid (find_drop_hit _ _ k hf.out hq)
        clear hq hf hx
        go_wp2_with fail
        go_ret
        exact ⟨ret_int (by unfold findInt; rw [hr.out]), rfl⟩
      | false =>
        have he : ((s.extract k (k + p.size)).toList == p.toList) = false := by rw [beq_eq_false_iff_ne]; intro h; rw [hx.out.1 h] at hq; cases hq
        by_cases hk2 : k < s.size
        · have hr := hid (find_drop_miss _ _ k (by simpa using hk2) hf.out hq)
          clear hq hf hx
          go_wp2_with fail
          go_round
          case rel => exact ⟨k + 1, by omega, by go_num, hr⟩
          case measure => simp [RowKit.intOf]; omega
        · exfalso
          have e2 : p.data.toList.length = p.size := by simp
          have e0 : p.data.toList = [] := List.eq_nil_of_length_eq_zero (by omega)
          rw [e0] at hq; simp at hq
    · have hlt' : ¬ (k : Int) + p.size ≤ s.size := by omega
      have hr := hid (find_drop_none _ _ k (by simpa using hk) hf.out (by have e1 : s.data.toList.length = s.size := (by simp); have e2 : p.data.toList.length = p.size := (by simp); omega))
      clear hf
      go_wp2_with fail
      go_ret
      exact ⟨ret_int (by unfold findInt; rw [hr.out]), rfl⟩
theorem findInt_has (p l : List UInt8) : decide (0 ≤ findInt p l) = has p l := by
  unfold findInt has
  cases find p l <;> simp
theorem contains_calls (s p : ByteArray) (w : World) (hs : s.size ≤ 140737488351232) (hp : p.size ≤ 140737488351232) :
    Calls Tryd.prog 28 #[.string s, .string p] w fun e w' => e = .returned (.bool (has p.data.toList s.data.toList)) ∧ w = w' := by
  have h := hid (findInt_has p.data.toList s.data.toList)
  go_enter Tryd.func28, Tryd.ntmps28
  go_wp2_with fail
  refine (index_calls s p _ hs hp).mono ?_
  rintro e w' ⟨rfl, rfl⟩
  go_wp2_with fail
  go_ret
  exact ⟨ret_bool h.out, rfl⟩
theorem one_data (c : UInt8) : (⟨#[c]⟩ : ByteArray).data.toList = [c] := rfl
def strLen : Value → Nat
  | .string s => s.size
  | _ => 0
def strVals (l : List (List UInt8)) : List Value := l.map fun x => .string (ofL x)
theorem infoStr : (Tryd.prog.info? 9).map (fun i => (i.zero, i.size, i.bytes)) = some (some (.string ⟨#[]⟩), 1, 16) := by kernel_rfl
def SplitAt (B : Nat) (S : ByteArray) (c : UInt8) (w wr : World) (r : ByteArray) (done : List (List UInt8)) (out : Value) : Prop :=
  pieces c S.data.toList = done ++ pieces c r.data.toList ∧ wr.ownsRow B 9 1 out done.length (strVals done) ∧ Below B w wr ∧ done.length + r.size ≤ S.size
theorem split_more {B : Nat} {S r : ByteArray} {c : UInt8} {w wr w1 : World} {done : List (List UInt8)} {out out1 : Value} {i : Nat} (h : SplitAt B S c w wr r done out) (hf : find [c] r.data.toList = some i)
    (hown : w1.ownsRow B 9 1 out1 (done.length + 1) (strVals done ++ [.string (r.extract 0 i)])) (hb : Below B w w1) : SplitAt B S c w w1 (r.extract (i + 1) r.size) (done ++ [r.data.toList.take i]) out1 := by
  obtain ⟨h1, _, _, h4⟩ := h
  have hi := find_lt hf
  simp only [List.length_cons, List.length_nil, Array.length_toList, ByteArray.size_data] at hi
  have e1 : r.extract 0 i = ofL (r.data.toList.take i) := by
    apply bytes_inj; rw [extract_ofL, data_ofL]; simp
  have e2 : (r.extract (i + 1) r.size).data.toList = r.data.toList.drop (i + 1) := by
    rw [extract_ofL, List.take_of_length_le (by simp)]
  refine ⟨?_, ?_, hb, ?_⟩
  · rw [h1, pieces_some c _ i hf, e2]; simp
  · have e3 : strVals (done ++ [r.data.toList.take i]) = strVals done ++ [.string (r.extract 0 i)] := by simp [strVals, e1]
    rw [e3]; simpa using hown
  · simp only [List.length_append, List.length_cons, List.length_nil, ByteArray.size_extract]; omega
set_option maxRecDepth 100000 in
set_option maxHeartbeats 1000000 in
theorem split_calls (S : ByteArray) (c : UInt8) (w : World) (hs : S.size ≤ 1048576) :
    Calls Tryd.prog 24 #[.string S, .string ⟨#[c]⟩] w fun e w' => ∃ v, e = .returned v ∧ w'.ownsRow w.heap.size 9 1 v (pieces c S.data.toList).length (strVals (pieces c S.data.toList)) ∧ Below w.heap.size w w' := by
  obtain ⟨i0, hi, hz0, hz1, hz2⟩ := info_parts infoStr
  have hc1 : (⟨#[c]⟩ : ByteArray).size = 1 := rfl
  go_enter Tryd.func24, Tryd.ntmps24
  go_wp2_with fail
  go_loopw [0, 5] (fun s out wr => ∃ (r : ByteArray) (done : List (List UInt8)), s = .string r ∧ SplitAt w.heap.size S c w wr r done out) (fun s _ _ => strLen s)
  case atStart => exact ⟨S, [], rfl, rfl, ⟨rfl, .inl ⟨rfl, rfl⟩⟩, Below.refl _ _, by simp⟩
  case round =>
    obtain ⟨r, done, rfl, hAt⟩ := hrel
    have hown := hAt.2.1
    have hb := hAt.2.2.1
    have hlen := hAt.2.2.2
    have hBsz := hb.size
    go_wp2_with fail
    refine (index_calls r _ _ (by omega) (by omega)).mono ?_
    rintro e w' ⟨rfl, rfl⟩
    rw [one_data]
    cases hf : find [c] r.data.toList with
    | none =>
      have HF := hid hf; clear hf
      have HA := hid hAt; clear hAt
      rw [show findInt [c] r.data.toList = -1 from by unfold findInt; rw [HF.out]]
      go_wp2_with (at_builtin; refine wpList_append_own _ rfl _ _ 39 rfl (w.heap.size) 9 i0 (.string ⟨#[]⟩) 1 16 Tryd.underlying39 hi hz0 hz1 hz2 rfl (by decide) _ _ _ rfl (hown.alloc _) ⟨wr.heap.size, 0, none⟩ 1 1 [.string r] rfl rfl ?c1 ?c2 ?c3 ?c4 ?c5 ?_)
      case c1 => exact cell_one_new _ _ _
      case c2 => intro u hu; simp at hu; subst hu; rfl
      case c3 => unfold maxLen; omega
      case c4 => omega
      case c5 => simp; omega
      intro v' w1 hown' hgrow _
      have hb1 : Hid (Below w.heap.size w w1) := hid ((hb.alloc (by omega) _).grown hgrow (by simp; omega) (fun k hk => (hown.lt k hk).1))
      have HO := hid hown'; clear hown' hgrow hown hb
      go_wp2_with fail
      go_ret
      refine ⟨v', rfl, ?_, hb1.out⟩
      rw [HA.out.1, pieces_none c _ HF.out]
      have e3 : strVals (done ++ [r.data.toList]) = strVals done ++ [.string r] := by simp [strVals, ofL_data]
      rw [e3]; simpa using HO.out
    | some i =>
      have hi2 := find_lt hf
      simp only [List.length_cons, List.length_nil, Array.length_toList, ByteArray.size_data] at hi2
      have hi3 : (i : Int) + 1 ≤ r.size := by omega
      have HF := hid hf; clear hf
      have HA := hid hAt; clear hAt
      rw [show findInt [c] r.data.toList = i from by unfold findInt; rw [HF.out]]
      go_wp2_with (at_builtin; refine wpList_append_own _ rfl _ _ 39 rfl (w.heap.size) 9 i0 (.string ⟨#[]⟩) 1 16 Tryd.underlying39 hi hz0 hz1 hz2 rfl (by decide) _ _ _ rfl (hown.alloc _) ⟨wr.heap.size, 0, none⟩ 1 1 [.string (r.extract 0 i)] rfl rfl ?d1 ?d2 ?d3 ?d4 ?d5 ?_)
      case d1 => exact cell_one_new _ _ _
      case d2 => intro u hu; simp at hu; subst hu; rfl
      case d3 => unfold maxLen; omega
      case d4 => omega
      case d5 => simp; omega
      intro v' w1 hown' hgrow _
      have hb1 : Hid (Below w.heap.size w w1) := hid ((hb.alloc (by omega) _).grown hgrow (by simp; omega) (fun k hk => (hown.lt k hk).1))
      have HO := hid (split_more HA.out HF.out hown' hb1.out); clear hown' hgrow hown hb
      go_wp2_with fail
      go_roundw
      case rel => exact ⟨_, _, rfl, HO.out⟩
      case measure => simp only [strLen, ByteArray.size_extract]; omega
def ctrl (c : UInt8) : Bool := c < 32 || c == 127
theorem ctrl_iff (c : UInt8) : ctrl c = true ↔ (c.toNat : Int) < 32 ∨ (c.toNat : Int) = 127 := by
  simp [ctrl, UInt8.lt_iff_toNat_lt, ← UInt8.toNat_inj]; omega
def control (l : List UInt8) : Bool := l.any ctrl
theorem none_take_succ (p : UInt8 → Bool) (s : ByteArray) (k : Nat) (h : k < s.size) (h0 : (s.data.toList.take k).any p = false) (h1 : p s[k] = false) : (s.data.toList.take (k + 1)).any p = false := by
  rw [List.take_succ_eq_append_getElem (by simpa using h), List.any_append, h0]
  simp only [List.any_cons, List.any_nil, Bool.or_false, Bool.false_or, Array.getElem_toList]
  exact h1
theorem any_at (p : UInt8 → Bool) (s : ByteArray) (k : Nat) (h : k < s.size) (h1 : p s[k] = true) : s.data.toList.any p = true := by
  rw [List.any_eq_true]
  exact ⟨s[k], by rw [show s[k] = s.data[k] from rfl]; exact Array.getElem_mem_toList _, h1⟩
set_option maxHeartbeats 800000 in
theorem control_calls (s : ByteArray) (w : World) (hs : s.size ≤ 140737488351232) :
    Calls Tryd.prog 29 #[.string s] w fun e w' => e = .returned (.bool (control s.data.toList)) ∧ w = w' := by
  go_enter Tryd.func29, Tryd.ntmps29
  go_wp2_with fail
  go_loop [3] (fun i => ∃ k : Nat, k ≤ s.size ∧ i = .int .i64 k ∧ Hid ((s.data.toList.take k).any ctrl = false)) (fun i => s.size - (RowKit.intOf i).toNat)
  case atStart => exact ⟨0, by omega, rfl, hid (by simp)⟩
  case round =>
    obtain ⟨k, hk, rfl, ha⟩ := hrel
    by_cases hlt : k < s.size
    · have H := hid (none_take_succ ctrl s k hlt ha)
      have H2 := hid (any_at ctrl s k hlt)
      have H3 := hid (ctrl_iff s[k])
      by_cases h32 : (s[k].toNat : Int) < 32
      · go_wp2_with fail
        go_ret
        exact ⟨ret_bool (by unfold control; rw [H2.out (H3.out.2 (.inl h32))]), rfl⟩
      · by_cases h127 : (s[k].toNat : Int) = 127
        · have e : ((s[k].toNat : Int) == 127) = true := by simpa using h127
          have H127 := hid h127; clear h127
          go_wp2_with fail
          go_ret
          exact ⟨ret_bool (by unfold control; rw [H2.out (H3.out.2 (.inr H127.out))]), rfl⟩
        · have e : ((s[k].toNat : Int) == 127) = false := by simpa using h127
          have hn := hid (H.out (Bool.eq_false_iff.2 (fun h => by rcases H3.out.1 h with h | h <;> contradiction)))
          clear h127
          go_wp2_with fail
          go_round
          case rel => exact ⟨k + 1, by omega, by go_num, hn⟩
          case measure => simp [RowKit.intOf]; omega
    · have ht : Hid (control s.data.toList = false) := hid (by
        have := ha.out
        rw [List.take_of_length_le (by simp; omega)] at this
        exact this)
      clear ha
      go_wp2_with fail
      go_ret
      exact ⟨ret_bool (by rw [ht.out]), rfl⟩
/-- one of a text's bytes is one of some -/
def anyOf (cs l : List UInt8) : Bool := l.any fun c => cs.any (· == c)
theorem any_take (p : UInt8 → Bool) (s : ByteArray) (k : Nat) (h : k < s.size) (h0 : (s.data.toList.take k).any p = false) (h1 : p s[k] = false) : (s.data.toList.take (k + 1)).any p = false :=
  none_take_succ p s k h h0 h1
theorem any_end (p : UInt8 → Bool) (s : ByteArray) (k : Nat) (h : ¬ k < s.size) (h0 : (s.data.toList.take k).any p = false) : s.data.toList.any p = false := by
  rw [List.take_of_length_le (by simp; omega)] at h0
  exact h0
def InAt (C : Nat) (cs s : ByteArray) (c : UInt8) (B pos q : Nat) (w wi : World) : Prop :=
  wi.heap[C]? = some (.stringIter cs q) ∧ wi.heap[B]? = some (.stringIter s pos) ∧ Below B w wi ∧ (cs.data.toList.take q).any (· == c) = false ∧ q ≤ cs.size
set_option maxRecDepth 100000 in
set_option maxHeartbeats 2000000 in
theorem indexAny_calls (s cs : ByteArray) (w : World) (hs : s.size ≤ 140737488351232) (hcs : cs.size ≤ 140737488351232) (ha : ∀ k (h : k < s.size), s[k].toNat < 128) (hca : ∀ k (h : k < cs.size), cs[k].toNat < 128) :
    Calls Tryd.prog 41 #[.string s, .string cs] w fun e w' => ∃ r : Int, e = .returned (.int .i64 r) ∧ decide (0 ≤ r) = anyOf cs.data.toList s.data.toList ∧ Below w.heap.size w w' := by
  have HA := hid ha
  have HCA := hid hca
  clear ha hca
  go_enter Tryd.func41, Tryd.ntmps41
  go_wp2_with fail
  go_loopw [5, 6] (fun _ _ wr => ∃ pos, pos ≤ s.size ∧ wr.heap[w.heap.size]? = some (.stringIter s pos) ∧ Below w.heap.size w wr ∧ Hid ((s.data.toList.take pos).any (fun c => cs.data.toList.any (· == c)) = false)) (fun _ _ wr => s.size - wr.iterPos w.heap.size)
  case atStart => exact ⟨0, by omega, World.iter_heap _ _ _, (Below.refl _ _).alloc (Nat.le_refl _) _, hid (by simp)⟩
  case round =>
    obtain ⟨pos, hpos, hit, hb, hno⟩ := hrel
    have HB := hid hb; clear hb
    have HIT := hid hit; clear hit
    by_cases hp : pos < s.size
    · have hnx := fun ty => run_next_ascii_at (P := Tryd.prog) wr w.heap.size s pos ty HIT.out hp (HA.out pos hp)
      have hB1 := hid (below_iterAt HB.out (Nat.le_refl _) s (pos + 1))
      have hI1 := hid (iterAt_heap wr w.heap.size s pos (pos + 1) HIT.out)
      have hsz1 : Hid (w.heap.size < (wr.iterAt w.heap.size s (pos + 1)).heap.size) := hid (Array.getElem?_eq_some_iff.1 hI1.out).1
      have hp0 : Hid (wr.iterPos w.heap.size = pos) := hid (by unfold World.iterPos; rw [HIT.out])
      obtain ⟨W1, hW1⟩ : ∃ W1, W1 = wr.iterAt w.heap.size s (pos + 1) := ⟨_, rfl⟩
      rw [← hW1] at hnx hB1 hI1 hsz1
      clear hW1 HB HIT
      go_wp2_with fail
      clear hnx
      go_loopw [8] (fun _ wi => ∃ q, InAt W1.heap.size cs s s[pos] w.heap.size (pos + 1) q w wi) (fun _ wi => cs.size - wi.iterPos W1.heap.size)
      case atStart =>
        exact ⟨0, World.iter_heap _ _ _, ((alloc_old W1 _ w.heap.size hsz1.out).trans hI1.out), hB1.out.alloc hB1.out.size _, by simp, by omega⟩
      case round =>
        obtain ⟨q, hin⟩ := hrel
        have HIN := hid hin; clear hin
        by_cases hq : q < cs.size
        · have hnx := fun ty => run_next_ascii_at (P := Tryd.prog) wr W1.heap.size cs q ty HIN.out.1 hq (HCA.out q hq)
          by_cases he : cs[q] = s[pos]
          · have hr : Hid (anyOf cs.data.toList s.data.toList = true) := hid (any_at _ s pos hp (any_at _ cs q hq (by simpa using he)))
            have hBz := hid (below_iterAt HIN.out.2.2.1 (Nat.le_of_lt hsz1.out) cs (q + 1) : Below w.heap.size w (wr.iterAt W1.heap.size cs (q + 1)))
            have ee : ((s[pos].toNat : Int) == (cs[q].toNat : Int)) = true := by rw [he]; simp
            clear he
            go_wp2_with fail
            go_ret
            exact ⟨pos, rfl, by rw [hr.out]; simp, hBz.out⟩
          · have ee : ((s[pos].toNat : Int) == (cs[q].toNat : Int)) = false := by
              rw [beq_eq_false_iff_ne]; intro h; exact he (UInt8.toNat_inj.1 (by omega)).symm
            have hz := hid (any_take (· == s[pos]) cs q hq HIN.out.2.2.2.1 (by simpa using he))
            have hBz := hid (below_iterAt HIN.out.2.2.1 (Nat.le_of_lt hsz1.out) cs (q + 1) : Below w.heap.size w (wr.iterAt W1.heap.size cs (q + 1)))
            have hI2 := hid (iterAt_heap wr W1.heap.size cs q (q + 1) HIN.out.1)
            have hI3 : Hid ((wr.iterAt W1.heap.size cs (q + 1)).heap[w.heap.size]? = some (.stringIter s (pos + 1))) := hid ((iterAt_other wr W1.heap.size w.heap.size cs (q + 1) (Nat.ne_of_lt hsz1.out)).trans HIN.out.2.1)
            clear he
            go_wp2_with fail
            go_roundw
            case rel => exact ⟨q + 1, hI2.out, hI3.out, hBz.out, hz.out, by omega⟩
            case measure =>
              have e1 : (wr.iterAt W1.heap.size cs (q + 1)).iterPos W1.heap.size = q + 1 := by unfold World.iterPos; rw [hI2.out]
              have e2 : wr.iterPos W1.heap.size = q := by unfold World.iterPos; rw [HIN.out.1]
              rw [e1, e2]; omega
        · have hnx := fun ty => run_next_end_at (P := Tryd.prog) wr W1.heap.size cs q ty HIN.out.1 hq
          have hz := hid (any_take (fun c => cs.data.toList.any (· == c)) s pos hp hno.out (any_end _ cs q hq HIN.out.2.2.2.1))
          go_wp2_with fail
          go_roundw
          case rel => exact ⟨pos + 1, by omega, HIN.out.2.1, HIN.out.2.2.1, hz⟩
          case measure =>
            have e1 : wr.iterPos w.heap.size = pos + 1 := by unfold World.iterPos; rw [HIN.out.2.1]
            have e2 := hp0.out
            omega
    · have hnx := fun ty => run_next_end_at (P := Tryd.prog) wr w.heap.size s pos ty HIT.out hp
      go_wp2_with fail
      go_ret
      exact ⟨-1, rfl, by rw [show anyOf cs.data.toList s.data.toList = false from any_end _ s pos hp hno.out]; rfl, HB.out⟩
theorem containsAny_calls (s cs : ByteArray) (w : World) (hs : s.size ≤ 140737488351232) (hcs : cs.size ≤ 140737488351232) (ha : ∀ k (h : k < s.size), s[k].toNat < 128) (hca : ∀ k (h : k < cs.size), cs[k].toNat < 128) :
    Calls Tryd.prog 30 #[.string s, .string cs] w fun e w' => e = .returned (.bool (anyOf cs.data.toList s.data.toList)) ∧ Below w.heap.size w w' := by
  have HA := hid ha
  have HCA := hid hca
  clear ha hca
  go_enter Tryd.func30, Tryd.ntmps30
  go_wp2_with fail
  refine (indexAny_calls s cs _ hs hcs HA.out HCA.out).mono ?_
  rintro e w' ⟨r, rfl, hr, hb⟩
  have HR := hid hr; clear hr
  have HB := hid hb; clear hb
  go_wp2_with fail
  go_ret
  exact ⟨ret_bool HR.out, HB.out⟩
end Go.Proofs.YtplhhgcejajmoaaDoor.searchPlumb
