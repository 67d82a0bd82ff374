/- FnRefInvalid: a name with a piece or an end that git does not allow is not valid: the walk. -/
import Derived.Test.YtplhhgcejajmoaaDoorRows
import Derived.Test.YtplhhgcejajmoaaDoorErr
import Derived.Test.YtplhhgcejajmoaaDoorBits
import Derived.Test.YtplhhgcejajmoaaDoorValidateHeads
set_option linter.unusedVariables false
namespace Go.Proofs.YtplhhgcejajmoaaDoor.refInvalid
open Go.RowKit Lib strs text searchPlumb refname Go.WideShapes

def bads : List (List UInt8) := [[32], [126], [94], [58], [63], [42], [91], [92], [46, 46], [64, 123], [47, 47], [1], [31], [127], [47, 46], [46, 108, 111, 99, 107, 47]]
def ends : List (List UInt8) := [[46, 108, 111, 99, 107], [47], [46]]
theorem badPart_calls (n : Int) (w : World) (hn : (Lit.int .i64 n).wf = true) :
    Calls Tryd.prog 9 #[.int .i64 n] w fun e w' => (∃ i, i < 16 ∧ e = .returned (.string (ofL (bads.getD i [])))) ∧ Below w.heap.size w w' := by
  have hm := bitsx.and_mask16 n
  obtain ⟨i, hi, hq⟩ : ∃ i : Nat, i < 16 ∧ n % 65536 % 16 = i := ⟨(n % 65536 % 16).toNat, by omega, by omega⟩
  go_enter Tryd.func9, Tryd.ntmps9
  go_wp2_with fail
  go_ret
  refine ⟨⟨i, hi, ?_⟩, (Below.refl _ _).alloc (Nat.le_refl _) _⟩
  clear hq hm hn
  obtain rfl | rfl | rfl | rfl | rfl | rfl | rfl | rfl | rfl | rfl | rfl | rfl | rfl | rfl | rfl | rfl : i = 0 ∨ i = 1 ∨ i = 2 ∨ i = 3 ∨ i = 4 ∨ i = 5 ∨ i = 6 ∨ i = 7 ∨ i = 8 ∨ i = 9 ∨ i = 10 ∨ i = 11 ∨ i = 12 ∨ i = 13 ∨ i = 14 ∨ i = 15 := by omega
  all_goals rfl
theorem badEnd_calls (n : Int) (w : World) (hn : (Lit.int .i64 n).wf = true) :
    Calls Tryd.prog 10 #[.int .i64 n] w fun e w' => (∃ i, i < 3 ∧ e = .returned (.string (ofL (ends.getD i [])))) ∧ Below w.heap.size w w' := by
  have hm := bitsx.and_mask16 n
  obtain ⟨i, hi, hq⟩ : ∃ i : Nat, i < 3 ∧ n % 65536 % 3 = i := ⟨(n % 65536 % 3).toNat, by omega, by omega⟩
  go_enter Tryd.func10, Tryd.ntmps10
  go_wp2_with fail
  go_ret
  refine ⟨⟨i, hi, ?_⟩, (Below.refl _ _).alloc (Nat.le_refl _) _⟩
  clear hq hm hn
  obtain rfl | rfl | rfl : i = 0 ∨ i = 1 ∨ i = 2 := by omega
  all_goals rfl

theorem early_calls (s : ByteArray) (w : World) (a : Addr) (hE : Err w a) (hs : s.size ≤ 1048576) (h0 : s.data.toList ≠ []) (h1 : s.data.toList ≠ headL) (h2 : suffixOf s.data.toList [46] = true) :
    Calls Tryd.prog 16 #[.string s] w fun e w' => Res w e w' a (valid s.data.toList) := by
  have hne : ((s.size : Int) == 0) = false := by
    rw [beq_eq_false_iff_ne]; intro h; exact h0 (List.eq_nil_of_length_eq_zero (by rw [Array.length_toList, ByteArray.size_data]; omega))
  have hnh : (s.toList == [72, 69, 65, 68]) = false := by rw [beq_eq_false_iff_ne, ByteArray.toList_eq]; exact h1
  have HV := hid (valid_no1 _ h0 h1 h2)
  have H2 := hid h2; clear h2 h0 h1
  have HE := hE
  unfold Err at HE
  go_enter Tryd.func16, Tryd.ntmps16
  go_wp2_with fail
  refine (HasSuffix_calls s _ _ (by omega)).mono ?_
  rintro e w' ⟨rfl, rfl⟩
  rw [one_data, H2.out]
  go_wp2_with fail
  go_ret
  exact res_no rfl HV.out (Below.refl _ _)
theorem pre_split (x : List UInt8) : pieces 47 (heads ++ x) = [114, 101, 102, 115] :: [104, 101, 97, 100, 115] :: pieces 47 x := by
  have e : heads ++ x = [114, 101, 102, 115] ++ 47 :: ([104, 101, 97, 100, 115] ++ 47 :: x) := rfl
  rw [e, pieces_append _ _ _ (by decide), pieces_append _ _ _ (by decide)]
theorem prefix_self (p x : List UInt8) : prefixOf (p ++ x) p = true := by simp [prefixOf]
theorem any_calls (s : ByteArray) (x : List UInt8) (w : World) (a : Addr) (hE : Err w a) (hs : s.size ≤ 1048576) (ha : ascii s.data.toList = true) (hx : s.data.toList = heads ++ x) :
    Calls Tryd.prog 16 #[.string s] w fun e w' => Res w e w' a (valid s.data.toList) := by
  have h0 : s.data.toList ≠ [] := by rw [hx]; simp [heads]
  have h1 : s.data.toList ≠ headL := by rw [hx]; simp [heads, headL]
  cases h2 : suffixOf s.data.toList [46] with
  | true => exact early_calls s w a hE hs h0 h1 h2
  | false =>
    refine round_heads s w a hE hs ha h0 h1 h2 ?_ (by rw [hx]; exact prefix_self _ _)
    rw [hx, pre_split]; simp
theorem valid_calls (s : ByteArray) (x : List UInt8) (w : World) (a : Addr) (hE : Err w a) (hs : s.size ≤ 1048576) (ha : ascii s.data.toList = true) (hx : s.data.toList = heads ++ x) (b : Bool) (hb : valid s.data.toList = b) :
    Calls Tryd.prog 8 #[.string s] w fun e w' => e = .returned (.bool b) ∧ Below w.heap.size w w' := by
  have HC := hid (any_calls s x w a hE hs ha hx)
  clear hx ha
  cases b with
  | true =>
    have HB := hid hb; clear hb
    go_enter Tryd.func8, Tryd.ntmps8
    go_wp2_with fail
    refine HC.out.mono ?_
    rintro e w' ⟨he, hbel⟩
    rw [HB.out, if_pos rfl] at he
    subst he
    have HBL := hid hbel; clear hbel
    go_wp2_with fail
    go_ret
    exact ⟨rfl, HBL.out⟩
  | false =>
    have HB := hid hb; clear hb
    go_enter Tryd.func8, Tryd.ntmps8
    go_wp2_with fail
    refine HC.out.mono ?_
    rintro e w' ⟨he, hbel⟩
    rw [HB.out, if_neg (by decide)] at he
    subst he
    have HBL := hid hbel; clear hbel
    go_wp2_with fail
    go_ret
    exact ⟨rfl, HBL.out⟩
/-! what is in a name -/
theorem has_mid (p a b : List UInt8) : has p (a ++ (p ++ b)) = true := by
  unfold has
  induction a with
  | nil => rw [List.nil_append, find_hit _ _ (by simp)]; rfl
  | cons c t ih =>
    rw [List.cons_append, find]
    split
    · rfl
    · cases h : find p (t ++ (p ++ b)) with
      | none => rw [h] at ih; cases ih
      | some i => rfl
theorem any_mid (p : UInt8 → Bool) (c : UInt8) (a b : List UInt8) (h : p c = true) : (a ++ ([c] ++ b)).any p = true := by simp [h]
theorem small_ne (l : List UInt8) (h : small l = true) (c : UInt8) (hc : alnum c = false) : ∀ x ∈ l, x ≠ c := by
  intro x hx e
  subst e
  unfold small at h
  simp only [Bool.and_eq_true, List.all_eq_true] at h
  rw [h.1 x hx] at hc; cases hc
theorem small_ascii (l : List UInt8) (h : small l = true) : ascii l = true := by
  unfold small at h
  simp only [Bool.and_eq_true, List.all_eq_true] at h
  unfold ascii
  rw [List.all_eq_true]
  intro x hx
  have h1 := (alnum_iff x).1 (h.1 x hx)
  simp [UInt8.lt_iff_toNat_lt]; omega
theorem parts_no (x : List UInt8) (k : Nat) (p : List UInt8) (hk : (pieces 47 x)[k]? = some p) (h : partOk (bt (heads ++ x)) (k + 2) p = false) (h0 : heads ++ x ≠ [] := by simp [heads]) (h1 : heads ++ x ≠ headL := by simp [heads, headL]) : valid (heads ++ x) = false := by
  refine valid_no3 _ h0 h1 ?_
  rw [pre_split]
  have hlt : k < (pieces 47 x).length := by
    rcases Nat.lt_or_ge k (pieces 47 x).length with h' | h'
    · exact h'
    · rw [List.getElem?_eq_none h'] at hk; cases hk
  refine partsOk_no _ _ (k + 2) (by simp; omega) ?_
  rw [List.getD_eq_getElem?_getD, show ([114, 101, 102, 115] :: [104, 101, 97, 100, 115] :: pieces 47 x)[k + 2]? = (pieces 47 x)[k]? from rfl, hk]
  exact h
theorem bad_no (b : Bool) (k : Nat) (p : List UInt8) (h : badPart p = true) : partOk b k p = false := by simp [partOk, h]
theorem empty_no (b : Bool) (k : Nat) : partOk b k [] = false := rfl
/-- one piece, that is bad -/
theorem mid_no (f P b : List UInt8) (hf : ∀ x ∈ f, x ≠ 47) (hP : ∀ x ∈ P, x ≠ 47) (hb : ∀ x ∈ b, x ≠ 47) (h : badPart (f ++ (P ++ b)) = true) : valid (heads ++ (f ++ (P ++ b))) = false := by
  refine parts_no _ 0 (f ++ (P ++ b)) ?_ (bad_no _ _ _ h)
  rw [pieces_alone 47 _ (fun x hx => by
    rcases List.mem_append.1 hx with h | h
    · exact hf x h
    · rcases List.mem_append.1 h with h | h
      · exact hP x h
      · exact hb x h)]
  rfl
theorem suffix_self (x p : List UInt8) : suffixOf (x ++ p) p = true := by
  unfold suffixOf
  rw [decide_eq_true (by simp), List.length_append, Nat.add_sub_cancel, List.drop_left]; simp
theorem part_bad (i : Nat) (hi : i < 16) (f b : List UInt8) (hf : small f = true) (hb : small b = true) : valid (heads ++ (f ++ (bads.getD i [] ++ b))) = false := by
  have h1 := small_ne f hf 47 (by decide)
  have h2 := small_ne b hb 47 (by decide)
  obtain rfl | rfl | rfl | rfl | rfl | rfl | rfl | rfl | rfl | rfl | rfl | rfl | rfl | rfl | rfl | rfl : i = 0 ∨ i = 1 ∨ i = 2 ∨ i = 3 ∨ i = 4 ∨ i = 5 ∨ i = 6 ∨ i = 7 ∨ i = 8 ∨ i = 9 ∨ i = 10 ∨ i = 11 ∨ i = 12 ∨ i = 13 ∨ i = 14 ∨ i = 15 := by omega
  · exact mid_no f [32] b h1 (by decide) h2 (by unfold badPart anyOf; rw [any_mid _ 32 _ _ (by decide)]; simp)
  · exact mid_no f [126] b h1 (by decide) h2 (by unfold badPart anyOf; rw [any_mid _ 126 _ _ (by decide)]; simp)
  · exact mid_no f [94] b h1 (by decide) h2 (by unfold badPart anyOf; rw [any_mid _ 94 _ _ (by decide)]; simp)
  · exact mid_no f [58] b h1 (by decide) h2 (by unfold badPart anyOf; rw [any_mid _ 58 _ _ (by decide)]; simp)
  · exact mid_no f [63] b h1 (by decide) h2 (by unfold badPart anyOf; rw [any_mid _ 63 _ _ (by decide)]; simp)
  · exact mid_no f [42] b h1 (by decide) h2 (by unfold badPart anyOf; rw [any_mid _ 42 _ _ (by decide)]; simp)
  · exact mid_no f [91] b h1 (by decide) h2 (by unfold badPart anyOf; rw [any_mid _ 91 _ _ (by decide)]; simp)
  · exact mid_no f [92] b h1 (by decide) h2 (by unfold badPart; rw [has_mid [92]]; simp)
  · exact mid_no f [46, 46] b h1 (by decide) h2 (by unfold badPart; rw [has_mid [46, 46]]; simp)
  · exact mid_no f [64, 123] b h1 (by decide) h2 (by unfold badPart; rw [has_mid [64, 123]]; simp)
  · exact parts_no _ 1 [] (by show (pieces 47 (f ++ 47 :: (47 :: b)))[1]? = _; rw [pieces_append _ _ _ h1, pieces, if_pos rfl]; rfl) (empty_no _ _)
  · exact mid_no f [1] b h1 (by decide) h2 (by unfold badPart searchPlumb.control; rw [any_mid ctrl 1 _ _ (by decide)]; simp)
  · exact mid_no f [31] b h1 (by decide) h2 (by unfold badPart searchPlumb.control; rw [any_mid ctrl 31 _ _ (by decide)]; simp)
  · exact mid_no f [127] b h1 (by decide) h2 (by unfold badPart searchPlumb.control; rw [any_mid ctrl 127 _ _ (by decide)]; simp)
  · exact parts_no _ 1 (46 :: b) (by show (pieces 47 (f ++ 47 :: (46 :: b)))[1]? = _; rw [pieces_append _ _ _ h1, pieces_alone 47 (46 :: b) (fun x hx => by rcases List.mem_cons.1 hx with rfl | h; decide; exact h2 x h)]; rfl) (bad_no _ _ _ (by unfold badPart; rw [show prefixOf (46 :: b) [46] = true from prefix_self [46] b]; rfl))
  · exact parts_no _ 0 (f ++ [46, 108, 111, 99, 107]) (by show (pieces 47 (f ++ ([46, 108, 111, 99, 107, 47] ++ b)))[0]? = _; rw [show f ++ ([46, 108, 111, 99, 107, 47] ++ b) = (f ++ [46, 108, 111, 99, 107]) ++ 47 :: b from by simp, pieces_append _ _ _ (fun x hx => by rcases List.mem_append.1 hx with h | h; exact h1 x h; intro e; subst e; revert h; decide)]; rfl) (bad_no _ _ _ (by unfold badPart; rw [suffix_self]; simp))
theorem end_bad (i : Nat) (hi : i < 3) (f : List UInt8) (hf : small f = true) : valid (heads ++ (f ++ ends.getD i [])) = false := by
  have h1 := small_ne f hf 47 (by decide)
  obtain rfl | rfl | rfl : i = 0 ∨ i = 1 ∨ i = 2 := by omega
  · refine parts_no _ 0 (f ++ [46, 108, 111, 99, 107]) ?_ (bad_no _ _ _ (by unfold badPart; rw [suffix_self]; simp))
    show (pieces 47 (f ++ [46, 108, 111, 99, 107]))[0]? = _
    rw [pieces_alone 47 _ (fun x hx => by rcases List.mem_append.1 hx with h | h; exact h1 x h; intro e; subst e; revert h; decide)]; rfl
  · refine parts_no _ 1 [] ?_ (empty_no _ _)
    show (pieces 47 (f ++ 47 :: []))[1]? = _
    rw [pieces_append _ _ _ h1]; rfl
  · refine valid_no1 _ (by simp [heads]) (by simp [heads, headL]) ?_
    rw [← List.append_assoc]; exact suffix_self _ [46]
theorem main_ok : valid [114, 101, 102, 115, 47, 104, 101, 97, 100, 115, 47, 109, 97, 105, 110] = true := by decide +kernel

/-! the law -/
theorem ascii_app (a b : List UInt8) (ha : ascii a = true) (hb : ascii b = true) : ascii (a ++ b) = true := by
  unfold ascii at *; rw [List.all_append, ha, hb]; rfl
theorem bads_ascii : ∀ i, i < 16 → ascii (bads.getD i []) = true ∧ (bads.getD i []).length ≤ 6 := by decide
theorem ends_ascii : ∀ i, i < 3 → ascii (ends.getD i []) = true ∧ (ends.getD i []).length ≤ 6 := by decide
def H0 : ByteArray := ⟨#[114, 101, 102, 115, 47, 104, 101, 97, 100, 115, 47]⟩
theorem name1_data (f b : ByteArray) (P : List UInt8) : (H0 ++ f ++ ofL P ++ b).data.toList = heads ++ (f.data.toList ++ (P ++ b.data.toList)) := by
  simp only [ByteArray.data_append, Array.toList_append, data_ofL, List.append_assoc]; rfl
theorem name2_data (f : ByteArray) (P : List UInt8) : (H0 ++ f ++ ofL P).data.toList = heads ++ (f.data.toList ++ P) := by
  simp only [ByteArray.data_append, Array.toList_append, data_ofL, List.append_assoc]; rfl
theorem bad1_calls (f b : ByteArray) (i : Nat) (w : World) (a : Addr) (hE : Err w a) (hi : i < 16) (hf : small f.data.toList = true) (hb : small b.data.toList = true) (hz : f.size + b.size ≤ 1000) :
    Calls Tryd.prog 8 #[.string (H0 ++ f ++ ofL (bads.getD i []) ++ b)] w fun e w' => e = .returned (.bool false) ∧ Below w.heap.size w w' := by
  have hd := name1_data f b (bads.getD i [])
  refine valid_calls _ _ w a hE ?_ ?_ hd false ?_
  · have h1 := congrArg List.length hd
    have h2 := (bads_ascii i hi).2
    simp only [List.length_append, Array.length_toList, ByteArray.size_data] at h1
    have h3 : heads.length = 11 := rfl
    omega
  · rw [hd]
    exact ascii_app _ _ (by decide) (ascii_app _ _ (small_ascii _ hf) (ascii_app _ _ (bads_ascii i hi).1 (small_ascii _ hb)))
  · rw [hd]; exact part_bad i hi _ _ hf hb
theorem bad2_calls (f : ByteArray) (i : Nat) (w : World) (a : Addr) (hE : Err w a) (hi : i < 3) (hf : small f.data.toList = true) (hz : f.size ≤ 1000) :
    Calls Tryd.prog 8 #[.string (H0 ++ f ++ ofL (ends.getD i []))] w fun e w' => e = .returned (.bool false) ∧ Below w.heap.size w w' := by
  have hd := name2_data f (ends.getD i [])
  refine valid_calls _ _ w a hE ?_ ?_ hd false ?_
  · have h1 := congrArg List.length hd
    have h2 := (ends_ascii i hi).2
    simp only [List.length_append, Array.length_toList, ByteArray.size_data] at h1
    have h3 : heads.length = 11 := rfl
    omega
  · rw [hd]
    exact ascii_app _ _ (by decide) (ascii_app _ _ (small_ascii _ hf) (ends_ascii i hi).1)
  · rw [hd]; exact end_bad i hi _ hf
theorem main_calls (w : World) (a : Addr) (hE : Err w a) :
    Calls Tryd.prog 8 #[.string ⟨#[114, 101, 102, 115, 47, 104, 101, 97, 100, 115, 47, 109, 97, 105, 110]⟩] w fun e w' => e = .returned (.bool true) ∧ Below w.heap.size w w' :=
  valid_calls _ [109, 97, 105, 110] w a hE (by decide) (by decide) rfl true main_ok
theorem bad1_calls' (f b : ByteArray) (P : List UInt8) (w : World) (a : Addr) (hE : Err w a) (hi : ∃ i, i < 16 ∧ P = bads.getD i []) (hf : small f.data.toList = true) (hb : small b.data.toList = true) (hz : f.size + b.size ≤ 1000) :
    Calls Tryd.prog 8 #[.string (H0 ++ f ++ ofL P ++ b)] w fun e w' => e = .returned (.bool false) ∧ Below w.heap.size w w' := by
  obtain ⟨i, hi, rfl⟩ := hi
  exact bad1_calls f b i w a hE hi hf hb hz
theorem bad2_calls' (f : ByteArray) (P : List UInt8) (w : World) (a : Addr) (hE : Err w a) (hi : ∃ i, i < 3 ∧ P = ends.getD i []) (hf : small f.data.toList = true) (hz : f.size ≤ 1000) :
    Calls Tryd.prog 8 #[.string (H0 ++ f ++ ofL P)] w fun e w' => e = .returned (.bool false) ∧ Below w.heap.size w w' := by
  obtain ⟨i, hi, rfl⟩ := hi
  exact bad2_calls f i w a hE hi hf hz
theorem size_ofL (l : List UInt8) (n : Nat) (h : l.length ≤ n) : (ofL l).size ≤ n := by rw [ofL_size]; exact h
theorem err_later {w w1 : World} {a : Addr} (h : Err w a) (hb : Below w.heap.size w w1) : Err w1 a := cell_later hb h
set_option maxRecDepth 100000 in
set_option maxHeartbeats 2000000 in
theorem law_main (f b : ByteArray) (n m : Int) (w : World) (a : Addr) (hn : (Lit.int .i64 n).wf = true) (hm : (Lit.int .i64 m).wf = true) (hE : Err w a) (hf : small f.data.toList = true) (hb : small b.data.toList = true) (hz : f.size + b.size ≤ 1000) :
    Calls Tryd.prog 4 #[.string f, .string b, .int .i64 n, .int .i64 m] w fun e w' => e = .returned (.bool true) ∧ Below w.heap.size w w' := by
  have HF := hid hf; clear hf
  have HB := hid hb; clear hb
  have HE := hid hE; clear hE
  have HN := hid hn; clear hn
  have HM := hid hm; clear hm
  have hz1 : f.size ≤ 1000 := by omega
  have hz2 : b.size ≤ 1000 := by omega
  go_enter Tryd.func4, Tryd.ntmps4
  go_wp2_with fail
  refine (small_calls f _ (by omega)).mono ?_
  rintro e w' ⟨rfl, rfl⟩
  rw [HF.out]
  go_wp2_with fail
  refine (small_calls b _ (by omega)).mono ?_
  rintro e w' ⟨rfl, rfl⟩
  rw [HB.out]
  go_wp2_with fail
  refine (badPart_calls n _ HN.out).mono ?_
  rintro e w1 ⟨⟨i, hi, rfl⟩, hb1⟩
  have HB1 := hid hb1; clear hb1
  have hpz := size_ofL _ _ (bads_ascii i hi).2
  obtain ⟨P, hP⟩ : ∃ P, P = bads.getD i [] := ⟨_, rfl⟩
  rw [← hP] at hpz ⊢
  have HP : Hid (∃ i, i < 16 ∧ P = bads.getD i []) := hid ⟨i, hi, hP⟩
  clear hP hi
  go_wp2_with fail
  refine (bad1_calls' f b P _ a (err_later HE.out HB1.out) HP.out HF.out HB.out hz).mono ?_
  rintro e w2 ⟨rfl, hb2⟩
  have HB2 := hid (HB1.out.trans (hb2.mono HB1.out.size)); clear hb2 hpz
  go_wp2_with fail
  refine (badEnd_calls m _ HM.out).mono ?_
  rintro e w3 ⟨⟨j, hj, rfl⟩, hb3⟩
  have HB3 := hid (HB2.out.trans (hb3.mono HB2.out.size)); clear hb3
  have hpz := size_ofL _ _ (ends_ascii j hj).2
  obtain ⟨P2, hP⟩ : ∃ P, P = ends.getD j [] := ⟨_, rfl⟩
  rw [← hP] at hpz ⊢
  have HP2 : Hid (∃ i, i < 3 ∧ P2 = ends.getD i []) := hid ⟨j, hj, hP⟩
  clear hP hj
  go_wp2_with fail
  refine (bad2_calls' f P2 _ a (err_later HE.out HB3.out) HP2.out HF.out hz1).mono ?_
  rintro e w4 ⟨rfl, hb4⟩
  have HB4 := hid (HB3.out.trans (hb4.mono HB3.out.size)); clear hb4
  go_wp2_with fail
  refine (main_calls _ a (err_later HE.out HB4.out)).mono ?_
  rintro e w5 ⟨rfl, hb5⟩
  have HB5 := hid (HB4.out.trans (hb5.mono HB4.out.size)); clear hb5
  go_wp2_with fail
  go_ret
  exact ⟨rfl, HB5.out⟩
theorem law_calls (W : World) (f : ByteArray) (hf : f.size ≤ 140737488351232) (b : ByteArray) (hb : b.size ≤ 140737488351232) (n : Int) (hn : (Lit.int .i64 n).wf = true) (m : Int) (hm : (Lit.int .i64 m).wf = true)
    (hL : laidMetH Tryd.prog Rows.fnRefInvalidRow.laid W) (hsh : W.ShapedOpen Tryd.prog) :
    Calls Tryd.prog 4 #[.string f, .string b, .int .i64 n, .int .i64 m] W fun e w' => e = .returned (.bool true) ∧ Below W.heap.size W w' := by
  obtain ⟨a, hE⟩ := err.sentinel (g := 0) (by kernel_rfl) (by kernel_rfl) (err.plainLaid hL (by kernel_rfl))
  clear hL hsh
  by_cases c1 : 2147483647 < f.size
  · clear hE hn hm
    go_enter Tryd.func4, Tryd.ntmps4
    go_wp2_with fail
    go_ret
    exact ⟨rfl, Below.refl _ _⟩
  by_cases c2 : 2147483647 < b.size
  · clear hE hn hm
    go_enter Tryd.func4, Tryd.ntmps4
    go_wp2_with fail
    go_ret
    exact ⟨rfl, Below.refl _ _⟩
  cases h1 : small f.data.toList with
  | false =>
    have H1 := hid h1; clear h1 hE hn hm
    go_enter Tryd.func4, Tryd.ntmps4
    go_wp2_with fail
    refine (small_calls f _ (by omega)).mono ?_
    rintro e w' ⟨rfl, rfl⟩
    rw [H1.out]
    go_wp2_with fail
    go_ret
    exact ⟨rfl, Below.refl _ _⟩
  | true =>
    cases h2 : small b.data.toList with
    | false =>
      have H1 := hid h1; clear h1
      have H2 := hid h2; clear h2 hE hn hm
      go_enter Tryd.func4, Tryd.ntmps4
      go_wp2_with fail
      refine (small_calls f _ (by omega)).mono ?_
      rintro e w' ⟨rfl, rfl⟩
      rw [H1.out]
      go_wp2_with fail
      refine (small_calls b _ (by omega)).mono ?_
      rintro e w' ⟨rfl, rfl⟩
      rw [H2.out]
      go_wp2_with fail
      go_ret
      exact ⟨rfl, Below.refl _ _⟩
    | true =>
      by_cases c3 : 1000 < f.size + b.size
      · have H1 := hid h1; clear h1
        have H2 := hid h2; clear h2 hE hn hm
        have c4 : (1000 : Int) < f.size + b.size := by omega
        go_enter Tryd.func4, Tryd.ntmps4
        go_wp2_with fail
        refine (small_calls f _ (by omega)).mono ?_
        rintro e w' ⟨rfl, rfl⟩
        rw [H1.out]
        go_wp2_with fail
        refine (small_calls b _ (by omega)).mono ?_
        rintro e w' ⟨rfl, rfl⟩
        rw [H2.out]
        go_wp2_with fail
        go_ret
        exact ⟨rfl, Below.refl _ _⟩
      · exact law_main f b n m W a hn hm hE h1 h2 (by omega)
end Go.Proofs.YtplhhgcejajmoaaDoor.refInvalid
