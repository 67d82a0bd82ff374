/- config.Encoder: options, parts, sections, the whole. -/
import Derived.Test.YtnidjkmfnojlaaaCfEnc
set_option linter.unusedVariables false
attribute [local go_sem ↓] Go.wp_at_zero Go.wp_at_succ
namespace Go.Proofs.Ytnidjkmfnojlaaa.cf
open Go.RowKit Lib mem opn frm strs text

def optText (o : OptD) : List UInt8 := [9] ++ o.key.data.toList ++ [32, 61, 32] ++ o.val.data.toList ++ [10]
def optsText (os : List OptD) : List UInt8 := os.flatMap optText
def subText (n : List UInt8) (u : SubD) : List UInt8 := [91] ++ n ++ [32, 34] ++ u.name.data.toList ++ [34, 93, 10] ++ optsText u.opts
def headText (s : SecD) : List UInt8 := if s.opts = [] then [] else [91] ++ s.name.data.toList ++ [93, 10] ++ optsText s.opts
def secText (s : SecD) : List UInt8 := headText s ++ s.subs.flatMap (subText s.name.data.toList)
def confText (ss : List SecD) : List UInt8 := ss.flatMap secText
theorem flat_snoc {α : Type} {f : α → List UInt8} {l : List α} {k : Nat} {a : α} (h : l[k]? = some a) : (l.take (k + 1)).flatMap f = (l.take k).flatMap f ++ f a := by
  rw [take_snoc h, List.flatMap_append]; simp
theorem flat_le {α : Type} (f : α → List UInt8) (l : List α) (k : Nat) : ((l.take k).flatMap f).length ≤ (l.flatMap f).length := by
  have h : l.flatMap f = (l.take k).flatMap f ++ (l.drop k).flatMap f := by rw [← List.flatMap_append, List.take_append_drop]
  rw [h, List.length_append]; omega
theorem flat_le' {α : Type} {f : α → List UInt8} {l : List α} {k : Nat} {a : α} (h : l[k]? = some a) : ((l.take k).flatMap f).length + (f a).length ≤ (l.flatMap f).length := by
  have := flat_le f l (k + 1)
  rw [flat_snoc h, List.length_append] at this
  exact this
theorem cat_run {P : Program} (a b : ByteArray) (h : a.size + b.size ≤ 9223372036854775807) : ∀ w, (Op.stringOp .add a b).run P w = .ok (.string (a ++ b)) w := fun w => by
  rw [run_string_add_if, if_neg (by omega)]
theorem app_list (a b : ByteArray) : (a ++ b).data.toList = a.data.toList ++ b.data.toList := by simp
/-- one string behind another one, under a name -/
theorem cat_ex {P : Program} (a b : ByteArray) (h : a.size + b.size ≤ 9223372036854775807) : ∃ c : ByteArray, (∀ w, (Op.stringOp .add a b).run P w = .ok (.string c) w) ∧ c.data.toList = a.data.toList ++ b.data.toList ∧ c.size = a.size + b.size :=
  ⟨a ++ b, cat_run a b h, app_list a b, by simp [ByteArray.size_append]⟩
theorem own_at {w : World} {base n : Nat} {e : TypeId} {v : Value} {vs : List Value} (h : w.ownsRow base e 1 v n vs) {k : Nat} (hk : k < n) : ∃ g o c u, v = .slice (some ⟨g, o, none⟩) n c ∧ vs[k]? = some u ∧ w.cell? ⟨g, o + k, none⟩ = some u := by
  rcases id h with ⟨hl, ⟨rfl, h0⟩ | ⟨g, cap, cur, rfl, hBg, hg, hnc, hcm, hcs, htk⟩⟩
  · omega
  · have hkl : k < vs.length := by omega
    refine ⟨g, 0, cap, vs[k], rfl, List.getElem?_eq_getElem hkl, ?_⟩
    have := h.cells (g := g) rfl k vs[k] (List.getElem?_eq_getElem hkl)
    rwa [Lib.addr_add] at this
theorem valC_tab : ∀ n : Fin 256, valC (UInt8.ofNat n.val) = true → (UInt8.ofNat n.val).toNat < 128 ∧ ([35, 59, 34, 9, 10, 92] : List UInt8).any (· == UInt8.ofNat n.val) = false ∧ (UInt8.ofNat n.val == 32) = false := by decide +kernel
theorem valC_of (c : UInt8) (h : valC c = true) : c.toNat < 128 ∧ ([35, 59, 34, 9, 10, 92] : List UInt8).any (· == c) = false ∧ (c == 32) = false := by
  have := valC_tab ⟨c.toNat, c.toNat_lt⟩
  simp only [UInt8.ofNat_toNat] at this
  exact this h
theorem all_at {p : UInt8 → Bool} {s : ByteArray} (h : s.data.toList.all p = true) (k : Nat) (hk : k < s.size) : p s[k] = true :=
  List.all_eq_true.1 h _ (by rw [show s[k] = s.data[k] from rfl]; exact Array.getElem_mem_toList _)
theorem plain_any {l : List UInt8} (h : l.all valC = true) : searchConfig.anyOf [35, 59, 34, 9, 10, 92] l = false := by
  unfold searchConfig.anyOf
  rw [List.any_eq_false]
  intro c hc
  simpa using (valC_of c (List.all_eq_true.1 h c hc)).2.1
theorem plain_prefix {l : List UInt8} (h : l.all valC = true) : prefixOf l [32] = false := by
  unfold prefixOf
  cases l with
  | nil => rfl
  | cons c t =>
    have := (valC_of c (List.all_eq_true.1 h c (by simp))).2.2
    simp at this
    simp [this]
theorem plain_suffix {l : List UInt8} (h : l.all valC = true) : suffixOf l [32] = false := by
  unfold suffixOf
  by_cases hl : 1 ≤ l.length
  · have h1 : l.length - 1 < l.length := by omega
    have h2 := (valC_of _ (List.all_eq_true.1 h _ (List.getElem_mem h1))).2.2
    rw [show l.length - ([32] : List UInt8).length = l.length - 1 from rfl, List.drop_eq_getElem_cons h1, List.drop_eq_nil_of_le (by omega)]
    simp at h2
    simp [h2]
  · have : l = [] := List.eq_nil_of_length_eq_zero (by omega)
    subst this; rfl
theorem OptsP.len {w : World} {v : Value} {os : List OptD} {A : Option Addr} {n c : Nat} (h : OptsP w v os) (e : v = .slice A n c) : n = os.length := by
  obtain ⟨vs, ho, _⟩ := h
  obtain ⟨A', c', e', _⟩ := row_some ho
  rw [e] at e'; injection e'
theorem OptsP.at_ {w : World} {A : Option Addr} {n c : Nat} {os : List OptD} (h : OptsP w (.slice A n c) os) {k : Nat} (hk : k < n) : ∃ g o go x, A = some ⟨g, o, none⟩ ∧ w.cell? ⟨g, o + k, none⟩ = some (.pointer (some ⟨go, 0, none⟩)) ∧ os[k]? = some x ∧ x ∈ os ∧ Blk w go TO #[.string x.key, .string x.val] := by
  have hl := h.len rfl
  obtain ⟨vs, ho, ha⟩ := h
  obtain ⟨g, o, c', u, e, hu, hc⟩ := own_at ho (k := k) (by omega)
  obtain ⟨a, x, h1, h2, ⟨go, rfl, hb⟩, hm⟩ := ha.at_ (k := k) (by omega)
  rw [hu] at h1
  injection h1 with h1
  subst h1
  injection e with e
  exact ⟨g, o, go, x, e, hc, h2, hm, hb⟩
theorem specials : ∀ k (h : k < (⟨#[35, 59, 34, 9, 10, 92]⟩ : ByteArray).size), (⟨#[35, 59, 34, 9, 10, 92]⟩ : ByteArray)[k].toNat < 128 := fun k hk => by
  have hk6 : k < 6 := hk
  match k, hk6 with
  | 0, _ => show (35 : UInt8).toNat < 128; decide
  | 1, _ => show (59 : UInt8).toNat < 128; decide
  | 2, _ => show (34 : UInt8).toNat < 128; decide
  | 3, _ => show (9 : UInt8).toNat < 128; decide
  | 4, _ => show (10 : UInt8).toNat < 128; decide
  | 5, _ => show (92 : UInt8).toNat < 128; decide
set_option maxRecDepth 100000 in
set_option maxHeartbeats 8000000 in
theorem encodeOptions_calls (B b ge : Nat) (l : List UInt8) (v : Value) (xs : List OptD) (w : World) (h : EncAt B b ge l w) (hv : OptsP w v xs) (hok : ∀ o ∈ xs, OptOk o) (hn : xs.length ≤ 1048576) (hs : l.length + (optsText xs).length ≤ 140737488355328) :
    Calls Try.prog 26 #[.pointer (some ⟨ge, 0, none⟩), v] w (Wrote B b ge (l ++ optsText xs) w) := by
  obtain ⟨A, n, c, rfl⟩ := hv.form
  have hnl := hv.len rfl
  have hn' : (n : Int) ≤ 1048576 := by omega
  have HV := hid hv
  have HOK := hid hok
  have HE := hid h
  have HS := hid hs
  have HNL := hid hnl
  clear h hv hok hn hs hnl
  go_enter Try.func26, Try.ntmps26
  go_wp2_with fail
  go_loopw [11] (fun iv wr => ∃ k : Nat, k ≤ n ∧ iv = .int .i64 k ∧ Hid (EncAt B b ge (l ++ optsText (xs.take k)) wr) ∧ Hid (Ty AT w wr) ∧ Hid (Below B w wr)) (fun iv _ => n - (RowKit.intOf iv).toNat)
  case atStart => exact ⟨0, by omega, rfl, hid (by simpa [optsText] using HE.out), hid (fun _ _ _ _ h => h), hid (Below.refl _ _)⟩
  case round =>
    obtain ⟨k, hk, rfl, hE, hT, hB⟩ := hrel
    by_cases hlt : k < n
    · obtain ⟨g, o, go, x, rfl, hc, hxk, hmem, hb⟩ := (HV.out.ty hT.out (by simp) (by simp)).at_ hlt
      have hx := HOK.out x hmem
      have q0 := hb.cell 0 rfl
      have q1 := hb.cell 1 rfl
      have hvl := hx.v.2
      have hkl := hx.k.2
      have d1 := hid (fun w => searchConfig.containsAny_calls x.val ⟨#[35, 59, 34, 9, 10, 92]⟩ w (by omega) (by show (6 : Nat) ≤ _; omega) (fun k hk => (valC_of _ (all_at hx.v.1 k hk)).1) specials)
      rw [show searchConfig.anyOf (⟨#[35, 59, 34, 9, 10, 92]⟩ : ByteArray).data.toList x.val.data.toList = false from plain_any hx.v.1] at d1
      have d2 := hid (fun w => HasPrefix_calls x.val ⟨#[32]⟩ w (by omega))
      rw [show prefixOf x.val.data.toList (⟨#[32]⟩ : ByteArray).data.toList = false from plain_prefix hx.v.1] at d2
      have d3 := hid (fun w => HasSuffix_calls x.val ⟨#[32]⟩ w (by omega))
      rw [show suffixOf x.val.data.toList (⟨#[32]⟩ : ByteArray).data.toList = false from plain_suffix hx.v.1] at d3
      obtain ⟨a1, k1, l1, z1⟩ := cat_ex (P := Try.prog) ⟨#[9]⟩ x.key (by have : (⟨#[9]⟩ : ByteArray).size = 1 := rfl; omega)
      obtain ⟨a2, k2, l2, z2⟩ := cat_ex (P := Try.prog) a1 ⟨#[32, 61, 32]⟩ (by have : (⟨#[9]⟩ : ByteArray).size = 1 := rfl; have : (⟨#[32, 61, 32]⟩ : ByteArray).size = 3 := rfl; omega)
      obtain ⟨a3, k3, l3, z3⟩ := cat_ex (P := Try.prog) a2 x.val (by have : (⟨#[9]⟩ : ByteArray).size = 1 := rfl; have : (⟨#[32, 61, 32]⟩ : ByteArray).size = 3 := rfl; omega)
      obtain ⟨a4, k4, l4, z4⟩ := cat_ex (P := Try.prog) a3 ⟨#[10]⟩ (by have : (⟨#[9]⟩ : ByteArray).size = 1 := rfl; have : (⟨#[32, 61, 32]⟩ : ByteArray).size = 3 := rfl; have : (⟨#[10]⟩ : ByteArray).size = 1 := rfl; omega)
      have HL4 : Hid (a4.data.toList = optText x) := hid (by rw [l4, l3, l2, l1]; rfl)
      have HS4 : Hid ((l ++ optsText (xs.take k)).length + a4.size ≤ 140737488355328) := hid (by
        have h1 := flat_le' (f := optText) hxk
        rw [← HL4.out] at h1
        have h2 := HS.out
        unfold optsText at h2 ⊢
        rw [List.length_append]
        have : a4.data.toList.length = a4.size := by simp
        omega)
      have HLx : Hid (optsText (xs.take (k + 1)) = optsText (xs.take k) ++ a4.data.toList) := hid (by rw [HL4.out]; exact flat_snoc hxk)
      have hlt' : (k : Int) < n := by omega
      have HBk := hid hb
      have HC := hid hc
      clear l1 l2 l3 l4 z1 z2 z3 z4 hx hxk hmem hb
      go_wp2_with fail
      refine (d1.out _).mono ?_
      rintro e w2 ⟨rfl, hb2⟩
      have HK2 := hid (Kept.of_below (S := []) hb2)
      have q1 := (HBk.out.kept HK2.out (by simp)).cell 1 rfl
      clear hb2
      go_wp2_with fail
      refine (d2.out _).mono ?_
      rintro e w3 ⟨rfl, rfl⟩
      go_wp2_with fail
      refine (d3.out _).mono ?_
      rintro e w3 ⟨rfl, rfl⟩
      have q0 := (HBk.out.kept HK2.out (by simp)).cell 0 rfl
      have HE2 : Hid (EncAt B b ge (l ++ optsText (xs.take k)) w2) := hid ⟨hE.out.buf.old (HK2.out.nil_below), hE.out.enc.kept HK2.out (by simp)⟩
      have HT2 := hid (hT.out.trans (.of_kept HK2.out))
      have HB2 := hid (below_of hB.out HK2.out hE.out.size)
      go_wp2_with fail
      refine (print_calls B b ge _ a4 _ HE2.out HS4.out).mono ?_
      rintro e w4 ⟨rfl, h1, h2, h3⟩
      have HE4 := hid (show EncAt B b ge (l ++ optsText (xs.take (k + 1))) w4 by rw [HLx.out, ← List.append_assoc]; exact h1)
      have HT4 := hid (HT2.out.trans h2)
      have HB4 := hid (HB2.out.trans h3)
      clear h1 h2 h3 q0 q1
      go_wp2_with fail
      go_roundw
      case rel => exact ⟨k + 1, by omega, by go_num, HE4, HT4, HB4⟩
      case measure => simp [RowKit.intOf]; omega
    · have hlt' : ¬ (k : Int) < n := by omega
      go_wp2_with fail
      go_ret
      have e : xs.take k = xs := List.take_of_length_le (by have := HNL.out; omega)
      have := hE.out
      rw [e] at this
      exact ⟨rfl, this, hT.out, hB.out⟩
theorem SP.form {w : World} {v : Value} {u : SubD} (h : SP w v u) : ∃ g ov, v = .pointer (some ⟨g, 0, none⟩) ∧ Blk w g TU #[.string u.name, ov] ∧ OptsP w ov u.opts := h
theorem below_trans {B : Nat} {a b c : World} (h : Below B a b) (k : Below B b c) : Below B a c := h.trans k
set_option maxRecDepth 100000 in
set_option maxHeartbeats 4000000 in
theorem encodeSub_calls (B b ge : Nat) (l : List UInt8) (nm : ByteArray) (v : Value) (u : SubD) (w : World) (h : EncAt B b ge l w) (hv : SP w v u) (hok : SubOk u) (hnm : nm.size ≤ 1000) (hs : l.length + (subText nm.data.toList u).length ≤ 140737488355328) :
    Calls Try.prog 27 #[.pointer (some ⟨ge, 0, none⟩), .string nm, v] w (Wrote B b ge (l ++ subText nm.data.toList u) w) := by
  obtain ⟨g, ov, rfl, hb, ho⟩ := hv
  have q0 := hb.cell 0 rfl
  have hul := hok.n.2
  have d1 := hid (fun w => escaped_calls u.name w hok.n)
  obtain ⟨a1, k1, l1, z1⟩ := cat_ex (P := Try.prog) ⟨#[91]⟩ nm (by have : (⟨#[91]⟩ : ByteArray).size = 1 := rfl; omega)
  obtain ⟨a2, k2, l2, z2⟩ := cat_ex (P := Try.prog) a1 ⟨#[32, 34]⟩ (by have : (⟨#[91]⟩ : ByteArray).size = 1 := rfl; have : (⟨#[32, 34]⟩ : ByteArray).size = 2 := rfl; omega)
  obtain ⟨a3, k3, l3, z3⟩ := cat_ex (P := Try.prog) a2 u.name (by have : (⟨#[91]⟩ : ByteArray).size = 1 := rfl; have : (⟨#[32, 34]⟩ : ByteArray).size = 2 := rfl; omega)
  obtain ⟨a4, k4, l4, z4⟩ := cat_ex (P := Try.prog) a3 ⟨#[34, 93, 10]⟩ (by have : (⟨#[91]⟩ : ByteArray).size = 1 := rfl; have : (⟨#[32, 34]⟩ : ByteArray).size = 2 := rfl; have : (⟨#[34, 93, 10]⟩ : ByteArray).size = 3 := rfl; omega)
  have HL4 : Hid (subText nm.data.toList u = a4.data.toList ++ optsText u.opts) := hid (by rw [l4, l3, l2, l1]; rfl)
  have HSz : Hid (l.length + a4.size + (optsText u.opts).length ≤ 140737488355328) := hid (by
    have h2 := hs
    rw [HL4.out, List.length_append] at h2
    have : a4.data.toList.length = a4.size := by simp
    omega)
  have HB := hid hb
  have HO := hid ho
  have HE := hid h
  have HOK := hid hok
  clear l1 l2 l3 l4 z1 z2 z3 z4 h hb ho hok hs hul hnm
  go_enter Try.func27, Try.ntmps27
  go_wp2_with fail
  refine (d1.out _).mono ?_
  rintro e w2 ⟨rfl, hk2⟩
  have HE2 : Hid (EncAt B b ge l w2) := hid ⟨HE.out.buf.old hk2.nil_below, HE.out.enc.kept hk2 (by simp)⟩
  have HK2 := hid hk2
  clear hk2 q0
  go_wp2_with fail
  refine (print_calls B b ge _ a4 _ HE2.out (by have := HSz.out; omega)).mono ?_
  rintro e w4 ⟨rfl, h1, h2, h3⟩
  have HT4 := hid ((Ty.of_kept (ts := AT) HK2.out).trans h2)
  have HB4 := hid (below_trans (HK2.out.below HE.out.size (by simp)) h3)
  have HE4 := hid h1
  have q1 := (HT4.out _ _ _ (by simp) HB.out).cell 1 rfl
  clear h1 h2 h3
  go_wp2_with fail
  refine (encodeOptions_calls B b ge _ ov u.opts _ HE4.out (HO.out.ty HT4.out (by simp) (by simp)) HOK.out.o (by have := HOK.out.l; omega) (by have := HSz.out; rw [List.length_append]; have : a4.data.toList.length = a4.size := (by simp); omega)).mono ?_
  rintro e w5 ⟨rfl, h1, h2, h3⟩
  have HE5 := hid (show EncAt B b ge (l ++ subText nm.data.toList u) w5 by rw [HL4.out, ← List.append_assoc]; exact h1)
  have HT5 := hid (HT4.out.trans h2)
  have HB5 := hid (below_trans HB4.out h3)
  clear h1 h2 h3 q1
  go_wp2_with fail
  go_ret
  exact ⟨rfl, HE5.out, HT5.out, HB5.out⟩
theorem SubsP.form {w : World} {v : Value} {us : List SubD} (h : SubsP w v us) : ∃ A c, v = .slice A us.length c := by
  obtain ⟨vs, ho, _⟩ := h
  obtain ⟨A, c, e, _⟩ := row_some ho
  exact ⟨A, c, e⟩
theorem SubsP.at_ {w : World} {A : Option Addr} {n c : Nat} {us : List SubD} (h : SubsP w (.slice A n c) us) (hl : n = us.length) {k : Nat} (hk : k < n) : ∃ g o u x, A = some ⟨g, o, none⟩ ∧ w.cell? ⟨g, o + k, none⟩ = some u ∧ us[k]? = some x ∧ x ∈ us ∧ SP w u x := by
  obtain ⟨vs, ho, ha⟩ := h
  obtain ⟨g, o, c', u, e, hu, hc⟩ := own_at ho (k := k) (by omega)
  obtain ⟨a, x, h1, h2, h3, hm⟩ := ha.at_ (k := k) (by omega)
  rw [hu] at h1
  injection h1 with h1
  subst h1
  injection e with e
  exact ⟨g, o, u, x, e, hc, h2, hm, h3⟩
end Go.Proofs.Ytnidjkmfnojlaaa.cf
