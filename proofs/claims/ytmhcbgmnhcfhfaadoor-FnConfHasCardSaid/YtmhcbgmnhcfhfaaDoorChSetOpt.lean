/- config.Config.SetOption of a part. -/
import Derived.Test.YtmhcbgmnhcfhfaaDoorChPartAny
import Derived.Test.YtmhcbgmnhcfhfaaDoorChConf
set_option linter.unusedVariables false
attribute [local go_sem ↓] Go.wp_at_zero Go.wp_at_succ
namespace Go.Proofs.YtmhcbgmnhcfhfaaDoor.cf
open Go.RowKit Lib mem opn frm strs

theorem text_new (w : World) (s : ByteArray) : TextRow (w.alloc (.cells #[.string s] 9)) (.slice (some ⟨w.heap.size, 0, none⟩) 1 1) 1 [s] :=
  ⟨rfl, 0, rfl, .inr ⟨w.heap.size, 1, #[.string s], rfl, Nat.zero_le _, heap_alloc_new w _, Nat.le_refl _, by decide, rfl, rfl⟩⟩
/-- options that may be set -/
def OptsFine (os : List OptD) : Prop := os.length ≤ 1000 ∧ ∀ o ∈ os, WordOk o.key
theorem OptsFine.nil : OptsFine [] := ⟨by simp, by simp⟩
/-- sections before the change: they, or they and a new one -/
def With (ss ss1 : List SecD) (t : ByteArray) : Prop := (ss1 = ss ∧ ∃ s ∈ ss, s.name = t) ∨ ((∀ x ∈ ss, x.name ≠ t) ∧ ss1 = ss ++ [newSec t])
def SetDone (B : Nat) (w : World) (gc N : Nat) (ss : List SecD) (t u : ByteArray) (e : Ending) (w' : World) : Prop :=
  e = .returned (.pointer (some ⟨gc, 0, none⟩)) ∧ Below B w w' ∧ ∃ sv' vs' ss1 ss2 ss3, ConfB B w' gc sv' vs' ss3 ∧ With ss ss1 t ∧ All2 (Alike N) ss1 ss2 ∧ All2 (Alike N) ss2 ss3 ∧ ∃ b ∈ ss3, b.name = t ∧ ∃ x ∈ b.subs, x.name = u
set_option maxRecDepth 100000 in
set_option maxHeartbeats 4000000 in
theorem setOption_calls (B gc N : Nat) (sv : Value) (vs : List Value) (ss : List SecD) (t u key val : ByteArray) (w : World) (h : ConfV B w gc sv vs ss) (hB : B ≤ w.heap.size) (hn : ss.length ≤ 4294967295) (hw : ∀ s ∈ ss, WordOk s.name) (ht : WordOk t) (hu : (u.toList == []) = false) (hk : WordOk key)
    (hz : ∀ s ∈ ss, Sized N s) (hf : ∀ s ∈ ss, ∀ x ∈ s.subs, OptsFine x.opts) (hN : N ≤ 2147483648) :
    Calls Tryd.prog 28 #[.pointer (some ⟨gc, 0, none⟩), .string t, .string u, .string key, .string val] w (SetDone B w gc (N + 1) ss t u) := by
  have c1 := hid (secAny_calls B gc sv vs ss t w h hB hn hw ht)
  have HB := hid hB
  have HK := hid hk
  have HZ := hid hz
  have HF := hid hf
  have HN := hid hN
  clear h hB hn hw ht hk hz hf hN
  go_enter Tryd.func28, Tryd.ntmps28
  go_wp2_with fail
  refine c1.out.mono ?_
  rintro e w1 ⟨g, sv1, vs1, ss1, s, rfl, hb1, hV1, hm1, hs1, hsn, hor⟩
  have HZ1 : Hid ((∀ x ∈ ss1, Sized N x) ∧ Sized N s ∧ ∀ x ∈ s.subs, OptsFine x.opts) := hid (by
    have hnew : Sized N (newSec t) := ⟨by simp [newSec], by simp [newSec], by simp [newSec]⟩
    rcases hor with ⟨rfl, hs⟩ | ⟨_, rfl, rfl⟩
    · exact ⟨HZ.out, HZ.out s hs, HF.out s hs⟩
    · refine ⟨fun x hx => ?_, hnew, by simp [newSec]⟩
      rcases List.mem_append.1 hx with hx | hx
      · exact HZ.out x hx
      · simp at hx; subst hx; exact hnew)
  have HW1 : Hid (With ss ss1 t) := hid (by
    rcases hor with ⟨h1, h2⟩ | ⟨h1, _, h2⟩
    · exact .inl ⟨h1, s, h2, hsn⟩
    · exact .inr ⟨h1, h2⟩)
  have HB1 := hid hb1
  have hBw1 : B ≤ w1.heap.size := by have := hb1.size; have := HB.out; omega
  have c2 := hid (subAny_calls B gc g N sv1 vs1 ss1 s u w1 hV1 hBw1 hm1 hs1 HZ1.out.1 HZ1.out.2.1 HN.out OptsFine OptsFine.nil HZ1.out.2.2)
  have HM1 := hid hm1
  have HSN := hid hsn
  have HBW := hid hBw1
  clear c1 hb1 hV1 hm1 hs1 hsn hor hBw1
  go_wp2_with fail
  refine c2.out.mono ?_
  rintro e w2 ⟨gu, ss2, ov, os, rfl, hb2, hz2, hC2, hT2, hA2, hBg, hbu, hou, hfu⟩
  have H2 := hid (And.intro hb2 (And.intro hz2 (And.intro hC2 (And.intro hT2 (And.intro hA2 (And.intro hBg hbu))))))
  have HFU := hid hfu
  have hk2 : Kept [] w2 (w2.alloc (.cells #[.string val] 9)) := (Kept.refl [] w2).alloc _
  have c3 := hid (subSetOption_calls gu u ov (.slice (some ⟨w2.heap.size, 0, none⟩) 1 1) os key val (w2.alloc (.cells #[.string val] 9)) (hbu.kept hk2 (by simp)) (hou.kept hk2) (by have := hfu.1; omega) hfu.2 HK.out (text_new w2 val))
  clear c2 hb2 hz2 hC2 hT2 hA2 hBg hbu hou hfu hk2
  go_wp2_with fail
  refine c3.out.mono ?_
  rintro e w3 ⟨rfl, hk3, v, os3, hb3, ho3, hl3⟩
  have H3 := hid (And.intro hk3 (And.intro hb3 (And.intro ho3 hl3)))
  clear c3 hk3 hb3 ho3 hl3
  go_wp2_with fail
  go_ret
  obtain ⟨hb2, hz2, hC2, hT2, hA2, hBg, hbu⟩ := H2.out
  obtain ⟨hk3, hb3, ho3, hl3⟩ := H3.out
  have hs2 : ∀ s ∈ ss2, Sized (N + 1) s := fun x hx => by
    obtain ⟨_, _, ha⟩ := all2_mem' hA2 hx
    exact ha.z
  obtain ⟨ss3, k1, k2, k3, k4⟩ := hC2.setSub (by have := HBW.out; omega) hT2 hs2 hBg hbu (((Kept.refl [gu] w2).alloc _).trans_ hk3) hb3 ho3 (by have := HFU.out.1; omega)
  refine ⟨rfl, (HB1.out.trans hb2).trans k1, _, _, ss1, ss2, ss3, k2, HW1.out, hA2, k4, ?_⟩
  obtain ⟨b, hb, hq⟩ := all2_mem k3 HM1.out
  have := hq.2 rfl
  rw [HSN.out] at this
  exact ⟨b, hb, this⟩
end Go.Proofs.YtmhcbgmnhcfhfaaDoor.cf
