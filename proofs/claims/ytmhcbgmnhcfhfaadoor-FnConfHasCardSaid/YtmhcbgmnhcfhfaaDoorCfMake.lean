/- impl.optionsOf, impl.configOf: a configuration made out of sections. -/
import Derived.Test.YtmhcbgmnhcfhfaaDoorCfAre
import Derived.Test.YtmhcbgmnhcfhfaaDoorTail
import Derived.Deep.DrawnRows
import Derived.BigQuiet
set_option linter.unusedVariables false
attribute [local go_sem ↓] Go.wp_at_zero Go.wp_at_succ
namespace Go.Proofs.YtmhcbgmnhcfhfaaDoor.cf
open Go.RowKit Lib mem opn frm strs

inductive All2 {α β : Type} (P : α → β → Prop) : List α → List β → Prop
  | nil : All2 P [] []
  | cons {a b l m} (h : P a b) (t : All2 P l m) : All2 P (a :: l) (b :: m)
theorem All2.mono {α β : Type} {P Q : α → β → Prop} {l : List α} {m : List β} (h : All2 P l m) (hq : ∀ a b, P a b → Q a b) : All2 Q l m := by
  induction h with
  | nil => exact .nil
  | cons h _ ih => exact .cons (hq _ _ h) ih
theorem All2.snoc {α β : Type} {P : α → β → Prop} {l : List α} {m : List β} {a : α} {b : β} (h : All2 P l m) (hp : P a b) : All2 P (l ++ [a]) (m ++ [b]) := by
  induction h with
  | nil => exact .cons hp .nil
  | cons h _ ih => exact .cons h ih
theorem All2.len {α β : Type} {P : α → β → Prop} {l : List α} {m : List β} (h : All2 P l m) : l.length = m.length := by
  induction h with
  | nil => rfl
  | cons h _ ih => simp [ih]
theorem All2.at_ {α β : Type} {P : α → β → Prop} {l : List α} {m : List β} (h : All2 P l m) {k : Nat} (hk : k < m.length) : ∃ a b, l[k]? = some a ∧ m[k]? = some b ∧ P a b ∧ b ∈ m := by
  induction h generalizing k with
  | nil => simp at hk
  | cons h t ih =>
    cases k with
    | zero => exact ⟨_, _, rfl, rfl, h, by simp⟩
    | succ k =>
      obtain ⟨a, b, h1, h2, h3, h4⟩ := ih (k := k) (by simp at hk; omega)
      exact ⟨a, b, by simpa using h1, by simpa using h2, h3, by simp [h4]⟩
theorem take_snoc {α : Type} {l : List α} {k : Nat} {a : α} (h : l[k]? = some a) : l.take (k + 1) = l.take k ++ [a] := by
  obtain ⟨hk, e⟩ := List.getElem?_eq_some_iff.1 h
  rw [List.take_succ_eq_append_getElem hk, e]
abbrev TO : TypeId := 112
abbrev PO : TypeId := 111
abbrev TU : TypeId := 87
abbrev PU : TypeId := 85
abbrev TS : TypeId := 84
abbrev PS : TypeId := 60
abbrev TC : TypeId := 94
/-- blocks of some types stay as they are -/
def Ty (ts : List TypeId) (w w' : World) : Prop := ∀ g t cs, t ∈ ts → Blk w g t cs → Blk w' g t cs
section
variable {ts : List TypeId} {w w' w'' : World}
theorem Ty.trans (h : Ty ts w w') (k : Ty ts w' w'') : Ty ts w w'' := fun g t cs ht hb => k g t cs ht (h g t cs ht hb)
theorem Ty.of_kept (h : Kept [] w w') : Ty ts w w' := fun g t cs _ hb => hb.kept h (by simp)
theorem Ty.own {base size n : Nat} {e : TypeId} {v : Value} {xs : List Value} (hown : w.ownsRow base e size v n xs) (hg : w.grownBy w' v.ownBlock) (he : e ∉ ts) : Ty ts w w' := by
  intro g t cs ht hb
  refine (hg.block g hb.lt ?_).trans hb
  intro e2
  rcases hown.2 with ⟨rfl, _⟩ | ⟨g', cap, cur, rfl, _, hgg, _⟩
  · cases e2
  · injection e2 with e2
    simp only at e2
    subst e2
    unfold Blk at hb
    rw [hgg] at hb
    injection hb with hb
    injection hb with _ hb
    subst hb
    exact he ht
theorem Ty.set_ {b : Nat} {t : TypeId} {cs : Array Value} (hb : Blk w b t cs) (ht : t ∉ ts) (i : Nat) (u : Value) : Ty ts w (w.setCell ⟨b, i, none⟩ u) := by
  intro g t' cs' ht' hb'
  exact hb'.far (p := ⟨b, i, none⟩) (fun e => by
    have e : g = b := e
    subst e
    unfold Blk at hb hb'
    rw [hb] at hb'
    injection hb' with hb'
    injection hb' with _ hb'
    subst hb'
    exact ht ht') u
theorem own_ty {base size n : Nat} {e : TypeId} {v : Value} {xs : List Value} (hown : w.ownsRow base e size v n xs) (h : Ty ts w w') (he : e ∈ ts) : w'.ownsRow base e size v n xs := by
  refine ⟨hown.1, ?_⟩
  rcases hown.2 with h0 | ⟨g, cap, cur, rfl, hB, hg, rest⟩
  · exact .inl h0
  · exact .inr ⟨g, cap, cur, rfl, hB, h g e cur he hg, rest⟩
theorem own_base {base base' size n : Nat} {e : TypeId} {v : Value} {xs : List Value} (hown : w.ownsRow base e size v n xs) (h : base' ≤ base) : w.ownsRow base' e size v n xs := by
  refine ⟨hown.1, ?_⟩
  rcases hown.2 with h0 | ⟨g, cap, cur, rfl, hB, hg, rest⟩
  · exact .inl h0
  · exact .inr ⟨g, cap, cur, rfl, by omega, hg, rest⟩
/-- an append on a row of the call's own: old blocks stay -/
theorem kept_own {a b : World} {base size n : Nat} {e : TypeId} {v : Value} {xs : List Value} (h : Kept [] w a) (hown : a.ownsRow base e size v n xs) (hB : w.heap.size ≤ base) (hg : a.grownBy b v.ownBlock) : Kept [] w b := by
  cases hv : v.ownBlock with
  | none => rw [hv] at hg; exact h.trans (T := []) (Kept.of_grown_none hg) (by simp)
  | some x =>
    rw [hv] at hg
    have := (hown.lt x hv).1
    exact h.trans (T := [x]) (Kept.of_grown hg) (by simp; omega)
end
def OP (w : World) (v : Value) (o : OptD) : Prop := ∃ g, v = .pointer (some ⟨g, 0, none⟩) ∧ Blk w g TO #[.string o.key, .string o.val]
def OptsP (w : World) (v : Value) (os : List OptD) : Prop := ∃ vs, w.ownsRow 0 PO 1 v os.length vs ∧ All2 (OP w) vs os
def SP (w : World) (v : Value) (s : SubD) : Prop := ∃ g ov, v = .pointer (some ⟨g, 0, none⟩) ∧ Blk w g TU #[.string s.name, ov] ∧ OptsP w ov s.opts
def SubsP (w : World) (v : Value) (ss : List SubD) : Prop := ∃ vs, w.ownsRow 0 PU 1 v ss.length vs ∧ All2 (SP w) vs ss
def SecP (w : World) (v : Value) (s : SecD) : Prop := ∃ g ov sv, v = .pointer (some ⟨g, 0, none⟩) ∧ Blk w g TS #[.string s.name, ov, sv] ∧ OptsP w ov s.opts ∧ SubsP w sv s.subs
def ConfP (w : World) (v : Value) (ss : List SecD) : Prop := ∃ g sv, v = .pointer (some ⟨g, 0, none⟩) ∧ Blk w g TC #[.pointer none, sv, .slice none 0 0] ∧ ∃ vs, w.ownsRow 0 PS 1 sv ss.length vs ∧ All2 (SecP w) vs ss
section
variable {ts : List TypeId} {w w' : World} {v : Value}
theorem OP.ty {o : OptD} (h : OP w v o) (k : Ty ts w w') (h1 : TO ∈ ts) : OP w' v o := by obtain ⟨g, e, hb⟩ := h; exact ⟨g, e, k _ _ _ h1 hb⟩
theorem OptsP.ty {os : List OptD} (h : OptsP w v os) (k : Ty ts w w') (h1 : TO ∈ ts) (h2 : PO ∈ ts) : OptsP w' v os := by obtain ⟨vs, ho, ha⟩ := h; exact ⟨vs, own_ty ho k h2, ha.mono fun _ _ h => h.ty k h1⟩
theorem SP.ty {s : SubD} (h : SP w v s) (k : Ty ts w w') (h1 : TO ∈ ts) (h2 : PO ∈ ts) (h3 : TU ∈ ts) : SP w' v s := by obtain ⟨g, ov, e, hb, ho⟩ := h; exact ⟨g, ov, e, k _ _ _ h3 hb, ho.ty k h1 h2⟩
theorem SubsP.ty {ss : List SubD} (h : SubsP w v ss) (k : Ty ts w w') (h1 : TO ∈ ts) (h2 : PO ∈ ts) (h3 : TU ∈ ts) (h4 : PU ∈ ts) : SubsP w' v ss := by obtain ⟨vs, ho, ha⟩ := h; exact ⟨vs, own_ty ho k h4, ha.mono fun _ _ h => h.ty k h1 h2 h3⟩
theorem SecP.ty {s : SecD} (h : SecP w v s) (k : Ty ts w w') (h1 : TO ∈ ts) (h2 : PO ∈ ts) (h3 : TU ∈ ts) (h4 : PU ∈ ts) (h5 : TS ∈ ts) : SecP w' v s := by
  obtain ⟨g, ov, sv, e, hb, ho, hs⟩ := h; exact ⟨g, ov, sv, e, k _ _ _ h5 hb, ho.ty k h1 h2, hs.ty k h1 h2 h3 h4⟩
theorem SecP.kept {s : SecD} (h : SecP w v s) (k : Kept [] w w') : SecP w' v s := h.ty (ts := [TO, PO, TU, PU, TS]) (.of_kept k) (by simp) (by simp) (by simp) (by simp) (by simp)
theorem OptsP.kept {os : List OptD} (h : OptsP w v os) (k : Kept [] w w') : OptsP w' v os := h.ty (ts := [TO, PO]) (.of_kept k) (by simp) (by simp)
end
theorem infoPtr (t : TypeId) (h : (Tryd.prog.info? t).map (fun i => (i.size, i.bytes, i.zero)) = some (1, 8, some (.pointer none))) : ∃ i : TypeInfo, Tryd.prog.info? t = some i ∧ i.zero = some (.pointer none) ∧ i.size = 1 ∧ i.bytes = 8 := by
  cases hh : Tryd.prog.info? t with
  | none => rw [hh] at h; cases h
  | some i => rw [hh] at h; simp at h; exact ⟨i, rfl, h.2.2, h.1, h.2.1⟩
theorem one_ptr (w : World) (v : Value) {e : TypeId} {B : Nat} (hB : w.heap.size < B) : Reads (w.alloc (.cells #[v] e)) B 1 (some ⟨w.heap.size, 0, none⟩) 1 [v] :=
  ⟨rfl, fun _ => ⟨_, rfl, hB, fun j u hu => by rw [Lib.addr_add, Nat.zero_add, Lib.cell_of_heap (heap_alloc_new w _) j]; match j, hu with | 0, hu => exact hu⟩⟩
def MadeOpts (w : World) (os : List OptD) (e : Ending) (w' : World) : Prop := ∃ v, e = .returned v ∧ Kept [] w w' ∧ OptsP w' v os
attribute [local go_sem] OptD.cells SubD.cells SecD.cells
set_option maxRecDepth 100000 in
set_option maxHeartbeats 8000000 in
theorem optionsOf_calls (B : Nat) (v : Value) (xs : List OptD) (w : World) (h : OptSl w B v xs) (hB : B ≤ w.heap.size) (hn : xs.length ≤ 4294967295) :
    Calls Tryd.prog 41 #[v] w (MadeOpts w xs) := by
  obtain ⟨A, c, rfl, hF⟩ := h
  obtain ⟨i0, hi, hz0, hz1, hz2⟩ := infoPtr PO (by kernel_rfl)
  have HF := hid hF
  have hn' : (xs.length : Int) ≤ 4294967295 := by omega
  have HBB := hid hB
  obtain ⟨n, hnn⟩ : ∃ n, n = xs.length := ⟨_, rfl⟩
  have HNN := hid hnn
  have HN := hid hn
  rw [← hnn] at HF hn' ⊢
  clear hF hn hB hnn
  go_enter Tryd.func41, Tryd.ntmps41
  go_wp2_with fail
  go_loopw [3, 8] (fun vv iv wr => ∃ k : Nat, k ≤ n ∧ iv = .int .i64 k ∧ Hid (Kept [] w wr) ∧ ∃ vs, Hid (wr.ownsRow w.heap.size PO 1 vv k vs) ∧ Hid (All2 (OP wr) vs (xs.take k))) (fun _ iv _ => n - (RowKit.intOf iv).toNat)
  case atStart => exact ⟨0, by omega, rfl, hid (Kept.refl _ _), [], hid (World.ownsRow_nil _ _ _ _), hid (by simpa using All2.nil)⟩
  case round =>
    obtain ⟨k, hk, rfl, hK, vs, hO, hA⟩ := hrel
    by_cases hlt : k < n
    · obtain ⟨g, o, x, rfl, hg, hxk, hmem, hR⟩ := at_kept HF.out OptD.len hK.out HBB.out hlt
      have HR := hid hR
      have HXK := hid hxk
      have hlt' : (k : Int) < n := by omega
      have hk20 : k + 1 ≤ 4294967295 := by have := HN.out; have := HNN.out; omega
      clear hR hxk hg hmem
      go_wp2_with (first
        | (refine wpList_load_mid rfl Oty (.tmp 10) rfl g (o + k * 2) rfl x.cells _ HR.out Tryd.underlying108 rfl infoO ?_)
        | (refine wpList_store_kept rfl Oty (.tmp 5) (.tmp 11) rfl wr.heap.size x.cells.toArray rfl rfl Oty _ (Blk.new wr Oty _) (opt_sz x) rfl (opt_all x) ?_; intro w2 h1 h2 h3; have q0 : w2.cell? ⟨wr.heap.size, 0, none⟩ = some (.string x.key) := h1.out.cell 0 rfl; have q1 : w2.cell? ⟨wr.heap.size, 1, none⟩ = some (.string x.val) := h1.out.cell 1 rfl; have hk2 : Kept [] wr w2 := ((Kept.refl [] wr).alloc _).trans h2.out (by simp); have HK2 := hid (hK.out.trans_ hk2); have HO2 : Hid (w2.ownsRow w.heap.size PO 1 u3 k vs) := hid (own_ty (ts := [PO]) hO.out (.of_kept hk2) (by simp)); have HA2 : Hid (All2 (OP w2) vs (xs.take k)) := hid (hA.out.mono fun _ _ h => h.ty (ts := [TO]) (.of_kept hk2) (by simp)); clear h1 h2 h3 hk2)
        | (at_builtin; refine wpList_append_any _ rfl (.tmp 12) (.tmp 19) _ rfl w.heap.size PO i0 _ 1 8 Tryd.underlying79 hi hz0 hz1 hz2 rfl (by omega) u3 k vs rfl ((HO2.out.alloc _).alloc _) (w2.heap.size + 2) (some ⟨w2.heap.size + 1, 0, none⟩) 1 1 [.pointer (some ⟨w2.heap.size, 0, none⟩)] rfl (by have := one_ptr (w2.alloc (.cells #[.string x.key, .string x.val] TO)) (.pointer (some ⟨w2.heap.size, 0, none⟩)) (e := PO) (B := w2.heap.size + 2) (by simp); simpa using this) (by simp [Value.oneCell']) (by simp only [maxLen]; omega) (by omega) (by have := HK2.out.size; simp; omega) ?_; intro v6 w6 hown6 hg6 hat6; have H6 := hid (And.intro hown6 hg6); clear hown6 hg6 hat6))
      have HOA := ((HO2.out.alloc (.cells #[.string x.key, .string x.val] TO)).alloc (.cells #[.pointer (some ⟨w2.heap.size, 0, none⟩)] PO))
      have HT6 : Ty [TO] w2 w6 := (Ty.of_kept (((Kept.refl [] w2).alloc _).alloc _)).trans (Ty.own HOA H6.out.2 (by decide))
      have HX6 : OP w6 (.pointer (some ⟨w2.heap.size, 0, none⟩)) x := ⟨_, rfl, Ty.own (ts := [TO]) HOA H6.out.2 (by decide) _ _ _ (by simp) ((Blk.new w2 TO #[.string x.key, .string x.val]).alloc _)⟩
      have HK6 := hid (kept_own ((HK2.out.alloc _).alloc _) HOA (Nat.le_refl _) H6.out.2)
      have HA6 := hid (show All2 (OP w6) (vs ++ [.pointer (some ⟨w2.heap.size, 0, none⟩)]) (xs.take (k + 1)) by rw [take_snoc HXK.out]; exact (HA2.out.mono fun _ _ h => h.ty HT6 (by simp)).snoc HX6)
      clear HOA HT6 HX6
      go_roundw
      case rel => exact ⟨k + 1, by omega, by go_num, HK6, _, hid H6.out.1, HA6⟩
      case measure => simp [RowKit.intOf]; omega
    · have hlt' : ¬ (k : Int) < n := by omega
      go_wp2_with fail
      go_ret
      have hkn : k = n := by omega
      subst hkn
      have e : xs.take k = xs := List.take_of_length_le (by have := HNN.out; omega)
      refine ⟨_, rfl, hK.out, vs, ?_, by have := hA.out; rwa [e] at this⟩
      rw [← HNN.out]
      exact own_base hO.out (Nat.zero_le _)
end Go.Proofs.YtmhcbgmnhcfhfaaDoor.cf
