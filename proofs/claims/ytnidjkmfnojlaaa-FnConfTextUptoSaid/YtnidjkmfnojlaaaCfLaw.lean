/- FnConfText, walked; its row's walk, at a bounded bulk. Printed by gen_cflaw.py. -/
import Derived.Test.YtnidjkmfnojlaaaCfConfText
import Derived.Test.YtnidjkmfnojlaaaCfEnc3
set_option linter.unusedVariables false
attribute [local go_sem ↓] Go.wp_at_zero Go.wp_at_succ
namespace Go.Proofs.Ytnidjkmfnojlaaa.cf
open Go.RowKit Lib mem opn frm strs text Go.WideShapes Go.ChangeShapes Go.ChangeAt

theorem mem_sum {α : Type} {f : α → Nat} {l : List α} {a : α} (h : a ∈ l) : f a ≤ (l.map f).sum := by
  induction l with
  | nil => cases h
  | cons b t ih =>
    simp only [List.map_cons, List.sum_cons]
    rcases List.mem_cons.1 h with rfl | h
    · omega
    · have := ih h; omega
theorem len_sum {α : Type} {f : α → Nat} (hf : ∀ a, 1 ≤ f a) (l : List α) : l.length ≤ (l.map f).sum := by
  induction l with
  | nil => simp
  | cons b t ih => have := hf b; simp only [List.map_cons, List.sum_cons, List.length_cons]; omega
theorem flat_sum {α : Type} {f : α → Nat} {t : α → List UInt8} {c : Nat} (l : List α) (h : ∀ a ∈ l, (t a).length ≤ c * f a) : (l.flatMap t).length ≤ c * (l.map f).sum := by
  induction l with
  | nil => simp
  | cons b r ih =>
    have h1 := h b (by simp)
    have h2 := ih (fun a ha => h a (by simp [ha]))
    simp only [List.flatMap_cons, List.length_append, List.map_cons, List.sum_cons, Nat.mul_add]
    omega
theorem few_of {s : SecD} (h : s.m ≤ 1048576) : Few s := by
  unfold SecD.m at h
  have h1 := len_sum (f := OptD.m) (fun o => by unfold OptD.m; omega) s.opts
  have h2 := len_sum (f := SubD.m) (fun o => by unfold SubD.m; omega) s.subs
  refine ⟨by omega, by omega, fun x hx => ?_⟩
  have h3 := mem_sum (f := SubD.m) hx
  unfold SubD.m at h3
  have h4 := len_sum (f := OptD.m) (fun o => by unfold OptD.m; omega) x.opts
  have h5 : (s.subs.map SubD.m).sum = (s.subs.map fun x => x.name.size + 2 + (x.opts.map OptD.m).sum).sum := rfl
  omega
theorem short_of {s : SecD} (h : s.m ≤ 1048576) : Short s := by
  unfold SecD.m at h
  refine ⟨by omega, fun o ho => ?_, fun x hx => ?_⟩
  · have h1 := mem_sum (f := OptD.m) ho
    have h2 : o.m = o.key.size + o.val.size + 3 := rfl
    omega
  · have h3 := mem_sum (f := SubD.m) hx
    have h4 : x.m = x.name.size + 2 + (x.opts.map OptD.m).sum := rfl
    refine ⟨by omega, fun o ho => ?_⟩
    have h1 := mem_sum (f := OptD.m) ho
    have h2 : o.m = o.key.size + o.val.size + 3 := rfl
    omega
theorem opts_len (os : List OptD) : (optsText os).length ≤ 2 * (os.map OptD.m).sum :=
  flat_sum os (fun o _ => by unfold optText OptD.m; simp only [List.length_append, size_len]; simp; omega)
theorem sub_len (n : List UInt8) (hn : n.length ≤ 1000) (u : SubD) : (subText n u).length ≤ 1006 * u.m := by
  have := opts_len u.opts
  unfold subText SubD.m
  simp only [List.length_append, size_len]
  simp
  omega
theorem sec_len (s : SecD) (hs : SecOk s) : (secText s).length ≤ 1006 * s.m := by
  have h1 := opts_len s.opts
  have h2 := flat_sum (f := SubD.m) (t := subText s.name.data.toList) (c := 1006) s.subs (fun u _ => sub_len _ (by rw [size_len]; exact hs.n.2) u)
  have h3 := hs.n.2
  have h4 : (headText s).length ≤ 1003 + (optsText s.opts).length := by
    unfold headText
    split
    · simp
    · simp only [List.length_append, size_len]; simp; omega
  unfold secText SecD.m
  rw [List.length_append]
  omega
theorem conf_len (ss : List SecD) (h : ∀ s ∈ ss, SecOk s) : (confText ss).length ≤ 1006 * (ss.map SecD.m).sum := flat_sum ss (fun s hs => sec_len s (h s hs))
def Yes (w : World) (e : Ending) (w' : World) : Prop := e = .returned (.bool true) ∧ Below w.heap.size w w'
set_option maxRecDepth 100000 in
set_option maxHeartbeats 8000000 in
theorem law_calls (v : Value) (xs : List SecD) (w : World) (h : SecSl w w.heap.size v xs) (hm : (xs.map SecD.m).sum + 1 ≤ 1048576) :
    Calls Try.prog 3 #[v] w (Yes w) := by
  have hn : xs.length ≤ 1048576 := by have := len_sum (f := SecD.m) (fun o => by unfold SecD.m; omega) xs; omega
  have hf : ∀ s ∈ xs, Few s := fun s hs => few_of (by have := mem_sum (f := SecD.m) hs; omega)
  have hz : ∀ s ∈ xs, Short s := fun s hs => short_of (by have := mem_sum (f := SecD.m) hs; omega)
  have c1 := hid (fits1_calls w.heap.size v xs w h (Nat.le_refl _) hn hf)
  have c2 := hid (fun (w' : World) (hk : Kept [] w w') => areSections_calls w.heap.size v xs w' (h.below hk.nil_below) hk.size hn hf hz)
  have c3 := hid (fun (w' : World) (hk : Kept [] w w') (hok : ∀ x ∈ xs, SecOk x) => encodeConf_calls v xs w' ((h.below hk.nil_below).more hk.size) hok hf hn (by have := conf_len xs hok; omega))
  have c4 := hid (fun (w' : World) (hk : Below w.heap.size w w') (hok : ∀ x ∈ xs, SecOk x) => confText_calls w.heap.size v xs w' (h.below hk) hk.size hok hf hn (by have := conf_len xs hok; omega))
  have hvs : ∃ A n c, v = .slice A n c := by obtain ⟨A, c, e, _⟩ := h; exact ⟨A, _, c, e⟩
  obtain ⟨A, n, c, rfl⟩ := hvs
  clear h hm hn hf hz
  go_enter Try.func3, Try.ntmps3
  go_wp2_with fail
  refine c1.out.mono ?_
  rintro e w1 ⟨hk1, b, rfl, -⟩
  have HK1 := hid hk1
  clear hk1 c1
  cases b with
  | false =>
    go_wp2_with fail
    go_ret
    exact ⟨rfl, HK1.out.nil_below⟩
  | true =>
  go_wp2_with fail
  refine (c2.out _ HK1.out).mono ?_
  rintro e w2 ⟨hk2, b, rfl, hb⟩
  have HK2 := hid (HK1.out.trans_ hk2)
  clear hk2 c2
  cases b with
  | false =>
    clear hb
    go_wp2_with fail
    go_ret
    exact ⟨rfl, HK2.out.nil_below⟩
  | true =>
  have HOK := hid (hb rfl).2
  clear hb
  go_wp2_with fail
  refine (c3.out _ HK2.out HOK.out).mono ?_
  rintro e w3 ⟨hb3, v3, rfl, ho3⟩
  have HB3 : Hid (Below w.heap.size w w3) := hid (HK2.out.nil_below.trans ⟨hb3.os, hb3.tape, hb3.output, hb3.size, fun i hi => hb3.block i (by have := HK2.out.size; omega)⟩)
  obtain ⟨A3, d3, rfl, -, hy3⟩ := own_bytes ho3
  obtain ⟨so, hso⟩ : ∃ so : ByteArray, so = ⟨(confText xs).toArray⟩ := ⟨_, rfl⟩
  have HSO : Hid (so.data.toList = confText xs) := hid (by rw [hso])
  have HY3 := hid hy3
  obtain ⟨N, hN⟩ : ∃ N, N = (confText xs).length := ⟨_, rfl⟩
  rw [← hN] at HY3 ⊢
  have HC : Hid (∀ w', Kept [] w3 w' → (convert 24 9 (.slice A3 N d3)).run Try.prog w' = .ok (.string so) w') := hid (fun w' hk => by rw [hso]; exact text_of_bytes (HY3.out.below hk.nil_below))
  clear hb3 ho3 hy3 c3 hso hN
  go_wp2_with fail
  obtain ⟨C, hC0, hCf, hCk, hCo⟩ : ∃ C : World → Prop, C w3.drew ∧ (∀ w', C w' → (convert 24 9 (.slice A3 N d3)).run Try.prog w' = .ok (.string so) w') ∧ (∀ w' w'', C w' → Kept [] w' w'' → C w'') ∧ (∀ w', C w' → Kept [] w3 w') :=
    ⟨fun w' => Kept [] w3 w', (Kept.refl _ w3).drew, fun w' h => HC.out w' h, fun _ _ h h' => h.trans_ h', fun _ h => h⟩
  have HCB : Hid (∀ w', C w' → Below w.heap.size w w') := hid (fun w' h => below_of HB3.out (hCo _ h) HB3.out.size)
  try dsimp only [Act.put]
  refine wp_region_quiet (C := C) (by kernel_rfl) (by kernel_rfl) hC0 ?_
  show wpQuiet _ _ _ _ [_, _, _, _, _, _, _, _, _] _
  repeat
    first
    | go_big_quiet_skip
    | (go_big_quiet_want
       go_big_quiet_op
       first
       | go_big_quiet_on
       | (apply Exists.intro
          refine ⟨fun wq hq => ?_, ?_⟩
          (first
              | (go_at_call 7; refine (c4.out wq (HCB.out _ hq) HOK.out).mono ?_; rintro e w4 ⟨hk4, s', rfl, hs'⟩; obtain rfl : so = s' := eq_of_list (HSO.out.trans hs'.symm); exact ⟨rfl, hCk _ _ hq hk4⟩)
              | (with_reducible rfl)
              | (have hcv := hCf wq hq; go_simp; (with_reducible first | rfl | exact hq | exact ⟨rfl, hq⟩)))
          go_big_quiet_on))
  refine wpQuiet_nil ?_
  intro wz hz
  have HBz := hid (HCB.out _ hz)
  clear hC0 hCf hCk hCo hz
  go_wp2_with fail
  go_ret
  exact ⟨rfl, HBz.out⟩
set_option maxRecDepth 100000 in
theorem text_row {H : Type} {enc : TypeId × Value → H} (W : World)
    (b0 : Nat) (v0 : Value) (d0 : DataW H) (p0 : List MemPlace) (h0 : DataW.Trod enc Try.prog W 0 (fun _ => true) true 22 v0 d0 p0) (k0 : Value.okWide Try.prog W .any b0 22 v0) (z0 : ∀ n ∈ d0.weights Try.prog 22, n ≤ reachBytes) (u0 : Rows.uptoBulk d0 ≤ 1048576)
    (hsh : W.ShapedOpen Try.prog) :
    Calls Try.prog 3 #[v0] W fun e w' => e = .returned (.bool true) ∧ Below W.heap.size W w' := by
  obtain ⟨A, n, c, rfl⟩ := okWide_slice Try.underlying22 k0
  obtain ⟨m, hm⟩ := h0
  obtain ⟨ss, hs, hb⟩ := SecSl.of_trod (y := (d0, p0)) (show DataW.trod enc Try.prog W 0 (fun _ => true) true m 22 [.slice A n c] = some (d0, p0) from hm)
  have hb' : (ss.map SecD.m).sum + 1 ≤ Rows.uptoBulk d0 := hb
  exact law_calls _ ss W hs (Nat.le_trans hb' u0)
end Go.Proofs.Ytnidjkmfnojlaaa.cf
