/- capability.List.Add, walked: a name with a value. Printed by gen_cpaddv.py. -/
import Derived.Test.YtoihglnamclhfaaDoorCpAddW
import Derived.Test.YtoihglnamclhfaaDoorHeld
set_option linter.unusedVariables false
namespace Go.Proofs.YtoihglnamclhfaaDoor.cap
open Go.RowKit Lib frm mf mem text pkt

theorem multi_is (s : ByteArray) : inSet multiL s = decide (s = symS) := by unfold multiL inSet; rw [show inSet [] s = false from rfl, Bool.or_false]; rfl
theorem strs_one {w : World} {vb : Nat} {v : List UInt8} (h : Blk w vb StrT #[.string (ofL v)]) : Strs w w.heap.size (some ⟨vb, 0, none⟩) 1 [v] :=
  ⟨⟨rfl, fun _ => ⟨_, rfl, h.lt, fun j u hu => by rw [Lib.addr_add, Nat.zero_add, h.cell j (v := u) (by simpa [mem.strCells] using hu)]⟩⟩, fun _ => ⟨_, _, rfl⟩⟩
theorem turned_kept {w w' : World} {b : Nat} {o : Obj} (h : (w.alloc o).mapTurned w' b) : Kept [b] w w' := ((Kept.refl [b] w).alloc _).trans_ (Kept.of_grown h.grown)
theorem val_after {w w8 : World} {vb lb : Nat} {t : TypeId} {cs : Array Value} {sv : Value} (h : Blk w vb t cs) (hg : w.grownBy w8 sv.ownBlock) (hv : sv.ownBlock ≠ some vb) (hl : vb ≠ lb) (x : Value) : Blk (w8.setCell ⟨lb, 1, none⟩ x) vb t cs :=
  (h.kept (Kept.of_grown_own (S := sv.ownBlock.toList) hg (fun g hg => .inl (by simp [hg]))) (fun hx => hv (by simpa using hx))).far hl x
/-- 'm[k]', the operation perhaps guarded, the entry known -/
theorem wpList_look_is {P : Program} (w : World) {ops : Array Oper} {rest : List Oper} {o : Oper} {a : Act} {Q : Exit → Act → World → Prop} (hw : Region.wanted o (yielded ops a.tmps) = true) (m x : Operand) (t : TypeId) (hop : o.op = Op.lookup t m x false) (k e : TypeId) (hk : P.underlying k = some .string) (ht : P.underlying t = some (.map k e))
    (z : Value) (hz : ∀ w, (zeroValue e).run P w = .ok z w) (zd : DataW Unit) (hc : code z = some (zd, [])) (b n : Nat) (f : ByteArray → Option Value) (hm : a.eval m = .map (some b)) (h : MapF P k w b n f)
    (s : ByteArray) (hx : a.eval x = .string s) (hs : s.size ≤ maxLen) (v : Value) (hv : f s = some v) (hK : wpList P ops Q rest (a.put o.dst v) w) : wpList P ops Q (o :: rest) a w := by
  unfold wpList
  rw [if_pos hw]
  refine .inl ?_
  unfold Oper.wp
  have h1 := h.look hk ht hz hc hs
  rw [hv] at h1
  simp [execOp, hop, hm, hx, h1, Result.andThen]
  exact hK
theorem look_run {w : World} {mb N : Nat} {f : ByteArray → Option Value} {s : ByteArray} {v : Value} (h : MapF Tryd.prog CapT w mb N f) (hs : s.size ≤ maxLen) (hv : f s = some v) : (Instr.lookup 119 (.map (some mb)) (.string s) false).run Tryd.prog w = .ok v w := by
  have h1 := h.look Tryd.underlying86 Tryd.underlying119 (z := .pointer none) (fun _ => by kernel_rfl) code_nil hs
  rw [hv] at h1
  exact h1
set_option maxRecDepth 100000 in
set_option maxHeartbeats 16000000 in
theorem addNew1_calls (w0 : World) (lb mb N : Nat) (ns : List ByteArray) (s : ByteArray) (v : List UInt8) (u : World) (hL : LS w0 lb mb N ns u) (hs : s.size ≤ 1000) (hN : N ≤ 100000) (hk : inSet knownL s = true) (hr : inSet reqL s = true) (hnew : s ∉ ns) (hv : v ≠ []) :
    Calls Tryd.prog 71 #[.pointer (some ⟨lb, 0, none⟩), .string s, .slice (some ⟨u.heap.size, 0, none⟩) 1 1] (u.alloc (.cells #[.string (ofL v)] StrT)) (Done w0 lb mb (N + 2) (ns ++ [s])) := by
  obtain ⟨f, sv, xs, hF⟩ := hL
  obtain ⟨i0, hi, hz0, hz1, hz2⟩ := info_parts infoStr
  have hs9 : s.size ≤ maxLen := by unfold maxLen; omega
  have hfs : f s = none := by
    cases h : f s with
    | none => rfl
    | some v => exact absurd ((hF.mem s).1 (by rw [h]; rfl)) hnew
  obtain ⟨w, hw⟩ : ∃ w, w = u.alloc (.cells #[.string (ofL v)] StrT) := ⟨_, rfl⟩
  obtain ⟨vb, hvb⟩ : ∃ vb, vb = u.heap.size := ⟨_, rfl⟩
  have hF0 : LSF w0 lb mb N ns f sv xs w := hF.nil_ (by rw [hw]; exact (Kept.refl [] u).alloc _)
  have hV0 : Blk w vb StrT #[.string (ofL v)] := by rw [hw, hvb]; exact Blk.new u _ _
  have hvs : sv.ownBlock ≠ some vb := fun e => by have := (hF.own.lt vb e).2; omega
  have hvm : vb ≠ mb := by have := hF.map.lt; omega
  have hvl : vb ≠ lb := by have := hF.blk.lt; omega
  rw [← hw, ← hvb]
  have cv := hid (valid1_calls (some ⟨lb, 0, none⟩) (some ⟨vb, 0, none⟩) 1 v s w (strs_one hV0) hv hs9 hk hr)
  have ck := hid (fun w => by have := known_calls s w hs9; rwa [hk] at this)
  have cm := hid (fun w => multi_calls s w hs9)
  have HF := hid hF0
  have HV := hid hV0
  have HX := hid (And.intro hs9 hnew)
  have HVN := hid (And.intro hvs (And.intro hvm hvl))
  clear hF hF0 hV0 hs hs9 hk hr hnew hv hw hvs hvm hvl hvb
  go_enter Tryd.func71, Tryd.ntmps71
  go_wp2_with fail
  refine cv.out.mono ?_
  rintro e w1 ⟨rfl, hk1⟩
  have HF1 := hid (HF.out.nil_ hk1)
  have HV1 := hid (HV.out.kept hk1 (by simp))
  have c0 : w1.cell? ⟨lb, 0, none⟩ = some (.map (some mb)) := HF1.out.blk.cell 0 rfl
  clear hk1 cv HF HV
  go_wp2_with fail
  refine (supports_calls lb mb N f s w1 HX.out.1 c0 HF1.out.map).mono ?_
  rintro e w2 ⟨rfl, hw2⟩
  obtain rfl : w1 = w2 := hw2.symm
  rw [hfs]
  clear hw2
  go_wp2_with (first
    | (at_mapUpdate; refine wpList_store _ rfl (.tmp 22) _ _ 119 rfl CapT 124 Tryd.underlying86 Tryd.underlying119 mb N f rfl (HF1.out.map.heap (heap_alloc_old _ _ HF1.out.map.lt)) (by unfold maxLen; omega) s rfl HX.out.1 (.pointer (some ⟨w1.heap.size, 0, none⟩)) rfl _ (code_ptr w1.heap.size) ?_; intro w4 h1 h2; have HH := hid (half_of HF1.out HX.out.2 h2 h1); have HV4 := hid (HV1.out.kept (turned_kept h2) (by simpa using HVN.out.2.1)); clear h1 h2)
    | fail)
  clear c0
  obtain ⟨pe, hpe⟩ : ∃ pe, pe = w1.heap.size := ⟨_, rfl⟩
  have HPL : Hid (w0.heap.size ≤ pe) := hid (by rw [hpe]; exact HF1.out.kept.size)
  rw [← hpe] at HH ⊢
  clear hpe HF1 HV1
  obtain ⟨C, hC0, hCf, hCk, hCo⟩ : ∃ C : World → Prop, C w4.drew ∧ (∀ w', C w' → w'.cell? ⟨lb, 0, none⟩ = some (.map (some mb)) ∧ w'.cell? ⟨lb, 1, none⟩ = some sv) ∧ (∀ w' w'', C w' → Kept [] w' w'' → C w'') ∧ (∀ w', C w' → Kept [] w4 w') :=
    ⟨fun w' => Kept [] w4 w', (Kept.refl _ w4).drew, fun w' h => ⟨(HH.out.nil_ h).blk.cell 0 rfl, (HH.out.nil_ h).blk.cell 1 rfl⟩, fun _ _ h h' => h.trans_ h', fun _ h => h⟩
  try dsimp only [Act.put]
  refine tail.wp_region_mix C 5 0 2 (.pointer (some ⟨lb, 0, none⟩)) (by kernel_rfl) (by kernel_rfl) hC0 (fun _ _ _ h => h) (Or.inl ⟨by rfl, fun _ => by rfl⟩) ?_
  simp only [Act.put, List.setIfInBounds_toArray, List.set_cons_zero, List.set_cons_succ, List.take_succ_cons, List.take_zero, List.drop_succ_cons, List.drop_zero]
  iterate 5
    refine ⟨?_, Or.inl ⟨by rfl, fun wq hq => ?_⟩, fun _ _ _ h => h, ?_⟩
    rotate_left
    · obtain ⟨e0, e1⟩ := hCf wq hq
      go_simp
      rfl
    simp only [Act.put, List.setIfInBounds_toArray, List.set_cons_zero, List.set_cons_succ]
  refine tail.wpPre_nil ?_
  refine wpQuiet_nil ?_
  intro w6 hc6
  refine tail.wpListC_step rfl fun K hK3 => ?_
  go_simp
  refine (string_calls s w6).mono ?_
  rintro e w7 ⟨rfl, hw7⟩
  obtain rfl : w6 = w7 := hw7.symm
  refine hK3 _ _ hc6 ?_
  clear hK3 K
  refine tail.wpListC_step rfl fun K hK3 => ?_
  go_simp
  refine hK3 _ _ (hCk _ _ hc6 ((Kept.refl [] w6).alloc _)) ?_
  clear hK3 K
  refine tail.wpListC_zero ?_
  have HH6 := hid (HH.out.nil_ (hCo _ hc6))
  have HV6 := hid (HV4.out.kept (hCo _ hc6) (by simp))
  clear hC0 hCf hCk hCo hc6 hw7 HH HV4
  have hnum := HH6.out.num
  have hsz6 := HH6.out.kept.size
  have HH7 := hid (HH6.out.nil_ ((Kept.refl [] w6).alloc (.cells #[.string s] StrT)))
  have HV7 := hid (HV6.out.alloc (.cells #[.string s] StrT))
  go_wp2_with (first
    | (at_builtin; refine wpList_append_own_at _ rfl _ _ 30 rfl w0.heap.size StrT i0 (.string ⟨#[]⟩) 1 16 Tryd.underlying30 hi hz0 hz1 hz2 rfl (by decide) sv ns.length xs rfl HH7.out.own ⟨w6.heap.size, 0, none⟩ 1 1 [.string s] rfl rfl (by exact cell_one_new _ _ _) (by intro u hu; simp at hu; subst hu; rfl) (by unfold maxLen; omega) (by omega) (by simp; omega) ?_; intro v1 w8 h1 h2 _ h3; obtain ⟨Av, cv1, rfl⟩ := own_shape h1; have HLE := hid (full_of HH7.out h1 h2 h3); have HV8 := hid (val_after HV7.out h2 HVN.out.1 HVN.out.2.2 (.slice Av (ns.length + 1) cv1)); have d0 : w8.frozen? ⟨lb, 1, none⟩ = false := (full_frozen HH7.out h2); have d1 : w8.cell? ⟨lb, 1, none⟩ = some sv := (full_cell HH7.out h2); clear h1 h2 h3)
    | fail)
  obtain ⟨wz, hwz⟩ : ∃ wz, wz = w8.setCell ⟨lb, 1, none⟩ (.slice Av (ns.length + 1) cv1) := ⟨_, rfl⟩
  rw [← hwz] at HLE HV8 ⊢
  clear d0 d1 HH6 HH7 HV6 HV7 hwz
  refine (ck.out wz).mono ?_
  rintro e x1 ⟨rfl, hx1⟩
  have HX1 := hid hx1
  clear hx1 ck
  go_wp2_with fail
  refine (cm.out x1).mono ?_
  rintro e x2 ⟨rfl, hx2⟩
  obtain ⟨wy, hwy⟩ : ∃ wy, wy = x2 := ⟨_, rfl⟩
  rw [← hwy] at hx2 ⊢
  have HL := hid (HLE.out.1.nil_ (HX1.out.trans_ hx2))
  have HE := hid (HLE.out.2.kept (HX1.out.trans_ hx2) (by simp))
  have HV := hid (HV8.out.kept (HX1.out.trans_ hx2) (by simp))
  clear hx2 cm HX1 HLE HV8 hwy
  obtain ⟨wz, hwz⟩ : ∃ wz, wz = wy := ⟨_, rfl⟩
  rw [← hwz] at HL HE HV ⊢
  clear hwz
  obtain ⟨f9, hf9⟩ : ∃ f9 : ByteArray → Option Value, f9 = fun x => if x = s then some (.pointer (some ⟨pe, 0, none⟩)) else f x := ⟨_, rfl⟩
  have HF9 : Hid (f9 s = some (.pointer (some ⟨pe, 0, none⟩))) := hid (by rw [hf9]; simp)
  rw [← hf9] at HL
  clear hf9
  have HS9 := hid HX.out.1
  have hpl := HPL.out
  have HR : Hid (lb ∉ [pe] ∧ mb ∉ [pe]) := hid ⟨by have := HL.out.lbl; simp; omega, by have := HL.out.mbl; simp; omega⟩
  have HOE : Hid (wz.drew.ownsRow w0.heap.size StrT 1 (.slice none 0 0) 0 []) := hid (World.ownsRow_nil _ _ _ _)
  have HZB : Hid (w0.heap.size ≤ wz.drew.heap.size) := hid HL.out.kept.size
  have HGK : Hid (∀ wA, wz.drew.grownBy wA (Value.slice none 0 0).ownBlock → Kept [pe] wz wA) := hid (fun wA h => (Kept.refl [pe] wz).drew.trans (Kept.of_grown_none (S := []) h) (by simp))
  have HGE : Hid (∀ wA, wz.drew.grownBy wA (Value.slice none 0 0).ownBlock → Kept [] wz wA ∧ pe ∉ ([] : List Nat)) := hid (fun wA h => ⟨(Kept.refl [] wz).drew.trans (Kept.of_grown_none (S := []) h) (by simp), by simp⟩)
  clear hpl
  have c0 : wz.cell? ⟨lb, 0, none⟩ = some (.map (some mb)) := HL.out.blk.cell 0 rfl
  have c1 : wz.cell? ⟨pe, 1, none⟩ = some (.slice none 0 0) := HE.out.cell 1 rfl
  generalize inSet multiL s = mu at *
  cases mu
  all_goals
    go_wp2_with (first
      | (at_lookup; refine wpList_look_is _ (by rfl) (.tmp 52) _ 119 rfl CapT 124 Tryd.underlying86 Tryd.underlying119 (.pointer none) (fun _ => by kernel_rfl) _ code_nil mb _ f9 rfl HL.out.map s rfl HS9.out _ HF9.out ?_)
      | fail)
    clear c0 c1
    have hD9 : Kept (pe :: []) wz wz.drew := (Kept.refl _ wz).drew
    have hCf : ∀ w', Kept (pe :: []) wz w' → w'.cell? ⟨lb, 0, none⟩ = some (.map (some mb)) ∧ (Instr.lookup 119 (.map (some mb)) (.string s) false).run Tryd.prog w' = .ok (.pointer (some ⟨pe, 0, none⟩)) w' := fun w' hk =>
      ⟨(HL.out.blk.kept hk HR.out.1).cell 0 rfl, look_run (HL.out.map.heap (hk.block mb HL.out.map.lt HR.out.2)) HS9.out HF9.out⟩
    try dsimp only [Act.put]
    refine wp_region_held_drew (S := fun w' => Kept (pe :: []) wz w') (by kernel_rfl) hD9 (fun _ => ?_)
    refine held.take 0 (.pointer (some ⟨lb, 0, none⟩)) rfl (by kernel_rfl) (fun _ _ _ h => h) (Or.inl ⟨by rfl, fun wq hq => by obtain ⟨e0, e1⟩ := hCf wq hq; go_simp⟩) hD9 ?_
    refine held.take 1 (.pointer (some ⟨lb, 0, none⟩)) rfl (by kernel_rfl) (fun _ _ _ h => h) (Or.inl ⟨by rfl, fun wq hq => by obtain ⟨e0, e1⟩ := hCf wq hq; go_simp⟩) hD9 ?_
    refine held.take 2 (.pointer (some ⟨lb, 0, none⟩)) rfl (by kernel_rfl) (fun _ _ _ h => h) (Or.inl ⟨by rfl, fun wq hq => by obtain ⟨e0, e1⟩ := hCf wq hq; go_simp⟩) hD9 ?_
    refine held.take 3 (.map (some mb)) rfl (by kernel_rfl) (fun _ _ _ h => h) (Or.inl ⟨by rfl, fun wq hq => by obtain ⟨e0, e1⟩ := hCf wq hq; go_simp⟩) hD9 ?_
    refine held.take 4 (.string s) rfl (by kernel_rfl) (fun _ _ _ h => h) (Or.inl ⟨by rfl, fun wq hq => by obtain ⟨e0, e1⟩ := hCf wq hq; go_simp⟩) hD9 ?_
    refine held.take 5 (.pointer (some ⟨pe, 0, none⟩)) rfl (by kernel_rfl) (fun _ _ _ h => h) (Or.inl ⟨by rfl, fun wq hq => by obtain ⟨e0, e1⟩ := hCf wq hq; go_simp⟩) hD9 ?_
    refine held.take 6 (.pointer (some ⟨lb, 0, none⟩)) rfl (by kernel_rfl) (fun _ _ _ h => h) (Or.inl ⟨by rfl, fun wq hq => by obtain ⟨e0, e1⟩ := hCf wq hq; go_simp⟩) hD9 ?_
    refine held.take 7 (.pointer (some ⟨lb, 0, none⟩)) rfl (by kernel_rfl) (fun _ _ _ h => h) (Or.inl ⟨by rfl, fun wq hq => by obtain ⟨e0, e1⟩ := hCf wq hq; go_simp⟩) hD9 ?_
    refine held.take 8 (.pointer (some ⟨lb, 0, none⟩)) rfl (by kernel_rfl) (fun _ _ _ h => h) (Or.inl ⟨by rfl, fun wq hq => by obtain ⟨e0, e1⟩ := hCf wq hq; go_simp⟩) hD9 ?_
    refine held.take 9 (.map (some mb)) rfl (by kernel_rfl) (fun _ _ _ h => h) (Or.inl ⟨by rfl, fun wq hq => by obtain ⟨e0, e1⟩ := hCf wq hq; go_simp⟩) hD9 ?_
    refine held.take 10 (.string s) rfl (by kernel_rfl) (fun _ _ _ h => h) (Or.inl ⟨by rfl, fun wq hq => by obtain ⟨e0, e1⟩ := hCf wq hq; go_simp⟩) hD9 ?_
    refine held.take 11 (.pointer (some ⟨pe, 0, none⟩)) rfl (by kernel_rfl) (fun _ _ _ h => h) (Or.inl ⟨by rfl, fun wq hq => by obtain ⟨e0, e1⟩ := hCf wq hq; go_simp⟩) hD9 ?_
    refine held.take 12 (.pointer (some ⟨pe, 0, none⟩)) rfl (by kernel_rfl) (fun _ _ _ h => h) (Or.inl ⟨by rfl, fun wq hq => by obtain ⟨e0, e1⟩ := hCf wq hq; go_simp⟩) hD9 ?_
    refine held.take 13 (.pointer (some ⟨pe, 1, none⟩)) rfl (by kernel_rfl) (fun _ _ _ h => h) (Or.inl ⟨by rfl, fun wq hq => by obtain ⟨e0, e1⟩ := hCf wq hq; go_simp⟩) hD9 ?_
    refine held.take 15 (.slice (some ⟨vb, 0, none⟩) 1 1) rfl (by kernel_rfl) (fun _ _ _ h => h) (Or.inl ⟨by rfl, fun wq hq => by obtain ⟨e0, e1⟩ := hCf wq hq; go_simp⟩) hD9 ?_
    have c14 : wz.drew.cell? ⟨pe, 1, none⟩ = some (.slice none 0 0) := HE.out.cell 1 rfl
    refine held.forced 14 (by kernel_rfl) rfl rfl (fun K hK => ?_)
    go_simp
    refine hK _ _ hD9 ?_
    clear hK K c14 hCf
    refine held.forced 16 (by kernel_rfl) rfl rfl (fun K hK => ?_)
    refine wp_append_any _ (.tmp 76) (.tmp 77) 30 rfl w0.heap.size StrT i0 (.string ⟨#[]⟩) 1 16 Tryd.underlying30 hi hz0 hz1 hz2 rfl (by decide) (.slice none 0 0) 0 [] rfl HOE.out _ _ 1 1 (mem.strCells [v]) rfl (strs_one HV.out).1 (strCells_one _) (by unfold maxLen; omega) (by omega) HZB.out ?_
    intro v2 wA g1 g2 g3
    obtain ⟨Aw, cw, rfl⟩ := own_shape g1
    have gk : Kept (pe :: []) wz wA := HGK.out wA g2
    have d0 : wA.frozen? ⟨pe, 1, none⟩ = false := (HE.out.kept (HGE.out wA g2).1 (HGE.out wA g2).2).frozen 1
    have d1 : wA.cell? ⟨pe, 1, none⟩ = some (.slice none 0 0) := (HE.out.kept (HGE.out wA g2).1 (HGE.out wA g2).2).cell 1 rfl
    refine hK _ _ gk ?_
    clear hK K
    refine held.forced 17 (by kernel_rfl) rfl rfl (fun K hK => ?_)
    go_simp
    refine hK _ _ gk ?_
    clear hK K
    refine held.forced 18 (by kernel_rfl) rfl rfl (fun K hK => ?_)
    go_simp
    refine hK _ _ gk ?_
    clear hK K
    refine held.forced 19 (by kernel_rfl) rfl rfl (fun K hK => ?_)
    go_simp
    refine hK _ _ (gk.setCell (.inl (by simp)) _) ?_
    clear hK K d0 d1
    refine wpAnyH_done (by kernel_rfl) ?_ _
    have HD : Hid (LS w0 lb mb (N + 2) (ns ++ [s]) (wA.setCell ⟨pe, 1, none⟩ (.slice Aw 1 cw))) := hid (by
      by_cases hsy : s = symS
      · subst hsy
        exact ⟨_, _, _, vals_sym (HL.out.nil_ (Kept.refl [] wz).drew) HF9.out HPL.out HE.out HOE.out (by omega) (by intro g hg; cases hg) g1 g2 g3⟩
      · exact ⟨_, _, _, (vals_other (HL.out.nil_ (Kept.refl [] wz).drew) hsy HPL.out HE.out g2).more (by omega)⟩)
    clear g1 g2 g3
    go_wp2_with fail
    go_ret
    exact ⟨rfl, HD.out⟩
set_option maxRecDepth 100000 in
set_option maxHeartbeats 16000000 in
theorem addOld_calls (w0 : World) (lb mb N : Nat) (ns : List ByteArray) (s : ByteArray) (v : List UInt8) (u : World) (hL : LS w0 lb mb N ns u) (hss : s = symS) (hN : N ≤ 100000) (hin : symS ∈ ns) (hv : v ≠ []) :
    Calls Tryd.prog 71 #[.pointer (some ⟨lb, 0, none⟩), .string s, .slice (some ⟨u.heap.size, 0, none⟩) 1 1] (u.alloc (.cells #[.string (ofL v)] StrT)) (Done w0 lb mb (N + 1) ns) := by
  obtain ⟨f, sv, xs, hF⟩ := hL
  obtain ⟨i0, hi, hz0, hz1, hz2⟩ := info_parts infoStr
  have hs9 : s.size ≤ maxLen := by rw [hss]; decide
  have hk : inSet knownL s = true := by rw [hss]; decide
  have hr : inSet reqL s = true := by rw [hss]; decide
  have hm : inSet multiL s = true := by rw [hss]; decide
  have hsome := (hF.mem symS).2 hin
  obtain ⟨pv, hpv⟩ := Option.isSome_iff_exists.1 hsome
  obtain ⟨pe, ev, m, ys, rfl, hpl, hE0, hO0, hmN, hd0⟩ := hF.sym pv hpv
  rw [← hss] at hpv hE0
  obtain ⟨w, hw⟩ : ∃ w, w = u.alloc (.cells #[.string (ofL v)] StrT) := ⟨_, rfl⟩
  obtain ⟨vb, hvb⟩ : ∃ vb, vb = u.heap.size := ⟨_, rfl⟩
  have hkw : Kept [] u w := by rw [hw]; exact (Kept.refl [] u).alloc _
  have hF0 : LSF w0 lb mb N ns f sv xs w := hF.nil_ hkw
  have hV0 : Blk w vb StrT #[.string (ofL v)] := by rw [hw, hvb]; exact Blk.new u _ _
  rw [← hw, ← hvb]
  have cv := hid (valid1_calls (some ⟨lb, 0, none⟩) (some ⟨vb, 0, none⟩) 1 v s w (strs_one hV0) hv hs9 hk hr)
  have ck := hid (fun w => by have := known_calls s w hs9; rwa [hk] at this)
  have cm := hid (fun w => by have := multi_calls s w hs9; rwa [hm] at this)
  have HF := hid hF0
  have HV0 := hid hV0
  have HE0 := hid (hE0.kept hkw (by simp))
  have HO0 := hid (own_kept hO0 hkw (by simp))
  have HS9 := hid hs9
  have HF9 : Hid (f s = some (.pointer (some ⟨pe, 0, none⟩))) := hid hpv
  have HPL := hid hpl
  have HMD := hid (And.intro hmN (And.intro hd0 hss))
  clear hF hF0 hV0 hs9 hk hr hm hv hw hvb hsome hE0 hO0 hkw hin hmN hd0 hss hpl
  go_enter Tryd.func71, Tryd.ntmps71
  go_wp2_with fail
  refine cv.out.mono ?_
  rintro e w1 ⟨rfl, hk1⟩
  have HF1 := hid (HF.out.nil_ hk1)
  have HK1 := hid hk1
  have c0 : w1.cell? ⟨lb, 0, none⟩ = some (.map (some mb)) := HF1.out.blk.cell 0 rfl
  clear hk1 cv HF
  go_wp2_with fail
  refine (supports_calls lb mb N f s w1 HS9.out c0 HF1.out.map).mono ?_
  rintro e w2 ⟨rfl, hw2⟩
  obtain rfl : w1 = w2 := hw2.symm
  rw [hpv]
  clear hw2 c0 hpv
  go_wp2_with fail
  refine (ck.out w1).mono ?_
  rintro e x1 ⟨rfl, hx1⟩
  have HX1 := hid (HK1.out.trans_ hx1)
  have HL1 := hid (HF1.out.nil_ hx1)
  clear hx1 ck HK1 HF1
  go_wp2_with fail
  refine (cm.out x1).mono ?_
  rintro e wz ⟨rfl, hx2⟩
  have HL := hid (HL1.out.nil_ hx2)
  have HE := hid (HE0.out.kept (HX1.out.trans_ hx2) (by simp))
  have HV := hid (HV0.out.kept (HX1.out.trans_ hx2) (by simp))
  have HO := hid (own_kept HO0.out (HX1.out.trans_ hx2) (by simp))
  clear hx2 cm HX1 HL1 HE0 HV0 HO0
  have hin2 : ∀ x, x ∈ ev.ownBlock.toList → w0.heap.size ≤ x ∧ ∃ cs, Blk wz x StrT cs := fun x hx => by
    have hx' : ev.ownBlock = some x := by simpa using hx
    exact ⟨(HO.out.lt x hx').1, own_typed HO.out hx'⟩
  have HR : Hid (lb ∉ pe :: ev.ownBlock.toList ∧ mb ∉ pe :: ev.ownBlock.toList) := hid ⟨fun h => by
      have h1 := HL.out.lbl
      have h0 := HPL.out
      rcases List.mem_cons.1 h with h | h
      · omega
      · have := (hin2 _ h).1; omega, fun h => by
      have h1 := HL.out.mbl
      have h0 := HPL.out
      rcases List.mem_cons.1 h with h | h
      · omega
      · have := (hin2 _ h).1; omega⟩
  have hpn : pe ∉ ev.ownBlock.toList := fun h => by obtain ⟨_, cs, hc⟩ := hin2 pe h; exact HE.out.ne_ hc ent_ne_str rfl
  have HOE : Hid (wz.drew.ownsRow w0.heap.size StrT 1 ev m ys) := hid (own_kept HO.out (Kept.refl [] wz).drew (by simp))
  have HZB : Hid (w0.heap.size ≤ wz.drew.heap.size) := hid HL.out.kept.size
  have HGE : Hid (∀ wA, wz.drew.grownBy wA ev.ownBlock → Kept ev.ownBlock.toList wz wA ∧ pe ∉ ev.ownBlock.toList) := hid (fun wA h => ⟨(Kept.refl _ wz).drew.trans_ (Kept.of_grown_own h (fun g hg => .inl (by simp [hg]))), hpn⟩)
  have HGK : Hid (∀ wA, wz.drew.grownBy wA ev.ownBlock → Kept (pe :: ev.ownBlock.toList) wz wA) := hid (fun wA h => (HGE.out wA h).1.more (fun x hx => .inl (List.mem_cons_of_mem _ hx)))
  have hmN := HMD.out.1
  clear hin2 hpn HO
  go_wp2_with fail
  have hD9 : Kept (pe :: ev.ownBlock.toList) wz wz.drew := (Kept.refl _ wz).drew
  have hCf : ∀ w', Kept (pe :: ev.ownBlock.toList) wz w' → w'.cell? ⟨lb, 0, none⟩ = some (.map (some mb)) ∧ (Instr.lookup 119 (.map (some mb)) (.string s) false).run Tryd.prog w' = .ok (.pointer (some ⟨pe, 0, none⟩)) w' := fun w' hk =>
    ⟨(HL.out.blk.kept hk HR.out.1).cell 0 rfl, look_run (HL.out.map.heap (hk.block mb HL.out.map.lt HR.out.2)) HS9.out HF9.out⟩
  try dsimp only [Act.put]
  refine wp_region_held_drew (S := fun w' => Kept (pe :: ev.ownBlock.toList) wz w') (by kernel_rfl) hD9 (fun _ => ?_)
  refine held.take 0 (.pointer (some ⟨lb, 0, none⟩)) rfl (by kernel_rfl) (fun _ _ _ h => h) (Or.inl ⟨by rfl, fun wq hq => by obtain ⟨e0, e1⟩ := hCf wq hq; go_simp⟩) hD9 ?_
  refine held.take 1 (.pointer (some ⟨lb, 0, none⟩)) rfl (by kernel_rfl) (fun _ _ _ h => h) (Or.inl ⟨by rfl, fun wq hq => by obtain ⟨e0, e1⟩ := hCf wq hq; go_simp⟩) hD9 ?_
  refine held.take 2 (.pointer (some ⟨lb, 0, none⟩)) rfl (by kernel_rfl) (fun _ _ _ h => h) (Or.inl ⟨by rfl, fun wq hq => by obtain ⟨e0, e1⟩ := hCf wq hq; go_simp⟩) hD9 ?_
  refine held.take 3 (.map (some mb)) rfl (by kernel_rfl) (fun _ _ _ h => h) (Or.inl ⟨by rfl, fun wq hq => by obtain ⟨e0, e1⟩ := hCf wq hq; go_simp⟩) hD9 ?_
  refine held.take 4 (.string s) rfl (by kernel_rfl) (fun _ _ _ h => h) (Or.inl ⟨by rfl, fun wq hq => by obtain ⟨e0, e1⟩ := hCf wq hq; go_simp⟩) hD9 ?_
  refine held.take 5 (.pointer (some ⟨pe, 0, none⟩)) rfl (by kernel_rfl) (fun _ _ _ h => h) (Or.inl ⟨by rfl, fun wq hq => by obtain ⟨e0, e1⟩ := hCf wq hq; go_simp⟩) hD9 ?_
  refine held.take 6 (.pointer (some ⟨lb, 0, none⟩)) rfl (by kernel_rfl) (fun _ _ _ h => h) (Or.inl ⟨by rfl, fun wq hq => by obtain ⟨e0, e1⟩ := hCf wq hq; go_simp⟩) hD9 ?_
  refine held.take 7 (.pointer (some ⟨lb, 0, none⟩)) rfl (by kernel_rfl) (fun _ _ _ h => h) (Or.inl ⟨by rfl, fun wq hq => by obtain ⟨e0, e1⟩ := hCf wq hq; go_simp⟩) hD9 ?_
  refine held.take 8 (.pointer (some ⟨lb, 0, none⟩)) rfl (by kernel_rfl) (fun _ _ _ h => h) (Or.inl ⟨by rfl, fun wq hq => by obtain ⟨e0, e1⟩ := hCf wq hq; go_simp⟩) hD9 ?_
  refine held.take 9 (.map (some mb)) rfl (by kernel_rfl) (fun _ _ _ h => h) (Or.inl ⟨by rfl, fun wq hq => by obtain ⟨e0, e1⟩ := hCf wq hq; go_simp⟩) hD9 ?_
  refine held.take 10 (.string s) rfl (by kernel_rfl) (fun _ _ _ h => h) (Or.inl ⟨by rfl, fun wq hq => by obtain ⟨e0, e1⟩ := hCf wq hq; go_simp⟩) hD9 ?_
  refine held.take 11 (.pointer (some ⟨pe, 0, none⟩)) rfl (by kernel_rfl) (fun _ _ _ h => h) (Or.inl ⟨by rfl, fun wq hq => by obtain ⟨e0, e1⟩ := hCf wq hq; go_simp⟩) hD9 ?_
  refine held.take 12 (.pointer (some ⟨pe, 0, none⟩)) rfl (by kernel_rfl) (fun _ _ _ h => h) (Or.inl ⟨by rfl, fun wq hq => by obtain ⟨e0, e1⟩ := hCf wq hq; go_simp⟩) hD9 ?_
  refine held.take 13 (.pointer (some ⟨pe, 1, none⟩)) rfl (by kernel_rfl) (fun _ _ _ h => h) (Or.inl ⟨by rfl, fun wq hq => by obtain ⟨e0, e1⟩ := hCf wq hq; go_simp⟩) hD9 ?_
  refine held.take 15 (.slice (some ⟨vb, 0, none⟩) 1 1) rfl (by kernel_rfl) (fun _ _ _ h => h) (Or.inl ⟨by rfl, fun wq hq => by obtain ⟨e0, e1⟩ := hCf wq hq; go_simp⟩) hD9 ?_
  have c14 : wz.drew.cell? ⟨pe, 1, none⟩ = some ev := HE.out.cell 1 rfl
  refine held.forced 14 (by kernel_rfl) rfl rfl (fun K hK => ?_)
  go_simp
  refine hK _ _ hD9 ?_
  clear hK K c14 hCf
  refine held.forced 16 (by kernel_rfl) rfl rfl (fun K hK => ?_)
  refine wp_append_any _ (.tmp 76) (.tmp 77) 30 rfl w0.heap.size StrT i0 (.string ⟨#[]⟩) 1 16 Tryd.underlying30 hi hz0 hz1 hz2 rfl (by decide) ev m ys rfl HOE.out _ _ 1 1 (mem.strCells [v]) rfl (strs_one HV.out).1 (strCells_one _) (by unfold maxLen; omega) (by omega) HZB.out ?_
  intro v2 wA g1 g2 g3
  obtain ⟨Aw, cw, rfl⟩ := own_shape g1
  have gk : Kept (pe :: ev.ownBlock.toList) wz wA := HGK.out wA g2
  have d0 : wA.frozen? ⟨pe, 1, none⟩ = false := (HE.out.kept (HGE.out wA g2).1 (HGE.out wA g2).2).frozen 1
  have d1 : wA.cell? ⟨pe, 1, none⟩ = some ev := (HE.out.kept (HGE.out wA g2).1 (HGE.out wA g2).2).cell 1 rfl
  refine hK _ _ gk ?_
  clear hK K
  refine held.forced 17 (by kernel_rfl) rfl rfl (fun K hK => ?_)
  go_simp
  refine hK _ _ gk ?_
  clear hK K
  refine held.forced 18 (by kernel_rfl) rfl rfl (fun K hK => ?_)
  go_simp
  refine hK _ _ gk ?_
  clear hK K
  refine held.forced 19 (by kernel_rfl) rfl rfl (fun K hK => ?_)
  go_simp
  refine hK _ _ (gk.setCell (.inl (by simp)) _) ?_
  clear hK K d0 d1
  refine wpAnyH_done (by kernel_rfl) ?_ _
  have HD : Hid (LS w0 lb mb (N + 1) ns (wA.setCell ⟨pe, 1, none⟩ (.slice Aw (m + 1) cw))) := hid (by
    obtain ⟨h1, h2, h3⟩ := HMD.out
    have hf := HF9.out
    have he := HE.out
    rw [h3] at hf he
    exact ⟨_, _, _, vals_sym (HL.out.nil_ (Kept.refl [] wz).drew) hf HPL.out he HOE.out h1 h2 g1 g2 g3⟩)
  clear g1 g2 g3
  go_wp2_with fail
  go_ret
  exact ⟨rfl, HD.out⟩
end Go.Proofs.YtoihglnamclhfaaDoor.cap
