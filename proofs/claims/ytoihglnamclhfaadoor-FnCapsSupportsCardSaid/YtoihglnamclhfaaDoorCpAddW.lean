/- capability.List.Add, walked: a name without a value. -/
import Derived.Test.YtoihglnamclhfaaDoorCpAdd
set_option linter.unusedVariables false
namespace Go.Proofs.YtoihglnamclhfaaDoor.cap
open Go.RowKit Lib frm mf mem text pkt

set_option maxRecDepth 100000 in
set_option maxHeartbeats 8000000 in
theorem addNew0_calls (w0 : World) (lb mb N : Nat) (ns : List ByteArray) (s : ByteArray) (w : World) (hL : LS w0 lb mb N ns w) (hs : s.size ≤ 1000) (hN : N ≤ 100000) (hk : inSet knownL s = true) (hr : inSet reqL s = false) (hnew : s ∉ ns) :
    Calls Tryd.prog 71 #[.pointer (some ⟨lb, 0, none⟩), .string s, .slice none 0 0] w (Done w0 lb mb (N + 1) (ns ++ [s])) := by
  obtain ⟨f, sv, xs, hF⟩ := hL
  obtain ⟨i0, hi, hz0, hz1, hz2⟩ := info_parts infoStr
  have hs9 : s.size ≤ maxLen := by unfold maxLen; omega
  have cv := hid (valid0_calls (some ⟨lb, 0, none⟩) s w hs9 hk hr)
  have hfs : f s = none := by
    cases h : f s with
    | none => rfl
    | some v => exact absurd ((hF.mem s).1 (by rw [h]; rfl)) hnew
  have HF := hid hF
  have HX := hid (And.intro hs9 hnew)
  clear hF hs hs9 hk hr hnew
  go_enter Tryd.func71, Tryd.ntmps71
  go_wp2_with fail
  refine cv.out.mono ?_
  rintro e w1 ⟨rfl, hk1⟩
  have HF1 := hid (HF.out.nil_ hk1)
  have c0 : w1.cell? ⟨lb, 0, none⟩ = some (.map (some mb)) := HF1.out.blk.cell 0 rfl
  clear hk1 cv HF
  go_wp2_with fail
  refine (supports_calls lb mb N f s w1 HX.out.1 c0 HF1.out.map).mono ?_
  rintro e w2 ⟨rfl, hw2⟩
  obtain rfl : w1 = w2 := hw2.symm
  rw [hfs]
  clear hw2
  go_wp2_with (first
    | (at_mapUpdate; refine wpList_store _ rfl (.tmp 22) _ _ 119 rfl CapT 124 Tryd.underlying86 Tryd.underlying119 mb N f rfl (HF1.out.map.heap (heap_alloc_old _ _ HF1.out.map.lt)) (by unfold maxLen; omega) s rfl HX.out.1 (.pointer (some ⟨w1.heap.size, 0, none⟩)) rfl _ (code_ptr w1.heap.size) ?_; intro w4 h1 h2; have HH := hid (half_of HF1.out HX.out.2 h2 h1); clear h1 h2)
    | fail)
  clear c0
  obtain ⟨pe, hpe⟩ : ∃ pe, pe = w1.heap.size := ⟨_, rfl⟩
  rw [← hpe] at HH ⊢
  clear hpe HF1
  obtain ⟨C, hC0, hCf, hCk, hCo⟩ : ∃ C : World → Prop, C w4.drew ∧ (∀ w', C w' → w'.cell? ⟨lb, 0, none⟩ = some (.map (some mb)) ∧ w'.cell? ⟨lb, 1, none⟩ = some sv) ∧ (∀ w' w'', C w' → Kept [] w' w'' → C w'') ∧ (∀ w', C w' → Kept [] w4 w') :=
    ⟨fun w' => Kept [] w4 w', (Kept.refl _ w4).drew, fun w' h => ⟨(HH.out.nil_ h).blk.cell 0 rfl, (HH.out.nil_ h).blk.cell 1 rfl⟩, fun _ _ h h' => h.trans_ h', fun _ h => h⟩
  try dsimp only [Act.put]
  refine tail.wp_region_mix C 5 0 2 (.pointer (some ⟨lb, 0, none⟩)) (by kernel_rfl) (by kernel_rfl) hC0 (fun _ _ _ h => h) (Or.inl ⟨by rfl, fun _ => by rfl⟩) ?_
  simp only [Act.put, List.setIfInBounds_toArray, List.set_cons_zero, List.set_cons_succ, List.take_succ_cons, List.take_zero, List.drop_succ_cons, List.drop_zero]
  iterate 5
    refine ⟨?_, Or.inl ⟨by rfl, fun wq hq => ?_⟩, fun _ _ _ h => h, ?_⟩
    rotate_left
    · obtain ⟨e0, e1⟩ := hCf wq hq
      go_simp
      rfl
    simp only [Act.put, List.setIfInBounds_toArray, List.set_cons_zero, List.set_cons_succ]
  refine tail.wpPre_nil ?_
  refine wpQuiet_nil ?_
  intro w6 hc6
  refine tail.wpListC_step rfl fun K hK3 => ?_
  go_simp
  refine (string_calls s w6).mono ?_
  rintro e w7 ⟨rfl, hw7⟩
  obtain rfl : w6 = w7 := hw7.symm
  refine hK3 _ _ hc6 ?_
  clear hK3 K
  refine tail.wpListC_step rfl fun K hK3 => ?_
  go_simp
  refine hK3 _ _ (hCk _ _ hc6 ((Kept.refl [] w6).alloc _)) ?_
  clear hK3 K
  refine tail.wpListC_zero ?_
  have HH6 := hid (HH.out.nil_ (hCo _ hc6))
  clear hC0 hCf hCk hCo hc6 hw7 HH
  have hnum := HH6.out.num
  have hsz6 := HH6.out.kept.size
  have HH7 := hid (HH6.out.nil_ ((Kept.refl [] w6).alloc (.cells #[.string s] StrT)))
  go_wp2_with (first
    | (at_builtin; refine wpList_append_own_at _ rfl _ _ 30 rfl w0.heap.size StrT i0 (.string ⟨#[]⟩) 1 16 Tryd.underlying30 hi hz0 hz1 hz2 rfl (by decide) _ _ _ rfl HH7.out.own ⟨w6.heap.size, 0, none⟩ 1 1 [.string s] rfl rfl (by exact cell_one_new _ _ _) (by intro u hu; simp at hu; subst hu; rfl) (by unfold maxLen; omega) (by omega) (by simp; omega) ?_; intro v1 w8 h1 h2 _ h3; obtain ⟨Av, cv1, rfl⟩ := own_shape h1; have HL := hid (full_of HH7.out h1 h2 h3); have d0 : w8.frozen? ⟨lb, 1, none⟩ = false := (full_frozen HH7.out h2); have d1 : w8.cell? ⟨lb, 1, none⟩ = some sv := (full_cell HH7.out h2); clear h1 h2 h3)
    | fail)
  go_ret
  exact ⟨rfl, _, _, _, HL.out.1⟩
end Go.Proofs.YtoihglnamclhfaaDoor.cap
