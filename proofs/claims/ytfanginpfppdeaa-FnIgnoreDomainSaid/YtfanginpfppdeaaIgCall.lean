/- A pattern read and a path taken, with slices of their own: what the call computes. -/
import Derived.Test.YtfanginpfppdeaaIgSimple
import Derived.Deep.RegionHeld3
set_option linter.unusedVariables false
namespace Go.Proofs.Ytfanginpfppdeaa.glob
open Go.RowKit Lib text strs mem searchIgnore

/-- an empty block -/
def Empty (w : World) (b : Nat) : Prop := w.heap[b]? = some (.cells #[] 9 (0, 0))
theorem Empty.lt {w : World} {b : Nat} (h : Empty w b) : b < w.heap.size := by
  rcases Nat.lt_or_ge b w.heap.size with hlt | hge
  · exact hlt
  · unfold Empty at h; rw [Array.getElem?_eq_none hge] at h; cases h
theorem Empty.none_ {w : World} {b : Nat} (h : Empty w b) (a : Addr) (ha : a.block = b) : w.cell? a = none := by
  unfold Empty at h
  subst ha
  unfold World.cell?
  rw [h]
  simp
theorem Empty.alloc {w : World} {b : Nat} (h : Empty w b) (o : Obj) : Empty (w.alloc o) b := (Below.heap_alloc w o b h.lt).trans h
theorem Empty.new (w : World) : Empty (w.alloc (.cells #[] 9)) w.heap.size := heap_alloc_new w _
theorem Empty.own {w : World} {b B : Nat} (h : Empty w b) (hB : B ≤ b) : w.ownsRow B 9 1 (.slice (some ⟨b, 0, none⟩) 0 0) 0 [] :=
  ⟨rfl, .inr ⟨b, 0, #[], rfl, hB, h, Nat.le_refl _, by decide, rfl, rfl⟩⟩
theorem Empty.below {w w' : World} {b : Nat} (h : Empty w b) (hb : Below w.heap.size w w') : Empty w' b := (hb.block b h.lt).trans h
theorem Empty.grown {w w' : World} {b : Nat} {row : Option Nat} (h : Empty w b) (hg : w.grownBy w' row) (hr : some b ≠ row) : Empty w' b := (hg.block b h.lt hr).trans h
theorem cell_grownE {w w' : World} {b : Nat} (hE : Empty w b) (hg : w.grownBy w' (some b)) {a : Addr} {v : Value} (h : w.cell? a = some v) (hlt : a.block < w.heap.size) : w'.cell? a = some v := by
  rw [World.cell?_of_block (w := w) (w' := w') (a := a) (hg.block a.block hlt (fun e => by
    have := hE.none_ a (by injection e)
    rw [this] at h; cases h))]
  exact h
theorem strs_grownE {w w' : World} {b B n : Nat} {A : Option Addr} {l : List (List UInt8)} (h : Strs w B A n l) (hE : Empty w b) (hg : w.grownBy w' (some b)) (hB : B ≤ w.heap.size) : Strs w' B A n l := by
  refine ⟨⟨h.1.1, fun hn => ?_⟩, h.2⟩
  obtain ⟨ad, e, hb, hc⟩ := h.1.2 hn
  exact ⟨ad, e, hb, fun j u hu => cell_grownE hE hg (hc j u hu) (by rw [block_of_add]; omega)⟩
theorem Read.grownE {w w' : World} {g b : Nat} {P : List UInt8} {dom : List (List UInt8)} (h : Read w g w.heap.size P dom) (hE : Empty w b) (hg : w.grownBy w' (some b)) : Read w' g w'.heap.size P dom := by
  obtain ⟨hl, ⟨A, n, c, h0, hs, hc⟩, ⟨A2, n2, c2, h1, hs2, hc2⟩, h2, h3, h4⟩ := h
  refine ⟨Nat.lt_of_lt_of_le hl hg.size, ⟨A, n, c, cell_grownE hE hg h0 hl, (strs_grownE hs hE hg (Nat.le_refl _)).more hg.size, hc⟩, ⟨A2, n2, c2, cell_grownE hE hg h1 hl, (strs_grownE hs2 hE hg (Nat.le_refl _)).more hg.size, hc2⟩, cell_grownE hE hg h2 hl, cell_grownE hE hg h3 hl, cell_grownE hE hg h4 hl⟩
theorem Read.alloc {w : World} {g : Nat} {P : List UInt8} {dom : List (List UInt8)} (h : Read w g w.heap.size P dom) (o : Obj) : Read (w.alloc o) g (w.alloc o).heap.size P dom := by
  obtain ⟨hl, ⟨A, n, c, h0, hs, hc⟩, ⟨A2, n2, c2, h1, hs2, hc2⟩, h2, h3, h4⟩ := h
  have hz : w.heap.size ≤ (w.alloc o).heap.size := by show _ ≤ (w.heap.push o).size; simp
  have hk : ∀ i v, w.cell? ⟨g, i, none⟩ = some v → (w.alloc o).cell? ⟨g, i, none⟩ = some v := fun i v h => (World.cell?_alloc_lt w o _ hl).trans h
  exact ⟨Nat.lt_of_lt_of_le hl hz, ⟨A, n, c, hk _ _ h0, (hs.alloc (Nat.le_refl _) o).more hz, hc⟩, ⟨A2, n2, c2, hk _ _ h1, (hs2.alloc (Nat.le_refl _) o).more hz, hc2⟩, hk _ _ h2, hk _ _ h3, hk _ _ h4⟩
theorem asize (w : World) (o : Obj) : (w.alloc o).heap.size = w.heap.size + 1 := by show (w.heap.push o).size = _; simp
theorem below_up {B : Nat} {w w1 w2 : World} (h : Below B w w1) (h2 : Below w1.heap.size w1 w2) (hB : B ≤ w.heap.size) : Below B w w2 :=
  h.trans ⟨h2.os, h2.tape, h2.output, h2.size, fun k hk => h2.block k (by have := h.size; omega)⟩
theorem nil_ahead (g : Nat) (w : World) : Sem.run Try.prog (nilAhead 191 43 (.pointer (some ⟨g, 0, none⟩)) "Match") w = .ok (some false) w := by kernel_rfl
theorem the_method (g : Nat) (w : World) : Sem.run Try.prog (method 191 43 (.pointer (some ⟨g, 0, none⟩)) "Match") w = .ok (41, .pointer (some ⟨g, 0, none⟩)) w := by kernel_rfl
def Taken (w : World) (r : Nat) (e : Ending) (w' : World) : Prop := e = .returned (.int .i64 (r : Int)) ∧ Below w.heap.size w w'
set_option maxRecDepth 100000 in
set_option maxHeartbeats 16000000 in
theorem call_calls (P : ByteArray) (A B : Option Addr) (n c m d : Nat) (dom path : List (List UInt8)) (dir : Bool) (w : World) (hs : P.size ≤ 1048576) (h0 : 0 < P.size) (hx : ∀ x ∈ P.data.toList, x ≠ 33 ∧ x ≠ 32 ∧ x ≠ 92)
    (hd : Strs w w.heap.size A n dom) (hn : n ≤ 2147483647) (hq : Strs w w.heap.size B m path) (hm : m ≤ 2147483647)
    (hpl : (pieces 47 (bodyOf P.data.toList)).length ≤ 1048576) (hpo : okPats (pieces 47 (bodyOf P.data.toList))) (hqo : ∀ x ∈ path, Name x) (hgb : has [47] (bodyOf P.data.toList) = false → Glob (bodyOf P.data.toList)) :
    Calls Try.prog 14 #[.string P, .slice A n c, .slice B m d, .bool dir] w (Taken w (matchRes P.data.toList dom path dir)) := by
  obtain ⟨i0, hi, hz0, hz1, hz2⟩ := info_parts infoText
  have HX := hid hx
  have HD := hid hd
  have HQ := hid hq
  have HPL := hid hpl
  have HPO := hid hpo
  have HQO := hid hqo
  have HGB := hid hgb
  have HDL := hid hd.len
  have hm1 : 0 + n ≤ maxLen := by simp only [maxLen]; omega
  have hm2 : (0 + n) * 16 ≤ 140737488355328 := by omega
  have hm3 : 0 + m ≤ maxLen := by simp only [maxLen]; omega
  have hm4 : (0 + m) * 16 ≤ 140737488355328 := by omega
  clear hx hd hq hpl hpo hqo hgb
  have z0 : w.drew.heap.size = w.heap.size := rfl
  have b0 : Below w.heap.size w w.drew := (Below.refl _ _).drew
  have BA : Hid (Below w.heap.size w (w.drew.alloc (.cells #[] 9))) := hid (b0.alloc (Nat.le_refl _) _)
  have BB : Hid (Below w.heap.size w ((w.drew.alloc (.cells #[] 9)).alloc (.cells #[] 9))) := hid (BA.out.alloc BA.out.size _)
  have EA : Hid (Empty (w.drew.alloc (.cells #[] 9)) w.heap.size) := hid (Empty.new w.drew)
  have EB1 : Hid (Empty ((w.drew.alloc (.cells #[] 9)).alloc (.cells #[] 9)) w.heap.size) := hid (EA.out.alloc _)
  have EB2 : Hid (Empty ((w.drew.alloc (.cells #[] 9)).alloc (.cells #[] 9)) (w.heap.size + 1)) := hid (by
    have := Empty.new (w.drew.alloc (.cells #[] 9))
    rwa [asize] at this)
  clear b0 z0
  have hna := fun g w => nil_ahead g w
  have hme := fun g w => the_method g w
  go_enter Try.func14, Try.ntmps14
  go_wp2_with fail
  go_region_held3 (fun _ => True) (trivial)
    (first
      | (refine step_append_any _ (by rfl) (.tmp 10) (.tmp 11) _ (by rfl) w.heap.size 9 i0 _ 1 16 Try.underlying22 hi hz0 hz1 hz2 rfl (by omega) (.slice (some ⟨w.heap.size, 0, none⟩) 0 0) 0 [] (by rfl) (EA.out.own (Nat.le_refl _)) w.heap.size A n c (strCells dom) (by rfl) (HD.out.below BA.out).1 (strCells_one _) hm1 hm2 BA.out.size ?_; intro v1 w1 hown1 hg1 hat1; rw [Nat.zero_add, List.nil_append] at hown1; obtain ⟨A1, c1, rfl, hc1, hS1⟩ := own_strs hown1; have HB1 := hid (BA.out.grown hg1 BA.out.size (fun g hg => ((EA.out.own (Nat.le_refl _)).lt g hg).1)); have HS1 := hid hS1; clear hown1 hg1 hat1 hS1)
      | (refine step_append_any _ (by rfl) (.tmp 10) (.tmp 11) _ (by rfl) w.heap.size 9 i0 _ 1 16 Try.underlying22 hi hz0 hz1 hz2 rfl (by omega) (.slice (some ⟨w.heap.size, 0, none⟩) 0 0) 0 [] (by rfl) (EB1.out.own (Nat.le_refl _)) w.heap.size A n c (strCells dom) (by rfl) (HD.out.below BB.out).1 (strCells_one _) hm1 hm2 BB.out.size ?_; intro v1 w1 hown1 hg1 hat1; rw [Nat.zero_add, List.nil_append] at hown1; obtain ⟨A1, c1, rfl, hc1, hS1⟩ := own_strs hown1; have HB1 := hid (BB.out.grown hg1 BB.out.size (fun g hg => ((EB1.out.own (Nat.le_refl _)).lt g hg).1)); have HS1 := hid hS1; have HE1 : Hid (Empty w1 (w.heap.size + 1) ∧ w.heap.size ≤ w.heap.size + 1) := hid ⟨EB2.out.grown hg1 (by simp [Value.ownBlock]), Nat.le_succ _⟩; clear hown1 hg1 hat1 hS1)
      | (refine step_append_any _ (by rfl) (.tmp 10) (.tmp 11) _ (by rfl) w.heap.size 9 i0 _ 1 16 Try.underlying22 hi hz0 hz1 hz2 rfl (by omega) (.slice (some ⟨w.heap.size + 1, 0, none⟩) 0 0) 0 [] (by rfl) (EB2.out.own (Nat.le_succ _)) w.heap.size A n c (strCells dom) (by rfl) (HD.out.below BB.out).1 (strCells_one _) hm1 hm2 BB.out.size ?_; intro v1 w1 hown1 hg1 hat1; rw [Nat.zero_add, List.nil_append] at hown1; obtain ⟨A1, c1, rfl, hc1, hS1⟩ := own_strs hown1; have HB1 := hid (BB.out.grown hg1 BB.out.size (fun g hg => ((EB2.out.own (Nat.le_succ _)).lt g hg).1)); have HS1 := hid hS1; have HE1 : Hid (Empty w1 w.heap.size ∧ w.heap.size ≤ w.heap.size) := hid ⟨EB1.out.grown hg1 (by simp [Value.ownBlock]), Nat.le_refl _⟩; clear hown1 hg1 hat1 hS1)
      | (go_at_call 17; refine (parse_calls P A1 n c1 dom w1 hs h0 HX.out HS1.out hn).mono ?_; rintro e w2 ⟨hb2, g, rfl, hr2⟩; have HB2 := hid (below_up HB1.out hb2 (Nat.le_refl _)); have HR2 := hid hr2; have HE2 := hid (And.intro (HE1.out.1.below hb2) HE1.out.2); clear hb2 hr2)
      | (go_at_call 17; refine (parse_calls P A1 n c1 dom w1 hs h0 HX.out HS1.out hn).mono ?_; rintro e w2 ⟨hb2, g, rfl, hr2⟩; have HB2 := hid (below_up HB1.out hb2 (Nat.le_refl _)); have HR2 := hid hr2; clear hb2 hr2)
      | (go_at_call 17; refine (parse_calls P A1 n c1 dom (w1.alloc (.cells #[] 9)) hs h0 HX.out ((HS1.out.alloc (Nat.le_refl _) _).more (by rw [asize]; omega)) hn).mono ?_; rintro e w2 ⟨hb2, g, rfl, hr2⟩; have HB2 := hid (below_up (HB1.out.alloc HB1.out.size _) hb2 (Nat.le_refl _)); have HR2 := hid hr2; have HE2 := hid (And.intro ((Empty.new w1).below hb2) HB1.out.size); clear hb2 hr2)
      | (refine step_append_any _ (by rfl) (.tmp 14) (.tmp 15) _ (by rfl) w.heap.size 9 i0 _ 1 16 Try.underlying22 hi hz0 hz1 hz2 rfl (by omega) _ 0 [] (by rfl) (HE2.out.1.own HE2.out.2) w.heap.size B m d (strCells path) (by rfl) (HQ.out.below HB2.out).1 (strCells_one _) hm3 hm4 (Below.size HB2.out) ?_; intro v3 w3 hown3 hg3 hat3; rw [Nat.zero_add, List.nil_append] at hown3; obtain ⟨A3, c3, rfl, hc3, hS3⟩ := own_strs hown3; have HB3 := hid (Below.grown HB2.out hg3 (Below.size HB2.out) (fun g hg => ((HE2.out.1.own HE2.out.2).lt g hg).1)); have HS3 := hid hS3; have HR3 := hid (Read.grownE HR2.out HE2.out.1 hg3); clear hown3 hg3 hat3 hS3)
      | (refine step_append_any _ (by rfl) (.tmp 14) (.tmp 15) _ (by rfl) w.heap.size 9 i0 _ 1 16 Try.underlying22 hi hz0 hz1 hz2 rfl (by omega) _ 0 [] (by rfl) ((Empty.new w2).own HB2.out.size) w.heap.size B m d (strCells path) (by rfl) (HQ.out.below (HB2.out.alloc HB2.out.size (.cells #[] 9))).1 (strCells_one _) hm3 hm4 (Below.size (HB2.out.alloc HB2.out.size (.cells #[] 9))) ?_; intro v3 w3 hown3 hg3 hat3; rw [Nat.zero_add, List.nil_append] at hown3; obtain ⟨A3, c3, rfl, hc3, hS3⟩ := own_strs hown3; have HB3 := hid (Below.grown (HB2.out.alloc HB2.out.size (.cells #[] 9)) hg3 (Below.size (HB2.out.alloc HB2.out.size (.cells #[] 9))) (fun g hg => (((Empty.new w2).own HB2.out.size).lt g hg).1)); have HS3 := hid hS3; have HR3 := hid (Read.grownE (HR2.out.alloc (.cells #[] 9)) (Empty.new w2) hg3); clear hown3 hg3 hat3 hS3)
      | (go_at_call 41; refine (Match_calls g w3.heap.size A3 m c3 P.data.toList dom path dir w3 HR3.out HS3.out hc3 hm HPL.out HPO.out HQO.out (by rw [HDL.out]; exact hn) HGB.out).mono ?_; rintro e w4 ⟨rfl, k4, rfl⟩))
  all_goals
    go_wp2_with fail
    go_ret
    exact ⟨rfl, below_drews HB3.out ⟨_, rfl⟩⟩
end Go.Proofs.Ytfanginpfppdeaa.glob
