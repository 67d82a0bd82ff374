/- laws.zzFits17, spec.AreFiles. -/
import Derived.Test.YtnidjkmfnojlaaaDoorIdxSpec
import Derived.Outline
import Derived.WalkLawsBesides
set_option linter.unusedVariables false
attribute [local go_sem ↓] Go.wp_at_zero Go.wp_at_succ
namespace Go.Proofs.YtnidjkmfnojlaaaDoor.idx
open Go.RowKit Lib frm mem opn hash strs

abbrev Fty : TypeId := 29
theorem blk_range {w : World} {g : Nat} {f : FileD} (h : Blk w g Fty f.cells.toArray) : w.rangeAt g 0 f.cells := fun i u hu => by rw [Nat.zero_add]; exact h.cell i (by simpa using hu)
theorem load_mid {w : World} {g o : Nat} {f : FileD} (h : ∀ i u, f.cells[i]? = some u → w.cell? ⟨g, o + i, none⟩ = some u) : (Instr.loadAt Fty (.pointer (some ⟨g, o, none⟩))).run Tryd.prog w = .ok (.agg f.cells.toArray) w :=
  run_loadAt_mid w g o Fty f.cells _ h Tryd.underlying29 rfl infoFile
theorem load_blk {w : World} {g : Nat} {f : FileD} (h : Blk w g Fty f.cells.toArray) : (Instr.loadAt Fty (.pointer (some ⟨g, 0, none⟩))).run Tryd.prog w = .ok (.agg f.cells.toArray) w :=
  load_mid fun i u hu => by rw [Nat.zero_add]; exact h.cell i (by simpa using hu)
theorem file_all (f : FileD) : f.cells.toArray.all (·.oneCell') = true := all_one (file_one f)
theorem file_sz (f : FileD) : (Tryd.prog.info? Fty).map (·.size) = some f.cells.toArray.size := by rw [infoFile]; rfl
/-- the files' cells in a world that keeps them -/
theorem Files.at_ {w : World} {B : Nat} {A : Option Addr} {n : Nat} {fs : List FileD} (h : Files w B A n fs) {k : Nat} (hk : k < n) :
    ∃ g o f, A = some ⟨g, o, none⟩ ∧ g < B ∧ fs[k]? = some f ∧ f ∈ fs ∧ ∀ i u, f.cells[i]? = some u → w.cell? ⟨g, o + k * 15 + i, none⟩ = some u := by
  obtain ⟨g, o, f, h1, h2, h3, h4, h5⟩ := Structs.at_ h (fun x _ => rfl) hk
  exact ⟨g, o, f, h1, h2, h3, h4, fun i u hu => by rw [Nat.add_assoc]; exact h5 i u hu⟩
theorem cells_kept {w w' : World} {g o : Nat} {f : FileD} (hk : Kept [] w w') (hg : g < w.heap.size) (h : ∀ i u, f.cells[i]? = some u → w.cell? ⟨g, o + i, none⟩ = some u) : ∀ i u, f.cells[i]? = some u → w'.cell? ⟨g, o + i, none⟩ = some u :=
  fun i u hu => (hk.cell (p := ⟨g, o + i, none⟩) hg (by simp)).trans (h i u hu)
set_option maxRecDepth 100000 in
set_option maxHeartbeats 4000000 in
theorem fits17_calls (A : Option Addr) (n c : Nat) (fs : List FileD) (w : World) (hF : Files w w.heap.size A n fs) (hn : n ≤ 140737488355328) :
    Calls Tryd.prog 5 #[.slice A n c] w (AnyB w) := by
  have hn' : (n : Int) ≤ 140737488355328 := by omega
  have HF := hid hF
  clear hF
  by_cases hbig : n ≤ 2147483647
  · have hb : (n : Int) ≤ 2147483647 := by omega
    go_enter Tryd.func5, Tryd.ntmps5
    go_wp2_with fail
    go_loopw [10] (fun iv wr => ∃ k : Nat, k ≤ n ∧ iv = .int .i64 k ∧ Hid (Kept [] w wr)) (fun iv _ => n - (RowKit.intOf iv).toNat)
    case atStart => exact ⟨0, by omega, rfl, hid (Kept.refl _ _)⟩
    case round =>
      obtain ⟨k, hk, rfl, hK⟩ := hrel
      by_cases hlt : k < n
      · obtain ⟨g, o, f, rfl, hg, hfk, hmem, hc⟩ := HF.out.at_ hlt
        have HR : Hid (wr.rangeAt g (o + k * 15) f.cells) := hid (cells_kept hK.out hg hc)
        have c1 := hid (fun w => fits18_calls f w)
        clear hc hfk hmem
        go_wp2_with (first
          | (refine wpList_load_mid rfl Fty (.tmp 12) rfl g (o + k * 15) rfl f.cells _ HR.out Tryd.underlying29 rfl infoFile ?_)
          | (refine wpList_store_kept rfl Fty (.tmp 4) (.tmp 13) rfl wr.heap.size f.cells.toArray rfl rfl Fty _ (Blk.new wr Fty _) (file_sz f) rfl (file_all f) ?_; intro w2 h1 h2 h3; have HR2 := hid (blk_range h1.out); have HK2 := hid ((hK.out.alloc _).trans h2.out (by simp; exact hK.out.size)); clear h1 h2 h3)
          | (refine wpList_load_mid rfl Fty (.tmp 4) rfl wr.heap.size 0 rfl f.cells _ HR2.out Tryd.underlying29 rfl infoFile ?_))
        refine (c1.out _).mono ?_
        rintro e w3 ⟨⟨b, rfl⟩, hk3⟩
        have HK3 := hid (HK2.out.trans_ hk3)
        clear hk3 c1
        cases b with
        | false =>
          go_wp2_with fail
          go_ret
          exact ⟨⟨_, rfl⟩, HK3.out⟩
        | true =>
          go_wp2_with fail
          go_roundw
          case rel => exact ⟨k + 1, by omega, by go_num, HK3⟩
          case measure => simp [RowKit.intOf]; omega
      · go_wp2_with fail
        go_ret
        exact ⟨⟨_, rfl⟩, hK.out⟩
  · have hb : (2147483647 : Int) < (n : Int) := by omega
    go_enter Tryd.func5, Tryd.ntmps5
    go_wp2_with fail
    go_ret
    exact ⟨⟨_, rfl⟩, Kept.refl _ _⟩
theorem blk15 {w : World} {g : Nat} {f : FileD} (h : Blk w g Fty f.cells.toArray) : w.cell? ⟨g, 0, none⟩ = some (.int .i64 f.s1) ∧ w.cell? ⟨g, 1, none⟩ = some (.int .i64 f.n1) ∧ w.cell? ⟨g, 2, none⟩ = some (.int .i64 f.s2) ∧ w.cell? ⟨g, 3, none⟩ = some (.int .i64 f.n2) ∧ w.cell? ⟨g, 4, none⟩ = some (.int .u32 f.dev) ∧ w.cell? ⟨g, 5, none⟩ = some (.int .u32 f.ino) ∧ w.cell? ⟨g, 6, none⟩ = some (.int .u32 f.mode) ∧ w.cell? ⟨g, 7, none⟩ = some (.int .u32 f.uid) ∧ w.cell? ⟨g, 8, none⟩ = some (.int .u32 f.gid) ∧ w.cell? ⟨g, 9, none⟩ = some (.int .u32 f.sz) ∧ w.cell? ⟨g, 10, none⟩ = some (.string f.hash) ∧ w.cell? ⟨g, 11, none⟩ = some (.string f.name) ∧ w.cell? ⟨g, 12, none⟩ = some (.int .i64 f.stage) ∧ w.cell? ⟨g, 13, none⟩ = some (.bool f.skip) ∧ w.cell? ⟨g, 14, none⟩ = some (.bool f.intent) :=
  ⟨h.cell 0 rfl, h.cell 1 rfl, h.cell 2 rfl, h.cell 3 rfl, h.cell 4 rfl, h.cell 5 rfl, h.cell 6 rfl, h.cell 7 rfl, h.cell 8 rfl, h.cell 9 rfl, h.cell 10 rfl, h.cell 11 rfl, h.cell 12 rfl, h.cell 13 rfl, h.cell 14 rfl⟩
/-- the answer, and what it tells -/
def Told (w : World) (F : Bool → Prop) (e : Ending) (w' : World) : Prop := Kept [] w w' ∧ ∃ b, e = .returned (.bool b) ∧ F b
def Good (fs : List FileD) (b : Bool) : Prop := b = true → fs.length ≤ 1000 ∧ ∀ f ∈ fs, plainB f = true
set_option maxRecDepth 100000 in
set_option maxHeartbeats 8000000 in
theorem are_calls (A : Option Addr) (n c : Nat) (fs : List FileD) (w : World) (hF : Files w w.heap.size A n fs) (hok : ∀ f ∈ fs, f.Ok) (hn : n ≤ 140737488355328) :
    Calls Tryd.prog 6 #[.slice A n c] w (Told w (Good fs)) := by
  have hn' : (n : Int) ≤ 140737488355328 := by omega
  have HF := hid hF
  have HOk := hid hok
  clear hF hok
  by_cases hbig : n ≤ 1000
  · have hb : (n : Int) ≤ 1000 := by omega
    go_enter Tryd.func6, Tryd.ntmps6
    go_wp2_with fail
    go_loopw [10] (fun iv wr => ∃ k : Nat, k ≤ n ∧ iv = .int .i64 k ∧ Hid (Kept [] w wr) ∧ Hid (∀ i f, i < k → fs[i]? = some f → plainB f = true)) (fun iv _ => n - (RowKit.intOf iv).toNat)
    case atStart => exact ⟨0, by omega, rfl, hid (Kept.refl _ _), hid (fun i f h => absurd h (by omega))⟩
    case round =>
      obtain ⟨k, hk, rfl, hK, hP⟩ := hrel
      by_cases hlt : k < n
      · obtain ⟨g, o, f, rfl, hg, hfk, hmem, hc⟩ := HF.out.at_ hlt
        have HR : Hid (wr.rangeAt g (o + k * 15) f.cells) := hid (cells_kept hK.out hg hc)
        have hof := HOk.out f hmem
        have c1 := hid (fun w => isPlain_calls f w hof.name hof.hash)
        have HFk := hid hfk
        clear hc hfk hmem hof
        go_wp2_with (first
          | (refine wpList_load_mid rfl Fty (.tmp 13) rfl g (o + k * 15) rfl f.cells _ HR.out Tryd.underlying29 rfl infoFile ?_)
          | (refine wpList_store_kept rfl Fty (.tmp 4) (.tmp 14) rfl wr.heap.size f.cells.toArray rfl rfl Fty _ (Blk.new wr Fty _) (file_sz f) rfl (file_all f) ?_; intro w2 h1 h2 h3; have HB2 := hid h1.out; have HK2 := hid ((hK.out.alloc _).trans h2.out (by simp; exact hK.out.size)); clear h1 h2 h3))
        cases hpl : plainB f with
        | false =>
          have HP1 : Hid (∀ w, Calls Tryd.prog 16 #[.agg f.cells.toArray] w (AnsK w false)) := hid (fun w => by have := c1.out w; rwa [hpl] at this)
          have HPl : Hid (plainB f = false) := hid hpl
          clear hpl c1
          obtain ⟨C, hC0, hCf, hCk, hCo⟩ : ∃ C : World → Prop, C w2.drew ∧ (∀ w', C w' → w'.cell? ⟨wr.heap.size, 0, none⟩ = some (.int .i64 f.s1) ∧ w'.cell? ⟨wr.heap.size, 1, none⟩ = some (.int .i64 f.n1) ∧ w'.cell? ⟨wr.heap.size, 2, none⟩ = some (.int .i64 f.s2) ∧ w'.cell? ⟨wr.heap.size, 3, none⟩ = some (.int .i64 f.n2) ∧ w'.cell? ⟨wr.heap.size, 4, none⟩ = some (.int .u32 f.dev) ∧ w'.cell? ⟨wr.heap.size, 5, none⟩ = some (.int .u32 f.ino) ∧ w'.cell? ⟨wr.heap.size, 6, none⟩ = some (.int .u32 f.mode) ∧ w'.cell? ⟨wr.heap.size, 7, none⟩ = some (.int .u32 f.uid) ∧ w'.cell? ⟨wr.heap.size, 8, none⟩ = some (.int .u32 f.gid) ∧ w'.cell? ⟨wr.heap.size, 9, none⟩ = some (.int .u32 f.sz) ∧ w'.cell? ⟨wr.heap.size, 10, none⟩ = some (.string f.hash) ∧ w'.cell? ⟨wr.heap.size, 11, none⟩ = some (.string f.name) ∧ w'.cell? ⟨wr.heap.size, 12, none⟩ = some (.int .i64 f.stage) ∧ w'.cell? ⟨wr.heap.size, 13, none⟩ = some (.bool f.skip) ∧ w'.cell? ⟨wr.heap.size, 14, none⟩ = some (.bool f.intent)) ∧ (∀ w' w'', C w' → Kept [] w' w'' → C w'') ∧ (∀ w', C w' → Kept [] w2 w') :=
            ⟨fun w' => Kept [] w2 w', (Kept.refl _ w2).drew, fun w' h => blk15 (HB2.out.kept h (by simp)), fun _ _ h h' => h.trans_ h', fun _ h => h⟩
          dsimp only [Act.put]
          refine wp_region_quiet (C := C) (by kernel_rfl) (by kernel_rfl) hC0 ?_
          show wpQuiet _ _ _ _ [_, _, _, _, _, _, _, _, _, _, _, _, _, _, _, _, _, _] _
          repeat
            first
            | go_big_quiet_skip
            | (go_big_quiet_want
               go_big_quiet_op
               first
               | go_big_quiet_on
               | (apply Exists.intro
                  refine ⟨fun wq hq => ?_, ?_⟩
                  (first
                      | (go_at_call 16; refine (HP1.out wq).mono ?_; rintro e w3 ⟨rfl, hk3⟩; exact ⟨rfl, hCk _ _ hq hk3⟩)
                      | (with_reducible rfl)
                      | (obtain ⟨c0, c1, c2, c3, c4, c5, c6, c7, c8, c9, c10, c11, c12, c13, c14⟩ := hCf wq hq; go_simp; (with_reducible first | rfl | exact hq | exact ⟨rfl, hq⟩)))
                  go_big_quiet_on))
          refine wpQuiet_nil ?_
          intro wz hz
          have HKz : Hid (Kept [] w wz) := hid (HK2.out.trans_ (hCo _ hz))
          clear hC0 hCf hCk hCo hz
          go_wp2_with fail
          go_ret
          exact ⟨HKz.out, false, rfl, nofun⟩
        | true =>
          have HP1 : Hid (∀ w, Calls Tryd.prog 16 #[.agg f.cells.toArray] w (AnsK w true)) := hid (fun w => by have := c1.out w; rwa [hpl] at this)
          have HPl : Hid (plainB f = true) := hid hpl
          clear hpl c1
          by_cases hk0 : k = 0
          · have hd : ¬ ((0 : Int) < (k : Int)) := by omega
            obtain ⟨C, hC0, hCf, hCk, hCo⟩ : ∃ C : World → Prop, C w2.drew ∧ (∀ w', C w' → w'.cell? ⟨wr.heap.size, 0, none⟩ = some (.int .i64 f.s1) ∧ w'.cell? ⟨wr.heap.size, 1, none⟩ = some (.int .i64 f.n1) ∧ w'.cell? ⟨wr.heap.size, 2, none⟩ = some (.int .i64 f.s2) ∧ w'.cell? ⟨wr.heap.size, 3, none⟩ = some (.int .i64 f.n2) ∧ w'.cell? ⟨wr.heap.size, 4, none⟩ = some (.int .u32 f.dev) ∧ w'.cell? ⟨wr.heap.size, 5, none⟩ = some (.int .u32 f.ino) ∧ w'.cell? ⟨wr.heap.size, 6, none⟩ = some (.int .u32 f.mode) ∧ w'.cell? ⟨wr.heap.size, 7, none⟩ = some (.int .u32 f.uid) ∧ w'.cell? ⟨wr.heap.size, 8, none⟩ = some (.int .u32 f.gid) ∧ w'.cell? ⟨wr.heap.size, 9, none⟩ = some (.int .u32 f.sz) ∧ w'.cell? ⟨wr.heap.size, 10, none⟩ = some (.string f.hash) ∧ w'.cell? ⟨wr.heap.size, 11, none⟩ = some (.string f.name) ∧ w'.cell? ⟨wr.heap.size, 12, none⟩ = some (.int .i64 f.stage) ∧ w'.cell? ⟨wr.heap.size, 13, none⟩ = some (.bool f.skip) ∧ w'.cell? ⟨wr.heap.size, 14, none⟩ = some (.bool f.intent)) ∧ (∀ w' w'', C w' → Kept [] w' w'' → C w'') ∧ (∀ w', C w' → Kept [] w2 w') :=
              ⟨fun w' => Kept [] w2 w', (Kept.refl _ w2).drew, fun w' h => blk15 (HB2.out.kept h (by simp)), fun _ _ h h' => h.trans_ h', fun _ h => h⟩
            dsimp only [Act.put]
            refine wp_region_quiet (C := C) (by kernel_rfl) (by kernel_rfl) hC0 ?_
            show wpQuiet _ _ _ _ [_, _, _, _, _, _, _, _, _, _, _, _, _, _, _, _, _, _] _
            repeat
              first
              | go_big_quiet_skip
              | (go_big_quiet_want
                 go_big_quiet_op
                 first
                 | go_big_quiet_on
                 | (apply Exists.intro
                    refine ⟨fun wq hq => ?_, ?_⟩
                    (first
                        | (go_at_call 16; refine (HP1.out wq).mono ?_; rintro e w3 ⟨rfl, hk3⟩; exact ⟨rfl, hCk _ _ hq hk3⟩)
                        | (with_reducible rfl)
                        | (obtain ⟨c0, c1, c2, c3, c4, c5, c6, c7, c8, c9, c10, c11, c12, c13, c14⟩ := hCf wq hq; go_simp; (with_reducible first | rfl | exact hq | exact ⟨rfl, hq⟩)))
                    go_big_quiet_on))
            refine wpQuiet_nil ?_
            intro wz hz
            have HKz : Hid (Kept [] w wz) := hid (HK2.out.trans_ (hCo _ hz))
            clear hC0 hCf hCk hCo hz
            go_wp2_with fail
            go_roundw
            case rel => exact ⟨k + 1, by omega, by go_num, HKz, hid (fun i x hi hx => by rcases Nat.lt_succ_iff_lt_or_eq.mp hi with h | rfl; exact hP.out i x h hx; rw [HFk.out] at hx; cases hx; exact HPl.out)⟩
            case measure => simp [RowKit.intOf]; omega
          · obtain ⟨j, hj⟩ : ∃ j : Nat, k = j + 1 := ⟨k - 1, by omega⟩
            have hd : (0 : Int) < (k : Int) := by omega
            have hwj : IntKind.i64.wrap ((k : Int) - 1) = (j : Int) := by rw [IntWalk.i64_in _ (by omega)]; omega
            have hj0 : (0 : Int) ≤ (j : Int) := by omega
            have hjn : (j : Int) < (n : Int) := by omega
            obtain ⟨g', o', f', hA', hg', hf', -, hc'⟩ := HF.out.at_ (k := j) (by omega)
            cases hA'
            have HN := hid ((HK2.out.cell (p := ⟨g, o + j * 15 + 11, none⟩) hg' (by simp)).trans (hc' 11 _ rfl))
            have Hg2 : Hid (g < w2.heap.size) := hid (Nat.lt_of_lt_of_le hg' HK2.out.size)
            clear hc' hf' hg'
            obtain ⟨C, hC0, hCf, hCk, hCo⟩ : ∃ C : World → Prop, C w2.drew ∧ (∀ w', C w' → w'.cell? ⟨wr.heap.size, 0, none⟩ = some (.int .i64 f.s1) ∧ w'.cell? ⟨wr.heap.size, 1, none⟩ = some (.int .i64 f.n1) ∧ w'.cell? ⟨wr.heap.size, 2, none⟩ = some (.int .i64 f.s2) ∧ w'.cell? ⟨wr.heap.size, 3, none⟩ = some (.int .i64 f.n2) ∧ w'.cell? ⟨wr.heap.size, 4, none⟩ = some (.int .u32 f.dev) ∧ w'.cell? ⟨wr.heap.size, 5, none⟩ = some (.int .u32 f.ino) ∧ w'.cell? ⟨wr.heap.size, 6, none⟩ = some (.int .u32 f.mode) ∧ w'.cell? ⟨wr.heap.size, 7, none⟩ = some (.int .u32 f.uid) ∧ w'.cell? ⟨wr.heap.size, 8, none⟩ = some (.int .u32 f.gid) ∧ w'.cell? ⟨wr.heap.size, 9, none⟩ = some (.int .u32 f.sz) ∧ w'.cell? ⟨wr.heap.size, 10, none⟩ = some (.string f.hash) ∧ w'.cell? ⟨wr.heap.size, 11, none⟩ = some (.string f.name) ∧ w'.cell? ⟨wr.heap.size, 12, none⟩ = some (.int .i64 f.stage) ∧ w'.cell? ⟨wr.heap.size, 13, none⟩ = some (.bool f.skip) ∧ w'.cell? ⟨wr.heap.size, 14, none⟩ = some (.bool f.intent) ∧ w'.cell? ⟨g, o + j * 15 + 11, none⟩ = some (.string f'.name)) ∧ (∀ w' w'', C w' → Kept [] w' w'' → C w'') ∧ (∀ w', C w' → Kept [] w2 w') :=
              ⟨fun w' => Kept [] w2 w', (Kept.refl _ w2).drew, fun w' h => (by obtain ⟨c0, c1, c2, c3, c4, c5, c6, c7, c8, c9, c10, c11, c12, c13, c14⟩ := blk15 (HB2.out.kept h (by simp)); exact ⟨c0, c1, c2, c3, c4, c5, c6, c7, c8, c9, c10, c11, c12, c13, c14, (h.cell (p := ⟨g, o + j * 15 + 11, none⟩) Hg2.out (by simp)).trans HN.out⟩), fun _ _ h h' => h.trans_ h', fun _ h => h⟩
            dsimp only [Act.put]
            refine wp_region_quiet (C := C) (by kernel_rfl) (by kernel_rfl) hC0 ?_
            show wpQuiet _ _ _ _ [_, _, _, _, _, _, _, _, _, _, _, _, _, _, _, _, _, _] _
            repeat
              first
              | go_big_quiet_skip
              | (go_big_quiet_want
                 go_big_quiet_op
                 first
                 | go_big_quiet_on
                 | (apply Exists.intro
                    refine ⟨fun wq hq => ?_, ?_⟩
                    (first
                        | (go_at_call 16; refine (HP1.out wq).mono ?_; rintro e w3 ⟨rfl, hk3⟩; exact ⟨rfl, hCk _ _ hq hk3⟩)
                        | (with_reducible rfl)
                        | (obtain ⟨c0, c1, c2, c3, c4, c5, c6, c7, c8, c9, c10, c11, c12, c13, c14, c15⟩ := hCf wq hq; go_simp; (with_reducible first | rfl | exact hq | exact ⟨rfl, hq⟩)))
                    go_big_quiet_on))
            refine wpQuiet_nil ?_
            intro wz hz
            have HKz : Hid (Kept [] w wz) := hid (HK2.out.trans_ (hCo _ hz))
            clear hC0 hCf hCk hCo hz
            go_wp2_with fail
            · go_ret
              exact ⟨HKz.out, false, rfl, nofun⟩
            · go_roundw
              case rel => exact ⟨k + 1, by omega, by simp [hj], HKz, hid (fun i x hi hx => by rcases Nat.lt_succ_iff_lt_or_eq.mp hi with h | rfl; exact hP.out i x h hx; rw [HFk.out] at hx; cases hx; exact HPl.out)⟩
              case measure => simp [RowKit.intOf]; omega
      · go_wp2_with fail
        go_ret
        exact ⟨hK.out, true, rfl, fun _ => ⟨by have := HF.out.2.1; omega, fun f hf => by
          obtain ⟨i, hi, rfl⟩ := List.getElem_of_mem hf
          exact hP.out i _ (by have := HF.out.2.1; omega) (List.getElem?_eq_getElem hi)⟩⟩
  · have hb : (1000 : Int) < (n : Int) := by omega
    go_enter Tryd.func6, Tryd.ntmps6
    go_wp2_with fail
    go_ret
    exact ⟨Kept.refl _ _, false, rfl, nofun⟩
end Go.Proofs.YtnidjkmfnojlaaaDoor.idx
