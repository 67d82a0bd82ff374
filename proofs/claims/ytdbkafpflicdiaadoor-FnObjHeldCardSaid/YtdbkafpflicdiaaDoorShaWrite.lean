/- zzSha1.Write, Reset, New. -/
import Derived.Test.YtdbkafpflicdiaaDoorShaStep
import Derived.Test.YtdbkafpflicdiaaDoorRowAt
import Derived.Deep.LoopGhost
set_option linter.unusedVariables false
namespace Go.Proofs.YtdbkafpflicdiaaDoor.sha
open Go.RowKit Lib mem frm row

abbrev U8 : TypeId := 5
/-- a hash that has taken in data; v: what is not yet a whole block -/
structure Sha (w : World) (B sb : Nat) (v : Value) (data : List UInt8) : Prop where
  s : Blk w sb ShaT (seven (blocks data init).1 v data.length)
  r : RowAt w B U8 v (byteCells (blocks data init).2)
theorem bytes_of_row {w : World} {B : Nat} {A : Option Addr} {m c : Nat} {l : List UInt8} (h : RowAt w B U8 (.slice A m c) (byteCells l)) (hm : l.length = m) : Bytes w w.heap.size A m l := by
  have hl : (byteCells l).length = m := by simp [byteCells, hm]
  have := h.cells A c (by rw [hl])
  rw [hl] at this
  exact ⟨this.1, this.2⟩
theorem Sha.kept {w w' : World} {B sb : Nat} {v : Value} {data : List UInt8} {K : List Nat} (h : Sha w B sb v data) (hk : Kept K w w') (hs : sb ∉ K) (hv : ∀ x, v.ownBlock = some x → x ∉ K) : Sha w' B sb v data := ⟨h.s.kept hk hs, h.r.kept hk hv⟩
/-- the blocks that a hash may write -/
def foot (sb : Nat) (v : Value) : List Nat := sb :: v.ownBlock.toList
def Wrote (w : World) (B sb : Nat) (v : Value) (n : Nat) (data : List UInt8) (e : Ending) (w' : World) : Prop :=
  e = .returned (.tuple #[.int .i64 n, .nilIface]) ∧ Kept (foot sb v) w w' ∧ ∃ v', Sha w' B sb v' data ∧ ∀ g, v'.ownBlock = some g → v.ownBlock = some g ∨ w.heap.size ≤ g
/-- what the loop's rounds hold -/
structure Wr (w wr : World) (B sb : Nat) (v : Value) (N : Nat) (l : List UInt8) (s : Five) (v' : Value) : Prop where
  k : Kept (foot sb v) w wr
  s : Blk wr sb ShaT (seven s v' N)
  r : RowAt wr B U8 v' (byteCells l)
  o : ∀ g, v'.ownBlock = some g → v.ownBlock = some g ∨ w.heap.size ≤ g
theorem shapeB {w : World} {B : Nat} {e : TypeId} {v : Value} {l : List UInt8} (h : RowAt w B e v (byteCells l)) : ∃ A c, v = .slice A l.length c ∧ l.length ≤ c := by
  obtain ⟨A, c, h1, h2⟩ := h.shape
  rw [show (byteCells l).length = l.length by simp [byteCells]] at h1 h2
  exact ⟨A, c, h1, h2⟩
theorem joinB {w : World} {B : Nat} {e : TypeId} {v : Value} {l m : List UInt8} (h : RowAt w B e v (byteCells l ++ byteCells m)) : RowAt w B e v (byteCells (l ++ m)) := by
  rwa [show byteCells l ++ byteCells m = byteCells (l ++ m) by simp [byteCells]] at h
set_option maxRecDepth 100000 in
/-- 's[k:]' of a row of the call's own -/
theorem row_from (kk : IntKind) (A : Option Addr) (q c k : Nat) (hk : k ≤ q) : ∃ A', (∀ w B l, RowAt w B U8 (.slice A q c) (byteCells l) → RowAt w B U8 (.slice A' (q - k) (c - k)) (byteCells (l.drop k))) ∧
    (∀ g, (Value.slice A' (q - k) (c - k)).ownBlock = some g → (Value.slice A q c).ownBlock = some g) ∧
    (∀ w, (Instr.sliceAt 26 (.slice A q c) (some (.int kk k)) none none).run Tryd.prog w = .ok (.slice A' (q - k) (c - k)) w) := by
  refine ⟨if c = k then A else A.map (·.add k), fun w B l h => ?_, fun g hg => ?_, fun w => ?_⟩
  · have h1 := h.cut hk
    rw [show (byteCells l).drop k = byteCells (l.drop k) by simp [byteCells]] at h1
    exact h1
  · cases A with
    | none => simp [Value.ownBlock] at hg
    | some a =>
      by_cases hc : c = k
      · rw [if_pos hc] at hg; exact hg
      · rw [if_neg hc] at hg
        simpa [Value.ownBlock, block_of_add] using hg
  · rw [run_sliceAt_slice (h := Tryd.underlying26), run_slice_l (ht := Tryd.underlying26) (h0 := by omega) (h1 := by omega), sizeByte]
    simp [Result.andThen, sliced]
theorem bytes_set {w : World} {B n : Nat} {A : Option Addr} {l : List UInt8} {a : Addr} {d : Int} {x : Value} (h : Bytes w B A n l) (ha : w.cell? a = some (.int .u64 d)) : Bytes (w.setCell a x) B A n l :=
  ⟨⟨h.1.1, fun hn => by
    obtain ⟨ad, e, hb, hc⟩ := h.1.2 hn
    refine ⟨ad, e, hb, fun j y hy => ?_⟩
    have h1 := hc j y hy
    rw [World.cell?_setCell_other w a (ad.add j) x (fun e => by
      rw [← e, ha] at h1
      injection h1 with h1
      subst h1
      simp only [byteCells, List.getElem?_map] at hy
      cases hq : l[j]? with
      | none => rw [hq] at hy; cases hy
      | some b => rw [hq] at hy; simp at hy)]
    exact h1⟩, h.2⟩
theorem row_far {w : World} {B sb : Nat} {v : Value} {xs : List Value} {cs : Array Value} (h : RowAt w B U8 v xs) (hs : Blk w sb ShaT cs) : ∀ x, v.ownBlock = some x → x ≠ sb := fun x hx => by
  obtain ⟨cs', hc⟩ := h.typed hx
  rintro rfl
  exact hs.ne_ hc (by decide) rfl
theorem sh_ne_u8 : ShaT ≠ U8 := by decide
set_option maxRecDepth 100000 in
set_option maxHeartbeats 8000000 in
theorem write_calls (B sb : Nat) (v : Value) (data p : List UInt8) (A : Option Addr) (n c B' : Nat) (w : World) (h : Sha w B sb v data) (hp : Bytes w B' A n p) (hB : B ≤ w.heap.size) (hlim : data.length + n ≤ 1073741824) :
    Calls Tryd.prog 65 #[.pointer (some ⟨sb, 0, none⟩), .slice A n c] w (Wrote w B sb v n (data ++ p)) := by
  obtain ⟨i0, hi, hz0, hz1, hz2⟩ := info_parts infoU8
  obtain ⟨st, hst⟩ : ∃ st, st = (blocks data init).1 := ⟨_, rfl⟩
  obtain ⟨l0, hl0⟩ : ∃ l0, l0 = (blocks data init).2 := ⟨_, rfl⟩
  have hl064 : l0.length < 64 := by rw [hl0]; exact blocks_rest data init
  have hfin : blocks (data ++ p) init = blocks (l0 ++ p) st := by rw [blocks_append, hst, hl0]
  have hpl := hp.len
  obtain ⟨d, hd⟩ : ∃ d, d = data.length := ⟨_, rfl⟩
  have hS0 := h.s
  have hR0 := h.r
  rw [← hst, ← hd] at hS0
  rw [← hl0] at hR0
  have HS := hid hS0
  have HR := hid hR0
  have HP := hid hp
  have HF := hid (And.intro hfin (And.intro hpl (And.intro hd hB)))
  have hlim' : (d : Int) + n ≤ 1073741824 := by omega
  have c6 : w.cell? ⟨sb, 6, none⟩ = some (.int .u64 d) := hS0.cell 6 rfl
  have f6 := hS0.frozen 6
  have c5 : w.cell? ⟨sb, 5, none⟩ = some v := hS0.cell 5 rfl
  have hl9 : l0.length + n ≤ 1073741900 := by omega
  obtain ⟨wA, hwA⟩ : ∃ wA, wA = w.setCell ⟨sb, 6, none⟩ (.int .u64 ((d : Int) + n)) := ⟨_, rfl⟩
  have hkA : Kept [sb] w wA := by rw [hwA]; exact (Kept.refl [sb] w).setCell (.inl (by simp)) _
  have HSA : Hid (Blk wA sb ShaT #[.int .u32 st.a, .int .u32 st.b, .int .u32 st.c, .int .u32 st.d, .int .u32 st.e, v, .int .u64 ((d : Int) + n)]) := hid (by rw [hwA]; simpa [seven] using hS0.set_ 6 (.int .u64 ((d : Int) + n)))
  have HRA : Hid (RowAt wA B U8 v (byteCells l0)) := hid (hR0.kept hkA (fun x hx => by simpa using row_far hR0 hS0 x hx))
  have HPA : Hid (Bytes wA B' A n p) := hid (by rw [hwA]; exact bytes_set hp c6)
  have HKA := hid hkA
  have HWA := hid hwA
  have hB2 : B ≤ wA.heap.size := Nat.le_trans hB hkA.size
  have HBB := hid hB2
  have HLB : Hid ((byteCells l0).length + n ≤ 1073741900) := hid (by simpa [byteCells] using hl9)
  clear h hp hB hB2 hlim hst hl0 hfin hpl hd hS0 hR0 hl064 hl9 hkA hwA
  go_enter Tryd.func65, Tryd.ntmps65
  go_wp2_with (first
    | (at_builtin; rw [← HWA.out]; refine wpList_append_at _ rfl (.tmp 20) _ 26 rfl B U8 i0 (.int .u8 0) 1 Tryd.underlying26 hi hz0 hz1 hz2 rfl v (byteCells l0) rfl HRA.out B' A n c (byteCells p) rfl HPA.out.1 (cells_one _) (by have := HLB.out; unfold maxLen; omega) (by have := HLB.out; omega) HBB.out ?_; intro v2 w2 h1 h2 h3; have HR2 := hid (joinB h1); have HG2 := hid h2; have HV2 := hid h3; clear h1 h2 h3; obtain ⟨A2, c2, rfl, hmc2⟩ := shapeB HR2.out; have hk2 := Kept.of_grown_own (S := v.ownBlock.toList) HG2.out (fun g hg => .inl (by simp [hg])); have hS2 := HSA.out.kept hk2 (fun hx => row_far HRA.out HSA.out sb (by simpa using hx) rfl); have d5 : w2.cell? ⟨sb, 5, none⟩ = some v := hS2.cell 5 rfl; have g5 : w2.frozen? ⟨sb, 5, none⟩ = false := hS2.frozen 5; have HK2 := hid hk2; have HS2 := hid hS2; clear hk2 hS2)
    | fail)
  have HW0 : Hid (Wr w (w2.setCell ⟨sb, 5, none⟩ (.slice A2 (l0 ++ p).length c2)) B sb v (d + n) (l0 ++ p) st (.slice A2 (l0 ++ p).length c2)) := hid (by
    have hs := HS2.out.set_ 5 (.slice A2 (l0 ++ p).length c2)
    refine ⟨?_, ?_, ?_, ?_⟩
    · refine Kept.setCell ?_ (.inl (by simp [foot])) _
      exact (HKA.out.more (by simp [foot])).trans (HK2.out) (fun x hx => .inl (by simp only [foot, List.mem_cons]; exact .inr hx))
    · simpa [seven] using hs
    · have h0 := HR2.out
      refine h0.kept ((Kept.refl [sb] w2).setCell (.inl (by simp)) _) (fun x hx => ?_)
      simpa using row_far h0 HS2.out x hx
    · intro g hg
      rcases HV2.out with h9 | h9
      · exact .inl (h9 ▸ hg)
      · rw [h9] at hg; injection hg with hg; exact .inr (by rw [← hg]; exact HKA.out.size))
  obtain ⟨M, hM⟩ : ∃ M, (l0 ++ p).length = M := ⟨_, rfl⟩
  rw [hM] at HW0
  rw [show l0.length + p.length = M by rw [← hM, List.length_append]]
  generalize w2.setCell ⟨sb, 5, none⟩ (.slice A2 M c2) = w3 at *
  have HM := hid hM
  clear hM
  clear c6 f6 c5 d5 g5 HSA HRA HPA HKA HWA HBB HLB HR2 HG2 HV2 HK2 HS2 hmc2
  go_loopg [] M (fun G wr => ∃ (l : List UInt8) (s : Five) (A3 : Option Addr) (c3 : Nat), Hid (l.length ≤ G) ∧ Hid (blocks (l0 ++ p) st = blocks l s) ∧ Hid (Wr w wr B sb v (d + n) l s (.slice A3 l.length c3)))
  case atStart => exact ⟨l0 ++ p, st, A2, c2, hid (Nat.le_of_eq HM.out), hid rfl, by rw [HM.out]; exact HW0⟩
  case round =>
    obtain ⟨l, s, A3, c3, hG, hE, hI⟩ := hrel
    have q5 : wr.cell? ⟨sb, 5, none⟩ = some (.slice A3 l.length c3) := hI.out.s.cell 5 rfl
    by_cases hlt : 64 ≤ l.length
    · have hlt' : (64 : Int) ≤ l.length := by omega
      have hR := hI.out.r
      obtain ⟨A9, c9, h9, hc9⟩ := shapeB hR
      cases h9
      obtain ⟨g, o, rfl⟩ := (bytes_of_row hR rfl).2 (by omega)
      have hsl : ∀ w, (Instr.sliceAt 26 (.slice (some ⟨g, o, none⟩) l.length c3) none (some (.int .i64 64)) none).run Tryd.prog w = .ok (.slice (some ⟨g, o, none⟩) 64 c3) w := fun w => slice_to .i64 _ l.length c3 64 (by omega) w
      obtain ⟨A4, hr4, ho4, hf4⟩ := row_from .i64 (some ⟨g, o, none⟩) l.length c3 64 hlt
      have hf4' : ∀ w, (Instr.sliceAt 26 (.slice (some ⟨g, o, none⟩) l.length c3) (some (.int .i64 64)) none none).run Tryd.prog w = .ok (.slice A4 (l.length - 64) (c3 - 64)) w := hf4
      have HC := hid (step_calls sb g o c3 wr.heap.size s (.slice (some ⟨g, o, none⟩) l.length c3) (d + n) (l.take 64) wr hI.out.s ((bytes_of_row hR rfl).front hlt) (Nat.le_refl _))
      have HR4 := hid (And.intro hr4 ho4)
      have HLT := hid hlt
      clear hR hc9 hr4 ho4 hf4 hlt
      go_wp2_with (first
        | (refine HC.out.mono ?_; rintro e w5 ⟨rfl, hk5, hs5⟩; have q9 : w5.cell? ⟨sb, 5, none⟩ = some (.slice (some ⟨g, o, none⟩) l.length c3) := hs5.cell 5 rfl; have f9 := hs5.frozen 5; have HK5 := hid hk5; have HS5 := hid hs5; clear hk5 hs5)
        | fail)
      have HW9 : Hid (Wr w (w5.setCell ⟨sb, 5, none⟩ (.slice A4 (l.length - 64) (c3 - 64))) B sb v (d + n) (l.drop 64) (compress (l.take 64) s) (.slice A4 (l.length - 64) (c3 - 64))) := hid (by
        have hI0 := hI.out
        have hs := HS5.out.set_ 5 (.slice A4 (l.length - 64) (c3 - 64))
        have hk9 : Kept [sb] wr (w5.setCell ⟨sb, 5, none⟩ (.slice A4 (l.length - 64) (c3 - 64))) := HK5.out.setCell (.inl (by simp)) _
        refine ⟨hI0.k.trans hk9 (fun x hx => .inl (by simp at hx; simp [foot, hx])), by simpa [seven] using hs, HR4.out.1 _ _ _ (hI0.r.kept hk9 (fun x hx => by simpa using row_far hI0.r hI0.s x hx)), fun g' hg => hI0.o g' (HR4.out.2 g' hg)⟩)
      have HE9 : Hid (blocks (l0 ++ p) st = blocks (l.drop 64) (compress (l.take 64) s)) := hid (by rw [hE.out, blocks_long _ HLT.out])
      have HL9 : Hid (l.length - 64 = (l.drop 64).length) := hid (by simp)
      generalize w5.setCell ⟨sb, 5, none⟩ (.slice A4 (l.length - 64) (c3 - 64)) = w9 at *
      go_roundg (l.length - 64)
      case measure => have := HLT.out; have := hG.out; omega
      case rel => exact ⟨l.drop 64, compress (l.take 64) s, A4, c3 - 64, hid (by rw [← HL9.out]; exact Nat.le_refl _), HE9, by rw [← HL9.out]; exact HW9⟩
    · have hlt' : ¬ (64 : Int) ≤ l.length := by omega
      go_wp2_with fail
      refine bodyPost_ret (by simp [results, Tryd.results65, go_sem]; rfl) rfl ?_
      refine ⟨rfl, hI.out.k, _, ⟨?_, ?_⟩, hI.out.o⟩
      · rw [HF.out.1, hE.out, blocks_short _ (by omega)]
        have h1 := hI.out.s
        have : (data ++ p).length = d + n := by rw [List.length_append, HF.out.2.1, HF.out.2.2.1]
        rw [this]; exact h1
      · rw [HF.out.1, hE.out, blocks_short _ (by omega)]
        exact hI.out.r
end Go.Proofs.YtdbkafpflicdiaaDoor.sha
