/- plumbing.NewHasher, Hasher.Sum, ComputeHash, Hash.String. -/
import Derived.Test.YtdbkafpflicdiaaDoorShaSum
import Derived.Test.YtdbkafpflicdiaaDoorShelf
import Derived.Lib.HexFns2
import Derived.LaidEql
import Derived.Lib.ConvBytes
import Derived.Lib.SlBytesConst
import Derived.Lib.AppendIntMem
import Derived.Lib.ItoaLen
import Derived.Deep.QuietTactic
set_option linter.unusedVariables false
namespace Go.Proofs.YtdbkafpflicdiaaDoor.ob
open Go.RowKit Lib mem frm row sha

/-- a hash of the call's own, at work -/
structure HS (w0 w : World) (sb : Nat) (v : Value) (data : List UInt8) : Prop where
  k : Kept [] w0 w
  h : Sha w w0.heap.size sb v data
  n : w0.heap.size ≤ sb
theorem HS.foot {w0 w : World} {sb : Nat} {v : Value} {data : List UInt8} (h : HS w0 w sb v data) : ∀ x ∈ foot sb v, x ∈ ([] : List Nat) ∨ w0.heap.size ≤ x := fun x hx => by
  simp only [sha.foot, List.mem_cons, Option.mem_toList] at hx
  rcases hx with rfl | hx
  · exact .inr h.n
  · exact .inr (h.h.r.lt x hx).1
theorem HS.wrote {w0 w w' : World} {sb n : Nat} {v : Value} {data data' : List UInt8} {e : Ending} (h : HS w0 w sb v data) (hw : Wrote w w0.heap.size sb v n data' e w') : e = .returned (.tuple #[.int .i64 n, .nilIface]) ∧ ∃ v', HS w0 w' sb v' data' := by
  obtain ⟨rfl, hk, v', hs, _⟩ := hw
  exact ⟨rfl, v', h.k.trans hk h.foot, hs, h.n⟩
theorem HS.kept {w0 w w' : World} {sb : Nat} {v : Value} {data : List UInt8} (h : HS w0 w sb v data) (hk : Kept [] w w') : HS w0 w' sb v data := ⟨h.k.trans_ hk, h.h.kept hk (by simp) (by simp), h.n⟩
theorem RowAt.base {w : World} {B B' : Nat} {e : TypeId} {v : Value} {xs : List Value} (h : RowAt w B e v xs) (hB : B' ≤ B) : RowAt w B' e v xs := by
  rcases h with h | ⟨g, o, c, cur, h1, h2, h3⟩
  · exact .inl h
  · exact .inr ⟨g, o, c, cur, h1, Nat.le_trans hB h2, h3⟩
theorem HS.base {w w0 w1 : World} {sb : Nat} {v : Value} {data : List UInt8} (h : HS w0 w1 sb v data) (hk : Kept [] w w0) : HS w w1 sb v data := ⟨hk.trans_ h.k, ⟨h.h.s, RowAt.base h.h.r hk.size⟩, Nat.le_trans hk.size h.n⟩
theorem HS.of_new {w : World} {e : Ending} {w' : World} (h : New' w e w') : ∃ sb, e = .returned (.iface 73 (.pointer (some ⟨sb, 0, none⟩))) ∧ HS w w' sb (.slice none 0 0) [] := by
  obtain ⟨sb, h1, h2, h3, h4⟩ := h
  exact ⟨sb, h2, h3, ⟨by rw [blocks_short init (by simp)]; exact h4, by rw [blocks_short init (by simp)]; exact RowAt.nil_ _ _ _⟩, h1⟩
/-- the name of a kind -/
def obName : Nat → List UInt8
  | 1 => [99, 111, 109, 109, 105, 116]
  | 2 => [116, 114, 101, 101]
  | 3 => [98, 108, 111, 98]
  | _ => [116, 97, 103]
/-- what stands ahead of the content -/
def header (k n : Nat) : List UInt8 := obName k ++ [32] ++ itoa n ++ [0]
def OldBytes (w : World) (l : List UInt8) (e : Ending) (w' : World) : Prop := Kept [] w w' ∧ ∃ A c, e = .returned (.slice A l.length c) ∧ Bytes w' w'.heap.size A l.length l
theorem bytes_world (w : World) (s : ByteArray) : Kept [] w (bytesWorld w 5 s) ∧ Bytes (bytesWorld w 5 s) (w.heap.size + 1) (some ⟨w.heap.size, 0, none⟩) s.size s.data.toList := by
  refine ⟨.of_below ⟨rfl, rfl, rfl, by rw [bytesWorld_size]; omega, fun i hi => bytesWorld_at_old w _ s i hi⟩, ⟨⟨by simp [byteCells], fun hn => ⟨_, rfl, by simp, fun j u hu => ?_⟩⟩, fun _ => ⟨_, _, rfl⟩⟩⟩
  have hj : j < s.size := by have := (List.getElem?_eq_some_iff.1 hu).1; simpa [byteCells] using this
  rw [Lib.addr_add, Nat.zero_add, bytesWorld_cell w _ s j hj, ← hu]
  simp [byteCells, List.getD, hj]
theorem foot_ne {w0 w : World} {sb hb : Nat} {v : Value} {data : List UInt8} {t : TypeId} {cs : Array Value} (h : HS w0 w sb v data) (hB : Blk w hb t cs) (h1 : t ≠ ShaT) (h2 : t ≠ U8) : hb ∉ sha.foot sb v := by
  intro hx
  simp only [sha.foot, List.mem_cons, Option.mem_toList] at hx
  rcases hx with rfl | hx
  · exact hB.ne_ h.h.s h1 rfl
  · obtain ⟨cs', hc⟩ := h.h.r.typed hx
    exact hB.ne_ hc h2 rfl
/-- the write's contract, the frame told -/
theorem HS.write {w0 w : World} {sb n c B' : Nat} {v : Value} {data p : List UInt8} {A : Option Addr} (h : HS w0 w sb v data) (hp : Bytes w B' A n p) (hlim : data.length + n ≤ 1073741824) :
    Calls Tryd.prog 65 #[.pointer (some ⟨sb, 0, none⟩), .slice A n c] w fun e w' => e = .returned (.tuple #[.int .i64 n, .nilIface]) ∧ Kept (sha.foot sb v) w w' ∧ ∃ v', HS w0 w' sb v' (data ++ p) := by
  refine (write_calls w0.heap.size sb v data p A n c B' w h.h hp h.k.size hlim).mono ?_
  intro e w' hw
  obtain ⟨h1, h2⟩ := h.wrote hw
  exact ⟨h1, hw.2.1, h2⟩
set_option maxRecDepth 100000 in
theorem typeText_calls (k : Nat) (w : World) (h1 : 1 ≤ k) (h4 : k ≤ 4) : Calls Tryd.prog 28 #[.int .i8 k] w fun e w' => e = .returned (.string ⟨(obName k).toArray⟩) ∧ w' = w := by
  rcases (by omega : k = 1 ∨ k = 2 ∨ k = 3 ∨ k = 4) with rfl | rfl | rfl | rfl
  all_goals
    go_enter Tryd.func28, Tryd.ntmps28
    go_wp2_with fail
    go_ret
    exact ⟨rfl, rfl⟩
set_option maxRecDepth 100000 in
theorem typeBytes_calls (k : Nat) (w : World) (h1 : 1 ≤ k) (h4 : k ≤ 4) : Calls Tryd.prog 25 #[.int .i8 k] w (OldBytes w (obName k)) := by
  have c1 := hid (typeText_calls k w h1 h4)
  clear h1 h4
  go_enter Tryd.func25, Tryd.ntmps25
  go_wp2_with fail
  refine c1.out.mono ?_
  rintro e w' ⟨rfl, rfl⟩
  obtain ⟨hk, hb⟩ := bytes_world w' ⟨(obName k).toArray⟩
  have hcv := Go.Lib.run_convert_string_bytes (P := Tryd.prog) w' 9 26 5 ⟨(obName k).toArray⟩ Tryd.underlying9 Tryd.underlying26 Tryd.underlying5
  have HK := hid hk
  have HB := hid hb
  clear hk hb c1
  generalize grownCap w' (⟨(obName k).toArray⟩ : ByteArray).size 0 5 = cap at *
  go_wp2_with fail
  go_ret
  refine ⟨HK.out, _, cap, rfl, ?_⟩
  have h := HB.out
  exact h.more (by rw [bytesWorld_size]; exact Nat.le_refl _)
abbrev HT : TypeId := 63
/-- the hasher being made: its variable, its result's, its state -/
structure NH (w wz : World) (hb rb sb : Nat) (v : Value) (data : List UInt8) : Prop where
  h : HS w wz sb v data
  b : Blk wz hb HT #[.iface 73 (.pointer (some ⟨sb, 0, none⟩))]
  r : Blk wz rb HT #[.nilIface]
theorem NH.write {w wz wy : World} {hb rb sb n c B' : Nat} {v : Value} {data p : List UInt8} {A : Option Addr} (h : NH w wz hb rb sb v data) (hk : Kept [] wz wy) (hp : Bytes wy B' A n p) (hlim : data.length + n ≤ 1073741824) :
    Calls Tryd.prog 65 #[.pointer (some ⟨sb, 0, none⟩), .slice A n c] wy fun e w' => e = .returned (.tuple #[.int .i64 n, .nilIface]) ∧ Kept (sha.foot sb v) wz w' ∧ ∃ v', NH w w' hb rb sb v' (data ++ p) := by
  refine ((h.h.kept hk).write (c := c) hp hlim).mono ?_
  rintro e w' ⟨h1, h2, v', h3⟩
  have hb' := h.b.kept hk (by simp)
  have hr' := h.r.kept hk (by simp)
  exact ⟨h1, (hk.more (by simp)).trans_ h2, v', h3, hb'.kept h2 (foot_ne (h.h.kept hk) hb' (by decide) (by decide)), hr'.kept h2 (foot_ne (h.h.kept hk) hr' (by decide) (by decide))⟩
theorem NH.far {w wz w' : World} {hb rb sb : Nat} {v : Value} {data : List UInt8} (h : NH w wz hb rb sb v data) (hk : Kept (sha.foot sb v) wz w') : w'.cell? ⟨hb, 0, none⟩ = some (.iface 73 (.pointer (some ⟨sb, 0, none⟩))) := (h.b.kept hk (foot_ne h.h h.b (by decide) (by decide))).cell 0 rfl
theorem obName_len (k : Nat) : (obName k).length ≤ 6 := by unfold obName; split <;> simp
theorem one_bytes (w : World) (b : UInt8) (z : Int) (fl : Nat × Nat) (hz : z = (b.toNat : Int)) : Bytes (w.alloc (.cells #[.int .u8 z] U8 fl)) (w.heap.size + 1) (some ⟨w.heap.size, 0, none⟩) 1 [b] := by
  subst hz
  refine ⟨⟨rfl, fun _ => ⟨_, rfl, by simp, fun j u hu => ?_⟩⟩, fun _ => ⟨_, _, rfl⟩⟩
  rw [Lib.addr_add, Nat.zero_add, Lib.cell_of_heap (heap_alloc_new w _) j]
  match j, hu with
  | 0, hu => exact hu
def HasherIs (w : World) (data : List UInt8) (e : Ending) (w' : World) : Prop := ∃ sb v, e = .returned (.agg #[.iface 73 (.pointer (some ⟨sb, 0, none⟩))]) ∧ HS w w' sb v data
set_option maxRecDepth 100000 in
set_option maxHeartbeats 4000000 in
theorem newHasher_calls (k n : Nat) (w : World) (h1 : 1 ≤ k) (h4 : k ≤ 4) (hn : n ≤ 1000000) (hT : Lib.TabIs Tryd.prog w "internal/strconv.uint64pow10" .u64 Lib.pow10Tab) :
    Calls Tryd.prog 20 #[.int .i8 k, .int .i64 n] w (HasherIs w (header k n)) := by
  have HT0 := hid (Lib.tabBelow_of_tabIs hT)
  have HKK := hid (And.intro h1 h4)
  have HN := hid hn
  clear hT h1 h4 hn
  go_enter Tryd.func20, Tryd.ntmps20
  go_wp2_with fail
  refine (new_calls 1 _).mono ?_
  intro e w1 hw1
  obtain ⟨sb, rfl, hs⟩ := HS.of_new hw1
  clear hw1
  have hk0 : Kept [] w (w.alloc (.cells #[.nilIface] HT)) := (Kept.refl [] w).alloc _
  have hs1 := (HS.base hs hk0).kept ((Kept.refl [] w1).alloc (.cells #[.iface 73 (.pointer (some ⟨sb, 0, none⟩))] HT))
  have hR1 : Blk (w1.alloc (.cells #[.iface 73 (.pointer (some ⟨sb, 0, none⟩))] HT)) w.heap.size HT #[.nilIface] := ((Blk.new w HT #[.nilIface]).kept hs.k (by simp)).alloc _
  have hB1 := Blk.new w1 HT #[.iface 73 (.pointer (some ⟨sb, 0, none⟩))]
  have HLT := hid (show w.heap.size ≠ w1.heap.size by have := ((Blk.new w HT #[.nilIface]).kept hs.k (by simp)).lt; omega)
  go_wp2_with fail
  obtain ⟨hb, hhb⟩ : ∃ hb, hb = w1.heap.size := ⟨_, rfl⟩
  obtain ⟨w2, hw2⟩ : ∃ w2, w2 = w1.alloc (.cells #[.iface 73 (.pointer (some ⟨sb, 0, none⟩))] HT) := ⟨_, rfl⟩
  rw [← hw2, ← hhb] at hB1
  rw [← hw2] at hs1 hR1
  rw [← hhb] at HLT
  rw [← hhb, show w1.alloc (.cells #[.iface 73 (.pointer (some ⟨sb, 0, none⟩))] 63) = w2 from hw2.symm]
  clear hw2 hhb hs hk0
  have hna : ∀ w : World, Sem.run Tryd.prog (nilAhead 233 73 (.pointer (some ⟨sb, 0, none⟩)) "Write") w = .ok (some false) w := fun _ => by kernel_rfl
  have hme : ∀ w : World, Sem.run Tryd.prog (method 233 73 (.pointer (some ⟨sb, 0, none⟩)) "Write") w = .ok (65, .pointer (some ⟨sb, 0, none⟩)) w := fun _ => by kernel_rfl
  have HN1 : Hid (NH w w2 hb w.heap.size sb (.slice none 0 0) []) := hid ⟨hs1, hB1, hR1⟩
  clear hs1 hB1 hR1
  have hkk : 1 ≤ k ∧ k ≤ 4 := HKK.out
  obtain ⟨C, hC0, hCf, hCk, hCo, hCi⟩ : ∃ C : World → Prop, C w2.drew ∧ (∀ w', C w' → w'.cell? ⟨hb, 0, none⟩ = some (.iface 73 (.pointer (some ⟨sb, 0, none⟩)))) ∧ (∀ w' w'', C w' → Kept [] w' w'' → C w'') ∧ (∀ w', C w' → Kept (sha.foot sb (.slice none 0 0)) w2 w') ∧ (∀ w', Kept (sha.foot sb (.slice none 0 0)) w2 w' → C w') :=
    ⟨fun w' => Kept (sha.foot sb (.slice none 0 0)) w2 w', (Kept.refl _ w2).drew, fun w' h => HN1.out.far h, fun _ _ h h' => h.trans h' (by simp), fun _ h => h, fun _ h => h⟩
  try dsimp only [Act.put]
  refine wp_region_held_drew (S := C) (by kernel_rfl) hC0 (fun _ => ?_)
  refine held.take 0 (.pointer (some ⟨hb, 0, none⟩)) rfl (by kernel_rfl) (fun _ _ _ h => h) (Or.inl ⟨by rfl, fun wq hq => by have e0 := hCf wq hq; go_simp⟩) hC0 ?_
  refine held.take 1 (.iface 73 (.pointer (some ⟨sb, 0, none⟩))) rfl (by kernel_rfl) (fun _ _ _ h => h) (Or.inl ⟨by rfl, fun wq hq => by have e0 := hCf wq hq; go_simp⟩) hC0 ?_
  refine held.take 2 (.int .i8 k) rfl (by kernel_rfl) (fun _ _ _ h => h) (Or.inl ⟨by rfl, fun wq hq => by have e0 := hCf wq hq; go_simp⟩) hC0 ?_
  refine held.take 4 (.iface 73 (.pointer (some ⟨sb, 0, none⟩))) rfl (by kernel_rfl) (fun _ _ _ h => h) (Or.inl ⟨by rfl, fun wq hq => by have e0 := hCf wq hq; go_simp⟩) hC0 ?_
  refine held.take 5 (.iface 73 (.pointer (some ⟨sb, 0, none⟩))) rfl (by kernel_rfl) (fun _ _ _ h => h) (Or.inl ⟨by rfl, fun wq hq => by have e0 := hCf wq hq; go_simp⟩) hC0 ?_
  refine held.forced 3 (by kernel_rfl) rfl rfl (fun K hK3 => ?_)
  go_simp
  refine (typeBytes_calls k _ hkk.1 hkk.2).mono ?_
  rintro e w3 ⟨hk3, A3, c3, rfl, hb3⟩
  refine hK3 _ _ (hCk _ _ hC0 hk3) ?_
  clear hK3 K
  refine held.forced 6 (by kernel_rfl) rfl rfl (fun K hK3 => ?_)
  go_simp
  refine (HN1.out.write (p := obName k) (((Kept.refl [] w2).drew).trans_ hk3) hb3 (by simp [obName]; split <;> simp)).mono ?_
  rintro e w4 ⟨rfl, hk4, v4, hn4⟩
  refine hK3 _ _ (hCi _ hk4) ?_
  clear hK3 K
  refine wpAnyH_done (by kernel_rfl) ?_ _
  have HN4 := hid hn4
  clear hC0 hCf hCk hCo hCi hk3 hb3 hk4 hn4 HN1
  have kc := fun (w : World) (C : Array Value) (n c : Nat) => Lib.run_convert_bytes_const (P := Tryd.prog) w 26 5 C n c Tryd.underlying26 Tryd.underlying5
  have q4 : w4.cell? ⟨hb, 0, none⟩ = some (.iface 73 (.pointer (some ⟨sb, 0, none⟩))) := HN4.out.b.cell 0 rfl
  have HL4 : Hid ((([] : List UInt8) ++ obName k).length + 1 ≤ 1073741824) := hid (by simp [obName]; split <;> simp)
  go_wp2_with (first
    | (refine (HN4.out.write (p := [32]) ((Kept.refl [] w4).alloc _) (one_bytes w4 32 _ _ rfl) HL4.out).mono ?_; rintro e w5 ⟨rfl, hk5, v5, hn5⟩; have HN5 := hid hn5; clear hk5 hn5)
    | fail)
  clear q4 HN4 HL4
  obtain ⟨d5, hd5⟩ : ∃ d5, d5 = ([] : List UInt8) ++ obName k ++ [32] := ⟨_, rfl⟩
  rw [← hd5] at HN5
  have HD5 := hid hd5
  have hnn : n ≤ 1000000 := HN.out
  have HT5 : Hid (Lib.TabIs Tryd.prog w5 "internal/strconv.uint64pow10" .u64 Lib.pow10Tab) := hid (HT0.out w5 (HN5.out.h.k.below (Nat.le_refl _) (by simp)))
  clear hd5
  obtain ⟨C, hC0, hCf, hCk, hCo, hCi⟩ : ∃ C : World → Prop, C w5.drew ∧ (∀ w', C w' → w'.cell? ⟨hb, 0, none⟩ = some (.iface 73 (.pointer (some ⟨sb, 0, none⟩)))) ∧ (∀ w' w'', C w' → Kept [] w' w'' → C w'') ∧ (∀ w', C w' → Kept (sha.foot sb v5) w5 w') ∧ (∀ w', Kept (sha.foot sb v5) w5 w' → C w') :=
    ⟨fun w' => Kept (sha.foot sb v5) w5 w', (Kept.refl _ w5).drew, fun w' h => HN5.out.far h, fun _ _ h h' => h.trans h' (by simp), fun _ h => h, fun _ h => h⟩
  try dsimp only [Act.put]
  refine wp_region_held_drew (S := C) (by kernel_rfl) hC0 (fun _ => ?_)
  refine held.take 0 (.pointer (some ⟨hb, 0, none⟩)) rfl (by kernel_rfl) (fun _ _ _ h => h) (Or.inl ⟨by rfl, fun wq hq => by have e0 := hCf wq hq; go_simp⟩) hC0 ?_
  refine held.take 1 (.iface 73 (.pointer (some ⟨sb, 0, none⟩))) rfl (by kernel_rfl) (fun _ _ _ h => h) (Or.inl ⟨by rfl, fun wq hq => by have e0 := hCf wq hq; go_simp⟩) hC0 ?_
  refine held.take 2 (.int .i64 n) rfl (by kernel_rfl) (fun _ _ _ h => h) (Or.inl ⟨by rfl, fun wq hq => by have e0 := hCf wq hq; go_simp⟩) hC0 ?_
  refine held.take 5 (.iface 73 (.pointer (some ⟨sb, 0, none⟩))) rfl (by kernel_rfl) (fun _ _ _ h => h) (Or.inl ⟨by rfl, fun wq hq => by have e0 := hCf wq hq; go_simp⟩) hC0 ?_
  refine held.take 6 (.iface 73 (.pointer (some ⟨sb, 0, none⟩))) rfl (by kernel_rfl) (fun _ _ _ h => h) (Or.inl ⟨by rfl, fun wq hq => by have e0 := hCf wq hq; go_simp⟩) hC0 ?_
  refine held.forced 3 (by kernel_rfl) rfl rfl (fun K hK3 => ?_)
  go_simp
  refine (Tryd.strconv_FormatInt_10 n (by omega) (by omega) w5.drew HT5.out).mono ?_
  rintro e w6 ⟨rfl, kk, os, rfl⟩
  have hk6d : Kept [] w5.drew (Go.Sort.grow (w5.drew.drewN kk) os) := Kept.of_below (Lib.below_grow _ w5.drew (Nat.le_refl _) kk os)
  generalize Go.Sort.grow (w5.drew.drewN kk) os = w6 at *
  have hk6 : Kept [] w5 w6 := (Kept.refl [] w5).drew.trans_ hk6d
  refine hK3 _ _ (hCk _ _ hC0 hk6d) ?_
  clear hK3 K
  refine held.forced 4 (by kernel_rfl) rfl rfl (fun K hK3 => ?_)
  obtain ⟨hk7, hb7⟩ := bytes_world w6 ⟨(Lib.itoa n).toArray⟩
  rw [show (⟨(Lib.itoa n).toArray⟩ : ByteArray).size = (Lib.itoa n).length by simp [ByteArray.size]] at hb7
  have hcv := Go.Lib.run_convert_string_bytes (P := Tryd.prog) w6 9 26 5 ⟨(Lib.itoa n).toArray⟩ Tryd.underlying9 Tryd.underlying26 Tryd.underlying5
  generalize grownCap w6 (⟨(Lib.itoa n).toArray⟩ : ByteArray).size 0 5 = cap at *
  generalize bytesWorld w6 5 ⟨(Lib.itoa n).toArray⟩ = w7 at *
  go_simp
  refine hK3 _ _ (hCk _ _ (hCk _ _ hC0 hk6d) hk7) ?_
  clear hK3 K
  refine held.forced 7 (by kernel_rfl) rfl rfl (fun K hK3 => ?_)
  go_simp
  refine (HN5.out.write (p := Lib.itoa n) ((hk6.trans_ hk7)) hb7 (by have h1 := Lib.itoa_length_le n (by omega) (by omega); have h2 := obName_len k; rw [HD5.out]; simp only [List.length_append, List.length_nil, List.length_singleton]; omega)).mono ?_
  rintro e w8 ⟨rfl, hk8, v8, hn8⟩
  refine hK3 _ _ (hCi _ hk8) ?_
  clear hK3 K
  refine wpAnyH_done (by kernel_rfl) ?_ _
  have HN8 := hid hn8
  clear hC0 hCf hCk hCo hCi hk6d hk6 hk7 hb7 hk8 hn8 HN5 hcv HT5
  have q8 : w8.cell? ⟨hb, 0, none⟩ = some (.iface 73 (.pointer (some ⟨sb, 0, none⟩))) := HN8.out.b.cell 0 rfl
  have HL8 : Hid ((d5 ++ Lib.itoa n).length + 1 ≤ 1073741824) := hid (by have h1 := Lib.itoa_length_le n (by omega) (by omega); have h2 := obName_len k; rw [HD5.out]; simp only [List.length_append, List.length_nil, List.length_singleton]; omega)
  go_wp2_with (first
    | (refine (HN8.out.write (p := [0]) ((Kept.refl [] w8).alloc _) (one_bytes w8 0 _ _ rfl) HL8.out).mono ?_; rintro e w9 ⟨rfl, hk9, v9, hn9⟩; have HN9 := hid hn9; have q9 : w9.cell? ⟨hb, 0, none⟩ = some (.iface 73 (.pointer (some ⟨sb, 0, none⟩))) := hn9.b.cell 0 rfl; have f9 : w9.frozen? ⟨w.heap.size, 0, none⟩ = false := hn9.r.frozen 0; have r9 : w9.cell? ⟨w.heap.size, 0, none⟩ = some .nilIface := hn9.r.cell 0 rfl; clear hk9 hn9)
    | fail)
  have hb9 : Blk (w9.setCell ⟨w.heap.size, 0, none⟩ (.iface 73 (.pointer (some ⟨sb, 0, none⟩)))) w.heap.size HT #[.iface 73 (.pointer (some ⟨sb, 0, none⟩))] := by
    simpa using HN9.out.r.set_ 0 (.iface 73 (.pointer (some ⟨sb, 0, none⟩)))
  have hk9 : Kept [w.heap.size] w9 (w9.setCell ⟨w.heap.size, 0, none⟩ (.iface 73 (.pointer (some ⟨sb, 0, none⟩)))) := (Kept.refl _ w9).setCell (.inl (by simp)) _
  have hh9 := HN9.out.h
  have hd : d5 ++ Lib.itoa n ++ [0] = header k n := by rw [HD5.out]; simp [header]
  rw [hd] at hh9
  refine bodyPost_ret (results_cell_row rfl _ _ w.heap.size HT #[.iface 73 (.pointer (some ⟨sb, 0, none⟩))] (0, 0) _ rfl hb9 Tryd.underlying63 rfl (by kernel_rfl)) rfl ?_
  refine ⟨sb, v9, rfl, hh9.k.trans hk9 (by simp), hh9.h.kept hk9 ?_ ?_, hh9.n⟩
  · have := HN9.out.r.ne_ hh9.h.s (by decide)
    simpa using this.symm
  · intro x hx e
    obtain rfl : x = w.heap.size := by simpa using e
    obtain ⟨cs, hc⟩ := hh9.h.r.typed hx
    exact HN9.out.r.ne_ hc (by decide) rfl
abbrev Hty : TypeId := 37
theorem infoHash : (Tryd.prog.info? Hty).map (·.size) = some 20 := by kernel_rfl
theorem infoByte : (Tryd.prog.info? 5).map (·.size) = some 1 := by kernel_rfl
def zero20 : List Value := List.replicate 20 (.int .u8 0)
theorem all_one {cs : List Value} (h : ∀ v ∈ cs, v.oneCell' = true) : cs.toArray.all (·.oneCell') = true :=
  Array.all_eq_true_iff_forall_mem.2 (fun v hv => h v (by simpa using hv))
/-- twenty bytes handed back -/
def HashOut (w : World) (l : List UInt8) (e : Ending) (w' : World) : Prop := e = .returned (.agg (byteCells l).toArray) ∧ Kept [] w w'
theorem wp_copy_kept {P : Program} {w : World} {o : Oper} {a : Act} {K : Act → World → Prop} {Q : Exit → Act → World → Prop} (d s : Operand) (dT sT : TypeId)
    (ho : o.op = .call { callee := .builtin .copy, args := #[d, s], argTypes := #[dT, sT] }) (elem : TypeId) (hu : P.underlying dT = some (.slice elem)) (hsz : (P.info? elem).map (·.size) = some 1)
    (dp : Option Addr) (dLen dCap : Nat) (ad : Addr) (sLen sCap : Nat) (hd : a.eval d = .slice dp dLen dCap) (hs : a.eval s = .slice (some ad) sLen sCap)
    (g off : Nat) (cur : List Value) (t : TypeId) (hg : w.heap[g]? = some (.cells cur.toArray t (0, 0))) (cs : List Value) (hn : cs.length = Nat.min sLen dLen)
    (hdp : dp = some ⟨g, off, none⟩) (hsrc : ∀ j v, cs[j]? = some v → w.cell? (ad.add j) = some v)
    (hfit : off + cs.length ≤ cur.length) (h1 : ∀ v ∈ cs, v.oneCell' = true)
    (h : ∀ w', w'.heap[g]? = some (.cells (splice cur off cs).toArray t (0, 0)) → Kept [g] w w' → K (a.put o.dst (goInt cs.length)) w') : Oper.wp P o a w K Q := by
  subst hdp
  have hrun := run_copy_row (P := P) w dT sT o.type elem g off dLen dCap ad sLen sCap cur.toArray t cs hu hsz hg hn hsrc (by simpa using hfit) h1
  unfold Oper.wp
  simp [execOp, ho, resolve, invoke, builtin, hd, hs, hrun, Result.andThen]
  exact h _ (by simpa [splice] using setRow_heap w g _ _ t _ hg) (kept_setRow _)
theorem Own.src {w0 w : World} {A : Option Addr} {m c : Nat} {l : List UInt8} (h : Own w0 w (.slice A m c) m l) (hm : 0 < m) : ∃ g, A = some ⟨g, 0, none⟩ ∧ w0.heap.size ≤ g ∧ ∀ j v, (byteCells l)[j]? = some v → w.cell? ((⟨g, 0, none⟩ : Addr).add j) = some v := by
  obtain ⟨g, rfl, _⟩ := h.at_ hm
  exact ⟨g, rfl, (h.2.lt g rfl).1, fun j v hv => h.2.cells (g := g) rfl j v hv⟩
set_option maxRecDepth 100000 in
set_option maxHeartbeats 4000000 in
theorem hsum_calls (w0 w : World) (sb : Nat) (v : Value) (data : List UInt8) (h : HS w0 w sb v data) (hlim : data.length ≤ 1073741824) :
    Calls Tryd.prog 21 #[.agg #[.iface 73 (.pointer (some ⟨sb, 0, none⟩))]] w (HashOut w (sha1 data)) := by
  obtain ⟨w1, hw1⟩ : ∃ w1, w1 = w.alloc (.cells #[.iface 73 (.pointer (some ⟨sb, 0, none⟩))] HT) := ⟨_, rfl⟩
  obtain ⟨w2, hw2⟩ : ∃ w2, w2 = w1.alloc (.cells zero20.toArray Hty) := ⟨_, rfl⟩
  have hk1 : Kept [] w w1 := by rw [hw1]; exact (Kept.refl [] w).alloc _
  have hk2 : Kept [] w1 w2 := by rw [hw2]; exact (Kept.refl [] w1).alloc _
  have hz1 : w1.heap.size = w.heap.size + 1 := by rw [hw1]; simp
  have hb1 : Blk w1 w.heap.size HT #[.iface 73 (.pointer (some ⟨sb, 0, none⟩))] := by rw [hw1]; exact Blk.new w HT _
  have hb2 : Blk w2 (w.heap.size + 1) Hty zero20.toArray := by rw [hw2, ← hz1]; exact Blk.new w1 Hty _
  have HB1 := hid (hb1.kept hk2 (by simp))
  have HB2 := hid hb2
  have HK2 := hid (hk1.trans_ hk2)
  have HS2 := hid (h.kept (hk1.trans_ hk2))
  have HW2 : Hid ((w.alloc (.cells #[.iface 73 (.pointer (some ⟨sb, 0, none⟩))] 63)).alloc (.cells #[.int .u8 0, .int .u8 0, .int .u8 0, .int .u8 0, .int .u8 0, .int .u8 0, .int .u8 0, .int .u8 0, .int .u8 0, .int .u8 0, .int .u8 0, .int .u8 0, .int .u8 0, .int .u8 0, .int .u8 0, .int .u8 0, .int .u8 0, .int .u8 0, .int .u8 0, .int .u8 0] 37) = w2) := hid (by rw [hw2, hw1]; rfl)
  have HLM := hid hlim
  have hna : ∀ w : World, Sem.run Tryd.prog (nilAhead 233 73 (.pointer (some ⟨sb, 0, none⟩)) "Sum") w = .ok (some false) w := fun _ => by kernel_rfl
  have hme : ∀ w : World, Sem.run Tryd.prog (method 233 73 (.pointer (some ⟨sb, 0, none⟩)) "Sum") w = .ok (64, .pointer (some ⟨sb, 0, none⟩)) w := fun _ => by kernel_rfl
  clear h hlim hw1 hw2 hk1 hk2 hz1 hb1 hb2
  go_enter Tryd.func21, Tryd.ntmps21
  go_wp2_with fail
  rw [HW2.out]
  obtain ⟨C, hC0, hCf, hCk, hCo, hCi⟩ : ∃ C : World → Prop, C w2.drew ∧ (∀ w', C w' → w'.cell? ⟨w.heap.size, 0, none⟩ = some (.iface 73 (.pointer (some ⟨sb, 0, none⟩)))) ∧ (∀ w' w'', C w' → Kept [] w' w'' → C w'') ∧ (∀ w', C w' → Kept [w.heap.size + 1] w2 w') ∧ (∀ w', Kept [w.heap.size + 1] w2 w' → C w') :=
    ⟨fun w' => Kept [w.heap.size + 1] w2 w', (Kept.refl _ w2).drew, fun w' h => (HB1.out.kept h (by simp)).cell 0 rfl, fun _ _ h h' => h.trans h' (by simp), fun _ h => h, fun _ h => h⟩
  try dsimp only [Act.put]
  refine wp_region_held_drew (S := C) (by kernel_rfl) hC0 (fun _ => ?_)
  refine held.take 0 (.slice (some ⟨w.heap.size + 1, 0, none⟩) 20 20) rfl (by kernel_rfl) (fun _ _ _ h => h) (Or.inl ⟨by rfl, fun wq hq => by have e0 := hCf wq hq; go_simp⟩) hC0 ?_
  refine held.take 1 (.pointer (some ⟨w.heap.size, 0, none⟩)) rfl (by kernel_rfl) (fun _ _ _ h => h) (Or.inl ⟨by rfl, fun wq hq => by have e0 := hCf wq hq; go_simp⟩) hC0 ?_
  refine held.take 2 (.iface 73 (.pointer (some ⟨sb, 0, none⟩))) rfl (by kernel_rfl) (fun _ _ _ h => h) (Or.inl ⟨by rfl, fun wq hq => by have e0 := hCf wq hq; go_simp⟩) hC0 ?_
  refine held.forced 3 (by kernel_rfl) rfl rfl (fun K hK3 => ?_)
  go_simp
  refine (sum_calls w0.heap.size sb v data w2.drew (HS2.out.kept (Kept.refl [] w2).drew).h HLM.out).mono ?_
  rintro e w3 ⟨hk3, v3, rfl, ho3⟩
  obtain ⟨A3, c3, rfl⟩ := own_shape ho3.2
  obtain ⟨g3, rfl, hg3, hsrc⟩ := Own.src ho3 (by omega)
  refine hK3 _ _ (hCk _ _ hC0 hk3) ?_
  clear hK3 K
  refine held.forced 4 (by kernel_rfl) rfl rfl (fun K hK3 => ?_)
  have hl := sha1_len data
  have hlc : (byteCells (sha1 data)).length = 20 := by simp [byteCells, hl]
  have hk23 : Kept [] w2 w3 := (Kept.refl [] w2).drew.trans_ hk3
  refine wp_copy_kept (.tmp 3) (.tmp 6) 26 26 rfl 5 Tryd.underlying26 infoByte (some ⟨w.heap.size + 1, 0, none⟩) 20 20 ⟨g3, 0, none⟩ 20 c3 rfl rfl (w.heap.size + 1) 0 zero20 Hty (HB2.out.kept hk23 (by simp)) (byteCells (sha1 data)) hlc rfl hsrc (by rw [hlc]; decide) (cells_one _) ?_
  intro w4 hb4 hk4
  have hsp : splice zero20 0 (byteCells (sha1 data)) = byteCells (sha1 data) := by
    unfold splice
    rw [List.take_zero, List.nil_append, List.drop_eq_nil_of_le (by rw [Nat.zero_add, hlc]; decide), List.append_nil]
  rw [hsp] at hb4
  have hk24 : Kept [w.heap.size + 1] w2 w4 := (hk23.more (by simp)).trans_ hk4
  refine hK3 _ _ (hCi _ hk24) ?_
  clear hK3 K
  refine wpAnyH_done (by kernel_rfl) ?_ _
  clear hC0 hCf hCk hCo hCi
  go_wp2_with fail
  refine bodyPost_ret (results_cell_row rfl _ _ (w.heap.size + 1) Hty (byteCells (sha1 data)).toArray (0, 0) _ rfl hb4 Tryd.underlying37 rfl (by rw [infoHash]; simp [hlc])) rfl ?_
  exact ⟨rfl, HK2.out.trans hk24 (by simp)⟩
end Go.Proofs.YtdbkafpflicdiaaDoor.ob
