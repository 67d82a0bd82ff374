/- impl.hashesOf. -/
import Derived.Test.YtkjfndkcagkhaaaDoorShWalk
import Derived.Test.YtkjfndkcagkhaaaDoorStrSl
import Derived.Test.YtkjfndkcagkhaaaDoorAckText
set_option linter.unusedVariables false
attribute [local go_sem ↓] Go.wp_at_zero Go.wp_at_succ
namespace Go.Proofs.YtkjfndkcagkhaaaDoor.enc
open Go.RowKit Lib frm mem rd pkt text buf hash ack

def hcells (ss : List ByteArray) : List Value := (ss.map hashCells).flatten
theorem hcells_len (ss : List ByteArray) (h : ∀ s ∈ ss, Hex40 s) : (hcells ss).length = ss.length * 20 := by
  induction ss with
  | nil => rfl
  | cons s ss ih =>
    have h1 := ih (fun x hx => h x (by simp [hx]))
    have h2 := hashCells_len (h s (by simp))
    simp only [hcells, List.map_cons, List.flatten_cons, List.length_append, List.length_cons] at h1 ⊢
    omega
theorem hcells_at (ss : List ByteArray) (h : ∀ s ∈ ss, Hex40 s) : ∀ (k : Nat) (s : ByteArray), ss[k]? = some s → ∀ i u, (hashCells s)[i]? = some u → (hcells ss)[k * 20 + i]? = some u := by
  induction ss with
  | nil => intro k s hk; simp at hk
  | cons x ss ih =>
    intro k s hk i u hu
    have hx := hashCells_len (h x (by simp))
    have e : hcells (x :: ss) = hashCells x ++ hcells ss := rfl
    rw [e]
    rcases k with _ | k
    · simp only [List.getElem?_cons_zero, Option.some.injEq] at hk
      subst hk
      have hi := (List.getElem?_eq_some_iff.1 hu).1
      rw [Nat.zero_mul, Nat.zero_add, List.getElem?_append_left hi]
      exact hu
    · rw [List.getElem?_append_right (by rw [hx]; omega), hx, show (k + 1) * 20 + i - 20 = k * 20 + i by omega]
      exact ih (fun y hy => h y (by simp [hy])) k s (by simpa using hk) i u hu
theorem hcells_one (ss : List ByteArray) : ∀ u ∈ hcells ss, u.oneCell' = true := by
  intro u hu
  simp only [hcells, List.mem_flatten, List.mem_map] at hu
  obtain ⟨l, ⟨s, _, rfl⟩, hu⟩ := hu
  exact hash_one s u hu
theorem hs_of_own {w : World} {B n : Nat} {v : Value} {ss : List ByteArray} (h0 : ∀ s ∈ ss, Hex40 s) (h : w.ownsRow B Hty 20 v n (hcells ss)) (hn : n = ss.length) : HsAt w v ss := by
  subst hn
  refine ⟨h0, ?_⟩
  rcases h.2 with ⟨rfl, hz⟩ | ⟨g, cap, cur, rfl, hb, hg, hnc, hcm, hcs, htk⟩
  · exact ⟨none, 0, by rw [hz], fun hp => by omega⟩
  · refine ⟨_, cap, rfl, fun hp => ⟨g, cur, rfl, hg, fun k s hk i u hu => ?_⟩⟩
    have h1 := hcells_at ss h0 k s hk i u hu
    rw [← htk] at h1
    rw [List.getElem?_take] at h1
    split at h1
    · simpa using h1
    · cases h1
theorem wpList_one_row {ops : Array Oper} {rest : List Oper} {o : Oper} {a : Act} {w : World} {Q : Exit → Act → World → Prop} (hgd : o.guard = none) (t e : TypeId) (x : Operand) (ho : o.op = .buildSlice t 1 #[(0, x)]) (i0 : TypeInfo) (z : Value) (n : Nat) (cs : Array Value) (hx : a.eval x = .agg cs)
    (ht : Tryd.prog.underlying t = some (.slice e)) (hi : Tryd.prog.info? e = some i0) (hz : i0.zero = some z) (hs : i0.size = n) (hn : 0 < n) (hn2 : n ≤ 1000) (hcs : cs.size = n)
    (h : wpList Tryd.prog ops Q rest (a.put o.dst (.slice (some ⟨w.heap.size, 0, none⟩) 1 1)) (w.alloc (.cells cs e))) : wpList Tryd.prog ops Q (o :: rest) a w :=
  wpList_plain hgd fun _ hK => wp_one_row t e x ho i0 z n cs hx ht hi hz hs hn hn2 hcs (hK _ _ h)
theorem kept_own_ {a b w : World} {S : List Nat} {base size n : Nat} {e : TypeId} {v : Value} {xs : List Value} (h : Kept S w a) (hown : a.ownsRow base e size v n xs) (hB : w.heap.size ≤ base) (hg : a.grownBy b v.ownBlock) : Kept S w b := by
  have hlt : ∀ g, v.ownBlock = some g → base ≤ g := by
    intro g hg'
    rcases hown.2 with ⟨rfl, _⟩ | ⟨g', cap, cur, rfl, hb, _⟩
    · cases hg'
    · cases hg'; exact hb
  cases hr : v.ownBlock with
  | none => rw [hr] at hg; exact h.trans (T := []) (Kept.of_grown_none hg) (by simp)
  | some g => rw [hr] at hg; exact h.trans (T := [g]) (Kept.of_grown hg) (by intro x hx; simp at hx; subst hx; exact .inr (Nat.le_trans hB (hlt x hr)))
/-- names as byte arrays -/
def names (l : List (List UInt8)) : List ByteArray := l.map ofL
theorem names_snoc {l : List (List UInt8)} {k : Nat} {x : List UInt8} (h : l[k]? = some x) : (names l).take (k + 1) = (names l).take k ++ [ofL x] := by
  have hk := (List.getElem?_eq_some_iff.1 h).1
  have e : l[k] = x := (List.getElem?_eq_some_iff.1 h).2
  rw [List.take_succ_eq_append_getElem (by simpa [names] using hk)]
  simp [names, e]
set_option maxRecDepth 100000 in
set_option maxHeartbeats 8000000 in
theorem hashesOf_calls (A : Option Addr) (n c : Nat) (l : List (List UInt8)) (w : World) (hl : Strs w w.heap.size A n l) (hn : n ≤ 1000) (h40 : ∀ s ∈ names l, Hex40 s) (ev : Value) (hE : w.cell? ⟨12, 0, none⟩ = some ev) (hlt : 12 < w.heap.size) :
    Calls Tryd.prog 29 #[.slice A n c] w fun e w' => ∃ v, e = .returned v ∧ HsAt w' v (names l) ∧ Kept [] w w' := by
  obtain ⟨i0, hi, hz0, hz1, hz2⟩ := info_parts infoHash3
  have HI := hid (And.intro hi (And.intro hz0 (And.intro hz1 hz2)))
  have HL := hid hl
  have HH := hid h40
  have HE := hid hE
  have HLT := hid hlt
  have hb : (n : Int) ≤ 1000 := by omega
  have HN := hid hn
  have HLN := hid hl.len
  clear hl hn h40 hE hlt hi hz0 hz1 hz2
  go_enter Tryd.func29, Tryd.ntmps29
  go_wp2_with fail
  go_loopw [3, 8] (fun v iv wr => ∃ k : Nat, k ≤ n ∧ iv = .int .i64 k ∧ Hid (wr.ownsRow w.heap.size Hty 20 v k (hcells ((names l).take k))) ∧ Hid (Kept [] w wr)) (fun _ iv _ => n - (RowKit.intOf iv).toNat)
  case atStart => exact ⟨0, by omega, rfl, hid (World.ownsRow_nil _ _ _ _), hid (Kept.refl _ _)⟩
  case round =>
    obtain ⟨k, hk, rfl, hO, hK⟩ := hrel
    by_cases hlt : k < n
    · obtain ⟨g, o, x, rfl, hg, hc, _, hx⟩ := (HL.out.below (hK.out.below (Nat.le_refl _) (by simp))).next hlt
      have hs40 := HH.out (ofL x) (List.mem_map_of_mem (List.mem_of_getElem? hx))
      have HS := hid hs40
      have HX := hid hx
      have hlt' : (k : Int) < n := by omega
      obtain ⟨s, hse⟩ : ∃ s, s = ofL x := ⟨_, rfl⟩
      rw [← hse] at hc HS hs40
      have HSE := hid hse
      have HLn := hid (hashCells_len hs40)
      have c1 := hid (newHash_calls s wr ev ((hK.out.cell (p := ⟨12, 0, none⟩) HLT.out (by simp)).trans HE.out) (Nat.lt_of_lt_of_le HLT.out hK.out.size) hs40)
      clear hs40 hx hg hse
      go_wp2_with fail
      refine c1.out.mono ?_
      rintro e w2 ⟨rfl, hk2⟩
      have HK2 := hid (hK.out.trans_ hk2)
      have HO2 := hid (own_keepK hO.out hk2 (by simp))
      clear hk2 hc c1
      have HOA := hid (own_keepK HO2.out ((Kept.refl [] w2).alloc (.cells (hashCells s).toArray Hty)) (by simp))
      have HKA := hid (HK2.out.alloc (.cells (hashCells s).toArray Hty))
      have HR4 := hid (reads_new w2 (hashCells s) Hty HLn.out)
      go_wp2_with (first
        | (refine wpList_one_row rfl Lty Hty (.tmp 14) rfl i0 _ 20 (hashCells s).toArray rfl Tryd.underlying55 HI.out.1 HI.out.2.1 HI.out.2.2.1 (by omega) (by omega) (by simp [HLn.out]) ?_)
        | (at_builtin; refine wpList_append_any _ rfl (.tmp 12) (.tmp 15) _ rfl w.heap.size Hty i0 _ 20 20 Tryd.underlying55 HI.out.1 HI.out.2.1 HI.out.2.2.1 HI.out.2.2.2 (by rfl) (by omega) _ k _ rfl HOA.out (w2.heap.size + 1) (some ⟨w2.heap.size, 0, none⟩) 1 1 (hashCells s) rfl HR4.out (hash_one s) (by have := HN.out; simp only [maxLen]; omega) (by have := HN.out; omega) HKA.out.size ?_; intro v6 w6 hown6 hg6 hat6; have HO6 := hid hown6; have HW6 := hid (kept_own_ HKA.out HOA.out (Nat.le_refl _) hg6); clear hown6 hg6 hat6)
        | fail)
      have HO7 := hid (show w6.ownsRow w.heap.size Hty 20 v6 (k + 1) (hcells ((names l).take (k + 1))) by
        rw [names_snoc HX.out, ← HSE.out]
        have := HO6.out
        simpa [hcells] using this)
      clear HO6
      go_roundw
      case rel => exact ⟨k + 1, by omega, by go_num, HO7, HW6⟩
      case measure => simp [RowKit.intOf]; omega
    · go_wp2_with fail
      go_ret
      obtain rfl : k = n := by omega
      have := hO.out
      rw [List.take_of_length_le (by simp [names, HLN.out])] at this
      exact ⟨_, rfl, hs_of_own HH.out this (by simp [names, HLN.out]), hK.out⟩
end Go.Proofs.YtkjfndkcagkhaaaDoor.enc
