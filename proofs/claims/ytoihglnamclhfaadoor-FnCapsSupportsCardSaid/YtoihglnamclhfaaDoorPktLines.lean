/- impl.ReadLines over packet lines. -/
import Derived.Test.YtoihglnamclhfaaDoorPktScan
set_option linter.unusedVariables false
attribute [local go_sem ↓] Go.wp_at_zero Go.wp_at_succ
namespace Go.Proofs.YtoihglnamclhfaaDoor.pkt
open Go.RowKit Lib frm mem rd text

/-- a slice of bytes that lies in none of the blocks F -/
def RowV (w : World) (F : List Nat) (v : Value) (l : List UInt8) : Prop := ∃ A c, v = .slice A l.length c ∧ l.length ≤ c ∧ Bytes w w.heap.size A l.length l ∧ ∀ x ∈ blkOf A, x ∉ F ∧ x < w.heap.size
theorem RowV.kept {w w' : World} {F F' K : List Nat} {v : Value} {l : List UInt8} (h : RowV w F v l) (hk : Kept K w w') (hK : ∀ x ∈ K, x ∈ F ∨ w.heap.size ≤ x) (hF' : ∀ x ∈ F', x ∈ F ∨ w.heap.size ≤ x) : RowV w' F' v l := by
  obtain ⟨A, c, rfl, hc, hb, hF⟩ := h
  refine ⟨A, c, rfl, hc, (bytes_keep hb hk (Nat.le_refl _) (fun x hx hxK => ?_)).more hk.size, fun x hx => ⟨fun hn => ?_, Nat.lt_of_lt_of_le (hF x hx).2 hk.size⟩⟩
  · have := hF x hx
    rcases hK x hxK with h | h
    · exact this.1 h
    · omega
  · have := hF x hx
    rcases hF' x hn with h | h
    · exact this.1 h
    · omega
set_option maxRecDepth 100000 in
theorem newReader_calls (A : Option Addr) (n c : Nat) (w : World) : Calls Tryd.prog 52 #[.slice A n c] w fun e w' => e = .returned (.pointer (some ⟨w.heap.size, 0, none⟩)) ∧ w' = w.alloc (.cells #[.slice A n c, .int .i64 0, .int .i64 (-1)] 135) := by
  go_enter Tryd.func52, Tryd.ntmps52
  go_wp2_with fail
  go_ret
  exact ⟨rfl, rfl⟩
set_option maxRecDepth 100000 in
theorem newScanner_calls (R : Nat) (w : World) : Calls Tryd.prog 65 #[.iface 91 (.pointer (some ⟨R, 0, none⟩))] w fun e w' => e = .returned (.pointer (some ⟨w.heap.size, 0, none⟩)) ∧ w' = w.alloc (.cells #[.iface 91 (.pointer (some ⟨R, 0, none⟩)), .nilIface, .slice none 0 0, .int .u8 0, .int .u8 0, .int .u8 0, .int .u8 0] 162) := by
  go_enter Tryd.func65, Tryd.ntmps65
  go_wp2_with fail
  go_ret
  exact ⟨rfl, rfl⟩
set_option maxRecDepth 100000 in
theorem bytes_calls (S R : Nat) (ev pv : Value) (w : World) (h : Sc w S R ev pv) : Calls Tryd.prog 67 #[.pointer (some ⟨S, 0, none⟩)] w fun e w' => e = .returned pv ∧ w' = w := by
  obtain ⟨x0, x1, x2, x3, hb⟩ := h
  have k : w.cell? ⟨S, 2, none⟩ = some pv := hb.cell 2 rfl
  clear hb
  go_enter Tryd.func67, Tryd.ntmps67
  go_wp2_with fail
  go_ret
  exact ⟨rfl, rfl⟩
set_option maxRecDepth 100000 in
theorem err_calls (S R : Nat) (ev pv : Value) (w : World) (h : Sc w S R ev pv) : Calls Tryd.prog 68 #[.pointer (some ⟨S, 0, none⟩)] w fun e w' => e = .returned ev ∧ w' = w := by
  obtain ⟨x0, x1, x2, x3, hb⟩ := h
  have k : w.cell? ⟨S, 1, none⟩ = some ev := hb.cell 1 rfl
  clear hb
  go_enter Tryd.func68, Tryd.ntmps68
  go_wp2_with fail
  go_ret
  exact ⟨rfl, rfl⟩
/-- two lists, one by one -/
inductive All2 {α β : Type} (P : α → β → Prop) : List α → List β → Prop
  | nil : All2 P [] []
  | cons {a b l m} : P a b → All2 P l m → All2 P (a :: l) (b :: m)
theorem All2.mono {α β : Type} {P Q : α → β → Prop} {l : List α} {m : List β} (h : All2 P l m) (hq : ∀ a b, P a b → Q a b) : All2 Q l m := by
  induction h with
  | nil => exact .nil
  | cons h _ ih => exact .cons (hq _ _ h) ih
theorem All2.snoc {α β : Type} {P : α → β → Prop} {l : List α} {m : List β} {a : α} {b : β} (h : All2 P l m) (hp : P a b) : All2 P (l ++ [a]) (m ++ [b]) := by
  induction h with
  | nil => exact .cons hp .nil
  | cons h _ ih => exact .cons h ih
theorem All2.app {α β : Type} {P : α → β → Prop} {l l' : List α} {m m' : List β} (h : All2 P l m) (hp : All2 P l' m') : All2 P (l ++ l') (m ++ m') := by
  induction h with
  | nil => exact hp
  | cons h _ ih => exact .cons h ih
theorem All2.len {α β : Type} {P : α → β → Prop} {l : List α} {m : List β} (h : All2 P l m) : l.length = m.length := by
  induction h with
  | nil => rfl
  | cons _ _ ih => simp [ih]
theorem All2.at_ {α β : Type} {P : α → β → Prop} {l : List α} {m : List β} (h : All2 P l m) {k : Nat} {a : α} {b : β} (ha : l[k]? = some a) (hb : m[k]? = some b) : P a b := by
  induction h generalizing k with
  | nil => simp at ha
  | cons h _ ih =>
    cases k with
    | zero => simp at ha hb; subst ha hb; exact h
    | succ k => exact ih (by simpa using ha) (by simpa using hb)
theorem own_new {w : World} {g B : Nat} {e : TypeId} (hg : w.heap[g]? = some (.cells #[] e (0, 0))) (hB : B ≤ g) : w.ownsRow B e 1 (.slice (some ⟨g, 0, none⟩) 0 0) 0 [] :=
  ⟨rfl, .inr ⟨g, 0, #[], rfl, hB, hg, Nat.le_refl _, by decide, rfl, rfl⟩⟩
theorem own_bytes {w : World} {B n : Nat} {v : Value} {l : List UInt8} (h : w.ownsRow B 5 1 v n (byteCells l)) : ∃ A c, v = .slice A n c ∧ n ≤ c ∧ Bytes w w.heap.size A n l ∧ ∀ x ∈ blkOf A, v.ownBlock = some x ∧ x < w.heap.size := by
  rcases id h with ⟨hl, ⟨rfl, h0⟩ | ⟨g, cap, cur, rfl, hBg, hg, hnc, hcm, hcs, htk⟩⟩
  · subst h0
    have : l = [] := List.eq_nil_of_length_eq_zero (by simpa [Lib.byteCells] using hl)
    subst this
    exact ⟨_, _, rfl, Nat.le_refl _, Bytes.nil_, by simp [blkOf]⟩
  · exact ⟨_, _, rfl, hnc, ⟨Reads.of_own h, fun _ => ⟨g, 0, rfl⟩⟩, by simp [blkOf, Value.ownBlock]; exact Lib.lt_of_heap hg⟩
theorem own_kept {w w' : World} {K : List Nat} {base size n : Nat} {e : TypeId} {v : Value} {xs : List Value} (h : w.ownsRow base e size v n xs) (hk : Kept K w w') (hn : ∀ x, v.ownBlock = some x → x ∉ K) : w'.ownsRow base e size v n xs := by
  obtain ⟨hl, h0 | ⟨g, cap, cur, rfl, hB, hg, hr⟩⟩ := h
  · exact ⟨hl, .inl h0⟩
  · exact ⟨hl, .inr ⟨g, cap, cur, rfl, hB, hk.heap hg (hn g (by simp [Value.ownBlock])), hr⟩⟩
/-- the state of ReadLines, done lines ahead and rest behind -/
structure At (w0 wr : World) (S R : Nat) (A : Option Addr) (n c : Nat) (l : List UInt8) (lv : Value) (done rest : List (List UInt8)) (PA : Option Addr) (pn pc i : Nat) (ev : Value) (vs : List Value) : Prop where
  sc : Sc wr S R ev (.slice PA pn pc)
  pay : PayOk wr w0.heap.size S R PA pc
  pn : pn ≤ pc
  pc : pc ≤ 140737488355328
  rd : Rd wr R A n c i
  le : i ≤ n
  rest : l.drop i = lines rest
  below : Below w0.heap.size w0 wr
  own : wr.ownsRow w0.heap.size 28 1 lv done.length vs
  one : ∀ v ∈ vs, v.oneCell' = true
  rows : All2 (RowV wr (S :: R :: (blkOf PA ++ lv.ownBlock.toList))) vs done
  far : ∀ x, lv.ownBlock = some x → x ∉ S :: R :: blkOf PA
def AtSome (w0 wr : World) (S R : Nat) (A : Option Addr) (n c : Nat) (l : List UInt8) (lv : Value) (done rest : List (List UInt8)) : Prop := ∃ PA pn pc i ev vs, At w0 wr S R A n c l lv done rest PA pn pc i ev vs
/-- what has been read -/
def Lines (w : World) (ps : List (List UInt8)) (e : Ending) (w' : World) : Prop :=
  ∃ v vs, e = .returned (.tuple #[v, .bool true]) ∧ w'.ownsRow w.heap.size 28 1 v ps.length vs ∧ All2 (RowV w' []) vs ps ∧ Below w.heap.size w w'
def lenOfSlice : Value → Nat
  | .slice _ n _ => n
  | _ => 0
theorem own_len {w : World} {B n : Nat} {e : TypeId} {v : Value} {xs : List Value} {size : Nat} (h : w.ownsRow B e size v n xs) : lenOfSlice v = n := by
  obtain ⟨_, ⟨rfl, rfl⟩ | ⟨g, cap, cur, rfl, _⟩⟩ := h <;> rfl
theorem infoRow : (Tryd.prog.info? 28).map (fun i => (i.zero, i.size, i.bytes)) = some (some (.slice none 0 0), 1, 24) := by kernel_rfl
set_option maxRecDepth 100000 in
set_option maxHeartbeats 4000000 in
theorem readLines_calls (A : Option Addr) (n c : Nat) (l : List UInt8) (ps : List (List UInt8)) (pe pu : Addr) (w : World) (hl : Bytes w w.heap.size A n l) (hnc : n ≤ c) (hn : n ≤ 140737488355328) (hps : l = lines ps) (hgood : ∀ p ∈ ps, Good p) (hlen : ps.length ≤ 4000)
    (hT : Two w pe pu) :
    Calls Tryd.prog 45 #[.slice A n c] w (Lines w ps) := by
  obtain ⟨i0, hi, hz0, hz1, hz2⟩ := info_parts mem.infoByte
  obtain ⟨i1, hi1, hy0, hy1, hy2⟩ := info_parts infoRow
  have HL := hid hl
  have HT := hid hT
  have HP := hid (And.intro hps (And.intro hgood hlen))
  have HN := hid (And.intro hnc hn)
  clear hl hT hps hgood hlen hnc hn
  go_enter Tryd.func45, Tryd.ntmps45
  go_wp2_with fail
  refine (newReader_calls A n c _).mono ?_
  rintro e w1 ⟨rfl, hw1⟩
  have HW1 := hid hw1
  clear hw1
  go_wp2_with fail
  refine (newScanner_calls _ _).mono ?_
  rintro e w2 ⟨rfl, hw2⟩
  have HW2 := hid hw2
  clear hw2
  go_wp2_with fail
  have hst : AtSome w w2 w1.heap.size w.heap.size A n c l (.slice none 0 0) [] ps := by
    have e1 := HW1.out
    have e2 := HW2.out
    have hz : w1.heap.size = w.heap.size + 1 := by rw [e1]; simp
    refine ⟨none, 0, 0, 0, .nilIface, [], ⟨⟨_, _, _, _, by rw [e2]; exact Blk.new _ _ _⟩, .inl ⟨rfl, rfl⟩, Nat.le_refl _, by omega, ⟨_, by rw [e2, e1]; exact Blk.alloc (Blk.new _ _ _) _⟩, by omega, by simpa using HP.out.1, ?_, World.ownsRow_nil _ _ _ _, by simp, .nil, by simp [Value.ownBlock]⟩⟩
    rw [e2, e1]
    exact ((Below.refl _ _).alloc (Nat.le_refl _) _).alloc (by simp) _
  have HST := hid hst
  have hSR : w1.heap.size ≠ w.heap.size := by rw [HW1.out]; simp
  have hBS : w.heap.size ≤ w1.heap.size := by rw [HW1.out]; simp
  clear hst HW1 HW2
  generalize w1.heap.size = S at *
  go_loopw [5] (fun lv wr => ∃ done rest, ps = done ++ rest ∧ AtSome w wr S w.heap.size A n c l lv done rest) (fun lv wr => ps.length - lenOfSlice lv)
  case atStart => exact ⟨[], ps, rfl, HST.out⟩
  case round =>
    obtain ⟨done, rest, hd, hat⟩ := hrel
    have HD := hid hd
    obtain ⟨PA, pn, pc, i, ev, vs, hat⟩ := hat
    have HA := hid hat
    clear hd hat
    have hT1 : Two wr pe pu := by
      obtain ⟨c1, t1, e1⟩ := HT.out.pb
      obtain ⟨c2, t2, e2⟩ := HT.out.pub_
      exact HT.out.below HA.out.below HT.out.eofg HT.out.unxg (Lib.lt_of_heap e1) (Lib.lt_of_heap e2)
    have HT1 := hid hT1
    clear hT1
    cases rest with
    | nil =>
      have hin : n ≤ i := by
        have h := congrArg List.length HA.out.rest
        simp [lines, HL.out.len] at h
        omega
      have c1 := hid (scan_end S w.heap.size ev (.slice PA pn pc) A n c i pe pu wr HA.out.sc HA.out.rd hin (by have := HA.out.le; have := HN.out.2; omega) HT1.out hSR (by have := HT.out.eofg; omega))
      clear hin
      go_wp2_with fail
      refine c1.out.mono ?_
      rintro e w3 ⟨rfl, hs, hr, hk⟩
      have HS3 := hid hs
      have HK3 := hid hk
      clear hs hr hk
      go_wp2_with fail
      go_quiet ((go_at_call 68; exact Calls.quiet_of_same (err_calls S w.heap.size .nilIface (.slice PA pn pc) _ HS3.out)))
      go_wp2_with fail
      go_ret2
      have hB : Below w.heap.size w w3 := HA.out.below.trans (HK3.out.below HA.out.below.size (by simpa using hBS))
      have hps : ps = done := by rw [HD.out]; simp
      have hown := HA.out.own
      have hkk : wr.grownBy w3 (some S) := ⟨HK3.out.os, HK3.out.tape, HK3.out.output, HK3.out.size, fun k hk hn => HK3.out.block k hk (by simpa using hn)⟩
      refine ⟨u5, vs, rfl, ?_, ?_, ⟨hB.os, hB.tape, hB.output, hB.size, hB.block⟩⟩
      · rw [hps]
        exact World.ownsRow.kept (row := some S) hown ⟨hkk.os, hkk.tape, hkk.output, hkk.size, hkk.block⟩ (.inr (fun e => HA.out.far _ e (by simp)))
      · rw [hps]
        refine HA.out.rows.mono fun v q hv => ?_
        obtain ⟨A', c', e', h1, h2, h3⟩ := hv.kept (F' := []) HK3.out (by simp) (by simp)
        exact ⟨A', c', e', h1, h2, h3⟩
    | cons p rest =>
      have hpg : Good p := HP.out.2.1 p (by rw [HD.out]; simp)
      have hrl : l.drop i = line p ++ lines rest := by rw [HA.out.rest, lines_cons]
      have hin : i + 4 + p.length ≤ n := by
        have h := congrArg List.length hrl
        rw [List.length_append, line_len, List.length_drop, HL.out.len] at h
        omega
      have c1 := hid (scan_line w.heap.size S w.heap.size ev PA pn pc A n c i l p pe pu wr HA.out.sc HA.out.pay HA.out.pn HA.out.pc HA.out.rd hin HN.out.2 HN.out.1 (HL.out.below HA.out.below) (Nat.le_refl _) hBS (fun e => hSR e.symm) HT1.out HT.out.eofg (by rw [hrl, show 4 + p.length = (line p).length by rw [line_len]; omega]; exact List.take_left' rfl) hpg)
      have HI := hid (And.intro hin (And.intro hrl hpg))
      clear hin hrl hpg
      go_wp2_with fail
      refine c1.out.mono ?_
      rintro e w3 ⟨rfl, PA3, pc3, h1, h2, h3, h4, h5, h6, h7⟩
      have H3 := hid (And.intro h1 (And.intro h2 (And.intro h3 (And.intro h4 (And.intro h5 (And.intro h6 h7))))))
      clear h1 h2 h3 h4 h5 h6 h7
      go_wp2_with fail
      have hka : Kept [] w3 (w3.alloc (.cells #[] 5)) := (Kept.refl [] w3).alloc _
      have c2 := bytes_calls S w.heap.size .nilIface (.slice PA3 p.length pc3) (w3.alloc (.cells #[] 5)) (H3.out.1.kept hka (by simp))
      refine c2.mono ?_
      rintro e w4 ⟨rfl, hw4⟩
      obtain rfl : w3.alloc (.cells #[] 5) = w4 := hw4.symm
      clear c2 hw4
      have ho1 := hid (own_new (heap_alloc_new w3 (.cells #[] 5)) (Nat.le_refl _))
      have hy1' := hid ((bytes_keep H3.out.2.2.2.1 hka (Nat.le_refl _) (by simp)).1)
      have hm9 := hid (show p.length ≤ 65516 from HI.out.2.2.1)
      clear hka
      have hdl := hid (show done.length + 1 ≤ 4000 by have := HP.out.2.2; rw [HD.out] at this; simp at this; omega)
      have hfar := hid HA.out.far
      go_wp2_with (first
        | (at_builtin
           refine wpList_append_any _ rfl (.tmp 13) (.tmp 15) _ rfl w3.heap.size 5 i0 _ 1 1 Tryd.underlying28 hi hz0 hz1 hz2 rfl (by omega) (.slice (some ⟨w3.heap.size, 0, none⟩) 0 0) 0 [] rfl ho1.out w3.heap.size PA3 p.length pc3 (byteCells p) rfl hy1'.out (cells_one _) (by have := hm9.out; simp only [maxLen]; omega) (by have := hm9.out; omega) (by simp) ?_
           intro v1 w4 hown1 hg1 hat1
           have hk4 : Kept [] w3 w4 := ((Kept.refl [] w3).alloc (.cells #[] 5)).trans (T := [w3.heap.size]) (.of_grown hg1) (by simp)
           have hob : v1.ownBlock = some w3.heap.size ∨ v1.ownBlock = some (w3.heap.size + 1) := by simpa [Value.ownBlock] using hat1
           obtain ⟨A1, cc1, rfl, hc1, hb1, hx1⟩ := own_bytes (n := p.length) (l := p) (by simpa using hown1)
           have hxa : ∀ x ∈ blkOf A1, w3.heap.size ≤ x ∧ x < w4.heap.size := (fun x hx => by have := hx1 x hx; rcases hob with h | h <;> rw [this.1] at h <;> injection h <;> omega)
           have H4 := hid (And.intro hk4 (And.intro hc1 (And.intro hb1 hxa)))
           have hown5 : w4.ownsRow w.heap.size 28 1 u5 done.length vs := own_kept HA.out.own (H3.out.2.2.2.2.2.1.trans hk4 (by simp)) hfar.out
           have ho5 := hid (hown5.alloc (.cells #[.slice A1 p.length cc1] 28))
           have hr5 := hid (show Reads (w4.alloc (.cells #[.slice A1 p.length cc1] 28)) (w4.heap.size + 1) 1 (some ⟨w4.heap.size, 0, none⟩) 1 [.slice A1 p.length cc1] from ⟨rfl, fun _ => ⟨_, rfl, by simp, fun j u hu => by rw [Lib.addr_add, Nat.zero_add, Lib.cell_of_heap (heap_alloc_new w4 _) j]; match j, hu with | 0, hu => exact hu⟩⟩)
           have hbz := hid (show w.heap.size ≤ (w4.alloc (.cells #[.slice A1 p.length cc1] 28)).heap.size by have := HA.out.below.size; have := H3.out.2.2.2.2.2.1.size; have := hk4.size; simp; omega)
           clear hg1 hat1 hown1 hob hk4 hc1 hb1 hx1 hxa hown5)
        | (at_builtin
           refine wpList_append_any _ rfl (.tmp 12) (.tmp 17) _ rfl w.heap.size 28 i1 _ 1 24 Tryd.underlying79 hi1 hy0 hy1 hy2 rfl (by omega) u5 done.length vs rfl ho5.out (w4.heap.size + 1) (some ⟨w4.heap.size, 0, none⟩) 1 1 [.slice A1 p.length cc1] rfl hr5.out (by simp [Value.oneCell']) (by have := hdl.out; simp only [maxLen]; omega) (by have := hdl.out; omega) hbz.out ?_
           intro v2 w5 hown2 hg2 hat2
           have H5 := hid (And.intro hown2 (And.intro hg2 hat2))
           clear hown2 hg2 hat2))
      obtain ⟨hk4, hc1, hb1, hxa⟩ := H4.out
      obtain ⟨hown2, hg2, hat2⟩ := H5.out
      obtain ⟨h1, h2, h3, h4, h5, h6, h7⟩ := H3.out
      have hk5 : Kept u5.ownBlock.toList w4 w5 := ((Kept.refl [] w4).alloc (.cells #[.slice A1 p.length cc1] 28)).more (T := u5.ownBlock.toList) (by simp) |>.trans (T := u5.ownBlock.toList) (.of_grown_own hg2 (fun g hg => .inl (by simp [hg]))) (fun x hx => .inl hx)
      have hk35 : Kept u5.ownBlock.toList w3 w5 := (hk4.more (by simp)).trans hk5 (fun x hx => .inl hx)
      have hlt5 : ∀ x, u5.ownBlock = some x → x < wr.heap.size := fun x hx => (HA.out.own.lt x hx).2
      have hfu : ∀ x, u5.ownBlock = some x → x ∉ S :: w.heap.size :: blkOf PA := HA.out.far
      have hne : ∀ y, y ∈ S :: w.heap.size :: blkOf PA3 → y ∉ u5.ownBlock.toList := fun y hy hm => by
        have e : u5.ownBlock = some y := by simpa using hm
        have := hlt5 y e
        have := hfu y e
        simp only [List.mem_cons, not_or] at this hy
        rcases hy with rfl | rfl | hy
        · exact this.1 rfl
        · exact this.2.1 rfl
        · rcases h7 y hy with h | h
          · exact this.2.2 h
          · omega
      have hv2 : ∀ x, v2.ownBlock = some x → u5.ownBlock = some x ∨ w4.heap.size < x := fun x hx => by
        rcases hat2 with h | h
        · exact .inl (by rw [← h, hx])
        · rw [hx] at h
          injection h with h
          exact .inr (by rw [h]; simp)
      have hsz := h6.size
      have hsz4 := hk4.size
      have hkt : Kept (S :: w.heap.size :: (blkOf PA ++ u5.ownBlock.toList)) wr w5 := (h6.more (by intro x hx; simp at hx ⊢; rcases hx with h | h | h <;> simp [h])).trans hk35 (fun x hx => .inl (by simp at hx ⊢; simp [hx]))
      have hbelow : Below w.heap.size w w5 := HA.out.below.trans (hkt.below HA.out.below.size (by
        intro x hx
        simp only [List.mem_cons, List.mem_append] at hx
        rcases hx with rfl | rfl | hx | hx
        · exact hBS
        · exact Nat.le_refl _
        · exact (HA.out.pay.no x hx).1
        · exact (HA.out.own.lt x (by simpa using hx)).1))
      have hS3 := h1.lt
      have hR3 := h5.lt
      have hF3 : ∀ x, x ∈ S :: w.heap.size :: (blkOf PA3 ++ v2.ownBlock.toList) → x ∈ S :: w.heap.size :: (blkOf PA ++ u5.ownBlock.toList) ∨ wr.heap.size ≤ x := by
        intro x hx
        simp only [List.mem_cons, List.mem_append] at hx ⊢
        rcases hx with h | h | h | h
        · exact .inl (.inl h)
        · exact .inl (.inr (.inl h))
        · rcases h7 x h with h' | h'
          · exact .inl (.inr (.inr (.inl h')))
          · exact .inr h'
        · rcases hv2 x (by simpa using h) with h' | h'
          · exact .inl (.inr (.inr (.inr (by simpa using h'))))
          · exact .inr (by omega)
      refine ⟨⟨done ++ [p], rest, by rw [HD.out]; simp, PA3, p.length, pc3, i + 4 + p.length, .nilIface, vs ++ [.slice A1 p.length cc1], ⟨h1.kept hk35 (hne S (by simp)), h2.kept hk35 (fun x hx => hne x (by simp [hx])), h3, h2.most, h5.kept hk35 (hne _ (by simp)), HI.out.1, ?_, hbelow, by simpa using hown2, ?_, ?_, ?_⟩⟩, ?_⟩
      · have h := congrArg (List.drop (4 + p.length)) HI.out.2.1
        rw [List.drop_drop, show 4 + p.length = (line p).length by rw [line_len]; omega, List.drop_left' rfl, line_len] at h
        rw [← h]
        congr 1
        omega
      · intro v hv
        rcases List.mem_append.1 hv with h | h
        · exact HA.out.one v h
        · simp at h; subst h; rfl
      · refine (HA.out.rows.mono fun v q hv => hv.kept hkt (fun x hx => .inl hx) hF3).snoc ⟨A1, cc1, rfl, hc1, (bytes_keep hb1 hk5 (Nat.le_refl _) (fun x hx hm => ?_)).more hk5.size, fun x hx => ⟨fun hm => ?_, Nat.lt_of_lt_of_le (hxa x hx).2 hk5.size⟩⟩
        · have := hxa x hx
          have := hlt5 x (by simpa using hm)
          omega
        · have h0 := hxa x hx
          simp only [List.mem_cons, List.mem_append] at hm
          rcases hm with h | h | h | h
          · omega
          · omega
          · have := (h2.no x h).2.2.2
            omega
          · rcases hv2 x (by simpa using h) with h' | h'
            · have := hlt5 x h'
              omega
            · omega
      · intro x hx hm
        rcases hv2 x hx with h' | h'
        · exact hne x hm (by simpa using h')
        · simp only [List.mem_cons] at hm
          rcases hm with h | h | h
          · omega
          · omega
          · have := (h2.no x h).2.2.2
            omega
      · have e1 := own_len hown2
        have e2 := own_len HA.out.own
        rw [e1, e2, HD.out]
        simp
        omega
end Go.Proofs.YtoihglnamclhfaaDoor.pkt
