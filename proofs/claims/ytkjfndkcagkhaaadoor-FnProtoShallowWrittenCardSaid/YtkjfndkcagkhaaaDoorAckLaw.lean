/- laws.FnProtoAck. -/
import Derived.Test.YtkjfndkcagkhaaaDoorAckText
import Derived.Test.YtkjfndkcagkhaaaDoorName40
import Derived.Lib.ConvBytes
import Derived.Test.YtkjfndkcagkhaaaDoorText
set_option linter.unusedVariables false
attribute [local go_sem ↓] Go.wp_at_zero Go.wp_at_succ
namespace Go.Proofs.YtkjfndkcagkhaaaDoor.ack
open Go.RowKit Lib frm mem rd pkt hash text

theorem app_list (a b : ByteArray) : (a ++ b).data.toList = a.data.toList ++ b.data.toList := by simp
theorem cat_run {P : Program} (a b : ByteArray) (h : a.size + b.size ≤ 9223372036854775807) : ∀ w, (Op.stringOp .add a b).run P w = .ok (.string (a ++ b)) w := fun w => by
  rw [run_string_add_if, if_neg (by omega)]
theorem cat_ex {P : Program} (a b : ByteArray) (h : a.size + b.size ≤ 9223372036854775807) : ∃ c : ByteArray, (∀ w, (Op.stringOp .add a b).run P w = .ok (.string c) w) ∧ c.data.toList = a.data.toList ++ b.data.toList ∧ c.size = a.size + b.size :=
  ⟨a ++ b, cat_run a b h, app_list a b, by simp [ByteArray.size_append]⟩
theorem below_world (w : World) (e : TypeId) (s : ByteArray) : Below w.heap.size w (bytesWorld w e s) :=
  ⟨rfl, rfl, rfl, by rw [bytesWorld_size]; omega, fun i hi => bytesWorld_at_old w e s i hi⟩
set_option maxRecDepth 100000 in
set_option maxHeartbeats 4000000 in
theorem goodHash_calls (s : ByteArray) (w : World) (hs : s.size ≤ 140737488351232) :
    Calls Tryd.prog 13 #[.string s] w fun e w' => (∃ b, e = .returned (.bool b) ∧ (b = true → Hex40 s)) ∧ w' = w := by
  have c1 := hid (isName_calls s w hs)
  cases hb : hex40B s with
  | false =>
    rw [hb] at c1
    go_enter Tryd.func13, Tryd.ntmps13
    go_wp2_with fail
    refine c1.out.mono ?_
    rintro e w' ⟨rfl, rfl⟩
    go_wp2_with fail
    go_ret
    exact ⟨⟨_, rfl, fun h => by cases h⟩, rfl⟩
  | true =>
    rw [hb] at c1
    have h40 := hex40_of hb
    have HH := hid h40
    clear h40
    go_enter Tryd.func13, Tryd.ntmps13
    go_wp2_with fail
    refine c1.out.mono ?_
    rintro e w' ⟨rfl, rfl⟩
    go_wp2_with fail
    go_ret
    exact ⟨⟨_, rfl, fun _ => HH.out⟩, rfl⟩
set_option maxRecDepth 100000 in
set_option maxHeartbeats 4000000 in
theorem law_calls (s : ByteArray) (w : World) (hs : s.size ≤ 140737488351232) (pe pu : Addr) (ev : Value) (hG : Ground w w.heap.size pe pu ev) :
    Calls Tryd.prog 4 #[.string s] w fun e w' => e = .returned (.bool true) ∧ Below w.heap.size w w' := by
  by_cases hbig : 2147483647 < s.size
  · have e1 : (2147483647 : Int) < (s.size : Int) := by omega
    clear hG hs hbig
    go_enter Tryd.func4, Tryd.ntmps4
    go_wp2_with fail
    go_ret
    exact ⟨rfl, Below.refl _ _⟩
  have e1 : ¬ (2147483647 : Int) < (s.size : Int) := by omega
  have c1 := hid (goodHash_calls s w hs)
  have HG := hid hG
  have HSZ := hid (Nat.le_of_not_lt hbig)
  clear hG hs hbig
  go_enter Tryd.func4, Tryd.ntmps4
  go_wp2_with fail
  refine c1.out.mono ?_
  rintro e w' ⟨⟨b, rfl, hb⟩, rfl⟩
  have HB := hid hb
  clear hb
  cases b with
  | false =>
    go_wp2_with fail
    refine (works_calls pe pu _ HG.out.two).mono ?_
    rintro e w2 ⟨rfl, h2⟩
    have H2 := hid h2
    clear h2
    go_wp2_with fail
    go_ret
    exact ⟨rfl, H2.out⟩
  | true =>
    have h40 := HB.out rfl
    have HH := hid h40
    obtain ⟨t1, ht1, hl1, hz1⟩ := cat_ex (P := Tryd.prog) ⟨#[65, 67, 75, 32]⟩ s (by have := h40.1; show 4 + s.size ≤ _; omega)
    obtain ⟨t2, ht2, hl2, hz2⟩ := cat_ex (P := Tryd.prog) t1 ⟨#[10]⟩ (by have := h40.1; rw [hz1]; show 4 + s.size + 1 ≤ _; omega)
    have htx : t2.data.toList = ackText s := by rw [hl2, hl1]; rfl
    have hts : t2.size = 45 := by
      have h := ackText_len h40
      rw [← htx] at h
      simpa using h
    have hk : Kept [] w' (bytesWorld w' 5 t2) := .of_below (below_world w' 5 t2)
    have hby : Bytes (bytesWorld w' 5 t2) (w'.heap.size + 1) (some ⟨w'.heap.size, 0, none⟩) 45 (ackText s) := by
      rw [← htx]
      refine ⟨⟨by simp [Lib.byteCells, hts], fun _ => ⟨_, rfl, by simp, fun j u hu => ?_⟩⟩, fun _ => ⟨_, _, rfl⟩⟩
      have hj : j < t2.size := by
        have := (List.getElem?_eq_some_iff.1 hu).1
        simpa [Lib.byteCells] using this
      rw [Lib.addr_add, Nat.zero_add, bytesWorld_cell w' 5 t2 j hj, ← hu]
      have hj2 : j < t2.data.toList.length := by simpa using hj
      simp only [Lib.byteCells, List.getElem?_map, List.getElem?_eq_getElem hj2, Option.map_some, List.getD_eq_getElem?_getD, Option.getD_some]
    have hsz := bytesWorld_size w' 5 t2
    have hcv := Go.Lib.run_convert_string_bytes (P := Tryd.prog) w' 9 25 5 t2 Tryd.underlying9 Tryd.underlying25 Tryd.underlying5
    rw [hts] at hcv
    generalize grownCap w' 45 0 5 = cap at *
    generalize bytesWorld w' 5 t2 = w1 at *
    have HK1 := hid hk
    have HBY := hid hby
    have HZ1 := hid hsz
    clear hl1 hl2 hz1 hz2 htx h40 hk hby hsz hts
    go_wp2_with fail
    have c2 := line_calls (some ⟨w'.heap.size, 0, none⟩) cap (w'.heap.size + 1) (ackText s) w1 (by rw [ackText_len HH.out]; exact HBY.out) (by rw [HZ1.out]; omega) (by rw [ackText_len HH.out]; omega)
    rw [ackText_len HH.out] at c2
    refine c2.mono ?_
    rintro e w2 ⟨A2, c2', rfl, h2, h3, h4⟩
    have h49 : (line (ackText s)).length = 49 := by rw [line_eq, List.length_append, hex4_len, ackText_len HH.out]
    rw [h49] at h2 h3 ⊢
    have hbw : Below w'.heap.size w' w2 := below_more (HK1.out.below (Nat.le_refl _) (by simp)) h4
    have HY2 := hid h3
    have HB2 := hid hbw
    clear h2 h3 h4 hbw c2
    go_wp2_with fail
    refine (readAcks_calls w2.heap.size A2 c2' s w2 HH.out HY2.out (Nat.le_refl _) pe pu ev ((HG.out.below HB2.out).up HB2.out.size)).mono ?_
    rintro e w3 ⟨v3, rfl, g3, c3, rfl, h1, h2⟩
    have HB3 := hid (HB2.out.trans (h2.below HB2.out.size (by simp)))
    have q3 : w3.cell? ⟨g3, 0, none⟩ = some (.string s) := h1
    clear h1 h2
    go_wp2_with fail
    refine bodyPost_ret (by simp [results, Tryd.results4, go_sem]; rfl) rfl ?_
    exact ⟨rfl, HB3.out⟩
end Go.Proofs.YtkjfndkcagkhaaaDoor.ack
