/- (*Index).Entry. -/
import Derived.Test.YtnidjkmfnojlaaaDoorIdxRow
set_option linter.unusedVariables false
attribute [local go_sem ↓] Go.wp_at_zero Go.wp_at_succ
namespace Go.Proofs.YtnidjkmfnojlaaaDoor.idx
open Go.RowKit Lib frm mem opn hash strs
theorem list_inj {a b : ByteArray} (h : a.toList = b.toList) : a = b := by
  rw [ByteArray.toList_eq, ByteArray.toList_eq] at h
  cases a; cases b
  simpa using h
/-- the first file of that name, or none -/
def Found (fs : List FileD) (nm : ByteArray) (f : FileD) : Prop := ∃ i, fs[i]? = some f ∧ f.name = nm ∧ ∀ (j : Nat) (x : FileD), j < i → fs[j]? = some x → x.name ≠ nm
def EntryIs (w : World) (fs : List FileD) (nm : ByteArray) (ev : Value) (e : Ending) (w' : World) : Prop :=
  Kept [] w w' ∧ ((∃ b f, Found fs nm f ∧ e = .returned (.tuple #[.pointer (some ⟨b, 0, none⟩), .nilIface]) ∧ Blk w' b Ety (entryCells f).toArray) ∨ ((∀ f ∈ fs, f.name ≠ nm) ∧ e = .returned (.tuple #[.pointer none, ev])))
set_option maxRecDepth 100000 in
set_option maxHeartbeats 4000000 in
theorem entry_calls (B g n : Nat) (fs : List FileD) (v : Value) (ps : List Value) (nm : ByteArray) (w : World) (h : IdxAt w B g n fs v ps) (hn : n ≤ 1000) (hl : fs.length = n) (hh : ∀ f ∈ fs, Hex40 f.hash)
    (ev : Value) (hE : w.cell? ⟨0, 0, none⟩ = some ev) :
    Calls Tryd.prog 19 #[.pointer (some ⟨g, 0, none⟩), .string nm] w (EntryIs w fs nm ev) := by
  have hb : (n : Int) ≤ 1000 := by omega
  obtain ⟨A, c, rfl, hA⟩ := own_form h.2.1
  have HI := hid h
  have q1 : w.cell? ⟨g, 1, none⟩ = some (.slice A n c) := h.1.cell 1 rfl
  clear h hA
  go_enter Tryd.func19, Tryd.ntmps19
  go_wp2_with fail
  go_loopw [14] (fun iv wr => ∃ k : Nat, k ≤ n ∧ iv = .int .i64 k ∧ wr = w ∧ Hid (∀ (j : Nat) (x : FileD), j < k → fs[j]? = some x → x.name ≠ nm)) (fun iv _ => n - (RowKit.intOf iv).toNat)
  case atStart => exact ⟨0, by omega, rfl, rfl, hid (fun j x hj => absurd hj (by omega))⟩
  case round =>
    obtain ⟨k, hk, rfl, rfl, hP⟩ := hrel
    by_cases hlt : k < n
    · obtain ⟨r, cap, hv, _, hr⟩ := HI.out.2.1.form (by omega : 0 < n)
      cases hv
      obtain ⟨f, hfk⟩ : ∃ f, fs[k]? = some f := ⟨_, List.getElem?_eq_getElem (by omega)⟩
      obtain ⟨bk, hpk, hB, hblk⟩ := HI.out.2.2.2 k f hlt hfk
      have cellk : wr.cell? ⟨r, k, none⟩ = some (.pointer (some ⟨bk, 0, none⟩)) := by
        have := HI.out.2.1.cells (g := r) rfl k _ hpk
        rwa [WideShapes.add_plain, Nat.zero_add] at this
      have cn : wr.cell? ⟨bk, 20, none⟩ = some (.string f.name) := hblk.cell 20 (by
        have hl := hashCells_len (hh f (List.mem_of_getElem? hfk))
        unfold entryCells
        rw [List.getElem?_toArray, List.getElem?_append_right (by rw [hl]; decide), hl]
        rfl)
      have HBk := hid hblk
      have HFk := hid hfk
      clear hpk hblk hfk hr
      by_cases hnm : f.name = nm
      · have HN := hid hnm
        have e1 : (f.name.toList == nm.toList) = true := by rw [hnm]; exact beq_self_eq_true _
        clear hnm
        go_wp2_with fail
        go_ret2
        exact ⟨Kept.refl _ _, .inl ⟨bk, f, ⟨k, HFk.out, HN.out, hP.out⟩, rfl, HBk.out⟩⟩
      · have HN := hid hnm
        have e1 : (f.name.toList == nm.toList) = false := by rw [beq_eq_false_iff_ne]; exact fun h => hnm (list_inj h)
        clear hnm
        go_wp2_with fail
        go_roundw
        case rel => exact ⟨k + 1, by omega, by go_num, trivial, hid (fun j x hj hx => by rcases Nat.lt_succ_iff_lt_or_eq.mp hj with h | rfl; exact hP.out j x h hx; rw [HFk.out] at hx; cases hx; exact HN.out)⟩
        case measure => simp [RowKit.intOf]; omega
    · go_wp2_with fail
      go_region_held3 (fun w' => w'.cell? ⟨0, 0, none⟩ = some ev) (go_keep) (fail)
      go_wp2_with fail
      go_ret2
      exact ⟨(Kept.refl _ _).drew, .inr ⟨fun f hf => by
        obtain ⟨i, hi, rfl⟩ := List.getElem_of_mem hf
        exact hP.out i _ (by omega) (List.getElem?_eq_getElem hi), rfl⟩⟩
end Go.Proofs.YtnidjkmfnojlaaaDoor.idx
