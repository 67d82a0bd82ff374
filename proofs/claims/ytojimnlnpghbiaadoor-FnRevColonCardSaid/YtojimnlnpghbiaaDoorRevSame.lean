/- spec.SameParts over two rows of the same parts. -/
import Derived.Test.YtojimnlnpghbiaaDoorRevParse
import Derived.Laws.StructEq
import Derived.Outline
set_option linter.unusedVariables false
attribute [local go_sem ↓] Go.wp_at_zero Go.wp_at_succ
namespace Go.Proofs.YtojimnlnpghbiaaDoor.rev
open Go.RowKit Lib frm mem rd

abbrev Pty : TypeId := 36
theorem four {α β : Type} {l : List α} {g : α → β} {a b c d : β} (h : l.map g = [a, b, c, d]) : ∃ f0 f1 f2 f3, l = [f0, f1, f2, f3] ∧ g f0 = a ∧ g f1 = b ∧ g f2 = c ∧ g f3 = d := by
  rcases l with _ | ⟨f0, _ | ⟨f1, _ | ⟨f2, _ | ⟨f3, _ | ⟨f4, r⟩⟩⟩⟩⟩ <;> simp at h
  exact ⟨f0, f1, f2, f3, rfl, h.1, h.2.1, h.2.2.1, h.2.2.2⟩
theorem neq_part (k t : ByteArray) (d : Int) (b : Bool) (w : World) :
    (binOp .neq Pty (.agg #[.string k, .string t, .int .i64 d, .bool b]) (.agg #[.string k, .string t, .int .i64 d, .bool b])).run Tryd.prog w = .ok (.bool false) w := by
  rw [run_neq_struct, run_equalIn_agg _ _ _ _ _ (by kernel_rfl) (by kernel_rfl)]
  have h : ((Tryd.prog.fieldsOf Pty).toList.map fun f => (f.name != "_", f.type, f.offset)) = [(true, 9, 0), (true, 9, 1), (true, 3, 2), (true, 4, 3)] := by kernel_rfl
  obtain ⟨f0, f1, f2, f3, hl, h0, h1, h2, h3⟩ := four h
  simp only [Prod.mk.injEq, bne_iff_ne] at h0 h1 h2 h3
  rw [hl]
  simp only [Op.eqFields, h0, h1, h2, h3, ne_eq, not_false_eq_true, if_true]
  simp [go_sem, Tryd.underlying9, Tryd.underlying3, Tryd.underlying4]
theorem Rv.form (r : Rv) : ∃ (k t : ByteArray) (d : Int) (b : Bool), r.cells = [.string k, .string t, .int .i64 d, .bool b] := by
  cases r <;> exact ⟨_, _, _, _, rfl⟩
def cellsOf (rs : List Rv) : List Value := rs.flatMap Rv.cells
theorem cells_len (r : Rv) : r.cells.length = 4 := by cases r <;> rfl
theorem cells_at : ∀ (rs : List Rv) (k i : Nat) (r : Rv), rs[k]? = some r → i < 4 → (cellsOf rs)[k * 4 + i]? = r.cells[i]?
  | [], k, i, r, h, _ => by simp at h
  | a :: rs, 0, i, r, h, hi => by
    obtain rfl : a = r := by simpa using h
    show (a.cells ++ cellsOf rs)[0 * 4 + i]? = _
    rw [List.getElem?_append_left (by rw [cells_len]; omega)]
    congr 1
    omega
  | a :: rs, k + 1, i, r, h, hi => by
    have h' : rs[k]? = some r := by simpa using h
    show (a.cells ++ cellsOf rs)[(k + 1) * 4 + i]? = _
    rw [List.getElem?_append_right (by rw [cells_len]; omega), cells_len, ← cells_at rs k i r h' hi]
    congr 1
    omega
def Holds (w : World) (g : Nat) (rs : List Rv) : Prop := ∀ j u, (cellsOf rs)[j]? = some u → w.cell? ⟨g, j, none⟩ = some u
theorem Holds.four {w : World} {g : Nat} {rs : List Rv} (h : Holds w g rs) (k : Nat) (r : Rv) (hr : rs[k]? = some r) (a b c d : Value) (hc : r.cells = [a, b, c, d]) :
    w.cell? ⟨g, k * 4, none⟩ = some a ∧ w.cell? ⟨g, k * 4 + 1, none⟩ = some b ∧ w.cell? ⟨g, k * 4 + 2, none⟩ = some c ∧ w.cell? ⟨g, k * 4 + 3, none⟩ = some d := by
  have key := fun i hi => cells_at rs k i r hr hi
  rw [hc] at key
  exact ⟨h _ _ (key 0 (by omega)), h _ _ (key 1 (by omega)), h _ _ (key 2 (by omega)), h _ _ (key 3 (by omega))⟩
def SaysTrue (w : World) (e : Ending) (w' : World) : Prop := e = .returned (.bool true) ∧ ∃ n, w' = w.drewN n
set_option maxRecDepth 100000 in
set_option maxHeartbeats 4000000 in
theorem same_calls (rs : List Rv) (n ga gb ca cb : Nat) (w : World) (hl : rs.length = n) (hn : n ≤ 10) (ha : Holds w ga rs) (hb : Holds w gb rs) (hca : n ≤ ca) (hcb : n ≤ cb) :
    Calls Tryd.prog 32 #[.slice (some ⟨ga, 0, none⟩) n ca, .slice (some ⟨gb, 0, none⟩) n cb] w (SaysTrue w) := by
  have HA := hid (And.intro ha hb)
  have HL := hid hl
  have hm : n ≤ 9223372036854775807 := by omega
  clear ha hb hl
  go_enter Tryd.func32, Tryd.ntmps32
  go_wp2_with fail
  go_loopw [13] (fun iv wr => ∃ k m : Nat, k ≤ n ∧ iv = .int .i64 k ∧ wr = w.drewN m) (fun iv _ => n - (RowKit.intOf iv).toNat)
  case atStart => exact ⟨0, 0, by omega, rfl, rfl⟩
  case round =>
    obtain ⟨k, m, hk, rfl, rfl⟩ := hrel
    by_cases hlt : k < n
    · obtain ⟨r, hr⟩ : ∃ r, rs[k]? = some r := ⟨_, List.getElem?_eq_getElem (by rw [HL.out]; exact hlt)⟩
      obtain ⟨x, t, d, b, hc⟩ := r.form
      obtain ⟨a0, a1, a2, a3⟩ := HA.out.1.four k r hr _ _ _ _ hc
      obtain ⟨b0, b1, b2, b3⟩ := HA.out.2.four k r hr _ _ _ _ hc
      have hne := fun w => neq_part x t d b w
      clear hr hc
      go_wp2_with fail
      go_quiet (fail)
      go_wp2_with fail
      go_roundw
      case rel => exact ⟨k + 1, m + nq, by omega, by go_num, by simp⟩
      case measure => simp [RowKit.intOf]; omega
    · go_wp2_with fail
      go_ret
      exact ⟨rfl, m, rfl⟩
end Go.Proofs.YtojimnlnpghbiaaDoor.rev
