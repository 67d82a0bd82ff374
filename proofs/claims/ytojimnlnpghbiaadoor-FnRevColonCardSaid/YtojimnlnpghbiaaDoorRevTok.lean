/- tokenizeExpression: a word, a number. -/
import Derived.Test.YtojimnlnpghbiaaDoorRevClass
import Derived.Laws.Cover4
set_option linter.unusedVariables false
attribute [local go_sem ↓] Go.wp_at_zero Go.wp_at_succ
namespace Go.Proofs.YtojimnlnpghbiaaDoor.rev
open Go.RowKit Lib frm mem rd

def runeCells (l : List UInt8) : List Value := l.map fun b => .int .i32 b.toNat
theorem enc1 (r : Nat) (h : r < 128) : (Utf8.encode (r : Int)).data.toList = [UInt8.ofNat r] := by
  have v : Utf8.valid (r : Int) = true := by simp [Utf8.valid]; omega
  simp [Utf8.encode, v, h]
theorem runes_text (l : List UInt8) (h : ∀ x ∈ l, x.toNat < 128) : runesBytes (l.map fun b => (b.toNat : Int)) = ⟨l.toArray⟩ := by
  have aux : ∀ (l : List UInt8) (acc : ByteArray), (∀ x ∈ l, x.toNat < 128) → ((l.map fun b => (b.toNat : Int)).foldl (fun r n => r ++ Utf8.encode n) acc).data.toList = acc.data.toList ++ l := by
    intro l
    induction l with
    | nil => intro acc _; simp
    | cons x t ih =>
      intro acc hx
      have hx0 := hx x (List.mem_cons_self ..)
      rw [List.map_cons, List.foldl_cons, ih _ (fun y hy => hx y (List.mem_cons_of_mem _ hy))]
      simp only [ByteArray.data_append, Array.toList_append]
      rw [enc1 _ hx0]
      simp
  have h1 := aux l ByteArray.empty h
  unfold runesBytes
  have h2 : ∀ a b : ByteArray, a.data.toList = b.data.toList → a = b := by
    rintro ⟨⟨a⟩⟩ ⟨⟨b⟩⟩ h
    simpa using h
  exact h2 _ _ (by rw [h1]; simp)
theorem conv_runes {w : World} {B : Nat} {v : Value} {l : List UInt8} (h : w.ownsRow B 21 1 v l.length (runeCells l)) (h0 : l ≠ []) (ha : ∀ x ∈ l, x.toNat < 128) : (convert 195 9 v).run Tryd.prog w = .ok (.string ⟨l.toArray⟩) w := by
  have hl : 0 < l.length := List.length_pos_iff.2 h0
  rcases id h with ⟨_, ⟨_, hz⟩ | ⟨g, cap, cur, rfl, _, hg, _, _, _, htk⟩⟩
  · omega
  · have hc := h.cells (g := g) rfl
    rw [run_convert_runes w 195 9 21 ⟨g, 0, none⟩ l.length cap (l.map fun b => (b.toNat : Int)) (by simp) Tryd.underlying195 Tryd.underlying21 Tryd.underlying9 (fun j hj => ?_)]
    · rw [List.take_of_length_le (by simp), runes_text l ha]
    · have hj' : j < l.length := by simpa using hj
      refine hc j _ ?_
      simp [runeCells, hj']
end Go.Proofs.YtojimnlnpghbiaaDoor.rev
