/- config.Subsection.SetOption. -/
import Derived.Test.YtmhcbgmnhcfhfaaDoorChWith
set_option linter.unusedVariables false
attribute [local go_sem ↓] Go.wp_at_zero Go.wp_at_succ
namespace Go.Proofs.YtmhcbgmnhcfhfaaDoor.cf
open Go.RowKit Lib mem opn frm strs

/-- the part in block g has n options at most -/
def SubSet (w : World) (g : Nat) (nm : ByteArray) (n : Nat) (e : Ending) (w' : World) : Prop := e = .returned (.pointer (some ⟨g, 0, none⟩)) ∧ Kept [g] w w' ∧ ∃ v os, Blk w' g TU #[.string nm, v] ∧ OptsP w' v os ∧ os.length ≤ n
set_option maxRecDepth 100000 in
set_option maxHeartbeats 4000000 in
theorem subSetOption_calls (g : Nat) (nm : ByteArray) (v vv : Value) (xs : List OptD) (key val : ByteArray) (w : World) (hb : Blk w g TU #[.string nm, v]) (h : OptsP w v xs) (hn : xs.length ≤ 1048576) (hw : ∀ o ∈ xs, WordOk o.key) (hk : WordOk key) (ht : TextRow w vv 1 [val]) :
    Calls Tryd.prog 47 #[.pointer (some ⟨g, 0, none⟩), .string key, vv] w (SubSet w g nm (xs.length + 1)) := by
  have c0 : w.cell? ⟨g, 1, none⟩ = some v := hb.cell 1 rfl
  have c1 := hid (withSetted_calls v vv xs key val w h hn hw hk ht)
  have HB := hid hb
  clear hb h hn hw hk ht
  go_enter Tryd.func47, Tryd.ntmps47
  go_wp2_with fail
  refine c1.out.mono ?_
  rintro e w1 ⟨v1, rfl, h0, m, vs, os, hm, ho, ha, hl⟩
  obtain ⟨A1, cc1, rfl, _⟩ := row_some ho
  have HB1 := hid (HB.out.kept h0 (by simp))
  have q1 : w1.cell? ⟨g, 1, none⟩ = some v := HB1.out.cell 1 rfl
  have f1 : w1.frozen? ⟨g, 1, none⟩ = false := HB1.out.frozen 1
  have H1 := hid (And.intro h0 (And.intro hm (And.intro ho (And.intro ha hl))))
  clear h0 hm ho ha hl
  go_wp2_with fail
  go_ret
  obtain ⟨h0, hm, ho, ha, hl⟩ := H1.out
  have hT : Ty [PO, TO] w1 (w1.setCell ⟨g, 1, none⟩ (.slice A1 m cc1)) := Ty.set_ HB1.out (by decide) 1 _
  refine ⟨rfl, (h0.more (by simp)).setCell (p := ⟨g, 1, none⟩) (.inl (by simp)) _, _, os, HB1.out.set_ 1 _, ⟨vs, ?_, ha.mono fun _ _ h => h.ty hT (by simp)⟩, by omega⟩
  rw [hl]
  exact own_base (own_ty (ts := [PO, TO]) ho hT (by simp)) (Nat.zero_le _)
end Go.Proofs.YtmhcbgmnhcfhfaaDoor.cf
