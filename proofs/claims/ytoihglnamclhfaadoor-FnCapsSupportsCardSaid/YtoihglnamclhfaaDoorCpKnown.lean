/- capability.known, requiresArgument, multipleArgument. -/
import Derived.Test.YtoihglnamclhfaaDoorMapF
import Derived.Test.YtoihglnamclhfaaDoorFrame
import Derived.WalkKit
import Derived.ProofKit
import Derived.Lib.Hide
import Derived.WalkSpells
set_option linter.unusedVariables false
namespace Go.Proofs.YtoihglnamclhfaaDoor.cap
open Go.RowKit Lib frm mf

abbrev SetT : TypeId := 202
abbrev CapT : TypeId := 86
theorem zeroBool (w : World) : (zeroValue 4).run Tryd.prog w = .ok (.bool false) w := by kernel_rfl
theorem wpList_look_set {P : Program} (w : World) {ops : Array Oper} {rest : List Oper} {o : Oper} {a : Act} {Q : Exit → Act → World → Prop} (hg : o.guard = none) (m x : Operand) (t : TypeId) (hop : o.op = Op.lookup t m x false) (k e : TypeId) (hk : P.underlying k = some .string) (ht : P.underlying t = some (.map k e))
    (hz : ∀ w, (zeroValue e).run P w = .ok (.bool false) w) (b n : Nat) (l : List ByteArray) (hm : a.eval m = .map (some b)) (h : MapF P k w b n (setOf l))
    (s : ByteArray) (hx : a.eval x = .string s) (hs : s.size ≤ maxLen) (hK : wpList P ops Q rest (a.put o.dst (.bool (inSet l s))) w) : wpList P ops Q (o :: rest) a w :=
  wpList_look w hg m x t hop k e hk ht _ hz _ (code_bool false) b n _ hm h s hx hs (by rw [setOf_get]; exact hK)
theorem kept_turned {w0 w w' : World} {b : Nat} (h : Kept [] w0 w) (ht : w.mapTurned w' b) (hb : w0.heap.size ≤ b) : Kept [] w0 w' :=
  h.trans (Kept.of_grown ht.grown) (fun x hx => .inr (by
    obtain rfl : x = b := by simpa using hx
    exact hb))
def Says (w : World) (b : Bool) (e : Ending) (w' : World) : Prop := e = .returned (.bool b) ∧ Kept [] w w'
def multiL : List ByteArray := [⟨#[115, 121, 109, 114, 101, 102]⟩]
def reqL : List ByteArray := [⟨#[111, 98, 106, 101, 99, 116, 45, 102, 111, 114, 109, 97, 116]⟩, ⟨#[115, 121, 109, 114, 101, 102]⟩, ⟨#[112, 117, 115, 104, 45, 99, 101, 114, 116]⟩, ⟨#[97, 103, 101, 110, 116]⟩]
def knownL : List ByteArray := [⟨#[102, 105, 108, 116, 101, 114]⟩, ⟨#[111, 98, 106, 101, 99, 116, 45, 102, 111, 114, 109, 97, 116]⟩, ⟨#[115, 121, 109, 114, 101, 102]⟩, ⟨#[112, 117, 115, 104, 45, 99, 101, 114, 116]⟩, ⟨#[97, 108, 108, 111, 119, 45, 114, 101, 97, 99, 104, 97, 98, 108, 101, 45, 115, 104, 97, 49, 45, 105, 110, 45, 119, 97, 110, 116]⟩, ⟨#[97, 108, 108, 111, 119, 45, 116, 105, 112, 45, 115, 104, 97, 49, 45, 105, 110, 45, 119, 97, 110, 116]⟩, ⟨#[112, 117, 115, 104, 45, 111, 112, 116, 105, 111, 110, 115]⟩, ⟨#[97, 116, 111, 109, 105, 99]⟩, ⟨#[113, 117, 105, 101, 116]⟩, ⟨#[100, 101, 108, 101, 116, 101, 45, 114, 101, 102, 115]⟩, ⟨#[114, 101, 112, 111, 114, 116, 45, 115, 116, 97, 116, 117, 115]⟩, ⟨#[105, 110, 99, 108, 117, 100, 101, 45, 116, 97, 103]⟩, ⟨#[110, 111, 45, 112, 114, 111, 103, 114, 101, 115, 115]⟩, ⟨#[100, 101, 101, 112, 101, 110, 45, 114, 101, 108, 97, 116, 105, 118, 101]⟩, ⟨#[100, 101, 101, 112, 101, 110, 45, 110, 111, 116]⟩, ⟨#[100, 101, 101, 112, 101, 110, 45, 115, 105, 110, 99, 101]⟩, ⟨#[115, 104, 97, 108, 108, 111, 119]⟩, ⟨#[97, 103, 101, 110, 116]⟩, ⟨#[111, 102, 115, 45, 100, 101, 108, 116, 97]⟩, ⟨#[115, 105, 100, 101, 45, 98, 97, 110, 100, 45, 54, 52, 107]⟩, ⟨#[115, 105, 100, 101, 45, 98, 97, 110, 100]⟩, ⟨#[116, 104, 105, 110, 45, 112, 97, 99, 107]⟩, ⟨#[110, 111, 45, 100, 111, 110, 101]⟩, ⟨#[109, 117, 108, 116, 105, 95, 97, 99, 107, 95, 100, 101, 116, 97, 105, 108, 101, 100]⟩, ⟨#[109, 117, 108, 116, 105, 95, 97, 99, 107]⟩]
set_option maxRecDepth 100000 in
set_option maxHeartbeats 4000000 in
theorem multi_calls (s : ByteArray) (w : World) (hs : s.size ≤ maxLen) : Calls Tryd.prog 102 #[.string s] w (Says w (inSet multiL s)) := by
  have hmm := @run_makeMap Tryd.prog
  have HS := hid hs
  have HM := hid (MapF.set_nil (MapF.made (P := Tryd.prog) (k := CapT) w))
  have HK := hid ((Kept.refl [] w).alloc (.map #[] 0))
  clear hs
  go_enter Tryd.func102, Tryd.ntmps102
  go_wp2_with (first
    | (refine wpList_ins_set _ rfl (.tmp 3) _ _ SetT rfl CapT 4 Tryd.underlying86 Tryd.underlying202 w.heap.size _ _ rfl HM.out (by decide) _ rfl (by decide) rfl ?_; intro w2 h1 h2; replace HM := hid h1; replace HK := hid (kept_turned HK.out h2 (Nat.le_refl _)); clear h1 h2)
    | (at_lookup; refine wpList_look_set _ rfl (.tmp 4) _ SetT rfl CapT 4 Tryd.underlying86 Tryd.underlying202 zeroBool w.heap.size _ _ rfl HM.out s rfl HS.out ?_)
    | fail)
  go_ret
  exact ⟨rfl, HK.out⟩
set_option maxRecDepth 100000 in
set_option maxHeartbeats 4000000 in
theorem req_calls (s : ByteArray) (w : World) (hs : s.size ≤ maxLen) : Calls Tryd.prog 129 #[.string s] w (Says w (inSet reqL s)) := by
  have hmm := @run_makeMap Tryd.prog
  have HS := hid hs
  have HM := hid (MapF.set_nil (MapF.made (P := Tryd.prog) (k := CapT) w))
  have HK := hid ((Kept.refl [] w).alloc (.map #[] 0))
  clear hs
  go_enter Tryd.func129, Tryd.ntmps129
  go_wp2_with (first
    | (refine wpList_ins_set _ rfl (.tmp 3) _ _ SetT rfl CapT 4 Tryd.underlying86 Tryd.underlying202 w.heap.size _ _ rfl HM.out (by decide) _ rfl (by decide) rfl ?_; intro w2 h1 h2; replace HM := hid h1; replace HK := hid (kept_turned HK.out h2 (Nat.le_refl _)); clear h1 h2)
    | (at_lookup; refine wpList_look_set _ rfl (.tmp 4) _ SetT rfl CapT 4 Tryd.underlying86 Tryd.underlying202 zeroBool w.heap.size _ _ rfl HM.out s rfl HS.out ?_)
    | fail)
  go_ret
  exact ⟨rfl, HK.out⟩
set_option maxRecDepth 100000 in
set_option maxHeartbeats 4000000 in
theorem known_calls (s : ByteArray) (w : World) (hs : s.size ≤ maxLen) : Calls Tryd.prog 101 #[.string s] w (Says w (inSet knownL s)) := by
  have hmm := @run_makeMap Tryd.prog
  have HS := hid hs
  have HM := hid (MapF.set_nil (MapF.made (P := Tryd.prog) (k := CapT) w))
  have HK := hid ((Kept.refl [] w).alloc (.map #[] 0))
  clear hs
  go_enter Tryd.func101, Tryd.ntmps101
  go_wp2_with (first
    | (refine wpList_ins_set _ rfl (.tmp 3) _ _ SetT rfl CapT 4 Tryd.underlying86 Tryd.underlying202 w.heap.size _ _ rfl HM.out (by decide) _ rfl (by decide) rfl ?_; intro w2 h1 h2; replace HM := hid h1; replace HK := hid (kept_turned HK.out h2 (Nat.le_refl _)); clear h1 h2)
    | (at_lookup; refine wpList_look_set _ rfl (.tmp 4) _ SetT rfl CapT 4 Tryd.underlying86 Tryd.underlying202 zeroBool w.heap.size _ _ rfl HM.out s rfl HS.out ?_)
    | fail)
  go_ret
  exact ⟨rfl, HK.out⟩
end Go.Proofs.YtoihglnamclhfaaDoor.cap
