/- A map keyed by texts, told as a function of the keys: made, stored into, asked. Of any program. -/
import Derived.Test.YtoihglnamclhfaaDoorProg
import Derived.Maps.OwnSet
import Derived.Below
set_option linter.unusedVariables false
namespace Go.Proofs.YtoihglnamclhfaaDoor.mf
open Go.Maps Go.RowKit

/-- how an element that is a bool or a pointer to a whole block is coded -/
def code (v : Value) : Option (DataW Unit × List MemPlace) :=
  match v with
  | .bool b => some (.lit (.bool b), [])
  | .pointer (some ⟨b, 0, none⟩) => some (.lit (.int .i64 b), [])
  | .pointer none => some (.lit (.int .i64 (-1)), [])
  | _ => none
theorem code_bool (b : Bool) : code (.bool b) = some (.lit (.bool b), []) := rfl
theorem code_ptr (b : Nat) : code (.pointer (some ⟨b, 0, none⟩)) = some (.lit (.int .i64 b), []) := rfl
theorem code_nil : code (.pointer none) = some (.lit (.int .i64 (-1)), []) := rfl
def dec : DataW Unit → Value
  | .lit (.bool b) => .bool b
  | .lit (.int _ z) => if z = -1 then .pointer none else .pointer (some ⟨z.toNat, 0, none⟩)
  | _ => .nilIface
theorem dec_code {v : Value} {d : DataW Unit} {p : List MemPlace} (h : code v = some (d, p)) : dec d = v := by
  unfold code at h
  split at h
  · injection h with h; injection h with h; subst h; rfl
  · rename_i b
    injection h with h; injection h with h; subst h
    have e : ¬ ((b : Int) = -1) := by omega
    simp [dec, e]
  · injection h with h; injection h with h; subst h; rfl
  · cases h
theorem code_inj {v v' : Value} {d : DataW Unit} {p p' : List MemPlace} (h : code v = some (d, p)) (h' : code v' = some (d, p')) : v = v' := (dec_code h).symm.trans (dec_code h')
def lit (s : ByteArray) : Lit := .string s.data.toList
theorem lit_inj {s t : ByteArray} (h : lit s = lit t) : s = t := by
  unfold lit at h
  injection h with h
  cases s with | mk a => cases t with | mk b => cases a; cases b; simp_all
/-- block b is a map of at most n entries that holds just what f says -/
def MapF (P : Program) (k : TypeId) (w : World) (b n : Nat) (f : ByteArray → Option Value) : Prop :=
  ∃ D, w.ownsMap P k code b n D ∧ (∀ s v, f s = some v → ∃ d, code v = some (d, []) ∧ ∀ z, D.atKey (lit s) z = d) ∧ (∀ s, f s = none → ∀ z, D.atKey (lit s) z = z)
section
variable {P : Program} {k : TypeId} {w w' : World} {b n : Nat} {f : ByteArray → Option Value}
theorem MapF.made (w : World) : MapF P k (w.alloc (.map #[] 0)) w.heap.size 0 (fun _ => none) :=
  ⟨_, World.ownsMap_made _ _ _ _, fun _ _ hh => (nomatch hh), fun _ _ _ => rfl⟩
theorem MapF.lt (h : MapF P k w b n f) : b < w.heap.size := by obtain ⟨D, h, _⟩ := h; exact h.lt
theorem MapF.heap (h : MapF P k w b n f) (hb : w'.heap[b]? = w.heap[b]?) : MapF P k w' b n f := by
  obtain ⟨D, ⟨es, clock, h1, h2⟩, h3⟩ := h
  exact ⟨D, ⟨es, clock, hb.trans h1, h2⟩, h3⟩
theorem MapF.mono (h : MapF P k w b n f) {m : Nat} (hm : n ≤ m) : MapF P k w b m f := by
  obtain ⟨D, h1, h3⟩ := h
  exact ⟨D, h1.mono hm, h3⟩
theorem MapF.look {t e : TypeId} (h : MapF P k w b n f) (hk : P.underlying k = some .string) (ht : P.underlying t = some (.map k e)) {z : Value} (hz : ∀ w, (zeroValue e).run P w = .ok z w) {zd : DataW Unit} (hc : code z = some (zd, []))
    {s : ByteArray} (hs : s.size ≤ maxLen) : (Instr.lookup t (.map (some b)) (.string s) false).run P w = .ok ((f s).getD z) w := by
  obtain ⟨D, h1, h2, h3⟩ := h
  obtain ⟨v, ps, hrun, hv⟩ := h1.lookup (string_keyed hk) ht (hz w) hc (WideMaps.keyOf_string_mk hk hs)
  rw [hrun]
  cases hf : f s with
  | none =>
    rw [show Lit.string s.data.toList = lit s from rfl, h3 s hf] at hv
    rw [code_inj hv hc]; rfl
  | some u =>
    obtain ⟨d, hu, ha⟩ := h2 s u hf
    rw [show Lit.string s.data.toList = lit s from rfl, ha] at hv
    rw [code_inj hv hu]; rfl
theorem MapF.look_ok {t e : TypeId} (h : MapF P k w b n f) (hk : P.underlying k = some .string) (ht : P.underlying t = some (.map k e)) {z : Value} (hz : ∀ w, (zeroValue e).run P w = .ok z w) {zd : DataW Unit} (hc : code z = some (zd, []))
    {s : ByteArray} (hs : s.size ≤ maxLen) : (Instr.lookup t (.map (some b)) (.string s) true).run P w = .ok (.tuple #[(f s).getD z, .bool (f s).isSome]) w := by
  obtain ⟨D, h1, h2, h3⟩ := h
  obtain ⟨v, ps, hrun, hv⟩ := h1.look_ok (string_keyed hk) ht (hz w) hc (WideMaps.keyOf_string_mk hk hs)
  rw [hrun]
  cases hf : f s with
  | none =>
    rw [show Lit.string s.data.toList = lit s from rfl, h3 s hf] at hv
    rw [code_inj hv hc, show Lit.string s.data.toList = lit s from rfl, has_false_of_atKey (h3 s hf)]; rfl
  | some u =>
    obtain ⟨d, hu, ha⟩ := h2 s u hf
    rw [show Lit.string s.data.toList = lit s from rfl, ha] at hv
    rw [code_inj hv hu, show Lit.string s.data.toList = lit s from rfl, has_true_of_atKey ha]; rfl
theorem MapF.store {t e : TypeId} (h : MapF P k w b n f) (hk : P.underlying k = some .string) (ht : P.underlying t = some (.map k e)) (hn : n < maxLen) {s : ByteArray} (hs : s.size ≤ maxLen) {v : Value} {d : DataW Unit} (hv : code v = some (d, [])) :
    ∃ w', (Instr.mapUpdate t (.map (some b)) (.string s) v).run P w = .ok () w' ∧ MapF P k w' b (n + 1) (fun x => if x = s then some v else f x) ∧ w.mapTurned w' b := by
  obtain ⟨D, h1, h2, h3⟩ := h
  obtain ⟨w', hrun, h4, h5⟩ := h1.store (string_keyed hk) ht hn (WideMaps.keyOf_string_mk hk hs) hv
  have hD := h1.isMap
  have hkey : WideAt.IsKeyLit (lit s) := trivial
  refine ⟨w', hrun, ⟨_, h4, fun x u hx => ?_, fun x hx z => ?_⟩, h5⟩
  · by_cases e1 : x = s
    · subst e1
      dsimp only at hx
      rw [if_pos rfl] at hx
      cases hx
      exact ⟨d, hv, fun z => atKey_put_same hD hkey d z⟩
    · dsimp only at hx
      rw [if_neg e1] at hx
      obtain ⟨d', h6, h7⟩ := h2 x u hx
      exact ⟨d', h6, fun z => (atKey_put_other (fun e => e1 (lit_inj e)) d z).trans (h7 z)⟩
  · by_cases e1 : x = s
    · dsimp only at hx; rw [if_pos e1] at hx; cases hx
    · dsimp only at hx; rw [if_neg e1] at hx
      exact (atKey_put_other (fun e => e1 (lit_inj e)) d z).trans (h3 x hx z)
/-- a set: the keys that are true in it -/
def inSet : List ByteArray → ByteArray → Bool
  | [], _ => false
  | x :: l, s => decide (s = x) || inSet l s
def setOf (l : List ByteArray) (s : ByteArray) : Option Value := if inSet l s = true then some (.bool true) else none
theorem setOf_nil : (fun _ => none) = setOf [] := by funext x; rfl
theorem setOf_push (l : List ByteArray) (s : ByteArray) : (fun x => if x = s then some (.bool true) else setOf l x) = setOf (s :: l) := by
  funext x
  by_cases h : x = s
  · rw [if_pos h, setOf, if_pos (by rw [inSet, h]; simp)]
  · rw [if_neg h, setOf, setOf, inSet]; simp [h]
theorem setOf_get (l : List ByteArray) (s : ByteArray) : (setOf l s).getD (.bool false) = .bool (inSet l s) := by
  unfold setOf; split <;> simp_all
theorem MapF.set_nil (h : MapF P k w b n (fun _ => none)) : MapF P k w b n (setOf []) := by rw [← setOf_nil]; exact h
end
section
variable {P : Program} (w : World) {ops : Array Oper} {rest : List Oper} {o : Oper} {a : Act} {Q : Exit → Act → World → Prop}
/-- 'm[k]' -/
theorem wpList_look (hg : o.guard = none) (m x : Operand) (t : TypeId) (hop : o.op = Op.lookup t m x false) (k e : TypeId) (hk : P.underlying k = some .string) (ht : P.underlying t = some (.map k e))
    (z : Value) (hz : ∀ w, (zeroValue e).run P w = .ok z w) (zd : DataW Unit) (hc : code z = some (zd, [])) (b n : Nat) (f : ByteArray → Option Value) (hm : a.eval m = .map (some b)) (h : MapF P k w b n f)
    (s : ByteArray) (hx : a.eval x = .string s) (hs : s.size ≤ maxLen) (hK : wpList P ops Q rest (a.put o.dst ((f s).getD z)) w) : wpList P ops Q (o :: rest) a w := by
  refine wpList_plain hg fun K' hK' => ?_
  unfold Oper.wp
  simp [execOp, hop, hm, hx, h.look hk ht hz hc hs, Result.andThen]
  exact hK' _ _ hK
/-- 'v, ok := m[k]' -/
theorem wpList_look_ok (hg : o.guard = none) (m x : Operand) (t : TypeId) (hop : o.op = Op.lookup t m x true) (k e : TypeId) (hk : P.underlying k = some .string) (ht : P.underlying t = some (.map k e))
    (z : Value) (hz : ∀ w, (zeroValue e).run P w = .ok z w) (zd : DataW Unit) (hc : code z = some (zd, [])) (b n : Nat) (f : ByteArray → Option Value) (hm : a.eval m = .map (some b)) (h : MapF P k w b n f)
    (s : ByteArray) (hx : a.eval x = .string s) (hs : s.size ≤ maxLen) (hK : wpList P ops Q rest (a.put o.dst (.tuple #[(f s).getD z, .bool (f s).isSome])) w) : wpList P ops Q (o :: rest) a w := by
  refine wpList_plain hg fun K' hK' => ?_
  unfold Oper.wp
  simp [execOp, hop, hm, hx, h.look_ok hk ht hz hc hs, Result.andThen]
  exact hK' _ _ hK
/-- 'm[k] = v' -/
theorem wpList_store (hg : o.guard = none) (m x v : Operand) (t : TypeId) (hop : o.op = Op.mapUpdate t m x v) (k e : TypeId) (hk : P.underlying k = some .string) (ht : P.underlying t = some (.map k e))
    (b n : Nat) (f : ByteArray → Option Value) (hm : a.eval m = .map (some b)) (h : MapF P k w b n f) (hn : n < maxLen)
    (s : ByteArray) (hx : a.eval x = .string s) (hs : s.size ≤ maxLen) (u : Value) (hv : a.eval v = u) (d : DataW Unit) (hc : code u = some (d, []))
    (hK : ∀ w', MapF P k w' b (n + 1) (fun x => if x = s then some u else f x) → w.mapTurned w' b → wpList P ops Q rest (a.put o.dst undef) w') : wpList P ops Q (o :: rest) a w := by
  refine wpList_plain hg fun K' hK' => ?_
  obtain ⟨w', hrun, h1, h2⟩ := h.store hk ht hn hs hc
  unfold Oper.wp
  simp [execOp, hop, hm, hx, hv, hrun, Result.andThen]
  exact hK' _ _ (hK w' h1 h2)
/-- 'm[k] = true' -/
theorem wpList_store_set (hg : o.guard = none) (m x v : Operand) (t : TypeId) (hop : o.op = Op.mapUpdate t m x v) (k e : TypeId) (hk : P.underlying k = some .string) (ht : P.underlying t = some (.map k e))
    (b n : Nat) (l : List ByteArray) (hm : a.eval m = .map (some b)) (h : MapF P k w b n (setOf l)) (hn : n < maxLen)
    (s : ByteArray) (hx : a.eval x = .string s) (hs : s.size ≤ maxLen) (hv : a.eval v = .bool true)
    (hK : ∀ w', MapF P k w' b (n + 1) (setOf (s :: l)) → w.mapTurned w' b → wpList P ops Q rest (a.put o.dst undef) w') : wpList P ops Q (o :: rest) a w :=
  wpList_store w hg m x v t hop k e hk ht b n _ hm h hn s hx hs _ hv _ (code_bool true) fun w' h1 h2 => hK w' (by rw [setOf_push] at h1; exact h1) h2
/-- an entry of a map that is written out -/
theorem wpList_ins_set (hg : o.guard = none) (m x v : Operand) (t : TypeId) (hop : o.op = Op.insert t m x v) (k e : TypeId) (hk : P.underlying k = some .string) (ht : P.underlying t = some (.map k e))
    (b n : Nat) (l : List ByteArray) (hm : a.eval m = .map (some b)) (h : MapF P k w b n (setOf l)) (hn : n < maxLen)
    (s : ByteArray) (hx : a.eval x = .string s) (hs : s.size ≤ maxLen) (hv : a.eval v = .bool true)
    (hK : ∀ w', MapF P k w' b (n + 1) (setOf (s :: l)) → w.mapTurned w' b → wpList P ops Q rest (a.put o.dst undef) w') : wpList P ops Q (o :: rest) a w := by
  refine wpList_plain hg fun K' hK' => ?_
  obtain ⟨w', hrun, h1, h2⟩ := h.store hk ht hn hs (code_bool true)
  rw [setOf_push] at h1
  unfold Oper.wp
  simp [execOp, hop, hm, hx, hv, hrun, Result.andThen]
  exact hK' _ _ (hK w' h1 h2)
end
end Go.Proofs.YtoihglnamclhfaaDoor.mf
