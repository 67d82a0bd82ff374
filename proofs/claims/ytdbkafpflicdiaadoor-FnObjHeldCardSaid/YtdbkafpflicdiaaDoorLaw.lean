/- What every law's row is closed by: a call that answers true and leaves all that was in memory as it was meets the row. Of any program. -/
import Derived.Test.YtdbkafpflicdiaaDoorProg
import Derived.WalkKit
import Derived.ProofKit
import Derived.OpenShut
import Derived.Below
import Derived.ChangeOld
import Derived.WalkSmall
import Derived.RowKitTokens
set_option linter.unusedVariables false
namespace Go.Proofs.YtdbkafpflicdiaaDoor.law
open Go.ChangeShapes Go.WideShapes Go.ChangeAt Go.RowKit

/-- a variable that reads again: plain data, or of an interface type (a token) -/
def varOk (P : Program) (n : String) : Bool :=
  match P.globalNamed n with
  | some g => (match (P.globals[g]?).map (·.type) with
    | some t => (P.readableRec t && decide (t < P.types.size)) || (match P.underlying t with | some (.interface _) => true | _ => false)
    | none => false)
  | none => false

section
variable {H : Type} {enc : TypeId × Value → H} {P : Program} {W W' : World}

theorem iface_again {fuel : Nat} {t : TypeId} {ms : Array (String × TypeId)} {cs : List Value} {d : DataW H} {p : List MemPlace} {sp sp' : Nat → Bool} (ht : P.underlying t = some (.interface ms))
    (h : DataW.trod enc P W 0 sp true fuel t cs = some (d, p)) : DataW.trod enc P W' 0 sp' true fuel t cs = some (d, p) := by
  cases fuel with
  | zero => simp [DataW.trod] at h
  | succ n =>
    unfold DataW.trod at h ⊢
    rw [ht] at h ⊢
    match cs, h with
    | [.nilIface], h => simpa using h
    | [.iface u v], h => simpa using h

theorem vars_again (hl : laidOutB P = true) (hb : Below W.heap.size W W') : ∀ {ns : List String} {gs : List (DataW H)} {ps : List MemPlace}, ns.all (varOk P) = true →
    DataW.TrodVars enc P W (fun _ => true) ns gs ps → DataW.TrodVars enc P W' (fun b => decide (b < W.heap.size)) ns gs ps := by
  intro ns
  induction ns with
  | nil => intro gs ps _ h; cases gs <;> exact h
  | cons n ns ih =>
    intro gs ps ho h
    cases gs with
    | nil => exact h.elim
    | cons d gs =>
      obtain ⟨g, t, cs, fuel, p, q, hg, ht, hv, hd, hr, e⟩ := h
      simp only [List.all_cons, Bool.and_eq_true] at ho
      have hgb : g < W.heap.size := by
        unfold World.var? at hv
        simp only [hg, Option.bind_some] at hv
        rcases Nat.lt_or_ge g W.heap.size with h' | h'
        · exact h'
        · simp [Array.getElem?_eq_none h'] at hv
      have hlt := DataW.trod_lt fuel t cs.toList (d, p) hd
      refine ⟨g, t, cs, fuel, p, q, hg, ht, var?_below hb hg hgb hv, ?_, ih ho.2 hr, e⟩
      have h1 := ho.1
      unfold varOk at h1
      simp only [hg, ht] at h1
      rcases Bool.or_eq_true_iff.1 h1 with h2 | h2
      · simp only [Bool.and_eq_true, decide_eq_true_eq] at h2
        exact DataW.trod_stays (kids_book hl h2.1) (book_sized h2.1) (fun h => by cases h) ⟨h2.2, book_self t⟩ hd (fun x hx => hb.same (hlt x hx)) (fun x hx => by simpa using hlt x hx)
      · cases hu : P.underlying t with
        | none => simp [hu] at h2
        | some k => cases k <;> first | (exact iface_again hu hd) | (simp [hu] at h2)

theorem args_again (hl : laidOutB P = true) (hb : Below W.heap.size W W') : ∀ {ts : List TypeId} {vs : List Value} {ds : List (DataW H)} {ps : List MemPlace}, (ts.all fun t => P.readableRec t && decide (t < P.types.size)) = true →
    DataW.TrodAll enc P W 0 (fun _ => true) true ts vs ds ps → DataW.TrodAll enc P W' 0 (fun b => decide (b < W.heap.size)) true ts vs ds ps := by
  intro ts
  induction ts with
  | nil => intro vs ds ps _ h; cases vs <;> cases ds <;> exact h
  | cons t ts ih =>
    intro vs ds ps ho h
    simp only [List.all_cons, Bool.and_eq_true, decide_eq_true_eq] at ho
    cases vs with
    | nil => exact h.elim
    | cons v vs =>
      cases ds with
      | nil => exact h.elim
      | cons d ds =>
        obtain ⟨p, q, hd, hr, e⟩ := h
        obtain ⟨m, hm⟩ := id hd
        exact ⟨p, q, Below.trod hl ho.1.1 ho.1.2 hd hb (DataW.trod_lt m _ _ _ hm), ih (by simpa using ho.2) hr, e⟩

theorem vars_length {sp : Nat → Bool} : ∀ {ns : List String} {gs : List (DataW H)} {ps : List MemPlace}, DataW.TrodVars enc P W sp ns gs ps → gs.length = ns.length := by
  intro ns
  induction ns with
  | nil => intro gs ps h; cases gs with | nil => rfl | cons _ _ => exact h.elim
  | cons n ns ih =>
    intro gs ps h
    cases gs with
    | nil => exact h.elim
    | cons d gs =>
      obtain ⟨_, _, _, _, _, _, _, _, _, _, hr, _⟩ := h
      simp [ih hr]

/-- THE ROW's POST, of a law: it answered true; below the old heap nothing has turned. -/
theorem post_true {fn : Func} {s : ChangeSpec} {args : Array Value} {ds gs : List (DataW H)} {before : List MemPlace} {tb : TypeId} (hl : laidOutB P = true)
    (hp : (fn.params.toList.all fun t => P.readableRec t && decide (t < P.types.size)) = true) (hv : s.vars.all (varOk P) = true)
    (hr : fn.resultTypes = #[tb]) (htb : P.underlying tb = some .bool)
    (hW : DataW.Whole enc P fn.params.toList s.vars false W args.toList ds gs before) (hb : Below W.heap.size W W')
    (hs : s.fn H (ds ++ gs) = { results := [.lit (.bool true)], args := ds, vars := gs }) :
    s.post enc P fn false true false false W args (.bool true) W' := by
  obtain ⟨p, q, hA, hV, _, _, _⟩ := id hW
  refine ⟨ds, gs, before, [], p, q, hW, ?_, ?_, ?_, hb.frame _, fun h => by cases h⟩
  · rw [hs, hr]; exact trodAll_mk1 (shut_bool htb true)
  · rw [hs]; exact args_again hl hb hp hA
  · rw [hs]; exact vars_again hl hb hv hV
end
end Go.Proofs.YtdbkafpflicdiaaDoor.law
