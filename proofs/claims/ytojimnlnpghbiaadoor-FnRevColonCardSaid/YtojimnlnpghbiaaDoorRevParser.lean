/- Parser.scan, Parser.unscan. -/
import Derived.Test.YtojimnlnpghbiaaDoorRevScan
set_option linter.unusedVariables false
attribute [local go_sem ↓] Go.wp_at_zero Go.wp_at_succ
namespace Go.Proofs.YtojimnlnpghbiaaDoor.rev
open Go.RowKit Lib frm mem rd

/-- a parser in block h, over the scanner in block S -/
def Ps (w : World) (h S : Nat) (k : Nat) (s : ByteArray) (un : Bool) : Prop := Blk w h 143 #[.pointer (some ⟨S, 0, none⟩), .int .i64 k, .string s, .bool un]
/-- a token given by the parser -/
def PTok (p : Pl) (h S : Nat) (k : Nat) (s : ByteArray) (l : List UInt8) (w : World) (e : Ending) (w' : World) : Prop :=
  e = .returned (.tuple #[.int .i64 k, .string s, .nilIface]) ∧ Ps w' h S k s false ∧ Rn p l w' ∧ Kept (h :: p.bs) w w'
set_option maxRecDepth 100000 in
set_option maxHeartbeats 2000000 in
theorem pscan_new (p : Pl) (h S k0 : Nat) (s0 : ByteArray) (k : Nat) (s : ByteArray) (l : List UInt8) (w : World) (hP : Ps w h S k0 s0 false) (hn : h ∉ p.bs)
    (hs : Calls Tryd.prog 71 #[.pointer (some ⟨S, 0, none⟩)] w (Tok p k s l w)) :
    Calls Tryd.prog 53 #[.pointer (some ⟨h, 0, none⟩)] w (PTok p h S k s l w) := by
  have h0 : w.cell? ⟨h, 0, none⟩ = some (.pointer (some ⟨S, 0, none⟩)) := hP.cell 0 rfl
  have h3 : w.cell? ⟨h, 3, none⟩ = some (.bool false) := hP.cell 3 rfl
  have HP := hid hP
  have HN := hid hn
  have c1 := hid hs
  clear hP hn hs
  go_enter Tryd.func53, Tryd.ntmps53
  go_wp2_with fail
  refine c1.out.mono ?_
  rintro e w1 ⟨rfl, hr, hk⟩
  have hp1 : Ps w1 h S k0 s0 false := HP.out.kept hk HN.out
  have h1 : w1.cell? ⟨h, 1, none⟩ = some (.int .i64 k0) := hp1.cell 1 rfl
  have h2 : w1.cell? ⟨h, 2, none⟩ = some (.string s0) := hp1.cell 2 rfl
  have f1 : w1.frozen? ⟨h, 1, none⟩ = false := hp1.frozen 1
  have f2 : w1.frozen? ⟨h, 2, none⟩ = false := hp1.frozen 2
  have HP1 := hid hp1
  have HR := hid hr
  have HK := hid hk
  clear hr hk hp1 c1 h0 h3
  go_wp2_with fail
  refine bodyPost_ret (by simp [results, Tryd.results53, go_sem]; rfl) rfl ?_
  have hk2 : Kept [h] w1 ((w1.setCell ⟨h, 1, none⟩ (.int .i64 k)).setCell ⟨h, 2, none⟩ (.string s)) := (((Kept.refl [h] w1).setCell (p := ⟨h, 1, none⟩) (.inl (by simp)) _).setCell (p := ⟨h, 2, none⟩) (.inl (by simp)) _)
  refine ⟨rfl, ?_, HR.out.below hk2 (fun x hx hm => HN.out (by simp at hm; subst hm; exact hx)), (HK.out.more (fun x hx => .inl (List.mem_cons_of_mem _ hx))).trans_ (hk2.more (by simp))⟩
  have := (HP1.out.set_ 1 (.int .i64 k)).set_ 2 (.string s)
  unfold Ps
  simpa using this
set_option maxRecDepth 100000 in
set_option maxHeartbeats 2000000 in
theorem pscan_un (p : Pl) (h S k : Nat) (s : ByteArray) (l : List UInt8) (w : World) (hP : Ps w h S k s true) (hn : h ∉ p.bs) (hr : Rn p l w) :
    Calls Tryd.prog 53 #[.pointer (some ⟨h, 0, none⟩)] w (PTok p h S k s l w) := by
  have h3 : w.cell? ⟨h, 3, none⟩ = some (.bool true) := hP.cell 3 rfl
  have f3 : w.frozen? ⟨h, 3, none⟩ = false := hP.frozen 3
  have HP := hid hP
  have HN := hid (And.intro hn hr)
  clear hP hn hr
  go_enter Tryd.func53, Tryd.ntmps53
  go_wp2_with fail
  have hp1 : Ps (w.setCell ⟨h, 3, none⟩ (.bool false)) h S k s false := by
    have := HP.out.set_ 3 (.bool false)
    unfold Ps
    simpa using this
  have hk1 : Kept [h] w (w.setCell ⟨h, 3, none⟩ (.bool false)) := (Kept.refl [h] w).setCell (p := ⟨h, 3, none⟩) (.inl (by simp)) _
  generalize w.setCell ⟨h, 3, none⟩ (.bool false) = w1 at *
  have h1 : w1.cell? ⟨h, 1, none⟩ = some (.int .i64 k) := hp1.cell 1 rfl
  have h2 : w1.cell? ⟨h, 2, none⟩ = some (.string s) := hp1.cell 2 rfl
  have HP1 := hid hp1
  have HK := hid hk1
  clear hp1 hk1 h3 f3
  go_quiet (fail)
  go_wp2_with fail
  refine bodyPost_ret (by simp [results, Tryd.results53, go_sem]; rfl) rfl ?_
  have hk2 : Kept [h] w (w1.drewN nq) := HK.out.drewN nq
  exact ⟨rfl, HP1.out, HN.out.2.below hk2 (fun x hx hm => HN.out.1 (by simp at hm; subst hm; exact hx)), hk2.more (by simp)⟩
def Unscanned (h S k : Nat) (s : ByteArray) (w : World) (e : Ending) (w' : World) : Prop := e = .returned (.tuple #[]) ∧ Ps w' h S k s true ∧ Kept [h] w w'
set_option maxRecDepth 100000 in
theorem unscan_calls (h S k : Nat) (s : ByteArray) (un : Bool) (w : World) (hP : Ps w h S k s un) :
    Calls Tryd.prog 59 #[.pointer (some ⟨h, 0, none⟩)] w (Unscanned h S k s w) := by
  have h3 : w.cell? ⟨h, 3, none⟩ = some (.bool un) := hP.cell 3 rfl
  have f3 : w.frozen? ⟨h, 3, none⟩ = false := hP.frozen 3
  have HP := hid hP
  clear hP
  go_enter Tryd.func59, Tryd.ntmps59
  go_wp2_with fail
  try go_end0
  refine ⟨rfl, ?_, (Kept.refl [h] w).setCell (p := ⟨h, 3, none⟩) (.inl (by simp)) _⟩
  have := HP.out.set_ 3 (.bool true)
  unfold Ps
  simpa using this
end Go.Proofs.YtojimnlnpghbiaaDoor.rev
