/- The parts of a revision: parseCaret, parseAt at the texts that the laws speak of. -/
import Derived.Test.YtojimnlnpghbiaaDoorRevParseRef
set_option linter.unusedVariables false
attribute [local go_sem ↓] Go.wp_at_zero Go.wp_at_succ
namespace Go.Proofs.YtojimnlnpghbiaaDoor.rev
open Go.RowKit Lib frm mem rd

/-- strconv.Atoi gives n -/
def AtoiIs (n : Nat) (w : World) (e : Ending) (w' : World) : Prop := e = .returned (.tuple #[.int .i64 n, .nilIface]) ∧ Kept [] w w'
/-- a part is refused -/
def PErr (p : Pl) (h : Nat) (w : World) (e : Ending) (w' : World) : Prop :=
  (∃ a : Addr, e = .returned (.tuple #[.nilIface, .iface 145 (.pointer (some a))])) ∧ Kept (own p h) w w'
def AtoiAt (s : ByteArray) (n : Nat) : Prop := ∀ w, Calls Tryd.prog 72 #[.string s] w (AtoiIs n w)
set_option maxRecDepth 100000 in
set_option maxHeartbeats 4000000 in
theorem caret_bad (p : Pl) (h S : Nat) (s : ByteArray) (n : Nat) (ts : List Tk) (w : World) (hs : AtoiAt s n) (hn : 2 < n) (ha : Ahead p h S ((11, s) :: ts) w) :
    Calls Tryd.prog 56 #[.pointer (some ⟨h, 0, none⟩)] w (PErr p h w) := by
  have c1 := hid (scan_calls p h S (11, s) ts w ha)
  have HS := hid hs
  have g : (2 : Int) < (n : Int) := by omega
  clear ha hs hn
  go_enter Tryd.func56, Tryd.ntmps56
  go_wp2_with fail
  refine c1.out.mono ?_
  rintro e w1 ⟨rfl, hd, hk⟩
  have HK := hid hk
  clear hd hk c1
  go_wp2_with fail
  refine (HS.out w1).mono ?_
  rintro e w2 ⟨rfl, hk⟩
  have HK2 := hid (HK.out.trans hk (by simp))
  clear hk
  go_wp2_with fail
  refine bodyPost_ret (by simp [results, Tryd.results56, go_sem]; rfl) rfl ?_
  exact ⟨⟨_, rfl⟩, HK2.out.alloc _⟩
def reflogV (n : Nat) : Value := .iface 113 (.agg #[.int .i64 n])
def checkoutV (n : Nat) : Value := .iface 114 (.agg #[.int .i64 n])
set_option maxRecDepth 100000 in
set_option maxHeartbeats 4000000 in
theorem at_reflog (p : Pl) (h S : Nat) (s s1 s2 : ByteArray) (n : Nat) (ts : List Tk) (w : World) (hs : AtoiAt s n) (ha : Ahead p h S ((12, s1) :: (11, s) :: (5, s2) :: ts) w) :
    Calls Tryd.prog 54 #[.pointer (some ⟨h, 0, none⟩)] w (PRev p h S (reflogV n) ts w) := by
  have c1 := hid (scan_calls p h S (12, s1) _ w ha)
  have HS := hid hs
  clear ha hs
  go_enter Tryd.func54, Tryd.ntmps54
  go_wp2_with fail
  refine c1.out.mono ?_
  rintro e w1 ⟨rfl, hd, hk⟩
  have c2 := hid (scan_calls p h S (11, s) _ w1 hd.ahead)
  have HK := hid hk
  clear hd hk c1
  go_wp2_with fail
  refine c2.out.mono ?_
  rintro e w2 ⟨rfl, hd, hk⟩
  have c3 := hid (scan_calls p h S (5, s2) _ w2 hd.ahead)
  have HK2 := hid (HK.out.trans_ hk)
  clear hd hk c2
  go_wp2_with fail
  refine c3.out.mono ?_
  rintro e w3 ⟨rfl, hd, hk⟩
  have HD := hid (And.intro hd.ahead (HK2.out.trans_ hk))
  clear hd hk c3
  go_wp2_with fail
  refine (HS.out w3).mono ?_
  rintro e w4 ⟨rfl, hk⟩
  have HF := hid (And.intro (HD.out.1.kept hk) (HD.out.2.trans hk (by simp)))
  clear hk
  go_wp2_with fail
  refine bodyPost_ret (by simp [results, Tryd.results54, go_sem]; rfl) rfl ?_
  exact ⟨rfl, HF.out.1, HF.out.2⟩
set_option maxRecDepth 100000 in
set_option maxHeartbeats 4000000 in
theorem at_checkout (p : Pl) (h S : Nat) (s s1 s2 s3 : ByteArray) (n : Nat) (ts : List Tk) (w : World) (hs : AtoiAt s n) (ha : Ahead p h S ((12, s1) :: (10, s3) :: (11, s) :: (5, s2) :: ts) w) :
    Calls Tryd.prog 54 #[.pointer (some ⟨h, 0, none⟩)] w (PRev p h S (checkoutV n) ts w) := by
  have c1 := hid (scan_calls p h S (12, s1) _ w ha)
  have HS := hid hs
  clear ha hs
  go_enter Tryd.func54, Tryd.ntmps54
  go_wp2_with fail
  refine c1.out.mono ?_
  rintro e w1 ⟨rfl, hd, hk⟩
  have c2 := hid (scan_calls p h S (10, s3) _ w1 hd.ahead)
  have HK := hid hk
  clear hd hk c1
  go_wp2_with fail
  refine c2.out.mono ?_
  rintro e w2 ⟨rfl, hd, hk⟩
  have c3 := hid (scan_calls p h S (11, s) _ w2 hd.ahead)
  have HK2 := hid (HK.out.trans_ hk)
  clear hd hk c2
  go_wp2_with fail
  refine c3.out.mono ?_
  rintro e w3 ⟨rfl, hd, hk⟩
  have HD := hid (And.intro hd.ahead (HK2.out.trans_ hk))
  clear hd hk c3
  go_wp2_with fail
  refine (HS.out w3).mono ?_
  rintro e w4 ⟨rfl, hk⟩
  have c4 := hid (scan_calls p h S (5, s2) _ w4 (HD.out.1.kept hk))
  have HF := hid (HD.out.2.trans hk (by simp))
  clear hk
  go_wp2_with fail
  refine c4.out.mono ?_
  rintro e w5 ⟨rfl, hd, hk⟩
  have HF2 := hid (And.intro hd.ahead (HF.out.trans_ hk))
  clear hd hk c4
  go_wp2_with fail
  refine bodyPost_ret (by simp [results, Tryd.results54, go_sem]; rfl) rfl ?_
  exact ⟨rfl, HF2.out.1, HF2.out.2⟩
end Go.Proofs.YtojimnlnpghbiaaDoor.rev
