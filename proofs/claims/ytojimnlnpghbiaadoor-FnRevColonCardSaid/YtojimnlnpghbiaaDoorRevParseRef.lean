/- Parser.parseRef over a name's tokens. -/
import Derived.Test.YtojimnlnpghbiaaDoorRevLex
import Derived.Deep.LoopGhost
set_option linter.unusedVariables false
attribute [local go_sem ↓] Go.wp_at_zero Go.wp_at_succ
namespace Go.Proofs.YtojimnlnpghbiaaDoor.rev
open Go.RowKit Lib frm mem rd

/-- a part of a revision has been read, these tokens lie ahead -/
def PRev (p : Pl) (h S : Nat) (v : Value) (ts : List Tk) (w : World) (e : Ending) (w' : World) : Prop :=
  e = .returned (.tuple #[v, .nilIface]) ∧ Ahead p h S ts w' ∧ Kept (own p h) w w'
def refV (s : ByteArray) : Value := .iface 105 (.string s)
def EndK (k : Nat) : Prop := k = 0 ∨ k = 3 ∨ k = 6 ∨ k = 17 ∨ k = 4
/-- a text of small letters and digits -/
def AllAl (s : ByteArray) : Prop := ∀ x ∈ s.data.toList, Alnum x
theorem no_lock {s : ByteArray} (h : AllAl s) (m : Nat) : (s.extract m s.size).toList ≠ [46, 108, 111, 99, 107] := by
  intro e
  have e2 : (s.extract m s.size).data.toList = [46, 108, 111, 99, 107] := by rw [← ByteArray.toList_eq]; exact e
  have h46 : (46 : UInt8) ∈ (s.extract m s.size).data.toList := by rw [e2]; simp
  have : (46 : UInt8) ∈ s.data.toList := by
    simp only [ByteArray.data_extract, Array.toList_extract, List.extract_eq_take_drop] at h46
    exact List.mem_of_mem_drop (List.mem_of_mem_take h46)
  rcases h _ this with h1 | h1
  · exact absurd h1.1 (by decide)
  · exact absurd h1.1 (by decide)
theorem check_end (v : Value) (t pt : Nat) (lit buf : ByteArray) (w : World) (ht : EndK t) (hp : pt = 19 ∨ pt = 11) (ha : AllAl buf) (hb : buf.size ≤ 4096) :
    Calls Tryd.prog 77 #[v, .int .i64 t, .string lit, .int .i64 pt, .string buf, .bool true] w (NoErr w) := by
  by_cases h4 : buf.size ≤ 4
  · exact check_end_short v t pt lit buf w ht hp h4
  · exact check_end_long v t pt (buf.size - 5) lit buf w ht hp (by omega) hb rfl (no_lock ha _)
theorem textOf_cons (t : Tk) (ts : List Tk) : textOf (t :: ts) = t.2 ++ textOf ts := rfl
theorem ba_assoc (a b c : ByteArray) : a ++ b ++ c = a ++ (b ++ c) := ba_ext (by simp)
theorem ba_size (a b : ByteArray) : (a ++ b).size = a.size + b.size := by simp
theorem cat_le {a b c s : ByteArray} {n : Nat} (h : a ++ (b ++ c) = s) (hs : s.size ≤ n) : a.size + b.size ≤ n := by
  have := ba_size a (b ++ c)
  rw [h, ba_size b c] at this
  omega
theorem ba_nil (a : ByteArray) : a ++ (⟨#[]⟩ : ByteArray) = a := ba_ext (by simp)
theorem nil_ba (a : ByteArray) : (⟨#[]⟩ : ByteArray) ++ a = a := ba_ext (by simp)
set_option maxRecDepth 100000 in
set_option maxHeartbeats 4000000 in
theorem parseRef_calls (p : Pl) (h S : Nat) (ns : List Tk) (tk : Nat) (tl : ByteArray) (ts : List Tk) (s : ByteArray) (w : World) (hn : ns ≠ []) (hw : Words ns) (ht : EndK tk) (hs : textOf ns = s) (hal : AllAl s) (hsz : s.size ≤ 4096) (ha : Ahead p h S (ns ++ (tk, tl) :: ts) w) :
    Calls Tryd.prog 60 #[.pointer (some ⟨h, 0, none⟩)] w (PRev p h S (refV s) ((tk, tl) :: ts) w) := by
  have HN := hid (And.intro hn (And.intro hw (And.intro ht (And.intro hs (And.intro hal hsz)))))
  have HA := hid ha
  clear hn hw ht hs hal hsz ha
  go_enter Tryd.func60, Tryd.ntmps60
  go_wp2_with fail
  go_loopg [5, 7, 8] ns.length (fun g pv bv ev wr => ∃ (rest : List Tk) (pt : Nat) (buf : ByteArray), rest.length = g ∧ pv = .int .i64 pt ∧ bv = .string buf ∧ ev = .bool false ∧ Hid (Words rest ∧ buf ++ textOf rest = s ∧ (pt = 0 ∨ pt = 19 ∨ pt = 11) ∧ (rest = [] → pt = 19 ∨ pt = 11)) ∧ Hid (Ahead p h S (rest ++ (tk, tl) :: ts) wr ∧ Kept (own p h) w wr))
  case atStart => exact ⟨ns, 0, ⟨#[]⟩, rfl, rfl, rfl, rfl, hid ⟨HN.out.2.1, by rw [nil_ba]; exact HN.out.2.2.2.1, .inl rfl, fun e => absurd e HN.out.1⟩, hid ⟨HA.out, Kept.refl _ _⟩⟩
  case round =>
    obtain ⟨rest, pt, buf, hg, rfl, rfl, rfl, hR, hW⟩ := hrel
    have HG := hid hg
    clear hg
    cases rest with
    | cons x rest =>
      obtain ⟨xk, xs⟩ := x
      have c1 := hid (scan_calls p h S (xk, xs) (rest ++ (tk, tl) :: ts) wr hW.out.1)
      go_wp2_with fail
      refine c1.out.mono ?_
      rintro e w1 ⟨rfl, hd, hk⟩
      have HD := hid (And.intro hd (hW.out.2.trans_ hk))
      have hx : xk = 19 ∨ xk = 11 := hR.out.1 _ (List.mem_cons_self ..)
      have c2 := hid (check_word (.pointer (some ⟨h, 0, none⟩)) xk pt xs buf w1 hx hR.out.2.2.1)
      have hle : buf.size + xs.size ≤ 4096 := cat_le hR.out.2.1 HN.out.2.2.2.2.2
      clear hd hk c1
      rcases hx with rfl | rfl
      all_goals
        go_wp2_with fail
        refine c2.out.mono ?_
        rintro e x1 ⟨rfl, hx⟩
        obtain rfl : w1 = x1 := hx.symm
        clear hx c2
        go_wp2_with fail
        go_roundg rest.length
        case measure => have := HG.out; simp at this; omega
        case rel =>
          refine ⟨rest, _, _, rfl, rfl, rfl, rfl, hid ⟨fun y hy => hR.out.1 y (List.mem_cons_of_mem _ hy), ?_, ?_, ?_⟩, hid ⟨HD.out.1.ahead, HD.out.2⟩⟩
          · rw [ba_assoc]; exact hR.out.2.1
          · simp
          · simp
    | nil =>
      have c1 := hid (scan_calls p h S (tk, tl) ts wr hW.out.1)
      have hkk := HN.out.2.2.1
      have hpt := hR.out.2.2.2 rfl
      obtain rfl : s = buf := by have := hR.out.2.1; rw [show textOf [] = (⟨#[]⟩ : ByteArray) from rfl, ba_nil] at this; exact this.symm
      go_wp2_with fail
      refine c1.out.mono ?_
      rintro e w1 ⟨rfl, hd, hk⟩
      have HD := hid (And.intro hd (hW.out.2.trans_ hk))
      have c2 := hid (check_end (.pointer (some ⟨h, 0, none⟩)) tk pt tl s w1 (by unfold EndK; exact hkk) hpt (by exact HN.out.2.2.2.2.1) (by exact HN.out.2.2.2.2.2))
      have c3 := hid (back_calls p h S (tk, tl) ts w1 hd)
      clear hd hk c1
      have HPT := hid hpt
      clear hpt
      rcases hkk with rfl | rfl | rfl | rfl | rfl
      all_goals
        go_wp2_with fail
        refine c2.out.mono ?_
        rintro e x1 ⟨rfl, hx⟩
        obtain rfl : w1 = x1 := hx.symm
        clear hx c2
        go_wp2_with fail
        refine c3.out.mono ?_
        rintro e w2 ⟨rfl, ha2, hk2⟩
        have HF := hid (And.intro ha2 (HD.out.2.trans_ hk2))
        clear ha2 hk2 c3
        go_wp2_with fail
        refine bodyPost_ret (by simp [results, Tryd.results60, go_sem]; rfl) rfl ?_
        exact ⟨rfl, HF.out.1, HF.out.2⟩
end Go.Proofs.YtojimnlnpghbiaaDoor.rev
