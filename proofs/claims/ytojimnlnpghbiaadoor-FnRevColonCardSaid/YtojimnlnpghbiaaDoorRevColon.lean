/- The parts of a revision behind a colon: parseColonDefault, parseColonSlash, parseColon. -/
import Derived.Test.YtojimnlnpghbiaaDoorRevParts
set_option linter.unusedVariables false
attribute [local go_sem ↓] Go.wp_at_zero Go.wp_at_succ
namespace Go.Proofs.YtojimnlnpghbiaaDoor.rev
open Go.RowKit Lib frm mem rd

def pathV (s : ByteArray) : Value := .iface 126 (.agg #[.string s])
def stageV (s : ByteArray) (k : Nat) : Value := .iface 128 (.agg #[.string s, .int .i64 k])
def regV (s : ByteArray) (b : Bool) : Value := .iface 124 (.agg #[.string s, .bool b])
set_option maxRecDepth 100000 in
set_option maxHeartbeats 4000000 in
theorem colon_path (p : Pl) (h S : Nat) (t0 : ByteArray) (ns : List Tk) (s : ByteArray) (ts : List Tk) (w : World) (hw : Words ns) (hsz : s.size ≤ 4096) (hs : t0 ++ textOf ns = s) (ha : Ahead p h S ((19, t0) :: (ns ++ eofT :: ts)) w) :
    Calls Tryd.prog 76 #[.pointer (some ⟨h, 0, none⟩)] w (PRev p h S (pathV s) ts w) := by
  have c1 := hid (scan_calls p h S (19, t0) _ w ha)
  have HN := hid (And.intro hw hs)
  have HZ := hid hsz
  obtain ⟨⟨tk, tl⟩, r1, he⟩ : ∃ (t1 : Tk) (r1 : List Tk), ns ++ eofT :: ts = t1 :: r1 := by cases ns <;> exact ⟨_, _, rfl⟩
  have HE := hid he
  have ht1 : Hid (tk = 0 ∨ tk = 19 ∨ tk = 11) := hid (by
    cases ns with
    | nil => injection he with e1 e2; injection e1 with e1 e3; exact .inl e1.symm
    | cons a b => injection he with e1 e2; have := hw a (List.mem_cons_self ..); rw [e1] at this; exact .inr this)
  have hl0 : t0.size ≤ 4096 := by have := ba_size t0 (textOf ns); rw [hs] at this; omega
  have hl1 : (⟨#[]⟩ : ByteArray).size + t0.size ≤ 4096 := by have : (⟨#[]⟩ : ByteArray).size = 0 := rfl; omega
  clear ha hw hs hsz he
  go_enter Tryd.func76, Tryd.ntmps76
  go_wp2_with fail
  refine c1.out.mono ?_
  rintro e w1 ⟨rfl, hd, hk⟩
  rw [HE.out] at hd
  have c2 := hid (scan_calls p h S (tk, tl) r1 w1 hd.ahead)
  have HK := hid hk
  clear hd hk c1
  go_wp2_with fail
  refine c2.out.mono ?_
  rintro e w2 ⟨rfl, hd, hk⟩
  have HK2 := hid (HK.out.trans_ hk)
  have c3 := hid (back_calls p h S (tk, tl) r1 w2 hd)
  clear hd hk c2
  go_wp2_with fail
  refine c3.out.mono ?_
  rintro e w3 ⟨rfl, hd, hk⟩
  rw [← HE.out] at hd
  have HA := hid (And.intro hd (HK2.out.trans_ hk))
  clear hd hk c3
  go_wp2_with fail
  go_loopg [6] ns.length (fun g bv wr => ∃ (rest : List Tk) (buf : ByteArray), rest.length = g ∧ bv = .string buf ∧ Hid (Words rest ∧ buf ++ textOf rest = s) ∧ Hid (Ahead p h S (rest ++ eofT :: ts) wr ∧ Kept (own p h) w wr))
  case atStart => exact ⟨ns, _, rfl, rfl, hid ⟨HN.out.1, by rw [nil_ba]; exact HN.out.2⟩, HA⟩
  case round =>
    obtain ⟨rest, buf, hg, rfl, hR, hW⟩ := hrel
    have HG := hid hg
    clear hg
    cases rest with
    | cons x rest =>
      obtain ⟨xk, xs⟩ := x
      have c1 := hid (scan_calls p h S (xk, xs) (rest ++ eofT :: ts) wr hW.out.1)
      go_wp2_with fail
      refine c1.out.mono ?_
      rintro e w1 ⟨rfl, hd, hk⟩
      have HD := hid (And.intro hd.ahead (hW.out.2.trans_ hk))
      have hx : xk = 19 ∨ xk = 11 := hR.out.1 _ (List.mem_cons_self ..)
      have hle : buf.size + xs.size ≤ 4096 := cat_le hR.out.2 HZ.out
      clear hd hk c1
      rcases hx with rfl | rfl
      all_goals
        go_wp2_with fail
        go_roundg rest.length
        case measure => have := HG.out; simp at this; omega
        case rel => exact ⟨rest, _, rfl, rfl, hid ⟨fun y hy => hR.out.1 y (List.mem_cons_of_mem _ hy), by rw [ba_assoc]; exact hR.out.2⟩, HD⟩
    | nil =>
      have c1 := hid (scan_calls p h S eofT ts wr hW.out.1)
      obtain rfl : s = buf := by have := hR.out.2; rw [show textOf [] = (⟨#[]⟩ : ByteArray) from rfl, ba_nil] at this; exact this.symm
      go_wp2_with fail
      refine c1.out.mono ?_
      rintro e w1 ⟨rfl, hd, hk⟩
      have HD := hid (And.intro hd.ahead (hW.out.2.trans_ hk))
      clear hd hk c1
      go_wp2_with fail
      refine bodyPost_ret (by simp [results, Tryd.results76, go_sem]; rfl) rfl ?_
      exact ⟨rfl, HD.out.1, HD.out.2⟩
set_option maxRecDepth 100000 in
set_option maxHeartbeats 4000000 in
theorem colon_stage (p : Pl) (h S : Nat) (d s6 : ByteArray) (n : Nat) (ns : List Tk) (s : ByteArray) (ts : List Tk) (w : World) (hd : AtoiAt d n) (hn : n ≤ 3) (hw : Words ns) (hsz : s.size ≤ 4096) (hs : textOf ns = s) (ha : Ahead p h S ((11, d) :: (6, s6) :: (ns ++ eofT :: ts)) w) :
    Calls Tryd.prog 76 #[.pointer (some ⟨h, 0, none⟩)] w (PRev p h S (stageV s n) ts w) := by
  have c1 := hid (scan_calls p h S (11, d) _ w ha)
  have HN := hid (And.intro hw hs)
  have HZ := hid hsz
  have HI := hid hd
  clear ha hw hs hsz hd
  have h4 : n = 0 ∨ n = 1 ∨ n = 2 ∨ n = 3 := by omega
  clear hn
  go_enter Tryd.func76, Tryd.ntmps76
  go_wp2_with fail
  refine c1.out.mono ?_
  rintro e w1 ⟨rfl, hd, hk⟩
  have c2 := hid (scan_calls p h S (6, s6) _ w1 hd.ahead)
  have HK := hid hk
  clear hd hk c1
  go_wp2_with fail
  refine c2.out.mono ?_
  rintro e w2 ⟨rfl, hd, hk⟩
  have HA2 := hid (And.intro hd.ahead (HK.out.trans_ hk))
  clear hd hk c2
  go_wp2_with fail
  refine (HI.out w2).mono ?_
  rintro e w3 ⟨rfl, hk⟩
  have HA := hid (And.intro (HA2.out.1.kept hk) (HA2.out.2.trans hk (by simp)))
  clear hk HI
  rcases h4 with rfl | rfl | rfl | rfl
  all_goals
    go_wp2_with fail
    go_loopg [6] ns.length (fun g bv wr => ∃ (rest : List Tk) (buf : ByteArray), rest.length = g ∧ bv = .string buf ∧ Hid (Words rest ∧ buf ++ textOf rest = s) ∧ Hid (Ahead p h S (rest ++ eofT :: ts) wr ∧ Kept (own p h) w wr))
    case atStart => exact ⟨ns, _, rfl, rfl, hid ⟨HN.out.1, by rw [nil_ba]; exact HN.out.2⟩, HA⟩
    case round =>
      obtain ⟨rest, buf, hg, rfl, hR, hW⟩ := hrel
      have HG := hid hg
      clear hg
      cases rest with
      | cons x rest =>
        obtain ⟨xk, xs⟩ := x
        have c1 := hid (scan_calls p h S (xk, xs) (rest ++ eofT :: ts) wr hW.out.1)
        go_wp2_with fail
        refine c1.out.mono ?_
        rintro e w1 ⟨rfl, hd, hk⟩
        have HD := hid (And.intro hd.ahead (hW.out.2.trans_ hk))
        have hx : xk = 19 ∨ xk = 11 := hR.out.1 _ (List.mem_cons_self ..)
        have hle : buf.size + xs.size ≤ 4096 := cat_le hR.out.2 HZ.out
        clear hd hk c1
        rcases hx with rfl | rfl
        all_goals
          go_wp2_with fail
          go_roundg rest.length
          case measure => have := HG.out; simp at this; omega
          case rel => exact ⟨rest, _, rfl, rfl, hid ⟨fun y hy => hR.out.1 y (List.mem_cons_of_mem _ hy), by rw [ba_assoc]; exact hR.out.2⟩, HD⟩
      | nil =>
        have c1 := hid (scan_calls p h S eofT ts wr hW.out.1)
        obtain rfl : s = buf := by have := hR.out.2; rw [show textOf [] = (⟨#[]⟩ : ByteArray) from rfl, ba_nil] at this; exact this.symm
        go_wp2_with fail
        refine c1.out.mono ?_
        rintro e w1 ⟨rfl, hd, hk⟩
        have HD := hid (And.intro hd.ahead (hW.out.2.trans_ hk))
        clear hd hk c1
        go_wp2_with fail
        refine bodyPost_ret (by simp [results, Tryd.results76, go_sem]; rfl) rfl ?_
        exact ⟨rfl, HD.out.1, HD.out.2⟩
set_option maxRecDepth 100000 in
set_option maxHeartbeats 4000000 in
theorem colon_reg (p : Pl) (h S : Nat) (ns : List Tk) (s : ByteArray) (ts : List Tk) (w : World) (hw : Words ns) (hsz : s.size ≤ 4096) (hs : textOf ns = s) (ha : Ahead p h S (ns ++ eofT :: eofT :: ts) w) :
    Calls Tryd.prog 75 #[.pointer (some ⟨h, 0, none⟩)] w (PRev p h S (regV s false) (eofT :: ts) w) := by
  have HN := hid (And.intro hw hs)
  have HZ := hid hsz
  have HA := hid (And.intro ha (Kept.refl (own p h) w))
  obtain ⟨neg, hneg⟩ : ∃ neg : Bool, neg = false := ⟨_, rfl⟩
  clear ha hw hs hsz
  go_enter Tryd.func75, Tryd.ntmps75
  go_wp2_with fail
  subst hneg
  go_loopg [7, 8] ns.length (fun g bv nv wr => ∃ (rest : List Tk) (buf : ByteArray), rest.length = g ∧ bv = .string buf ∧ nv = .bool false ∧ Hid (Words rest ∧ buf ++ textOf rest = s) ∧ Hid (Ahead p h S (rest ++ eofT :: eofT :: ts) wr ∧ Kept (own p h) w wr))
  case atStart => exact ⟨ns, _, rfl, rfl, rfl, hid ⟨HN.out.1, by rw [nil_ba]; exact HN.out.2⟩, HA⟩
  case round =>
    obtain ⟨rest, buf, hg, rfl, rfl, hR, hW⟩ := hrel
    have HG := hid hg
    clear hg
    cases rest with
    | cons x rest =>
      obtain ⟨xk, xs⟩ := x
      obtain ⟨⟨tk, tl⟩, r1, he⟩ : ∃ (t1 : Tk) (r1 : List Tk), rest ++ eofT :: eofT :: ts = t1 :: r1 := by cases rest <;> exact ⟨_, _, rfl⟩
      have HE := hid he
      have c1 := hid (scan_calls p h S (xk, xs) (rest ++ eofT :: eofT :: ts) wr hW.out.1)
      clear he
      go_wp2_with fail
      refine c1.out.mono ?_
      rintro e w1 ⟨rfl, hd, hk⟩
      rw [HE.out] at hd
      have c2 := hid (scan_calls p h S (tk, tl) r1 w1 hd.ahead)
      have HK := hid (hW.out.2.trans_ hk)
      have hx : xk = 19 ∨ xk = 11 := hR.out.1 _ (List.mem_cons_self ..)
      have hle : buf.size + xs.size ≤ 4096 := cat_le hR.out.2 HZ.out
      clear hd hk c1
      rcases hx with rfl | rfl
      all_goals
        go_wp2_with fail
        refine c2.out.mono ?_
        rintro e w2 ⟨rfl, hd, hk⟩
        have HK2 := hid (HK.out.trans_ hk)
        have c3 := hid (back_calls p h S (tk, tl) r1 w2 hd)
        clear hd hk c2
        go_wp2_with fail
      all_goals
        refine c3.out.mono ?_
        rintro e w3 ⟨rfl, hd, hk⟩
        rw [← HE.out] at hd
        have HA := hid (And.intro hd (HK2.out.trans_ hk))
        clear hd hk c3
        go_wp2_with fail
        go_roundg rest.length
        case measure => have := HG.out; simp at this; omega
        case rel => exact ⟨rest, _, rfl, rfl, rfl, hid ⟨fun y hy => hR.out.1 y (List.mem_cons_of_mem _ hy), by rw [ba_assoc]; exact hR.out.2⟩, HA⟩
    | nil =>
      have c1 := hid (scan_calls p h S eofT (eofT :: ts) wr hW.out.1)
      obtain rfl : s = buf := by have := hR.out.2; rw [show textOf [] = (⟨#[]⟩ : ByteArray) from rfl, ba_nil] at this; exact this.symm
      go_wp2_with fail
      refine c1.out.mono ?_
      rintro e w1 ⟨rfl, hd, hk⟩
      have HK := hid (hW.out.2.trans_ hk)
      have c2 := hid (scan_calls p h S eofT ts w1 hd.ahead)
      clear hd hk c1
      go_wp2_with fail
      refine c2.out.mono ?_
      rintro e w2 ⟨rfl, hd, hk⟩
      have HK2 := hid (HK.out.trans_ hk)
      have c3 := hid (back_calls p h S eofT ts w2 hd)
      clear hd hk c2
      go_wp2_with fail
      all_goals
        refine c3.out.mono ?_
        rintro e w3 ⟨rfl, hd, hk⟩
        have HD := hid (And.intro hd (HK2.out.trans_ hk))
        clear hd hk c3
        go_wp2_with fail
        refine bodyPost_ret (by simp [results, Tryd.results75, go_sem]; rfl) rfl ?_
        exact ⟨rfl, HD.out.1, HD.out.2⟩
set_option maxRecDepth 100000 in
set_option maxHeartbeats 4000000 in
theorem colon_neg (p : Pl) (h S : Nat) (s9 s10 : ByteArray) (ns : List Tk) (s : ByteArray) (ts : List Tk) (w : World) (hw : Words ns) (hsz : s.size ≤ 4096) (hs : textOf ns = s) (ha : Ahead p h S ((9, s9) :: (10, s10) :: (ns ++ eofT :: eofT :: ts)) w) :
    Calls Tryd.prog 75 #[.pointer (some ⟨h, 0, none⟩)] w (PRev p h S (regV s true) (eofT :: ts) w) := by
  have HN := hid (And.intro hw hs)
  have HZ := hid hsz
  have HA := hid (And.intro ha (Kept.refl (own p h) w))
  clear ha hw hs hsz
  go_enter Tryd.func75, Tryd.ntmps75
  go_wp2_with fail
  go_loopg [7, 8] (ns.length + 1) (fun g bv nv wr => (g = ns.length + 1 ∧ bv = .string ⟨#[]⟩ ∧ nv = .bool false ∧ Hid (Ahead p h S ((9, s9) :: (10, s10) :: (ns ++ eofT :: eofT :: ts)) wr ∧ Kept (own p h) w wr)) ∨ (∃ (rest : List Tk) (buf : ByteArray), rest.length = g ∧ bv = .string buf ∧ nv = .bool true ∧ Hid (Words rest ∧ buf ++ textOf rest = s) ∧ Hid (Ahead p h S (rest ++ eofT :: eofT :: ts) wr ∧ Kept (own p h) w wr)))
  case atStart => exact .inl ⟨rfl, rfl, rfl, HA⟩
  case round =>
    rcases hrel with ⟨hg, rfl, rfl, hW⟩ | ⟨rest, buf, hg, rfl, rfl, hR, hW⟩
    · have HG := hid hg
      have c1 := hid (scan_calls p h S (9, s9) _ wr hW.out.1)
      clear hg
      go_wp2_with fail
      refine c1.out.mono ?_
      rintro e w1 ⟨rfl, hd, hk⟩
      have HK := hid (hW.out.2.trans_ hk)
      have c2 := hid (scan_calls p h S (10, s10) _ w1 hd.ahead)
      clear hd hk c1
      go_wp2_with fail
      refine c2.out.mono ?_
      rintro e w2 ⟨rfl, hd, hk⟩
      have HD := hid (And.intro hd.ahead (HK.out.trans_ hk))
      clear hd hk c2
      go_wp2_with fail
      go_roundg ns.length
      case measure => have := HG.out; omega
      case rel => exact .inr ⟨ns, _, rfl, rfl, rfl, hid ⟨HN.out.1, by rw [nil_ba]; exact HN.out.2⟩, HD⟩
    · have HG := hid hg
      clear hg
      cases rest with
      | cons x rest =>
        obtain ⟨xk, xs⟩ := x
        obtain ⟨⟨tk, tl⟩, r1, he⟩ : ∃ (t1 : Tk) (r1 : List Tk), rest ++ eofT :: eofT :: ts = t1 :: r1 := by cases rest <;> exact ⟨_, _, rfl⟩
        have HE := hid he
        have c1 := hid (scan_calls p h S (xk, xs) (rest ++ eofT :: eofT :: ts) wr hW.out.1)
        clear he
        go_wp2_with fail
        refine c1.out.mono ?_
        rintro e w1 ⟨rfl, hd, hk⟩
        rw [HE.out] at hd
        have c2 := hid (scan_calls p h S (tk, tl) r1 w1 hd.ahead)
        have HK := hid (hW.out.2.trans_ hk)
        have hx : xk = 19 ∨ xk = 11 := hR.out.1 _ (List.mem_cons_self ..)
        have hle : buf.size + xs.size ≤ 4096 := cat_le hR.out.2 HZ.out
        clear hd hk c1
        rcases hx with rfl | rfl
        all_goals
          go_wp2_with fail
          refine c2.out.mono ?_
          rintro e w2 ⟨rfl, hd, hk⟩
          have HK2 := hid (HK.out.trans_ hk)
          have c3 := hid (back_calls p h S (tk, tl) r1 w2 hd)
          clear hd hk c2
          go_wp2_with fail
        all_goals
          refine c3.out.mono ?_
          rintro e w3 ⟨rfl, hd, hk⟩
          rw [← HE.out] at hd
          have HA := hid (And.intro hd (HK2.out.trans_ hk))
          clear hd hk c3
          go_wp2_with fail
          go_roundg rest.length
          case measure => have := HG.out; simp at this; omega
          case rel => exact .inr ⟨rest, _, rfl, rfl, rfl, hid ⟨fun y hy => hR.out.1 y (List.mem_cons_of_mem _ hy), by rw [ba_assoc]; exact hR.out.2⟩, HA⟩
      | nil =>
        have c1 := hid (scan_calls p h S eofT (eofT :: ts) wr hW.out.1)
        obtain rfl : s = buf := by have := hR.out.2; rw [show textOf [] = (⟨#[]⟩ : ByteArray) from rfl, ba_nil] at this; exact this.symm
        go_wp2_with fail
        refine c1.out.mono ?_
        rintro e w1 ⟨rfl, hd, hk⟩
        have HK := hid (hW.out.2.trans_ hk)
        have c2 := hid (scan_calls p h S eofT ts w1 hd.ahead)
        clear hd hk c1
        go_wp2_with fail
        refine c2.out.mono ?_
        rintro e w2 ⟨rfl, hd, hk⟩
        have HK2 := hid (HK.out.trans_ hk)
        have c3 := hid (back_calls p h S eofT ts w2 hd)
        clear hd hk c2
        go_wp2_with fail
        all_goals
          refine c3.out.mono ?_
          rintro e w3 ⟨rfl, hd, hk⟩
          have HD := hid (And.intro hd (HK2.out.trans_ hk))
          clear hd hk c3
          go_wp2_with fail
          refine bodyPost_ret (by simp [results, Tryd.results75, go_sem]; rfl) rfl ?_
          exact ⟨rfl, HD.out.1, HD.out.2⟩
set_option maxRecDepth 100000 in
set_option maxHeartbeats 4000000 in
theorem colon_default (p : Pl) (h S : Nat) (tk : Nat) (tl : ByteArray) (ts : List Tk) (v : Value) (r : List Tk) (w : World) (ht : tk = 19 ∨ tk = 11) (hc : ∀ w, Ahead p h S ((tk, tl) :: ts) w → Calls Tryd.prog 76 #[.pointer (some ⟨h, 0, none⟩)] w (PRev p h S v r w)) (ha : Ahead p h S ((tk, tl) :: ts) w) :
    Calls Tryd.prog 57 #[.pointer (some ⟨h, 0, none⟩)] w (PRev p h S v r w) := by
  have c1 := hid (scan_calls p h S (tk, tl) ts w ha)
  have HC := hid hc
  clear ha hc
  go_enter Tryd.func57, Tryd.ntmps57
  go_wp2_with fail
  refine c1.out.mono ?_
  rintro e w1 ⟨rfl, hd, hk⟩
  have c2 := hid (back_calls p h S (tk, tl) ts w1 hd)
  have HK := hid hk
  clear hd hk c1
  rcases ht with rfl | rfl
  all_goals
    go_wp2_with fail
    refine c2.out.mono ?_
    rintro e w2 ⟨rfl, hd, hk⟩
    have c3 := hid (HC.out w2 hd)
    have HK2 := hid (HK.out.trans_ hk)
    clear hd hk c2
    go_wp2_with fail
    refine c3.out.mono ?_
    rintro e w3 ⟨rfl, hd, hk⟩
    have HF := hid (And.intro hd (HK2.out.trans_ hk))
    clear hd hk c3
    go_wp2_with fail
    refine bodyPost_ret (by simp [results, Tryd.results57, go_sem]; rfl) rfl ?_
    exact ⟨rfl, HF.out.1, HF.out.2⟩
set_option maxRecDepth 100000 in
set_option maxHeartbeats 4000000 in
theorem colon_slash (p : Pl) (h S : Nat) (s15 : ByteArray) (ts : List Tk) (v : Value) (r : List Tk) (w : World) (hc : ∀ w, Ahead p h S ts w → Calls Tryd.prog 75 #[.pointer (some ⟨h, 0, none⟩)] w (PRev p h S v r w)) (ha : Ahead p h S ((15, s15) :: ts) w) :
    Calls Tryd.prog 57 #[.pointer (some ⟨h, 0, none⟩)] w (PRev p h S v r w) := by
  have c1 := hid (scan_calls p h S (15, s15) ts w ha)
  have HC := hid hc
  clear ha hc
  go_enter Tryd.func57, Tryd.ntmps57
  go_wp2_with fail
  refine c1.out.mono ?_
  rintro e w1 ⟨rfl, hd, hk⟩
  have c2 := hid (HC.out w1 hd.ahead)
  have HK := hid hk
  clear hd hk c1
  go_wp2_with fail
  refine c2.out.mono ?_
  rintro e w3 ⟨rfl, hd, hk⟩
  have HF := hid (And.intro hd (HK.out.trans_ hk))
  clear hd hk c2
  go_wp2_with fail
  refine bodyPost_ret (by simp [results, Tryd.results57, go_sem]; rfl) rfl ?_
  exact ⟨rfl, HF.out.1, HF.out.2⟩
end Go.Proofs.YtojimnlnpghbiaaDoor.rev
