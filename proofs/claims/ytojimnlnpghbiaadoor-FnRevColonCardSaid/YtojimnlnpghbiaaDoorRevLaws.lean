/- rvIs, rvRef, rvBad; the texts that the laws speak of. -/
import Derived.Test.YtojimnlnpghbiaaDoorRevRevision
import Derived.Test.YtojimnlnpghbiaaDoorDecimal
set_option linter.unusedVariables false
attribute [local go_sem ↓] Go.wp_at_zero Go.wp_at_succ
namespace Go.Proofs.YtojimnlnpghbiaaDoor.rev
open Go.RowKit Lib frm mem rd

def Yes (w : World) (e : Ending) (w' : World) : Prop := e = .returned (.bool true) ∧ Kept [] w w'
theorem Start.kept0 {w w' : World} {pv : Addr} (h : Start w pv) (hk : Kept [] w w') : Start w' pv := h.below hk
set_option maxRecDepth 100000 in
set_option maxHeartbeats 4000000 in
theorem rvIs_calls (s : ByteArray) (rs : List Rv) (g n cap : Nat) (w : World) (pv : Addr) (hs : Start w pv) (hsp : s.size ≤ 100 → Spoken s rs true) (hl : n = rs.length) (h0 : 0 < n) (hn : n ≤ 10) (hc : n ≤ cap) (hg : g < w.heap.size) (hh : Holds w g rs) (hsz : s.size ≤ 140737488351232) :
    Calls Tryd.prog 17 #[.string s, .slice (some ⟨g, 0, none⟩) n cap] w (Yes w) := by
  by_cases h100 : s.size ≤ 100
  · have c1 := hid (parseRev_calls s rs true w pv hs (hsp h100))
    have HX := hid (And.intro hl (And.intro hc (And.intro hg hh)))
    clear hs hsp hl hc hg hh hsz
    go_enter Tryd.func17, Tryd.ntmps17
    go_wp2_with fail
    refine c1.out.mono ?_
    rintro e w1 ⟨hk, v, rfl, ho⟩
    have ho1 := ho rfl
    have key : ∃ b c, v = .slice (some ⟨b, 0, none⟩) n c ∧ n ≤ c ∧ Holds w1 b rs := by
      rcases id ho1 with ⟨hl, ⟨h1, h2⟩ | ⟨b, c, cur, h1, _, hh, hc, _⟩⟩
      · have := HX.out.1; omega
      · refine ⟨b, c, ?_, by rw [HX.out.1]; exact hc, fun j u hu => ?_⟩
        · rw [h1, HX.out.1]
        · subst h1
          have := ho1.cells (g := b) rfl j u hu
          rwa [Lib.addr_add, Nat.zero_add] at this
    obtain ⟨b, c, rfl, hcb, hhb⟩ := key
    have hha : Holds w1 g rs := fun j u hu => (hk.cell (p := ⟨g, j, none⟩) HX.out.2.2.1 (by simp)).trans (HX.out.2.2.2 j u hu)
    have c2 := hid (same_calls rs n b g c cap w1 HX.out.1.symm hn hhb hha hcb HX.out.2.1)
    have HK := hid hk
    clear hk ho ho1 hcb hhb hha c1
    go_wp2_with fail
    refine c2.out.mono ?_
    rintro e w2 ⟨rfl, m, rfl⟩
    go_wp2_with fail
    go_ret
    exact ⟨rfl, HK.out.drewN m⟩
  · have hlt : (100 : Int) < (s.size : Int) := by omega
    clear hs hsp hl h0 hn hc hg hh h100
    go_enter Tryd.func17, Tryd.ntmps17
    go_wp2_with fail
    go_ret
    exact ⟨rfl, Kept.refl _ _⟩
def IsRef (s : ByteArray) (w : World) (e : Ending) (w' : World) : Prop := e = .returned (.agg #[.string ⟨#[82, 101, 102]⟩, .string s, .int .i64 0, .bool false]) ∧ Kept [] w w'
set_option maxRecDepth 100000 in
theorem rvRef_calls (s : ByteArray) (w : World) : Calls Tryd.prog 18 #[.string s] w (IsRef s w) := by
  go_enter Tryd.func18, Tryd.ntmps18
  go_wp2_with fail
  refine bodyPost_ret (v := .agg #[.string ⟨#[82, 101, 102]⟩, .string s, .int .i64 0, .bool false]) (by simp [results, Tryd.results18, go_sem]) rfl ?_
  exact ⟨rfl, by repeat (first | exact Kept.refl _ _ | refine Kept.alloc ?_ _ | (refine Kept.setCell ?_ (.inr (by simp)) _))⟩
theorem holds_new (w : World) (rs : List Rv) {e : TypeId} : Holds (w.alloc (.cells (cellsOf rs).toArray e)) w.heap.size rs := fun j u hu => by
  rw [Lib.cell_of_heap (heap_alloc_new w _) j]
  simpa using hu
/-- a name -/
structure NameText (s : ByteArray) : Prop where
  pos : 0 < s.size
  al : AllAl s
  lo : ∃ x t, s.data.toList = x :: t ∧ Lo x
theorem name_of {s : ByteArray} (h : IsName s true) : NameText s := by
  obtain ⟨h0, h1, h2⟩ := h rfl
  refine ⟨h0, fun x hx => ?_, ?_⟩
  · obtain ⟨k, hk, rfl⟩ := List.getElem_of_mem hx
    rcases h2 k (by simpa using hk) with h3 | h3
    · exact .inl h3
    · exact .inr ⟨h3.1, h3.2.1⟩
  · have hl : s.data.toList.length = s.size := by simp
    cases hs : s.data.toList with
    | nil => rw [hs] at hl; simp at hl; omega
    | cons x t =>
      refine ⟨x, t, rfl, ?_⟩
      rcases h2 0 h0 with h3 | h3
      · have : s[0] = x := by
          have e : s.data.toList[0]'(by rw [hs]; simp) = x := by simp [hs]
          rw [← e]; rfl
        rw [this] at h3
        exact h3
      · omega
theorem NameText.list {s : ByteArray} (h : NameText s) : s.data.toList ≠ [] := by
  obtain ⟨x, t, e, _⟩ := h.lo
  rw [e]; simp
/-- a name's tokens, with what stands behind -/
theorem NameText.lex {s : ByteArray} (h : NameText s) (r : List UInt8) (ts : List Tk) (hr : r = [] ∨ ∃ y t, r = y :: t ∧ ∃ k, Mk y k) (hl : Lex r ts) :
    ∃ s0 ns, Words ((19, s0) :: ns) ∧ textOf ((19, s0) :: ns) = s ∧ Lex (s.data.toList ++ r) ((19, s0) :: (ns ++ ts)) := by
  obtain ⟨ns, h1, h2, h3, h4, h5⟩ := names_lex r ts hr hl s.data.toList.length s.data.toList (Nat.le_refl _) h.al
  obtain ⟨x, t, e, hx⟩ := h.lo
  obtain ⟨s0, ns', rfl⟩ := h5 x t e hx
  exact ⟨s0, ns', h1, ba_ext h3, h4⟩
theorem way_ref {s s0 : ByteArray} {ns : List Tk} {tk : Nat} {tl : ByteArray} {ts : List Tk} (hn : NameText s) (hw : Words ((19, s0) :: ns)) (hs : textOf ((19, s0) :: ns) = s) (hz : s.size ≤ 4096) (ht : EndK tk) (p : Pl) (h S : Nat) :
    Way p h S 19 s0 (ns ++ (tk, tl) :: ts) (.ref s) ((tk, tl) :: ts) :=
  Way.ref fun w ha => parseRef_calls p h S ((19, s0) :: ns) tk tl ts s w (by simp) hw ht hs hn.al hz ha
theorem lex_end : Lex [] [eofT] := Lex.eof Lex.nil
theorem spoken_name {s : ByteArray} (hn : NameText s) (hz : s.size ≤ 100) : Spoken s [.ref s] true := by
  obtain ⟨s0, ns, h1, h2, h3⟩ := hn.lex [] [eofT] (.inl rfl) lex_end
  rw [List.append_nil] at h3
  exact ⟨hn.pos, hz, by simp, fun _ => .ref s, _, h3, fun p h S => .step (way_ref hn h1 h2 (by omega) (.inl rfl) p h S) .done⟩
theorem dec_di (n : Nat) : ∀ x ∈ decDigits n, Di x := fun x hx => dec.dec_digit n x hx
theorem dec_list (n : Nat) : (decText n).data.toList = decDigits n := by simp [decText]
theorem spoken_parents {s t : ByteArray} {m : Nat} (hn : NameText s) (hm : 2 < m) (hm2 : m < 1000000) (ht : t.data.toList = s.data.toList ++ ([94] ++ decDigits m)) (hz : t.size ≤ 100) : Spoken t [.ref s] false := by
  have hl : Lex ([94] ++ decDigits m) ((4, ⟨#[94]⟩) :: [(11, decText m)]) := Lex.mark .m94 (by
    have := digits_lex (.inl rfl) Lex.nil (dec.dec_ne m) (dec_di m)
    rw [List.append_nil] at this
    exact this)
  obtain ⟨s0, ns, h1, h2, h3⟩ := hn.lex _ _ (.inr ⟨94, _, rfl, _, .m94⟩) hl
  replace h3 := show Lex t.data.toList _ by rw [ht]; exact h3
  have hst : s.size ≤ t.size := by
    have := congrArg List.length ht
    simp at this
    omega
  refine ⟨by have := hn.pos; omega, hz, by simp, nofun, _, h3, fun p h S => .step (way_ref hn h1 h2 (by omega) (by unfold EndK; omega) p h S) (.bad fun w ha => ?_)⟩
  exact caret_bad p h S (decText m) m [] w (atoi_at m hm2) hm ha
theorem spoken_reflog {s t : ByteArray} {m : Nat} (hn : NameText s) (hm2 : m < 1000000) (ht : t.data.toList = s.data.toList ++ ([64, 123] ++ (decDigits m ++ [125]))) (hz : t.size ≤ 100) : Spoken t [.ref s, .reflog m] true := by
  have hl : Lex ([64, 123] ++ (decDigits m ++ [125])) ((3, ⟨#[64]⟩) :: (12, ⟨#[123]⟩) :: (11, decText m) :: (5, ⟨#[125]⟩) :: [eofT]) :=
    Lex.mark .m64 (Lex.mark .m123 (digits_lex (.inr ⟨125, [], rfl, _, .m125⟩) (Lex.mark .m125 lex_end) (dec.dec_ne m) (dec_di m)))
  obtain ⟨s0, ns, h1, h2, h3⟩ := hn.lex _ _ (.inr ⟨64, _, rfl, _, .m64⟩) hl
  replace h3 := show Lex t.data.toList _ by rw [ht]; exact h3
  have hst : s.size ≤ t.size := by
    have := congrArg List.length ht
    simp at this
    omega
  refine ⟨by have := hn.pos; omega, hz, by simp, fun _ => .reflog s m, _, h3, fun p h S => .step (way_ref hn h1 h2 (by omega) (by unfold EndK; omega) p h S) (.step (.at_ fun w ha => ?_) (.done (ts := [])))⟩
  exact at_reflog p h S (decText m) _ _ m [eofT] w (atoi_at m hm2) ha
theorem spoken_checkout {t : ByteArray} {m : Nat} (hm2 : m < 1000000) (ht : t.data.toList = [64, 123, 45] ++ (decDigits m ++ [125])) (hz : t.size ≤ 100) : Spoken t [.checkout m] true := by
  have hl : Lex ([64, 123, 45] ++ (decDigits m ++ [125])) ((3, ⟨#[64]⟩) :: (12, ⟨#[123]⟩) :: (10, ⟨#[45]⟩) :: (11, decText m) :: (5, ⟨#[125]⟩) :: [eofT]) :=
    Lex.mark .m64 (Lex.mark .m123 (Lex.mark .m45 (digits_lex (.inr ⟨125, [], rfl, _, .m125⟩) (Lex.mark .m125 lex_end) (dec.dec_ne m) (dec_di m))))
  replace hl := show Lex t.data.toList _ by rw [ht]; exact hl
  have hst : 0 < t.size := by
    have := congrArg List.length ht
    simp at this
    omega
  refine ⟨hst, hz, by simp, fun _ => .checkout m, _, hl, fun p h S => .step (.at_ fun w ha => ?_) (.done (ts := []))⟩
  exact at_checkout p h S (decText m) _ _ _ m [eofT] w (atoi_at m hm2) ha
theorem spoken_cpath {s q t : ByteArray} (hn : NameText s) (hq : NameText q) (ht : t.data.toList = s.data.toList ++ ([58] ++ q.data.toList)) (hz : t.size ≤ 100) : Spoken t [.ref s, .cpath q] true := by
  obtain ⟨q0, ms, g1, g2, g3⟩ := hq.lex [] [eofT, eofT] (.inl rfl) (Lex.eof lex_end)
  rw [List.append_nil] at g3
  have hl : Lex ([58] ++ q.data.toList) ((6, ⟨#[58]⟩) :: (19, q0) :: (ms ++ [eofT, eofT])) := Lex.mark .m58 g3
  obtain ⟨s0, ns, h1, h2, h3⟩ := hn.lex _ _ (.inr ⟨58, _, rfl, _, .m58⟩) hl
  replace h3 := show Lex t.data.toList _ by rw [ht]; exact h3
  have hst : s.size ≤ t.size ∧ q.size ≤ t.size := by
    have := congrArg List.length ht
    simp at this
    omega
  refine ⟨by have := hn.pos; omega, hz, by simp, fun _ => .cpath s q, _, h3, fun p h S => .step (way_ref hn h1 h2 (by omega) (by unfold EndK; omega) p h S) (.step (.colon fun w ha => ?_) (.done (ts := [])))⟩
  exact colon_default p h S 19 q0 _ _ [eofT] w (.inl rfl) (fun w ha => colon_path p h S q0 ms q [eofT] w (fun y hy => g1 y (List.mem_cons_of_mem _ hy)) (by omega) g2 ha) ha
theorem spoken_cstage {q t : ByteArray} {m : Nat} (hq : NameText q) (hm : m ≤ 3) (ht : t.data.toList = [58] ++ (decDigits m ++ ([58] ++ q.data.toList))) (hz : t.size ≤ 100) : Spoken t [.cstage q m] true := by
  obtain ⟨q0, ms, g1, g2, g3⟩ := hq.lex [] [eofT, eofT] (.inl rfl) (Lex.eof lex_end)
  rw [List.append_nil] at g3
  have hl : Lex ([58] ++ (decDigits m ++ ([58] ++ q.data.toList))) ((6, ⟨#[58]⟩) :: (11, decText m) :: (6, ⟨#[58]⟩) :: (19, q0) :: (ms ++ [eofT, eofT])) :=
    Lex.mark .m58 (digits_lex (.inr ⟨58, _, rfl, _, .m58⟩) (Lex.mark .m58 g3) (dec.dec_ne m) (dec_di m))
  replace hl := show Lex t.data.toList _ by rw [ht]; exact hl
  have hst : 0 < t.size ∧ q.size ≤ t.size := by
    have := congrArg List.length ht
    simp at this
    omega
  refine ⟨hst.1, hz, by simp, fun _ => .cstage q m, _, hl, fun p h S => .step (.colon fun w ha => ?_) (.done (ts := []))⟩
  exact colon_default p h S 11 _ _ _ [eofT] w (.inr rfl) (fun w ha => colon_stage p h S (decText m) _ m ((19, q0) :: ms) q [eofT] w (atoi_at m (by omega)) hm g1 (by omega) g2 ha) ha
theorem spoken_creg {q t : ByteArray} (hq : NameText q) (ht : t.data.toList = [58, 47] ++ q.data.toList) (hz : t.size ≤ 100) : Spoken t [.creg q false] true := by
  obtain ⟨q0, ms, g1, g2, g3⟩ := hq.lex [] [eofT, eofT] (.inl rfl) (Lex.eof lex_end)
  rw [List.append_nil] at g3
  have hl : Lex ([58, 47] ++ q.data.toList) ((6, ⟨#[58]⟩) :: (15, ⟨#[47]⟩) :: (19, q0) :: (ms ++ [eofT, eofT])) := Lex.mark .m58 (Lex.mark .m47 g3)
  replace hl := show Lex t.data.toList _ by rw [ht]; exact hl
  have hst : 0 < t.size ∧ q.size ≤ t.size := by
    have := congrArg List.length ht
    simp at this
    omega
  refine ⟨hst.1, hz, by simp, fun _ => .creg q false, _, hl, fun p h S => .step (.colon fun w ha => ?_) (.done (ts := []))⟩
  exact colon_slash p h S _ _ _ [eofT] w (fun w ha => colon_reg p h S ((19, q0) :: ms) q [] w g1 (by omega) g2 ha) ha
theorem spoken_neg {q t : ByteArray} (hq : NameText q) (ht : t.data.toList = [58, 47, 33, 45] ++ q.data.toList) (hz : t.size ≤ 100) : Spoken t [.creg q true] true := by
  obtain ⟨q0, ms, g1, g2, g3⟩ := hq.lex [] [eofT, eofT] (.inl rfl) (Lex.eof lex_end)
  rw [List.append_nil] at g3
  have hl : Lex ([58, 47, 33, 45] ++ q.data.toList) ((6, ⟨#[58]⟩) :: (15, ⟨#[47]⟩) :: (9, ⟨#[33]⟩) :: (10, ⟨#[45]⟩) :: (19, q0) :: (ms ++ [eofT, eofT])) := Lex.mark .m58 (Lex.mark .m47 (Lex.mark .m33 (Lex.mark .m45 g3)))
  replace hl := show Lex t.data.toList _ by rw [ht]; exact hl
  have hst : 0 < t.size ∧ q.size ≤ t.size := by
    have := congrArg List.length ht
    simp at this
    omega
  refine ⟨hst.1, hz, by simp, fun _ => .creg q true, _, hl, fun p h S => .step (.colon fun w ha => ?_) (.done (ts := []))⟩
  exact colon_slash p h S _ _ _ [eofT] w (fun w ha => colon_neg p h S _ _ ((19, q0) :: ms) q [] w g1 (by omega) g2 ha) ha
end Go.Proofs.YtojimnlnpghbiaaDoor.rev
