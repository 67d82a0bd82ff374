/- capability.List.Add: the list in memory, and one added. -/
import Derived.Test.YtoihglnamclhfaaDoorCpValid
import Derived.Test.YtoihglnamclhfaaDoorPktLines
import Derived.Test.YtoihglnamclhfaaDoorTail
set_option linter.unusedVariables false
namespace Go.Proofs.YtoihglnamclhfaaDoor.cap
open Go.RowKit Lib frm mf mem text pkt

abbrev StrT : TypeId := 9
def symS : ByteArray := ⟨#[115, 121, 109, 114, 101, 102]⟩
/-- the values of symref, if it stands in the map -/
def SymAt (B N : Nat) (f : ByteArray → Option Value) (sv : Value) (w : World) : Prop :=
  ∀ v, f symS = some v → ∃ pe ev m ys, v = .pointer (some ⟨pe, 0, none⟩) ∧ B ≤ pe ∧ Blk w pe EntT #[.string symS, ev] ∧ w.ownsRow B StrT 1 ev m ys ∧ m ≤ N ∧ ∀ g, ev.ownBlock = some g → sv.ownBlock ≠ some g
/-- the list at lb, its map at mb: the names ns stand in it -/
structure LSF (w0 : World) (lb mb N : Nat) (ns : List ByteArray) (f : ByteArray → Option Value) (sv : Value) (xs : List Value) (w : World) : Prop where
  kept : Kept [lb, mb] w0 w
  lbl : lb < w0.heap.size
  mbl : mb < w0.heap.size
  num : ns.length ≤ N
  map : MapF Tryd.prog CapT w mb N f
  blk : Blk w lb ListT #[.map (some mb), sv]
  own : w.ownsRow w0.heap.size StrT 1 sv ns.length xs
  mem : ∀ s, (f s).isSome = true ↔ s ∈ ns
  sym : SymAt w0.heap.size N f sv w
def LS (w0 : World) (lb mb N : Nat) (ns : List ByteArray) (w : World) : Prop := ∃ f sv xs, LSF w0 lb mb N ns f sv xs w
theorem infoStr : (Tryd.prog.info? StrT).map (fun i => (i.zero, i.size, i.bytes)) = some (some (.string ⟨#[]⟩), 1, 16) := by kernel_rfl
theorem own_shape {w : World} {B n s : Nat} {e : TypeId} {v : Value} {vs : List Value} (h : w.ownsRow B e s v n vs) : ∃ A c, v = .slice A n c := by
  rcases id h with ⟨hl, ⟨rfl, h0⟩ | ⟨g, cap, cur, rfl, _⟩⟩
  · exact ⟨_, _, by rw [h0]⟩
  · exact ⟨_, _, rfl⟩
theorem own_typed {w : World} {base size n : Nat} {e : TypeId} {v : Value} {xs : List Value} {x : Nat} (hown : w.ownsRow base e size v n xs) (h : v.ownBlock = some x) : ∃ cs, Blk w x e cs := by
  rcases id hown with ⟨hl, ⟨rfl, h0⟩ | ⟨g, cap, cur, rfl, hBg, hg, _⟩⟩
  · cases h
  · cases h; exact ⟨cur, hg⟩
theorem map_ne {P : Program} {k : TypeId} {w : World} {b n g : Nat} {f : ByteArray → Option Value} {t : TypeId} {cs : Array Value} (h : MapF P k w b n f) (hB : Blk w g t cs) : g ≠ b := by
  rintro rfl
  obtain ⟨D, ⟨es, clock, h1, _⟩, _⟩ := h
  unfold Blk at hB
  rw [hB] at h1
  cases h1
theorem ent_ne_str : EntT ≠ StrT := by decide
section
variable {w0 w w' : World} {lb mb N : Nat} {ns : List ByteArray} {f : ByteArray → Option Value} {sv : Value} {xs : List Value}
theorem SymAt.kept {B : Nat} {S : List Nat} (h : SymAt B N f sv w) (hk : Kept S w w') (hp : ∀ pe ev, f symS = some (.pointer (some ⟨pe, 0, none⟩)) → Blk w pe EntT #[.string symS, ev] → B ≤ pe → pe ∉ S) (he : ∀ x cs, B ≤ x → Blk w x StrT cs → x ∉ S) : SymAt B N f sv w' := by
  intro v hv
  obtain ⟨pe, ev, m, ys, rfl, h1, h2, h3, h4, h5⟩ := h v hv
  exact ⟨pe, ev, m, ys, rfl, h1, h2.kept hk (hp pe ev hv h2 h1), own_kept h3 hk (fun x hx => by obtain ⟨cs, hc⟩ := own_typed h3 hx; exact he x cs (h3.lt x hx).1 hc), h4, h5⟩
theorem LSF.nil_ (h : LSF w0 lb mb N ns f sv xs w) (hk : Kept [] w w') : LSF w0 lb mb N ns f sv xs w' :=
  ⟨h.kept.trans hk (by simp), h.lbl, h.mbl, h.num, h.map.heap (hk.block mb h.map.lt (by simp)), h.blk.kept hk (by simp), own_kept h.own hk (by simp), h.mem, h.sym.kept hk (by simp) (by simp)⟩
theorem LSF.more (h : LSF w0 lb mb N ns f sv xs w) {M : Nat} (hM : N ≤ M) : LSF w0 lb mb M ns f sv xs w :=
  ⟨h.kept, h.lbl, h.mbl, Nat.le_trans h.num hM, h.map.mono hM, h.blk, h.own, h.mem, fun v hv => by obtain ⟨pe, ev, m, ys, e, h1, h2, h3, h4, h5⟩ := h.sym v hv; exact ⟨pe, ev, m, ys, e, h1, h2, h3, Nat.le_trans h4 hM, h5⟩⟩
theorem LSF.ne (h : LSF w0 lb mb N ns f sv xs w) : lb ≠ mb := map_ne h.map h.blk
/-- the name's entry is in the map, not yet on the list -/
structure Half (w0 : World) (lb mb N : Nat) (ns : List ByteArray) (s : ByteArray) (pe : Nat) (f : ByteArray → Option Value) (sv : Value) (xs : List Value) (w : World) : Prop where
  kept : Kept [lb, mb] w0 w
  lbl : lb < w0.heap.size
  mbl : mb < w0.heap.size
  num : ns.length ≤ N
  map : MapF Tryd.prog CapT w mb (N + 1) (fun x => if x = s then some (.pointer (some ⟨pe, 0, none⟩)) else f x)
  blk : Blk w lb ListT #[.map (some mb), sv]
  own : w.ownsRow w0.heap.size StrT 1 sv ns.length xs
  mem : ∀ s, (f s).isSome = true ↔ s ∈ ns
  new : s ∉ ns
  pel : w0.heap.size ≤ pe
  ent : Blk w pe EntT #[.string s, .slice none 0 0]
  sym : SymAt w0.heap.size N f sv w
theorem Half.nil_ {s : ByteArray} {pe : Nat} (h : Half w0 lb mb N ns s pe f sv xs w) (hk : Kept [] w w') : Half w0 lb mb N ns s pe f sv xs w' :=
  ⟨h.kept.trans hk (by simp), h.lbl, h.mbl, h.num, h.map.heap (hk.block mb h.map.lt (by simp)), h.blk.kept hk (by simp), own_kept h.own hk (by simp), h.mem, h.new, h.pel, h.ent.kept hk (by simp), h.sym.kept hk (by simp) (by simp)⟩
theorem half_of {s : ByteArray} {w4 : World} (h : LSF w0 lb mb N ns f sv xs w) (hnew : s ∉ ns) (ht : (w.alloc (.cells #[.string s, .slice none 0 0] EntT)).mapTurned w4 mb)
    (hM : MapF Tryd.prog CapT w4 mb (N + 1) (fun x => if x = s then some (.pointer (some ⟨w.heap.size, 0, none⟩)) else f x)) : Half w0 lb mb N ns s w.heap.size f sv xs w4 := by
  have hk : Kept [mb] w w4 := ((Kept.refl [mb] w).alloc _).trans_ (Kept.of_grown ht.grown)
  have hnot : ∀ x t cs, Blk w x t cs → x ∉ [mb] := fun x t cs hb => by simpa using map_ne h.map hb
  refine ⟨h.kept.trans hk (by simp), h.lbl, h.mbl, h.num, hM, h.blk.kept hk (hnot _ _ _ h.blk), own_kept h.own hk (fun x hx => by obtain ⟨cs, hc⟩ := own_typed h.own hx; exact hnot _ _ _ hc), h.mem, hnew, h.kept.size, ?_, h.sym.kept hk (fun pe ev _ hb _ => hnot _ _ _ hb) (fun x cs _ hb => hnot _ _ _ hb)⟩
  exact (Blk.new w EntT _).kept (Kept.of_grown ht.grown) (by have := h.map.lt; simp; omega)
/-- and now on the list, too -/
theorem full_of {s : ByteArray} {pe : Nat} {w6 w7 : World} {sv' : Value} {xs' : List Value} (h : Half w0 lb mb N ns s pe f sv xs w6) (hO : w7.ownsRow w0.heap.size StrT 1 sv' (ns.length + 1) xs') (hg : w6.grownBy w7 sv.ownBlock) (hb : sv'.ownBlock = sv.ownBlock ∨ sv'.ownBlock = some w6.heap.size) :
    LSF w0 lb mb (N + 1) (ns ++ [s]) (fun x => if x = s then some (.pointer (some ⟨pe, 0, none⟩)) else f x) sv' xs' (w7.setCell ⟨lb, 1, none⟩ sv') ∧ Blk (w7.setCell ⟨lb, 1, none⟩ sv') pe EntT #[.string s, .slice none 0 0] := by
  have hk7 : Kept sv.ownBlock.toList w6 w7 := Kept.of_grown_own hg (fun g hg => .inl (by simp [hg]))
  have hin : ∀ x, x ∈ sv.ownBlock.toList → w0.heap.size ≤ x ∧ ∃ cs, Blk w6 x StrT cs := fun x hx => by
    have hx' : sv.ownBlock = some x := by simpa using hx
    exact ⟨(h.own.lt x hx').1, own_typed h.own hx'⟩
  have hk8 : Kept [lb] w7 (w7.setCell ⟨lb, 1, none⟩ sv') := (Kept.refl [lb] w7).setCell (.inl (by simp)) _
  have hs7 := hk7.size
  have hlb7 : Blk w7 lb ListT #[.map (some mb), sv] := h.blk.kept hk7 (fun hx => by have := (hin lb hx).1; have := h.lbl; omega)
  have hmb7 : w7.heap[mb]? = w6.heap[mb]? := hk7.block mb h.map.lt (fun hx => by have := (hin mb hx).1; have := h.mbl; omega)
  have hpe7 : Blk w7 pe EntT #[.string s, .slice none 0 0] := h.ent.kept hk7 (fun hx => by obtain ⟨_, cs, hc⟩ := hin pe hx; exact h.ent.ne_ hc ent_ne_str rfl)
  have hpelb : pe ∉ [lb] := by have := h.pel; have := h.lbl; simp; omega
  have hKK : Kept [lb, mb] w0 (w7.setCell ⟨lb, 1, none⟩ sv') := (h.kept.trans hk7 (fun x hx => .inr (hin x hx).1)).setCell (.inl (by simp)) _
  have hmap : MapF Tryd.prog CapT (w7.setCell ⟨lb, 1, none⟩ sv') mb (N + 1) (fun x => if x = s then some (.pointer (some ⟨pe, 0, none⟩)) else f x) :=
    (h.map.heap hmb7).heap (hk8.block mb (by have := h.map.lt; omega) (by simpa using (map_ne h.map h.blk).symm))
  refine ⟨⟨hKK, h.lbl, h.mbl, by have := h.num; simp; omega, hmap, by simpa using hlb7.set_ 1 sv', ?_, ?_, ?_⟩, hpe7.kept hk8 hpelb⟩
  · have : w7.ownsRow w0.heap.size StrT 1 sv' (ns ++ [s]).length xs' := by simpa using hO
    exact own_kept this hk8 (fun x hx => by have := (hO.lt x hx).1; have := h.lbl; simp; omega)
  · intro x
    by_cases e : x = s
    · simp [e]
    · simp [e, h.mem]
  · intro v hv
    dsimp only at hv
    by_cases e : symS = s
    · rw [if_pos e] at hv
      cases hv
      refine ⟨pe, .slice none 0 0, 0, [], rfl, h.pel, ?_, World.ownsRow_nil _ _ _ _, by omega, by intro g hg; cases hg⟩
      rw [e]; exact hpe7.kept hk8 hpelb
    · rw [if_neg e] at hv
      obtain ⟨p2, ev, m, ys, rfl, h1, h2, h3, h4, h5⟩ := h.sym v hv
      have g2 : Blk w7 p2 EntT #[.string symS, ev] := h2.kept hk7 (fun hx => by obtain ⟨_, cs, hc⟩ := hin p2 hx; exact h2.ne_ hc ent_ne_str rfl)
      have g3 : w7.ownsRow w0.heap.size StrT 1 ev m ys := own_kept h3 hk7 (fun x hx hm => h5 x hx (by simpa using hm))
      refine ⟨p2, ev, m, ys, rfl, h1, g2.kept hk8 (by have := h.lbl; simp; omega), own_kept g3 hk8 (fun x hx => by have := (h3.lt x hx).1; have := h.lbl; simp; omega), by omega, fun g hg he => ?_⟩
      rcases hb with hb | hb
      · exact h5 g hg (by rw [← hb]; exact he)
      · rw [hb] at he
        cases he
        have := (h3.lt _ hg).2
        omega
theorem full_blk {s : ByteArray} {pe : Nat} {w6 w7 : World} {sv' : Value} {xs' : List Value} (h : Half w0 lb mb N ns s pe f sv xs w6) (hg : w6.grownBy w7 sv.ownBlock) : Blk w7 lb ListT #[.map (some mb), sv] := by
  have hk7 : Kept sv.ownBlock.toList w6 w7 := Kept.of_grown_own hg (fun g hg => .inl (by simp [hg]))
  exact h.blk.kept hk7 (fun hx => by
    have hx' : sv.ownBlock = some lb := by simpa using hx
    have := (h.own.lt lb hx').1; have := h.lbl; omega)
theorem full_frozen {s : ByteArray} {pe : Nat} {w6 w7 : World} (h : Half w0 lb mb N ns s pe f sv xs w6) (hg : w6.grownBy w7 sv.ownBlock) : w7.frozen? ⟨lb, 1, none⟩ = false := (full_blk (sv' := sv) (xs' := xs) h hg).frozen 1
theorem full_cell {s : ByteArray} {pe : Nat} {w6 w7 : World} (h : Half w0 lb mb N ns s pe f sv xs w6) (hg : w6.grownBy w7 sv.ownBlock) : w7.cell? ⟨lb, 1, none⟩ = some sv := (full_blk (sv' := sv) (xs' := xs) h hg).cell 1 rfl
/-- a value more at another name -/
theorem vals_other {s : ByteArray} {pe : Nat} {w7 : World} {ev' : Value} (h : LSF w0 lb mb N ns f sv xs w) (hs : s ≠ symS) (hpl : w0.heap.size ≤ pe) (hp : Blk w pe EntT #[.string s, .slice none 0 0]) (hg : w.grownBy w7 none) : LSF w0 lb mb N ns f sv xs (w7.setCell ⟨pe, 1, none⟩ ev') := by
  have h7 := h.nil_ (Kept.of_grown_none hg)
  have hp7 : Blk w7 pe EntT #[.string s, .slice none 0 0] := hp.kept (Kept.of_grown_none (S := []) hg) (by simp)
  have hk8 : Kept [pe] w7 (w7.setCell ⟨pe, 1, none⟩ ev') := (Kept.refl [pe] w7).setCell (.inl (by simp)) _
  have hlb : lb ∉ [pe] := by have := h.lbl; simp; omega
  have hmb : mb ∉ [pe] := by have := h.mbl; simp; omega
  refine ⟨h7.kept.setCell (.inr (by simpa using hpl)) _, h.lbl, h.mbl, h.num, h7.map.heap (hk8.block mb h7.map.lt hmb), h7.blk.kept hk8 hlb, own_kept h7.own hk8 (fun x hx => ?_), h.mem, h7.sym.kept hk8 (fun p2 e2 _ hb _ => ?_) (fun x cs _ hb => ?_)⟩
  · obtain ⟨cs, hc⟩ := own_typed h7.own hx
    have := hp7.ne_ hc ent_ne_str
    simp; omega
  · intro hm
    obtain rfl : p2 = pe := by simpa using hm
    unfold Blk at hb hp7
    rw [hb] at hp7
    injection hp7 with hp7
    injection hp7 with hc
    have := congrArg (·[0]?) hc
    simp at this
    exact hs this.symm
  · have := hp7.ne_ hb ent_ne_str
    simp; omega
/-- a value more at symref -/
theorem vals_sym {pe : Nat} {w7 : World} {ev ev' : Value} {m : Nat} {ys ys' : List Value} (h : LSF w0 lb mb N ns f sv xs w) (hf : f symS = some (.pointer (some ⟨pe, 0, none⟩))) (hpl : w0.heap.size ≤ pe) (hp : Blk w pe EntT #[.string symS, ev]) (he : w.ownsRow w0.heap.size StrT 1 ev m ys) (hm : m ≤ N)
    (hd : ∀ g, ev.ownBlock = some g → sv.ownBlock ≠ some g) (hO : w7.ownsRow w0.heap.size StrT 1 ev' (m + 1) ys') (hg : w.grownBy w7 ev.ownBlock) (hb : ev'.ownBlock = ev.ownBlock ∨ ev'.ownBlock = some w.heap.size) : LSF w0 lb mb (N + 1) ns f sv xs (w7.setCell ⟨pe, 1, none⟩ ev') := by
  have hk7 : Kept ev.ownBlock.toList w w7 := Kept.of_grown_own hg (fun g hg => .inl (by simp [hg]))
  have hin : ∀ x, x ∈ ev.ownBlock.toList → w0.heap.size ≤ x ∧ (∃ cs, Blk w x StrT cs) ∧ sv.ownBlock ≠ some x := fun x hx => by
    have hx' : ev.ownBlock = some x := by simpa using hx
    exact ⟨(he.lt x hx').1, own_typed he hx', hd x hx'⟩
  have hk8 : Kept [pe] w7 (w7.setCell ⟨pe, 1, none⟩ ev') := (Kept.refl [pe] w7).setCell (.inl (by simp)) _
  have hlb : lb ∉ [pe] := by have := h.lbl; simp; omega
  have hmb : mb ∉ [pe] := by have := h.mbl; simp; omega
  have hs7 := hk7.size
  have hp7 : Blk w7 pe EntT #[.string symS, ev] := hp.kept hk7 (fun hx => by obtain ⟨_, ⟨cs, hc⟩, _⟩ := hin pe hx; exact hp.ne_ hc ent_ne_str rfl)
  have ho7 : w7.ownsRow w0.heap.size StrT 1 sv ns.length xs := own_kept h.own hk7 (fun x hx hm => (hin x hm).2.2 hx)
  refine ⟨(h.kept.trans hk7 (fun x hx => .inr (hin x hx).1)).setCell (.inr (by simpa using hpl)) _, h.lbl, h.mbl, by have := h.num; omega, ?_, ?_, own_kept ho7 hk8 (fun x hx => ?_), h.mem, ?_⟩
  · refine ((h.map.heap (hk7.block mb h.map.lt (fun hx => by have := (hin mb hx).1; have := h.mbl; omega))).heap (hk8.block mb (by have := h.map.lt; omega) hmb)).mono (by omega)
  · exact (h.blk.kept hk7 (fun hx => by have := (hin lb hx).1; have := h.lbl; omega)).kept hk8 hlb
  · obtain ⟨cs, hc⟩ := own_typed ho7 hx
    have := hp7.ne_ hc ent_ne_str
    simp; omega
  · intro v hv
    rw [hf] at hv
    cases hv
    refine ⟨pe, ev', m + 1, ys', rfl, hpl, by simpa using hp7.set_ 1 ev', own_kept hO hk8 (fun x hx => ?_), by omega, fun g hg he' => ?_⟩
    · obtain ⟨cs, hc⟩ := own_typed hO hx
      have := hp7.ne_ hc ent_ne_str
      simp; omega
    · rcases hb with hb | hb
      · exact hd g (by rw [← hb]; exact hg) he'
      · rw [hb] at hg
        cases hg
        have := (h.own.lt _ he').2
        omega
end
set_option maxRecDepth 100000 in
theorem string_calls (s : ByteArray) (w : World) : Calls Tryd.prog 100 #[.string s] w fun e w' => e = .returned (.string s) ∧ w' = w := by
  go_enter Tryd.func100, Tryd.ntmps100
  go_wp2_with fail
  go_ret
  exact ⟨rfl, rfl⟩
def Done (w0 : World) (lb mb N : Nat) (ns : List ByteArray) (e : Ending) (w' : World) : Prop := e = .returned .nilIface ∧ LS w0 lb mb N ns w'
end Go.Proofs.YtoihglnamclhfaaDoor.cap
