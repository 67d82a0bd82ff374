/- sideband.Demuxer: getPending, nextPackData. -/
import Derived.Test.YtkjfndkcagkhaaaDoorSdWrite
set_option linter.unusedVariables false
attribute [local go_sem ↓] Go.wp_at_zero Go.wp_at_succ
namespace Go.Proofs.YtkjfndkcagkhaaaDoor.side
open Go.RowKit Lib frm mem text pkt rd

abbrev TD : TypeId := 89
/-- the bytes of the channel ch in payloads -/
def chOf (ch : UInt8) (ls : List (List UInt8)) : List UInt8 := ls.flatMap fun p => match p with | [] => [] | c :: t => if c = ch then t else []
def total (ls : List (List UInt8)) : Nat := (ls.map fun p => p.length + 1).sum
/-- a payload for data or for progress, mx bytes at most -/
def OkL (mx : Nat) (p : List UInt8) : Prop := pkt.Good p ∧ p.length ≤ mx ∧ ∃ t, t ≠ [] ∧ (p = 1 :: t ∨ p = 2 :: t)
theorem chOf_cons (ch c : UInt8) (t : List UInt8) (ls : List (List UInt8)) : chOf ch ((c :: t) :: ls) = (if c = ch then t else []) ++ chOf ch ls := by simp [chOf]
theorem total_cons (p : List UInt8) (ls : List (List UInt8)) : total (p :: ls) = p.length + 1 + total ls := by simp [total]
/-- what a reading does not change -/
structure Cst where
  B : Nat
  S : Nat
  R : Nat
  D : Nat
  bp : Nat
  n : Nat
  c : Nat
  A : Option Addr
  l : List UInt8
  mx : Nat
  ty : Int
  pe : Addr
  pu : Addr
structure Cst.Fine (K : Cst) : Prop where
  n : K.n ≤ 140737488355328
  nc : K.n ≤ K.c
  S : K.B ≤ K.S
  R : K.B ≤ K.R
  D : K.B ≤ K.D
  bp : K.B ≤ K.bp
  eof : 0 < K.B
  unx : 4 < K.B
  pe : K.pe.block < K.B
  pu : K.pu.block < K.B
  mx : K.mx ≤ 65520
def foot (K : Cst) (PA : Option Addr) (pb : Value) : List Nat := K.S :: K.R :: K.D :: K.bp :: (blkOf PA ++ pb.ownBlock.toList)
/-- the state of a reading: payloads to come, bytes that are pending, progress that is written -/
structure St (K : Cst) (w : World) (ls : List (List UInt8)) (pend prog : List UInt8) (PA : Option Addr) (pn pc i : Nat) (ev pv pb : Value) : Prop where
  sc : Sc w K.S K.R ev (.slice PA pn pc)
  pay : PayOk w K.B K.S K.R PA pc
  pn : pn ≤ pc
  rd : Rd w K.R K.A K.n K.c i
  le : i ≤ K.n
  rest : K.l.drop i = lines ls
  ok : ∀ p ∈ ls, OkL K.mx p
  inp : Bytes w K.B K.A K.n K.l
  dm : Blk w K.D TD #[.int .i8 K.ty, .iface 81 (.pointer (some ⟨K.R, 0, none⟩)), .pointer (some ⟨K.S, 0, none⟩), .int .i64 K.mx, pv, .iface 66 (.pointer (some ⟨K.bp, 0, none⟩))]
  px : Bx w K.bp pb prog
  pd : ∃ X m, pv = .slice X pend.length m ∧ pend.length ≤ m ∧ Bytes w w.heap.size X pend.length pend ∧ ∀ x ∈ blkOf X, pend ≠ [] → x ∈ blkOf PA
  ap : ∀ x ∈ blkOf PA, pb.ownBlock ≠ some x
  lop : ∀ x, pb.ownBlock = some x → K.B ≤ x
  two : Two w K.pe K.pu
  lo : K.B ≤ w.heap.size
set_option maxRecDepth 100000 in
theorem getPending_none (D : Nat) (a0 a1 a2 a3 a5 : Value) (X : Option Addr) (m : Nat) (w : World) (h : Blk w D TD #[a0, a1, a2, a3, .slice X 0 m, a5]) :
    Calls Tryd.prog 112 #[.pointer (some ⟨D, 0, none⟩)] w fun e w' => e = .returned (.slice none 0 0) ∧ w' = w := by
  have k4 : w.cell? ⟨D, 4, none⟩ = some (.slice X 0 m) := h.cell 4 rfl
  clear h
  go_enter Tryd.func112, Tryd.ntmps112
  go_wp2_with fail
  go_ret
  exact ⟨rfl, rfl⟩
set_option maxRecDepth 100000 in
theorem getPending_some (D : Nat) (a0 a1 a2 a3 a5 : Value) (X : Option Addr) (k m : Nat) (w : World) (hk : 0 < k) (h : Blk w D TD #[a0, a1, a2, a3, .slice X k m, a5]) :
    Calls Tryd.prog 112 #[.pointer (some ⟨D, 0, none⟩)] w fun e w' => e = .returned (.slice X k m) ∧ w' = w.setCell ⟨D, 4, none⟩ (.slice none 0 0) := by
  have k4 : w.cell? ⟨D, 4, none⟩ = some (.slice X k m) := h.cell 4 rfl
  have f4 : w.frozen? ⟨D, 4, none⟩ = false := h.frozen 4
  have hk' : ¬ ((k : Int) = 0) := by omega
  clear h hk
  go_enter Tryd.func112, Tryd.ntmps112
  go_wp2_with fail
  go_ret
  exact ⟨rfl, rfl⟩
/-- one step: x is handed on -/
structure Goes (ls : List (List UInt8)) (pend prog : List UInt8) (ls' : List (List UInt8)) (x prog' : List UInt8) : Prop where
  data : pend ++ chOf 1 ls = x ++ chOf 1 ls'
  prog : prog ++ chOf 2 ls = prog' ++ chOf 2 ls'
  le : total ls' + x.length ≤ total ls + pend.length
  lt : x = [] → total ls' < total ls + pend.length
/-- what nextPackData has done -/
structure Nx (K : Cst) (w : World) (ls : List (List UInt8)) (pend prog : List UInt8) (PA0 : Option Addr) (pb0 : Value) (w' : World) (x : List UInt8) (X : Option Addr) (m : Nat) (ls' : List (List UInt8)) (prog' : List UInt8) (PA : Option Addr) (pn pc i : Nat) (ev pv pb : Value) : Prop where
  st : St K w' ls' [] prog' PA pn pc i ev pv pb
  kept : Kept (foot K PA0 pb0) w w'
  new : ∀ y ∈ foot K PA pb, y ∈ foot K PA0 pb0 ∨ w.heap.size ≤ y
  m : x.length ≤ m
  by_ : Bytes w' w'.heap.size X x.length x
  at_ : ∀ y ∈ blkOf X, x ≠ [] → y ∈ blkOf PA
def NextIs (K : Cst) (w : World) (ls : List (List UInt8)) (pend prog : List UInt8) (PA0 : Option Addr) (pb0 : Value) (e : Ending) (w' : World) : Prop :=
  ∃ x X m ls' prog' PA pn pc i ev pv pb, Nx K w ls pend prog PA0 pb0 w' x X m ls' prog' PA pn pc i ev pv pb ∧
    ((e = .returned (.tuple #[.slice X x.length m, .nilIface]) ∧ Goes ls pend prog ls' x prog') ∨
     (e = .returned (.tuple #[.slice X x.length m, .iface 184 (.pointer (some K.pe))]) ∧ x = [] ∧ pend = [] ∧ ls = [] ∧ ls' = [] ∧ prog' = prog))
/-- another value stands as what is pending -/
theorem St.pend_ {K : Cst} {w : World} {ls : List (List UInt8)} {pend prog : List UInt8} {PA : Option Addr} {pn pc i : Nat} {ev pv pb : Value} (h : St K w ls pend prog PA pn pc i ev pv pb) (hK : K.Fine) {p2 : List UInt8} {X : Option Addr} {m : Nat} (hm : p2.length ≤ m)
    (hb : Bytes w w.heap.size X p2.length p2) (hat : ∀ x ∈ blkOf X, p2 ≠ [] → x ∈ blkOf PA) : St K (w.setCell ⟨K.D, 4, none⟩ (.slice X p2.length m)) ls p2 prog PA pn pc i ev (.slice X p2.length m) pb := by
  have hk : Kept [K.D] w (w.setCell ⟨K.D, 4, none⟩ (.slice X p2.length m)) := (Kept.refl [K.D] w).setCell (p := ⟨K.D, 4, none⟩) (.inl (by simp)) _
  obtain ⟨x0, x1, x2, x3, hsc⟩ := h.sc
  have dS : K.S ≠ K.D := Blk.ne_ hsc h.dm (by decide)
  obtain ⟨pr, hrd⟩ := h.rd
  have dR : K.R ≠ K.D := Blk.ne_ hrd h.dm (by decide)
  obtain ⟨lr, hbx, hrow⟩ := h.px
  have dB : K.bp ≠ K.D := Blk.ne_ hbx h.dm (by decide)
  have dV : ∀ x, pb.ownBlock = some x → x ≠ K.D := fun x hx => by
    rcases hrow.2 with ⟨rfl, _⟩ | ⟨g, cap, cur, rfl, _, hg, _⟩
    · cases hx
    · injection hx with hx
      simp only at hx
      subst hx
      exact Blk.ne_ (show Blk w g U8 cur from hg) h.dm (by decide)
  have dP : ∀ x ∈ blkOf PA, x ≠ K.D := fun x hx => by
    rcases h.pay with ⟨rfl, _⟩ | ⟨Pb, cur, rfl, hg, _⟩
    · simp [blkOf] at hx
    · simp [blkOf] at hx; subst hx; exact Blk.ne_ hg h.dm (by decide)
  have dX : p2 ≠ [] → ∀ x ∈ blkOf X, x ≠ K.D := fun h0 x hx => dP x (hat x hx h0)
  have hbel : Below K.B w (w.setCell ⟨K.D, 4, none⟩ (.slice X p2.length m)) := hk.below h.lo (by simp; exact hK.D)
  refine ⟨h.sc.kept hk (by simpa using dS), h.pay.kept hk (fun x hx => by simpa using dP x hx), h.pn, h.rd.kept hk (by simpa using dR), h.le, h.rest, h.ok, h.inp.below hbel, ?_, h.px.kept hk (by simpa using dB) (fun x hx => by simpa using dV x hx), ⟨X, m, rfl, hm, ?_, hat⟩, h.ap, h.lop, h.two.below hbel hK.eof hK.unx hK.pe hK.pu, Nat.le_trans h.lo hk.size⟩
  · have := h.dm.set_ 4 (.slice X p2.length m)
    simpa using this
  · by_cases h0 : p2 = []
    · subst h0; exact Bytes.nil_
    · exact (bytes_keep hb hk (Nat.le_refl _) (fun x hx => by simpa using dX h0 x hx)).more hk.size
end Go.Proofs.YtkjfndkcagkhaaaDoor.side
