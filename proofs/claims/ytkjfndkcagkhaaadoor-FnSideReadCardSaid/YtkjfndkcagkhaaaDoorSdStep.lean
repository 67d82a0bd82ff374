/- sideband.Demuxer: how the state goes on behind a line's reading, and behind a writing of progress. -/
import Derived.Test.YtkjfndkcagkhaaaDoorSdNext
set_option linter.unusedVariables false
namespace Go.Proofs.YtkjfndkcagkhaaaDoor.side
open Go.RowKit Lib frm mem text pkt rd

variable {K : Cst} {w w1 : World} {ls rest : List (List UInt8)} {pend prog p : List UInt8} {PA PA1 : Option Addr} {pn pc pc1 i : Nat} {ev pv pb : Value}
theorem row_typed {v : Value} {n base : Nat} {xs : List Value} {e : TypeId} {x : Nat} (h : w.ownsRow base e 1 v n xs) (hx : v.ownBlock = some x) : ∃ cs, Blk w x e cs := by
  rcases h.2 with ⟨rfl, _⟩ | ⟨g, cap, cur, rfl, _, hg, _⟩
  · cases hx
  · injection hx with hx
    simp only at hx
    subst hx
    exact ⟨cur, hg⟩
theorem pay_typed {B S R : Nat} (h : PayOk w B S R PA pc) {x : Nat} (hx : x ∈ blkOf PA) : ∃ cs, Blk w x U8 cs := by
  rcases h with ⟨rfl, _⟩ | ⟨Pb, cur, rfl, hg, _⟩
  · simp [blkOf] at hx
  · simp [blkOf] at hx; subst hx; exact ⟨_, hg⟩
theorem St.blks (h : St K w ls pend prog PA pn pc i ev pv pb) : (∃ cs, Blk w K.S 133 cs) ∧ (∃ cs, Blk w K.R 119 cs) ∧ (∃ cs, Blk w K.bp Bty cs) ∧ ∃ lr : Int, Blk w K.bp Bty #[pb, .int .i64 0, .int .i8 lr] ∧ w.ownsRow 0 U8 1 pb prog.length (byteCells prog) := by
  obtain ⟨x0, x1, x2, x3, hsc⟩ := h.sc
  obtain ⟨pr, hrd⟩ := h.rd
  obtain ⟨lr, hbx, hrow⟩ := h.px
  exact ⟨⟨_, hsc⟩, ⟨_, hrd⟩, ⟨_, hbx⟩, lr, hbx, hrow⟩
/-- all of the footprint lies above B, and is there -/
theorem St.foot_lo (h : St K w ls pend prog PA pn pc i ev pv pb) (hK : K.Fine) : ∀ y ∈ foot K PA pb, K.B ≤ y ∧ y < w.heap.size := by
  obtain ⟨⟨_, h1⟩, ⟨_, h2⟩, ⟨_, h3⟩, lr, _, hrow⟩ := h.blks
  intro y hy
  simp only [foot, List.mem_cons, List.mem_append] at hy
  rcases hy with rfl | rfl | rfl | rfl | hy | hy
  · exact ⟨hK.S, h1.lt⟩
  · exact ⟨hK.R, h2.lt⟩
  · exact ⟨hK.D, h.dm.lt⟩
  · exact ⟨hK.bp, h3.lt⟩
  · have := h.pay.no y hy; exact ⟨this.1, this.2.2.2⟩
  · have hy : pb.ownBlock = some y := by simpa using hy
    exact ⟨h.lop y hy, (hrow.lt y hy).2⟩
/-- a line has been read -/
theorem St.scan (h : St K w (p :: rest) [] prog PA pn pc i ev pv pb) (hK : K.Fine) (hs : Sc w1 K.S K.R .nilIface (.slice PA1 p.length pc1)) (hp : PayOk w1 K.B K.S K.R PA1 pc1) (hpn : p.length ≤ pc1) (hr : Rd w1 K.R K.A K.n K.c (i + 4 + p.length)) (hk : Kept (K.S :: K.R :: blkOf PA) w w1) (hnew : ∀ x ∈ blkOf PA1, x ∈ blkOf PA ∨ w.heap.size ≤ x) (hpe : p ≠ []) :
    St K w1 rest [] prog PA1 p.length pc1 (i + 4 + p.length) .nilIface pv pb := by
  obtain ⟨⟨_, h1⟩, ⟨_, h2⟩, ⟨_, h3⟩, lr, hbx, hrow⟩ := h.blks
  have dD : ∀ x ∈ K.S :: K.R :: blkOf PA, K.D ≠ x := fun x hx => by
    simp only [List.mem_cons] at hx
    rcases hx with rfl | rfl | hx
    · exact Blk.ne_ h.dm h1 (by decide)
    · exact Blk.ne_ h.dm h2 (by decide)
    · obtain ⟨_, h4⟩ := pay_typed h.pay hx; exact Blk.ne_ h.dm h4 (by decide)
  have dB : ∀ x ∈ K.S :: K.R :: blkOf PA, K.bp ≠ x := fun x hx => by
    simp only [List.mem_cons] at hx
    rcases hx with rfl | rfl | hx
    · exact Blk.ne_ h3 h1 (by decide)
    · exact Blk.ne_ h3 h2 (by decide)
    · obtain ⟨_, h4⟩ := pay_typed h.pay hx; exact Blk.ne_ h3 h4 (by decide)
  have dV : ∀ y, pb.ownBlock = some y → ∀ x ∈ K.S :: K.R :: blkOf PA, y ≠ x := fun y hy x hx => by
    obtain ⟨_, h5⟩ := row_typed hrow hy
    simp only [List.mem_cons] at hx
    rcases hx with rfl | rfl | hx
    · exact Blk.ne_ h5 h1 (by decide)
    · exact Blk.ne_ h5 h2 (by decide)
    · rintro rfl; exact h.ap y hx hy
  have hbel : Below K.B w w1 := hk.below h.lo (fun x hx => by
    simp only [List.mem_cons] at hx
    rcases hx with rfl | rfl | hx
    · exact hK.S
    · exact hK.R
    · exact (h.pay.no x hx).1)
  have hrest := h.rest
  have hll : (line p).length = 4 + p.length := by rw [line_len]; omega
  have hle := congrArg List.length hrest
  have hn := h.inp.len
  rw [lines, List.flatMap_cons, List.length_append, hll, List.length_drop, hn] at hle
  obtain ⟨X, m, hpv, hm, _, _⟩ := h.pd
  refine ⟨hs, hp, hpn, hr, by omega, ?_, fun q hq => h.ok q (by simp [hq]), h.inp.below hbel, h.dm.kept hk (fun hx => dD _ hx rfl), h.px.kept hk (fun hx => dB _ hx rfl) (fun x hx hm => dV x hx x hm rfl), ⟨X, m, hpv, hm, Bytes.nil_, fun x _ h0 => absurd rfl h0⟩, fun x hx hb => ?_, h.lop, h.two.below hbel hK.eof hK.unx hK.pe hK.pu, Nat.le_trans h.lo hk.size⟩
  · have := congrArg (List.drop (4 + p.length)) hrest
    rw [List.drop_drop, lines, List.flatMap_cons, ← hll, List.drop_left' rfl, hll] at this
    rw [show i + 4 + p.length = i + (4 + p.length) by omega]
    exact this
  · rcases hnew x hx with h6 | h6
    · exact h.ap x h6 hb
    · have := (hrow.lt x hb).2; omega
/-- progress has been written -/
theorem St.wrote {pb1 : Value} {prog1 : List UInt8} (h : St K w ls [] prog PA pn pc i ev pv pb) (hK : K.Fine) (hx : Bx w1 K.bp pb1 prog1) (hk : Kept (K.bp :: pb.ownBlock.toList) w w1) (hnew : ∀ x, pb1.ownBlock = some x → pb.ownBlock = some x ∨ w.heap.size ≤ x) :
    St K w1 ls [] prog1 PA pn pc i ev pv pb1 := by
  obtain ⟨⟨_, h1⟩, ⟨_, h2⟩, ⟨_, h3⟩, lr, hbx, hrow⟩ := h.blks
  have other : ∀ y t cs, t ≠ Bty → t ≠ U8 → Blk w y t cs → y ∉ K.bp :: pb.ownBlock.toList := fun y t cs ht1 ht2 hb hm => by
    simp only [List.mem_cons] at hm
    rcases hm with rfl | hm
    · exact Blk.ne_ hb h3 ht1 rfl
    · obtain ⟨_, h5⟩ := row_typed hrow (show pb.ownBlock = some y by simpa using hm)
      exact Blk.ne_ hb h5 ht2 rfl
  have hbel : Below K.B w w1 := hk.below h.lo (fun x hx => by
    simp only [List.mem_cons] at hx
    rcases hx with rfl | hx
    · exact hK.bp
    · exact h.lop x (by simpa using hx))
  obtain ⟨X, m, hpv, hm, _, _⟩ := h.pd
  refine ⟨h.sc.kept hk (other _ _ _ (by decide) (by decide) h1), h.pay.kept hk (fun x hx hm => ?_), h.pn, h.rd.kept hk (other _ _ _ (by decide) (by decide) h2), h.le, h.rest, h.ok, h.inp.below hbel, h.dm.kept hk (other _ _ _ (by decide) (by decide) h.dm), hx, ⟨X, m, hpv, hm, Bytes.nil_, fun x _ h0 => absurd rfl h0⟩, fun x hx hb => ?_, fun x hx => ?_, h.two.below hbel hK.eof hK.unx hK.pe hK.pu, Nat.le_trans h.lo hk.size⟩
  · simp only [List.mem_cons] at hm
    rcases hm with rfl | hm
    · obtain ⟨_, h4⟩ := pay_typed h.pay hx; exact Blk.ne_ h4 h3 (by decide) rfl
    · exact h.ap x hx (by simpa using hm)
  · rcases hnew x hb with h6 | h6
    · exact h.ap x hx h6
    · have := (h.pay.no x hx).2.2.2; omega
  · rcases hnew x hx with h6 | h6
    · exact h.lop x h6
    · exact Nat.le_trans h.lo h6
/-- what stands in the world may be drawn on -/
theorem St.kept0 (h : St K w ls pend prog PA pn pc i ev pv pb) (hK : K.Fine) (hk : Kept [] w w1) : St K w1 ls pend prog PA pn pc i ev pv pb := by
  have hbel : Below K.B w w1 := hk.below h.lo (by simp)
  obtain ⟨X, m, hpv, hm, hb, hat⟩ := h.pd
  exact ⟨h.sc.kept hk (by simp), h.pay.kept hk (by simp), h.pn, h.rd.kept hk (by simp), h.le, h.rest, h.ok, h.inp.below hbel, h.dm.kept hk (by simp), h.px.kept hk (by simp) (by simp), ⟨X, m, hpv, hm, (bytes_keep hb hk (Nat.le_refl _) (by simp)).more hk.size, hat⟩, h.ap, h.lop, h.two.kept hk, Nat.le_trans h.lo hk.size⟩
end Go.Proofs.YtkjfndkcagkhaaaDoor.side
