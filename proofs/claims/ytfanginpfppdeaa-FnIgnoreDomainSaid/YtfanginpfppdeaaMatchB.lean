/- What the matching of one piece computes, and path.Match at patterns of names. -/
import Derived.Test.YtfanginpfppdeaaMatch
set_option linter.unusedVariables false
namespace Go.Proofs.Ytfanginpfppdeaa.glob
open Go.RowKit Lib text strs

/-- how the matching of a piece ends -/
def ChunkEnd (w : World) (r : Option (List UInt8)) (e : Ending) (w' : World) : Prop :=
  (∃ k, w' = w.drewN k) ∧ match r with
    | some t => ∃ s : ByteArray, e = .returned (.tuple #[.string s, .bool true, .nilIface]) ∧ s.data.toList = t
    | none => ∃ s : ByteArray, e = .returned (.tuple #[.string s, .bool false, .nilIface])
theorem drew_more {w wr : World} (h : ∃ k, wr = w.drewN k) (m : Nat) : ∃ k, wr.drewN m = w.drewN k := by
  obtain ⟨k, rfl⟩ := h
  exact ⟨k + m, World.drewN_drewN _ _ _⟩
set_option maxRecDepth 100000 in
set_option maxHeartbeats 4000000 in
theorem chunk_calls (C S : ByteArray) (w : World) (hc : C.size ≤ 140737488351232) (hs : S.size ≤ 140737488351232) (hC : ∀ x ∈ C.data.toList, pl x) (hS : ∀ x ∈ S.data.toList, asc x) :
    Calls Try.prog 47 #[.string C, .string S] w (ChunkEnd w (chunkAt C.data.toList S.data.toList)) := by
  have HC := hid hC
  have HS := hid hS
  clear hC hS
  go_enter Try.func47, Try.ntmps47
  go_wp2_with fail
  go_loopw [0, 1, 7] (fun cv sv fv wr => ∃ (c s : ByteArray) (b : Bool), cv = .string c ∧ sv = .string s ∧ fv = .bool b ∧ c.size ≤ C.size ∧ s.size ≤ S.size ∧ (∃ k, wr = w.drewN k) ∧
    Hid (chunkAt C.data.toList S.data.toList = (if b then none else chunkAt c.data.toList s.data.toList) ∧ (∀ x ∈ c.data.toList, pl x) ∧ ∀ x ∈ s.data.toList, asc x)) (fun cv _ _ _ => strLen cv)
  case atStart => exact ⟨C, S, false, rfl, rfl, rfl, Nat.le_refl _, Nat.le_refl _, ⟨0, rfl⟩, hid ⟨rfl, HC.out, HS.out⟩⟩
  case round =>
    obtain ⟨c, s, b, rfl, rfl, rfl, hcs, hss, hw, hh⟩ := hrel
    have HW := hid hw
    clear hw
    by_cases h0 : 0 < c.size
    · have hpl := hh.out.2.1 _ (mem_get c 0 h0)
      have q91 := ne_int (n := 91) (by omega) hpl.1
      have q92 := ne_int (n := 92) (by omega) hpl.2.1
      have hcl := hid (cons_list c h0)
      clear hpl
      cases b with
      | true =>
        have hn : Hid (chunkAt C.data.toList S.data.toList = (if true then none else chunkAt (c.extract 1 c.size).data.toList s.data.toList) ∧ (∀ x ∈ (c.extract 1 c.size).data.toList, pl x) ∧ ∀ x ∈ s.data.toList, asc x) := hid
          ⟨hh.out.1, fun x hx => hh.out.2.1 x (by rw [ext_drop] at hx; exact List.mem_of_mem_drop hx), hh.out.2.2⟩
        clear hh
        by_cases h63 : c[0].toNat = 63
        · have q63 : (c[0].toNat : Int) = 63 := by omega
          clear h63
          go_wp2_with fail
          go_roundw
          case rel => exact ⟨_, s, true, rfl, rfl, rfl, by simp; omega, hss, HW.out, hn⟩
          case measure => simp only [strLen]; simp; omega
        · have q63 : ((c[0].toNat : Int) == 63) = false := by rw [beq_eq_false_iff_ne]; omega
          clear h63
          go_wp2_with fail
          go_roundw
          case rel => exact ⟨_, s, true, rfl, rfl, rfl, by simp; omega, hss, HW.out, hn⟩
          case measure => simp only [strLen]; simp; omega
      | false =>
        by_cases s0 : 0 < s.size
        · have hsl := hid (cons_list s s0)
          have has := hh.out.2.2 _ (mem_get s 0 s0)
          have q47 : ((s[0].toNat : Int) == 47) = false := ne_int (n := 47) (by omega) has.2
          have es : ((s.size : Int) == 0) = false := by rw [beq_eq_false_iff_ne]; omega
          have hlt := hid has.1
          clear has
          have hn : ∀ b : Bool, chunkAt C.data.toList S.data.toList = (if b then none else chunkAt (c.extract 1 c.size).data.toList (s.extract 1 s.size).data.toList) → Hid (chunkAt C.data.toList S.data.toList = (if b then none else chunkAt (c.extract 1 c.size).data.toList (s.extract 1 s.size).data.toList) ∧ (∀ x ∈ (c.extract 1 c.size).data.toList, pl x) ∧ ∀ x ∈ (s.extract 1 s.size).data.toList, asc x) := fun b h => hid
            ⟨h, fun x hx => hh.out.2.1 x (by rw [ext_drop] at hx; exact List.mem_of_mem_drop hx), fun x hx => hh.out.2.2 x (by rw [ext_drop] at hx; exact List.mem_of_mem_drop hx)⟩
          have hst : chunkAt C.data.toList S.data.toList = if c[0] == 63 || c[0] == s[0] then chunkAt (c.extract 1 c.size).data.toList (s.extract 1 s.size).data.toList else none := by
            have h1 := hh.out.1
            rw [hcl.out, hsl.out] at h1
            rw [ext_drop, ext_drop]
            simpa [chunkAt] using h1
          have HN := hid hn
          have HST := hid hst
          clear hn hst hh
          by_cases h63 : c[0].toNat = 63
          · have q63 : (c[0].toNat : Int) = 63 := by omega
            have H2 := HN.out false (by rw [HST.out]; have : c[0] = 63 := eq_int h63; simp [this])
            clear h63
            go_wp2_with fail
            refine (Try.utf8_DecodeRuneInString_ascii s s[0] wr (get_list s 0 s0) hlt.out).mono ?_
            rintro e w' ⟨rfl, rfl⟩
            go_wp2_with fail
            go_roundw
            case rel => exact ⟨_, _, false, rfl, rfl, rfl, by simp; omega, by simp; omega, HW.out, H2⟩
            case measure => simp only [strLen]; simp; omega
          · have q63 : ((c[0].toNat : Int) == 63) = false := by rw [beq_eq_false_iff_ne]; omega
            have n63 : (c[0] == 63) = false := by rw [beq_eq_false_iff_ne]; intro e; apply h63; rw [e]; rfl
            by_cases hxy : c[0].toNat = s[0].toNat
            · have qxy : (c[0].toNat : Int) = (s[0].toNat : Int) := by omega
              have H2 := HN.out false (by rw [HST.out]; have : c[0] = s[0] := UInt8.toNat_inj.1 hxy; simp [this])
              clear h63 n63 hxy
              go_wp2_with fail
              go_quiet (fail)
              go_wp2_with fail
              go_roundw
              case rel => exact ⟨_, _, false, rfl, rfl, rfl, by simp; omega, by simp; omega, drew_more HW.out _, H2⟩
              case measure => simp only [strLen]; simp; omega
            · have qxy : ((c[0].toNat : Int) == (s[0].toNat : Int)) = false := by rw [beq_eq_false_iff_ne]; omega
              have H2 := HN.out true (by rw [HST.out, n63]; have : (c[0] == s[0]) = false := (by rw [beq_eq_false_iff_ne]; intro e; apply hxy; rw [e]); simp [this])
              clear h63 n63 hxy
              go_wp2_with fail
              go_quiet (fail)
              go_wp2_with fail
              go_roundw
              case rel => exact ⟨_, _, true, rfl, rfl, by simp only [bne, qxy]; rfl, by simp; omega, by simp; omega, drew_more HW.out _, H2⟩
              case measure => simp only [strLen]; simp; omega
        · have hn : Hid (chunkAt C.data.toList S.data.toList = (if true then none else chunkAt (c.extract 1 c.size).data.toList s.data.toList) ∧ (∀ x ∈ (c.extract 1 c.size).data.toList, pl x) ∧ ∀ x ∈ s.data.toList, asc x) := hid
            ⟨by have h1 := hh.out.1; rw [hcl.out, nil_list s s0] at h1; simpa [chunkAt] using h1, fun x hx => hh.out.2.1 x (by rw [ext_drop] at hx; exact List.mem_of_mem_drop hx), hh.out.2.2⟩
          have es : ((s.size : Int) == 0) = true := by rw [beq_iff_eq]; omega
          clear hh
          by_cases h63 : c[0].toNat = 63
          · have q63 : (c[0].toNat : Int) = 63 := by omega
            clear h63
            go_wp2_with fail
            go_roundw
            case rel => exact ⟨_, s, true, rfl, rfl, rfl, by simp; omega, hss, HW.out, hn⟩
            case measure => simp only [strLen]; simp; omega
          · have q63 : ((c[0].toNat : Int) == 63) = false := by rw [beq_eq_false_iff_ne]; omega
            clear h63
            go_wp2_with fail
            go_roundw
            case rel => exact ⟨_, s, true, rfl, rfl, rfl, by simp; omega, hss, HW.out, hn⟩
            case measure => simp only [strLen]; simp; omega
    · have hn := hid (nil_list c h0)
      cases b with
      | true =>
        have hr : Hid (chunkAt C.data.toList S.data.toList = none) := hid hh.out.1
        clear hh
        go_wp2_with fail
        refine bodyPost_ret (by simp [results, Try.results47, go_sem]; rfl) rfl ?_
        unfold ChunkEnd; rw [hr.out]
        exact ⟨HW.out, _, rfl⟩
      | false =>
        have hr : Hid (chunkAt C.data.toList S.data.toList = some s.data.toList) := hid (by rw [hh.out.1, hn.out]; rfl)
        clear hh
        go_wp2_with fail
        refine bodyPost_ret (by simp [results, Try.results47, go_sem]; rfl) rfl ?_
        unfold ChunkEnd; rw [hr.out]
        exact ⟨HW.out, s, rfl, rfl⟩
end Go.Proofs.Ytfanginpfppdeaa.glob
