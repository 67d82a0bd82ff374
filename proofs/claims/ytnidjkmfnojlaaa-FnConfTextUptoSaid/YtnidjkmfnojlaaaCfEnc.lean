/- config.Encoder: print, options, names. -/
import Derived.Test.YtnidjkmfnojlaaaCfConf
import Derived.Test.YtnidjkmfnojlaaaShelf
import Derived.Test.YtnidjkmfnojlaaaSlices
import Derived.Test.YtnidjkmfnojlaaaSearchConfig
import Derived.Lib.BufferOld
import Derived.Laws.Concat
set_option linter.unusedVariables false
attribute [local go_sem ↓] Go.wp_at_zero Go.wp_at_succ
namespace Go.Proofs.Ytnidjkmfnojlaaa.cf
open Go.RowKit Lib mem opn frm strs text

abbrev TE : TypeId := 57
abbrev AT : List TypeId := [TO, PO, TU, PU, TS, PS, TC, TE]
structure EncAt (B b ge : Nat) (l : List UInt8) (w : World) : Prop where
  buf : IsBuffer 40 5 B b (byteCells l) w
  enc : Blk w ge TE #[.iface 45 (.pointer (some ⟨b, 0, none⟩))]
theorem EncAt.size {B b ge : Nat} {l : List UInt8} {w : World} (h : EncAt B b ge l w) : B ≤ w.heap.size := Nat.le_trans h.buf.1 (Nat.le_of_lt h.buf.lt)
def Wrote (B b ge : Nat) (l : List UInt8) (w : World) (e : Ending) (w' : World) : Prop := e = .returned .nilIface ∧ EncAt B b ge l w' ∧ Ty AT w w' ∧ Below B w w'
theorem byteCells_app (a b : List UInt8) : byteCells (a ++ b) = byteCells a ++ byteCells b := by simp [byteCells]
theorem ty_others {B b : Nat} {bs : List Value} {w w' : World} (h : IsBuffer 40 5 B b bs w) (k : Lib.OthersKept 5 (some b) w w') : Ty AT w w' := by
  intro g t cs ht hb
  refine k g _ hb ?_ ?_
  · intro e
    injection e with e
    subst e
    obtain ⟨_, v, lr, hk, _⟩ := h
    unfold Blk at hb
    rw [hb] at hk
    injection hk with hk
    injection hk with _ hk
    subst hk
    revert ht
    decide
  · intro c fz e
    injection e with _ e
    subst e
    revert ht
    decide
theorem below_of {B : Nat} {w w' w'' : World} (h : Below B w w') (k : Kept [] w' w'') (hB : B ≤ w'.heap.size) : Below B w w'' := h.trans (k.below hB (by simp))
set_option maxRecDepth 100000 in
set_option maxHeartbeats 1000000 in
theorem print_calls (B b ge : Nat) (l : List UInt8) (s : ByteArray) (w : World) (h : EncAt B b ge l w) (hs : l.length + s.size ≤ 140737488355328) :
    Calls Try.prog 25 #[.pointer (some ⟨ge, 0, none⟩), .string s] w (Wrote B b ge (l ++ s.data.toList) w) := by
  have c1 := hid (show Calls Try.prog 28 #[.iface 45 (.pointer (some ⟨b, 0, none⟩)), .string s] w (fun e w' => e = .returned (.tuple #[.int .i64 s.size, .nilIface]) ∧ EncAt B b ge (l ++ s.data.toList) w' ∧ Ty AT w w' ∧ Below B w w') by
    have hta : ∀ w : World, (Instr.typeAssert (.iface 45 (.pointer (some ⟨b, 0, none⟩))) 55 90 true).run Try.prog w = .ok (.tuple #[.iface 45 (.pointer (some ⟨b, 0, none⟩)), .bool true]) w := fun _ => by kernel_rfl
    have hme : ∀ w : World, Sem.run Try.prog (method 231 45 (.pointer (some ⟨b, 0, none⟩)) "WriteString") w = .ok (54, .pointer (some ⟨b, 0, none⟩)) w := fun _ => by kernel_rfl
    have hc := hid (Try.Buffer_WriteString_kept B b (byteCells l) s w h.buf h.size (cells_one l) (by simpa [byteCells] using hs))
    have H := hid h
    clear h hs
    go_enter Try.func28, Try.ntmps28
    go_wp2_with fail
    refine hc.out.mono ?_
    rintro e w1 ⟨rfl, hb, hbl, hk⟩
    have HT := hid (ty_others H.out.buf hk)
    have HB := hid hb
    have HBL := hid hbl
    clear hb hbl hk
    go_wp2_with fail
    go_ret2
    exact ⟨rfl, ⟨by rw [byteCells_app]; exact HB.out, HT.out _ _ _ (by simp) H.out.enc⟩, HT.out, HBL.out⟩)
  have q0 := h.enc.cell 0 rfl
  clear h hs
  go_enter Try.func25, Try.ntmps25
  go_wp2_with fail
  refine c1.out.mono ?_
  rintro e w1 ⟨rfl, h1, h2, h3⟩
  have H := hid (And.intro h1 (And.intro h2 h3))
  clear h1 h2 h3 q0
  go_wp2_with fail
  go_ret
  exact ⟨rfl, H.out⟩
theorem own_bytes {w : World} {B n : Nat} {v : Value} {l : List UInt8} (h : w.ownsRow B 5 1 v n (byteCells l)) : ∃ A c, v = .slice A n c ∧ n ≤ c ∧ Bytes w w.heap.size A n l := by
  rcases id h with ⟨hl, ⟨rfl, h0⟩ | ⟨g, cap, cur, rfl, hBg, hg, hnc, hcm, hcs, htk⟩⟩
  · subst h0
    have : l = [] := List.eq_nil_of_length_eq_zero (by simpa [byteCells] using hl)
    subst this
    exact ⟨_, _, rfl, Nat.le_refl _, Bytes.nil_⟩
  · exact ⟨_, _, rfl, hnc, Reads.of_own h, fun _ => ⟨g, 0, rfl⟩⟩
theorem str_of_list (s : ByteArray) : (⟨s.data.toList.toArray⟩ : ByteArray) = s := rfl
theorem byte_snoc (s : ByteArray) (k : Nat) (h : k < s.size) : byteCells (s.data.toList.take (k + 1)) = byteCells (s.data.toList.take k) ++ [.int .u8 s[k].toNat] := by
  rw [List.take_succ_eq_append_getElem (by simpa using h), byteCells_app]; rfl
set_option maxRecDepth 100000 in
set_option maxHeartbeats 4000000 in
theorem escaped_calls (s : ByteArray) (w : World) (h : WordOk s) : Calls Try.prog 32 #[.string s, .bool false] w fun e w' => e = .returned (.string s) ∧ Kept [] w w' := by
  obtain ⟨i0, hi, hz0, hz1, hz2⟩ := info_parts mem.infoByte
  have HW := hid h.1
  have hs : s.size ≤ 1000 := h.2
  have hs' : (s.size : Int) ≤ 1000 := by omega
  clear h
  go_enter Try.func32, Try.ntmps32
  go_wp2_with fail
  go_loopw [5, 6] (fun vv iv wr => ∃ k : Nat, k ≤ s.size ∧ iv = .int .i64 k ∧ Hid (Kept [] w wr) ∧ Hid (wr.ownsRow w.heap.size 5 1 vv k (byteCells (s.data.toList.take k)))) (fun _ iv _ => s.size - (RowKit.intOf iv).toNat)
  case atStart => exact ⟨0, by omega, rfl, hid (Kept.refl _ _), hid (World.ownsRow_nil _ _ _ _)⟩
  case round =>
    obtain ⟨k, hk, rfl, hK, hO⟩ := hrel
    by_cases hlt : k < s.size
    · have hlt' : (k : Int) < s.size := by omega
      have hc : wordC s[k] = true := List.all_eq_true.1 HW.out _ (by rw [show s[k] = s.data[k] from rfl]; exact Array.getElem_mem_toList _)
      have hc2 : 97 ≤ s[k].toNat ∧ s[k].toNat ≤ 122 := of_decide_eq_true hc
      have e34 : ((s[k].toNat : Int) == 34) = false := by simp; omega
      have e92 : ((s[k].toNat : Int) == 92) = false := by simp; omega
      have HS := hid (byte_snoc s k hlt)
      have HO1 := hid (hO.out.alloc (.cells #[.int .u8 s[k].toNat] 5))
      have HRd := hid (one_ptr wr (.int .u8 s[k].toNat) (e := 5) (B := wr.heap.size + 1) (by omega))
      have HSz := hid (show w.heap.size ≤ (wr.alloc (.cells #[.int .u8 s[k].toNat] 5)).heap.size by have := hK.out.size; simp; omega)
      clear hc hc2
      go_wp2_with (at_builtin; refine wpList_append_any _ rfl (.tmp 17) (.tmp 19) _ rfl w.heap.size 5 i0 _ 1 1 Try.underlying24 hi hz0 hz1 hz2 rfl (by omega) u5 k (byteCells (s.data.toList.take k)) rfl HO1.out (wr.heap.size + 1) (some ⟨wr.heap.size, 0, none⟩) 1 1 [.int .u8 s[k].toNat] rfl HRd.out (by simp [Value.oneCell']) (by simp only [maxLen]; omega) (by omega) HSz.out ?_; intro v6 w6 hown hg hat; have H6 := hid (And.intro hown hg); clear hown hg hat)
      have HK6 := hid (kept_own (hK.out.alloc _) HO1.out (Nat.le_refl _) H6.out.2)
      have HO6 := hid (show w6.ownsRow w.heap.size 5 1 v6 (k + 1) (byteCells (s.data.toList.take (k + 1))) by rw [HS.out]; exact H6.out.1)
      go_roundw
      case rel => exact ⟨k + 1, by omega, by go_num, HK6, HO6⟩
      case measure => simp [RowKit.intOf]; omega
    · have hlt' : ¬ (k : Int) < s.size := by omega
      have e : s.data.toList.take k = s.data.toList := List.take_of_length_le (by simp; omega)
      have hO' := hO.out
      rw [e] at hO'
      obtain ⟨A, c, rfl, -, hby⟩ := own_bytes hO'
      have k1 : (convert 24 9 (.slice A k c)).run Try.prog wr = .ok (.string s) wr := text_of_bytes hby
      clear e hO' hby
      go_wp2_with fail
      go_ret
      exact ⟨rfl, hK.out⟩
end Go.Proofs.Ytnidjkmfnojlaaa.cf
