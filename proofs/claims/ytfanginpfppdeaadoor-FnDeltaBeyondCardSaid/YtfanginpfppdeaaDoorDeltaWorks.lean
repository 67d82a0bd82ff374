/- A small delta is applied; bytes are the same. -/
import Derived.Test.YtfanginpfppdeaaDoorDeltaImpl
import Derived.Laws.IdiomStrings
import Derived.Laws.BytesString
import Derived.Lib.SlBytesConst
set_option linter.unusedVariables false
namespace Go.Proofs.YtfanginpfppdeaaDoor.delta
open Go.RowKit Lib patch mem

theorem conv_bytes {w : World} {B n : Nat} {A : Option Addr} {l : List UInt8} (c : Nat) (h : Bytes w B A n l) : (convert 22 9 (.slice A n c)).run Tryd.prog w = .ok (.string ⟨l.toArray⟩) w := by
  have hl := h.len
  rcases Nat.eq_zero_or_pos n with h0 | h0
  · subst h0
    have : l = [] := List.eq_nil_of_length_eq_zero hl
    subst this
    rw [run_convert_bytes_string w 22 9 5 A 0 c Tryd.underlying22 Tryd.underlying5 Tryd.underlying9]
    cases A <;> simp [Conv.bytesToString, loadCells] <;> rfl
  · obtain ⟨ad, rfl, _, hc⟩ := h.1.2 h0
    subst hl
    exact run_convert_bytes_back w 22 9 5 ad c l Tryd.underlying22 Tryd.underlying5 Tryd.underlying9 (fun j hj => hc j _ (by simp [Lib.byteCells, hj]))
theorem deltaSame_calls (A D : Option Addr) (n c m d B B' : Nat) (l : List UInt8) (w : World) (h : Bytes w B A n l) (h' : Bytes w B' D m l) :
    Calls Tryd.prog 8 #[.slice A n c, .slice D m d] w fun e w' => e = .returned (.bool true) ∧ w' = w := by
  have h1 := conv_bytes c h
  have h2 := conv_bytes d h'
  clear h h'
  go_enter Tryd.func8, Tryd.ntmps8
  go_wp2_with fail
  go_ret
  exact ⟨by simp, rfl⟩
theorem alloc_size (w : World) (o : Obj) : (w.alloc o).heap.size = w.heap.size + 1 := by show (w.heap.push o).size = _; simp
theorem bytes_lit {w : World} (l : List UInt8) (fr : Nat × Nat) : Bytes (w.alloc (.cells (byteCells l).toArray 5 fr)) (w.heap.size + 1) (some ⟨w.heap.size, 0, none⟩) l.length l := by
  refine ⟨⟨by simp [Lib.byteCells], fun _ => ⟨_, rfl, by show w.heap.size < _; omega, fun j u hu => ?_⟩⟩, fun _ => ⟨_, _, rfl⟩⟩
  rw [Lib.addr_add, Lib.cell_of_heap (heap_alloc_new w _)]
  simpa using hu
def tinyBase : List UInt8 := [98, 97, 115, 101]
def tinyDelta : List UInt8 := [4, 6, 144, 4, 2, 45, 33]
theorem tiny : patch tinyBase tinyDelta = some [98, 97, 115, 101, 45, 33] := by decide
set_option maxRecDepth 100000 in
set_option maxHeartbeats 4000000 in
theorem deltaWorks_calls (t : TypeId) (p0 p1 p2 : Value) (w : World) (hE : Env w w.heap.size t p0 p1 p2) :
    Calls Tryd.prog 9 #[] w fun e w' => e = .returned (.bool true) ∧ Below w.heap.size w w' := by
  have HE := hid hE
  clear hE
  go_enter Tryd.func9, Tryd.ntmps9
  have hconv := Lib.run_convert_bytes_const (P := Tryd.prog) w 22 5 #[.int .u8 98, .int .u8 97, .int .u8 115, .int .u8 101] 4 4 Tryd.underlying22 Tryd.underlying5
  obtain ⟨wa, hwa⟩ : ∃ wa, wa = w.alloc (.cells (byteCells tinyBase).toArray 5 (4, 5)) := ⟨_, rfl⟩
  have hsa : wa.heap.size = w.heap.size + 1 := by rw [hwa]; exact alloc_size _ _
  have hba : Below w.heap.size w wa := by rw [hwa]; exact (Below.refl w.heap.size w).alloc (Nat.le_refl _) _
  have hB1 : Bytes wa (w.heap.size + 1) (some ⟨w.heap.size, 0, none⟩) 4 tinyBase := by rw [hwa]; exact bytes_lit (w := w) tinyBase (4, 5)
  have hB2 : Bytes (wa.alloc (.cells (byteCells tinyDelta).toArray 5)) (wa.heap.size + 1) (some ⟨w.heap.size + 1, 0, none⟩) 7 tinyDelta := by rw [← hsa]; exact bytes_lit (w := wa) tinyDelta (0, 0)
  have hbb : Below w.heap.size w (wa.alloc (.cells (byteCells tinyDelta).toArray 5)) := hba.alloc (by omega) _
  have hsb : (wa.alloc (.cells (byteCells tinyDelta).toArray 5)).heap.size = wa.heap.size + 1 := alloc_size _ _
  have hcall := impl_calls (some ⟨w.heap.size, 0, none⟩) (some ⟨w.heap.size + 1, 0, none⟩) 4 4 7 7 35 tinyBase tinyDelta t p0 p1 p2 (wa.alloc (.cells (byteCells tinyDelta).toArray 5))
    ((HE.out.below hbb).more hbb.size) ((hB1.alloc (by omega) _).more (by omega)) (by rw [hsb]; exact hB2) (Nat.le_refl _) (Nat.le_refl _) (by omega) (by omega) (by decide) (by omega)
  rw [tiny] at hcall
  rw [hwa] at hcall hbb
  have HCall := hid hcall
  have HBB := hid hbb
  clear hcall hbb hB1 hB2 hba hsa hsb hwa
  go_wp2_with fail
  refine HCall.out.mono ?_
  rintro e w3 ⟨hb3, v, rfl, hown⟩
  obtain ⟨A3, c3, rfl, hc3, hB3⟩ := own_bytes hown
  have hcv : (convert 22 9 (.slice A3 6 c3)).run Tryd.prog w3 = .ok (.string ⟨#[98, 97, 115, 101, 45, 33]⟩) w3 := conv_bytes c3 hB3
  have HB3 := hid (HBB.out.trans ⟨hb3.os, hb3.tape, hb3.output, hb3.size, fun k hk => hb3.block k (by have := HBB.out.size; omega)⟩)
  clear hown hB3 hb3 hconv
  go_wp2_with fail
  go_ret
  exact ⟨rfl, HB3.out⟩
end Go.Proofs.YtfanginpfppdeaaDoor.delta
