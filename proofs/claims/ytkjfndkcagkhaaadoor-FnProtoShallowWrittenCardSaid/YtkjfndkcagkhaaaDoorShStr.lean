/- Encoder.Encode, Encoder.EncodeString of one line. -/
import Derived.Test.YtkjfndkcagkhaaaDoorShEnc
set_option linter.unusedVariables false
attribute [local go_sem ↓] Go.wp_at_zero Go.wp_at_succ
namespace Go.Proofs.YtkjfndkcagkhaaaDoor.enc
open Go.RowKit Lib frm mem rd pkt text buf

set_option maxRecDepth 100000 in
set_option maxHeartbeats 2000000 in
theorem encode_one (B b ge R : Nat) (D : Option Addr) (d : Nat) (l p : List UInt8) (w : World) (h : Es B b ge l w) (hR : w.cell? ⟨R, 0, none⟩ = some (.slice D p.length d)) (hp : buf.Src w D p) (hl0 : 0 < p.length) (hm : p.length ≤ 65516) (hlim : l.length + 65520 ≤ 140737488355328) :
    Calls Tryd.prog 78 #[.pointer (some ⟨ge, 0, none⟩), .slice (some ⟨R, 0, none⟩) 1 1] w (Done B b ge (l ++ line p) w) := by
  have c1 := hid (encodeLine_calls B b ge D d l p w h hp hl0 hm hlim)
  clear h hp hl0 hm hlim
  go_enter Tryd.func78, Tryd.ntmps78
  go_wp2_with fail
  refine wp_loop_rounds 2 ?_
  rw [rounds_succ]
  go_wp2_with fail
  refine c1.out.mono ?_
  rintro e w1 ⟨rfl, h1⟩
  have H := hid h1
  clear h1
  go_wp2_with fail
  rw [rounds_succ]
  go_wp2_with fail
  go_ret
  exact ⟨rfl, H.out⟩
/-- what '[]byte(s)' makes is no row -/
theorem src_world (w : World) (s : ByteArray) : buf.Src (bytesWorld w 5 s) (some ⟨w.heap.size, 0, none⟩) s.data.toList := by
  refine ⟨w.heap.size, 0, _, rfl, bytesWorld_at_new w 5 s, fun c e => ?_, fun j u hu => ?_⟩
  · injection e with _ _ e
    injection e with e1 e2
    omega
  · have hj : j < s.size := by
      have := (List.getElem?_eq_some_iff.1 hu).1
      simpa [Lib.byteCells] using this
    rw [Nat.zero_add, bytesWorld_cell w 5 s j hj, ← hu]
    have hj2 : j < s.data.toList.length := by simpa using hj
    simp only [Lib.byteCells, List.getElem?_map, List.getElem?_eq_getElem hj2, Option.map_some, List.getD_eq_getElem?_getD, Option.getD_some]
theorem below_world (w : World) (e : TypeId) (s : ByteArray) : Below w.heap.size w (bytesWorld w e s) :=
  ⟨rfl, rfl, rfl, by rw [bytesWorld_size]; omega, fun i hi => bytesWorld_at_old w e s i hi⟩
theorem src_alloc {w : World} {A : Option Addr} {p : List UInt8} (h : buf.Src w A p) (o : Obj) : buf.Src (w.alloc o) A p := by
  obtain ⟨g, o1, ob, e, h1, h2, h3⟩ := h
  have hlt := lt_of_heap h1
  have hk := (Kept.refl [] w).alloc o
  have h4 := (hk.block g hlt (by simp)).trans h1
  exact ⟨g, o1, ob, e, h4, h2, fun j v hj => (cell_same (p := ⟨g, o1 + j, none⟩) (h4.trans h1.symm)).trans (h3 j v hj)⟩
set_option maxRecDepth 100000 in
set_option maxHeartbeats 2000000 in
theorem encodeString_one (B b ge R : Nat) (s : ByteArray) (l : List UInt8) (w : World) (h : Es B b ge l w) (hR : w.cell? ⟨R, 0, none⟩ = some (.string s)) (hl0 : 0 < s.size) (hm : s.size ≤ 65516) (hlim : l.length + 65520 ≤ 140737488355328) :
    Calls Tryd.prog 55 #[.pointer (some ⟨ge, 0, none⟩), .slice (some ⟨R, 0, none⟩) 1 1] w (Done B b ge (l ++ line s.data.toList) w) := by
  have hsl : s.data.toList.length = s.size := by simp
  have hk : Kept [] w (bytesWorld w 5 s) := .of_below (below_world w 5 s)
  have hsrc := src_world w s
  have hcv := Go.Lib.run_convert_string_bytes (P := Tryd.prog) w 9 25 5 s Tryd.underlying9 Tryd.underlying25 Tryd.underlying5
  generalize grownCap w s.size 0 5 = cap at *
  generalize bytesWorld w 5 s = w1 at *
  have c1 := hid (fun (o : Obj) (hq : (w1.alloc o).cell? ⟨w1.heap.size, 0, none⟩ = some (.slice (some ⟨w.heap.size, 0, none⟩) s.size cap)) => encode_one B b ge w1.heap.size (some ⟨w.heap.size, 0, none⟩) cap l s.data.toList (w1.alloc o) ((h.kept hk).kept ((Kept.refl [] w1).alloc o)) (by rw [hsl]; exact hq) (src_alloc hsrc o) (by omega) (by omega) hlim)
  have HK := hid hk
  have HB := hid h.size
  clear h hl0 hm hlim hk hsrc hsl
  go_enter Tryd.func55, Tryd.ntmps55
  go_wp2_with fail
  refine wp_loop_rounds 2 ?_
  rw [rounds_succ]
  go_wp2_with fail
  refine (c1.out _ ?_).mono ?_
  · rw [Lib.cell_of_heap (heap_alloc_new w1 _)]; rfl
  rintro e w2 ⟨rfl, h1, h2, h3⟩
  have H := hid (And.intro h1 (And.intro h2 h3))
  have HKA := hid (HK.out.alloc (.cells #[.slice (some ⟨w.heap.size, 0, none⟩) s.size cap] 25))
  clear h1 h2 h3
  go_wp2_with fail
  rw [rounds_succ]
  go_wp2_with fail
  go_ret
  exact ⟨rfl, H.out.1, (kept_below HKA.out HB.out).trans H.out.2.1, (FK.of_kept HKA.out).trans H.out.2.2⟩
end Go.Proofs.YtkjfndkcagkhaaaDoor.enc
