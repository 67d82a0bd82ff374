/- SHA-1 as both texts reckon it, in the model's own numbers. Nothing of any program. -/
import Derived.Test.YtdbkafpflicdiaaDoorProg
import Derived.Lib.Buffer
set_option linter.unusedVariables false
namespace Go.Proofs.YtdbkafpflicdiaaDoor.sha

def u (x : Int) : Int := x % 4294967296
def rotI (n : Nat) (x : Int) : Int := bits .or .u32 (u (x * 2 ^ n)) (x / 2 ^ (32 - n))
def be4 (b0 b1 b2 b3 : Int) : Int := bits .or .u32 (bits .or .u32 (bits .or .u32 (u (u b0 * 16777216)) (u (u b1 * 65536))) (u (u b2 * 256))) (u b3)
def byteAt (l : List UInt8) (i : Nat) : Int := ((l.getD i 0).toNat : Int)
def word (l : List UInt8) (i : Nat) : Int := be4 (byteAt l (4 * i)) (byteAt l (4 * i + 1)) (byteAt l (4 * i + 2)) (byteAt l (4 * i + 3))
def xor4 (a b c d : Int) : Int := bits .xor .u32 (bits .xor .u32 (bits .xor .u32 a b) c) d
def wTab (l : List UInt8) : Nat → List Int
  | 0 => (List.range 16).map (word l)
  | n + 1 => wTab l n ++ [rotI 1 (xor4 ((wTab l n).getD (n + 13) 0) ((wTab l n).getD (n + 8) 0) ((wTab l n).getD (n + 2) 0) ((wTab l n).getD n 0))]
def wAt (l : List UInt8) (i : Nat) : Int := (wTab l 64).getD i 0
theorem wTab_len (l : List UInt8) : ∀ n, (wTab l n).length = 16 + n
  | 0 => by simp [wTab]
  | n + 1 => by rw [wTab, List.length_append, wTab_len l n]; simp; omega
theorem wTab_up (l : List UInt8) (n : Nat) : ∀ m i, i < 16 + n → (wTab l (n + m)).getD i 0 = (wTab l n).getD i 0
  | 0, i, _ => rfl
  | m + 1, i, h => by
    rw [← wTab_up l n m i h, ← Nat.add_assoc, wTab, List.getD_eq_getElem?_getD, List.getD_eq_getElem?_getD, List.getElem?_append_left (by rw [wTab_len]; omega), ← List.getD_eq_getElem?_getD]
theorem wAt_of (l : List UInt8) (n i : Nat) (hn : n ≤ 64) (hi : i < 16 + n) : (wTab l n).getD i 0 = wAt l i := by
  have := wTab_up l n (64 - n) i hi
  rw [show n + (64 - n) = 64 by omega] at this
  exact this.symm
theorem wAt_low (l : List UInt8) (i : Nat) (h : i < 16) : wAt l i = word l i := by
  rw [← wAt_of l 0 i (by omega) (by omega), wTab, List.getD_eq_getElem?_getD]
  simp [h]
theorem wAt_high (l : List UInt8) (n : Nat) (h : n < 64) : wAt l (n + 16) = rotI 1 (xor4 (wAt l (n + 13)) (wAt l (n + 8)) (wAt l (n + 2)) (wAt l n)) := by
  rw [← wAt_of l (n + 1) (n + 16) (by omega) (by omega), wTab, List.getD_eq_getElem?_getD, List.getElem?_append_right (by rw [wTab_len]; omega), wTab_len,
    wAt_of l n _ (by omega) (by omega), wAt_of l n _ (by omega) (by omega), wAt_of l n _ (by omega) (by omega), wAt_of l n _ (by omega) (by omega)]
  simp [show n + 16 - (16 + n) = 0 by omega]
structure Five where
  a : Int
  b : Int
  c : Int
  d : Int
  e : Int
/-- not, in 32 bits, as the model says it -/
def notI (x : Int) : Int := bits .xor .u32 IntKind.u32.max x
def fI (i : Nat) (s : Five) : Int :=
  if i < 20 then bits .or .u32 (bits .and .u32 s.b s.c) (bits .and .u32 (notI s.b) s.d)
  else if i < 40 then bits .xor .u32 (bits .xor .u32 s.b s.c) s.d
  else if i < 60 then bits .or .u32 (bits .or .u32 (bits .and .u32 s.b s.c) (bits .and .u32 s.b s.d)) (bits .and .u32 s.c s.d)
  else bits .xor .u32 (bits .xor .u32 s.b s.c) s.d
def kI (i : Nat) : Int := if i < 20 then 1518500249 else if i < 40 then 1859775393 else if i < 60 then 2400959708 else 3395469782
def stepI (i : Nat) (x : Int) (s : Five) : Five := ⟨u (u (u (u (rotI 5 s.a + fI i s) + s.e) + kI i) + x), s.a, rotI 30 s.b, s.c, s.d⟩
def rd (l : List UInt8) (h : Five) : Nat → Five
  | 0 => h
  | i + 1 => stepI i (wAt l i) (rd l h i)
def compress (l : List UInt8) (h : Five) : Five := let r := rd l h 80; ⟨u (h.a + r.a), u (h.b + r.b), u (h.c + r.c), u (h.d + r.d), u (h.e + r.e)⟩
def init : Five := ⟨1732584193, 4023233417, 2562383102, 271733878, 3285377520⟩
/-- whole blocks are taken in, the rest stays -/
def blocks (l : List UInt8) (h : Five) : Five × List UInt8 := if 64 ≤ l.length then blocks (l.drop 64) (compress (l.take 64) h) else (h, l)
termination_by l.length
decreasing_by simp; omega
theorem blocks_short {l : List UInt8} (h : Five) (hl : l.length < 64) : blocks l h = (h, l) := by rw [blocks, if_neg (by omega)]
theorem blocks_long {l : List UInt8} (h : Five) (hl : 64 ≤ l.length) : blocks l h = blocks (l.drop 64) (compress (l.take 64) h) := by rw [blocks, if_pos hl]
theorem blocks_append (a b : List UInt8) (h : Five) : blocks (a ++ b) h = blocks ((blocks a h).2 ++ b) (blocks a h).1 := by
  generalize hn : a.length = n
  induction n using Nat.strongRecOn generalizing a h with
  | _ n ih =>
    by_cases hl : 64 ≤ a.length
    · rw [blocks_long h hl, blocks_long h (by simp; omega), List.drop_append_of_le_length hl, List.take_append_of_le_length hl]
      exact ih (a.drop 64).length (by simp; omega) (a.drop 64) _ rfl
    · rw [blocks_short (l := a) h (by omega)]
theorem blocks_rest (l : List UInt8) (h : Five) : (blocks l h).2.length < 64 := by
  generalize hn : l.length = n
  induction n using Nat.strongRecOn generalizing l h with
  | _ n ih =>
    by_cases hl : 64 ≤ l.length
    · rw [blocks_long h hl]; exact ih _ (by simp; omega) (l.drop 64) _ rfl
    · rw [blocks_short h (by omega)]; show l.length < 64; omega
theorem blocks_mod (l : List UInt8) (h : Five) : (blocks l h).2.length % 64 = l.length % 64 := by
  generalize hn : l.length = n
  induction n using Nat.strongRecOn generalizing l h with
  | _ n ih =>
    by_cases hl : 64 ≤ l.length
    · rw [blocks_long h hl, ih _ (by simp; omega) (l.drop 64) _ rfl]; simp; omega
    · rw [blocks_short h (by omega), hn]
/-- the state behind t blocks -/
def stAt (l : List UInt8) : Nat → Five
  | 0 => init
  | t + 1 => compress ((l.drop (64 * t)).take 64) (stAt l t)
theorem blocks_stAt (l : List UInt8) : ∀ t, 64 * t ≤ l.length → blocks l init = blocks (l.drop (64 * t)) (stAt l t)
  | 0, _ => by simp [stAt]
  | t + 1, h => by
    rw [blocks_stAt l t (by omega), blocks_long _ (by simp; omega), List.drop_drop, show 64 * t + 64 = 64 * (t + 1) by omega]
    rfl
theorem stAt_all (l : List UInt8) (t : Nat) (h : l.length = 64 * t) : (blocks l init).1 = stAt l t := by
  rw [blocks_stAt l t (by omega), List.drop_eq_nil_of_le (by omega), blocks_short _ (by simp)]
def padZ (n : Nat) : Nat := (120 - (n + 1) % 64) % 64
def be8 (x : Nat) : List UInt8 := (List.range 8).map fun j => UInt8.ofNat (x / 2 ^ (56 - 8 * j) % 256)
def pad (n : Nat) : List UInt8 := 128 :: (List.replicate (padZ n) 0 ++ be8 (n * 8))
def numB (x : Int) : List UInt8 := [UInt8.ofNat (x / 16777216 % 256).toNat, UInt8.ofNat (x / 65536 % 256).toNat, UInt8.ofNat (x / 256 % 256).toNat, UInt8.ofNat (x % 256).toNat]
def outB (s : Five) : List UInt8 := numB s.a ++ numB s.b ++ numB s.c ++ numB s.d ++ numB s.e
def sha1 (l : List UInt8) : List UInt8 := outB (blocks (l ++ pad l.length) init).1
theorem sha1_len (l : List UInt8) : (sha1 l).length = 20 := by simp [sha1, outB, numB]
theorem be8_len (x : Nat) : (be8 x).length = 8 := by simp [be8]
theorem pad_len (n : Nat) : (n + (pad n).length) % 64 = 0 := by
  unfold pad
  simp only [List.length_cons, List.length_append, List.length_replicate, be8_len, padZ]
  omega
/-- the first k numbers of a row, noughts behind them -/
def arr (m : Nat) (f : Nat → Int) (k : Nat) : Array Value := ((List.range m).map fun j => if j < k then Value.int .u32 (f j) else .int .u32 0).toArray
theorem arr_get {m : Nat} (f : Nat → Int) {k i : Nat} (hi : i < k) (hm : i < m) : (arr m f k)[i]? = some (.int .u32 (f i)) := by
  simp [arr, hm, hi]
theorem arr_set {m : Nat} (f : Nat → Int) (k : Nat) : (arr m f k).setIfInBounds k (.int .u32 (f k)) = arr m f (k + 1) := by
  apply Array.ext_getElem?
  intro i
  rw [Array.getElem?_setIfInBounds]
  simp only [arr, List.getElem?_toArray, List.getElem?_map, List.size_toArray, List.length_map, List.length_range]
  by_cases h : k = i
  · subst h
    rw [if_pos rfl]
    by_cases h2 : k < m
    · simp [h2]
    · simp [h2]
  · rw [if_neg h]
    by_cases h2 : i < m
    · simp only [List.getElem?_range h2, Option.map_some]
      have : i < k ↔ i < k + 1 := by omega
      simp [this]
    · simp [h2]
theorem arr_size (m : Nat) (f : Nat → Int) (k : Nat) : (arr m f k).size = m := by simp [arr]
def five (s : Five) : Array Value := #[.int .u32 s.a, .int .u32 s.b, .int .u32 s.c, .int .u32 s.d, .int .u32 s.e]
end Go.Proofs.YtdbkafpflicdiaaDoor.sha
