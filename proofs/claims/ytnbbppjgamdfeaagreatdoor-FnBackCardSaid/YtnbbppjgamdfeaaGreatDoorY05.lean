/- laws.FnBack, part 5 of 54: M3 M4 M5 M6 M7 M8. -/
import Derived.Test.YtnbbppjgamdfeaaGreatDoorY04
import Derived.Test.YtnbbppjgamdfeaaGreatDoorY01

/- The file, plain: chunks, the packed stream, rows and pixels. -/
section
set_option linter.unusedVariables false
set_option linter.unusedSimpArgs false
namespace Go.Proofs.YtnbbppjgamdfeaaGreatDoor
open Go Go.RowKit

def b8 (n : Nat) : UInt8 := UInt8.ofNat n
theorem b8_toNat (n : Nat) : (b8 n).toNat = n % 256 := by simp [b8]

/-- A number in four bytes, the highest first. -/
def four (n : Nat) : List UInt8 := [b8 (n / 16777216), b8 (n / 65536), b8 (n / 256), b8 n]
theorem four_length (n : Nat) : (four n).length = 4 := rfl
theorem be4_four (n : Nat) (h : n < 4294967296) : be4 (b8 (n / 16777216)) (b8 (n / 65536)) (b8 (n / 256)) (b8 n) = n := by
  unfold be4
  simp only [b8_toNat]
  omega

/-- A chunk: how long its data is, its name, the data, the sum over name and data. -/
def chunkB (name data : List UInt8) : List UInt8 := four data.length ++ name ++ data ++ four (crcOf (name ++ data))
/-- Bytes as a stream of zlib that keeps them. -/
def keptB (R : List UInt8) : List UInt8 := [0x78, 1, 0, b8 R.length, b8 (R.length / 256), b8 (65535 - R.length), b8 ((65535 - R.length) / 256)] ++ R ++ [3, 0] ++ four (adOf R)
def sigB : List UInt8 := [0x89, 80, 78, 71, 13, 10, 26, 10]
def nIHDR : List UInt8 := [73, 72, 68, 82]
def nPLTE : List UInt8 := [80, 76, 84, 69]
def ntRNS : List UInt8 := [116, 82, 78, 83]
def nIDAT : List UInt8 := [73, 68, 65, 84]
def nIEND : List UInt8 := [73, 69, 78, 68]
def headB (wide high depth colour : Nat) : List UInt8 := four wide ++ four high ++ [b8 depth, b8 colour, 0, 0, 0]

/-- A shade: red, green, blue, alpha. -/
abbrev Shade4 := UInt8 × UInt8 × UInt8 × UInt8
def shadesB (pal : List Shade4) : List UInt8 := pal.flatMap fun s => [s.1, s.2.1, s.2.2.1]
def clearsB (pal : List Shade4) : List UInt8 := pal.map fun s => s.2.2.2
/-- How many entries the list of what is clear has. -/
def lastClear (pal : List Shade4) : Nat → Nat
  | 0 => 0
  | k + 1 => if (pal.getD k (0, 0, 0, 255)).2.2.2 ≠ 255 then k + 1 else lastClear pal k

/-- The file's parts. -/
def fileB (wide high depth colour : Nat) (R : List UInt8) (pal : List Shade4) : List UInt8 :=
  sigB ++ chunkB nIHDR (headB wide high depth colour) ++
    (if colour = 3 then chunkB nPLTE (shadesB pal) ++ (if 0 < lastClear pal pal.length then chunkB ntRNS ((clearsB pal).take (lastClear pal pal.length)) else []) else []) ++
    chunkB nIDAT (keptB R) ++ chunkB nIEND []

def chan (colour : Nat) : Nat := if colour = 2 then 3 else if colour = 6 then 4 else 1
def rowB (wide depth colour : Nat) : Nat := (wide * chan colour * depth + 7) / 8
/-- Byte k of row y, behind its filter's byte. -/
def rowAt (R : List UInt8) (rb y k : Nat) : Nat := (R.getD (y * (1 + rb) + 1 + k) 0).toNat
/-- Sample k of row y. -/
def smp (R : List UInt8) (rb depth y k : Nat) : Nat :=
  if depth = 8 then rowAt R rb y k else if depth = 16 then rowAt R rb y (2 * k) * 256 + rowAt R rb y (2 * k + 1)
  else rowAt R rb y (k * depth / 8) / 2 ^ (8 - depth - k * depth % 8) % 2 ^ depth

/-- The rows are as they should be. -/
structure RowsOk (wide high depth colour count : Nat) (R : List UInt8) : Prop where
  kind : (colour = 0 ∧ (depth = 8 ∨ depth = 16)) ∨ (colour = 2 ∧ (depth = 8 ∨ depth = 16)) ∨ (colour = 6 ∧ (depth = 8 ∨ depth = 16)) ∨ (colour = 3 ∧ (depth = 1 ∨ depth = 2 ∨ depth = 4 ∨ depth = 8))
  w0 : 0 < wide
  h0 : 0 < high
  w60 : wide ≤ 60
  h60 : high ≤ 60
  len : R.length = high * (1 + rowB wide depth colour)
  ft : ∀ y, y < high → R.getD (y * (1 + rowB wide depth colour)) 0 = 0
  cnt : colour = 3 → 0 < count ∧ count ≤ 2 ^ depth
  pal : colour = 3 → ∀ y x, y < high → x < wide → smp R (rowB wide depth colour) depth y x < count

theorem RowsOk.rb_le {wide high depth colour count : Nat} {R : List UInt8} (h : RowsOk wide high depth colour count R) : rowB wide depth colour ≤ 480 ∧ 0 < rowB wide depth colour := by
  have := h.w60
  have := h.w0
  rcases h.kind with ⟨rfl, rfl | rfl⟩ | ⟨rfl, rfl | rfl⟩ | ⟨rfl, rfl | rfl⟩ | ⟨rfl, rfl | rfl | rfl | rfl⟩ <;> simp only [rowB, chan] <;> simp <;> omega
theorem RowsOk.len_le {wide high depth colour count : Nat} {R : List UInt8} (h : RowsOk wide high depth colour count R) : R.length ≤ 28860 ∧ 0 < R.length := by
  rw [h.len]
  have := h.rb_le
  have h1 := h.h60
  have h2 := h.h0
  have : high * (1 + rowB wide depth colour) ≤ 60 * 481 := Nat.mul_le_mul h1 (by omega)
  refine ⟨by omega, Nat.mul_pos h2 (by omega)⟩

/-- A pixel's four numbers. -/
abbrev Dot4 := Nat × Nat × Nat × Nat
def palDot (s : Shade4) : Dot4 := (257 * s.1.toNat, 257 * s.2.1.toNat, 257 * s.2.2.1.toNat, 257 * s.2.2.2.toNat)
def scale (depth v : Nat) : Nat := if depth = 16 then v else 257 * v
/-- The pixel at column x of row y. -/
def dotAt (R : List UInt8) (wide depth colour : Nat) (pal : List Shade4) (y x : Nat) : Dot4 :=
  let rb := rowB wide depth colour
  let v := fun j => scale depth (smp R rb depth y (chan colour * x + j))
  if colour = 0 then (v 0, v 0, v 0, 65535) else if colour = 2 then (v 0, v 1, v 2, 65535) else if colour = 3 then palDot (pal.getD (smp R rb depth y x) (0, 0, 0, 0)) else (v 0, v 1, v 2, v 3)
end Go.Proofs.YtnbbppjgamdfeaaGreatDoor
end

/- Rows, plain: how they are laid one behind the other; packed samples. -/
section
set_option linter.unusedVariables false
set_option linter.unusedSimpArgs false
namespace Go.Proofs.YtnbbppjgamdfeaaGreatDoor
open Go Go.RowKit

/-- A sample of fewer than 8 bits in a row that stands alone. -/
def pk (r : List UInt8) (depth x : Nat) : Nat := (r.getD (x * depth / 8) 0).toNat / 2 ^ (8 - depth - x * depth % 8) % 2 ^ depth
/-- A sample of a row that stands alone, of a palette. -/
def pk8 (r : List UInt8) (depth x : Nat) : Nat := if depth = 8 then (r.getD x 0).toNat else pk r depth x

/-- y rows are laid. -/
structure RowsUp (wide depth colour count y : Nat) (l : List UInt8) : Prop where
  len : l.length = y * (1 + rowB wide depth colour)
  ft : ∀ k, k < y → l.getD (k * (1 + rowB wide depth colour)) 0 = 0
  pal : colour = 3 → ∀ k x, k < y → x < wide → smp l (rowB wide depth colour) depth k x < count

theorem getD_left (l m : List UInt8) (k : Nat) (h : k < l.length) : (l ++ m).getD k 0 = l.getD k 0 := by
  simp only [List.getD_eq_getElem?_getD, List.getElem?_append_left h]
theorem getD_right (l m : List UInt8) (k : Nat) : (l ++ m).getD (l.length + k) 0 = m.getD k 0 := by
  simp only [List.getD_eq_getElem?_getD]
  rw [List.getElem?_append_right (by omega), show l.length + k - l.length = k by omega]

theorem RowsUp.zero (wide depth colour count : Nat) : RowsUp wide depth colour count 0 [] := ⟨by simp, fun k h => by omega, fun _ k x h => by omega⟩

theorem pk_div (depth x wide : Nat) (hd : depth = 1 ∨ depth = 2 ∨ depth = 4) (hx : x < wide) : x * depth / 8 < (wide * depth + 7) / 8 := by
  rcases hd with rfl | rfl | rfl <;> omega

theorem RowsUp.next {wide depth colour count y : Nat} {l row : List UInt8} (h : RowsUp wide depth colour count y l) (hr : row.length = rowB wide depth colour)
    (hd : colour = 3 → depth = 1 ∨ depth = 2 ∨ depth = 4 ∨ depth = 8) (hp : colour = 3 → ∀ x, x < wide → pk8 row depth x < count) : RowsUp wide depth colour count (y + 1) (l ++ 0 :: row) := by
  have hl := h.len
  have e1 : (y + 1) * (1 + rowB wide depth colour) = y * (1 + rowB wide depth colour) + (1 + rowB wide depth colour) := by rw [Nat.add_mul]; omega
  have hlt : ∀ k j, k < y → j < 1 + rowB wide depth colour → k * (1 + rowB wide depth colour) + j < l.length := fun k j hk hj => by
    have : (k + 1) * (1 + rowB wide depth colour) ≤ y * (1 + rowB wide depth colour) := Nat.mul_le_mul_right _ hk
    rw [Nat.add_mul] at this
    omega
  refine ⟨?_, fun k hk => ?_, fun hc k x hk hx => ?_⟩
  · simp only [List.length_append, List.length_cons, hl, hr, e1]; omega
  · by_cases e : k = y
    · subst e
      rw [← hl, show l.length = l.length + 0 from rfl, getD_right]; rfl
    · rw [getD_left _ _ _ (by have := hlt k 0 (by omega) (by omega); omega)]
      exact h.ft k (by omega)
  · have hrow : ∀ j, j < rowB wide depth colour → rowAt (l ++ 0 :: row) (rowB wide depth colour) k j = if k = y then (row.getD j 0).toNat else rowAt l (rowB wide depth colour) k j := fun j hj => by
      unfold rowAt
      by_cases e : k = y
      · subst e
        rw [if_pos rfl, ← hl, show l.length + 1 + j = l.length + (j + 1) by omega, getD_right]; rfl
      · rw [if_neg e, getD_left _ _ _ (by have := hlt k (1 + j) (by omega) (by omega); omega)]
    have hrb : rowB wide depth colour = (wide * depth + 7) / 8 := by rw [hc]; simp [rowB, chan]
    have hsm : smp (l ++ 0 :: row) (rowB wide depth colour) depth k x = if k = y then pk8 row depth x else smp l (rowB wide depth colour) depth k x := by
      have hd' := hd hc
      unfold smp pk8 pk
      by_cases e8 : depth = 8
      · subst e8
        rw [if_pos rfl, if_pos rfl, if_pos rfl, hrow x (by omega)]
      · have e16 : depth ≠ 16 := by omega
        rw [if_neg e8, if_neg e16, if_neg e8, if_neg e8, if_neg e16, hrow (x * depth / 8) (by rw [hrb]; exact pk_div depth x wide (by omega) hx)]
        split <;> rfl
    rw [hsm]
    split
    · exact hp hc x hx
    · exact h.pal hc k x (by omega) hx

/-- x samples are packed; left bits of the last byte are still free. -/
structure PackUp (depth count x left : Nat) (r : List UInt8) : Prop where
  len : 8 * r.length = x * depth + left
  lt : left < 8
  free : (r.getD (r.length - 1) 0).toNat % 2 ^ left = 0
  pal : ∀ k, k < x → pk r depth k < count

theorem PackUp.zero (depth count : Nat) : PackUp depth count 0 0 [] := ⟨by simp, by omega, by simp, fun k h => by omega⟩

theorem shift_far (a v L s : Nat) (hL : a % 2 ^ L = 0) (hv : v < 2 ^ L) (hs : L ≤ s) : (a + v) / 2 ^ s = a / 2 ^ s := by
  have e : 2 ^ s = 2 ^ L * 2 ^ (s - L) := by rw [← Nat.pow_add]; congr 1; omega
  rw [e, ← Nat.div_div_eq_div_mul, ← Nat.div_div_eq_div_mul]
  congr 1
  obtain ⟨q, hq⟩ := Nat.dvd_of_mod_eq_zero hL
  rw [hq, Nat.mul_add_div (Nat.two_pow_pos L), Nat.mul_div_cancel_left _ (Nat.two_pow_pos L), Nat.div_eq_of_lt hv, Nat.add_zero]

theorem shift_here (a v d L : Nat) (h : a % 2 ^ (L + d) = 0) (hv : v < 2 ^ d) : (a + v * 2 ^ L) / 2 ^ L % 2 ^ d = v ∧ (a + v * 2 ^ L) % 2 ^ L = 0 ∧ v * 2 ^ L < 2 ^ (L + d) := by
  obtain ⟨q, hq⟩ := Nat.dvd_of_mod_eq_zero h
  rw [Nat.pow_add] at hq
  have e : a + v * 2 ^ L = 2 ^ L * (2 ^ d * q + v) := by rw [hq, Nat.mul_assoc, Nat.mul_add, Nat.mul_comm v]
  refine ⟨?_, ?_, ?_⟩
  · rw [e, Nat.mul_div_cancel_left _ (Nat.two_pow_pos L), Nat.mul_add_mod, Nat.mod_eq_of_lt hv]
  · rw [e]; exact Nat.mul_mod_right _ _
  · rw [Nat.pow_add, Nat.mul_comm]; exact Nat.mul_lt_mul_of_pos_left hv (Nat.two_pow_pos L)

/-- The last byte changed: what was packed ahead of it stays; the new sample is there. -/
theorem PackUp.put {depth count x left : Nat} {r : List UInt8} {a b : UInt8} (hd : depth = 1 ∨ depth = 2 ∨ depth = 4) (h : PackUp depth count x (left + depth) (r ++ [a])) (v : Nat) (hv : v < count) (hc : count ≤ 2 ^ depth)
    (hb : b.toNat = a.toNat + v * 2 ^ left) : PackUp depth count (x + 1) left (r ++ [b]) := by
  have hl := h.len
  have hf := h.free
  simp only [List.length_append, List.length_cons, List.length_nil, show r.length + (0 + 1) - 1 = r.length + 0 by omega, getD_right] at hl hf
  simp only [List.getD_cons_zero] at hf
  have hs := shift_here a.toNat v depth left hf (by omega)
  have h8 := h.lt
  have hm : (x + 1) * depth = x * depth + depth := by rw [Nat.add_mul]; omega
  refine ⟨?_, by omega, ?_, fun k hk => ?_⟩
  · simp only [List.length_append, List.length_cons, List.length_nil]; omega
  · simp only [List.length_append, List.length_cons, List.length_nil, show r.length + (0 + 1) - 1 = r.length + 0 by omega, getD_right, List.getD_cons_zero, hb]
    exact hs.2.1
  · by_cases e : k = x
    · subst e
      have e1 : k * depth / 8 = r.length + 0 := by omega
      have e2 : 8 - depth - k * depth % 8 = left := by omega
      unfold pk
      rw [e1, e2, getD_right, List.getD_cons_zero, hb, hs.1]
      exact hv
    · have hk' := h.pal k (by omega)
      unfold pk at hk' ⊢
      by_cases hlt : k * depth / 8 < r.length
      · rw [getD_left _ _ _ hlt] at hk' ⊢; exact hk'
      · have hkm : (k + 1) * depth ≤ x * depth := Nat.mul_le_mul_right _ (by omega)
        rw [Nat.add_mul] at hkm
        have e1 : k * depth / 8 = r.length + 0 := by omega
        rw [e1, getD_right, List.getD_cons_zero] at hk' ⊢
        rw [hb, shift_far _ _ (left + depth) _ hf hs.2.2 (by rcases hd with rfl | rfl | rfl <;> omega)]
        exact hk'
/-- A new byte is begun. -/
theorem PackUp.fresh {depth count x : Nat} {r : List UInt8} (h : PackUp depth count x 0 r) (hd : depth = 1 ∨ depth = 2 ∨ depth = 4) (v : Nat) (hv : v < count) (hc : count ≤ 2 ^ depth) (b : UInt8) (hb : b.toNat = v * 2 ^ (8 - depth)) :
    PackUp depth count (x + 1) (8 - depth) (r ++ [b]) := by
  have hl := h.len
  have hm : (x + 1) * depth = x * depth + depth := by rw [Nat.add_mul]; omega
  have hs := shift_here 0 v depth (8 - depth) (by simp) (by omega)
  rw [Nat.zero_add] at hs
  refine ⟨?_, by rcases hd with rfl | rfl | rfl <;> omega, ?_, fun k hk => ?_⟩
  · simp only [List.length_append, List.length_cons, List.length_nil]; rcases hd with rfl | rfl | rfl <;> omega
  · simp only [List.length_append, List.length_cons, List.length_nil, show r.length + (0 + 1) - 1 = r.length + 0 by omega, getD_right, List.getD_cons_zero, hb]
    exact hs.2.1
  · by_cases e : k = x
    · subst e
      have e1 : k * depth / 8 = r.length + 0 := by omega
      have e2 : 8 - depth - k * depth % 8 = 8 - depth := by omega
      unfold pk
      rw [e1, e2, getD_right, List.getD_cons_zero, hb, hs.1]
      exact hv
    · have hk' := h.pal k (by omega)
      unfold pk at hk' ⊢
      have hkm : (k + 1) * depth ≤ x * depth := Nat.mul_le_mul_right _ (by omega)
      rw [Nat.add_mul] at hkm
      rw [getD_left _ _ _ (by rcases hd with rfl | rfl | rfl <;> omega)]
      exact hk'
end Go.Proofs.YtnbbppjgamdfeaaGreatDoor
end

/- The file, plain: its chunks. -/
section
set_option linter.unusedVariables false
set_option linter.unusedSimpArgs false
namespace Go.Proofs.YtnbbppjgamdfeaaGreatDoor
open Go Go.RowKit

/-- A chunk's name and its data. -/
abbrev Chunk2 := List UInt8 × List UInt8
/-- Chunks, one behind the other. -/
def flatC : List Chunk2 → List UInt8
  | [] => []
  | c :: cs => chunkB c.1 c.2 ++ flatC cs
theorem flatC_append (a b : List Chunk2) : flatC (a ++ b) = flatC a ++ flatC b := by
  induction a with
  | nil => rfl
  | cons c a ih => simp [flatC, ih, List.append_assoc]
/-- The file's chunks. -/
def chunksB (wide high depth colour : Nat) (R : List UInt8) (pal : List Shade4) : List Chunk2 :=
  (nIHDR, headB wide high depth colour) :: ((if colour = 3 then (nPLTE, shadesB pal) :: (if 0 < lastClear pal pal.length then [(ntRNS, (clearsB pal).take (lastClear pal pal.length))] else []) else []) ++ [(nIDAT, keptB R), (nIEND, [])])
theorem fileB_flat (wide high depth colour : Nat) (R : List UInt8) (pal : List Shade4) : fileB wide high depth colour R pal = sigB ++ flatC (chunksB wide high depth colour R pal) := by
  unfold fileB chunksB
  by_cases h : colour = 3
  · by_cases h2 : 0 < lastClear pal pal.length
    · simp only [if_pos h, if_pos h2, flatC, flatC_append, List.append_assoc, List.append_nil, List.cons_append, List.nil_append]
    · simp only [if_pos h, if_neg h2, flatC, flatC_append, List.append_assoc, List.append_nil, List.cons_append, List.nil_append]
  · simp only [if_neg h, flatC, flatC_append, List.append_assoc, List.append_nil, List.cons_append, List.nil_append]
theorem chunkB_length (n d : List UInt8) (h : n.length = 4) : (chunkB n d).length = 12 + d.length := by
  simp only [chunkB, List.length_append, four_length, h]; omega
theorem keptB_length (R : List UInt8) : (keptB R).length = R.length + 13 := by
  simp only [keptB, List.length_append, List.length_cons, List.length_nil, four_length]; omega
theorem headB_length (a b c d : Nat) : (headB a b c d).length = 13 := rfl
theorem shadesB_length (pal : List Shade4) : (shadesB pal).length = 3 * pal.length := by
  unfold shadesB
  induction pal with
  | nil => rfl
  | cons s p ih => simp only [List.flatMap_cons, List.length_append, ih, List.length_cons, List.length_nil]; omega

/-- A chunk at a place of the file: its parts, and where the next one stands. -/
structure ChunkAt (D : List UInt8) (i : Nat) (n d : List UInt8) (cs : List Chunk2) : Prop where
  le : i + 12 + d.length ≤ D.length
  size : (D.drop i).take 4 = four d.length
  name : (D.drop (i + 4)).take 4 = n
  data : (D.drop (i + 8)).take d.length = d
  both : (D.drop (i + 4)).take (4 + d.length) = n ++ d
  sum : (D.drop (i + 8 + d.length)).take 4 = four (crcOf (n ++ d))
  next : D.drop (i + 12 + d.length) = flatC cs
theorem chunkAt {D : List UInt8} {i : Nat} {n d : List UInt8} {cs : List Chunk2} (h : D.drop i = flatC ((n, d) :: cs)) (hn : n.length = 4) : ChunkAt D i n d cs := by
  have hD : D.drop i = four d.length ++ (n ++ (d ++ (four (crcOf (n ++ d)) ++ flatC cs))) := by
    rw [h]; simp only [flatC, chunkB, List.append_assoc]
  have e1 : D.drop (i + 4) = n ++ (d ++ (four (crcOf (n ++ d)) ++ flatC cs)) := by
    rw [← List.drop_drop, hD, List.drop_left' (four_length _)]
  have e2 : D.drop (i + 8) = d ++ (four (crcOf (n ++ d)) ++ flatC cs) := by
    rw [show i + 8 = i + 4 + 4 by omega, ← List.drop_drop, e1, List.drop_left' hn]
  have e3 : D.drop (i + 8 + d.length) = four (crcOf (n ++ d)) ++ flatC cs := by
    rw [← List.drop_drop, e2, List.drop_left' rfl]
  have e4 : D.drop (i + 12 + d.length) = flatC cs := by
    rw [show i + 12 + d.length = i + 8 + d.length + 4 by omega, ← List.drop_drop, e3, List.drop_left' (four_length _)]
  have hl : D.length - i = 12 + d.length + (flatC cs).length := by
    have := congrArg List.length hD
    simp only [List.length_drop, List.length_append, four_length, hn] at this
    omega
  refine ⟨by omega, by rw [hD, List.take_left' (four_length _)], by rw [e1, List.take_left' hn], by rw [e2, List.take_left' rfl], ?_, by rw [e3, List.take_left' (four_length _)], e4⟩
  rw [e1, ← List.append_assoc, List.take_left' (by rw [List.length_append, hn])]
end Go.Proofs.YtnbbppjgamdfeaaGreatDoor
end

/- Bits of bytes, plain. -/
section
set_option linter.unusedVariables false
set_option linter.unusedSimpArgs false
namespace Go.Proofs.YtnbbppjgamdfeaaGreatDoor
open Go Go.RowKit

/-- Bit k of bytes, the lowest of each byte first. -/
def bitAt (l : List UInt8) (k : Nat) : Nat := (l.getD (k / 8) 0).toNat / 2 ^ (k % 8) % 2
/-- n bits from place i on, the lowest first. -/
def manyB (l : List UInt8) (i : Nat) : Nat → Nat
  | 0 => 0
  | n + 1 => manyB l i n + bitAt l (i + n) * 2 ^ n
theorem bitAt_lt (l : List UInt8) (k : Nat) : bitAt l k < 2 := Nat.mod_lt _ (by decide)
theorem manyB_lt (l : List UInt8) (i n : Nat) : manyB l i n < 2 ^ n := by
  induction n with
  | zero => simp [manyB]
  | succ n ih =>
    have h := bitAt_lt l (i + n)
    have : bitAt l (i + n) * 2 ^ n ≤ 1 * 2 ^ n := Nat.mul_le_mul_right _ (by omega)
    rw [Nat.pow_succ]
    simp only [manyB]
    omega
theorem manyB8 (l : List UInt8) (j : Nat) : manyB l (8 * j) 8 = (l.getD j 0).toNat := by
  have h := (l.getD j 0).toNat_lt
  simp only [manyB, bitAt]
  rw [show (8 * j + 0) / 8 = j by omega, show (8 * j + 1) / 8 = j by omega, show (8 * j + 2) / 8 = j by omega, show (8 * j + 3) / 8 = j by omega, show (8 * j + 4) / 8 = j by omega, show (8 * j + 5) / 8 = j by omega, show (8 * j + 6) / 8 = j by omega, show (8 * j + 7) / 8 = j by omega,
    show (8 * j + 0) % 8 = 0 by omega, show (8 * j + 1) % 8 = 1 by omega, show (8 * j + 2) % 8 = 2 by omega, show (8 * j + 3) % 8 = 3 by omega, show (8 * j + 4) % 8 = 4 by omega, show (8 * j + 5) % 8 = 5 by omega, show (8 * j + 6) % 8 = 6 by omega, show (8 * j + 7) % 8 = 7 by omega]
  generalize (l.getD j 0).toNat = v at h ⊢
  omega
theorem manyB_add (l : List UInt8) (i n m : Nat) : manyB l i (n + m) = manyB l i n + manyB l (i + n) m * 2 ^ n := by
  induction m with
  | zero => simp [manyB]
  | succ m ih =>
    rw [← Nat.add_assoc]
    simp only [manyB]
    rw [ih, Nat.add_mul, Nat.pow_add, Nat.add_assoc i n m]
    have : bitAt l (i + (n + m)) * (2 ^ n * 2 ^ m) = bitAt l (i + (n + m)) * 2 ^ m * 2 ^ n := by rw [Nat.mul_assoc, Nat.mul_comm (2 ^ n)]
    omega
theorem manyB16 (l : List UInt8) (j : Nat) : manyB l (8 * j) 16 = (l.getD j 0).toNat + (l.getD (j + 1) 0).toNat * 256 := by
  rw [show 16 = 8 + 8 from rfl, manyB_add, manyB8, show 8 * j + 8 = 8 * (j + 1) by omega, manyB8]
end Go.Proofs.YtnbbppjgamdfeaaGreatDoor
end

/- Pixels, plain: of the decoded picture and of the file; a palette. -/
section
set_option linter.unusedVariables false
set_option linter.unusedSimpArgs false
namespace Go.Proofs.YtnbbppjgamdfeaaGreatDoor
open Go Go.RowKit

/-- Bytes a pixel of the decoded picture has. -/
def kN (colour depth : Nat) : Nat := if colour = 0 then (if depth = 8 then 1 else 2) else if colour = 3 then 1 else (if depth = 8 then 4 else 8)
/-- Its kind. -/
def kKind (colour depth : Nat) : Nat := if colour = 0 then (if depth = 8 then 1 else 2) else if colour = 3 then 7 else if colour = 2 then (if depth = 8 then 3 else 4) else (if depth = 8 then 5 else 6)
/-- Byte k of row y of the decoded picture. -/
def kG (R : List UInt8) (wide depth colour y k : Nat) : Nat :=
  let rb := rowB wide depth colour
  if colour = 0 then rowAt R rb y k else if colour = 3 then smp R rb depth y k else if colour = 2 then
    (if depth = 8 then (if k % 4 < 3 then rowAt R rb y (3 * (k / 4) + k % 4) else 255) else (if k % 8 < 6 then rowAt R rb y (6 * (k / 8) + k % 8) else 255)) else rowAt R rb y k
/-- The pixel that bytes of a kind tell. -/
def pdot (kind : Nat) (g : Nat → Nat) (pal : List Shade4) : Dot4 :=
  if kind = 1 then (257 * g 0, 257 * g 0, 257 * g 0, 65535) else if kind = 2 then (g 0 * 256 + g 1, g 0 * 256 + g 1, g 0 * 256 + g 1, 65535)
  else if kind = 7 then palDot (pal.getD (g 0) (0, 0, 0, 0))
  else if kind = 3 ∨ kind = 5 then (257 * g 0, 257 * g 1, 257 * g 2, 257 * g 3) else (g 0 * 256 + g 1, g 2 * 256 + g 3, g 4 * 256 + g 5, g 6 * 256 + g 7)

theorem pdot_eq {wide high depth colour count : Nat} {R : List UInt8} (h : RowsOk wide high depth colour count R) (pal : List Shade4) (y x : Nat) (hx : x < wide) :
    pdot (kKind colour depth) (fun j => kG R wide depth colour y (kN colour depth * x + j)) pal = dotAt R wide depth colour pal y x := by
  rcases h.kind with ⟨rfl, rfl | rfl⟩ | ⟨rfl, rfl | rfl⟩ | ⟨rfl, rfl | rfl⟩ | ⟨rfl, hd⟩
  · simp [pdot, kKind, kN, kG, dotAt, chan, scale, smp]
  · simp [pdot, kKind, kN, kG, dotAt, chan, scale, smp]
  · have e0 : 4 * x % 4 = 0 := by omega
    have e1 : (4 * x + 1) % 4 = 1 := by omega
    have e2 : (4 * x + 2) % 4 = 2 := by omega
    have e3 : (4 * x + 3) % 4 = 3 := by omega
    have d0 : 4 * x / 4 = x := by omega
    have d1 : (4 * x + 1) / 4 = x := by omega
    have d2 : (4 * x + 2) / 4 = x := by omega
    simp [pdot, kKind, kN, kG, dotAt, chan, scale, smp, e0, e1, e2, e3, d0, d1, d2]
  · have e0 : 8 * x % 8 = 0 := by omega
    have e1 : (8 * x + 1) % 8 = 1 := by omega
    have e2 : (8 * x + 2) % 8 = 2 := by omega
    have e3 : (8 * x + 3) % 8 = 3 := by omega
    have e4 : (8 * x + 4) % 8 = 4 := by omega
    have e5 : (8 * x + 5) % 8 = 5 := by omega
    have e6 : (8 * x + 6) % 8 = 6 := by omega
    have e7 : (8 * x + 7) % 8 = 7 := by omega
    have d0 : 8 * x / 8 = x := by omega
    have d1 : (8 * x + 1) / 8 = x := by omega
    have d2 : (8 * x + 2) / 8 = x := by omega
    have d3 : (8 * x + 3) / 8 = x := by omega
    have d4 : (8 * x + 4) / 8 = x := by omega
    have d5 : (8 * x + 5) / 8 = x := by omega
    have f1 : 2 * (3 * x) = 6 * x := by omega
    have f2 : 2 * (3 * x + 1) = 6 * x + 2 := by omega
    have f3 : 2 * (3 * x + 2) = 6 * x + 4 := by omega
    simp [pdot, kKind, kN, kG, dotAt, chan, scale, smp, e0, e1, e2, e3, e4, e5, e6, e7, d0, d1, d2, d3, d4, d5, f1, f2, f3]
  · simp [pdot, kKind, kN, kG, dotAt, chan, scale, smp]
  · have f1 : 2 * (4 * x) = 8 * x := by omega
    have f2 : 2 * (4 * x + 1) = 8 * x + 2 := by omega
    have f3 : 2 * (4 * x + 2) = 8 * x + 4 := by omega
    have f4 : 2 * (4 * x + 3) = 8 * x + 6 := by omega
    simp [pdot, kKind, kN, kG, dotAt, chan, scale, smp, f1, f2, f3, f4]
  · simp [pdot, kKind, kN, kG, dotAt]

/-- Pixel i, row by row. -/
def dotI (R : List UInt8) (wide depth colour : Nat) (pal : List Shade4) (i : Nat) : Dot4 := dotAt R wide depth colour pal (i / wide) (i % wide)
/-- Sample i, row by row. -/
def smpI (R : List UInt8) (wide depth colour : Nat) (i : Nat) : Nat := smp R (rowB wide depth colour) depth (i / (wide * chan colour)) (i % (wide * chan colour))
theorem chan_pos (colour : Nat) : 0 < chan colour ∧ chan colour ≤ 4 := by unfold chan; split; omega; split <;> omega
theorem smpI_at (R : List UInt8) (wide depth colour y k : Nat) (hk : k < wide * chan colour) : smpI R wide depth colour (y * (wide * chan colour) + k) = smp R (rowB wide depth colour) depth y k := by
  unfold smpI
  rw [Nat.mul_comm y, Nat.mul_add_div (by omega), Nat.div_eq_of_lt hk, Nat.mul_add_mod, Nat.mod_eq_of_lt hk, Nat.add_zero]
theorem smpI_pix (R : List UInt8) (wide depth colour i j : Nat) (hw : 0 < wide) (hj : j < chan colour) :
    smpI R wide depth colour (i * chan colour + j) = smp R (rowB wide depth colour) depth (i / wide) (chan colour * (i % wide) + j) := by
  have hm := Nat.mod_lt i hw
  have hd := Nat.div_add_mod i wide
  have e : i * chan colour + j = i / wide * (wide * chan colour) + (chan colour * (i % wide) + j) := by
    rw [← Nat.mul_assoc, Nat.mul_comm (i / wide) wide, Nat.mul_comm (chan colour) (i % wide), ← Nat.add_assoc, ← Nat.add_mul, hd]
  rw [e]
  refine smpI_at _ _ _ _ _ _ ?_
  have : (i % wide + 1) * chan colour ≤ wide * chan colour := Nat.mul_le_mul_right _ hm
  rw [Nat.add_mul, Nat.one_mul, Nat.mul_comm (i % wide)] at this
  omega
/-- A sample of a row, of as many bits as there are. -/
theorem smp_lt {wide high depth colour count : Nat} {R : List UInt8} (h : RowsOk wide high depth colour count R) (rb y k : Nat) : smp R rb depth y k < 2 ^ depth := by
  have hu : ∀ k, rowAt R rb y k < 256 := fun k => by unfold rowAt; exact UInt8.toNat_lt _
  unfold smp
  split
  · subst depth; exact hu k
  · split
    · subst depth
      have := hu (2 * k)
      have := hu (2 * k + 1)
      omega
    · exact Nat.mod_lt _ (Nat.two_pow_pos _)

theorem lastClear_le (pal : List Shade4) (n : Nat) : lastClear pal n ≤ n := by
  induction n with
  | zero => simp [lastClear]
  | succ n ih => simp only [lastClear]; split <;> omega
/-- Behind the last entry that is clear all are whole. -/
theorem lastClear_whole (pal : List Shade4) (n k : Nat) (hk : k < n) (h : lastClear pal n ≤ k) : (pal.getD k (0, 0, 0, 255)).2.2.2 = 255 := by
  induction n with
  | zero => omega
  | succ n ih =>
    simp only [lastClear] at h
    split at h
    · omega
    · rename_i hn
      by_cases e : k = n
      · subst e; exact Classical.byContradiction hn
      · exact ih (by omega) h
theorem shadesB_get (pal : List Shade4) (k : Nat) (s : Shade4) (h : pal[k]? = some s) : (shadesB pal)[3 * k]? = some s.1 ∧ (shadesB pal)[3 * k + 1]? = some s.2.1 ∧ (shadesB pal)[3 * k + 2]? = some s.2.2.1 := by
  induction pal generalizing k with
  | nil => simp at h
  | cons p pal ih =>
    cases k with
    | zero =>
      simp only [List.getElem?_cons_zero] at h
      injection h with h
      subst h
      simp [shadesB]
    | succ k =>
      simp only [List.getElem?_cons_succ] at h
      have := ih k h
      simp only [shadesB, List.flatMap_cons] at this ⊢
      rw [show 3 * (k + 1) = 3 * k + 3 by omega]
      simpa using this
theorem clearsB_get (pal : List Shade4) (k : Nat) (s : Shade4) (h : pal[k]? = some s) : (clearsB pal)[k]? = some s.2.2.2 := by
  unfold clearsB
  rw [List.getElem?_map, h]
  rfl
end Go.Proofs.YtnbbppjgamdfeaaGreatDoor
end

/- The fixed code of deflate as the reference builds it, plain. -/
section
set_option linter.unusedVariables false
set_option linter.unusedSimpArgs false
namespace Go.Proofs.YtnbbppjgamdfeaaGreatDoor
open Go Go.RowKit

/-- The lengths of the words of the fixed code of literals, of that of distances. -/
def litLens : List Nat := List.replicate 144 8 ++ List.replicate 112 9 ++ List.replicate 24 7 ++ List.replicate 8 8
def dstLens : List Nat := List.replicate 32 5
def litLen (s : Nat) : Nat := if s < 144 then 8 else if s < 256 then 9 else if s < 280 then 7 else 8
theorem litLens_eq : litLens = (List.range 288).map litLen := by decide +kernel
/-- The places from k on that hold n. -/
def placesFrom (n : Nat) : Nat → List Nat → List Nat
  | _, [] => []
  | k, x :: l => if x = n then k :: placesFrom n (k + 1) l else placesFrom n (k + 1) l
/-- What the words of up to n bits stand for, the shortest first. -/
def pfxList (l : List Nat) : Nat → List Nat
  | 0 => []
  | n + 1 => pfxList l n ++ placesFrom (n + 1) 0 l
/-- How much of the tree is left behind the words of up to n bits. -/
def pfxLeft (l : List Nat) : Nat → Int
  | 0 => 1
  | n + 1 => pfxLeft l n * 2 - (l.count (n + 1) : Int)
theorem placesFrom_append (n k : Nat) (a b : List Nat) : placesFrom n k (a ++ b) = placesFrom n k a ++ placesFrom n (k + a.length) b := by
  induction a generalizing k with
  | nil => rfl
  | cons x a ih =>
    simp only [List.cons_append, placesFrom, List.length_cons]
    rw [ih, show k + 1 + a.length = k + (a.length + 1) by omega]
    split <;> simp
theorem litLeft : ∀ n, n ≤ 15 → 0 ≤ pfxLeft litLens n ∧ pfxLeft litLens n ≤ 256 := by decide +kernel
theorem dstLeft : ∀ n, n ≤ 15 → 0 ≤ pfxLeft dstLens n ∧ pfxLeft dstLens n ≤ 256 := by decide +kernel
theorem litCount : litLens.count 1 = 0 ∧ litLens.count 2 = 0 ∧ litLens.count 3 = 0 ∧ litLens.count 4 = 0 ∧ litLens.count 5 = 0 ∧ litLens.count 6 = 0 ∧ litLens.count 7 = 24 := by decide +kernel
theorem litHead : (pfxList litLens 15)[0]? = some 256 := by decide +kernel
theorem litAll : (pfxList litLens 15).length = 288 := by decide +kernel
theorem litLens_length : litLens.length = 288 := by decide +kernel
theorem litLens_le : ∀ x ∈ litLens, x ≤ 15 := by decide +kernel
theorem dstLens_le : ∀ x ∈ dstLens, x ≤ 15 := by decide +kernel
end Go.Proofs.YtnbbppjgamdfeaaGreatDoor
end
