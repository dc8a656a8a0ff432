/- laws.FnBack, part 17 of 54: W0 W5 M9 N4. -/
import Derived.Test.YtnbbppjgamdfeaaGreatDoorY14
import Derived.Test.YtnbbppjgamdfeaaGreatDoorY05

/- Pixels in memory; the reference's Same. -/
section
set_option linter.unusedVariables false
set_option linter.unusedSimpArgs false
namespace Go.Proofs.YtnbbppjgamdfeaaGreatDoor
open Go Go.RowKit

/-- A pixel's four cells. -/
def dotCell (d : Dot4) : List Value := [.int .i64 (d.1 : Int), .int .i64 (d.2.1 : Int), .int .i64 (d.2.2.1 : Int), .int .i64 (d.2.2.2 : Int)]
/-- The cells of pixels, one behind the other. -/
def dotsV (l : List Dot4) : List Value := l.flatMap dotCell
theorem dotsV_length (l : List Dot4) : (dotsV l).length = l.length * 4 := by
  unfold dotsV
  induction l with
  | nil => rfl
  | cons d l ih => simp only [List.flatMap_cons, List.length_append, ih, dotCell, List.length_cons, List.length_nil]; omega
theorem dotsV_append (a b : List Dot4) : dotsV (a ++ b) = dotsV a ++ dotsV b := by simp [dotsV]
theorem dotsV_one (l : List Dot4) : ∀ u ∈ dotsV l, u.oneCell' = true := fun u hu => by
  simp only [dotsV, List.mem_flatMap] at hu
  obtain ⟨d, _, hd⟩ := hu
  simp only [dotCell, List.mem_cons, List.not_mem_nil, or_false] at hd
  rcases hd with rfl | rfl | rfl | rfl <;> rfl
theorem dotsV_get (l : List Dot4) (k : Nat) (d : Dot4) (h : l[k]? = some d) (j : Nat) (hj : j < 4) : (dotsV l)[k * 4 + j]? = (dotCell d)[j]? := by
  induction l generalizing k with
  | nil => simp at h
  | cons p l ih =>
    have e : dotsV (p :: l) = dotCell p ++ dotsV l := rfl
    cases k with
    | zero =>
      simp only [List.getElem?_cons_zero] at h
      injection h with h
      subst h
      rw [e, List.getElem?_append_left (by simp [dotCell]; omega), Nat.zero_mul, Nat.zero_add]
    | succ k =>
      simp only [List.getElem?_cons_succ] at h
      rw [e, List.getElem?_append_right (by simp [dotCell]; omega)]
      have := ih k h
      rw [show (k + 1) * 4 + j - (dotCell p).length = k * 4 + j by simp [dotCell]; omega]
      exact this
/-- Pixel k's four cells. -/
theorem CellsAt.dot {w : World} {b o : Nat} {l : List Dot4} (h : CellsAt w b o (dotsV l)) (k : Nat) (d : Dot4) (hd : l[k]? = some d) :
    w.cell? ⟨b, o + k * 4, none⟩ = some (.int .i64 (d.1 : Int)) ∧ w.cell? ⟨b, o + k * 4 + 1, none⟩ = some (.int .i64 (d.2.1 : Int)) ∧ w.cell? ⟨b, o + k * 4 + 2, none⟩ = some (.int .i64 (d.2.2.1 : Int)) ∧ w.cell? ⟨b, o + k * 4 + 3, none⟩ = some (.int .i64 (d.2.2.2 : Int)) := by
  have key := fun j hj => dotsV_get l k d hd j hj
  refine ⟨?_, ?_, ?_, ?_⟩
  · exact h (k * 4 + 0) _ (key 0 (by omega))
  · exact h (k * 4 + 1) _ (key 1 (by omega))
  · exact h (k * 4 + 2) _ (key 2 (by omega))
  · exact h (k * 4 + 3) _ (key 3 (by omega))

set_option maxHeartbeats 2000000 in
set_option maxRecDepth 100000 in
theorem specSame {w : World} (l : List Dot4) (b o c b' o' c' n : Nat) (hn : n = l.length) (h1 : CellsAt w b o (dotsV l)) (h2 : CellsAt w b' o' (dotsV l)) (hl : n ≤ 100000) :
    Calls Tryz.prog 9 #[.slice (some ⟨b, o, none⟩) n c, .slice (some ⟨b', o', none⟩) n c'] w fun e w' => e = .returned (.bool true) ∧ Keep Nil2 w w' := by
  have HN := Lib.hid hn
  clear hn
  go_enter Tryz.func9, Tryz.ntmps9
  go_wp2
  go_loopg [5, 13] n (fun G v5 v13 wr => ∃ k g, g = G ∧ k + g = n ∧ v13 = .int .i64 (k : Int) ∧ Keep Nil2 w wr)
  case atStart => exact ⟨0, n, rfl, by omega, rfl, Keep.refl _ _⟩
  case round =>
    obtain ⟨k, g, hG, hkg, rfl, hK⟩ := hrel
    have HG := Lib.hid hG
    have HK := Lib.hid hK
    clear hG
    by_cases hk2 : k < n
    · have d1 : decide ((k : Int) < (n : Int)) = true := by simp; omega
      have hkI : (k : Int) < n := by omega
      obtain ⟨d, hd⟩ : ∃ d, l[k]? = some d := ⟨l[k]'(by have := HN.out; omega), List.getElem?_eq_getElem _⟩
      obtain ⟨a0, a1, a2, a3⟩ := (h1.keep hK fun _ _ e => e).dot k d hd
      obtain ⟨c0, c1, c2, c3⟩ := (h2.keep hK fun _ _ e => e).dot k d hd
      clear hd hK
      go_wp2
      go_quiet (fail)
      go_wp2
      go_roundg (g - 1)
      case measure => have := HG.out; omega
      case rel => exact ⟨k + 1, g - 1, rfl, by omega, by go_num, HK.out.drewN _⟩
    · obtain rfl : k = n := by omega
      have d1 : decide ((k : Int) < (k : Int)) = false := by simp
      clear hK
      go_wp2
      go_ret
      exact ⟨rfl, HK.out⟩
end Go.Proofs.YtnbbppjgamdfeaaGreatDoor
end

/- The reference's samplesOf: samples of 8 bits. -/
section
set_option linter.unusedVariables false
set_option linter.unusedSimpArgs false
namespace Go.Proofs.YtnbbppjgamdfeaaGreatDoor
open Go Go.RowKit

/-- A sample of a row that stands alone. -/
def rowSmp (r : List UInt8) (depth k : Nat) : Nat := if depth = 8 then (r.getD k 0).toNat else if depth = 16 then (r.getD (2 * k) 0).toNat * 256 + (r.getD (2 * k + 1) 0).toNat else pk r depth k
theorem info3 : (Tryz.prog.info? 3).map (fun i => (i.zero, i.size, i.bytes)) = some (some (.int .i64 0), 1, 8) := by kernel_rfl
theorem SrcV.litAt' (w : World) (cs : Array Value) (e : TypeId) (n : Nat) (xs : List Value) (h : cs.toList = xs) {g : Nat} (hg : w.heap.size = g) : SrcV (w.alloc (.cells cs e)) (.slice (some ⟨g, 0, none⟩) n n) n xs := by
  subst hg
  exact SrcV.lit w cs e n xs h
theorem keep_layV' {e : TypeId} {size : Nat} {W w w' : World} {v : Value} {n : Nat} {xs : List Value} {base : Nat} (h : Keep Nil2 W w) (hown : OwnV e size w base v n xs) (hk : Keep (fun k _ => v.ownBlock = some k) w w') (hb : W.heap.size ≤ base := by omega) : Keep Nil2 W w' :=
  h.then hk (fun _ _ _ e => e) fun i o hi e => absurd (hown.block_ge i e).1 (by omega)
theorem range_snoc (f : Nat → Nat) (k : Nat) : intsV ((List.range (k + 1)).map f) = intsV ((List.range k).map f) ++ [.int .i64 (f k : Int)] := by
  rw [List.range_succ, List.map_append, intsV_append]; rfl

set_option maxHeartbeats 4000000 in
set_option maxRecDepth 100000 in
theorem samplesOf8 {w : World} {r : List UInt8} (b o n c m : Nat) (hn : n = r.length) (hb : BytesAt w b o r) (hm : m ≤ n) (hn2 : n ≤ 1000) :
    Calls Tryz.prog 78 #[.slice (some ⟨b, o, none⟩) n c, .int .i64 (m : Int), .int .i64 8] w fun e w' => ∃ v, e = .returned v ∧ OwnV 3 1 w' w.heap.size v m (intsV ((List.range m).map (rowSmp r 8))) ∧ Keep Nil2 w w' := by
  have HN := Lib.hid hn
  clear hn
  go_enter Tryz.func78, Tryz.ntmps78
  go_wp2
  have HI := Lib.hid (And.intro (OwnV.lit (e := 3) (size := 1) w #[] 0 [] rfl rfl (by omega)) ((Keep.refl Nil2 w).alloc (.cells #[] 3)))
  go_loopg [7, 8, 9, 12] m (fun G v7 v8 v9 v12 wr => ∃ k g, g = G ∧ k + g = m ∧ v12 = .int .i64 (k : Int) ∧ OwnV 3 1 wr w.heap.size v7 k (intsV ((List.range k).map (rowSmp r 8))) ∧ Keep Nil2 w wr)
  case atStart => exact ⟨0, m, rfl, by omega, rfl, HI.out.1, HI.out.2⟩
  case round =>
    obtain ⟨k, g, hG, hkg, rfl, hO, hK⟩ := hrel
    have HG := Lib.hid hG
    clear hG
    by_cases hk : k < m
    · have d1 : decide ((k : Int) < (m : Int)) = true := by simp; omega
      have hkI : (k : Int) < n := by omega
      obtain ⟨x, hx⟩ : ∃ x, r[k]? = some x := ⟨r[k]'(by have := HN.out; omega), List.getElem?_eq_getElem _⟩
      have ck := (hb.keep hK fun _ _ e => e).at_ k x hx
      have hv := x.toNat_lt
      have HX := Lib.hid (show rowSmp r 8 k = x.toNat by unfold rowSmp; rw [if_pos rfl, List.getD_eq_getElem?_getD, hx]; rfl)
      have e1 : IntKind.i64.wrap (x.toNat : Int) = (x.toNat : Int) := IntWalk.i64_in _ (by omega)
      have HO := Lib.hid (And.intro hO hK)
      clear hO hK hx
      go_wp2_with (at_builtin; refine wpList_append_vals rfl (.tmp 40) (.tmp 46) 32 3 rfl _ 1 8 Tryz.underlying32 info3 rfl (by decide) (by decide) w.heap.size u7 k (intsV ((List.range k).map (rowSmp r 8))) rfl (HO.out.1.alloc _) _ 1 [.int .i64 (x.toNat : Int)] rfl (SrcV.litAt' _ _ 3 1 _ rfl (by simp)) rfl (by intro u hu; simp at hu; subst hu; rfl) (by omega) (by have := HO.out.2.size; simp; omega) ?_)
      intro v4 w4 h4 hk4 hv4
      have HF := Lib.hid (And.intro h4 (keep_layV' (HO.out.2.alloc _) (HO.out.1.alloc _) hk4))
      clear h4 hk4 hv4
      go_wp2
      go_roundg (g - 1)
      case measure => have := HG.out; omega
      case rel => exact ⟨k + 1, g - 1, rfl, by omega, by go_num, by rw [range_snoc, HX.out]; exact HF.out.1, HF.out.2⟩
    · obtain rfl : k = m := by omega
      have d1 : decide ((k : Int) < (k : Int)) = false := by simp
      have HO := Lib.hid (And.intro hO hK)
      clear hO hK
      go_wp2
      go_ret
      exact ⟨u7, rfl, HO.out.1, HO.out.2⟩
end Go.Proofs.YtnbbppjgamdfeaaGreatDoor
end

/- Samples, plain: of a row that stands alone; of all rows, one behind the other; pixels out of them. -/
section
set_option linter.unusedVariables false
set_option linter.unusedSimpArgs false
namespace Go.Proofs.YtnbbppjgamdfeaaGreatDoor
open Go Go.RowKit

/-- Row y, alone. -/
def rowL (R : List UInt8) (rb y : Nat) : List UInt8 := (R.drop (y * (1 + rb) + 1)).take rb
theorem rowL_length {R : List UInt8} {rb y ht : Nat} (h : R.length = ht * (1 + rb)) (hy : y < ht) : (rowL R rb y).length = rb ∧ y * (1 + rb) + 1 + rb ≤ R.length := by
  have h1 : (y + 1) * (1 + rb) ≤ ht * (1 + rb) := Nat.mul_le_mul_right _ hy
  rw [Nat.add_mul, Nat.one_mul] at h1
  refine ⟨?_, by omega⟩
  unfold rowL
  rw [List.length_take, List.length_drop]
  omega
theorem rowL_get (R : List UInt8) (rb y j : Nat) (hj : j < rb) : (rowL R rb y).getD j 0 = R.getD (y * (1 + rb) + 1 + j) 0 := by
  unfold rowL
  rw [List.getD_eq_getElem?_getD, List.getD_eq_getElem?_getD, List.getElem?_take_of_lt hj, List.getElem?_drop]
theorem rowSmp_eq {wide high depth colour count : Nat} {R : List UInt8} (h : RowsOk wide high depth colour count R) (y k : Nat) (hk : k < wide * chan colour) : rowSmp (rowL R (rowB wide depth colour) y) depth k = smp R (rowB wide depth colour) depth y k := by
  unfold rowSmp smp rowAt pk
  by_cases h8 : depth = 8
  · subst h8
    rw [if_pos rfl, if_pos rfl, rowL_get _ _ _ _ (by unfold rowB; omega)]
  · by_cases h16 : depth = 16
    · subst h16
      rw [if_neg h8, if_neg h8, if_pos rfl, if_pos rfl, rowL_get _ _ _ _ (by unfold rowB; omega), rowL_get _ _ _ _ (by unfold rowB; omega)]
    · have hc : colour = 3 ∧ (depth = 1 ∨ depth = 2 ∨ depth = 4) := by have := h.kind; omega
      obtain ⟨rfl, hd⟩ := hc
      rw [show chan 3 = 1 from rfl, Nat.mul_one] at hk
      rw [if_neg h8, if_neg h8, if_neg h16, if_neg h16, rowL_get _ _ _ _ (by
        rw [show rowB wide depth 3 = (wide * depth + 7) / 8 by simp [rowB, chan]]
        exact pk_div depth k wide hd hk)]
/-- The samples of the first y rows. -/
def smpRows (R : List UInt8) (wide depth colour y : Nat) : List Nat := (List.range (y * (wide * chan colour))).map (smpI R wide depth colour)
theorem smpRows_length (R : List UInt8) (wide depth colour y : Nat) : (smpRows R wide depth colour y).length = y * (wide * chan colour) := by simp [smpRows]
theorem smpRows_zero (R : List UInt8) (wide depth colour : Nat) : smpRows R wide depth colour 0 = [] := by simp [smpRows]
theorem smpRows_succ {wide high depth colour count : Nat} {R : List UInt8} (h : RowsOk wide high depth colour count R) (y : Nat) :
    smpRows R wide depth colour (y + 1) = smpRows R wide depth colour y ++ (List.range (wide * chan colour)).map (rowSmp (rowL R (rowB wide depth colour) y) depth) := by
  unfold smpRows
  rw [Nat.add_mul, Nat.one_mul, List.range_add, List.map_append]
  refine congrArg (List.map (smpI R wide depth colour) (List.range (y * (wide * chan colour))) ++ ·) ?_
  rw [List.map_map]
  refine List.map_congr_left fun k hk => ?_
  rw [List.mem_range] at hk
  rw [rowSmp_eq h y k hk, ← smpI_at _ _ _ _ _ _ hk]
  rfl
/-- The pixel out of its samples. -/
def dotOf (depth colour : Nat) (pal : List Shade4) (v : Nat → Nat) : Dot4 :=
  if colour = 0 then (scale depth (v 0), scale depth (v 0), scale depth (v 0), 65535) else if colour = 2 then (scale depth (v 0), scale depth (v 1), scale depth (v 2), 65535)
  else if colour = 3 then palDot (pal.getD (v 0) (0, 0, 0, 0)) else (scale depth (v 0), scale depth (v 1), scale depth (v 2), scale depth (v 3))
theorem dotOf_eq {wide high depth colour count : Nat} {R : List UInt8} (h : RowsOk wide high depth colour count R) (pal : List Shade4) (i : Nat) :
    dotOf depth colour pal (fun j => smpI R wide depth colour (i * chan colour + j)) = dotI R wide depth colour pal i := by
  have hw := h.w0
  have key := fun j hj => smpI_pix R wide depth colour i j hw hj
  unfold dotI dotAt dotOf
  rcases h.kind with ⟨rfl, _⟩ | ⟨rfl, _⟩ | ⟨rfl, _⟩ | ⟨rfl, _⟩
  · have k0 := key 0 (by decide)
    simp only [k0]
    simp
  · have k0 := key 0 (by decide)
    have k1 := key 1 (by decide)
    have k2 := key 2 (by decide)
    simp only [k0, k1, k2]
    simp
  · have k0 := key 0 (by decide)
    have k1 := key 1 (by decide)
    have k2 := key 2 (by decide)
    have k3 := key 3 (by decide)
    simp only [k0, k1, k2, k3]
    simp
  · have k0 := key 0 (by decide)
    have e : chan 3 * (i % wide) + 0 = i % wide := by simp [chan]
    rw [e] at k0
    simp only [k0]
    simp
/-- The first n pixels. -/
def dotsUp (R : List UInt8) (wide depth colour : Nat) (pal : List Shade4) (n : Nat) : List Dot4 := (List.range n).map (dotI R wide depth colour pal)
theorem dotsUp_length (R : List UInt8) (wide depth colour : Nat) (pal : List Shade4) (n : Nat) : (dotsUp R wide depth colour pal n).length = n := by simp [dotsUp]
theorem dotsUp_succ (R : List UInt8) (wide depth colour : Nat) (pal : List Shade4) (n : Nat) : dotsUp R wide depth colour pal (n + 1) = dotsUp R wide depth colour pal n ++ [dotI R wide depth colour pal n] := by
  unfold dotsUp
  rw [List.range_succ, List.map_append]
  rfl
end Go.Proofs.YtnbbppjgamdfeaaGreatDoor
end

/- Rows of the call's own: an element is set; a slice's value is written out. -/
section
set_option linter.unusedVariables false
set_option linter.unusedSimpArgs false
namespace Go.Proofs.YtnbbppjgamdfeaaGreatDoor
open Go Go.RowKit

theorem bytesV_set (l : List UInt8) (k : Nat) (x : UInt8) : (bytesV l).set k (.int .u8 (x.toNat : Int)) = bytesV (l.set k x) := by
  unfold bytesV
  rw [List.map_set]
theorem OwnB.setAt {w : World} {base g n cap : Nat} {l : List UInt8} (h : OwnB w base (.slice (some ⟨g, 0, none⟩) n cap) l) (hn : n = l.length) (k : Nat) (x : UInt8) : OwnB (w.setCell ⟨g, k, none⟩ (.int .u8 (x.toNat : Int))) base (.slice (some ⟨g, 0, none⟩) n cap) (l.set k x) := by
  subst hn
  have h1 : w.ownsRow base 5 1 (.slice (some ⟨g, 0, none⟩) l.length cap) l.length (bytesV l) := h
  have h2 := (World.ownsRow.stored h1 k (.int .u8 (x.toNat : Int))).1
  rw [bytesV_set] at h2
  unfold OwnB
  rw [List.length_set]
  exact h2
theorem OwnB.same {w : World} {base g n cap : Nat} {l : List UInt8} (h : OwnB w base (.slice (some ⟨g, 0, none⟩) n cap) l) (hn : n = l.length) (k : Nat) (x : UInt8) (hx : l[k]? = some x) : OwnB (w.setCell ⟨g, k, none⟩ (.int .u8 (x.toNat : Int))) base (.slice (some ⟨g, 0, none⟩) n cap) l := by
  have h1 := h.setAt hn k x
  have e : l.set k x = l := by
    obtain ⟨hk, rfl⟩ := List.getElem?_eq_some_iff.1 hx
    exact List.set_getElem_self hk
  rwa [e] at h1
theorem OwnV.setAt {e : TypeId} {size : Nat} {w : World} {base g n cap : Nat} {xs : List Value} (h : OwnV e size w base (.slice (some ⟨g, 0, none⟩) n cap) n xs) (k : Nat) (u : Value) : OwnV e size (w.setCell ⟨g, k, none⟩ u) base (.slice (some ⟨g, 0, none⟩) n cap) n (xs.set k u) :=
  (World.ownsRow.stored h k u).1
theorem intsV_set (l : List Nat) (k x : Nat) : (intsV l).set k (.int .i64 (x : Int)) = intsV (l.set k x) := by
  unfold intsV
  rw [List.map_set]
theorem intsV_length (l : List Nat) : (intsV l).length = l.length := by simp [intsV]
theorem intsV_get (l : List Nat) (k x : Nat) (h : l[k]? = some x) : (intsV l)[k]? = some (.int .i64 (x : Int)) := by
  unfold intsV
  rw [List.getElem?_map, h]
  rfl
theorem CellsAt.int {w : World} {b o : Nat} {l : List Nat} (h : CellsAt w b o (intsV l)) (k x : Nat) (hx : l[k]? = some x) : w.cell? ⟨b, o + k, none⟩ = some (.int .i64 (x : Int)) := h k _ (intsV_get l k x hx)
/-- An own row that is not empty, written out. -/
theorem OwnV.out {e : TypeId} {size : Nat} {w : World} {base : Nat} {v : Value} {n : Nat} {xs : List Value} (h : OwnV e size w base v n xs) (hn : 0 < n) : ∃ g cap, v = .slice (some ⟨g, 0, none⟩) n cap ∧ base ≤ g ∧ n ≤ cap ∧ g < w.heap.size ∧ CellsAt w g 0 xs ∧ ∀ j, w.frozen? ⟨g, j, none⟩ = false := by
  rcases h.slice with ⟨_, h0, _⟩ | h
  · omega
  · exact h
theorem set_fill (l m : List Nat) (k x : Nat) (hl : l.length = k) : (l ++ 0 :: m).set k x = l ++ x :: m := by
  subst hl
  rw [List.set_append_right _ _ (Nat.le_refl _), Nat.sub_self]
  rfl
/-- The list, its first k elements laid, noughts behind. -/
def fillUp (l : List Nat) (k : Nat) : List Nat := l.take k ++ List.replicate (l.length - k) 0
theorem fillUp_zero (l : List Nat) : fillUp l 0 = List.replicate l.length 0 := by simp [fillUp]
theorem fillUp_all (l : List Nat) : fillUp l l.length = l := by simp [fillUp]
theorem fillUp_set (l : List Nat) (k x : Nat) (h : l[k]? = some x) : (fillUp l k).set k x = fillUp l (k + 1) := by
  have hk : k < l.length := (List.getElem?_eq_some_iff.1 h).1
  unfold fillUp
  rw [show l.length - k = (l.length - (k + 1)) + 1 by omega, List.replicate_succ, set_fill _ _ k x (by rw [List.length_take]; omega), List.take_add_one, h]
  simp
theorem fillUp_length (l : List Nat) (k : Nat) (h : k ≤ l.length) : (fillUp l k).length = l.length := by
  unfold fillUp
  rw [List.length_append, List.length_take, List.length_replicate]
  omega
end Go.Proofs.YtnbbppjgamdfeaaGreatDoor
end
