/- laws.FnBack, part 35 of 54: N0 N2 Q0. -/
import Derived.Test.YtnbbppjgamdfeaaGreatDoorY05
import Derived.Test.YtnbbppjgamdfeaaGreatDoorY02
import Derived.Test.YtnbbppjgamdfeaaGreatDoorY11

/- The kept stream as bits, plain. -/
section
set_option linter.unusedVariables false
set_option linter.unusedSimpArgs false
namespace Go.Proofs.YtnbbppjgamdfeaaGreatDoor
open Go Go.RowKit

/-- What is packed, without the two bytes at its head. -/
def keptBody (R : List UInt8) : List UInt8 := [0, b8 R.length, b8 (R.length / 256), b8 (65535 - R.length), b8 ((65535 - R.length) / 256)] ++ (R ++ ([3, 0] ++ four (adOf R)))
theorem keptB_body (R : List UInt8) : keptB R = 0x78 :: 1 :: keptBody R := by simp [keptB, keptBody]
theorem keptB_drop (R : List UInt8) : (keptB R).drop 2 = keptBody R := by rw [keptB_body]; rfl
theorem keptBody_length (R : List UInt8) : (keptBody R).length = R.length + 11 := by
  unfold keptBody
  rw [List.length_append, List.length_append, List.length_append, four_length]
  simp
  omega
theorem keptBody_0 (R : List UInt8) : (keptBody R).getD 0 0 = 0 := rfl
theorem keptBody_n (R : List UInt8) (h : R.length ≤ 65535) : ((keptBody R).getD 1 0).toNat + ((keptBody R).getD 2 0).toNat * 256 = R.length := by
  show (b8 R.length).toNat + (b8 (R.length / 256)).toNat * 256 = R.length
  simp only [b8_toNat]
  omega
theorem keptBody_t (R : List UInt8) (h : R.length ≤ 65535) : ((keptBody R).getD 3 0).toNat + ((keptBody R).getD 4 0).toNat * 256 = 65535 - R.length := by
  show (b8 (65535 - R.length)).toNat + (b8 ((65535 - R.length) / 256)).toNat * 256 = 65535 - R.length
  simp only [b8_toNat]
  omega
theorem keptBody_R (R : List UInt8) : ((keptBody R).drop 5).take R.length = R := by
  show (R ++ ([3, 0] ++ four (adOf R))).take R.length = R
  exact List.take_left
theorem keptBody_end (R : List UInt8) : (keptBody R).drop (5 + R.length) = [3, 0] ++ four (adOf R) := by
  rw [← List.drop_drop]
  show (R ++ ([3, 0] ++ four (adOf R))).drop R.length = _
  exact List.drop_left
theorem getD_drop0 (l : List UInt8) (m k : Nat) : l.getD (m + k) 0 = (l.drop m).getD k 0 := by
  rw [List.getD_eq_getElem?_getD, List.getD_eq_getElem?_getD, List.getElem?_drop]
theorem keptBody_3 (R : List UInt8) : (keptBody R).getD (5 + R.length) 0 = 3 := by
  rw [show 5 + R.length = 5 + R.length + 0 from rfl, getD_drop0, keptBody_end]; rfl
theorem keptBody_4 (R : List UInt8) : (keptBody R).getD (5 + R.length + 1) 0 = 0 := by
  rw [getD_drop0, keptBody_end]; rfl
theorem keptBody_bits0 (R : List UInt8) : bitAt (keptBody R) 0 = 0 ∧ manyB (keptBody R) 1 2 = 0 := by
  have h0 := keptBody_0 R
  refine ⟨?_, ?_⟩
  · unfold bitAt
    rw [show 0 / 8 = 0 from rfl, h0]; rfl
  · simp only [manyB, bitAt]
    rw [show (1 + 0) / 8 = 0 from rfl, h0]; rfl
theorem keptBody_bits1 (R : List UInt8) {m : Nat} (hm : m = 5 + R.length) : bitAt (keptBody R) (8 * m) = 1 ∧ manyB (keptBody R) (8 * m + 1) 2 = 1 ∧ ∀ k, k < 7 → bitAt (keptBody R) (8 * m + 3 + k) = 0 := by
  subst hm
  have h3 := keptBody_3 R
  have h4 := keptBody_4 R
  generalize 5 + R.length = m at h3 h4
  refine ⟨?_, ?_, ?_⟩
  · unfold bitAt
    rw [show 8 * m / 8 = m by omega, show 8 * m % 8 = 0 by omega, h3]; rfl
  · simp only [manyB, bitAt]
    rw [show (8 * m + 1 + 0) / 8 = m by omega, show (8 * m + 1 + 0) % 8 = 1 by omega, show (8 * m + 1 + 1) / 8 = m by omega, show (8 * m + 1 + 1) % 8 = 2 by omega, h3]; rfl
  · intro k hk
    unfold bitAt
    rcases (show k = 0 ∨ k = 1 ∨ k = 2 ∨ k = 3 ∨ k = 4 ∨ k = 5 ∨ k = 6 by omega) with rfl | rfl | rfl | rfl | rfl | rfl | rfl
    · rw [show (8 * m + 3 + 0) / 8 = m by omega, show (8 * m + 3 + 0) % 8 = 3 by omega, h3]; rfl
    · rw [show (8 * m + 3 + 1) / 8 = m by omega, show (8 * m + 3 + 1) % 8 = 4 by omega, h3]; rfl
    · rw [show (8 * m + 3 + 2) / 8 = m by omega, show (8 * m + 3 + 2) % 8 = 5 by omega, h3]; rfl
    · rw [show (8 * m + 3 + 3) / 8 = m by omega, show (8 * m + 3 + 3) % 8 = 6 by omega, h3]; rfl
    · rw [show (8 * m + 3 + 4) / 8 = m by omega, show (8 * m + 3 + 4) % 8 = 7 by omega, h3]; rfl
    · rw [show (8 * m + 3 + 5) / 8 = m + 1 by omega, show (8 * m + 3 + 5) % 8 = 0 by omega, h4]; rfl
    · rw [show (8 * m + 3 + 6) / 8 = m + 1 by omega, show (8 * m + 3 + 6) % 8 = 1 by omega, h4]; rfl
/-- The sum stands behind. -/
theorem keptB_sum (R : List UInt8) : (keptB R).drop (R.length + 7 + 2) = four (adOf R) := by
  rw [keptB_body, show R.length + 7 + 2 = (5 + R.length + 2) + 2 by omega]
  show (keptBody R).drop (5 + R.length + 2) = _
  rw [← List.drop_drop, keptBody_end]; rfl
end Go.Proofs.YtnbbppjgamdfeaaGreatDoor
end

/- The reference's reading in memory, field by field. (Printed by tools/gen_n2.py.) -/
section
set_option linter.unusedVariables false
set_option linter.unusedSimpArgs false
namespace Go.Proofs.YtnbbppjgamdfeaaGreatDoor
open Go Go.RowKit

/-- What a reading holds. -/
structure Fd where
  wd : Nat
  ht : Nat
  depth : Nat
  colour : Nat
  dots : Value
  pal : Value
  clear : Value
  used : Nat
  stage : Nat
  rest : Value
/-- The reading at block fb. -/
structure RdF (w : World) (fb : Nat) (d : Fd) : Prop where
  c0 : w.cell? ⟨fb, 0, none⟩ = some (.int .i64 (d.wd : Int))
  c1 : w.cell? ⟨fb, 1, none⟩ = some (.int .i64 (d.ht : Int))
  c2 : w.cell? ⟨fb, 2, none⟩ = some (.int .i64 (d.depth : Int))
  c3 : w.cell? ⟨fb, 3, none⟩ = some (.int .i64 (d.colour : Int))
  c4 : w.cell? ⟨fb, 4, none⟩ = some (.bool false)
  c5 : w.cell? ⟨fb, 5, none⟩ = some (d.dots)
  c6 : w.cell? ⟨fb, 6, none⟩ = some (d.pal)
  c7 : w.cell? ⟨fb, 7, none⟩ = some (d.clear)
  c8 : w.cell? ⟨fb, 8, none⟩ = some (.int .i64 (d.used : Int))
  c9 : w.cell? ⟨fb, 9, none⟩ = some (.int .i64 0)
  c10 : w.cell? ⟨fb, 10, none⟩ = some (.int .i64 (d.stage : Int))
  c11 : w.cell? ⟨fb, 11, none⟩ = some (d.rest)
  fz : ∀ j, w.frozen? ⟨fb, j, none⟩ = false
section
variable {w : World} {fb : Nat} {d : Fd} (h : RdF w fb d)
include h
theorem RdF.lt : fb < w.heap.size := World.block_lt_of_cell? w _ h.c0
theorem RdF.keep {F : Nat → Nat → Prop} {w' : World} (hk : Keep F w w') (hF : ∀ o, ¬ F fb o) : RdF w' fb d :=
  ⟨hk.get h.c0 (hF _), hk.get h.c1 (hF _), hk.get h.c2 (hF _), hk.get h.c3 (hF _), hk.get h.c4 (hF _), hk.get h.c5 (hF _), hk.get h.c6 (hF _), hk.get h.c7 (hF _), hk.get h.c8 (hF _), hk.get h.c9 (hF _), hk.get h.c10 (hF _), hk.get h.c11 (hF _), fun j => hk.froz h.lt (h.fz j) (hF j)⟩
theorem RdF.keep0 {w' : World} (hk : Keep Nil2 w w') : RdF w' fb d := h.keep hk fun _ e => e
theorem RdF.fzSet (k : Nat) (v : Value) : ∀ j, (w.setCell ⟨fb, k, none⟩ v).frozen? ⟨fb, j, none⟩ = false := fun j => by rw [World.frozen?_setCell]; exact h.fz j
theorem RdF.set0 (v : Nat) : RdF (w.setCell ⟨fb, 0, none⟩ (.int .i64 (v : Int))) fb { d with wd := v } :=
  ⟨World.cell?_setCell_same _ _ _ h.c0, setF h.c1 (by decide), setF h.c2 (by decide), setF h.c3 (by decide), setF h.c4 (by decide), setF h.c5 (by decide), setF h.c6 (by decide), setF h.c7 (by decide), setF h.c8 (by decide), setF h.c9 (by decide), setF h.c10 (by decide), setF h.c11 (by decide), h.fzSet _ _⟩
theorem RdF.set1 (v : Nat) : RdF (w.setCell ⟨fb, 1, none⟩ (.int .i64 (v : Int))) fb { d with ht := v } :=
  ⟨setF h.c0 (by decide), World.cell?_setCell_same _ _ _ h.c1, setF h.c2 (by decide), setF h.c3 (by decide), setF h.c4 (by decide), setF h.c5 (by decide), setF h.c6 (by decide), setF h.c7 (by decide), setF h.c8 (by decide), setF h.c9 (by decide), setF h.c10 (by decide), setF h.c11 (by decide), h.fzSet _ _⟩
theorem RdF.set2 (v : Nat) : RdF (w.setCell ⟨fb, 2, none⟩ (.int .i64 (v : Int))) fb { d with depth := v } :=
  ⟨setF h.c0 (by decide), setF h.c1 (by decide), World.cell?_setCell_same _ _ _ h.c2, setF h.c3 (by decide), setF h.c4 (by decide), setF h.c5 (by decide), setF h.c6 (by decide), setF h.c7 (by decide), setF h.c8 (by decide), setF h.c9 (by decide), setF h.c10 (by decide), setF h.c11 (by decide), h.fzSet _ _⟩
theorem RdF.set3 (v : Nat) : RdF (w.setCell ⟨fb, 3, none⟩ (.int .i64 (v : Int))) fb { d with colour := v } :=
  ⟨setF h.c0 (by decide), setF h.c1 (by decide), setF h.c2 (by decide), World.cell?_setCell_same _ _ _ h.c3, setF h.c4 (by decide), setF h.c5 (by decide), setF h.c6 (by decide), setF h.c7 (by decide), setF h.c8 (by decide), setF h.c9 (by decide), setF h.c10 (by decide), setF h.c11 (by decide), h.fzSet _ _⟩
theorem RdF.set5 (v : Value) : RdF (w.setCell ⟨fb, 5, none⟩ (v)) fb { d with dots := v } :=
  ⟨setF h.c0 (by decide), setF h.c1 (by decide), setF h.c2 (by decide), setF h.c3 (by decide), setF h.c4 (by decide), World.cell?_setCell_same _ _ _ h.c5, setF h.c6 (by decide), setF h.c7 (by decide), setF h.c8 (by decide), setF h.c9 (by decide), setF h.c10 (by decide), setF h.c11 (by decide), h.fzSet _ _⟩
theorem RdF.set6 (v : Value) : RdF (w.setCell ⟨fb, 6, none⟩ (v)) fb { d with pal := v } :=
  ⟨setF h.c0 (by decide), setF h.c1 (by decide), setF h.c2 (by decide), setF h.c3 (by decide), setF h.c4 (by decide), setF h.c5 (by decide), World.cell?_setCell_same _ _ _ h.c6, setF h.c7 (by decide), setF h.c8 (by decide), setF h.c9 (by decide), setF h.c10 (by decide), setF h.c11 (by decide), h.fzSet _ _⟩
theorem RdF.set7 (v : Value) : RdF (w.setCell ⟨fb, 7, none⟩ (v)) fb { d with clear := v } :=
  ⟨setF h.c0 (by decide), setF h.c1 (by decide), setF h.c2 (by decide), setF h.c3 (by decide), setF h.c4 (by decide), setF h.c5 (by decide), setF h.c6 (by decide), World.cell?_setCell_same _ _ _ h.c7, setF h.c8 (by decide), setF h.c9 (by decide), setF h.c10 (by decide), setF h.c11 (by decide), h.fzSet _ _⟩
theorem RdF.set8 (v : Nat) : RdF (w.setCell ⟨fb, 8, none⟩ (.int .i64 (v : Int))) fb { d with used := v } :=
  ⟨setF h.c0 (by decide), setF h.c1 (by decide), setF h.c2 (by decide), setF h.c3 (by decide), setF h.c4 (by decide), setF h.c5 (by decide), setF h.c6 (by decide), setF h.c7 (by decide), World.cell?_setCell_same _ _ _ h.c8, setF h.c9 (by decide), setF h.c10 (by decide), setF h.c11 (by decide), h.fzSet _ _⟩
theorem RdF.set10 (v : Nat) : RdF (w.setCell ⟨fb, 10, none⟩ (.int .i64 (v : Int))) fb { d with stage := v } :=
  ⟨setF h.c0 (by decide), setF h.c1 (by decide), setF h.c2 (by decide), setF h.c3 (by decide), setF h.c4 (by decide), setF h.c5 (by decide), setF h.c6 (by decide), setF h.c7 (by decide), setF h.c8 (by decide), setF h.c9 (by decide), World.cell?_setCell_same _ _ _ h.c10, setF h.c11 (by decide), h.fzSet _ _⟩
theorem RdF.set11 (v : Value) : RdF (w.setCell ⟨fb, 11, none⟩ (v)) fb { d with rest := v } :=
  ⟨setF h.c0 (by decide), setF h.c1 (by decide), setF h.c2 (by decide), setF h.c3 (by decide), setF h.c4 (by decide), setF h.c5 (by decide), setF h.c6 (by decide), setF h.c7 (by decide), setF h.c8 (by decide), setF h.c9 (by decide), setF h.c10 (by decide), World.cell?_setCell_same _ _ _ h.c11, h.fzSet _ _⟩
theorem RdF.set4 : RdF (w.setCell ⟨fb, 4, none⟩ (.bool false)) fb d :=
  ⟨setF h.c0 (by decide), setF h.c1 (by decide), setF h.c2 (by decide), setF h.c3 (by decide), World.cell?_setCell_same _ _ _ h.c4, setF h.c5 (by decide), setF h.c6 (by decide), setF h.c7 (by decide), setF h.c8 (by decide), setF h.c9 (by decide), setF h.c10 (by decide), setF h.c11 (by decide), h.fzSet _ _⟩
end
end Go.Proofs.YtnbbppjgamdfeaaGreatDoor
end

/- The reference's head. -/
section
set_option linter.unusedVariables false
set_option linter.unusedSimpArgs false
namespace Go.Proofs.YtnbbppjgamdfeaaGreatDoor
open Go Go.RowKit

theorem RdF.shape {w : World} {fb : Nat} {d : Fd} (h : RdF w fb d) (a b c e : Nat) : RdF (((((w.setCell ⟨fb, 0, none⟩ (.int .i64 (a : Int))).setCell ⟨fb, 1, none⟩ (.int .i64 (b : Int))).setCell ⟨fb, 2, none⟩ (.int .i64 (c : Int))).setCell ⟨fb, 3, none⟩ (.int .i64 (e : Int))).setCell ⟨fb, 4, none⟩ (.bool false)) fb { d with wd := a, ht := b, depth := c, colour := e } :=
  ((((h.set0 a).set1 b).set2 c).set3 e).set4

def pick04 (k : Int) (a b : Nat) : Nat := if k = 0 then a else b
/-- The reading holds one of two values. -/
def RdX (fb : Nat) (d dn : Fd) (w : World) : Prop := RdF w fb d ∨ RdF w fb dn
/-- What stands of the world while the head is read. -/
def HdS (w : World) (fb b o depth colour : Nat) (hd : List UInt8) (d dn : Fd) (w' : World) : Prop :=
  w'.cell? ⟨b, o + 8, none⟩ = some (.int .u8 (depth : Int)) ∧ w'.cell? ⟨b, o + 9, none⟩ = some (.int .u8 (colour : Int)) ∧ w'.cell? ⟨b, o + 12, none⟩ = some (.int .u8 0) ∧ BytesAt w' b o hd ∧ RdX fb d dn w' ∧ Keep (fun x _ => x = fb) w w'
theorem hdS_keep {w : World} {fb b o depth colour : Nat} {hd : List UInt8} {d dn : Fd} {V V' : World} (h : HdS w fb b o depth colour hd d dn V) (hk : Keep Nil2 V V') : HdS w fb b o depth colour hd d dn V' :=
  ⟨hk.get h.1 fun e => e, hk.get h.2.1 fun e => e, hk.get h.2.2.1 fun e => e, h.2.2.2.1.keep hk fun _ _ e => e, h.2.2.2.2.1.elim (fun h => .inl (h.keep0 hk)) fun h => .inr (h.keep0 hk), h.2.2.2.2.2.trans (hk.mono fun _ _ _ e => e.elim)⟩
theorem hdS_store {w : World} {fb b o depth colour wide high : Nat} {hd : List UInt8} {d : Fd} {V : World} (h : HdS w fb b o depth colour hd d { d with wd := wide, ht := high, depth := depth, colour := colour } V) (hne : b ≠ fb) :
    HdS w fb b o depth colour hd d { d with wd := wide, ht := high, depth := depth, colour := colour } (((((V.setCell ⟨fb, 0, none⟩ (.int .i64 (wide : Int))).setCell ⟨fb, 1, none⟩ (.int .i64 (high : Int))).setCell ⟨fb, 2, none⟩ (.int .i64 (depth : Int))).setCell ⟨fb, 3, none⟩ (.int .i64 (colour : Int))).setCell ⟨fb, 4, none⟩ (.bool false)) ∧
    RdF (((((V.setCell ⟨fb, 0, none⟩ (.int .i64 (wide : Int))).setCell ⟨fb, 1, none⟩ (.int .i64 (high : Int))).setCell ⟨fb, 2, none⟩ (.int .i64 (depth : Int))).setCell ⟨fb, 3, none⟩ (.int .i64 (colour : Int))).setCell ⟨fb, 4, none⟩ (.bool false)) fb { d with wd := wide, ht := high, depth := depth, colour := colour } := by
  have hk : Keep (fun x _ => x = fb) V (((((V.setCell ⟨fb, 0, none⟩ (.int .i64 (wide : Int))).setCell ⟨fb, 1, none⟩ (.int .i64 (high : Int))).setCell ⟨fb, 2, none⟩ (.int .i64 (depth : Int))).setCell ⟨fb, 3, none⟩ (.int .i64 (colour : Int))).setCell ⟨fb, 4, none⟩ (.bool false)) :=
    (((((Keep.refl (fun x _ => x = fb) V).setCell (o := 0) _ fun _ => rfl).setCell (o := 1) _ fun _ => rfl).setCell (o := 2) _ fun _ => rfl).setCell (o := 3) _ fun _ => rfl).setCell (o := 4) _ fun _ => rfl
  have hr : RdF (((((V.setCell ⟨fb, 0, none⟩ (.int .i64 (wide : Int))).setCell ⟨fb, 1, none⟩ (.int .i64 (high : Int))).setCell ⟨fb, 2, none⟩ (.int .i64 (depth : Int))).setCell ⟨fb, 3, none⟩ (.int .i64 (colour : Int))).setCell ⟨fb, 4, none⟩ (.bool false)) fb { d with wd := wide, ht := high, depth := depth, colour := colour } := by
    rcases h.2.2.2.2.1 with h | h
    · exact h.shape wide high depth colour
    · exact h.shape wide high depth colour
  exact ⟨⟨hk.get h.1 fun e => hne e, hk.get h.2.1 fun e => hne e, hk.get h.2.2.1 fun e => hne e, h.2.2.2.1.keep hk fun _ _ e => hne e, .inr hr, h.2.2.2.2.2.trans hk⟩, hr⟩
theorem hdS_cells {w : World} {fb b o depth colour : Nat} {hd : List UInt8} {d dn : Fd} {V : World} (h : HdS w fb b o depth colour hd d dn V) : ∃ v0 v1 v2 v3 v4, V.cell? ⟨fb, 0, none⟩ = some v0 ∧ V.cell? ⟨fb, 1, none⟩ = some v1 ∧ V.cell? ⟨fb, 2, none⟩ = some v2 ∧ V.cell? ⟨fb, 3, none⟩ = some v3 ∧ V.cell? ⟨fb, 4, none⟩ = some v4 ∧ ∀ j, V.frozen? ⟨fb, j, none⟩ = false := by
  rcases h.2.2.2.2.1 with h | h
  · exact ⟨_, _, _, _, _, h.c0, h.c1, h.c2, h.c3, h.c4, h.fz⟩
  · exact ⟨_, _, _, _, _, h.c0, h.c1, h.c2, h.c3, h.c4, h.fz⟩

set_option maxHeartbeats 8000000 in
set_option maxRecDepth 100000 in
theorem specHead {w : World} {fb : Nat} {d : Fd} {wide high depth colour : Nat} (h : RdF w fb d) (b o c : Nat) (hb : BytesAt w b o (headB wide high depth colour)) (hne : b ≠ fb) (hk : KindOk colour depth) (hw : 0 < wide ∧ wide ≤ 60) (hh : 0 < high ∧ high ≤ 60) :
    Calls Tryz.prog 24 #[.pointer (some ⟨fb, 0, none⟩), .slice (some ⟨b, o, none⟩) 13 c] w fun e w' => e = .returned (.int .i64 0) ∧ RdF w' fb { d with wd := wide, ht := high, depth := depth, colour := colour, stage := 1 } ∧ Keep (fun x _ => x = fb) w w' := by
  have hd16 : depth ≤ 16 ∧ colour ≤ 6 := by unfold KindOk at hk; omega
  have x8 : w.cell? ⟨b, o + 8, none⟩ = some (.int .u8 (depth : Int)) := by
    have := hb.at_ 8 (b8 depth) rfl
    rwa [b8_toNat, Nat.mod_eq_of_lt (by omega)] at this
  have x9 : w.cell? ⟨b, o + 9, none⟩ = some (.int .u8 (colour : Int)) := by
    have := hb.at_ 9 (b8 colour) rfl
    rwa [b8_toNat, Nat.mod_eq_of_lt (by omega)] at this
  have x10 : w.cell? ⟨b, o + 10, none⟩ = some (.int .u8 0) := hb.at_ 10 0 rfl
  have x11 : w.cell? ⟨b, o + 11, none⟩ = some (.int .u8 0) := hb.at_ 11 0 rfl
  have x12 : w.cell? ⟨b, o + 12, none⟩ = some (.int .u8 0) := hb.at_ 12 0 rfl
  obtain ⟨dn, hdn⟩ : ∃ dn, dn = { d with wd := wide, ht := high, depth := depth, colour := colour } := ⟨_, rfl⟩
  obtain ⟨hd, hhd⟩ : ∃ hd, hd = headB wide high depth colour := ⟨_, rfl⟩
  have key : ∀ (k n : Nat), n ≤ 60 → k + 4 ≤ 13 → (hd.drop k).take 4 = four n → ∀ V, HdS w fb b o depth colour hd d dn V → Calls Tryz.prog 13 #[.slice (some ⟨b, o, none⟩) 13 c, .int .i64 (k : Int)] V fun e w' => ∃ v0 v1 v2 v3 v4, e = .returned (.int .u32 (n : Int)) ∧ w'.cell? ⟨fb, 0, none⟩ = some v0 ∧ w'.cell? ⟨fb, 1, none⟩ = some v1 ∧ w'.cell? ⟨fb, 2, none⟩ = some v2 ∧ w'.cell? ⟨fb, 3, none⟩ = some v3 ∧ w'.cell? ⟨fb, 4, none⟩ = some v4 ∧ (∀ j, w'.frozen? ⟨fb, j, none⟩ = false) ∧ HdS w fb b o depth colour hd d dn w' := by
    intro k n hn hk hf V hV
    have h1 := (hV.2.2.2.1.drop k).take 4
    rw [hf] at h1
    refine (specfour (x0 := b8 (n / 16777216)) (x1 := b8 (n / 65536)) (x2 := b8 (n / 256)) (x3 := b8 n) b o 13 c k hk (by omega) h1).mono ?_
    rintro e w' ⟨rfl, q, rfl⟩
    have hS := hdS_keep hV ((Keep.refl Nil2 V).drewN q)
    obtain ⟨v0, v1, v2, v3, v4, q0, q1, q2, q3, q4, qf⟩ := hdS_cells hS
    exact ⟨v0, v1, v2, v3, v4, by rw [be4_four _ (by omega)], q0, q1, q2, q3, q4, qf, hS⟩
  have K : Hid (∀ (k : Int) V, k = 0 ∨ k = 4 → HdS w fb b o depth colour hd d dn V → Calls Tryz.prog 13 #[.slice (some ⟨b, o, none⟩) 13 c, .int .i64 k] V fun e w' => ∃ v0 v1 v2 v3 v4, e = .returned (.int .u32 (pick04 k wide high : Int)) ∧ w'.cell? ⟨fb, 0, none⟩ = some v0 ∧ w'.cell? ⟨fb, 1, none⟩ = some v1 ∧ w'.cell? ⟨fb, 2, none⟩ = some v2 ∧ w'.cell? ⟨fb, 3, none⟩ = some v3 ∧ w'.cell? ⟨fb, 4, none⟩ = some v4 ∧ (∀ j, w'.frozen? ⟨fb, j, none⟩ = false) ∧ HdS w fb b o depth colour hd d dn w') := Lib.hid (fun k V hk hV => by
    rcases hk with rfl | rfl
    · exact key 0 wide hw.2 (by omega) (by rw [hhd]; rfl) V hV
    · exact key 4 high hh.2 (by omega) (by rw [hhd]; rfl) V hV)
  have pk0 : pick04 0 wide high = wide := rfl
  have pk4 : pick04 4 wide high = high := rfl
  rw [← hhd] at hb
  have hs0 : HdS w fb b o depth colour hd d dn w := ⟨x8, x9, x12, hb, .inl h, Keep.refl _ _⟩
  have KS := Lib.hid (fun V V' (h : HdS w fb b o depth colour hd d dn V) (hk : Keep Nil2 V V') => hdS_keep h hk)
  have KT := Lib.hid (fun V (h : HdS w fb b o depth colour hd d dn V) => hdS_store (wide := wide) (high := high) (by rw [← hdn]; exact h) hne)
  rw [← hdn] at KT
  clear key hhd
  have e1 : IntKind.i64.wrap (wide : Int) = (wide : Int) := IntWalk.i64_in _ (by omega)
  have e2 : IntKind.i64.wrap (high : Int) = (high : Int) := IntWalk.i64_in _ (by omega)
  have e3 : IntKind.i64.wrap (depth : Int) = (depth : Int) := IntWalk.i64_in _ (by omega)
  have e4 : IntKind.i64.wrap (colour : Int) = (colour : Int) := IntWalk.i64_in _ (by omega)
  have c0 := h.c0
  have c1 := h.c1
  have c2 := h.c2
  have c3 := h.c3
  have c4 := h.c4
  have fz := h.fz
  have H := Lib.hid (And.intro h (And.intro hk (And.intro hb hne)))
  have hne2 : fb ≠ b := fun e => hne e.symm
  clear h hk hb
  go_enter Tryz.func24, Tryz.ntmps24
  go_wp2
  go_region_held3 (fun w' => w'.cell? ⟨b, o + 8, none⟩ = some (.int .u8 (depth : Int)) ∧ w'.cell? ⟨b, o + 9, none⟩ = some (.int .u8 (colour : Int)) ∧ w'.cell? ⟨b, o + 12, none⟩ = some (.int .u8 0) ∧ BytesAt w' b o hd ∧ RdX fb d dn w' ∧ Keep (fun x _ => x = fb) w w')
    ((show HdS w fb b o depth colour hd d dn _; first | with_reducible assumption | with_reducible exact KS.out _ _ (by assumption) ((Keep.refl Nil2 _).drew) | with_reducible exact (KT.out _ (by assumption)).1))
    (first | (go_at_call 13; refine (K.out _ _ (by first | exact .inl rfl | exact .inr rfl) (by assumption)).mono ?_; rintro e w1 ⟨v0, v1, v2, v3, v4, rfl, q0, q1, q2, q3, q4, qf, hsR⟩))
  have hT := (KT.out _ hsR).2
  have hS2 := (KT.out _ hsR).1
  obtain ⟨w2, hw2⟩ : ∃ w2, w2 = ((((w1.setCell ⟨fb, 0, none⟩ (.int .i64 (wide : Int))).setCell ⟨fb, 1, none⟩ (.int .i64 (high : Int))).setCell ⟨fb, 2, none⟩ (.int .i64 (depth : Int))).setCell ⟨fb, 3, none⟩ (.int .i64 (colour : Int))).setCell ⟨fb, 4, none⟩ (.bool false) := ⟨_, rfl⟩
  rw [← hw2] at hT hS2 ⊢
  have HT := Lib.hid (And.intro hT (And.intro hS2.2.2.2.2.2 hdn))
  have g0 := hT.c0
  have g1 := hT.c1
  have g2 := hT.c2
  have g3 := hT.c3
  have g10 := hT.c10
  have gz := hT.fz
  rw [hdn] at g0 g1 g2 g3
  have hbb := hS2.2.2.2.1
  have HBH := Lib.hid hbb
  have y10 : w2.cell? ⟨b, o + 10, none⟩ = some (.int .u8 0) := hS2.2.2.2.2.2.get x10 fun e => hne e
  have y11 : w2.cell? ⟨b, o + 11, none⟩ = some (.int .u8 0) := hS2.2.2.2.2.2.get x11 fun e => hne e
  have y12 : w2.cell? ⟨b, o + 12, none⟩ = some (.int .u8 0) := hS2.2.2.1
  have hIK := fun V => specIsKind V colour depth H.out.2.1
  have HIK := Lib.hid hIK
  have z1 : ((wide : Int) == 0) = false := by simp; omega
  have z2 : ((high : Int) == 0) = false := by simp; omega
  simp only at g0 g1 g2 g3
  clear hT hS2 hw2 q0 q1 q2 q3 q4 qf hsR hs0 hIK hbb c0 c1 c2 c3 c4 fz x8 x9 x10 x11 x12 hdn K KS KT
  go_wp2
  go_quiet ((go_at_call 38; exact Calls.quiet_of_same ((HIK.out _).mono fun _ _ ⟨a, b⟩ => ⟨a, b.symm⟩)))
  go_wp2
  go_ret
  have hd := (Keep.refl Nil2 w2).drewN nq
  have hR := (HT.out.1.keep0 hd).set10 1
  rw [HT.out.2.2] at hR
  exact ⟨rfl, hR, (HT.out.2.1.trans (hd.mono fun _ _ _ e => e.elim)).setCell _ fun _ => rfl⟩
end Go.Proofs.YtnbbppjgamdfeaaGreatDoor
end
