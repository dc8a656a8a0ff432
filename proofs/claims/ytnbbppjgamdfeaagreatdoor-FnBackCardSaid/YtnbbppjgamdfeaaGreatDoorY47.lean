/- laws.FnBack, part 47 of 54: R3. -/
import Derived.Test.YtnbbppjgamdfeaaGreatDoorY41
import Derived.Test.YtnbbppjgamdfeaaGreatDoorY05
import Derived.Test.YtnbbppjgamdfeaaGreatDoorY17

/- impl: pictureOf, of a palette. (Printed by tools/gen_r3.py.) -/
section
set_option linter.unusedVariables false
set_option linter.unusedSimpArgs false
namespace Go.Proofs.YtnbbppjgamdfeaaGreatDoor
open Go Go.RowKit

/-- What stands of the world while a palette image's fields are read. -/
def IqS (w1 : World) (ib pb n st wd ht : Nat) (w' : World) : Prop := w'.cell? ⟨ib, 0, none⟩ = some (.slice (some ⟨pb, 0, none⟩) n n) ∧ w'.cell? ⟨ib, 1, none⟩ = some (.int .i64 (st : Int)) ∧ w'.cell? ⟨ib, 2, none⟩ = some (.int .i64 0) ∧ w'.cell? ⟨ib, 3, none⟩ = some (.int .i64 0) ∧ w'.cell? ⟨ib, 4, none⟩ = some (.int .i64 (wd : Int)) ∧ w'.cell? ⟨ib, 5, none⟩ = some (.int .i64 (ht : Int)) ∧ Keep Nil2 w1 w'
theorem iqS_keep {w1 : World} {ib pb n st wd ht : Nat} {V V' : World} (h : IqS w1 ib pb n st wd ht V) (hk : Keep Nil2 V V') : IqS w1 ib pb n st wd ht V' :=
  ⟨hk.get h.1 fun e => e, hk.get h.2.1 fun e => e, hk.get h.2.2.1 fun e => e, hk.get h.2.2.2.1 fun e => e, hk.get h.2.2.2.2.1 fun e => e, hk.get h.2.2.2.2.2.1 fun e => e, h.2.2.2.2.2.2.trans hk⟩
theorem iqS_set {w1 : World} {ib pb n st wd ht : Nat} {V : World} (h : IqS w1 ib pb n st wd ht V) {p : Nat} (hp : w1.heap.size ≤ p) (hi : ib < w1.heap.size) (k : Nat) (v : Value) : IqS w1 ib pb n st wd ht (V.setCell ⟨p, k, none⟩ v) := by
  have hk := keep_setCell V p k v
  have hne : ib ≠ p := by omega
  exact ⟨hk.get h.1 fun e => hne e.1, hk.get h.2.1 fun e => hne e.1, hk.get h.2.2.1 fun e => hne e.1, hk.get h.2.2.2.1 fun e => hne e.1, hk.get h.2.2.2.2.1 fun e => hne e.1, hk.get h.2.2.2.2.2.1 fun e => hne e.1, h.2.2.2.2.2.2.setCell v fun e => by omega⟩
theorem iqS_store {w1 : World} {ib pb n st wd ht : Nat} {V : World} (h : IqS w1 ib pb n st wd ht V) {p : Nat} (hp : w1.heap.size ≤ p) (hi : ib < w1.heap.size) (v0 v1 v2 v3 v4 v5 v6 v7 : Value) : IqS w1 ib pb n st wd ht ((((((((V.setCell ⟨p, 0, none⟩ (v0)).setCell ⟨p, 1, none⟩ (v1)).setCell ⟨p, 2, none⟩ (v2)).setCell ⟨p, 3, none⟩ (v3)).setCell ⟨p, 4, none⟩ (v4)).setCell ⟨p, 5, none⟩ (v5)).setCell ⟨p, 6, none⟩ (v6)).setCell ⟨p, 7, none⟩ (v7)) := by
  exact iqS_set (iqS_set (iqS_set (iqS_set (iqS_set (iqS_set (iqS_set (iqS_set h hp hi _ _) hp hi _ _) hp hi _ _) hp hi _ _) hp hi _ _) hp hi _ _) hp hi _ _) hp hi _ _
/-- picture over an image's fields, of a palette. -/
theorem iqCall {w1 : World} {ib pb n st wd ht : Nat} {l : List UInt8} (hb : BytesAt w1 pb 0 l) (hn : n = l.length) (hn0 : 0 < n) (hn2 : n ≤ 100000) (V : World) (hV : IqS w1 ib pb n st wd ht V) :
    Calls Tryz.prog 43 #[.int .i64 7, .agg #[.int .i64 0, .int .i64 0, .int .i64 (wd : Int), .int .i64 (ht : Int)], .int .i64 (st : Int), .slice (some ⟨pb, 0, none⟩) n n] V fun e w' => ∃ g cap, e = .returned (.agg #[.int .i64 7, .int .i64 0, .int .i64 0, .int .i64 (wd : Int), .int .i64 (ht : Int), .int .i64 (st : Int), .slice (some ⟨g, 0, none⟩) n cap, .slice none 0 0]) ∧
      (BytesAt w' g 0 l ∧ V.heap.size ≤ g ∧ g < w'.heap.size ∧ n ≤ cap) ∧ IqS w1 ib pb n st wd ht w' ∧ Keep Nil2 V w' := by
  refine (implPicture (w := V) 7 wd ht st n l hn0 pb 0 n hn (hb.keep hV.2.2.2.2.2.2 fun _ _ e => e) (by omega)).mono ?_
  rintro e w' ⟨g, cap, rfl, hbg, hg, hglt, hcap, hk⟩
  exact ⟨g, cap, rfl, ⟨hbg, hg, hglt, hcap⟩, iqS_keep hV hk, hk⟩
/-- The same, where a picture's block was made just before. -/
theorem iqCallA {w1 : World} {ib pb n st wd ht : Nat} {l : List UInt8} (hb : BytesAt w1 pb 0 l) (hn : n = l.length) (hn0 : 0 < n) (hn2 : n ≤ 100000) (X : World) (hV : IqS w1 ib pb n st wd ht X) :
    Calls Tryz.prog 43 #[.int .i64 7, .agg #[.int .i64 0, .int .i64 0, .int .i64 (wd : Int), .int .i64 (ht : Int)], .int .i64 (st : Int), .slice (some ⟨pb, 0, none⟩) n n] (X.alloc (.cells #[.int .i64 0, .int .i64 0, .int .i64 0, .int .i64 0, .int .i64 0, .int .i64 0, .slice none 0 0, .slice none 0 0] 26)) fun e w' => ∃ g cap v0 v1 v2 v3 v4 v5 v6 v7, e = .returned (.agg #[.int .i64 7, .int .i64 0, .int .i64 0, .int .i64 (wd : Int), .int .i64 (ht : Int), .int .i64 (st : Int), .slice (some ⟨g, 0, none⟩) n cap, .slice none 0 0]) ∧
      w'.cell? ⟨X.heap.size, 0, none⟩ = some v0 ∧ w'.cell? ⟨X.heap.size, 1, none⟩ = some v1 ∧ w'.cell? ⟨X.heap.size, 2, none⟩ = some v2 ∧ w'.cell? ⟨X.heap.size, 3, none⟩ = some v3 ∧ w'.cell? ⟨X.heap.size, 4, none⟩ = some v4 ∧ w'.cell? ⟨X.heap.size, 5, none⟩ = some v5 ∧ w'.cell? ⟨X.heap.size, 6, none⟩ = some v6 ∧ w'.cell? ⟨X.heap.size, 7, none⟩ = some v7 ∧ (∀ j, w'.frozen? ⟨X.heap.size, j, none⟩ = false) ∧ HasN X.heap.size 8 w' ∧ (BytesAt w' g 0 l ∧ X.heap.size + 1 ≤ g ∧ g < w'.heap.size ∧ n ≤ cap) ∧ IqS w1 ib pb n st wd ht w' ∧ Keep Nil2 (X.alloc (.cells #[.int .i64 0, .int .i64 0, .int .i64 0, .int .i64 0, .int .i64 0, .int .i64 0, .slice none 0 0, .slice none 0 0] 26)) w' := by
  refine (iqCall hb hn hn0 hn2 _ (iqS_keep hV ((Keep.refl Nil2 X).alloc (.cells #[.int .i64 0, .int .i64 0, .int .i64 0, .int .i64 0, .int .i64 0, .int .i64 0, .slice none 0 0, .slice none 0 0] 26)))).mono ?_
  rintro e w' ⟨g, cap, rfl, hbg, hS, hk⟩
  have hN := (hasN_alloc X #[.int .i64 0, .int .i64 0, .int .i64 0, .int .i64 0, .int .i64 0, .int .i64 0, .slice none 0 0, .slice none 0 0] 26 8 rfl).keep (by omega) hk
  obtain ⟨v0, v1, v2, v3, v4, v5, v6, v7, h0, h1, h2, h3, h4, h5, h6, h7⟩ := hN.eight
  exact ⟨g, cap, v0, v1, v2, v3, v4, v5, v6, v7, rfl, h0, h1, h2, h3, h4, h5, h6, h7, hN.2, hN, ⟨hbg.1, by simpa using hbg.2.1, hbg.2.2⟩, hS, hk⟩
/-- The same, where a picture's block was made just before, and an order drawn. -/
theorem iqCallD {w1 : World} {ib pb n st wd ht : Nat} {l : List UInt8} (hb : BytesAt w1 pb 0 l) (hn : n = l.length) (hn0 : 0 < n) (hn2 : n ≤ 100000) (X : World) (hV : IqS w1 ib pb n st wd ht X) :
    Calls Tryz.prog 43 #[.int .i64 7, .agg #[.int .i64 0, .int .i64 0, .int .i64 (wd : Int), .int .i64 (ht : Int)], .int .i64 (st : Int), .slice (some ⟨pb, 0, none⟩) n n] (X.alloc (.cells #[.int .i64 0, .int .i64 0, .int .i64 0, .int .i64 0, .int .i64 0, .int .i64 0, .slice none 0 0, .slice none 0 0] 26)).drew fun e w' => ∃ g cap v0 v1 v2 v3 v4 v5 v6 v7, e = .returned (.agg #[.int .i64 7, .int .i64 0, .int .i64 0, .int .i64 (wd : Int), .int .i64 (ht : Int), .int .i64 (st : Int), .slice (some ⟨g, 0, none⟩) n cap, .slice none 0 0]) ∧
      w'.cell? ⟨X.heap.size, 0, none⟩ = some v0 ∧ w'.cell? ⟨X.heap.size, 1, none⟩ = some v1 ∧ w'.cell? ⟨X.heap.size, 2, none⟩ = some v2 ∧ w'.cell? ⟨X.heap.size, 3, none⟩ = some v3 ∧ w'.cell? ⟨X.heap.size, 4, none⟩ = some v4 ∧ w'.cell? ⟨X.heap.size, 5, none⟩ = some v5 ∧ w'.cell? ⟨X.heap.size, 6, none⟩ = some v6 ∧ w'.cell? ⟨X.heap.size, 7, none⟩ = some v7 ∧ (∀ j, w'.frozen? ⟨X.heap.size, j, none⟩ = false) ∧ HasN X.heap.size 8 w' ∧ (BytesAt w' g 0 l ∧ X.heap.size + 1 ≤ g ∧ g < w'.heap.size ∧ n ≤ cap) ∧ IqS w1 ib pb n st wd ht w' ∧ Keep Nil2 (X.alloc (.cells #[.int .i64 0, .int .i64 0, .int .i64 0, .int .i64 0, .int .i64 0, .int .i64 0, .slice none 0 0, .slice none 0 0] 26)).drew w' := by
  refine (iqCall hb hn hn0 hn2 _ (iqS_keep hV ((Keep.refl Nil2 X).alloc (.cells #[.int .i64 0, .int .i64 0, .int .i64 0, .int .i64 0, .int .i64 0, .int .i64 0, .slice none 0 0, .slice none 0 0] 26)).drew)).mono ?_
  rintro e w' ⟨g, cap, rfl, hbg, hS, hk⟩
  have hN := (hasN_alloc X #[.int .i64 0, .int .i64 0, .int .i64 0, .int .i64 0, .int .i64 0, .int .i64 0, .slice none 0 0, .slice none 0 0] 26 8 rfl).keep (by omega) ((Keep.refl Nil2 _).drew.trans hk)
  obtain ⟨v0, v1, v2, v3, v4, v5, v6, v7, h0, h1, h2, h3, h4, h5, h6, h7⟩ := hN.eight
  exact ⟨g, cap, v0, v1, v2, v3, v4, v5, v6, v7, rfl, h0, h1, h2, h3, h4, h5, h6, h7, hN.2, hN, ⟨hbg.1, by have := hbg.2.1; simpa using this, hbg.2.2⟩, hS, hk⟩
/-- Eight cells, one by one. -/
theorem cells8 {w : World} {p : Nat} {x0 x1 x2 x3 x4 x5 x6 x7 : Value} (h0 : w.cell? ⟨p, 0, none⟩ = some x0) (h1 : w.cell? ⟨p, 1, none⟩ = some x1) (h2 : w.cell? ⟨p, 2, none⟩ = some x2) (h3 : w.cell? ⟨p, 3, none⟩ = some x3) (h4 : w.cell? ⟨p, 4, none⟩ = some x4) (h5 : w.cell? ⟨p, 5, none⟩ = some x5) (h6 : w.cell? ⟨p, 6, none⟩ = some x6) (h7 : w.cell? ⟨p, 7, none⟩ = some x7) : CellsAt w p 0 [x0, x1, x2, x3, x4, x5, x6, x7] := by
  intro j u hu
  rw [Nat.zero_add]
  match j, hu with
  | 0, hu => injection hu with hu; rw [← hu]; exact h0
  | 1, hu => injection hu with hu; rw [← hu]; exact h1
  | 2, hu => injection hu with hu; rw [← hu]; exact h2
  | 3, hu => injection hu with hu; rw [← hu]; exact h3
  | 4, hu => injection hu with hu; rw [← hu]; exact h4
  | 5, hu => injection hu with hu; rw [← hu]; exact h5
  | 6, hu => injection hu with hu; rw [← hu]; exact h6
  | 7, hu => injection hu with hu; rw [← hu]; exact h7
  | (k + 8), hu => simp at hu
/-- What the region leaves: a picture in a block of its own. -/
def PcQ (w1 : World) (n st wd ht : Nat) (l : List UInt8) (v10 : Value) (wx : World) : Prop := ∃ ob g cap, v10 = .pointer (some ⟨ob, 0, none⟩) ∧ CellsAt wx ob 0 [.int .i64 7, .int .i64 0, .int .i64 0, .int .i64 (wd : Int), .int .i64 (ht : Int), .int .i64 (st : Int), .slice (some ⟨g, 0, none⟩) n cap, .slice none 0 0] ∧ (∀ j, wx.frozen? ⟨ob, j, none⟩ = false) ∧ BytesAt wx g 0 l ∧ w1.heap.size ≤ ob ∧ w1.heap.size ≤ g ∧ ob ≠ g ∧ n ≤ cap ∧ Keep Nil2 w1 wx ∧ ob < wx.heap.size ∧ g < wx.heap.size

set_option maxHeartbeats 8000000 in
set_option maxRecDepth 100000 in
theorem implPic7 {w : World} {ib pb n st wd ht plb : Nat} {l : List UInt8} {pal : List Shade4} (hI : ImgAt w ib pb n st wd ht) (hb : BytesAt w pb 0 l) (hn : n = l.length) (hn0 : 0 < n) (hn2 : n ≤ 100000) (h6 : w.cell? ⟨ib, 6, none⟩ = some (.slice (some ⟨plb, 0, none⟩) pal.length 256))
    (hP : PalAt w plb pal (lastClear pal pal.length)) (hp : 0 < pal.length ∧ pal.length ≤ 200) :
    Calls Tryz.prog 29 #[.iface 125 (.pointer (some ⟨ib, 0, none⟩))] w fun e w' => ∃ g cap sg sc, e = .returned (picV 7 wd ht st g n cap (.slice (some ⟨sg, 0, none⟩) pal.length sc)) ∧ BytesAt w' g 0 l ∧ CellsAt w' sg 0 (shadeCells pal) ∧ w.heap.size ≤ g ∧ n ≤ cap ∧ w.heap.size ≤ sg ∧ Keep Nil2 w w' := by
  unfold picV
  have hib : ib < w.heap.size := World.block_lt_of_cell? w _ h6
  have hplw : plb < w.heap.size := hP.room.lt (by omega)
  have hbw : pb < w.heap.size := hb.lt (by omega)
  obtain ⟨w1, hw1⟩ : ∃ w1, w1 = w.alloc (.cells #[.int .i64 0, .int .i64 0, .int .i64 0, .int .i64 0, .int .i64 0, .int .i64 0, .slice none 0 0, .slice none 0 0] 26) := ⟨_, rfl⟩
  obtain ⟨hs0, hk1, hne, htl⟩ := ipS_start hI hw1
  obtain ⟨tb, htb⟩ : ∃ tb, tb = w.heap.size := ⟨_, rfl⟩
  rw [← htb] at hs0 hne htl
  have hpt : pb ≠ tb := by omega
  have hwt : w.heap.size ≤ tb := by omega
  have a0 : ∀ w : World, (Instr.typeAssert (.iface 125 (.pointer (some ⟨ib, 0, none⟩))) 70 107 true).run Tryz.prog w = .ok (.tuple #[.pointer none, .bool false]) w := fun w => by kernel_rfl
  have a1 : ∀ w : World, (Instr.typeAssert (.iface 125 (.pointer (some ⟨ib, 0, none⟩))) 70 115 true).run Tryz.prog w = .ok (.tuple #[.pointer none, .bool false]) w := fun w => by kernel_rfl
  have a2 : ∀ w : World, (Instr.typeAssert (.iface 125 (.pointer (some ⟨ib, 0, none⟩))) 70 117 true).run Tryz.prog w = .ok (.tuple #[.pointer none, .bool false]) w := fun w => by kernel_rfl
  have a3 : ∀ w : World, (Instr.typeAssert (.iface 125 (.pointer (some ⟨ib, 0, none⟩))) 70 119 true).run Tryz.prog w = .ok (.tuple #[.pointer none, .bool false]) w := fun w => by kernel_rfl
  have a4 : ∀ w : World, (Instr.typeAssert (.iface 125 (.pointer (some ⟨ib, 0, none⟩))) 70 121 true).run Tryz.prog w = .ok (.tuple #[.pointer none, .bool false]) w := fun w => by kernel_rfl
  have a5 : ∀ w : World, (Instr.typeAssert (.iface 125 (.pointer (some ⟨ib, 0, none⟩))) 70 123 true).run Tryz.prog w = .ok (.tuple #[.pointer none, .bool false]) w := fun w => by kernel_rfl
  have a6 : ∀ w : World, (Instr.typeAssert (.iface 125 (.pointer (some ⟨ib, 0, none⟩))) 70 125 true).run Tryz.prog w = .ok (.tuple #[.pointer (some ⟨ib, 0, none⟩), .bool true]) w := fun w => by kernel_rfl
  have hib1 : ib < w1.heap.size := by omega
  have hb1 : BytesAt w1 pb 0 l := hb.keep hk1 fun _ _ e => e
  have hq0 : IqS w1 ib pb n st wd ht w1 := ⟨hs0.1, hs0.2.1, hs0.2.2.1, hs0.2.2.2.1, hs0.2.2.2.2.1, hs0.2.2.2.2.2.1, Keep.refl _ _⟩
  have HT0 := Lib.hid hs0.2.2.2.2.2.2.1
  have KS := Lib.hid (fun V V' (h : IqS w1 ib pb n st wd ht V) (hk : Keep Nil2 V V') => iqS_keep h hk)
  have KA := Lib.hid (fun V o (h : IqS w1 ib pb n st wd ht V) => iqS_keep h ((Keep.refl Nil2 V).alloc o))
  have KT := Lib.hid (fun X V (v0 v1 v2 v3 v4 v5 v6 v7 : Value) (hX : IqS w1 ib pb n st wd ht X) (h : IqS w1 ib pb n st wd ht V) => iqS_store h (p := X.heap.size) hX.2.2.2.2.2.2.size hib1 v0 v1 v2 v3 v4 v5 v6 v7)
  have KC := Lib.hid (fun V hV => iqCall (ib := ib) (st := st) (wd := wd) (ht := ht) hb1 hn hn0 hn2 V hV)
  have KCD := Lib.hid (fun X hV => iqCallD (ib := ib) (st := st) (wd := wd) (ht := ht) hb1 hn hn0 hn2 X hV)
  have KCA := Lib.hid (fun X hV => iqCallA (ib := ib) (st := st) (wd := wd) (ht := ht) hb1 hn hn0 hn2 X hV)
  have HTB := Lib.hid (And.intro hw1 (And.intro htb (And.intro hk1 hn)))
  clear hI hb hn hk1 hw1 htb hs0 hb1
  have HPL := Lib.hid (And.intro h6 hP)
  clear h6 hP
  go_enter Tryz.func29, Tryz.ntmps29
  go_wp2
  rw [← HTB.out.1, ← HTB.out.2.1]
  go_upto_region 22 with fail
  go_cut [10] (fun v10 wx => PcQ w1 n st wd ht l v10 wx)
  case first =>
    go_region_held3 (fun w' => w'.cell? ⟨ib, 0, none⟩ = some (.slice (some ⟨pb, 0, none⟩) n n) ∧ w'.cell? ⟨ib, 1, none⟩ = some (.int .i64 (st : Int)) ∧ w'.cell? ⟨ib, 2, none⟩ = some (.int .i64 0) ∧ w'.cell? ⟨ib, 3, none⟩ = some (.int .i64 0) ∧ w'.cell? ⟨ib, 4, none⟩ = some (.int .i64 (wd : Int)) ∧ w'.cell? ⟨ib, 5, none⟩ = some (.int .i64 (ht : Int)) ∧ Keep Nil2 w1 w')
      ((show IqS w1 ib pb n st wd ht _; first | with_reducible assumption | with_reducible exact KT.out _ _ _ _ _ _ _ _ _ _ (by assumption) (by assumption) | with_reducible exact KA.out _ _ (by assumption) | with_reducible exact KS.out _ _ (by assumption) ((Keep.refl Nil2 _).drew) | with_reducible exact KS.out _ _ (KA.out _ _ (by assumption)) ((Keep.refl Nil2 _).drew) | with_reducible exact KS.out _ _ (KA.out _ _ hq0) ((Keep.refl Nil2 _).drew)))
      (first | (go_at_call 43; refine (KCA.out _ hq0).mono ?_; rintro e w2 ⟨g, cap, v0, v1, v2, v3, v4, v5, v6, v7, rfl, h0, h1, h2, h3, h4, h5, h6, h7, hfz, hN, hbg, hsR, hkk⟩) | (go_at_call 43; refine (KCD.out _ hq0).mono ?_; rintro e w2 ⟨g, cap, v0, v1, v2, v3, v4, v5, v6, v7, rfl, h0, h1, h2, h3, h4, h5, h6, h7, hfz, hN, hbg, hsR, hkk⟩) | (go_at_call 43; refine (KC.out _ (by assumption)).mono ?_; rintro e w2 ⟨g, cap, rfl, hbg, hsR, hkk⟩))
    · have HF := Lib.hid (And.intro hbg (And.intro hsR hkk))
      clear hbg hsR hkk
      go_wp2
      go_meet
      case rel =>
        have h1 := HF.out.1.2.1
        have h2 : w1.heap.size ≤ g := by simpa using h1
        have h3 := HF.out.2.1.2.2.2.2.2.2
        exact ⟨w2.heap.size, g, cap, rfl, CellsAt.lit w2 _ 26, (hasN_alloc w2 _ 26 8 rfl).2, HF.out.1.1.keep ((Keep.refl Nil2 w2).alloc _) fun _ _ e => e, h3.size, h2, by have := HF.out.1.2.2.1; omega, HF.out.1.2.2.2, h3.alloc _, by simp, by have := HF.out.1.2.2.1; simp; omega⟩
    · obtain ⟨wf, hwf⟩ : ∃ wf, wf = ((((((((w2.setCell ⟨w1.heap.size, 0, none⟩ (.int .i64 7)).setCell ⟨w1.heap.size, 1, none⟩ (.int .i64 0)).setCell ⟨w1.heap.size, 2, none⟩ (.int .i64 0)).setCell ⟨w1.heap.size, 3, none⟩ (.int .i64 (wd : Int))).setCell ⟨w1.heap.size, 4, none⟩ (.int .i64 (ht : Int))).setCell ⟨w1.heap.size, 5, none⟩ (.int .i64 (st : Int))).setCell ⟨w1.heap.size, 6, none⟩ (.slice (some ⟨g, 0, none⟩) n cap)).setCell ⟨w1.heap.size, 7, none⟩ (.slice none 0 0)) := ⟨_, rfl⟩
      obtain ⟨y0, y1, y2, y3, y4, y5, y6, y7, hkf⟩ := eightSet hN _ _ _ _ _ _ _ _ hwf
      rw [← hwf]
      have HF := Lib.hid (And.intro hbg (And.intro hsR (And.intro hkf (And.intro hN (cells8 y0 y1 y2 y3 y4 y5 y6 y7)))))
      have HW := Lib.hid hwf
      clear hbg hsR hkk hkf hN h0 h1 h2 h3 h4 h5 h6 h7 hfz y0 y1 y2 y3 y4 y5 y6 y7 hwf
      go_wp2
      go_meet
      case rel =>
        have h3 := HF.out.2.1.2.2.2.2.2.2
        have hl : w1.heap.size < w2.heap.size := by have := HF.out.1.2.1; have := HF.out.1.2.2.1; omega
        exact ⟨w1.heap.size, g, cap, rfl, HF.out.2.2.2.2, fun j => by rw [HW.out]; simp [World.frozen?_setCell, HF.out.2.2.2.1.2 j], HF.out.1.1.keep HF.out.2.2.1 fun _ _ e => by have := HF.out.1.2.1; omega, Nat.le_refl _, by have := HF.out.1.2.1; omega, by have := HF.out.1.2.1; omega, HF.out.1.2.2.2, h3.then HF.out.2.2.1 (fun _ _ _ e => e) (fun _ _ hi e => by omega), Nat.lt_of_lt_of_le hl HF.out.2.2.1.size, Nat.lt_of_lt_of_le HF.out.1.2.2.1 HF.out.2.2.1.size⟩
  case rest =>
    obtain ⟨ob, g, cap, rfl, hC, hfz, hbg, ho1, hg1, hog, hcap, hK, hobx, hgx⟩ := hcut
    have hkx := HTB.out.2.2.1.trans hK
    have c6 : wc.cell? ⟨ib, 6, none⟩ = some (.slice (some ⟨plb, 0, none⟩) pal.length 256) := hkx.get HPL.out.1 fun e => e
    have KSh := Lib.hid (implShades (cap := 256) (HPL.out.2.keep hkx fun _ e => e) rfl (by omega) fun k s hs hk => by
      have := lastClear_whole pal pal.length k (List.getElem?_eq_some_iff.1 hs).1 hk
      rw [List.getD_eq_getElem?_getD, hs] at this
      exact this)
    have HX := Lib.hid (And.intro hC (And.intro hfz (And.intro hbg (And.intro hg1 (And.intro hcap (And.intro hK (And.intro hkx hgx)))))))
    clear hC hfz hbg hcap hK hkx
    have hot : ob ≠ tb := by omega
    go_wp2_with (go_at_call 44; fail)
    refine KSh.out.mono ?_
    rintro e w3 ⟨v, rfl, hO, hk3⟩
    obtain ⟨sg, sc, rfl, hsg, hsc, hsl, hsC, _⟩ := hO.out hp.1
    have hCo := HX.out.1.keep hk3 fun _ _ e => e
    obtain ⟨x0, x1, x2, x3, x4, x5, x6, x7⟩ : w3.cell? ⟨ob, 0, none⟩ = some (.int .i64 7) ∧ w3.cell? ⟨ob, 1, none⟩ = some (.int .i64 0) ∧ w3.cell? ⟨ob, 2, none⟩ = some (.int .i64 0) ∧ w3.cell? ⟨ob, 3, none⟩ = some (.int .i64 (wd : Int)) ∧ w3.cell? ⟨ob, 4, none⟩ = some (.int .i64 (ht : Int)) ∧ w3.cell? ⟨ob, 5, none⟩ = some (.int .i64 (st : Int)) ∧ w3.cell? ⟨ob, 6, none⟩ = some (.slice (some ⟨g, 0, none⟩) n cap) ∧ w3.cell? ⟨ob, 7, none⟩ = some (.slice none 0 0) := ⟨hCo 0 _ rfl, hCo 1 _ rfl, hCo 2 _ rfl, hCo 3 _ rfl, hCo 4 _ rfl, hCo 5 _ rfl, hCo 6 _ rfl, hCo 7 _ rfl⟩
    have hof : ∀ j, w3.frozen? ⟨ob, j, none⟩ = false := fun j => hk3.froz hobx (HX.out.2.1 j) fun e => e
    have HY := Lib.hid (And.intro hk3 (And.intro hsC (And.intro hsg (And.intro hsl hsc))))
    clear hO hCo hk3 hsC hsg hsl hsc
    go_upto_region 24 with fail
    obtain ⟨w4, hw4⟩ : ∃ w4, w4 = w3.setCell ⟨ob, 7, none⟩ (.slice (some ⟨sg, 0, none⟩) pal.length sc) := ⟨_, rfl⟩
    rw [← hw4]
    have hk34 : Keep (fun x _ => x = ob) w3 w4 := by rw [hw4]; exact (Keep.refl _ w3).setCell _ fun _ => rfl
    have hk14 : Keep Nil2 w1 w4 := (HX.out.2.2.2.2.2.1.trans HY.out.1).then hk34 (fun _ _ _ e => e) fun i _ hi e => by omega
    have hk05 := keep_setCell w3 ob 7 (.slice (some ⟨sg, 0, none⟩) pal.length sc)
    rw [← hw4] at hk05
    have z0 := hk05.get x0 (by omega)
    have z1 := hk05.get x1 (by omega)
    have z2 := hk05.get x2 (by omega)
    have z3 := hk05.get x3 (by omega)
    have z4 := hk05.get x4 (by omega)
    have z5 := hk05.get x5 (by omega)
    have z6 := hk05.get x6 (by omega)
    have z7 : w4.cell? ⟨ob, 7, none⟩ = some (.slice (some ⟨sg, 0, none⟩) pal.length sc) := by rw [hw4]; exact World.cell?_setCell_same _ _ _ x7
    have hN4 := HT0.out.keep (by omega) hk14
    obtain ⟨v0, v1, v2, v3, v4, v5, v6, v7, t0, t1, t2, t3, t4, t5, t6, t7⟩ := hN4.eight
    have htf := hN4.2
    have HZ := Lib.hid (And.intro hN4 (And.intro hk14 (And.intro hk34 hot)))
    clear hN4 hk14 hk34 hk05 hw4 x0 x1 x2 x3 x4 x5 x6 x7 hof c6
    go_wp2
    obtain ⟨wf, hwf⟩ : ∃ wf, wf = ((((((((w4.setCell ⟨tb, 0, none⟩ (.int .i64 7)).setCell ⟨tb, 1, none⟩ (.int .i64 0)).setCell ⟨tb, 2, none⟩ (.int .i64 0)).setCell ⟨tb, 3, none⟩ (.int .i64 (wd : Int))).setCell ⟨tb, 4, none⟩ (.int .i64 (ht : Int))).setCell ⟨tb, 5, none⟩ (.int .i64 (st : Int))).setCell ⟨tb, 6, none⟩ (.slice (some ⟨g, 0, none⟩) n cap)).setCell ⟨tb, 7, none⟩ (.slice (some ⟨sg, 0, none⟩) pal.length sc)) := ⟨_, rfl⟩
    obtain ⟨y0, y1, y2, y3, y4, y5, y6, y7, hkf⟩ := eightSet HZ.out.1 _ _ _ _ _ _ _ _ hwf
    rw [← hwf]
    have HF := Lib.hid hkf
    clear hwf hkf t0 t1 t2 t3 t4 t5 t6 t7 z0 z1 z2 z3 z4 z5 z6 z7 htf
    refine bodyPost_ret (v := .agg #[.int .i64 7, .int .i64 0, .int .i64 0, .int .i64 (wd : Int), .int .i64 (ht : Int), .int .i64 (st : Int), .slice (some ⟨g, 0, none⟩) n cap, .slice (some ⟨sg, 0, none⟩) pal.length sc]) ?_ rfl ?_
    · simp only [results, Tryz.f29]
      go_simp
    · obtain ⟨hC, hfz2, hbg, hg1', hcap, hK, hkx, hgx'⟩ := HX.out
      obtain ⟨hk3, hsC, hsg, hsl, hsc⟩ := HY.out
      have h14 := HZ.out.2.1
      have hos : ob ≠ sg := by omega
      have hsz := hK.size
      have hts : tb ≠ sg := by omega
      have htg : tb ≠ g := by omega
      refine ⟨g, cap, sg, sc, rfl, ?_, ?_, by have := HTB.out.2.2.1.size; omega, hcap, by have := HTB.out.2.2.1.size; omega, ?_⟩
      · exact (((hbg.keep hk3 fun _ _ e => e).keep HZ.out.2.2.1 fun _ _ e => hog e.symm)).keep HF.out fun _ _ e => htg e.symm
      · exact (hsC.keep HZ.out.2.2.1 fun _ _ e => hos e.symm).keep HF.out fun _ _ e => hts e.symm
      · exact (HTB.out.2.2.1.trans h14).then HF.out (fun _ _ _ e => e) fun i _ hi e => by omega
end Go.Proofs.YtnbbppjgamdfeaaGreatDoor
end
