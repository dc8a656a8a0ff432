/- laws.FnBack, part 9 of 54: A3 D1 D2 D3. -/
import Derived.Test.YtnbbppjgamdfeaaGreatDoorY01
import Derived.LaidEql
import Derived.Test.YtnbbppjgamdfeaaGreatDoorY08
import Derived.Test.YtnbbppjgamdfeaaGreatDoorY03
import Derived.Test.YtnbbppjgamdfeaaGreatDoorY05
import Derived.Test.YtnbbppjgamdfeaaGreatDoorY04

/- io.EOF held against io.EOF and against nil. -/
section
set_option linter.unusedVariables false
set_option linter.unusedSimpArgs false
namespace Go.Proofs.YtnbbppjgamdfeaaGreatDoor
open Go Go.RowKit
theorem eofNeqNil (eb : Nat) (w : World) : (binOp .neq 72 .nilIface (.iface 306 (.pointer (some (eofA eb))))).run Tryz.prog w = .ok (.bool true) w := by kernel_rfl
def isI : Option TypeDesc → Bool
  | some (.interface _) => true
  | _ => false
theorem isI_ok {u : Option TypeDesc} (h : isI u = true) : ∃ ms, u = some (.interface ms) := by
  match u, h with
  | some (.interface ms), _ => exact ⟨ms, rfl⟩
theorem eofSame (eb : Nat) (w : World) : (Op.equal 72 (.iface 306 (.pointer (some (eofA eb)))) (.iface 306 (.pointer (some (eofA eb))))).run Tryz.prog w = .ok true w := by
  obtain ⟨ms, hi⟩ := isI_ok (u := Tryz.prog.underlying 72) (by kernel_rfl)
  have hp : Tryz.prog.underlying 306 = some (.pointer 344) := by kernel_rfl
  have h1 : (Tryz.prog.info? 306).map (·.comparable) = some true := by kernel_rfl
  have h2 : (Tryz.prog.info? 344).isSome = true := by kernel_rfl
  cases hinfo : Tryz.prog.info? 306 with
  | none => rw [hinfo] at h1; cases h1
  | some i =>
    rw [hinfo] at h1
    obtain ⟨j, hj⟩ := Option.isSome_iff_exists.mp h2
    simp [Op.equal, Op.maxDepth, run_equalIn_iface_ptr_same w 9998 (eofA eb) hi hp hinfo (by simpa using h1) hj]
theorem eofNeqEof (eb : Nat) (w : World) : (binOp .neq 72 (.iface 306 (.pointer (some (eofA eb)))) (.iface 306 (.pointer (some (eofA eb))))).run Tryz.prog w = .ok (.bool false) w := by
  simp only [binOp]
  simp [eofSame]
theorem eofEqlEof (eb : Nat) (w : World) : (binOp .eql 72 (.iface 306 (.pointer (some (eofA eb)))) (.iface 306 (.pointer (some (eofA eb))))).run Tryz.prog w = .ok (.bool true) w := by
  simp only [binOp]
  simp [eofSame]
end Go.Proofs.YtnbbppjgamdfeaaGreatDoor
end

/- zlib: the reader: its fields, its Read. -/
section
set_option linter.unusedVariables false
set_option linter.unusedSimpArgs false
namespace Go.Proofs.YtnbbppjgamdfeaaGreatDoor
open Go Go.RowKit

set_option maxHeartbeats 400000 in
theorem zU16 {w : World} (b o n cap : Nat) (hn : 2 ≤ n) (hb : BytesAt w b o [0x78, 1]) :
    Calls Tryz.prog 125 #[.agg #[], .slice (some ⟨b, o, none⟩) n cap] w fun e w' => e = .returned (.int .u16 30721) ∧ Keep Nil2 w w' := by
  have c0 := hb 0 (by simp)
  have c1 := hb 1 (by simp)
  simp only [List.getElem_cons_zero, List.getElem_cons_succ, Nat.add_zero] at c0 c1
  rw [show ((0x78 : UInt8).toNat : Int) = 120 from rfl] at c0
  rw [show ((1 : UInt8).toNat : Int) = 1 from rfl] at c1
  have hl1 : (1 : Int) < n := by omega
  have hl0 : (0 : Int) < n := by omega
  have hk : Keep Nil2 w (w.alloc (.cells #[] 255)) := (Keep.refl Nil2 w).alloc _
  have d0 := hk.get c0 (fun e => e)
  have d1 := hk.get c1 (fun e => e)
  have e : bits BinOp.or IntKind.u16 1 30720 = 30721 := by decide
  go_enter Tryz.func125, Tryz.ntmps125
  go_wp2
  go_quiet (fail)
  go_wp2
  go_ret
  exact ⟨rfl, hk.drewN _⟩

set_option maxHeartbeats 400000 in
theorem zU32 {w : World} {x0 x1 x2 x3 : UInt8} (b o n cap : Nat) (hn : 4 ≤ n) (hb : BytesAt w b o [x0, x1, x2, x3]) :
    Calls Tryz.prog 126 #[.agg #[], .slice (some ⟨b, o, none⟩) n cap] w fun e w' => e = .returned (.int .u32 (be4 x0 x1 x2 x3 : Int)) ∧ Keep Nil2 w w' := by
  have hk : Keep Nil2 w (w.alloc (.cells #[] 255)) := (Keep.refl Nil2 w).alloc _
  have hb' : BytesAt (w.alloc (.cells #[] 255)) b o [x0, x1, x2, x3] := hb.keep hk fun _ _ e => e
  have c0 := hb' 0 (by simp)
  have c1 := hb' 1 (by simp)
  have c2 := hb' 2 (by simp)
  have c3 := hb' 3 (by simp)
  simp only [List.getElem_cons_zero, List.getElem_cons_succ, Nat.add_zero] at c0 c1 c2 c3
  have hl3 : (3 : Int) < n := by omega
  have hl2 : (2 : Int) < n := by omega
  have hl1 : (1 : Int) < n := by omega
  have hl0 : (0 : Int) < n := by omega
  have e := be4_bits _ _ _ _ (u8_lt x0) (u8_lt x1) (u8_lt x2) (u8_lt x3)
  unfold be4
  generalize x0.toNat = y0 at *
  generalize x1.toNat = y1 at *
  generalize x2.toNat = y2 at *
  generalize x3.toNat = y3 at *
  have E := Lib.hid e
  have HK := Lib.hid hk
  clear e hb hb' hk
  go_enter Tryz.func126, Tryz.ntmps126
  go_wp2
  go_quiet (fail)
  go_wp2
  go_ret
  exact ⟨by rw [← E.out]; rfl, HK.out.drewN _⟩

/-- A zlib.reader's fields. -/
structure Zl (w : World) (zb fb ab ub : Nat) (err : Value) : Prop where
  z0 : w.cell? ⟨zb, 0, none⟩ = some (.iface 252 (.pointer (some ⟨ub, 0, none⟩)))
  z1 : w.cell? ⟨zb, 1, none⟩ = some (.iface 280 (.pointer (some ⟨fb, 0, none⟩)))
  z2 : w.cell? ⟨zb, 2, none⟩ = some (.iface 282 (.pointer (some ⟨ab, 0, none⟩)))
  z3 : w.cell? ⟨zb, 3, none⟩ = some err
  sc : RoomAt w zb 4 4
  fz : ∀ j, w.frozen? ⟨zb, j, none⟩ = false
theorem Zl.lt {w : World} {zb fb ab ub : Nat} {err : Value} (h : Zl w zb fb ab ub err) : zb < w.heap.size := World.block_lt_of_cell? w _ h.z0
theorem Zl.keep {F : Nat → Nat → Prop} {w w' : World} {zb fb ab ub : Nat} {err : Value} (h : Zl w zb fb ab ub err) (hk : Keep F w w') (hF : ∀ y, F zb y → 4 ≤ y ∧ y < 8) (hs : RoomAt w' zb 4 4) (hz : ∀ j, w'.frozen? ⟨zb, j, none⟩ = false) : Zl w' zb fb ab ub err :=
  ⟨hk.get h.z0 (fun e => by have := hF _ e; omega), hk.get h.z1 (fun e => by have := hF _ e; omega), hk.get h.z2 (fun e => by have := hF _ e; omega), hk.get h.z3 (fun e => by have := hF _ e; omega), hs, hz⟩
theorem Zl.keep0 {F : Nat → Nat → Prop} {w w' : World} {zb fb ab ub : Nat} {err : Value} (h : Zl w zb fb ab ub err) (hk : Keep F w w') (hF : ∀ y, ¬ F zb y) : Zl w' zb fb ab ub err :=
  h.keep hk (fun y e => (hF y e).elim) (h.sc.keep hk fun _ _ => hF _) fun j => hk.froz h.lt (h.fz j) (hF j)
theorem Zl.set3 {w : World} {zb fb ab ub : Nat} {err : Value} (h : Zl w zb fb ab ub err) (v : Value) : Zl (w.setCell ⟨zb, 3, none⟩ v) zb fb ab ub v :=
  ⟨setF h.z0 (by decide), setF h.z1 (by decide), setF h.z2 (by decide), World.cell?_setCell_same _ _ _ h.z3, h.sc.keep (keep_setCell _ _ _ _) fun _ _ e => by omega, fun j => by rw [World.frozen?_setCell]; exact h.fz j⟩

/-- io.EOF, its string at block eb. -/
def eofV (eb : Nat) : Value := .iface 306 (.pointer (some (eofA eb)))
/-- The window: the bytes rest wait from place m on; the stream is at its end. -/
def Fl (w : World) (fb ub hb eb m : Nat) (rest : List UInt8) : Prop := ∃ f : Fv, Flt w fb ub hb f ∧ f.toR = .slice (some ⟨hb, m, none⟩) rest.length (32768 - m) ∧ f.err = eofV eb ∧ BytesAt w hb m rest ∧ m + rest.length < 32768
theorem Fl.keep {F : Nat → Nat → Prop} {w w' : World} {fb ub hb eb m : Nat} {rest : List UInt8} (h : Fl w fb ub hb eb m rest) (hk : Keep F w w') (h1 : ∀ y, ¬ F fb y) (h2 : ∀ y, ¬ F hb y) : Fl w' fb ub hb eb m rest := by
  obtain ⟨f, a, b, c, d, e⟩ := h
  exact ⟨f, a.keep0 hk h1 h2, b, c, d.keep hk fun _ _ => h2 _, e⟩

/-- What flate's Read hands on, of the bytes rest. -/
def FlPost (N : Nums) (D : List UInt8) (d : Dv) (s E c0 : Nat) (fb hb eb m : Nat) (rest R : List UInt8) (b o n : Nat) (w : World) (e : Ending) (w' : World) : Prop :=
  ∃ k, k = min n rest.length ∧ e = .returned (.tuple #[.int .i64 (k : Int), if k = rest.length then eofV eb else .nilIface]) ∧ SI N D d s E c0 w' R ∧ Fl w' fb N.ub hb eb (m + k) (rest.drop k) ∧ BytesAt w' b o (rest.take k) ∧
    (∀ j, w'.frozen? ⟨b, j, none⟩ = w.frozen? ⟨b, j, none⟩) ∧ Keep (fun x y => Fs N x y ∨ x = fb ∨ x = hb ∨ (x = b ∧ o ≤ y ∧ y < o + k)) w w'

theorem flMid {N : Nums} {D : List UInt8} {d : Dv} {s E c0 : Nat} {w : World} {fb hb eb m : Nat} {rest R : List UInt8} (hS : SI N D d s E c0 w R) (h : Fl w fb N.ub hb eb m rest) (hr : 0 < rest.length) (h1 : OkS N fb) (h2 : OkS N hb)
    (b o n c : Nat) (hn : 0 < n) (hn2 : n ≤ 1073741824) (room : RoomAt w b o n) (hb1 : b ≠ fb) (hb2 : b ≠ hb) (hbO : OkS N b) :
    Calls Tryz.prog 250 #[.pointer (some ⟨fb, 0, none⟩), .slice (some ⟨b, o, none⟩) n c] w (FlPost N D d s E c0 fb hb eb m rest R b o n w) := by
  obtain ⟨f, a1, a2, a3, a4, a5⟩ := h
  refine (fltRead1 a1 a2 a3 a4 hr a5 b o n c hn hn2 room hb1 hb2).mono ?_
  rintro e w' ⟨k, hk, rfl, g1, g2, g3, g4⟩
  refine ⟨k, hk, rfl, hS.keep g4 fun x _ e => e.elim (fun e => e ▸ h1) fun e => e.1 ▸ hbO, ⟨_, g1, by rw [List.length_drop], a3, ?_, by rw [List.length_drop]; omega⟩, g2, g3, g4.mono fun _ _ _ e => .inr (e.imp id Or.inr)⟩
  exact (a4.drop k).keep g4 fun _ _ e => e.elim (fun e => a1.ne e.symm) fun e => hb2 e.1.symm

theorem flFirst {N : Nums} {D : List UInt8} {d : Dv} {s E c0 : Nat} {w : World} {x0 x1 y0 y1 : UInt8} {l R : List UInt8} {fb hb eb : Nat} (hS : SI N D d s E c0 w (0 :: x0 :: x1 :: y0 :: y1 :: (l ++ (3 :: 0 :: R)))) (h : Flt w fb N.ub hb fv0) (h1 : OkS N fb) (h2 : OkS N hb) (hD : D.length ≤ 1073741824) (hD0 : 0 < D.length)
    (hl0 : 0 < l.length) (hl : l.length < 32768) (hx : x0.toNat + 256 * x1.toNat = l.length) (hy0 : y0.toNat = 255 - x0.toNat) (hy1 : y1.toNat = 255 - x1.toNat) (he0 : w.cell? ⟨0, 0, none⟩ = some (eofV eb)) (h0b : OkS N 0) (hf0 : fb ≠ 0) (hh0 : hb ≠ 0)
    (b o n c : Nat) (hn : 0 < n) (hn2 : n ≤ 1073741824) (room : RoomAt w b o n) (hb1 : b ≠ fb) (hb2 : b ≠ hb) (hbO : OkS N b) :
    Calls Tryz.prog 250 #[.pointer (some ⟨fb, 0, none⟩), .slice (some ⟨b, o, none⟩) n c] w (FlPost N D d s E c0 fb hb eb 0 l R b o n w) := by
  refine (fltRead0 hS h h1 h2 hD hD0 hl0 hl hx hy0 hy1 rfl rfl rfl rfl rfl rfl rfl he0 h0b hf0 hh0 b o n c hn hn2 room hb1 hb2 hbO).mono ?_
  rintro e w' ⟨k, hk, rfl, g0, ⟨f', g1, g1e⟩, g2, g3, g4, g5⟩
  refine ⟨k, hk, rfl, g0, ⟨_, g1, by rw [List.length_drop, Nat.zero_add], g1e, ?_, by rw [List.length_drop]; omega⟩, g3, g4, g5⟩
  have := g2.drop k
  exact this
end Go.Proofs.YtnbbppjgamdfeaaGreatDoor
end

/- zlib: Read. -/
section
set_option linter.unusedVariables false
set_option linter.unusedSimpArgs false
namespace Go.Proofs.YtnbbppjgamdfeaaGreatDoor
open Go Go.RowKit

/-- The blocks of the unpacking side. -/
structure ZN where
  zb : Nat
  fb : Nat
  hb : Nat
  ab : Nat
  eb : Nat
/-- They are all different, and none of the stream's own. -/
structure ZOk (N : Nums) (z : ZN) : Prop where
  o1 : OkS N z.zb
  o2 : OkS N z.fb
  o3 : OkS N z.hb
  o4 : OkS N z.ab
  n1 : z.zb ≠ z.fb
  n2 : z.zb ≠ z.hb
  n3 : z.zb ≠ z.ab
  n4 : z.fb ≠ z.hb
  n5 : z.fb ≠ z.ab
  n6 : z.hb ≠ z.ab
  e0 : OkS N 0
  e1 : z.zb ≠ 0
  e2 : z.fb ≠ 0
  e3 : z.hb ≠ 0
  e4 : z.ab ≠ 0
/-- What the unpacking turns. -/
def Fz (N : Nums) (z : ZN) : Nat → Nat → Prop := fun x y => Fs N x y ∨ x = z.zb ∨ x = z.fb ∨ x = z.hb ∨ x = z.ab
/-- A block that the unpacking leaves alone. -/
structure OkZ (N : Nums) (z : ZN) (b : Nat) : Prop where
  s : OkS N b
  b1 : b ≠ z.zb
  b2 : b ≠ z.fb
  b3 : b ≠ z.hb
  b4 : b ≠ z.ab
  b5 : b ≠ 0
theorem OkZ.fz {N : Nums} {z : ZN} {b : Nat} (h : OkZ N z b) (y : Nat) : ¬ Fz N z b y := fun e => e.elim (h.s.ok y) fun e => e.elim h.b1 fun e => e.elim h.b2 fun e => e.elim h.b3 h.b4

/-- m of the bytes l were handed on; some are still to come. -/
structure ZMid (N : Nums) (D : List UInt8) (d : Dv) (s E c0 : Nat) (z : ZN) (l : List UInt8) (m : Nat) (w : World) : Prop where
  si : SI N D d s E c0 w (four (adOf l))
  fl : Fl w z.fb N.ub z.hb z.eb m (l.drop m)
  ad : AdSt w z.ab (adM (1, 0) (l.take m))
  zl : Zl w z.zb z.fb z.ab N.ub .nilIface
  eof : w.cell? ⟨0, 0, none⟩ = some (eofV z.eb)
/-- All was handed on; the sum was right. -/
structure ZDone (N : Nums) (D : List UInt8) (d : Dv) (s E c0 : Nat) (z : ZN) (w : World) : Prop where
  si : SI N D d s E c0 w []
  fl : ∃ m, Fl w z.fb N.ub z.hb z.eb m []
  zl : Zl w z.zb z.fb z.ab N.ub (eofV z.eb)
  eof : w.cell? ⟨0, 0, none⟩ = some (eofV z.eb)

def ZPost (N : Nums) (D : List UInt8) (d : Dv) (s E c0 : Nat) (z : ZN) (l : List UInt8) (m b o n : Nat) (w : World) (e : Ending) (w' : World) : Prop :=
  ∃ k, k = min n (l.length - m) ∧ e = .returned (.tuple #[.int .i64 (k : Int), if m + k = l.length then eofV z.eb else .nilIface]) ∧ (m + k < l.length → ZMid N D d s E c0 z l (m + k) w') ∧ (m + k = l.length → ZDone N D d s E c0 z w') ∧
    BytesAt w' b o ((l.drop m).take k) ∧ (∀ j, w'.frozen? ⟨b, j, none⟩ = w.frozen? ⟨b, j, none⟩) ∧ Keep (fun x y => Fz N z x y ∨ (x = b ∧ o ≤ y ∧ y < o + k)) w w'

set_option maxHeartbeats 2000000 in
set_option maxRecDepth 100000 in
theorem zlibRead {N : Nums} {D : List UInt8} {d : Dv} {s E c0 : Nat} {w : World} {z : ZN} {l : List UInt8} {m : Nat} (hD : D.length ≤ 1073741824) (hok : ZOk N z) (hm : m < l.length) (hl : l.length ≤ 1073741824) (hz : Zl w z.zb z.fb z.ab N.ub .nilIface) (ha : AdSt w z.ab (adM (1, 0) (l.take m))) (heof : w.cell? ⟨0, 0, none⟩ = some (eofV z.eb))
    (b o n c : Nat) (hn : 0 < n) (hn2 : n ≤ 1073741824) (hnc : n ≤ c) (room : RoomAt w b o n) (hb : OkZ N z b)
    (hfl : Calls Tryz.prog 250 #[.pointer (some ⟨z.fb, 0, none⟩), .slice (some ⟨b, o, none⟩) n c] w (FlPost N D d s E c0 z.fb z.hb z.eb m (l.drop m) (four (adOf l)) b o n w)) :
    Calls Tryz.prog 240 #[.pointer (some ⟨z.zb, 0, none⟩), .slice (some ⟨b, o, none⟩) n c] w (ZPost N D d s E c0 z l m b o n w) := by
  obtain ⟨zb, fb, hbl, ab, eb⟩ := z
  simp only at *
  have c1 := hz.z1
  have c3 := hz.z3
  have hq1 := eofNeqNil eb
  have hq2 := eofNeqEof eb
  go_enter Tryz.func240, Tryz.ntmps240
  go_wp2_with (go_at_call 250; fail)
  refine hfl.mono ?_
  rintro e w1 ⟨k, hk, rfl, hS1, hF1, hB1, hfz1, hk1⟩
  have hkb : ∀ x, (∀ y, ¬ Fs N x y) → x ≠ fb → x ≠ hbl → x ≠ b → ∀ y, ¬ (Fs N x y ∨ x = fb ∨ x = hbl ∨ (x = b ∧ o ≤ y ∧ y < o + k)) := fun x h1 h2 h3 h4 y e => e.elim (h1 y) fun e => e.elim h2 fun e => e.elim h3 fun e => h4 e.1
  have hz1 : Zl w1 zb fb ab N.ub .nilIface := hz.keep0 hk1 (hkb zb hok.o1.ok hok.n1 hok.n2 hb.b1.symm)
  have ha1 := ha.keep hk1 (hkb ab hok.o4.ok hok.n5.symm hok.n6.symm hb.b4.symm)
  have he1 := hk1.get heof (hkb 0 hok.e0.ok hok.e2.symm hok.e3.symm hb.b5.symm 0)
  have hrl : (l.drop m).length = l.length - m := List.length_drop
  rw [hrl] at hk
  rw [hrl]
  have hk0 : 0 < k := by omega
  have hkn : k ≤ n := by omega
  have d3 := hz1.z3
  have dz := hz1.fz
  clear c1 c3 hfl hkb hrl hz ha
  by_cases hend : k = l.length - m
  · rw [if_pos hend]
    have HEND := Lib.hid hend
    clear hend
    unfold eofV at he1 ⊢
    have hz2 := hz1.set3 (.iface 306 (.pointer (some (eofA eb))))
    have hk2 : Keep (fun x y => x = zb ∧ y = 3) w1 (w1.setCell ⟨zb, 3, none⟩ (.iface 306 (.pointer (some (eofA eb))))) := keep_setCell _ _ _ _
    obtain ⟨w2, hw2⟩ : ∃ w2, w2 = w1.setCell ⟨zb, 3, none⟩ (.iface 306 (.pointer (some (eofA eb)))) := ⟨_, rfl⟩
    rw [← hw2] at hz2 hk2
    have ha2 := (ha1.keep hk2 fun _ e => hok.n3 e.1.symm).keep ((Keep.refl Nil2 w2).drewN 1) fun _ e => e
    have hB2' : BytesAt w2 b o ((l.drop m).take k) := hB1.keep hk2 fun _ _ e => hb.b1 e.1
    have hB2 := hB2'.drewN 1
    have hlt : ((l.drop m).take k).length = k := by rw [List.length_take, List.length_drop]; omega
    have hw := adWrite ha2 ((l.drop m).take k) b o k c hlt.symm hk0 (by omega) hB2 (by omega)
    have hM : adM (adM (1, 0) (l.take m)) ((l.drop m).take k) = adM (1, 0) (l.take (m + k)) := by rw [← adM_append, ← List.take_add]
    rw [hM] at hw
    have d0 := hz2.z0
    have d2 := hz2.z2
    have d3' := hz2.z3
    have dz' := hz2.fz
    have hS2 := hS1.keep hk2 fun x _ e => e.1 ▸ hok.o1
    have hF2 := hF1.keep hk2 (fun _ e => hok.n1 e.1.symm) (fun _ e => hok.n2 e.1.symm)
    have he2 := hk2.get he1 (fun e => hok.e1 e.1.symm)
    have hf2 : ∀ j, w2.frozen? ⟨b, j, none⟩ = w.frozen? ⟨b, j, none⟩ := fun j => by rw [hw2, World.frozen?_setCell]; exact hfz1 j
    have HS := Lib.hid hS2
    have HF := Lib.hid hF2
    have HB := Lib.hid hB2'
    have HFZ := Lib.hid hf2
    have HK := Lib.hid hk
    have HM := Lib.hid hM
    have HW2 := Lib.hid hw2
    have HK1 := Lib.hid hk1
    have HK2 := Lib.hid hk2
    have HZ := Lib.hid hz2
    clear hS1 hF1 hB1 hfz1 hS2 hF2 hB2 hB2' hf2 hk hM ha2 ha1 hlt hk1 hk2 hz2 hz1
    have hkc : (k : Int) ≤ c := by omega
    clear hw2
    go_wp2
    rw [← HW2.out]
    go_region_with (refine hw.mono ?_; rintro e w3 ⟨rfl, ha3, hk3⟩)
    have k3 : Keep (fun x _ => x = ab) w2 w3 := ((Keep.refl _ w2).drewN 1).trans hk3
    have f0 := k3.get d0 hok.n3
    have f2 := k3.get d2 hok.n3
    have f3 := k3.get d3' hok.n3
    have fz : ∀ j, w3.frozen? ⟨zb, j, none⟩ = false := fun j => k3.froz HZ.out.lt (dz' j) hok.n3
    have fe := k3.get he2 hok.e4.symm
    have HK3 := Lib.hid k3
    have HA3 := Lib.hid ha3
    clear d0 d2 d3' dz' he2 k3 hk3 ha3 hw d3 dz he1
    go_wp2
    go_region
    go_wp2
    obtain ⟨w4, hw4⟩ : ∃ w4, w4 = w3.drew := ⟨_, rfl⟩
    have k4 : Keep (fun x _ => x = ab) w2 w4 := by rw [hw4]; exact HK3.out.drew
    have k34 : Keep Nil2 w3 w4 := by rw [hw4]; exact (Keep.refl Nil2 w3).drew
    have f0' := k34.get f0 (fun e => e)
    have f2' := k34.get f2 (fun e => e)
    have f3' := k34.get f3 (fun e => e)
    have fe' := k34.get fe (fun e => e)
    have fz' : ∀ j, w4.frozen? ⟨zb, j, none⟩ = false := fun j => k4.froz HZ.out.lt (HZ.out.fz j) hok.n3
    have hA4 := HA3.out.keep k34 fun _ e => e
    have hS4 := HS.out.keep k4 fun x _ e => e ▸ hok.o4
    have hF4 := HF.out.keep k4 (fun _ e => hok.n5 e) (fun _ e => hok.n6 e)
    have hZ4 := HZ.out.keep0 k4 fun _ e => hok.n3 e
    have hB4 : BytesAt w4 b o ((l.drop m).take k) := HB.out.keep k4 fun _ _ e => hb.b4 e
    have hf4 : ∀ j, w4.frozen? ⟨b, j, none⟩ = w.frozen? ⟨b, j, none⟩ := fun j => (k4.frozen b j (by have := room.lt hn; have := HK1.out.size; have := HK2.out.size; omega) hb.b4).trans (HFZ.out j)
    have hK4 : Keep (fun x y => Fz N ⟨zb, fb, hbl, ab, eb⟩ x y ∨ (x = b ∧ o ≤ y ∧ y < o + k)) w w4 :=
      ((HK1.out.mono fun x y _ e => e.elim (fun e => Or.inl (.inl e)) fun e => e.elim (fun e => .inl (.inr (.inr (.inl e)))) fun e => e.elim (fun e => .inl (.inr (.inr (.inr (.inl e))))) .inr).trans (HK2.out.mono fun x y _ e => Or.inl (.inr (.inl e.1)))).trans (k4.mono fun x y _ e => Or.inl (.inr (.inr (.inr (.inr e)))))
    rw [← hw4]
    clear hw4 f0 f2 f3 fe fz k4 k34
    have hlen : (l.drop m).length = k := by rw [List.length_drop]; exact HEND.out.symm
    have hFd : Fl w4 fb N.ub hbl eb (m + k) [] := by
      have := hF4
      rw [List.drop_eq_nil_of_le (by omega)] at this
      exact this
    have hrd := readFull (rdrBuf N D d s E c0 hD) (w4.drewN 1) (four (adOf l)) zb 4 4 4 (hS4.drewN 1) (by simp [four_length]) (by omega) (hZ4.keep0 ((Keep.refl Nil2 w4).drewN 1) fun _ e => e).sc hok.o1 (by omega)
    have HALL := Lib.hid (And.intro hA4 (And.intro hFd (And.intro hZ4 (And.intro hB4 (And.intro hf4 hK4)))))
    clear hA4 hS4 hF4 hFd hZ4 hB4 hf4 hK4
    go_region_with (refine hrd.mono ?_; rintro e w5 ⟨rfl, hS5, hb5, hz5, hk5⟩)
    have k5 : Keep (fun x y => Fs N x y ∨ (x = zb ∧ 4 ≤ y ∧ y < 8)) w4 w5 := ((Keep.refl _ w4).drewN 1).trans hk5
    have hnz : ∀ y, (Fs N zb y ∨ (zb = zb ∧ 4 ≤ y ∧ y < 8)) → 4 ≤ y ∧ y < 8 := fun y e => e.elim (fun e => (hok.o1.ok y e).elim) fun e => e.2
    have g2 := k5.get f2' (fun e => by have := hnz _ e; omega)
    have ge := k5.get fe' (fun e => e.elim (hok.e0.ok 0) fun e => hok.e1 e.1.symm)
    have hZ5 : Zl w5 zb fb ab N.ub (.iface 306 (.pointer (some (eofA eb)))) := HALL.out.2.2.1.keep k5 hnz ((HALL.out.2.2.1.sc.keep ((Keep.refl Nil2 w4).drewN 1) fun _ _ e => e).after (l := four (adOf l)) hk5 (fun y e => by have := hnz y e; simp [four_length]; omega) (by rw [List.take_of_length_le (by simp [four_length])] at hb5; exact hb5) hz5) fun j => by rw [hz5]; exact fz' j
    have hA5 := HALL.out.1.keep k5 fun y e => e.elim (hok.o4.ok y) fun e => hok.n3 e.1.symm
    have hb5' : BytesAt w5 zb 4 [b8 (adOf l / 16777216), b8 (adOf l / 65536), b8 (adOf l / 256), b8 (adOf l)] := by
      rw [List.take_of_length_le (by simp [four_length])] at hb5; exact hb5
    have hadl : adOf l < 4294967296 := adNum_lt _ (adM_lt _ _).1 (adM_lt _ _).2
    have hu := zU32 (w := w5.drewN 1) zb 4 4 4 (by omega) (hb5'.drewN 1)
    rw [be4_four _ hadl] at hu
    have HS5 := Lib.hid hS5
    have HZ5 := Lib.hid hZ5
    have HK5 := Lib.hid k5
    have HA5 := Lib.hid hA5
    clear hS5 hZ5 k5 hb5 hz5 hk5 hb5' hrd f0' f2' f3' fe' fz' hnz hA5
    go_wp2
    try simp only [Act.put, List.getElem_toArray, List.getElem_cons_succ, List.getElem_cons_zero, List.setIfInBounds_toArray, List.set_cons_succ, List.set_cons_zero]
    go_region_with (refine hu.mono ?_; rintro e w6 ⟨rfl, hk6⟩)
    have k6 : Keep Nil2 w5 w6 := ((Keep.refl Nil2 w5).drewN 1).trans hk6
    have hmk : m + k = l.length := by have := HEND.out; omega
    have hA6 : AdSt w6 ab (adM (1, 0) l) := by
      have := HA5.out.keep k6 fun _ e => e
      rw [List.take_of_length_le (by omega)] at this
      exact this
    have h2 := k6.get g2 (fun e => e)
    have he := k6.get ge (fun e => e)
    have had : adNum (adM (1, 0) l) = adOf l := rfl
    have HMK := Lib.hid hmk
    have K6 := Lib.hid k6
    clear hk6 k6 hu g2 ge hmk
    go_wp2_with (go_at_call 255; fail)
    refine (adSum hA6).mono ?_
    rintro e w7 ⟨rfl, rfl⟩
    rw [had]
    have HA6 := Lib.hid hA6
    clear hA6 had
    go_wp2
    go_region
    go_wp2
    go_ret2
    have hkd : Keep Nil2 w5 w7.drew := K6.out.drew
    obtain ⟨_, hF4, _, hB4, hf4, hK4⟩ := HALL.out
    have k5 := HK5.out
    have nb : ∀ x, (∀ y, ¬ Fs N x y) → x ≠ zb → ∀ y, ¬ (Fs N x y ∨ (x = zb ∧ 4 ≤ y ∧ y < 8)) := fun x h1 h2 y e => e.elim (h1 y) fun e => h2 e.1
    have hlt := room.lt hn
    refine ⟨k, HK.out, by rw [if_pos HMK.out]; rfl, fun e => absurd HMK.out (by omega), fun _ => ⟨?_, ⟨m + k, ?_⟩, ?_, ?_⟩, ?_, ?_, ?_⟩
    · exact SI.keep HS5.out hkd fun _ _ e => e.elim
    · exact (hF4.keep k5 (nb fb hok.o2.ok hok.n1.symm) (nb hbl hok.o3.ok hok.n2.symm)).keep hkd (fun _ e => e) (fun _ e => e)
    · exact HZ5.out.keep0 hkd fun _ e => e
    · exact (Keep.refl Nil2 w7).drew.get he fun e => e
    · exact (hB4.keep k5 fun _ _ => nb b hb.s.ok hb.b1 _).keep hkd fun _ _ e => e
    · exact fun j => (hkd.frozen b j (by have := k5.size; have := hK4.size; omega) fun e => e).trans ((k5.frozen b j (by have := hK4.size; omega) (nb b hb.s.ok hb.b1 j)).trans (hf4 j))
    · exact (hK4.trans (k5.mono fun x y _ e => e.elim (fun e => Or.inl (.inl e)) fun e => Or.inl (.inr (.inl e.1)))).trans (hkd.mono fun _ _ _ e => e.elim)
  · rw [if_neg hend]
    have HEND := Lib.hid hend
    clear hend
    unfold eofV at he1
    have hz2 := hz1.set3 (.nilIface)
    have hk2 : Keep (fun x y => x = zb ∧ y = 3) w1 (w1.setCell ⟨zb, 3, none⟩ (.nilIface)) := keep_setCell _ _ _ _
    obtain ⟨w2, hw2⟩ : ∃ w2, w2 = w1.setCell ⟨zb, 3, none⟩ (.nilIface) := ⟨_, rfl⟩
    rw [← hw2] at hz2 hk2
    have ha2 := (ha1.keep hk2 fun _ e => hok.n3 e.1.symm).keep ((Keep.refl Nil2 w2).drewN 1) fun _ e => e
    have hB2' : BytesAt w2 b o ((l.drop m).take k) := hB1.keep hk2 fun _ _ e => hb.b1 e.1
    have hB2 := hB2'.drewN 1
    have hlt : ((l.drop m).take k).length = k := by rw [List.length_take, List.length_drop]; omega
    have hw := adWrite ha2 ((l.drop m).take k) b o k c hlt.symm hk0 (by omega) hB2 (by omega)
    have hM : adM (adM (1, 0) (l.take m)) ((l.drop m).take k) = adM (1, 0) (l.take (m + k)) := by rw [← adM_append, ← List.take_add]
    rw [hM] at hw
    have d0 := hz2.z0
    have d2 := hz2.z2
    have d3' := hz2.z3
    have dz' := hz2.fz
    have hS2 := hS1.keep hk2 fun x _ e => e.1 ▸ hok.o1
    have hF2 := hF1.keep hk2 (fun _ e => hok.n1 e.1.symm) (fun _ e => hok.n2 e.1.symm)
    have he2 := hk2.get he1 (fun e => hok.e1 e.1.symm)
    have hf2 : ∀ j, w2.frozen? ⟨b, j, none⟩ = w.frozen? ⟨b, j, none⟩ := fun j => by rw [hw2, World.frozen?_setCell]; exact hfz1 j
    have HS := Lib.hid hS2
    have HF := Lib.hid hF2
    have HB := Lib.hid hB2'
    have HFZ := Lib.hid hf2
    have HK := Lib.hid hk
    have HM := Lib.hid hM
    have HW2 := Lib.hid hw2
    have HK1 := Lib.hid hk1
    have HK2 := Lib.hid hk2
    have HZ := Lib.hid hz2
    clear hS1 hF1 hB1 hfz1 hS2 hF2 hB2 hB2' hf2 hk hM ha2 ha1 hlt hk1 hk2 hz2 hz1
    have hkc : (k : Int) ≤ c := by omega
    clear hw2
    go_wp2
    rw [← HW2.out]
    go_region_with (refine hw.mono ?_; rintro e w3 ⟨rfl, ha3, hk3⟩)
    have k3 : Keep (fun x _ => x = ab) w2 w3 := ((Keep.refl _ w2).drewN 1).trans hk3
    have f0 := k3.get d0 hok.n3
    have f2 := k3.get d2 hok.n3
    have f3 := k3.get d3' hok.n3
    have fz : ∀ j, w3.frozen? ⟨zb, j, none⟩ = false := fun j => k3.froz HZ.out.lt (dz' j) hok.n3
    have fe := k3.get he2 hok.e4.symm
    have HK3 := Lib.hid k3
    have HA3 := Lib.hid ha3
    clear d0 d2 d3' dz' he2 k3 hk3 ha3 hw d3 dz he1
    go_wp2
    go_region
    go_wp2
    obtain ⟨w4, hw4⟩ : ∃ w4, w4 = w3.drew := ⟨_, rfl⟩
    have k4 : Keep (fun x _ => x = ab) w2 w4 := by rw [hw4]; exact HK3.out.drew
    have k34 : Keep Nil2 w3 w4 := by rw [hw4]; exact (Keep.refl Nil2 w3).drew
    have f0' := k34.get f0 (fun e => e)
    have f2' := k34.get f2 (fun e => e)
    have f3' := k34.get f3 (fun e => e)
    have fe' := k34.get fe (fun e => e)
    have fz' : ∀ j, w4.frozen? ⟨zb, j, none⟩ = false := fun j => k4.froz HZ.out.lt (HZ.out.fz j) hok.n3
    have hA4 := HA3.out.keep k34 fun _ e => e
    have hS4 := HS.out.keep k4 fun x _ e => e ▸ hok.o4
    have hF4 := HF.out.keep k4 (fun _ e => hok.n5 e) (fun _ e => hok.n6 e)
    have hZ4 := HZ.out.keep0 k4 fun _ e => hok.n3 e
    have hB4 : BytesAt w4 b o ((l.drop m).take k) := HB.out.keep k4 fun _ _ e => hb.b4 e
    have hf4 : ∀ j, w4.frozen? ⟨b, j, none⟩ = w.frozen? ⟨b, j, none⟩ := fun j => (k4.frozen b j (by have := room.lt hn; have := HK1.out.size; have := HK2.out.size; omega) hb.b4).trans (HFZ.out j)
    have hK4 : Keep (fun x y => Fz N ⟨zb, fb, hbl, ab, eb⟩ x y ∨ (x = b ∧ o ≤ y ∧ y < o + k)) w w4 :=
      ((HK1.out.mono fun x y _ e => e.elim (fun e => Or.inl (.inl e)) fun e => e.elim (fun e => .inl (.inr (.inr (.inl e)))) fun e => e.elim (fun e => .inl (.inr (.inr (.inr (.inl e))))) .inr).trans (HK2.out.mono fun x y _ e => Or.inl (.inr (.inl e.1)))).trans (k4.mono fun x y _ e => Or.inl (.inr (.inr (.inr (.inr e)))))
    rw [← hw4]
    clear hw4 f0 f2 f3 fe fz k4 k34
    have HALL := Lib.hid (And.intro hA4 (And.intro hS4 (And.intro hF4 (And.intro hZ4 (And.intro hB4 (And.intro hf4 hK4))))))
    clear hA4 hS4 hF4 hZ4 hB4 hf4 hK4
    go_quiet (fail)
    go_wp2
    go_ret2
    have hkd : ∀ q, Keep Nil2 w4 (w4.drewN q) := fun q => (Keep.refl Nil2 w4).drewN q
    obtain ⟨hA4, hS4, hF4, hZ4, hB4, hf4, hK4⟩ := HALL.out
    have hne : ¬ m + k = l.length := fun e => HEND.out (by omega)
    refine ⟨k, HK.out, by rw [if_neg hne]; rfl, fun _ => ⟨hS4.drewN _, ?_, hA4.keep (hkd _) fun _ e => e, hZ4.keep0 (hkd _) fun _ e => e, (hkd _).get fe' fun e => e⟩, fun e => absurd e hne, hB4.drewN _, hf4, hK4.drewN _⟩
    rw [List.drop_drop] at hF4
    exact hF4.keep (hkd _) (fun _ e => e) (fun _ e => e)
end Go.Proofs.YtnbbppjgamdfeaaGreatDoor
end

/- zlib: the reader as ReadFull takes it; after the end; Close. -/
section
set_option linter.unusedVariables false
set_option linter.unusedSimpArgs false
namespace Go.Proofs.YtnbbppjgamdfeaaGreatDoor
open Go Go.RowKit

/-- Nothing was read yet: the stream is ahead, behind its two first bytes. -/
structure ZFresh (N : Nums) (D : List UInt8) (d : Dv) (s E c0 : Nat) (z : ZN) (l : List UInt8) (w : World) : Prop where
  si : SI N D d s E c0 w (0 :: b8 l.length :: b8 (l.length / 256) :: b8 (65535 - l.length) :: b8 ((65535 - l.length) / 256) :: (l ++ (3 :: 0 :: four (adOf l))))
  fl : Flt w z.fb N.ub z.hb fv0
  ad : AdSt w z.ab (1, 0)
  zl : Zl w z.zb z.fb z.ab N.ub .nilIface
  eof : w.cell? ⟨0, 0, none⟩ = some (eofV z.eb)

/-- The unpacked bytes R are still to come. -/
def ZI (N : Nums) (D : List UInt8) (d : Dv) (s E c0 : Nat) (z : ZN) (l : List UInt8) (w : World) (R : List UInt8) : Prop :=
  (R = l ∧ ZFresh N D d s E c0 z l w) ∨ (∃ m, m < l.length ∧ R = l.drop m ∧ ZMid N D d s E c0 z l m w) ∨ (R = [] ∧ ZDone N D d s E c0 z w)

theorem ZI.keep {N : Nums} {D : List UInt8} {d : Dv} {s E c0 : Nat} {z : ZN} {l R : List UInt8} {w w' : World} {F : Nat → Nat → Prop} (h : ZI N D d s E c0 z l w R) (hk : Keep F w w') (hF : ∀ x y, F x y → OkZ N z x) : ZI N D d s E c0 z l w' R := by
  have hS : ∀ x y, F x y → OkS N x := fun x y e => (hF x y e).s
  have n1 : ∀ y, ¬ F z.zb y := fun y e => (hF _ _ e).b1 rfl
  have n2 : ∀ y, ¬ F z.fb y := fun y e => (hF _ _ e).b2 rfl
  have n3 : ∀ y, ¬ F z.hb y := fun y e => (hF _ _ e).b3 rfl
  have n4 : ∀ y, ¬ F z.ab y := fun y e => (hF _ _ e).b4 rfl
  have n5 : ∀ y, ¬ F 0 y := fun y e => (hF _ _ e).b5 rfl
  rcases h with ⟨e, a⟩ | ⟨m, hm, e, a⟩ | ⟨e, a⟩
  · exact .inl ⟨e, a.si.keep hk hS, a.fl.keep0 hk n2 n3, a.ad.keep hk n4, a.zl.keep0 hk n1, hk.get a.eof (n5 0)⟩
  · exact .inr (.inl ⟨m, hm, e, a.si.keep hk hS, a.fl.keep hk n2 n3, a.ad.keep hk n4, a.zl.keep0 hk n1, hk.get a.eof (n5 0)⟩)
  · obtain ⟨mm, hmm⟩ := a.fl
    exact .inr (.inr ⟨e, a.si.keep hk hS, ⟨mm, hmm.keep hk n2 n3⟩, a.zl.keep0 hk n1, hk.get a.eof (n5 0)⟩)

/-- The reader of the unpacked bytes, as ReadFull takes it. -/
theorem rdrZlib (N : Nums) (D : List UInt8) (d : Dv) (s E c0 : Nat) (z : ZN) (l : List UInt8) (hD : D.length ≤ 1073741824) (hD0 : 0 < D.length) (hok : ZOk N z) (hl0 : 0 < l.length) (hl : l.length < 32768) :
    Rdr 241 ⟨z.zb, 0, none⟩ 240 (ZI N D d s E c0 z l) (Fz N z) (OkZ N z) where
  nilA := fun w => by kernel_rfl
  meth := fun w => by kernel_rfl
  call := fun args w => by kernel_rfl
  draw := fun w R n h => h.keep ((Keep.refl Nil2 w).drewN n) (fun _ _ e => e.elim)
  ok := fun b h y => h.fz y
  read := fun w R b o n c hI hn hnR hnc room hb => by
    have key : ∀ m, R = l.drop m → m < l.length → Calls Tryz.prog 240 #[.pointer (some ⟨z.zb, 0, none⟩), .slice (some ⟨b, o, none⟩) n c] w (ZPost N D d s E c0 z l m b o n w) →
        Calls Tryz.prog 240 #[.pointer (some ⟨z.zb, 0, none⟩), .slice (some ⟨b, o, none⟩) n c] w fun e w' => ∃ k ev, 0 < k ∧ k ≤ n ∧ (ev = .nilIface ∨ k = n) ∧ e = .returned (.tuple #[.int .i64 (k : Int), ev]) ∧
          ZI N D d s E c0 z l w' (R.drop k) ∧ BytesAt w' b o (R.take k) ∧ (∀ j, w'.frozen? ⟨b, j, none⟩ = w.frozen? ⟨b, j, none⟩) ∧ Keep (fun x y => Fz N z x y ∨ (x = b ∧ o ≤ y ∧ y < o + k)) w w' := fun m hR hm hc => by
      refine hc.mono ?_
      rintro e w' ⟨k, hk, rfl, h1, h2, h3, h4, h5⟩
      rw [hR, List.length_drop] at hnR
      have hkn : k = n := by omega
      refine ⟨k, _, by omega, by omega, .inr hkn, rfl, ?_, by rw [hR]; exact h3, h4, h5⟩
      rw [hR, List.drop_drop]
      by_cases e : m + k = l.length
      · exact .inr (.inr ⟨List.drop_eq_nil_of_le (by omega), h2 e⟩)
      · exact .inr (.inl ⟨m + k, by omega, rfl, h1 (by omega)⟩)
    have hRl : n ≤ 1073741824 := by
      rcases hI with ⟨rfl, a⟩ | ⟨m, hm, rfl, a⟩ | ⟨rfl, a⟩
      · omega
      · rw [List.length_drop] at hnR; omega
      · simp at hnR; omega
    rcases hI with ⟨e, a⟩ | ⟨m, hm, e, a⟩ | ⟨e, a⟩
    · refine key 0 (by rw [e]; rfl) (by omega) (zlibRead (l := l) (m := 0) hD hok (by omega) (by omega) a.zl (by rw [List.take_zero]; exact a.ad) a.eof b o n c hn hRl hnc room hb ?_)
      refine flFirst a.si a.fl hok.o2 hok.o3 hD hD0 hl0 hl ?_ ?_ ?_ a.eof hok.e0 hok.e2 hok.e3 b o n c hn hRl room hb.b2 hb.b3 hb.s
      · rw [b8_toNat, b8_toNat]; omega
      · rw [b8_toNat, b8_toNat]; omega
      · rw [b8_toNat, b8_toNat]; omega
    · refine key m e hm (zlibRead hD hok hm (by omega) a.zl a.ad a.eof b o n c hn hRl hnc room hb ?_)
      exact flMid a.si a.fl (by rw [List.length_drop]; omega) hok.o2 hok.o3 b o n c hn hRl room hb.b2 hb.b3 hb.s
    · subst e
      simp at hnR
      omega

set_option maxHeartbeats 400000 in
/-- Read behind the end: nothing, and io.EOF. -/
theorem zlibEnd {N : Nums} {D : List UInt8} {d : Dv} {s E c0 : Nat} {z : ZN} {w : World} (h : ZDone N D d s E c0 z w) (v : Value) :
    Calls Tryz.prog 240 #[.pointer (some ⟨z.zb, 0, none⟩), v] w fun e w' => e = .returned (.tuple #[.int .i64 0, eofV z.eb]) ∧ Keep Nil2 w w' := by
  have h3 := h.zl.z3
  unfold eofV at h3 ⊢
  go_enter Tryz.func240, Tryz.ntmps240
  go_wp2
  go_quiet (fail)
  go_wp2
  go_ret2
  exact ⟨rfl, (Keep.refl Nil2 w).drewN _⟩

set_option maxHeartbeats 400000 in
theorem fltClose {w : World} {fb ub hb eb m : Nat} {rest : List UInt8} (h : Fl w fb ub hb eb m rest) (he : w.cell? ⟨0, 0, none⟩ = some (eofV eb)) :
    Calls Tryz.prog 249 #[.pointer (some ⟨fb, 0, none⟩)] w fun e w' => e = .returned .nilIface ∧ Keep Nil2 w w' := by
  obtain ⟨f, a, b, c, d', e'⟩ := h
  have h1 := a.c_err
  rw [c] at h1
  unfold eofV at h1 he
  have hq := eofEqlEof eb
  go_enter Tryz.func249, Tryz.ntmps249
  go_wp2
  go_region
  go_wp2
  go_ret
  exact ⟨rfl, (Keep.refl Nil2 w).drew⟩

set_option maxHeartbeats 400000 in
/-- Close behind the end. -/
theorem zlibClose {N : Nums} {D : List UInt8} {d : Dv} {s E c0 : Nat} {z : ZN} {w : World} (h : ZDone N D d s E c0 z w) :
    Calls Tryz.prog 239 #[.pointer (some ⟨z.zb, 0, none⟩)] w fun e w' => e = .returned .nilIface ∧ Keep (fun x _ => x = z.zb) w w' := by
  have h3 := h.zl.z3
  have h1 := h.zl.z1
  have hz := h.zl.fz
  have he := h.eof
  unfold eofV at h3 he
  have hq := eofNeqEof z.eb
  obtain ⟨m, hF⟩ := h.fl
  go_enter Tryz.func239, Tryz.ntmps239
  go_wp2
  go_region
  go_wp2_with (go_at_call 249; fail)
  have hd : Keep Nil2 w w.drew := (Keep.refl Nil2 w).drew
  refine (fltClose (hF.keep hd (fun _ e => e) (fun _ e => e)) (hd.get h.eof fun e => e)).mono ?_
  rintro e w1 ⟨rfl, hk1⟩
  have k1 := hd.trans hk1
  have g3 := k1.get h3 (fun e => e)
  have gz : ∀ j, w1.frozen? ⟨z.zb, j, none⟩ = false := fun j => k1.froz h.zl.lt (hz j) (fun e => e)
  clear hk1 h3 h1 hz he
  go_wp2
  go_ret
  exact ⟨rfl, (k1.mono fun _ _ _ e => e.elim).trans ((keep_setCell _ _ _ _).mono fun _ _ _ e => e.1)⟩
end Go.Proofs.YtnbbppjgamdfeaaGreatDoor
end
