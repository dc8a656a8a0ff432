/- laws.FnBack, part 10 of 54: D4 G1. -/
import Derived.Test.YtnbbppjgamdfeaaGreatDoorY09
import Derived.Stop.Asserts
import Derived.Test.YtnbbppjgamdfeaaGreatDoorY12

/- zlib: NewReader. -/
section
set_option linter.unusedVariables false
set_option linter.unusedSimpArgs false
namespace Go.Proofs.YtnbbppjgamdfeaaGreatDoor
open Go Go.RowKit

theorem decNot (bd : Nat) (w : World) : (Instr.typeAssert (.iface 90 (.pointer (some ⟨bd, 0, none⟩))) 68 243 true).run Tryz.prog w = .ok (.tuple #[.nilIface, .bool false]) w :=
  run_typeAssert_lacksB Tryz.underlying243 (by kernel_rfl) (by kernel_rfl) _ 68 w

/-- What NewReader leaves. -/
def ZNew (w : World) (bd rb cb db cap : Nat) (D : List UInt8) (d : Dv) (s E c0 : Nat) (l : List UInt8) (eb zb : Nat) (w' : World) : Prop :=
  ∃ z ub kb, z.zb = zb ∧ z.eb = eb ∧ ZFresh ⟨bd, rb, cb, db, cap, ub, kb⟩ D d s E c0 z l w' ∧ ZOk ⟨bd, rb, cb, db, cap, ub, kb⟩ z ∧ w.heap.size ≤ z.fb ∧ w.heap.size ≤ z.hb ∧ w.heap.size ≤ z.ab ∧ w.heap.size ≤ ub ∧ w.heap.size ≤ kb ∧
    Keep (fun x y => Fp bd rb cb x y ∨ x = zb) w w'

set_option maxHeartbeats 4000000 in
set_option maxRecDepth 100000 in
theorem zlibReset {w : World} {bd rb cb db cap : Nat} {D : List UInt8} {d : Dv} {s E c0 : Nat} {l : List UInt8} {eb zb : Nat} (hp : Png w bd rb cb db cap D { d with idat := E - s } s c0) (hD : D.length ≤ 1073741824) (hD0 : 0 < D.length) (hsE : s ≤ E) (hED : E ≤ D.length)
    (hR : (D.drop s).take (E - s) = keptB l) (hl : l.length < 32768) (heof : w.cell? ⟨0, 0, none⟩ = some (eofV eb)) (h0 : ¬ Fp bd rb cb 0 0 ∧ 0 ≠ db) (hzb : ¬ Fp bd rb cb zb 0 ∧ zb ≠ db ∧ zb ≠ 3 ∧ zb ≠ 0)
    (z0 : w.cell? ⟨zb, 0, none⟩ = some .nilIface) (z1 : w.cell? ⟨zb, 1, none⟩ = some .nilIface) (z2 : w.cell? ⟨zb, 2, none⟩ = some .nilIface) (z3 : w.cell? ⟨zb, 3, none⟩ = some .nilIface) (z4 : w.cell? ⟨zb, 4, none⟩ = some (.int .u8 0)) (z5 : w.cell? ⟨zb, 5, none⟩ = some (.int .u8 0)) (z6 : w.cell? ⟨zb, 6, none⟩ = some (.int .u8 0)) (z7 : w.cell? ⟨zb, 7, none⟩ = some (.int .u8 0))
    (hz : ∀ j, w.frozen? ⟨zb, j, none⟩ = false) :
    Calls Tryz.prog 113 #[.pointer (some ⟨zb, 0, none⟩), .iface 90 (.pointer (some ⟨bd, 0, none⟩)), .slice none 0 0] w fun e w' => e = .returned .nilIface ∧ ZNew w bd rb cb db cap D d s E c0 l eb zb w' := by
  have ha := decNot bd
  go_enter Tryz.func113, Tryz.ntmps113
  go_wp2_with (go_at_call 124; fail)
  obtain ⟨w1, hw1⟩ : ∃ w1, w1 = ((((((((w.setCell ⟨zb, 0, none⟩ .nilIface).setCell ⟨zb, 1, none⟩ .nilIface).setCell ⟨zb, 2, none⟩ .nilIface).setCell ⟨zb, 3, none⟩ .nilIface).setCell ⟨zb, 4, none⟩ (.int .u8 0)).setCell ⟨zb, 5, none⟩ (.int .u8 0)).setCell ⟨zb, 6, none⟩ (.int .u8 0)).setCell ⟨zb, 7, none⟩ (.int .u8 0)) := ⟨_, rfl⟩
  rw [← hw1]
  have k1 : Keep (fun x _ => x = zb) w w1 := by rw [hw1]; exact ((((((((((((((((Keep.refl (fun x _ => x = zb) w).setCell _ fun _ => rfl)).setCell _ fun _ => rfl)).setCell _ fun _ => rfl)).setCell _ fun _ => rfl)).setCell _ fun _ => rfl)).setCell _ fun _ => rfl)).setCell _ fun _ => rfl)).setCell _ fun _ => rfl)
  have a0 : w1.cell? ⟨zb, 0, none⟩ = some .nilIface := by rw [hw1]; go_simp
  have a1 : w1.cell? ⟨zb, 1, none⟩ = some .nilIface := by rw [hw1]; go_simp
  have a2 : w1.cell? ⟨zb, 2, none⟩ = some .nilIface := by rw [hw1]; go_simp
  have a3 : w1.cell? ⟨zb, 3, none⟩ = some .nilIface := by rw [hw1]; go_simp
  have az : ∀ j, w1.frozen? ⟨zb, j, none⟩ = false := fun j => by rw [hw1]; simp [hz j]
  have asc : RoomAt w1 zb 4 4 := fun j hj => by
    refine ⟨⟨.int .u8 0, ?_⟩, az _⟩
    rw [hw1]
    match j, hj with
    | 0, _ => go_simp
    | 1, _ => go_simp
    | 2, _ => go_simp
    | 3, _ => go_simp
  have hzlt : zb < w.heap.size := World.block_lt_of_cell? w _ z0
  clear hw1 z0 z1 z2 z3 z4 z5 z6 z7 hz
  refine (bufNew w1 bd).mono ?_
  rintro e w2 ⟨ub, kb, rfl, hub, hkb, hB, k2⟩
  have hubw : w.heap.size ≤ ub := by have := k1.size; omega
  have hkbw : w.heap.size ≤ kb := by have := k1.size; omega
  have b0 := k2.get a0 (fun e => e)
  have b1 := k2.get a1 (fun e => e)
  have b2 := k2.get a2 (fun e => e)
  have b3 := k2.get a3 (fun e => e)
  have bz : ∀ j, w2.frozen? ⟨zb, j, none⟩ = false := fun j => k2.froz (by have := k1.size; omega) (az j) (fun e => e)
  have bsc := asc.keep k2 fun _ _ e => e
  clear a0 a1 a2 a3 az asc
  have l1 := hp.dec.lt
  have l2 := World.block_lt_of_cell? w _ hp.br.cs
  have l3 := World.block_lt_of_cell? w _ hp.crc.cell
  have l4 := hp.br.data.lt hD0
  have l5 := World.block_lt_of_cell? w _ (hp.tab 0 (by decide))
  simp only at l2 l3 l5
  have newOk : ∀ g, w.heap.size ≤ g → ¬ Fp bd rb cb g 0 ∧ g ≠ db ∧ g ≠ 3 := fun g hg => ⟨fun e => by rcases e with e | e | e <;> omega, by omega, by omega⟩
  obtain ⟨N, hN⟩ : ∃ N : Nums, N = ⟨bd, rb, cb, db, cap, ub, kb⟩ := ⟨_, rfl⟩
  have hp2 : Png w2 bd rb cb db cap D { d with idat := E - s } s c0 := by
    refine hp.keep0 (k1.trans (k2.mono fun _ _ _ e => e.elim)) ?_ ?_ ?_ ?_ ?_
    · exact fun _ e => hzb.1 (.inl e.symm)
    · exact fun _ e => hzb.1 (.inr (.inl e.symm))
    · exact fun _ e => hzb.1 (.inr (.inr e.symm))
    · exact fun _ e => hzb.2.1 e.symm
    · exact fun _ e => hzb.2.2.1 e.symm
  have hst : Strm N D d s E c0 w2 (keptB l) s 0 0 [] := by
    rw [hN]
    refine ⟨by rw [Nat.sub_self, List.take_zero]; exact hp2, hB, Nat.le_refl _, hsE, hED, by rw [← hR]; rfl, newOk ub hubw, newOk kb hkbw⟩
  have hoz : OkS N zb := by
    rw [hN]
    exact ⟨⟨hzb.1, hzb.2.1, hzb.2.2.1⟩, by show zb ≠ ub; omega, by show zb ≠ kb; omega⟩
  have hS2 : SI N D d s E c0 w2 (keptB l) := ⟨_, _, _, _, hst⟩
  have hub2 : N.ub = ub := by rw [hN]
  have k3 : Keep (fun x _ => x = zb) w2 (w2.setCell ⟨zb, 0, none⟩ (.iface 252 (.pointer (some ⟨ub, 0, none⟩)))) := (keep_setCell _ _ _ _).mono fun _ _ _ e => e.1
  obtain ⟨w3, hw3⟩ : ∃ w3, w3 = w2.setCell ⟨zb, 0, none⟩ (.iface 252 (.pointer (some ⟨ub, 0, none⟩))) := ⟨_, rfl⟩
  have c0' : w3.cell? ⟨zb, 0, none⟩ = some (.iface 252 (.pointer (some ⟨ub, 0, none⟩))) := by rw [hw3]; exact World.cell?_setCell_same _ _ _ b0
  have c1 : w3.cell? ⟨zb, 1, none⟩ = some .nilIface := by rw [hw3]; exact setF b1 (by decide)
  have c2 : w3.cell? ⟨zb, 2, none⟩ = some .nilIface := by rw [hw3]; exact setF b2 (by decide)
  have c3 : w3.cell? ⟨zb, 3, none⟩ = some .nilIface := by rw [hw3]; exact setF b3 (by decide)
  have cz : ∀ j, w3.frozen? ⟨zb, j, none⟩ = false := fun j => by rw [hw3, World.frozen?_setCell]; exact bz j
  have csc : RoomAt w3 zb 4 4 := by rw [hw3]; exact bsc.keep (keep_setCell _ _ _ _) fun _ _ e => by omega
  rw [← hw3] at k3
  have hS3 := SI.keep hS2 k3 fun x _ e => e ▸ hoz
  have heof3 := k3.get (k2.get (k1.get heof (fun e => hzb.2.2.2 e.symm)) fun e => e) (fun e => hzb.2.2.2 e.symm)
  have hubl3 : ub < w3.heap.size := by have := hB.lt; have := k3.size; omega
  have hkbl3 : kb < w3.heap.size := by have := hB.room.lt (by decide); have := k3.size; omega
  have HW3 := Lib.hid hw3
  have HK := Lib.hid ((k1.trans (k2.mono fun _ _ _ e => e.elim)).trans k3)
  have HP := Lib.hid hp
  have HNEW := Lib.hid newOk
  have HN := Lib.hid hN
  clear hp2 hst hS2 hw3 k1 k2 k3 hp hB l1 l2 l3 l4 l5 newOk hR heof
  go_wp2
  rw [← HW3.out]
  have hrd : Calls Tryz.prog 53 #[.iface 252 (.pointer (some ⟨ub, 0, none⟩)), .slice (some ⟨zb, 4, none⟩) 2 4] (w3.drewN 1) fun e w' => ∃ w4, e = .returned (.tuple #[.int .i64 2, .nilIface]) ∧ w' = w4 ∧ SI N D d s E c0 w4 ((keptB l).drop 2) ∧ BytesAt w4 zb 4 [0x78, 1] ∧ (∀ j, w4.frozen? ⟨zb, j, none⟩ = w3.frozen? ⟨zb, j, none⟩) ∧ Keep (fun x y => Fs N x y ∨ (x = zb ∧ 4 ≤ y ∧ y < 4 + 2)) w3 w4 := by
    have := readFull (rdrBuf N D d s E c0 hD) (w3.drewN 1) (keptB l) zb 4 2 4 (hS3.drewN 1) (by simp [keptB]) (by omega) ((csc.keep ((Keep.refl Nil2 w3).drewN 1) fun _ _ e => e).sub 0 2 (by omega)) hoz (by omega)
    rw [hub2] at this
    refine this.mono ?_
    rintro e w' ⟨rfl, h1, h2, h3, h4⟩
    exact ⟨w', rfl, rfl, h1, h2, h3, ((Keep.refl _ w3).drewN 1).trans h4⟩
  have hnz : ∀ x y, x = zb → y < 4 → ¬ (Fs N x y ∨ (x = zb ∧ 4 ≤ y ∧ y < 4 + 2)) := fun x y hx hy e => e.elim (fun e => hoz.ok y (hx ▸ e)) fun e => by omega
  have HNZ := Lib.hid hnz
  clear hnz
  go_region_held3 (fun w' => w'.cell? ⟨zb, 0, none⟩ = some (.iface 252 (.pointer (some ⟨ub, 0, none⟩))))
    (first | go_keep | exact hk4.get c0' (HNZ.out zb 0 rfl (by omega)) | exact setF (hk4.get c0' (HNZ.out zb 0 rfl (by omega))) (by decide))
    (first | (go_at_call 53; refine hrd.mono ?_; rintro e w' ⟨w4, rfl, rfl, hS4, hb4, hz4, hk4⟩; have d3 := hk4.get c3 (HNZ.out zb 3 rfl (by omega)); have dz : ∀ j, w'.frozen? ⟨zb, j, none⟩ = false := fun j => (hz4 j).trans (cz j)))
  have k5 : Keep (fun x y => Fs N x y ∨ (x = zb ∧ 3 ≤ y)) w3 (w'.setCell ⟨zb, 3, none⟩ .nilIface) :=
    (hk4.mono fun x y _ e => e.imp id fun e => ⟨e.1, by omega⟩).trans ((keep_setCell _ _ _ _).mono fun x y _ e => .inr ⟨e.1, by omega⟩)
  obtain ⟨w5, hw5⟩ : ∃ w5, w5 = w'.setCell ⟨zb, 3, none⟩ .nilIface := ⟨_, rfl⟩
  have e3 : w5.cell? ⟨zb, 3, none⟩ = some .nilIface := by rw [hw5]; exact World.cell?_setCell_same _ _ _ d3
  have k45 : Keep (fun x y => x = zb ∧ y = 3) w' w5 := by rw [hw5]; exact keep_setCell _ _ _ _
  rw [← hw5] at k5
  have hnz5 : ∀ y, y < 3 → ¬ (Fs N zb y ∨ (zb = zb ∧ 3 ≤ y)) := fun y hy e => e.elim (hoz.ok y) fun e => by omega
  have e0 := k5.get c0' (hnz5 0 (by omega))
  have e1 := k5.get c1 (hnz5 1 (by omega))
  have e2 := k5.get c2 (hnz5 2 (by omega))
  have ez : ∀ j, w5.frozen? ⟨zb, j, none⟩ = false := fun j => by rw [hw5, World.frozen?_setCell]; exact dz j
  have eb5 : BytesAt w5 zb 4 [0x78, 1] := hb4.keep k45 fun i _ e => by omega
  have q4 := eb5 0 (by simp)
  have q5 := eb5 1 (by simp)
  simp only [List.getElem_cons_zero, List.getElem_cons_succ, Nat.add_zero] at q4 q5
  rw [show ((0x78 : UInt8).toNat : Int) = 120 from rfl] at q4
  rw [show ((1 : UInt8).toNat : Int) = 1 from rfl] at q5
  have esc : RoomAt w5 zb 4 4 := (csc.after (l := [0x78, 1]) hk4 (fun y e => e.elim (fun e => (hoz.ok y e).elim) fun e => e.2) hb4 hz4).keep k45 fun j _ e => by omega
  have hS5 := SI.keep hS4 k45 fun x _ e => e.1 ▸ hoz
  have heof5 := k5.get heof3 (fun e => e.elim (fun e => by rw [HN.out] at e; rcases e with e | e | e | e | e; exact h0.1 (.inl e); exact h0.1 (.inr (.inl e)); exact h0.1 (.inr (.inr e)); (have : 0 = ub := e; omega); (have : 0 = kb := e; omega)) fun e => hzb.2.2.2 e.1.symm)
  have hu := zU16 (w := w5.drewN 1) zb 4 2 4 (by omega) (eb5.drewN 1)
  have m1 : bits BinOp.and IntKind.u8 120 15 = 8 := by decide
  have m2 : bits BinOp.and IntKind.u8 1 32 = 0 := by decide
  have K5 := Lib.hid k5
  have HS5 := Lib.hid hS5
  rw [← hw5]
  clear k5 k45 hnz5 hw5 d3 dz hb4 hz4 hS4 hk4 c0' c1 c2 c3 cz csc hrd hS3 heof3 eb5 hS5 HNZ
  go_wp2
  go_region_with (refine hu.mono ?_; rintro e w6 ⟨rfl, hk6⟩)
  have k6 : Keep Nil2 w5 w6 := ((Keep.refl Nil2 w5).drewN 1).trans hk6
  have f0 := k6.get e0 (fun e => e)
  have f1 := k6.get e1 (fun e => e)
  have f2 := k6.get e2 (fun e => e)
  have f3 := k6.get e3 (fun e => e)
  have f4 := k6.get q4 (fun e => e)
  have f5 := k6.get q5 (fun e => e)
  have zlt5 : zb < w5.heap.size := World.block_lt_of_cell? w5 _ e0
  have fz : ∀ j, w6.frozen? ⟨zb, j, none⟩ = false := fun j => k6.froz zlt5 (ez j) (fun e => e)
  have K6 := Lib.hid k6
  clear k6 hk6 hu e0 e1 e2 e3 q4 q5 ez
  go_wp2_with (go_at_call 129; fail)
  refine (fltNew w6 ub).mono ?_
  rintro e w7 ⟨fb, hb, rfl, hfb, hhb, hF7, k7⟩
  have g0 := k7.get f0 (fun e => e)
  have g1 := k7.get f1 (fun e => e)
  have g2 := k7.get f2 (fun e => e)
  have g3 := k7.get f3 (fun e => e)
  have zlt6 : zb < w6.heap.size := World.block_lt_of_cell? w6 _ f0
  have gz : ∀ j, w7.frozen? ⟨zb, j, none⟩ = false := fun j => k7.froz zlt6 (fz j) (fun e => e)
  have K7 := Lib.hid k7
  have HF7 := Lib.hid hF7
  clear k7 hF7 f0 f1 f2 f3 f4 f5 fz
  go_wp2_with (go_at_call 130; fail)
  obtain ⟨w8, hw8⟩ : ∃ w8, w8 = w7.setCell ⟨zb, 1, none⟩ (.iface 280 (.pointer (some ⟨fb, 0, none⟩))) := ⟨_, rfl⟩
  rw [← hw8]
  have k8 : Keep (fun x _ => x = zb) w7 w8 := by rw [hw8]; exact (keep_setCell _ _ _ _).mono fun _ _ _ e => e.1
  have i0 : w8.cell? ⟨zb, 0, none⟩ = some (.iface 252 (.pointer (some ⟨ub, 0, none⟩))) := by rw [hw8]; exact setF g0 (by decide)
  have i1 : w8.cell? ⟨zb, 1, none⟩ = some (.iface 280 (.pointer (some ⟨fb, 0, none⟩))) := by rw [hw8]; exact World.cell?_setCell_same _ _ _ g1
  have i2 : w8.cell? ⟨zb, 2, none⟩ = some .nilIface := by rw [hw8]; exact setF g2 (by decide)
  have i3 : w8.cell? ⟨zb, 3, none⟩ = some .nilIface := by rw [hw8]; exact setF g3 (by decide)
  have iz : ∀ j, w8.frozen? ⟨zb, j, none⟩ = false := fun j => by rw [hw8, World.frozen?_setCell]; exact gz j
  have isc : RoomAt w8 zb 4 4 := by
    rw [hw8]
    exact (((esc.keep K6.out fun _ _ e => e).keep K7.out fun _ _ e => e)).keep (keep_setCell _ _ _ _) fun _ _ e => by omega
  refine (adNew w8).mono ?_
  rintro e w9 ⟨rfl, hA9, k9⟩
  obtain ⟨ab, hab⟩ : ∃ ab, ab = w8.heap.size := ⟨_, rfl⟩
  rw [← hab] at hA9 ⊢
  have zlt8 : zb < w8.heap.size := World.block_lt_of_cell? w8 _ i0
  have j0 := k9.get i0 (fun e => e)
  have j1 := k9.get i1 (fun e => e)
  have j2 := k9.get i2 (fun e => e)
  have j3 := k9.get i3 (fun e => e)
  have jz : ∀ j, w9.frozen? ⟨zb, j, none⟩ = false := fun j => k9.froz zlt8 (iz j) (fun e => e)
  have jsc := isc.keep k9 fun _ _ e => e
  have hszA : w.heap.size ≤ w5.heap.size := Nat.le_trans HK.out.size K5.out.size
  have hszB : w5.heap.size ≤ w8.heap.size := Nat.le_trans (Nat.le_trans K6.out.size K7.out.size) k8.size
  have hwfb : w.heap.size ≤ fb := by have := K6.out.size; omega
  have hwhb : w.heap.size ≤ hb := by have := K6.out.size; omega
  have hwab : w.heap.size ≤ ab := by omega
  have hS8 : SI N D d s E c0 w8 ((keptB l).drop 2) := SI.keep (SI.keep (SI.keep HS5.out K6.out fun _ _ e => e.elim) K7.out fun _ _ e => e.elim) k8 fun x _ e => e ▸ hoz
  have heof8 := k8.get (K7.out.get (K6.out.get heof5 fun e => e) fun e => e) (fun e => hzb.2.2.2 e.symm)
  have hF8 := HF7.out.keep0 k8 (fun _ e => by omega) (fun _ e => by omega)
  have fblt : fb < w7.heap.size := HF7.out.lt
  have hblt : hb < w7.heap.size := HF7.out.room.lt (by decide)
  have K8 := Lib.hid k8
  have K9 := Lib.hid k9
  have H8 := Lib.hid (And.intro hS8 (And.intro heof8 hF8))
  have HA := Lib.hid hA9
  have fbne := HF7.out.ne
  have HAB := Lib.hid hab
  clear hS8 heof8 hF8 k8 k9 hw8 g0 g1 g2 g3 gz i0 i1 i2 i3 iz isc hA9 esc heof5 hab
  go_wp2
  go_ret
  have k10 : Keep (fun x _ => x = zb) w9 (w9.setCell ⟨zb, 2, none⟩ (.iface 282 (.pointer (some ⟨ab, 0, none⟩)))) := (keep_setCell _ _ _ _).mono fun _ _ _ e => e.1
  have abz : ab ≠ zb := by have := HAB.out; omega
  have new := fun g (hg : w.heap.size ≤ g) => HNEW.out g hg
  have okN : ∀ g, w.heap.size ≤ g → g ≠ ub → g ≠ kb → OkS N g := fun g hg h1 h2 => by rw [HN.out]; exact ⟨new g hg, h1, h2⟩
  have fbz : fb ≠ zb := by omega
  have hbz : hb ≠ zb := by omega
  have hd2 : (keptB l).drop 2 = 0 :: b8 l.length :: b8 (l.length / 256) :: b8 (65535 - l.length) :: b8 ((65535 - l.length) / 256) :: (l ++ (3 :: 0 :: four (adOf l))) := by simp [keptB]
  have hs5 := K5.out.size
  have hs6 := K6.out.size
  have hs7 := K7.out.size
  refine ⟨rfl, ⟨zb, fb, hb, ab, eb⟩, ub, kb, rfl, rfl, ⟨?_, ?_, ?_, ⟨?_, ?_, ?_, ?_, ?_, ?_⟩, ?_⟩, ⟨?_, ?_, ?_, ?_, ?_, ?_, ?_, ?_, ?_, ?_, ?_, ?_, ?_, ?_, ?_⟩, hwfb, hwhb, hwab, hubw, hkbw, ?_⟩
  · rw [← HN.out]
    have := SI.keep (SI.keep H8.out.1 K9.out fun _ _ e => e.elim) k10 fun x _ e => e ▸ hoz
    rw [hd2] at this
    exact this
  · exact (H8.out.2.2.keep0 K9.out (fun _ e => e) (fun _ e => e)).keep0 k10 (fun _ e => fbz e) (fun _ e => hbz e)
  · exact HA.out.keep k10 fun _ e => abz e
  · exact setF j0 (by decide)
  · exact setF j1 (by decide)
  · exact World.cell?_setCell_same _ _ _ j2
  · exact setF j3 (by decide)
  · exact jsc.keep (keep_setCell _ _ _ _) fun _ _ e => by omega
  · exact fun j => by rw [World.frozen?_setCell]; exact jz j
  · exact k10.get (K9.out.get H8.out.2.1 fun e => e) fun e => hzb.2.2.2 e.symm
  · rw [← HN.out]; exact hoz
  · rw [← HN.out]; exact okN fb hwfb (by omega) (by omega)
  · rw [← HN.out]; exact okN hb hwhb (by omega) (by omega)
  · rw [← HN.out]; exact okN ab hwab (by have := HAB.out; omega) (by have := HAB.out; omega)
  · exact fun e => fbz e.symm
  · exact fun e => hbz e.symm
  · exact fun e => abz e.symm
  · exact fbne
  · show fb ≠ ab
    have := HAB.out; have := K8.out.size; omega
  · show hb ≠ ab
    have := HAB.out; have := K8.out.size; omega
  · exact ⟨⟨h0.1, h0.2, by decide⟩, by show 0 ≠ ub; omega, by show 0 ≠ kb; omega⟩
  · exact hzb.2.2.2
  · show fb ≠ 0
    omega
  · show hb ≠ 0
    omega
  · show ab ≠ 0
    omega
  · have kA : Keep (fun x y => Fp bd rb cb x y ∨ x = zb) w w5 := (HK.out.mono fun _ _ _ e => .inr e).then K5.out (fun _ _ _ e => e) fun x y hx e => e.elim (fun e => by
      rw [HN.out] at e
      rcases e with e | e | e | e | e
      · exact .inl (.inl e)
      · exact .inl (.inr (.inl e))
      · exact .inl (.inr (.inr e))
      · exact absurd hx (by have : x = ub := e; omega)
      · exact absurd hx (by have : x = kb := e; omega)) fun e => .inr e.1
    exact ((((kA.trans (K6.out.mono fun _ _ _ e => e.elim)).trans (K7.out.mono fun _ _ _ e => e.elim)).trans (K8.out.mono fun _ _ _ e => .inr e)).trans (K9.out.mono fun _ _ _ e => e.elim)).trans (k10.mono fun _ _ _ e => .inr e)

set_option maxHeartbeats 1000000 in
set_option maxRecDepth 100000 in
theorem zlibDict {w : World} {bd rb cb db cap : Nat} {D : List UInt8} {d : Dv} {s E c0 : Nat} {l : List UInt8} {eb : Nat} (hp : Png w bd rb cb db cap D { d with idat := E - s } s c0) (hD : D.length ≤ 1073741824) (hD0 : 0 < D.length) (hsE : s ≤ E) (hED : E ≤ D.length)
    (hR : (D.drop s).take (E - s) = keptB l) (hl : l.length < 32768) (heof : w.cell? ⟨0, 0, none⟩ = some (eofV eb)) (h0 : ¬ Fp bd rb cb 0 0 ∧ 0 ≠ db) :
    Calls Tryz.prog 96 #[.iface 90 (.pointer (some ⟨bd, 0, none⟩)), .slice none 0 0] w fun e w' => ∃ zb, e = .returned (.tuple #[.iface 241 (.pointer (some ⟨zb, 0, none⟩)), .nilIface]) ∧ w.heap.size ≤ zb ∧ ∃ w1, Keep Nil2 w w1 ∧ ZNew w1 bd rb cb db cap D d s E c0 l eb zb w' := by
  have hh := heap_alloc_new w (.cells #[.nilIface, .nilIface, .nilIface, .nilIface, .int .u8 0, .int .u8 0, .int .u8 0, .int .u8 0] 247)
  have c : ∀ j, (w.alloc (.cells #[.nilIface, .nilIface, .nilIface, .nilIface, .int .u8 0, .int .u8 0, .int .u8 0, .int .u8 0] 247)).cell? ⟨w.heap.size, j, none⟩ = (#[.nilIface, .nilIface, .nilIface, .nilIface, .int .u8 0, .int .u8 0, .int .u8 0, .int .u8 0] : Array Value)[j]? := fun j => cell_of_row _ _ _ _ _ _ hh
  have f : ∀ j, (w.alloc (.cells #[.nilIface, .nilIface, .nilIface, .nilIface, .int .u8 0, .int .u8 0, .int .u8 0, .int .u8 0] 247)).frozen? ⟨w.heap.size, j, none⟩ = false := fun j => frozen_of_row _ _ _ _ _ hh
  have k : Keep Nil2 w (w.alloc (.cells #[.nilIface, .nilIface, .nilIface, .nilIface, .int .u8 0, .int .u8 0, .int .u8 0, .int .u8 0] 247)) := (Keep.refl Nil2 w).alloc _
  have hpw := hp.keep0 k (fun _ e => e) (fun _ e => e) (fun _ e => e) (fun _ e => e) (fun _ e => e)
  have l1 := hp.dec.lt
  have l2 := World.block_lt_of_cell? w _ hp.br.cs
  have l3 := World.block_lt_of_cell? w _ hp.crc.cell
  have l4 := hp.br.data.lt hD0
  have l5 := World.block_lt_of_cell? w _ (hp.tab 0 (by decide))
  have l6 := World.block_lt_of_cell? w _ heof
  simp only at l2 l3 l5 l6
  have HR := Lib.hid (zlibReset (zb := w.heap.size) hpw hD hD0 hsE hED hR hl (k.get heof fun e => e) h0 ⟨fun e => by rcases e with e | e | e <;> omega, by omega, by omega, by omega⟩ (c 0) (c 1) (c 2) (c 3) (c 4) (c 5) (c 6) (c 7) f)
  clear hh c f hpw l1 l2 l3 l4 l5 l6
  go_enter Tryz.func96, Tryz.ntmps96
  go_wp2_with (go_at_call 113; fail)
  refine HR.out.mono ?_
  rintro e w2 ⟨rfl, hN⟩
  go_wp2
  go_ret2
  exact ⟨_, rfl, Nat.le_refl _, _, k, hN⟩

set_option maxHeartbeats 1000000 in
set_option maxRecDepth 100000 in
/-- NewReader over the decoder, which stands at the packed bytes. -/
theorem zlibNew {w : World} {bd rb cb db cap : Nat} {D : List UInt8} {d : Dv} {s E c0 : Nat} {l : List UInt8} {eb : Nat} (hp : Png w bd rb cb db cap D { d with idat := E - s } s c0) (hD : D.length ≤ 1073741824) (hD0 : 0 < D.length) (hsE : s ≤ E) (hED : E ≤ D.length)
    (hR : (D.drop s).take (E - s) = keptB l) (hl : l.length < 32768) (heof : w.cell? ⟨0, 0, none⟩ = some (eofV eb)) (h0 : ¬ Fp bd rb cb 0 0 ∧ 0 ≠ db) :
    Calls Tryz.prog 92 #[.iface 90 (.pointer (some ⟨bd, 0, none⟩))] w fun e w' => ∃ z ub kb, e = .returned (.tuple #[.iface 241 (.pointer (some ⟨z.zb, 0, none⟩)), .nilIface]) ∧ z.eb = eb ∧
      ZFresh ⟨bd, rb, cb, db, cap, ub, kb⟩ D d s E c0 z l w' ∧ ZOk ⟨bd, rb, cb, db, cap, ub, kb⟩ z ∧ w.heap.size ≤ z.zb ∧ w.heap.size ≤ z.fb ∧ w.heap.size ≤ z.hb ∧ w.heap.size ≤ z.ab ∧ w.heap.size ≤ ub ∧ w.heap.size ≤ kb ∧ Keep (Fp bd rb cb) w w' := by
  go_enter Tryz.func92, Tryz.ntmps92
  go_wp2_with (go_at_call 96; fail)
  refine (zlibDict hp hD hD0 hsE hED hR hl heof h0).mono ?_
  rintro e w2 ⟨zb, rfl, hzb, w1, hk, z, ub, kb, rfl, hz2, hz3, hz4, hz5, hz6, hz7, hz8, hz9, hz10⟩
  have hs := hk.size
  go_wp2
  go_ret2
  exact ⟨z, ub, kb, rfl, hz2, hz3, hz4, hzb, by omega, by omega, by omega, by omega, by omega, hk.then hz10 (fun _ _ _ e => e.elim) fun x _ hx e => e.elim id fun e => absurd hx (by omega)⟩
end Go.Proofs.YtnbbppjgamdfeaaGreatDoor
end

/- The reader of the unpacked bytes, as readImagePass takes it. -/
section
set_option linter.unusedVariables false
set_option linter.unusedSimpArgs false
namespace Go.Proofs.YtnbbppjgamdfeaaGreatDoor
open Go Go.RowKit

theorem RoomAt.lt' {w : World} {b o n : Nat} (h : RoomAt w b o n) (hn : 0 < n) : b < w.heap.size := h.lt hn
/-- A block that is new is none of the unpacking's. -/
theorem ZFresh.new {N : Nums} {D : List UInt8} {d : Dv} {s E c0 : Nat} {z : ZN} {l : List UInt8} {W : World} (h : ZFresh N D d s E c0 z l W) (hD0 : 0 < D.length) (b : Nat) (hb : W.heap.size ≤ b) : OkZ N z b := by
  obtain ⟨i, r, v, U, hS⟩ := h.si
  have e1 := hS.png.dec.lt
  have e2 : N.rb < W.heap.size := World.block_lt_of_cell? W _ hS.png.br.cs
  have e3 : N.cb < W.heap.size := World.block_lt_of_cell? W _ hS.png.crc.cell
  have e4 : N.db < W.heap.size := hS.png.br.data.lt hD0
  have e5 := hS.buf.lt
  have e6 : N.kb < W.heap.size := hS.buf.room.lt (by omega)
  have e7 : 3 < W.heap.size := World.block_lt_of_cell? W _ (hS.png.tab 0 (by omega))
  have e8 := h.zl.lt
  have e9 := h.fl.lt
  have e10 : z.hb < W.heap.size := h.fl.room.lt (by omega)
  have e11 : z.ab < W.heap.size := World.block_lt_of_cell? W _ h.ad.cell
  have e12 : 0 < W.heap.size := World.block_lt_of_cell? W _ h.eof
  refine ⟨⟨⟨fun e => ?_, by omega, by omega⟩, by omega, by omega⟩, by omega, by omega, by omega, by omega, by omega⟩
  rcases e with e | e | e <;> omega

theorem ZI.si {N : Nums} {D : List UInt8} {d : Dv} {s E c0 : Nat} {z : ZN} {l R : List UInt8} {w : World} (h : ZI N D d s E c0 z l w R) : ∃ R', SI N D d s E c0 w R' := by
  rcases h with ⟨_, a⟩ | ⟨m, _, _, a⟩ | ⟨_, a⟩
  · exact ⟨_, a.si⟩
  · exact ⟨_, a.si⟩
  · exact ⟨_, a.si⟩

theorem ripRdZ {N : Nums} {D : List UInt8} {d : Dv} {s E c0 : Nat} {z : ZN} {l : List UInt8} {W : World} (h : ZFresh N D d s E c0 z l W) (hD : D.length ≤ 1073741824) (hD0 : 0 < D.length) (hok : ZOk N z) (hl0 : 0 < l.length) (hl : l.length < 32768) :
    RipRd 241 ⟨z.zb, 0, none⟩ 240 (ZI N D d s E c0 z l) (Fz N z) (OkZ N z) N.bd N.rb N.cb d W where
  rd := rdrZlib N D d s E c0 z l hD hD0 hok hl0 hl
  dec := fun w R hI => by
    obtain ⟨R', i, r, v, U, hS⟩ := hI.si
    exact ⟨_, hS.png.dec⟩
  new := fun b hb => h.new hD0 b hb
  keep := fun F w w' R hI hk hF => hI.keep hk fun x y e => h.new hD0 x (hF x y e)
end Go.Proofs.YtnbbppjgamdfeaaGreatDoor
end
