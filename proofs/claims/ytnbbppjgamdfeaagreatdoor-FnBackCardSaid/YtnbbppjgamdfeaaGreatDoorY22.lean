/- laws.FnBack, part 22 of 54: F0. -/
import Derived.Test.YtnbbppjgamdfeaaGreatDoorY12
import Derived.Test.YtnbbppjgamdfeaaGreatDoorY13

/- readImagePass: one kind of pixels (printed by gen_e4.py). -/
section
set_option linter.unusedVariables false
set_option linter.unusedSimpArgs false
namespace Go.Proofs.YtnbbppjgamdfeaaGreatDoor
open Go Go.RowKit

set_option maxRecDepth 100000 in
set_option maxHeartbeats 8000000 in
theorem ripTC8 {t : TypeId} {ra : Addr} {f : FuncId} {I : World → List UInt8 → Prop} {FR : Nat → Nat → Prop} {Ok : Nat → Prop} {bd rb cb : Nat} {d : Dv} {W : World} (hr : RipRd t ra f I FR Ok bd rb cb d W) (wd ht : Nat) (hw : wd ≤ 60) (hh : ht ≤ 60) (hw0 : 0 < wd) (hh0 : 0 < ht)
    (hdw : d.width = (wd : Int)) (hdh : d.height = (ht : Int)) (hcb : d.cb = 6) (hdep : d.depth = 8) (hlc : d.lace = 0) (hut : d.useT = false) (R : List UInt8) (hI : I W R) (hlen : R.length = ht * (1 + 3 * wd)) (hft : ∀ y, y < ht → R.getD (y * (1 + 3 * wd)) 0 = 0) :
    Calls Tryz.prog 93 #[.pointer (some ⟨bd, 0, none⟩), .iface t (.pointer (some ra)), .int .i64 0, .bool false] W fun e w' => ∃ ib pb, e = .returned (.tuple #[.iface 117 (.pointer (some ⟨ib, 0, none⟩)), .nilIface]) ∧
      ImgAt w' ib pb (4 * wd * ht) (4 * wd) wd ht ∧ PixRows w' pb (4 * wd) ht (fun y k => if k % 4 < 3 then rowAt R (3 * wd) y (3 * (k / 4) + k % 4) else 255) ∧ I w' [] ∧ W.heap.size ≤ ib ∧ W.heap.size ≤ pb ∧ Keep FR W w' := by
  obtain ⟨q, hdec⟩ := hr.dec W R hI
  have f3 := hdec.f3
  have f4 := hdec.f4
  have f5 := hdec.f5
  have f7 := hdec.f7
  have fl := hdec.fl
  have ft := hdec.ft
  simp only [hdw] at f3
  simp only [hdh] at f4
  simp only [hdep] at f5
  simp only [hcb] at f7
  simp only [hlc] at fl
  simp only [hut] at ft
  obtain ⟨st, hst⟩ : ∃ st, st = 4 * wd := ⟨_, rfl⟩
  obtain ⟨rl, hrl⟩ : ∃ rl, rl = 3 * wd := ⟨_, rfl⟩
  obtain ⟨nn, hnn⟩ : ∃ nn, nn = 4 * wd * ht := ⟨_, rfl⟩
  obtain ⟨rs, hrs⟩ : ∃ rs, rs = 1 + rl := ⟨_, rfl⟩
  have hnst : nn = st * ht := by rw [hnn, hst]
  have hnl : nn ≤ 28800 := by
    rw [hnn]; exact Nat.mul_le_mul (show 4 * wd ≤ 480 by omega) hh
  rw [← hrl, ← hrs] at hlen hft
  have e8 : (24 * (wd : Int) + 7) / 8 = (rl : Int) := by omega
  have e9 : (1 : Int) + (rl : Int) = (rs : Int) := by omega
  have e10 : IntKind.i64.wrap (rs : Int) = (rs : Int) := IntWalk.i64_in _ (by omega)
  have hmk := fun W => makeBytes_eq W .i64 .i64 rs (by omega)
  have hw480 : rl ≤ 480 := by omega
  have HRS := Lib.hid hrs
  have HRL := Lib.hid hrl
  have HST := Lib.hid hst
  have HNN := Lib.hid hnn
  have HNST := Lib.hid hnst
  clear hrs hrl hst hnn hnst
  go_enter Tryz.func93, Tryz.ntmps93
  go_wp2
  go_quiet (fail)
  have hk0 : Keep Nil2 W (W.drewN nq) := (Keep.refl Nil2 W).drewN nq
  obtain ⟨w0, hw0'⟩ : ∃ w0, w0 = W.drewN nq := ⟨_, rfl⟩
  have HW0 := Lib.hid hw0'
  clear hw0'
  go_wp2_with (go_at_call 98; fail)
  refine (imgRect _ wd ht).mono ?_
  rintro e w1 ⟨rfl, hk1⟩
  go_wp2_with (go_at_call 100; fail)
  refine (imgNewRGBA w1 wd ht hw hh).mono ?_
  rintro e w2 ⟨ib, pb, rfl, hib, hpb, hImg, hk2⟩
  rw [← HNN.out, ← HST.out] at hImg
  go_wp2
  obtain ⟨w3, hw3⟩ : ∃ w3, w3 = (w2.alloc (.cells (madeCells #[.int .u8 0] rs) 5)).alloc (.cells (madeCells #[.int .u8 0] rs) 5) := ⟨_, rfl⟩
  rw [← hw3]
  have r1 : RoomAt (w2.alloc (.cells (madeCells #[.int .u8 0] rs) 5)) w2.heap.size 0 rs := madeBytes w2 rs
  have r2 : RoomAt w3 (w2.heap.size + 1) 0 rs := by rw [hw3]; have := madeBytes (w2.alloc (.cells (madeCells #[.int .u8 0] rs) 5)) rs; simpa using this
  have hk3 : Keep Nil2 w2 w3 := by rw [hw3]; exact ((Keep.refl Nil2 w2).alloc _).alloc _
  have r1' : RoomAt w3 w2.heap.size 0 rs := by rw [hw3]; exact r1.keep ((Keep.refl Nil2 _).alloc _) fun _ _ e => e
  have hk01 : Keep Nil2 W w1 := hk0.trans hk1
  have hk02 : Keep Nil2 W w2 := hk01.trans hk2
  have hkW : Keep Nil2 W w3 := hk02.trans hk3
  have hI3 : I w3 R := hr.keep _ _ _ _ hI hkW fun _ _ e => e.elim
  have hImg3 := hImg.keep hk3 (fun _ e => e) (fun _ e => e)
  have hib2 := hImg.lt
  have hpb2 : pb < w2.heap.size := hImg.room.lt (by rw [HNST.out, HST.out]; exact Nat.mul_pos (Nat.mul_pos (by omega) hw0) hh0)
  have hsz1 := hk01.size
  have hsz2 := hk02.size
  have hWb : RipW I FR W R ib pb nn st wd ht w2.heap.size (w2.heap.size + 1) rs 0 (fun y k => if k % 4 < 3 then rowAt R (3 * wd) y (3 * (k / 4) + k % 4) else 255) w3 :=
    ⟨by rw [Nat.zero_mul]; exact hI3, hImg3, fun j k hj => by omega, r1', r2, hkW.mono fun _ _ _ e => e.elim, ⟨by omega, by omega, by omega, by omega⟩, ⟨by omega, by omega, by omega, by omega, by omega⟩⟩
  clear hw3 r1
  refine wp_loop (fun a w => ∃ y px c1 c2, y ≤ ht ∧ px = y * st ∧ RipA a bd (.iface t (.pointer (some ra))) px 13 (.pointer (some ⟨ib, 0, none⟩)) (.iface 117 (.pointer (some ⟨ib, 0, none⟩))) wd ht c1 c2 rs y ∧ RipW I FR W R ib pb nn st wd ht c1 c2 rs y (fun y k => if k % 4 < 3 then rowAt R (3 * wd) y (3 * (k / 4) + k % 4) else 255) w) (fun a _ => ht - (intOf (a.tmps.getD 27 undef)).toNat) ?_ ?_
  · exact ⟨0, 0, w2.heap.size, w2.heap.size + 1, Nat.zero_le _, (Nat.zero_mul _).symm, ⟨rfl, rfl, rfl, rfl, rfl, rfl, rfl, rfl, rfl, rfl, rfl, rfl⟩, hWb⟩
  · rintro a w ⟨y, px, c1, c2, hy, hpxd, hA, hW⟩
    have HPX := Lib.hid hpxd
    clear hpxd
    obtain ⟨T, rfl, t0, t1, t11, tsl, t19, t20, t21, t25, t26, t27⟩ := hA.open
    unfold ripFrame
    rw [t0, t1, t11, tsl, t19, t20, t21, t25, t26, t27]
    clear t0 t1 t11 tsl t19 t20 t21 t25 t26 t27 hA
    by_cases hyt : y < ht
    · have hyI : decide ((y : Int) < (ht : Int)) = true := by simp; omega
      have HRD := Lib.hid (hW.read hr hyt (by have := HRS.out; omega) (by have := HRS.out; omega) hlen hft)
      clear hW
      go_wp2_with (go_at_call 53; fail)
      refine HRD.out.mono ?_
      rintro e w1' ⟨rfl, B, hM⟩
      obtain ⟨q1, hdec1⟩ := hr.dec w1' _ hM.inv
      have g7 := hdec1.f7
      have gt := hdec1.ft
      simp only [hcb] at g7
      simp only [hut] at gt
      have hB0 : w1'.cell? ⟨c1, 0, none⟩ = some (.int .u8 0) := by
        have := hM.row.at_ 0 0 hM.zero
        simpa using this
      have m0 := hM.img.i0
      have m1 := hM.img.i1
      have hpx : y * st + st ≤ nn := by
        have : (y + 1) * st ≤ ht * st := Nat.mul_le_mul_right _ hyt
        rw [Nat.add_mul, Nat.mul_comm ht] at this
        rw [HNST.out]; omega
      have HM := Lib.hid hM
      have hrsl : rs = 1 + rl := HRS.out
      have hst0 : 0 < st := by have := HST.out; omega
      have hrl0 : 0 < rl := by have := HRL.out; omega
      have HPP := Lib.hid hpx
      clear hM hdec1 HRD
      have q1 : (1 : Int) ≤ rs := by omega
      have q2 : ¬ rs = 1 := by omega
      have q5 : (0 : Int) < rs := by omega
      have hrs1 : rs - 1 = rl := by omega
      have q6 : (1 : Int) < rs := by omega
      have HRSL := Lib.hid hrsl
      clear hrsl
      go_wp2_with (go_at_call 53; fail)
      refine wp_loop (fun a wx => ∃ iv jv x, x ≤ wd ∧ iv = y * st + x * 4 ∧ jv = 3 * x ∧ RipA a bd (.iface t (.pointer (some ra))) px 13 (.pointer (some ⟨ib, 0, none⟩)) (.iface 117 (.pointer (some ⟨ib, 0, none⟩))) wd ht c1 c2 rs y ∧ a.tmps.getD 30 undef = .slice (some ⟨c1, 1, none⟩) rl rl ∧ a.tmps.getD 81 undef = .slice (some ⟨pb, 0, none⟩) nn nn ∧ a.tmps.getD 82 undef = .int .i64 (iv : Int) ∧ a.tmps.getD 83 undef = .int .i64 (jv : Int) ∧ a.tmps.getD 84 undef = .int .i64 (x : Int) ∧
        ImgAt wx ib pb nn st wd ht ∧ Keep (fun p j => p = pb ∧ y * st ≤ j) w1' wx ∧ ∀ k, k < x * 4 → wx.cell? ⟨pb, y * st + k, none⟩ = some (.int .u8 ((fun y k => if k % 4 < 3 then rowAt R (3 * wd) y (3 * (k / 4) + k % 4) else 255) y k : Int))) (fun a _ => wd - (intOf (a.tmps.getD 84 undef)).toNat) ?_ ?_
      · exact ⟨px, 0, 0, Nat.zero_le _, by rw [HPX.out]; omega, rfl, ⟨rfl, rfl, rfl, rfl, rfl, rfl, rfl, rfl, rfl, rfl, rfl, rfl⟩, rfl, rfl, rfl, rfl, rfl, HM.out.img, Keep.refl _ _, fun k hk => by omega⟩
      · rintro a wx ⟨iv, jv, x, hx, hiv, hjv, hA2, h30, h81, h82, h83, h84, hIx, hkx, hcx⟩
        obtain ⟨T, rfl, t0, t1, t11, tsl, t19, t20, t21, t25, t26, t27⟩ := hA2.open
        have t30 : T 30 = .slice (some ⟨c1, 1, none⟩) rl rl := h30
        have t81 : T 81 = .slice (some ⟨pb, 0, none⟩) nn nn := h81
        have t82 : T 82 = .int .i64 (iv : Int) := h82
        have t83 : T 83 = .int .i64 (jv : Int) := h83
        have t84 : T 84 = .int .i64 (x : Int) := h84
        unfold ripFrame
        rw [t0, t1, t11, tsl, t19, t20, t21, t25, t26, t27, t30, t81, t82, t83, t84]
        have m1x := hIx.i1
        clear t0 t1 t11 tsl t19 t20 t21 t25 t26 t27 t30 t81 t82 t83 t84 hA2 h30 h81 h82 h83 h84 m0 m1 hB0 g7 gt
        by_cases hxd : x < wd
        · have hxI : decide ((x : Int) < (wd : Int)) = true := by simp; omega
          have hrow : BytesAt wx c1 0 B := HM.out.row.keep hkx fun _ _ e => HM.out.n1.2.1 e.1
          have hiv4 : iv + 4 ≤ nn := by
            have h1 : (x + 1) * 4 ≤ wd * 4 := Nat.mul_le_mul_right _ hxd
            have := HST.out
            have := HPP.out
            omega
          obtain ⟨u0, hu0, hv0⟩ := HM.out.byte (jv) (by have := HRL.out; omega)
          have cu0 := hrow.at_ (jv + 1) u0 hu0
          rw [Nat.zero_add, show jv + 1 = 1 + jv by omega] at cu0
          have l0 : ((jv : Nat) : Int) < rl := by have := HRL.out; omega
          obtain ⟨u1, hu1, hv1⟩ := HM.out.byte (jv + 1) (by have := HRL.out; omega)
          have cu1 := hrow.at_ (jv + 1 + 1) u1 hu1
          rw [Nat.zero_add, show jv + 1 + 1 = 1 + (jv + 1) by omega] at cu1
          have l1 : ((jv + 1 : Nat) : Int) < rl := by have := HRL.out; omega
          have b1 : IntKind.i64.wrap ((jv : Int) + 1) = ((jv + 1 : Nat) : Int) := (IntWalk.i64_in _ (by omega)).trans (by omega)
          obtain ⟨u2, hu2, hv2⟩ := HM.out.byte (jv + 2) (by have := HRL.out; omega)
          have cu2 := hrow.at_ (jv + 2 + 1) u2 hu2
          rw [Nat.zero_add, show jv + 2 + 1 = 1 + (jv + 2) by omega] at cu2
          have l2 : ((jv + 2 : Nat) : Int) < rl := by have := HRL.out; omega
          have b2 : IntKind.i64.wrap ((jv : Int) + 2) = ((jv + 2 : Nat) : Int) := (IntWalk.i64_in _ (by omega)).trans (by omega)
          obtain ⟨⟨o0, ho0⟩, hf0⟩ := hIx.room iv (by omega)
          rw [Nat.zero_add] at ho0 hf0
          have li0 : ((iv : Nat) : Int) < nn := by omega
          obtain ⟨⟨o1, ho1⟩, hf1⟩ := hIx.room (iv + 1) (by omega)
          rw [Nat.zero_add] at ho1 hf1
          have li1 : ((iv + 1 : Nat) : Int) < nn := by omega
          have bi1 : IntKind.i64.wrap ((iv : Int) + 1) = ((iv + 1 : Nat) : Int) := (IntWalk.i64_in _ (by omega)).trans (by omega)
          obtain ⟨⟨o2, ho2⟩, hf2⟩ := hIx.room (iv + 2) (by omega)
          rw [Nat.zero_add] at ho2 hf2
          have li2 : ((iv + 2 : Nat) : Int) < nn := by omega
          have bi2 : IntKind.i64.wrap ((iv : Int) + 2) = ((iv + 2 : Nat) : Int) := (IntWalk.i64_in _ (by omega)).trans (by omega)
          obtain ⟨⟨o3, ho3⟩, hf3⟩ := hIx.room (iv + 3) (by omega)
          rw [Nat.zero_add] at ho3 hf3
          have li3 : ((iv + 3 : Nat) : Int) < nn := by omega
          have bi3 : IntKind.i64.wrap ((iv : Int) + 3) = ((iv + 3 : Nat) : Int) := (IntWalk.i64_in _ (by omega)).trans (by omega)
          have bi4 : IntKind.i64.wrap ((iv : Int) + 4) = ((iv + 4 : Nat) : Int) := (IntWalk.i64_in _ (by omega)).trans (by omega)
          have b3 : IntKind.i64.wrap ((jv : Int) + 3) = ((jv + 3 : Nat) : Int) := (IntWalk.i64_in _ (by omega)).trans (by omega)
          have npc : ¬ pb = c1 := fun e => HM.out.n1.2.1 e.symm
          have hbs : BytesAt ((((wx.setCell ⟨pb, iv, none⟩ (.int .u8 (u0.toNat : Int))).setCell ⟨pb, iv + 1, none⟩ (.int .u8 (u1.toNat : Int))).setCell ⟨pb, iv + 2, none⟩ (.int .u8 (u2.toNat : Int))).setCell ⟨pb, iv + 3, none⟩ (.int .u8 ((255 : UInt8).toNat : Int))) pb iv [u0, u1, u2, 255] := fun i hi => by
            match i, hi with
            | 0, _ => exact setF (setF (setF (World.cell?_setCell_same _ _ _ ho0) (by omega)) (by omega)) (by omega)
            | 1, _ => exact setF (setF (World.cell?_setCell_same _ _ _ (setF ho1 (by omega))) (by omega)) (by omega)
            | 2, _ => exact setF (World.cell?_setCell_same _ _ _ (setF (setF ho2 (by omega)) (by omega))) (by omega)
            | 3, _ => exact World.cell?_setCell_same _ _ _ (setF (setF (setF ho3 (by omega)) (by omega)) (by omega))
          have hks : Keep (fun p j => p = pb ∧ iv ≤ j ∧ j < iv + 4) wx ((((wx.setCell ⟨pb, iv, none⟩ (.int .u8 (u0.toNat : Int))).setCell ⟨pb, iv + 1, none⟩ (.int .u8 (u1.toNat : Int))).setCell ⟨pb, iv + 2, none⟩ (.int .u8 (u2.toNat : Int))).setCell ⟨pb, iv + 3, none⟩ (.int .u8 ((255 : UInt8).toNat : Int))) := (((((Keep.refl (fun p j => p = pb ∧ iv ≤ j ∧ j < iv + 4) wx).trans ((keep_setCell _ _ _ _).mono fun a b _ e => ⟨e.1, by omega⟩)).trans ((keep_setCell _ _ _ _).mono fun a b _ e => ⟨e.1, by omega⟩)).trans ((keep_setCell _ _ _ _).mono fun a b _ e => ⟨e.1, by omega⟩)).trans ((keep_setCell _ _ _ _).mono fun a b _ e => ⟨e.1, by omega⟩))
          have hfs : ∀ j, ((((wx.setCell ⟨pb, iv, none⟩ (.int .u8 (u0.toNat : Int))).setCell ⟨pb, iv + 1, none⟩ (.int .u8 (u1.toNat : Int))).setCell ⟨pb, iv + 2, none⟩ (.int .u8 (u2.toNat : Int))).setCell ⟨pb, iv + 3, none⟩ (.int .u8 ((255 : UInt8).toNat : Int))).frozen? ⟨pb, j, none⟩ = wx.frozen? ⟨pb, j, none⟩ := fun j => by rw [World.frozen?_setCell, World.frozen?_setCell, World.frozen?_setCell, World.frozen?_setCell]
          obtain ⟨w2', hw2'⟩ : ∃ w2', w2' = ((((wx.setCell ⟨pb, iv, none⟩ (.int .u8 (u0.toNat : Int))).setCell ⟨pb, iv + 1, none⟩ (.int .u8 (u1.toNat : Int))).setCell ⟨pb, iv + 2, none⟩ (.int .u8 (u2.toNat : Int))).setCell ⟨pb, iv + 3, none⟩ (.int .u8 ((255 : UInt8).toNat : Int))) := ⟨_, rfl⟩
          rw [← hw2'] at hbs hks hfs
          have hI2 : ImgAt w2' ib pb nn st wd ht := hIx.wrote hks (fun _ e => hIx.ne e.1) (hIx.room.after (l := [u0, u1, u2, 255]) hks (fun _ e => e.2) hbs hfs)
          have kall : Keep (fun p j => p = pb ∧ y * st ≤ j) w1' w2' := hkx.trans (hks.mono fun p j _ e => ⟨e.1, by omega⟩)
          have hc2 : ∀ k, k < (x + 1) * 4 → w2'.cell? ⟨pb, y * st + k, none⟩ = some (.int .u8 ((fun y k => if k % 4 < 3 then rowAt R (3 * wd) y (3 * (k / 4) + k % 4) else 255) y k : Int)) := fun k hk => by
            by_cases h1 : k < x * 4
            · exact hks.get (hcx k h1) fun e => by omega
            · have hrw : rs - 1 = 3 * wd := by have := HRSL.out; have := HRL.out; omega
              obtain ⟨c, hc, hcn⟩ : ∃ c, k = x * 4 + c ∧ c < 4 := ⟨k - x * 4, by omega, by omega⟩
              subst hc
              have h3 := hbs c (by simpa using hcn)
              rw [show y * st + (x * 4 + c) = iv + c by omega, h3]
              match c, hcn with
              | 0, _ =>
                have h4 := hv0
                rw [hrw] at h4
                show some (Value.int .u8 (u0.toNat : Int)) = _
                simp only []
                rw [if_pos (by omega), h4, show 3 * ((x * 4 + 0) / 4) + (x * 4 + 0) % 4 = jv by omega]
              | 1, _ =>
                have h4 := hv1
                rw [hrw] at h4
                show some (Value.int .u8 (u1.toNat : Int)) = _
                simp only []
                rw [if_pos (by omega), h4, show 3 * ((x * 4 + 1) / 4) + (x * 4 + 1) % 4 = jv + 1 by omega]
              | 2, _ =>
                have h4 := hv2
                rw [hrw] at h4
                show some (Value.int .u8 (u2.toNat : Int)) = _
                simp only []
                rw [if_pos (by omega), h4, show 3 * ((x * 4 + 2) / 4) + (x * 4 + 2) % 4 = jv + 2 by omega]
              | 3, _ =>
                simp only []
                rw [if_neg (by omega)]
                rfl
          have HALL := Lib.hid (And.intro hI2 (And.intro kall hc2))
          have HWW := Lib.hid hw2'
          have HIV := Lib.hid hiv
          have HJV := Lib.hid hjv
          clear hbs hks hfs hI2 kall hc2 hw2' hrow hIx hkx hcx hu0 hu1 hu2 hv0 hv1 hv2 hiv hjv m1x
          go_wp2
          refine ⟨⟨iv + 4, jv + 3, x + 1, by omega, by rw [HIV.out]; omega, by rw [HJV.out]; omega, ⟨rfl, rfl, rfl, rfl, rfl, rfl, rfl, rfl, rfl, rfl, rfl, rfl⟩, by omega, by omega, by omega, ?_, ?_, ?_⟩, ?_⟩
          · have := HALL.out.1
            rw [HWW.out] at this
            exact this
          · have := HALL.out.2.1
            rw [HWW.out] at this
            exact this
          · have := HALL.out.2.2
            rw [HWW.out] at this
            exact this
          show wd - (intOf (.int .i64 ((x : Int) + 1))).toNat < wd - (intOf (.int .i64 (x : Int))).toNat
          simp only [intOf]
          omega
        · have hxI : decide ((x : Int) < (wd : Int)) = false := by simp; omega
          obtain rfl : x = wd := by omega
          have HNX := Lib.hid (HM.out.next hr hkx (fun _ _ e => e) hIx.room (fun k hk => hcx k (by have := HST.out; omega)))
          have HIV := Lib.hid hiv
          have HJV := Lib.hid hjv
          have hpxx : px + st ≤ nn := by rw [HPX.out]; exact HPP.out
          clear hIx hkx hcx hiv hjv
          go_wp2
          refine ⟨⟨y + 1, px + st, c2, c1, by omega, by rw [Nat.add_mul, Nat.one_mul, HPX.out], ⟨rfl, rfl, rfl, rfl, by show Value.int .i64 ((px : Int) + (st : Int)) = _; congr 1, rfl, rfl, rfl, rfl, rfl, rfl, by show Value.int .i64 ((y : Int) + 1) = _; congr 1⟩, HNX.out⟩, ?_⟩
          show ht - (intOf (.int .i64 ((y : Int) + 1))).toNat < ht - (intOf (.int .i64 (y : Int))).toNat
          simp only [intOf]
          omega
    · have hyI : decide ((y : Int) < (ht : Int)) = false := by simp; omega
      obtain rfl : y = ht := by omega
      have HW := Lib.hid hW
      clear hW
      go_wp2
      go_ret2
      refine ⟨ib, pb, rfl, ?_, ?_, ?_, HW.out.b1.1, HW.out.b1.2.1, HW.out.k⟩
      · have := HW.out.img
        rw [HNN.out, HST.out] at this
        exact this
      · have := HW.out.pix
        rw [HST.out] at this
        exact this
      · have := HW.out.inv
        rw [List.drop_eq_nil_of_le (by rw [hlen]; exact Nat.le_refl _)] at this
        exact this
end Go.Proofs.YtnbbppjgamdfeaaGreatDoor
end
