/- laws.FnBack, part 21 of 54: E9. -/
import Derived.Test.YtnbbppjgamdfeaaGreatDoorY12
import Derived.Test.YtnbbppjgamdfeaaGreatDoorY13

/- readImagePass: one kind of pixels (printed by gen_e4.py). -/
section
set_option linter.unusedVariables false
set_option linter.unusedSimpArgs false
namespace Go.Proofs.YtnbbppjgamdfeaaGreatDoor
open Go Go.RowKit

set_option maxRecDepth 100000 in
set_option maxHeartbeats 8000000 in
theorem ripTC16 {t : TypeId} {ra : Addr} {f : FuncId} {I : World → List UInt8 → Prop} {FR : Nat → Nat → Prop} {Ok : Nat → Prop} {bd rb cb : Nat} {d : Dv} {W : World} (hr : RipRd t ra f I FR Ok bd rb cb d W) (wd ht : Nat) (hw : wd ≤ 60) (hh : ht ≤ 60) (hw0 : 0 < wd) (hh0 : 0 < ht)
    (hdw : d.width = (wd : Int)) (hdh : d.height = (ht : Int)) (hcb : d.cb = 14) (hdep : d.depth = 16) (hlc : d.lace = 0) (hut : d.useT = false) (R : List UInt8) (hI : I W R) (hlen : R.length = ht * (1 + 6 * wd)) (hft : ∀ y, y < ht → R.getD (y * (1 + 6 * wd)) 0 = 0) :
    Calls Tryz.prog 93 #[.pointer (some ⟨bd, 0, none⟩), .iface t (.pointer (some ra)), .int .i64 0, .bool false] W fun e w' => ∃ ib pb, e = .returned (.tuple #[.iface 119 (.pointer (some ⟨ib, 0, none⟩)), .nilIface]) ∧
      ImgAt w' ib pb (8 * wd * ht) (8 * wd) wd ht ∧ PixRows w' pb (8 * wd) ht (fun y k => if k % 8 < 6 then rowAt R (6 * wd) y (6 * (k / 8) + k % 8) else 255) ∧ I w' [] ∧ W.heap.size ≤ ib ∧ W.heap.size ≤ pb ∧ Keep FR W w' := by
  obtain ⟨q, hdec⟩ := hr.dec W R hI
  have f3 := hdec.f3
  have f4 := hdec.f4
  have f5 := hdec.f5
  have f7 := hdec.f7
  have fl := hdec.fl
  have ft := hdec.ft
  simp only [hdw] at f3
  simp only [hdh] at f4
  simp only [hdep] at f5
  simp only [hcb] at f7
  simp only [hlc] at fl
  simp only [hut] at ft
  obtain ⟨st, hst⟩ : ∃ st, st = 8 * wd := ⟨_, rfl⟩
  obtain ⟨rl, hrl⟩ : ∃ rl, rl = 6 * wd := ⟨_, rfl⟩
  obtain ⟨nn, hnn⟩ : ∃ nn, nn = 8 * wd * ht := ⟨_, rfl⟩
  obtain ⟨rs, hrs⟩ : ∃ rs, rs = 1 + rl := ⟨_, rfl⟩
  have hnst : nn = st * ht := by rw [hnn, hst]
  have hnl : nn ≤ 28800 := by
    rw [hnn]; exact Nat.mul_le_mul (show 8 * wd ≤ 480 by omega) hh
  rw [← hrl, ← hrs] at hlen hft
  have e8 : (48 * (wd : Int) + 7) / 8 = (rl : Int) := by omega
  have e9 : (1 : Int) + (rl : Int) = (rs : Int) := by omega
  have e10 : IntKind.i64.wrap (rs : Int) = (rs : Int) := IntWalk.i64_in _ (by omega)
  have hmk := fun W => makeBytes_eq W .i64 .i64 rs (by omega)
  have hw480 : rl ≤ 480 := by omega
  have HRS := Lib.hid hrs
  have HRL := Lib.hid hrl
  have HST := Lib.hid hst
  have HNN := Lib.hid hnn
  have HNST := Lib.hid hnst
  clear hrs hrl hst hnn hnst
  go_enter Tryz.func93, Tryz.ntmps93
  go_wp2
  go_quiet (fail)
  have hk0 : Keep Nil2 W (W.drewN nq) := (Keep.refl Nil2 W).drewN nq
  obtain ⟨w0, hw0'⟩ : ∃ w0, w0 = W.drewN nq := ⟨_, rfl⟩
  have HW0 := Lib.hid hw0'
  clear hw0'
  go_wp2_with (go_at_call 98; fail)
  refine (imgRect _ wd ht).mono ?_
  rintro e w1 ⟨rfl, hk1⟩
  go_wp2_with (go_at_call 104; fail)
  refine (imgNewRGBA64 w1 wd ht hw hh).mono ?_
  rintro e w2 ⟨ib, pb, rfl, hib, hpb, hImg, hk2⟩
  rw [← HNN.out, ← HST.out] at hImg
  go_wp2
  obtain ⟨w3, hw3⟩ : ∃ w3, w3 = (w2.alloc (.cells (madeCells #[.int .u8 0] rs) 5)).alloc (.cells (madeCells #[.int .u8 0] rs) 5) := ⟨_, rfl⟩
  rw [← hw3]
  have r1 : RoomAt (w2.alloc (.cells (madeCells #[.int .u8 0] rs) 5)) w2.heap.size 0 rs := madeBytes w2 rs
  have r2 : RoomAt w3 (w2.heap.size + 1) 0 rs := by rw [hw3]; have := madeBytes (w2.alloc (.cells (madeCells #[.int .u8 0] rs) 5)) rs; simpa using this
  have hk3 : Keep Nil2 w2 w3 := by rw [hw3]; exact ((Keep.refl Nil2 w2).alloc _).alloc _
  have r1' : RoomAt w3 w2.heap.size 0 rs := by rw [hw3]; exact r1.keep ((Keep.refl Nil2 _).alloc _) fun _ _ e => e
  have hk01 : Keep Nil2 W w1 := hk0.trans hk1
  have hk02 : Keep Nil2 W w2 := hk01.trans hk2
  have hkW : Keep Nil2 W w3 := hk02.trans hk3
  have hI3 : I w3 R := hr.keep _ _ _ _ hI hkW fun _ _ e => e.elim
  have hImg3 := hImg.keep hk3 (fun _ e => e) (fun _ e => e)
  have hib2 := hImg.lt
  have hpb2 : pb < w2.heap.size := hImg.room.lt (by rw [HNST.out, HST.out]; exact Nat.mul_pos (Nat.mul_pos (by omega) hw0) hh0)
  have hsz1 := hk01.size
  have hsz2 := hk02.size
  have hWb : RipW I FR W R ib pb nn st wd ht w2.heap.size (w2.heap.size + 1) rs 0 (fun y k => if k % 8 < 6 then rowAt R (6 * wd) y (6 * (k / 8) + k % 8) else 255) w3 :=
    ⟨by rw [Nat.zero_mul]; exact hI3, hImg3, fun j k hj => by omega, r1', r2, hkW.mono fun _ _ _ e => e.elim, ⟨by omega, by omega, by omega, by omega⟩, ⟨by omega, by omega, by omega, by omega, by omega⟩⟩
  clear hw3 r1
  refine wp_loop (fun a w => ∃ y px c1 c2, y ≤ ht ∧ px = 0 ∧ RipA a bd (.iface t (.pointer (some ra))) px 17 (.pointer (some ⟨ib, 0, none⟩)) (.iface 119 (.pointer (some ⟨ib, 0, none⟩))) wd ht c1 c2 rs y ∧ RipW I FR W R ib pb nn st wd ht c1 c2 rs y (fun y k => if k % 8 < 6 then rowAt R (6 * wd) y (6 * (k / 8) + k % 8) else 255) w) (fun a _ => ht - (intOf (a.tmps.getD 27 undef)).toNat) ?_ ?_
  · exact ⟨0, 0, w2.heap.size, w2.heap.size + 1, Nat.zero_le _, rfl, ⟨rfl, rfl, rfl, rfl, rfl, rfl, rfl, rfl, rfl, rfl, rfl, rfl⟩, hWb⟩
  · rintro a w ⟨y, px, c1, c2, hy, hpxd, hA, hW⟩
    have HPX := Lib.hid hpxd
    clear hpxd
    obtain ⟨T, rfl, t0, t1, t11, tsl, t19, t20, t21, t25, t26, t27⟩ := hA.open
    unfold ripFrame
    rw [t0, t1, t11, tsl, t19, t20, t21, t25, t26, t27]
    clear t0 t1 t11 tsl t19 t20 t21 t25 t26 t27 hA
    by_cases hyt : y < ht
    · have hyI : decide ((y : Int) < (ht : Int)) = true := by simp; omega
      have HRD := Lib.hid (hW.read hr hyt (by have := HRS.out; omega) (by have := HRS.out; omega) hlen hft)
      clear hW
      go_wp2_with (go_at_call 53; fail)
      refine HRD.out.mono ?_
      rintro e w1' ⟨rfl, B, hM⟩
      obtain ⟨q1, hdec1⟩ := hr.dec w1' _ hM.inv
      have g7 := hdec1.f7
      have gt := hdec1.ft
      simp only [hcb] at g7
      simp only [hut] at gt
      have hB0 : w1'.cell? ⟨c1, 0, none⟩ = some (.int .u8 0) := by
        have := hM.row.at_ 0 0 hM.zero
        simpa using this
      have m0 := hM.img.i0
      have m1 := hM.img.i1
      have hpx : y * st + st ≤ nn := by
        have : (y + 1) * st ≤ ht * st := Nat.mul_le_mul_right _ hyt
        rw [Nat.add_mul, Nat.mul_comm ht] at this
        rw [HNST.out]; omega
      have HM := Lib.hid hM
      have hrsl : rs = 1 + rl := HRS.out
      have hst0 : 0 < st := by have := HST.out; omega
      have hrl0 : 0 < rl := by have := HRL.out; omega
      have HPP := Lib.hid hpx
      clear hM hdec1 HRD
      have q1 : (1 : Int) ≤ rs := by omega
      have q2 : ¬ rs = 1 := by omega
      have q5 : (0 : Int) < rs := by omega
      have hrs1 : rs - 1 = rl := by omega
      have q6 : (1 : Int) < rs := by omega
      have HRSL := Lib.hid hrsl
      have q7 : y ≤ 60 := by omega
      clear hrsl
      have hst8 : st ≤ 480 := by have := HST.out; omega
      go_wp2_with (go_at_call 53; fail)
      refine wp_loop (fun a wx => ∃ x, x ≤ wd ∧ RipA a bd (.iface t (.pointer (some ra))) px 17 (.pointer (some ⟨ib, 0, none⟩)) (.iface 119 (.pointer (some ⟨ib, 0, none⟩))) wd ht c1 c2 rs y ∧ a.tmps.getD 30 undef = .slice (some ⟨c1, 1, none⟩) rl rl ∧ a.tmps.getD 115 undef = .int .i64 (x : Int) ∧
        ImgAt wx ib pb nn st wd ht ∧ Keep (fun p j => p = pb ∧ y * st ≤ j) w1' wx ∧ ∀ k, k < x * 8 → wx.cell? ⟨pb, y * st + k, none⟩ = some (.int .u8 ((fun y k => if k % 8 < 6 then rowAt R (6 * wd) y (6 * (k / 8) + k % 8) else 255) y k : Int))) (fun a _ => wd - (intOf (a.tmps.getD 115 undef)).toNat) ?_ ?_
      · exact ⟨0, Nat.zero_le _, ⟨rfl, rfl, rfl, rfl, rfl, rfl, rfl, rfl, rfl, rfl, rfl, rfl⟩, rfl, rfl, HM.out.img, Keep.refl _ _, fun k hk => by omega⟩
      · rintro a wx ⟨x, hx, hA2, h30, hxs, hIx, hkx, hcx⟩
        obtain ⟨T, rfl, t0, t1, t11, tsl, t19, t20, t21, t25, t26, t27⟩ := hA2.open
        have t30 : T 30 = .slice (some ⟨c1, 1, none⟩) rl rl := h30
        have txs : T 115 = .int .i64 (x : Int) := hxs
        unfold ripFrame
        rw [t0, t1, t11, tsl, t19, t20, t21, t25, t26, t27, t30, txs]
        clear t0 t1 t11 tsl t19 t20 t21 t25 t26 t27 t30 txs hA2 h30 hxs m0 m1 hB0 g7 gt
        by_cases hxd : x < wd
        · have hxI : decide ((x : Int) < (wd : Int)) = true := by simp; omega
          have HIX := Lib.hid hIx
          have HKX := Lib.hid hkx
          have HCX := Lib.hid hcx
          have hrow : BytesAt wx c1 0 B := HM.out.row.keep hkx fun _ _ e => HM.out.n1.2.1 e.1
          clear hIx hkx hcx
          obtain ⟨u0, hu0, hv0⟩ := HM.out.byte (6 * x) (by have := HRL.out; omega)
          have cu0 := hrow.at_ (6 * x + 1) u0 hu0
          rw [Nat.zero_add, show 6 * x + 1 = 1 + 6 * x by omega] at cu0
          obtain ⟨u1, hu1, hv1⟩ := HM.out.byte (6 * x + 1) (by have := HRL.out; omega)
          have cu1 := hrow.at_ (6 * x + 1 + 1) u1 hu1
          rw [Nat.zero_add, show 6 * x + 1 + 1 = 1 + (6 * x + 1) by omega] at cu1
          obtain ⟨u2, hu2, hv2⟩ := HM.out.byte (6 * x + 2) (by have := HRL.out; omega)
          have cu2 := hrow.at_ (6 * x + 2 + 1) u2 hu2
          rw [Nat.zero_add, show 6 * x + 2 + 1 = 1 + (6 * x + 2) by omega] at cu2
          obtain ⟨u3, hu3, hv3⟩ := HM.out.byte (6 * x + 3) (by have := HRL.out; omega)
          have cu3 := hrow.at_ (6 * x + 3 + 1) u3 hu3
          rw [Nat.zero_add, show 6 * x + 3 + 1 = 1 + (6 * x + 3) by omega] at cu3
          obtain ⟨u4, hu4, hv4⟩ := HM.out.byte (6 * x + 4) (by have := HRL.out; omega)
          have cu4 := hrow.at_ (6 * x + 4 + 1) u4 hu4
          rw [Nat.zero_add, show 6 * x + 4 + 1 = 1 + (6 * x + 4) by omega] at cu4
          obtain ⟨u5, hu5, hv5⟩ := HM.out.byte (6 * x + 5) (by have := HRL.out; omega)
          have cu5 := hrow.at_ (6 * x + 5 + 1) u5 hu5
          rw [Nat.zero_add, show 6 * x + 5 + 1 = 1 + (6 * x + 5) by omega] at cu5
          have b1 : IntKind.i64.wrap (6 * (x : Int)) = ((6 * x : Nat) : Int) := (IntWalk.i64_in _ (by omega)).trans (by omega)
          have l0 : ((6 * x : Nat) : Int) < rl := by have := HRL.out; omega
          have b2 : IntKind.i64.wrap (((6 * x : Nat) : Int) + 1) = ((6 * x + 1 : Nat) : Int) := (IntWalk.i64_in _ (by omega)).trans (by omega)
          have l1 : ((6 * x + 1 : Nat) : Int) < rl := by have := HRL.out; omega
          have b3 : IntKind.i64.wrap (((6 * x : Nat) : Int) + 2) = ((6 * x + 2 : Nat) : Int) := (IntWalk.i64_in _ (by omega)).trans (by omega)
          have l2 : ((6 * x + 2 : Nat) : Int) < rl := by have := HRL.out; omega
          have b4 : IntKind.i64.wrap (((6 * x : Nat) : Int) + 3) = ((6 * x + 3 : Nat) : Int) := (IntWalk.i64_in _ (by omega)).trans (by omega)
          have l3 : ((6 * x + 3 : Nat) : Int) < rl := by have := HRL.out; omega
          have b5 : IntKind.i64.wrap (((6 * x : Nat) : Int) + 4) = ((6 * x + 4 : Nat) : Int) := (IntWalk.i64_in _ (by omega)).trans (by omega)
          have l4 : ((6 * x + 4 : Nat) : Int) < rl := by have := HRL.out; omega
          have b6 : IntKind.i64.wrap (((6 * x : Nat) : Int) + 5) = ((6 * x + 5 : Nat) : Int) := (IntWalk.i64_in _ (by omega)).trans (by omega)
          have l5 : ((6 * x + 5 : Nat) : Int) < rl := by have := HRL.out; omega
          have hpxx : y * st + x * 8 + 8 ≤ nn := by
            have h1 : (x + 1) * 8 ≤ wd * 8 := Nat.mul_le_mul_right _ hxd
            have := HST.out
            have := HPP.out
            omega
          have hset := fun W (hi : ImgAt W ib pb nn st wd ht) => setRGBA64 hi x y hxd hyt hw hh hst8 hpxx hnl u0 u1 u2 u3 u4 u5 255 255
          have hb0 := u0.toNat_lt
          have hb1 := u1.toNat_lt
          obtain ⟨z0, hz0⟩ : ∃ z, z = u0.toNat * 256 + u1.toNat := ⟨_, rfl⟩
          rw [← hz0] at hset
          have hor0 : bits BinOp.or IntKind.u16 ((u0.toNat : Int) * 256) (u1.toNat : Int) = (z0 : Int) := by
            rw [hz0, show (u0.toNat : Int) * 256 = ((u0.toNat * 256 : Nat) : Int) by omega, u16_or_nat _ _ (by omega) (by omega), or_add _ _ 8 (by omega) (by omega)]
          have uw0 : IntKind.u16.wrap (u0.toNat : Int) = (u0.toNat : Int) := IntWalk.u16_in _ (by omega)
          have vw0 : IntKind.u16.wrap (u1.toNat : Int) = (u1.toNat : Int) := IntWalk.u16_in _ (by omega)
          have xw0 : IntKind.u16.wrap ((u0.toNat : Int) * 256) = (u0.toNat : Int) * 256 := IntWalk.u16_in _ (by omega)
          have hb2 := u2.toNat_lt
          have hb3 := u3.toNat_lt
          obtain ⟨z2, hz2⟩ : ∃ z, z = u2.toNat * 256 + u3.toNat := ⟨_, rfl⟩
          rw [← hz2] at hset
          have hor2 : bits BinOp.or IntKind.u16 ((u2.toNat : Int) * 256) (u3.toNat : Int) = (z2 : Int) := by
            rw [hz2, show (u2.toNat : Int) * 256 = ((u2.toNat * 256 : Nat) : Int) by omega, u16_or_nat _ _ (by omega) (by omega), or_add _ _ 8 (by omega) (by omega)]
          have uw2 : IntKind.u16.wrap (u2.toNat : Int) = (u2.toNat : Int) := IntWalk.u16_in _ (by omega)
          have vw2 : IntKind.u16.wrap (u3.toNat : Int) = (u3.toNat : Int) := IntWalk.u16_in _ (by omega)
          have xw2 : IntKind.u16.wrap ((u2.toNat : Int) * 256) = (u2.toNat : Int) * 256 := IntWalk.u16_in _ (by omega)
          have hb4 := u4.toNat_lt
          have hb5 := u5.toNat_lt
          obtain ⟨z4, hz4⟩ : ∃ z, z = u4.toNat * 256 + u5.toNat := ⟨_, rfl⟩
          rw [← hz4] at hset
          have hor4 : bits BinOp.or IntKind.u16 ((u4.toNat : Int) * 256) (u5.toNat : Int) = (z4 : Int) := by
            rw [hz4, show (u4.toNat : Int) * 256 = ((u4.toNat * 256 : Nat) : Int) by omega, u16_or_nat _ _ (by omega) (by omega), or_add _ _ 8 (by omega) (by omega)]
          have uw4 : IntKind.u16.wrap (u4.toNat : Int) = (u4.toNat : Int) := IntWalk.u16_in _ (by omega)
          have vw4 : IntKind.u16.wrap (u5.toNat : Int) = (u5.toNat : Int) := IntWalk.u16_in _ (by omega)
          have xw4 : IntKind.u16.wrap ((u4.toNat : Int) * 256) = (u4.toNat : Int) * 256 := IntWalk.u16_in _ (by omega)
          have e65 : (((255 : UInt8).toNat * 256 + (255 : UInt8).toNat : Nat) : Int) = 65535 := by decide
          rw [e65] at hset
          have HV0 := Lib.hid hv0
          have HV1 := Lib.hid hv1
          have HV2 := Lib.hid hv2
          have HV3 := Lib.hid hv3
          have HV4 := Lib.hid hv4
          have HV5 := Lib.hid hv5
          have HSET := Lib.hid hset
          clear hset hrow hu0 hv0 hu1 hv1 hu2 hv2 hu3 hv3 hu4 hv4 hu5 hv5 hz0 hb0 hb1 hz2 hb2 hb3 hz4 hb4 hb5
          go_wp2
          go_quiet (fail)
          go_wp2
          go_quiet (fail)
          go_wp2
          go_quiet (fail)
          go_wp2_with (go_at_call 111; fail)
          refine (setFar (l := [u0, u1, u2, u3, u4, u5, 255, 255]) HIX.out (by repeat (first | exact Keep.refl _ _ | apply Keep.drewN)) fun hi => HSET.out _ hi).mono ?_
          rintro e w2' ⟨rfl, hI2, hbs, hks⟩
          have kall : Keep (fun p j => p = pb ∧ y * st ≤ j) w1' w2' := HKX.out.trans (hks.mono fun p j _ e => ⟨e.1, by omega⟩)
          have hc2 : ∀ k, k < (x + 1) * 8 → w2'.cell? ⟨pb, y * st + k, none⟩ = some (.int .u8 ((fun y k => if k % 8 < 6 then rowAt R (6 * wd) y (6 * (k / 8) + k % 8) else 255) y k : Int)) := fun k hk => by
            by_cases h1 : k < x * 8
            · exact hks.get (HCX.out k h1) fun e => by omega
            · have hrw : rs - 1 = 6 * wd := by have := HRSL.out; have := HRL.out; omega
              obtain ⟨c, hc, hcn⟩ : ∃ c, k = x * 8 + c ∧ c < 8 := ⟨k - x * 8, by omega, by omega⟩
              subst hc
              have h3 := hbs c (by simpa using hcn)
              rw [show y * st + (x * 8 + c) = y * st + x * 8 + c by omega, h3]
              match c, hcn with
              | 0, _ =>
                have h4 := HV0.out
                rw [hrw] at h4
                show some (Value.int .u8 (u0.toNat : Int)) = _
                simp only []
                rw [if_pos (by omega), h4, show 6 * ((x * 8 + 0) / 8) + (x * 8 + 0) % 8 = 6 * x by omega]
              | 1, _ =>
                have h4 := HV1.out
                rw [hrw] at h4
                show some (Value.int .u8 (u1.toNat : Int)) = _
                simp only []
                rw [if_pos (by omega), h4, show 6 * ((x * 8 + 1) / 8) + (x * 8 + 1) % 8 = 6 * x + 1 by omega]
              | 2, _ =>
                have h4 := HV2.out
                rw [hrw] at h4
                show some (Value.int .u8 (u2.toNat : Int)) = _
                simp only []
                rw [if_pos (by omega), h4, show 6 * ((x * 8 + 2) / 8) + (x * 8 + 2) % 8 = 6 * x + 2 by omega]
              | 3, _ =>
                have h4 := HV3.out
                rw [hrw] at h4
                show some (Value.int .u8 (u3.toNat : Int)) = _
                simp only []
                rw [if_pos (by omega), h4, show 6 * ((x * 8 + 3) / 8) + (x * 8 + 3) % 8 = 6 * x + 3 by omega]
              | 4, _ =>
                have h4 := HV4.out
                rw [hrw] at h4
                show some (Value.int .u8 (u4.toNat : Int)) = _
                simp only []
                rw [if_pos (by omega), h4, show 6 * ((x * 8 + 4) / 8) + (x * 8 + 4) % 8 = 6 * x + 4 by omega]
              | 5, _ =>
                have h4 := HV5.out
                rw [hrw] at h4
                show some (Value.int .u8 (u5.toNat : Int)) = _
                simp only []
                rw [if_pos (by omega), h4, show 6 * ((x * 8 + 5) / 8) + (x * 8 + 5) % 8 = 6 * x + 5 by omega]
              | 6, _ =>
                simp only []
                rw [if_neg (by omega)]
                rfl
              | 7, _ =>
                simp only []
                rw [if_neg (by omega)]
                rfl
          have HALL := Lib.hid (And.intro hI2 (And.intro kall hc2))
          clear hbs hks kall hI2 hc2
          go_wp2
          refine ⟨⟨x + 1, by omega, ⟨rfl, rfl, rfl, rfl, rfl, rfl, rfl, rfl, rfl, rfl, rfl, rfl⟩, rfl, by show Value.int .i64 ((x : Int) + 1) = _; congr 1, HALL.out.1, HALL.out.2.1, HALL.out.2.2⟩, ?_⟩
          show wd - (intOf (.int .i64 ((x : Int) + 1))).toNat < wd - (intOf (.int .i64 (x : Int))).toNat
          simp only [intOf]
          omega
        · have hxI : decide ((x : Int) < (wd : Int)) = false := by simp; omega
          obtain rfl : x = wd := by omega
          have HNX := Lib.hid (HM.out.next hr hkx (fun _ _ e => e) hIx.room (fun k hk => hcx k (by have := HST.out; omega)))
          clear hIx hkx hcx
          go_wp2
          refine ⟨⟨y + 1, px, c2, c1, by omega, HPX.out, ⟨rfl, rfl, rfl, rfl, rfl, rfl, rfl, rfl, rfl, rfl, rfl, by show Value.int .i64 ((y : Int) + 1) = _; congr 1⟩, HNX.out⟩, ?_⟩
          show ht - (intOf (.int .i64 ((y : Int) + 1))).toNat < ht - (intOf (.int .i64 (y : Int))).toNat
          simp only [intOf]
          omega
    · have hyI : decide ((y : Int) < (ht : Int)) = false := by simp; omega
      obtain rfl : y = ht := by omega
      have HW := Lib.hid hW
      clear hW
      go_wp2
      go_ret2
      refine ⟨ib, pb, rfl, ?_, ?_, ?_, HW.out.b1.1, HW.out.b1.2.1, HW.out.k⟩
      · have := HW.out.img
        rw [HNN.out, HST.out] at this
        exact this
      · have := HW.out.pix
        rw [HST.out] at this
        exact this
      · have := HW.out.inv
        rw [List.drop_eq_nil_of_le (by rw [hlen]; exact Nat.le_refl _)] at this
        exact this
end Go.Proofs.YtnbbppjgamdfeaaGreatDoor
end
