/- laws.FnBack, part 19 of 54: E7 F1. -/
import Derived.Test.YtnbbppjgamdfeaaGreatDoorY12
import Derived.Test.YtnbbppjgamdfeaaGreatDoorY13

/- readImagePass: one kind of pixels (printed by gen_e4.py). -/
section
set_option linter.unusedVariables false
set_option linter.unusedSimpArgs false
namespace Go.Proofs.YtnbbppjgamdfeaaGreatDoor
open Go Go.RowKit

set_option maxRecDepth 100000 in
set_option maxHeartbeats 8000000 in
theorem ripG16 {t : TypeId} {ra : Addr} {f : FuncId} {I : World → List UInt8 → Prop} {FR : Nat → Nat → Prop} {Ok : Nat → Prop} {bd rb cb : Nat} {d : Dv} {W : World} (hr : RipRd t ra f I FR Ok bd rb cb d W) (wd ht : Nat) (hw : wd ≤ 60) (hh : ht ≤ 60) (hw0 : 0 < wd) (hh0 : 0 < ht)
    (hdw : d.width = (wd : Int)) (hdh : d.height = (ht : Int)) (hcb : d.cb = 12) (hdep : d.depth = 16) (hlc : d.lace = 0) (hut : d.useT = false) (R : List UInt8) (hI : I W R) (hlen : R.length = ht * (1 + 2 * wd)) (hft : ∀ y, y < ht → R.getD (y * (1 + 2 * wd)) 0 = 0) :
    Calls Tryz.prog 93 #[.pointer (some ⟨bd, 0, none⟩), .iface t (.pointer (some ra)), .int .i64 0, .bool false] W fun e w' => ∃ ib pb, e = .returned (.tuple #[.iface 115 (.pointer (some ⟨ib, 0, none⟩)), .nilIface]) ∧
      ImgAt w' ib pb (2 * wd * ht) (2 * wd) wd ht ∧ PixRows w' pb (2 * wd) ht (fun y k => rowAt R (2 * wd) y k) ∧ I w' [] ∧ W.heap.size ≤ ib ∧ W.heap.size ≤ pb ∧ Keep FR W w' := by
  obtain ⟨q, hdec⟩ := hr.dec W R hI
  have f3 := hdec.f3
  have f4 := hdec.f4
  have f5 := hdec.f5
  have f7 := hdec.f7
  have fl := hdec.fl
  have ft := hdec.ft
  simp only [hdw] at f3
  simp only [hdh] at f4
  simp only [hdep] at f5
  simp only [hcb] at f7
  simp only [hlc] at fl
  simp only [hut] at ft
  obtain ⟨st, hst⟩ : ∃ st, st = 2 * wd := ⟨_, rfl⟩
  obtain ⟨rl, hrl⟩ : ∃ rl, rl = 2 * wd := ⟨_, rfl⟩
  obtain ⟨nn, hnn⟩ : ∃ nn, nn = 2 * wd * ht := ⟨_, rfl⟩
  obtain ⟨rs, hrs⟩ : ∃ rs, rs = 1 + rl := ⟨_, rfl⟩
  have hnst : nn = st * ht := by rw [hnn, hst]
  have hnl : nn ≤ 28800 := by
    rw [hnn]; exact Nat.mul_le_mul (show 2 * wd ≤ 480 by omega) hh
  rw [← hrl, ← hrs] at hlen hft
  have e8 : (16 * (wd : Int) + 7) / 8 = (rl : Int) := by omega
  have e9 : (1 : Int) + (rl : Int) = (rs : Int) := by omega
  have e10 : IntKind.i64.wrap (rs : Int) = (rs : Int) := IntWalk.i64_in _ (by omega)
  have hmk := fun W => makeBytes_eq W .i64 .i64 rs (by omega)
  have hw480 : rl ≤ 480 := by omega
  have HRS := Lib.hid hrs
  have HRL := Lib.hid hrl
  have HST := Lib.hid hst
  have HNN := Lib.hid hnn
  have HNST := Lib.hid hnst
  clear hrs hrl hst hnn hnst
  go_enter Tryz.func93, Tryz.ntmps93
  go_wp2
  go_quiet (fail)
  have hk0 : Keep Nil2 W (W.drewN nq) := (Keep.refl Nil2 W).drewN nq
  obtain ⟨w0, hw0'⟩ : ∃ w0, w0 = W.drewN nq := ⟨_, rfl⟩
  have HW0 := Lib.hid hw0'
  clear hw0'
  go_wp2_with (go_at_call 98; fail)
  refine (imgRect _ wd ht).mono ?_
  rintro e w1 ⟨rfl, hk1⟩
  go_wp2_with (go_at_call 103; fail)
  refine (imgNewGray16 w1 wd ht hw hh).mono ?_
  rintro e w2 ⟨ib, pb, rfl, hib, hpb, hImg, hk2⟩
  rw [← HNN.out, ← HST.out] at hImg
  go_wp2
  obtain ⟨w3, hw3⟩ : ∃ w3, w3 = (w2.alloc (.cells (madeCells #[.int .u8 0] rs) 5)).alloc (.cells (madeCells #[.int .u8 0] rs) 5) := ⟨_, rfl⟩
  rw [← hw3]
  have r1 : RoomAt (w2.alloc (.cells (madeCells #[.int .u8 0] rs) 5)) w2.heap.size 0 rs := madeBytes w2 rs
  have r2 : RoomAt w3 (w2.heap.size + 1) 0 rs := by rw [hw3]; have := madeBytes (w2.alloc (.cells (madeCells #[.int .u8 0] rs) 5)) rs; simpa using this
  have hk3 : Keep Nil2 w2 w3 := by rw [hw3]; exact ((Keep.refl Nil2 w2).alloc _).alloc _
  have r1' : RoomAt w3 w2.heap.size 0 rs := by rw [hw3]; exact r1.keep ((Keep.refl Nil2 _).alloc _) fun _ _ e => e
  have hk01 : Keep Nil2 W w1 := hk0.trans hk1
  have hk02 : Keep Nil2 W w2 := hk01.trans hk2
  have hkW : Keep Nil2 W w3 := hk02.trans hk3
  have hI3 : I w3 R := hr.keep _ _ _ _ hI hkW fun _ _ e => e.elim
  have hImg3 := hImg.keep hk3 (fun _ e => e) (fun _ e => e)
  have hib2 := hImg.lt
  have hpb2 : pb < w2.heap.size := hImg.room.lt (by rw [HNST.out, HST.out]; exact Nat.mul_pos (Nat.mul_pos (by omega) hw0) hh0)
  have hsz1 := hk01.size
  have hsz2 := hk02.size
  have hWb : RipW I FR W R ib pb nn st wd ht w2.heap.size (w2.heap.size + 1) rs 0 (fun y k => rowAt R (2 * wd) y k) w3 :=
    ⟨by rw [Nat.zero_mul]; exact hI3, hImg3, fun j k hj => by omega, r1', r2, hkW.mono fun _ _ _ e => e.elim, ⟨by omega, by omega, by omega, by omega⟩, ⟨by omega, by omega, by omega, by omega, by omega⟩⟩
  clear hw3 r1
  refine wp_loop (fun a w => ∃ y px c1 c2, y ≤ ht ∧ px = 0 ∧ RipA a bd (.iface t (.pointer (some ra))) px 16 (.pointer (some ⟨ib, 0, none⟩)) (.iface 115 (.pointer (some ⟨ib, 0, none⟩))) wd ht c1 c2 rs y ∧ RipW I FR W R ib pb nn st wd ht c1 c2 rs y (fun y k => rowAt R (2 * wd) y k) w) (fun a _ => ht - (intOf (a.tmps.getD 27 undef)).toNat) ?_ ?_
  · exact ⟨0, 0, w2.heap.size, w2.heap.size + 1, Nat.zero_le _, rfl, ⟨rfl, rfl, rfl, rfl, rfl, rfl, rfl, rfl, rfl, rfl, rfl, rfl⟩, hWb⟩
  · rintro a w ⟨y, px, c1, c2, hy, hpxd, hA, hW⟩
    have HPX := Lib.hid hpxd
    clear hpxd
    obtain ⟨T, rfl, t0, t1, t11, tsl, t19, t20, t21, t25, t26, t27⟩ := hA.open
    unfold ripFrame
    rw [t0, t1, t11, tsl, t19, t20, t21, t25, t26, t27]
    clear t0 t1 t11 tsl t19 t20 t21 t25 t26 t27 hA
    by_cases hyt : y < ht
    · have hyI : decide ((y : Int) < (ht : Int)) = true := by simp; omega
      have HRD := Lib.hid (hW.read hr hyt (by have := HRS.out; omega) (by have := HRS.out; omega) hlen hft)
      clear hW
      go_wp2_with (go_at_call 53; fail)
      refine HRD.out.mono ?_
      rintro e w1' ⟨rfl, B, hM⟩
      obtain ⟨q1, hdec1⟩ := hr.dec w1' _ hM.inv
      have g7 := hdec1.f7
      have gt := hdec1.ft
      simp only [hcb] at g7
      simp only [hut] at gt
      have hB0 : w1'.cell? ⟨c1, 0, none⟩ = some (.int .u8 0) := by
        have := hM.row.at_ 0 0 hM.zero
        simpa using this
      have m0 := hM.img.i0
      have m1 := hM.img.i1
      have hpx : y * st + st ≤ nn := by
        have : (y + 1) * st ≤ ht * st := Nat.mul_le_mul_right _ hyt
        rw [Nat.add_mul, Nat.mul_comm ht] at this
        rw [HNST.out]; omega
      have HM := Lib.hid hM
      have hrsl : rs = 1 + rl := HRS.out
      have hst0 : 0 < st := by have := HST.out; omega
      have hrl0 : 0 < rl := by have := HRL.out; omega
      have HPP := Lib.hid hpx
      clear hM hdec1 HRD
      have q1 : (1 : Int) ≤ rs := by omega
      have q2 : ¬ rs = 1 := by omega
      have q5 : (0 : Int) < rs := by omega
      have hrs1 : rs - 1 = rl := by omega
      have q6 : (1 : Int) < rs := by omega
      have HRSL := Lib.hid hrsl
      have q7 : y ≤ 60 := by omega
      clear hrsl
      have hst8 : st ≤ 480 := by have := HST.out; omega
      go_wp2_with (go_at_call 53; fail)
      refine wp_loop (fun a wx => ∃ x, x ≤ wd ∧ RipA a bd (.iface t (.pointer (some ra))) px 16 (.pointer (some ⟨ib, 0, none⟩)) (.iface 115 (.pointer (some ⟨ib, 0, none⟩))) wd ht c1 c2 rs y ∧ a.tmps.getD 30 undef = .slice (some ⟨c1, 1, none⟩) rl rl ∧ a.tmps.getD 102 undef = .int .i64 (x : Int) ∧
        ImgAt wx ib pb nn st wd ht ∧ Keep (fun p j => p = pb ∧ y * st ≤ j) w1' wx ∧ ∀ k, k < x * 2 → wx.cell? ⟨pb, y * st + k, none⟩ = some (.int .u8 ((fun y k => rowAt R (2 * wd) y k) y k : Int))) (fun a _ => wd - (intOf (a.tmps.getD 102 undef)).toNat) ?_ ?_
      · exact ⟨0, Nat.zero_le _, ⟨rfl, rfl, rfl, rfl, rfl, rfl, rfl, rfl, rfl, rfl, rfl, rfl⟩, rfl, rfl, HM.out.img, Keep.refl _ _, fun k hk => by omega⟩
      · rintro a wx ⟨x, hx, hA2, h30, hxs, hIx, hkx, hcx⟩
        obtain ⟨T, rfl, t0, t1, t11, tsl, t19, t20, t21, t25, t26, t27⟩ := hA2.open
        have t30 : T 30 = .slice (some ⟨c1, 1, none⟩) rl rl := h30
        have txs : T 102 = .int .i64 (x : Int) := hxs
        unfold ripFrame
        rw [t0, t1, t11, tsl, t19, t20, t21, t25, t26, t27, t30, txs]
        clear t0 t1 t11 tsl t19 t20 t21 t25 t26 t27 t30 txs hA2 h30 hxs m0 m1 hB0 g7 gt
        by_cases hxd : x < wd
        · have hxI : decide ((x : Int) < (wd : Int)) = true := by simp; omega
          have HIX := Lib.hid hIx
          have HKX := Lib.hid hkx
          have HCX := Lib.hid hcx
          have hrow : BytesAt wx c1 0 B := HM.out.row.keep hkx fun _ _ e => HM.out.n1.2.1 e.1
          clear hIx hkx hcx
          obtain ⟨u0, hu0, hv0⟩ := HM.out.byte (2 * x) (by have := HRL.out; omega)
          have cu0 := hrow.at_ (2 * x + 1) u0 hu0
          rw [Nat.zero_add, show 2 * x + 1 = 1 + 2 * x by omega] at cu0
          obtain ⟨u1, hu1, hv1⟩ := HM.out.byte (2 * x + 1) (by have := HRL.out; omega)
          have cu1 := hrow.at_ (2 * x + 1 + 1) u1 hu1
          rw [Nat.zero_add, show 2 * x + 1 + 1 = 1 + (2 * x + 1) by omega] at cu1
          have b1 : IntKind.i64.wrap (2 * (x : Int)) = ((2 * x : Nat) : Int) := (IntWalk.i64_in _ (by omega)).trans (by omega)
          have l0 : ((2 * x : Nat) : Int) < rl := by have := HRL.out; omega
          have b2 : IntKind.i64.wrap (((2 * x : Nat) : Int) + 1) = ((2 * x + 1 : Nat) : Int) := (IntWalk.i64_in _ (by omega)).trans (by omega)
          have l1 : ((2 * x + 1 : Nat) : Int) < rl := by have := HRL.out; omega
          have hpxx : y * st + x * 2 + 2 ≤ nn := by
            have h1 : (x + 1) * 2 ≤ wd * 2 := Nat.mul_le_mul_right _ hxd
            have := HST.out
            have := HPP.out
            omega
          have hset := fun W (hi : ImgAt W ib pb nn st wd ht) => setGray16 hi x y hxd hyt hw hh hst8 hpxx hnl u0 u1
          have hb0 := u0.toNat_lt
          have hb1 := u1.toNat_lt
          obtain ⟨z0, hz0⟩ : ∃ z, z = u0.toNat * 256 + u1.toNat := ⟨_, rfl⟩
          rw [← hz0] at hset
          have hor0 : bits BinOp.or IntKind.u16 ((u0.toNat : Int) * 256) (u1.toNat : Int) = (z0 : Int) := by
            rw [hz0, show (u0.toNat : Int) * 256 = ((u0.toNat * 256 : Nat) : Int) by omega, u16_or_nat _ _ (by omega) (by omega), or_add _ _ 8 (by omega) (by omega)]
          have uw0 : IntKind.u16.wrap (u0.toNat : Int) = (u0.toNat : Int) := IntWalk.u16_in _ (by omega)
          have vw0 : IntKind.u16.wrap (u1.toNat : Int) = (u1.toNat : Int) := IntWalk.u16_in _ (by omega)
          have xw0 : IntKind.u16.wrap ((u0.toNat : Int) * 256) = (u0.toNat : Int) * 256 := IntWalk.u16_in _ (by omega)
          have HV0 := Lib.hid hv0
          have HV1 := Lib.hid hv1
          have HSET := Lib.hid hset
          clear hset hrow hu0 hv0 hu1 hv1 hz0 hb0 hb1
          go_wp2
          go_quiet (fail)
          go_wp2_with (go_at_call 110; fail)
          refine (setFar (l := [u0, u1]) HIX.out (by repeat (first | exact Keep.refl _ _ | apply Keep.drewN)) fun hi => HSET.out _ hi).mono ?_
          rintro e w2' ⟨rfl, hI2, hbs, hks⟩
          have kall : Keep (fun p j => p = pb ∧ y * st ≤ j) w1' w2' := HKX.out.trans (hks.mono fun p j _ e => ⟨e.1, by omega⟩)
          have hc2 : ∀ k, k < (x + 1) * 2 → w2'.cell? ⟨pb, y * st + k, none⟩ = some (.int .u8 ((fun y k => rowAt R (2 * wd) y k) y k : Int)) := fun k hk => by
            by_cases h1 : k < x * 2
            · exact hks.get (HCX.out k h1) fun e => by omega
            · have hrw : rs - 1 = 2 * wd := by have := HRSL.out; have := HRL.out; omega
              obtain ⟨c, hc, hcn⟩ : ∃ c, k = x * 2 + c ∧ c < 2 := ⟨k - x * 2, by omega, by omega⟩
              subst hc
              have h3 := hbs c (by simpa using hcn)
              rw [show y * st + (x * 2 + c) = y * st + x * 2 + c by omega, h3]
              match c, hcn with
              | 0, _ =>
                have h4 := HV0.out
                rw [hrw] at h4
                show some (Value.int .u8 (u0.toNat : Int)) = some (Value.int .u8 (rowAt R (2 * wd) y (x * 2 + 0) : Int))
                rw [h4, show x * 2 + 0 = 2 * x by omega]
              | 1, _ =>
                have h4 := HV1.out
                rw [hrw] at h4
                show some (Value.int .u8 (u1.toNat : Int)) = some (Value.int .u8 (rowAt R (2 * wd) y (x * 2 + 1) : Int))
                rw [h4, show x * 2 + 1 = 2 * x + 1 by omega]
          have HALL := Lib.hid (And.intro hI2 (And.intro kall hc2))
          clear hbs hks kall hI2 hc2
          go_wp2
          refine ⟨⟨x + 1, by omega, ⟨rfl, rfl, rfl, rfl, rfl, rfl, rfl, rfl, rfl, rfl, rfl, rfl⟩, rfl, by show Value.int .i64 ((x : Int) + 1) = _; congr 1, HALL.out.1, HALL.out.2.1, HALL.out.2.2⟩, ?_⟩
          show wd - (intOf (.int .i64 ((x : Int) + 1))).toNat < wd - (intOf (.int .i64 (x : Int))).toNat
          simp only [intOf]
          omega
        · have hxI : decide ((x : Int) < (wd : Int)) = false := by simp; omega
          obtain rfl : x = wd := by omega
          have HNX := Lib.hid (HM.out.next hr hkx (fun _ _ e => e) hIx.room (fun k hk => hcx k (by have := HST.out; omega)))
          clear hIx hkx hcx
          go_wp2
          refine ⟨⟨y + 1, px, c2, c1, by omega, HPX.out, ⟨rfl, rfl, rfl, rfl, rfl, rfl, rfl, rfl, rfl, rfl, rfl, by show Value.int .i64 ((y : Int) + 1) = _; congr 1⟩, HNX.out⟩, ?_⟩
          show ht - (intOf (.int .i64 ((y : Int) + 1))).toNat < ht - (intOf (.int .i64 (y : Int))).toNat
          simp only [intOf]
          omega
    · have hyI : decide ((y : Int) < (ht : Int)) = false := by simp; omega
      obtain rfl : y = ht := by omega
      have HW := Lib.hid hW
      clear hW
      go_wp2
      go_ret2
      refine ⟨ib, pb, rfl, ?_, ?_, ?_, HW.out.b1.1, HW.out.b1.2.1, HW.out.k⟩
      · have := HW.out.img
        rw [HNN.out, HST.out] at this
        exact this
      · have := HW.out.pix
        rw [HST.out] at this
        exact this
      · have := HW.out.inv
        rw [List.drop_eq_nil_of_le (by rw [hlen]; exact Nat.le_refl _)] at this
        exact this
end Go.Proofs.YtnbbppjgamdfeaaGreatDoor
end

/- readImagePass: one kind of pixels (printed by gen_e4.py). -/
section
set_option linter.unusedVariables false
set_option linter.unusedSimpArgs false
namespace Go.Proofs.YtnbbppjgamdfeaaGreatDoor
open Go Go.RowKit

set_option maxRecDepth 100000 in
set_option maxHeartbeats 8000000 in
theorem ripP8 {t : TypeId} {ra : Addr} {f : FuncId} {I : World → List UInt8 → Prop} {FR : Nat → Nat → Prop} {Ok : Nat → Prop} {bd rb cb : Nat} {d : Dv} {W : World} (hr : RipRd t ra f I FR Ok bd rb cb d W) (wd ht : Nat) (hw : wd ≤ 60) (hh : ht ≤ 60) (hw0 : 0 < wd) (hh0 : 0 < ht)
    (hdw : d.width = (wd : Int)) (hdh : d.height = (ht : Int)) (hcb : d.cb = 10) (hdep : d.depth = 8) (hlc : d.lace = 0) (hut : d.useT = false) (plb pn pc : Nat) (hpal : d.pal = .slice (some ⟨plb, 0, none⟩) pn pc) (hpn : pn < 256) (R : List UInt8) (hI : I W R) (hlen : R.length = ht * (1 + 1 * wd)) (hft : ∀ y, y < ht → R.getD (y * (1 + 1 * wd)) 0 = 0) (hcnt : ∀ y x, y < ht → x < wd → rowAt R (1 * wd) y x < pn) :
    Calls Tryz.prog 93 #[.pointer (some ⟨bd, 0, none⟩), .iface t (.pointer (some ra)), .int .i64 0, .bool false] W fun e w' => ∃ ib pb, e = .returned (.tuple #[.iface 125 (.pointer (some ⟨ib, 0, none⟩)), .nilIface]) ∧
      ImgAt w' ib pb (1 * wd * ht) (1 * wd) wd ht ∧ PixRows w' pb (1 * wd) ht (fun y k => rowAt R (1 * wd) y k) ∧ w'.cell? ⟨ib, 6, none⟩ = some (.slice (some ⟨plb, 0, none⟩) pn pc) ∧ I w' [] ∧ W.heap.size ≤ ib ∧ W.heap.size ≤ pb ∧ Keep FR W w' := by
  obtain ⟨q, hdec⟩ := hr.dec W R hI
  have f3 := hdec.f3
  have f4 := hdec.f4
  have f5 := hdec.f5
  have f6 := hdec.f6
  simp only [hpal] at f6
  have f7 := hdec.f7
  have fl := hdec.fl
  have ft := hdec.ft
  simp only [hdw] at f3
  simp only [hdh] at f4
  simp only [hdep] at f5
  simp only [hcb] at f7
  simp only [hlc] at fl
  simp only [hut] at ft
  obtain ⟨st, hst⟩ : ∃ st, st = 1 * wd := ⟨_, rfl⟩
  obtain ⟨rl, hrl⟩ : ∃ rl, rl = 1 * wd := ⟨_, rfl⟩
  obtain ⟨nn, hnn⟩ : ∃ nn, nn = 1 * wd * ht := ⟨_, rfl⟩
  obtain ⟨rs, hrs⟩ : ∃ rs, rs = 1 + rl := ⟨_, rfl⟩
  have hnst : nn = st * ht := by rw [hnn, hst]
  have hnl : nn ≤ 28800 := by
    rw [hnn]; exact Nat.mul_le_mul (show 1 * wd ≤ 480 by omega) hh
  rw [← hrl, ← hrs] at hlen hft
  have e8 : (8 * (wd : Int) + 7) / 8 = (rl : Int) := by omega
  have e9 : (1 : Int) + (rl : Int) = (rs : Int) := by omega
  have e10 : IntKind.i64.wrap (rs : Int) = (rs : Int) := IntWalk.i64_in _ (by omega)
  have hmk := fun W => makeBytes_eq W .i64 .i64 rs (by omega)
  have hw480 : rl ≤ 480 := by omega
  have HRS := Lib.hid hrs
  have HRL := Lib.hid hrl
  have HST := Lib.hid hst
  have HNN := Lib.hid hnn
  have HNST := Lib.hid hnst
  clear hrs hrl hst hnn hnst
  go_enter Tryz.func93, Tryz.ntmps93
  go_wp2
  go_quiet (fail)
  go_wp2
  have hrect := fun V (hs : Keep Nil2 W V ∧ V.cell? ⟨bd, 6, none⟩ = some (.slice (some ⟨plb, 0, none⟩) pn pc)) => (imgRect V wd ht).mono (fun e w' (h : e = .returned (rectV wd ht) ∧ Keep Nil2 V w') => And.intro h.1 (show Keep Nil2 W w' ∧ w'.cell? ⟨bd, 6, none⟩ = some (.slice (some ⟨plb, 0, none⟩) pn pc) from ⟨hs.1.trans h.2, h.2.get hs.2 fun e => e⟩))
  have HRECT := Lib.hid hrect
  clear hrect
  go_region_held3 (fun w' => Keep Nil2 W w' ∧ w'.cell? ⟨bd, 6, none⟩ = some (.slice (some ⟨plb, 0, none⟩) pn pc))
    (first | exact ⟨((Keep.refl Nil2 W).drewN _).drew, f6⟩ | exact ⟨hsR.1.trans hk2, hk2.get hsR.2 fun e => e⟩ | exact hsR)
    (first | (go_at_call 98; refine (HRECT.out _ (by assumption)).mono ?_; rintro e w1 ⟨rfl, hsR⟩) | (go_at_call 101; refine (imgNewPaletted w1 wd ht plb pn pc hw hh).mono ?_; rintro e w2 ⟨ib, pb, rfl, hib, hpb, hImg, hPal, hk2⟩))
  have hk01 : Keep Nil2 W w1 := hsR.1
  rw [← HNN.out, ← HST.out] at hImg
  go_wp2
  obtain ⟨w3, hw3⟩ : ∃ w3, w3 = (w2.alloc (.cells (madeCells #[.int .u8 0] rs) 5)).alloc (.cells (madeCells #[.int .u8 0] rs) 5) := ⟨_, rfl⟩
  rw [← hw3]
  have r1 : RoomAt (w2.alloc (.cells (madeCells #[.int .u8 0] rs) 5)) w2.heap.size 0 rs := madeBytes w2 rs
  have r2 : RoomAt w3 (w2.heap.size + 1) 0 rs := by rw [hw3]; have := madeBytes (w2.alloc (.cells (madeCells #[.int .u8 0] rs) 5)) rs; simpa using this
  have hk3 : Keep Nil2 w2 w3 := by rw [hw3]; exact ((Keep.refl Nil2 w2).alloc _).alloc _
  have r1' : RoomAt w3 w2.heap.size 0 rs := by rw [hw3]; exact r1.keep ((Keep.refl Nil2 _).alloc _) fun _ _ e => e
  have hk02 : Keep Nil2 W w2 := hk01.trans hk2
  have hkW : Keep Nil2 W w3 := hk02.trans hk3
  have hI3 : I w3 R := hr.keep _ _ _ _ hI hkW fun _ _ e => e.elim
  have hImg3 := hImg.keep hk3 (fun _ e => e) (fun _ e => e)
  have hPal3 := hk3.get hPal (fun e => e)
  have hib2 := hImg.lt
  have hpb2 : pb < w2.heap.size := hImg.room.lt (by rw [HNST.out, HST.out]; exact Nat.mul_pos (Nat.mul_pos (by omega) hw0) hh0)
  have hsz1 := hk01.size
  have hsz2 := hk02.size
  have hWb : RipW I FR W R ib pb nn st wd ht w2.heap.size (w2.heap.size + 1) rs 0 (fun y k => rowAt R (1 * wd) y k) w3 :=
    ⟨by rw [Nat.zero_mul]; exact hI3, hImg3, fun j k hj => by omega, r1', r2, hkW.mono fun _ _ _ e => e.elim, ⟨by omega, by omega, by omega, by omega⟩, ⟨by omega, by omega, by omega, by omega, by omega⟩⟩
  clear hw3 r1
  refine wp_loop (fun a w => ∃ y px c1 c2, y ≤ ht ∧ px = y * st ∧ RipA a bd (.iface t (.pointer (some ra))) px 14 (.pointer (some ⟨ib, 0, none⟩)) (.iface 125 (.pointer (some ⟨ib, 0, none⟩))) wd ht c1 c2 rs y ∧ RipW I FR W R ib pb nn st wd ht c1 c2 rs y (fun y k => rowAt R (1 * wd) y k) w ∧ w.cell? ⟨ib, 6, none⟩ = some (.slice (some ⟨plb, 0, none⟩) pn pc)) (fun a _ => ht - (intOf (a.tmps.getD 27 undef)).toNat) ?_ ?_
  · exact ⟨0, 0, w2.heap.size, w2.heap.size + 1, Nat.zero_le _, (Nat.zero_mul _).symm, ⟨rfl, rfl, rfl, rfl, rfl, rfl, rfl, rfl, rfl, rfl, rfl, rfl⟩, hWb, hPal3⟩
  · rintro a w ⟨y, px, c1, c2, hy, hpxd, hA, hW, hPw⟩
    have HPX := Lib.hid hpxd
    clear hpxd
    obtain ⟨T, rfl, t0, t1, t11, tsl, t19, t20, t21, t25, t26, t27⟩ := hA.open
    unfold ripFrame
    rw [t0, t1, t11, tsl, t19, t20, t21, t25, t26, t27]
    clear t0 t1 t11 tsl t19 t20 t21 t25 t26 t27 hA
    by_cases hyt : y < ht
    · have hyI : decide ((y : Int) < (ht : Int)) = true := by simp; omega
      have HRD := Lib.hid (hW.readX hr hyt (by have := HRS.out; omega) (by have := HRS.out; omega) hlen hft)
      clear hW
      go_wp2_with (go_at_call 53; fail)
      refine HRD.out.mono ?_
      rintro e w1' ⟨rfl, B, hM, hX⟩
      have hP1 := hX 6 _ hPw
      obtain ⟨q1, hdec1⟩ := hr.dec w1' _ hM.inv
      have g7 := hdec1.f7
      have gt := hdec1.ft
      simp only [hcb] at g7
      simp only [hut] at gt
      have hB0 : w1'.cell? ⟨c1, 0, none⟩ = some (.int .u8 0) := by
        have := hM.row.at_ 0 0 hM.zero
        simpa using this
      have m0 := hM.img.i0
      have m1 := hM.img.i1
      have hpx : y * st + st ≤ nn := by
        have : (y + 1) * st ≤ ht * st := Nat.mul_le_mul_right _ hyt
        rw [Nat.add_mul, Nat.mul_comm ht] at this
        rw [HNST.out]; omega
      have HM := Lib.hid hM
      have hrsl : rs = 1 + rl := HRS.out
      have hst0 : 0 < st := by have := HST.out; omega
      have hrl0 : 0 < rl := by have := HRL.out; omega
      have HPP := Lib.hid hpx
      clear hM hdec1 HRD hX
      have q1 : (1 : Int) ≤ rs := by omega
      have q2 : ¬ rs = 1 := by omega
      have q5 : (0 : Int) < rs := by omega
      have hrs1 : rs - 1 = rl := by omega
      have q6 : (1 : Int) < rs := by omega
      have HRSL := Lib.hid hrsl
      clear hrsl
      have qp : ((pn : Int) == 256) = false := by simp; omega
      go_wp2_with (go_at_call 53; fail)
      refine wp_loop (fun a wx => ∃ x, x ≤ wd ∧ RipA a bd (.iface t (.pointer (some ra))) px 14 (.pointer (some ⟨ib, 0, none⟩)) (.iface 125 (.pointer (some ⟨ib, 0, none⟩))) wd ht c1 c2 rs y ∧ a.tmps.getD 30 undef = .slice (some ⟨c1, 1, none⟩) rl rl ∧ a.tmps.getD 97 undef = .int .i64 (x : Int) ∧ Keep Nil2 w1' wx) (fun a _ => wd - (intOf (a.tmps.getD 97 undef)).toNat) ?_ ?_
      · exact ⟨0, Nat.zero_le _, ⟨rfl, rfl, rfl, rfl, rfl, rfl, rfl, rfl, rfl, rfl, rfl, rfl⟩, rfl, rfl, Keep.refl _ _⟩
      · rintro a wx ⟨x, hx, hA2, h30, hxs, hkx⟩
        obtain ⟨T, rfl, t0, t1, t11, tsl, t19, t20, t21, t25, t26, t27⟩ := hA2.open
        have t30 : T 30 = .slice (some ⟨c1, 1, none⟩) rl rl := h30
        have txs : T 97 = .int .i64 (x : Int) := hxs
        unfold ripFrame
        rw [t0, t1, t11, tsl, t19, t20, t21, t25, t26, t27, t30, txs]
        have palx := hkx.get hP1 (fun e => e)
        have hImx := HM.out.img.keep hkx (fun _ e => e) (fun _ e => e)
        have m0x := hImx.i0
        have m1x := hImx.i1
        clear t0 t1 t11 tsl t19 t20 t21 t25 t26 t27 t30 txs hA2 h30 hxs m0 m1 hB0 g7 gt hPw
        have HKX := Lib.hid hkx
        have HIMX := Lib.hid hImx
        by_cases hxd : x < wd
        · have hxI : decide ((x : Int) < (wd : Int)) = true := by simp; omega
          have hrow : BytesAt wx c1 0 B := HM.out.row.keep hkx fun _ _ e => e
          obtain ⟨u, hu, hu2⟩ := HM.out.byte x (by have := HRL.out; omega)
          have cu := hrow.at_ (x + 1) u hu
          rw [Nat.zero_add, show x + 1 = 1 + x by omega] at cu
          have hxl : (x : Int) < rl := by have := HRL.out; omega
          have hup : u.toNat < pn := by
            have h1 := hcnt y x hyt hxd
            have hrw : rs - 1 = 1 * wd := by have := HRSL.out; have := HRL.out; omega
            rw [hrw] at hu2
            omega
          have hpu : decide ((pn : Int) ≤ (u.toNat : Int)) = false := by simp; omega
          clear hrow hu hu2 hkx hImx
          go_wp2
          go_quiet (fail)
          go_wp2
          refine ⟨⟨x + 1, by omega, ⟨rfl, rfl, rfl, rfl, rfl, rfl, rfl, rfl, rfl, rfl, rfl, rfl⟩, rfl, by show Value.int .i64 ((x : Int) + 1) = _; congr 1, HKX.out.drewN _⟩, ?_⟩
          show wd - (intOf (.int .i64 ((x : Int) + 1))).toNat < wd - (intOf (.int .i64 (x : Int))).toNat
          simp only [intOf]
          omega
        · have hxI : decide ((x : Int) < (wd : Int)) = false := by simp; omega
          clear hkx hImx
          rw [← HPX.out] at hpx
          have q3 : (px : Int) ≤ nn := by omega
          have q4 : ¬ nn = px := by omega
          have hle : st = rl := by rw [HST.out, HRL.out]
          obtain ⟨L, hL⟩ : ∃ L, L = B.drop 1 := ⟨_, rfl⟩
          have hLL : L.length = st := by rw [hL, List.length_drop, HM.out.len, HRSL.out]; omega
          have HL := Lib.hid hL
          have HLL := Lib.hid hLL
          have HLB := Lib.hid (show BytesAt wx c1 1 L by rw [hL]; have := (HM.out.row.keep HKX.out fun _ _ e => e).drop 1; rwa [Nat.zero_add] at this)
          have HLE := Lib.hid hle
          clear hL hLL hle
          go_wp2_with (with_reducible refine wpList_copy_bytes rfl (.tmp 1120) (.tmp 1121) 23 23 rfl 5 Tryz.underlying23 (by kernel_rfl) pb px (nn - px) (nn - px) c1 1 rl rl rfl rfl L ?c1 ?c2 ?c3 ?_)
          case c1 =>
            rw [HLL.out]
            have := HLE.out; have := HRSL.out
            show st = min rl (nn - px)
            omega
          case c2 => exact HLB.out
          case c3 => rw [HLL.out]; exact fun j hj => by have := HIMX.out.room (px + j) (by omega); simpa using this
          rw [HLL.out]
          intro w2' hkc hbc hfc
          have m1c := hkc.get m1x (fun e => HIMX.out.ne e.1)
          have HNX := Lib.hid (HM.out.next hr ((HKX.out.mono (G := fun p j => p = pb ∧ px ≤ j ∧ j < px + st) fun _ _ _ e => e.elim).trans hkc) (fun x j e => ⟨e.1, by have := HPX.out; omega⟩) (HIMX.out.room.after (l := L) hkc (fun y' e => by rw [HLL.out]; exact e.2) hbc hfc) (fun k hk => by
            obtain ⟨x, hx, hxv⟩ := HM.out.byte k (by have := HLE.out; have := HRSL.out; omega)
            have h1 : L[k]? = some x := by rw [HL.out, List.getElem?_drop, Nat.add_comm]; exact hx
            have h2 := hbc.at_ k x h1
            rw [HPX.out] at h2
            rw [h2, hxv, HRSL.out, show 1 + rl - 1 = rl by omega, HRL.out]))
          have HPN := Lib.hid (hkc.get palx (fun e => HIMX.out.ne e.1))
          clear hkc hbc hfc m0x m1x
          go_wp2
          refine ⟨⟨y + 1, px + st, c2, c1, by omega, by rw [Nat.add_mul, Nat.one_mul, HPX.out], ⟨rfl, rfl, rfl, rfl, by show Value.int .i64 ((px : Int) + (st : Int)) = _; congr 1, rfl, rfl, rfl, rfl, rfl, rfl, by show Value.int .i64 ((y : Int) + 1) = _; congr 1⟩, HNX.out, HPN.out⟩, ?_⟩
          show ht - (intOf (.int .i64 ((y : Int) + 1))).toNat < ht - (intOf (.int .i64 (y : Int))).toNat
          simp only [intOf]
          omega
    · have hyI : decide ((y : Int) < (ht : Int)) = false := by simp; omega
      obtain rfl : y = ht := by omega
      have HW := Lib.hid hW
      clear hW
      go_wp2
      go_ret2
      refine ⟨ib, pb, rfl, ?_, ?_, hPw, ?_, HW.out.b1.1, HW.out.b1.2.1, HW.out.k⟩
      · have := HW.out.img
        rw [HNN.out, HST.out] at this
        exact this
      · have := HW.out.pix
        rw [HST.out] at this
        exact this
      · have := HW.out.inv
        rw [List.drop_eq_nil_of_le (by rw [hlen]; exact Nat.le_refl _)] at this
        exact this
end Go.Proofs.YtnbbppjgamdfeaaGreatDoor
end
