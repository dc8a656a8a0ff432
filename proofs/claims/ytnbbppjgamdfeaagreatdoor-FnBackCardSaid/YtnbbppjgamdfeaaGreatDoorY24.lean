/- laws.FnBack, part 24 of 54: F3. -/
import Derived.Test.YtnbbppjgamdfeaaGreatDoorY12
import Derived.Test.YtnbbppjgamdfeaaGreatDoorY13

/- readImagePass: one kind of pixels (printed by gen_e4.py). -/
section
set_option linter.unusedVariables false
set_option linter.unusedSimpArgs false
namespace Go.Proofs.YtnbbppjgamdfeaaGreatDoor
open Go Go.RowKit

theorem smpP2 (R : List UInt8) (rl y q x2 : Nat) (h : x2 < 4) : smp R rl 2 y (4 * q + x2) = rowAt R rl y q * 2 ^ (2 * x2) % 256 / 64 := by
  have hu : rowAt R rl y q < 256 := by unfold rowAt; exact UInt8.toNat_lt _
  unfold smp
  rw [if_neg (by decide), if_neg (by decide), show (4 * q + x2) * 2 / 8 = q by omega, show (4 * q + x2) * 2 % 8 = 2 * x2 by omega]
  generalize rowAt R rl y q = v at hu ⊢
  have hc : x2 = 0 ∨ x2 = 1 ∨ x2 = 2 ∨ x2 = 3 := by omega
  rcases hc with rfl | rfl | rfl | rfl <;> simp <;> omega

set_option maxRecDepth 100000 in
set_option maxHeartbeats 8000000 in
theorem ripP2 {t : TypeId} {ra : Addr} {f : FuncId} {I : World → List UInt8 → Prop} {FR : Nat → Nat → Prop} {Ok : Nat → Prop} {bd rb cb : Nat} {d : Dv} {W : World} (hr : RipRd t ra f I FR Ok bd rb cb d W) (wd ht : Nat) (hw : wd ≤ 60) (hh : ht ≤ 60) (hw0 : 0 < wd) (hh0 : 0 < ht)
    (hdw : d.width = (wd : Int)) (hdh : d.height = (ht : Int)) (hcb : d.cb = 8) (hdep : d.depth = 2) (hlc : d.lace = 0) (hut : d.useT = false) (plb pn pc : Nat) (hpal : d.pal = .slice (some ⟨plb, 0, none⟩) pn pc) (hpn : pn < 256) (R : List UInt8) (hI : I W R) (hlen : R.length = ht * (1 + (wd * 2 + 7) / 8)) (hft : ∀ y, y < ht → R.getD (y * (1 + (wd * 2 + 7) / 8)) 0 = 0) (hcnt : ∀ y x, y < ht → x < wd → smp R ((wd * 2 + 7) / 8) 2 y x < pn) :
    Calls Tryz.prog 93 #[.pointer (some ⟨bd, 0, none⟩), .iface t (.pointer (some ra)), .int .i64 0, .bool false] W fun e w' => ∃ ib pb, e = .returned (.tuple #[.iface 125 (.pointer (some ⟨ib, 0, none⟩)), .nilIface]) ∧
      ImgAt w' ib pb (1 * wd * ht) (1 * wd) wd ht ∧ PixRows w' pb (1 * wd) ht (fun y k => smp R ((wd * 2 + 7) / 8) 2 y k) ∧ w'.cell? ⟨ib, 6, none⟩ = some (.slice (some ⟨plb, 0, none⟩) pn pc) ∧ I w' [] ∧ W.heap.size ≤ ib ∧ W.heap.size ≤ pb ∧ Keep FR W w' := by
  obtain ⟨q, hdec⟩ := hr.dec W R hI
  have f3 := hdec.f3
  have f4 := hdec.f4
  have f5 := hdec.f5
  have f6 := hdec.f6
  simp only [hpal] at f6
  have f7 := hdec.f7
  have fl := hdec.fl
  have ft := hdec.ft
  simp only [hdw] at f3
  simp only [hdh] at f4
  simp only [hdep] at f5
  simp only [hcb] at f7
  simp only [hlc] at fl
  simp only [hut] at ft
  obtain ⟨st, hst⟩ : ∃ st, st = 1 * wd := ⟨_, rfl⟩
  obtain ⟨rl, hrl⟩ : ∃ rl, rl = (wd * 2 + 7) / 8 := ⟨_, rfl⟩
  obtain ⟨nn, hnn⟩ : ∃ nn, nn = 1 * wd * ht := ⟨_, rfl⟩
  obtain ⟨rs, hrs⟩ : ∃ rs, rs = 1 + rl := ⟨_, rfl⟩
  have hnst : nn = st * ht := by rw [hnn, hst]
  have hnl : nn ≤ 28800 := by
    rw [hnn]; exact Nat.mul_le_mul (show 1 * wd ≤ 480 by omega) hh
  rw [← hrl, ← hrs] at hlen hft
  have e8 : (2 * (wd : Int) + 7) / 8 = (rl : Int) := by omega
  have e9 : (1 : Int) + (rl : Int) = (rs : Int) := by omega
  have e10 : IntKind.i64.wrap (rs : Int) = (rs : Int) := IntWalk.i64_in _ (by omega)
  have hmk := fun W => makeBytes_eq W .i64 .i64 rs (by omega)
  have hw480 : rl ≤ 480 := by omega
  have HRS := Lib.hid hrs
  have HRL := Lib.hid hrl
  have HST := Lib.hid hst
  have HNN := Lib.hid hnn
  have HNST := Lib.hid hnst
  clear hrs hrl hst hnn hnst
  go_enter Tryz.func93, Tryz.ntmps93
  go_wp2
  go_quiet (fail)
  go_wp2
  have hrect := fun V (hs : Keep Nil2 W V ∧ V.cell? ⟨bd, 6, none⟩ = some (.slice (some ⟨plb, 0, none⟩) pn pc)) => (imgRect V wd ht).mono (fun e w' (h : e = .returned (rectV wd ht) ∧ Keep Nil2 V w') => And.intro h.1 (show Keep Nil2 W w' ∧ w'.cell? ⟨bd, 6, none⟩ = some (.slice (some ⟨plb, 0, none⟩) pn pc) from ⟨hs.1.trans h.2, h.2.get hs.2 fun e => e⟩))
  have HRECT := Lib.hid hrect
  clear hrect
  go_region_held3 (fun w' => Keep Nil2 W w' ∧ w'.cell? ⟨bd, 6, none⟩ = some (.slice (some ⟨plb, 0, none⟩) pn pc))
    (first | exact ⟨((Keep.refl Nil2 W).drewN _).drew, f6⟩ | exact ⟨hsR.1.trans hk2, hk2.get hsR.2 fun e => e⟩ | exact hsR)
    (first | (go_at_call 98; refine (HRECT.out _ (by assumption)).mono ?_; rintro e w1 ⟨rfl, hsR⟩) | (go_at_call 101; refine (imgNewPaletted w1 wd ht plb pn pc hw hh).mono ?_; rintro e w2 ⟨ib, pb, rfl, hib, hpb, hImg, hPal, hk2⟩))
  have hk01 : Keep Nil2 W w1 := hsR.1
  rw [← HNN.out, ← HST.out] at hImg
  go_wp2
  obtain ⟨w3, hw3⟩ : ∃ w3, w3 = (w2.alloc (.cells (madeCells #[.int .u8 0] rs) 5)).alloc (.cells (madeCells #[.int .u8 0] rs) 5) := ⟨_, rfl⟩
  rw [← hw3]
  have r1 : RoomAt (w2.alloc (.cells (madeCells #[.int .u8 0] rs) 5)) w2.heap.size 0 rs := madeBytes w2 rs
  have r2 : RoomAt w3 (w2.heap.size + 1) 0 rs := by rw [hw3]; have := madeBytes (w2.alloc (.cells (madeCells #[.int .u8 0] rs) 5)) rs; simpa using this
  have hk3 : Keep Nil2 w2 w3 := by rw [hw3]; exact ((Keep.refl Nil2 w2).alloc _).alloc _
  have r1' : RoomAt w3 w2.heap.size 0 rs := by rw [hw3]; exact r1.keep ((Keep.refl Nil2 _).alloc _) fun _ _ e => e
  have hk02 : Keep Nil2 W w2 := hk01.trans hk2
  have hkW : Keep Nil2 W w3 := hk02.trans hk3
  have hI3 : I w3 R := hr.keep _ _ _ _ hI hkW fun _ _ e => e.elim
  have hImg3 := hImg.keep hk3 (fun _ e => e) (fun _ e => e)
  have hPal3 := hk3.get hPal (fun e => e)
  have hib2 := hImg.lt
  have hpb2 : pb < w2.heap.size := hImg.room.lt (by rw [HNST.out, HST.out]; exact Nat.mul_pos (Nat.mul_pos (by omega) hw0) hh0)
  have hsz1 := hk01.size
  have hsz2 := hk02.size
  have hWb : RipW I FR W R ib pb nn st wd ht w2.heap.size (w2.heap.size + 1) rs 0 (fun y k => smp R ((wd * 2 + 7) / 8) 2 y k) w3 :=
    ⟨by rw [Nat.zero_mul]; exact hI3, hImg3, fun j k hj => by omega, r1', r2, hkW.mono fun _ _ _ e => e.elim, ⟨by omega, by omega, by omega, by omega⟩, ⟨by omega, by omega, by omega, by omega, by omega⟩⟩
  clear hw3 r1
  refine wp_loop (fun a w => ∃ y px c1 c2, y ≤ ht ∧ px = 0 ∧ RipA a bd (.iface t (.pointer (some ra))) px 14 (.pointer (some ⟨ib, 0, none⟩)) (.iface 125 (.pointer (some ⟨ib, 0, none⟩))) wd ht c1 c2 rs y ∧ RipW I FR W R ib pb nn st wd ht c1 c2 rs y (fun y k => smp R ((wd * 2 + 7) / 8) 2 y k) w ∧ w.cell? ⟨ib, 6, none⟩ = some (.slice (some ⟨plb, 0, none⟩) pn pc)) (fun a _ => ht - (intOf (a.tmps.getD 27 undef)).toNat) ?_ ?_
  · exact ⟨0, 0, w2.heap.size, w2.heap.size + 1, Nat.zero_le _, rfl, ⟨rfl, rfl, rfl, rfl, rfl, rfl, rfl, rfl, rfl, rfl, rfl, rfl⟩, hWb, hPal3⟩
  · rintro a w ⟨y, px, c1, c2, hy, hpxd, hA, hW, hPw⟩
    have HPX := Lib.hid hpxd
    clear hpxd
    obtain ⟨T, rfl, t0, t1, t11, tsl, t19, t20, t21, t25, t26, t27⟩ := hA.open
    unfold ripFrame
    rw [t0, t1, t11, tsl, t19, t20, t21, t25, t26, t27]
    clear t0 t1 t11 tsl t19 t20 t21 t25 t26 t27 hA
    by_cases hyt : y < ht
    · have hyI : decide ((y : Int) < (ht : Int)) = true := by simp; omega
      have HRD := Lib.hid (hW.readX hr hyt (by have := HRS.out; omega) (by have := HRS.out; omega) hlen hft)
      clear hW
      go_wp2_with (go_at_call 53; fail)
      refine HRD.out.mono ?_
      rintro e w1' ⟨rfl, B, hM, hX⟩
      have hP1 := hX 6 _ hPw
      obtain ⟨q1, hdec1⟩ := hr.dec w1' _ hM.inv
      have g7 := hdec1.f7
      have gt := hdec1.ft
      simp only [hcb] at g7
      simp only [hut] at gt
      have hB0 : w1'.cell? ⟨c1, 0, none⟩ = some (.int .u8 0) := by
        have := hM.row.at_ 0 0 hM.zero
        simpa using this
      have m0 := hM.img.i0
      have m1 := hM.img.i1
      have hpx : y * st + st ≤ nn := by
        have : (y + 1) * st ≤ ht * st := Nat.mul_le_mul_right _ hyt
        rw [Nat.add_mul, Nat.mul_comm ht] at this
        rw [HNST.out]; omega
      have HM := Lib.hid hM
      have hrsl : rs = 1 + rl := HRS.out
      have hst0 : 0 < st := by have := HST.out; omega
      have hrl0 : 0 < rl := by have := HRL.out; omega
      have HPP := Lib.hid hpx
      clear hM hdec1 HRD hX
      have q1 : (1 : Int) ≤ rs := by omega
      have q2 : ¬ rs = 1 := by omega
      have q5 : (0 : Int) < rs := by omega
      have hrs1 : rs - 1 = rl := by omega
      have q6 : (1 : Int) < rs := by omega
      have HRSL := Lib.hid hrsl
      have q7 : y ≤ 60 := by omega
      clear hrsl
      have hst8 : st ≤ 480 := by have := HST.out; omega
      go_wp2_with (go_at_call 53; fail)
      refine wp_loop (fun a wx => ∃ q x, q ≤ wd ∧ x = 4 * q ∧ x < wd + 4 ∧ RipA a bd (.iface t (.pointer (some ra))) px 14 (.pointer (some ⟨ib, 0, none⟩)) (.iface 125 (.pointer (some ⟨ib, 0, none⟩))) wd ht c1 c2 rs y ∧ a.tmps.getD 30 undef = .slice (some ⟨c1, 1, none⟩) rl rl ∧ a.tmps.getD 89 undef = .int .i64 (x : Int) ∧ ImgAt wx ib pb nn st wd ht ∧ Keep (fun p j => p = pb ∧ y * st ≤ j) w1' wx ∧ wx.cell? ⟨ib, 6, none⟩ = some (.slice (some ⟨plb, 0, none⟩) pn pc) ∧ (∀ k, k < x → k < wd → wx.cell? ⟨pb, y * st + k, none⟩ = some (.int .u8 (smp R rl 2 y k : Int)))) (fun a _ => wd + 4 - (intOf (a.tmps.getD 89 undef)).toNat) ?_ ?_
      · exact ⟨0, 0, Nat.zero_le _, rfl, by omega, ⟨rfl, rfl, rfl, rfl, rfl, rfl, rfl, rfl, rfl, rfl, rfl, rfl⟩, rfl, rfl, HM.out.img, Keep.refl _ _, hP1, fun k hk => by omega⟩
      · rintro a wx ⟨q, x, hqw, hqx, hx, hA2, h30, hxs, hIx, hkx, hPx, hcx⟩
        obtain ⟨T, rfl, t0, t1, t11, tsl, t19, t20, t21, t25, t26, t27⟩ := hA2.open
        have t30 : T 30 = .slice (some ⟨c1, 1, none⟩) rl rl := h30
        have txs : T 89 = .int .i64 (x : Int) := hxs
        unfold ripFrame
        rw [t0, t1, t11, tsl, t19, t20, t21, t25, t26, t27, t30, txs]
        clear t0 t1 t11 tsl t19 t20 t21 t25 t26 t27 t30 txs hA2 h30 hxs m0 m1 hB0 g7 gt hPw hP1
        have HQX := Lib.hid hqx
        by_cases hxd : x < wd
        · have hxI : decide ((x : Int) < (wd : Int)) = true := by simp; omega
          have hdv : (x : Int) / 4 = (q : Int) := by omega
          have hql : (q : Int) < rl := by have := HRL.out; omega
          have hrow : BytesAt wx c1 0 B := HM.out.row.keep hkx fun _ _ e => HM.out.n1.2.1 e.1
          obtain ⟨u, hu, hv⟩ := HM.out.byte q (by have := HRL.out; omega)
          have cu := hrow.at_ (q + 1) u hu
          rw [Nat.zero_add, show q + 1 = 1 + q by omega] at cu
          have HU := Lib.hid hv
          have HALL := Lib.hid (And.intro hIx (And.intro hkx (And.intro hPx hcx)))
          clear hrow hu hv hIx hkx hcx hPx hqx
          go_wp2
          refine wp_loop (fun a wx => ∃ x2, x2 ≤ 4 ∧ x + x2 ≤ wd ∧ RipA a bd (.iface t (.pointer (some ra))) px 14 (.pointer (some ⟨ib, 0, none⟩)) (.iface 125 (.pointer (some ⟨ib, 0, none⟩))) wd ht c1 c2 rs y ∧ a.tmps.getD 30 undef = .slice (some ⟨c1, 1, none⟩) rl rl ∧ a.tmps.getD 89 undef = .int .i64 (x : Int) ∧ a.tmps.getD 91 undef = .int .i64 (x2 : Int) ∧ ImgAt wx ib pb nn st wd ht ∧ Keep (fun p j => p = pb ∧ y * st ≤ j) w1' wx ∧ wx.cell? ⟨ib, 6, none⟩ = some (.slice (some ⟨plb, 0, none⟩) pn pc) ∧ (∀ k, k < x + x2 → k < wd → wx.cell? ⟨pb, y * st + k, none⟩ = some (.int .u8 (smp R rl 2 y k : Int))) ∧ ∃ bv, bv = u.toNat * 2 ^ (2 * x2) % 256 ∧ a.tmps.getD 90 undef = .int .u8 (bv : Int)) (fun a _ => 4 - (intOf (a.tmps.getD 91 undef)).toNat) ?_ ?_
          · refine ⟨0, Nat.zero_le _, by omega, ⟨rfl, rfl, rfl, rfl, rfl, rfl, rfl, rfl, rfl, rfl, rfl, rfl⟩, rfl, rfl, rfl, HALL.out.1, HALL.out.2.1, HALL.out.2.2.1, HALL.out.2.2.2, u.toNat, ?_, rfl⟩
            have := u.toNat_lt
            omega
          · rintro a wy ⟨x2, hx2, hxx2, hA3, h30, hxs, h2s, hIy, hky, hPy, hcy, bv, hbv, hbs⟩
            obtain ⟨T, rfl, t0, t1, t11, tsl, t19, t20, t21, t25, t26, t27⟩ := hA3.open
            have t30 : T 30 = .slice (some ⟨c1, 1, none⟩) rl rl := h30
            have txs : T 89 = .int .i64 (x : Int) := hxs
            have tx2 : T 91 = .int .i64 (x2 : Int) := h2s
            have tsb : T 90 = .int .u8 (bv : Int) := hbs
            unfold ripFrame
            rw [t0, t1, t11, tsl, t19, t20, t21, t25, t26, t27, t30, txs, tx2, tsb]
            clear t0 t1 t11 tsl t19 t20 t21 t25 t26 t27 t30 txs tx2 tsb hA3 h30 hxs h2s hbs
            by_cases hin : x2 < 4 ∧ x + x2 < wd
            · have d1 : decide ((x2 : Int) < 4) = true := by simp; omega
              have d2 : decide ((x : Int) + (x2 : Int) < (wd : Int)) = true := by simp; omega
              have hsm := smpP2 R rl y q x2 hin.1
              rw [show 4 * q + x2 = x + x2 by have := HQX.out; omega] at hsm
              have hur : u.toNat = rowAt R rl y q := by have := HU.out; rwa [hrs1] at this
              rw [← hur] at hsm
              have hb256 : bv < 256 := by rw [hbv]; omega
              have hlt : smp R rl 2 y (x + x2) < pn := by
                have := hcnt y (x + x2) hyt hin.2
                rwa [← HRL.out] at this
              obtain ⟨iv, hiv⟩ : ∃ iv : UInt8, iv.toNat = bv / 64 := ⟨b8 (bv / 64), by rw [b8_toNat]; omega⟩
              have s1 : (bv : Int) / 64 = (iv.toNat : Int) := by omega
              have hivp : iv.toNat < pn := by rw [hiv, hbv, ← hsm]; exact hlt
              have s2 : decide ((pn : Int) ≤ (iv.toNat : Int)) = false := by simp; omega
              have s3 : IntKind.i64.wrap (iv.toNat : Int) = (iv.toNat : Int) := IntWalk.i64_in _ (by omega)
              obtain ⟨bn, hbn⟩ : ∃ bn, bn = u.toNat * 2 ^ (2 * (x2 + 1)) % 256 := ⟨_, rfl⟩
              have hbn2 : bn = bv * 4 % 256 := by
                rw [hbn, hbv, Nat.mul_add, Nat.pow_add, ← Nat.mul_assoc, show 2 * 1 = 2 from rfl, Nat.mod_mul_mod]
              have s4 : IntKind.u8.wrap ((bv : Int) * 4) = (bn : Int) := by rw [hbn2]; show ((bv : Int) * 4) % 256 = _; omega
              have hpxx : y * st + (x + x2) + 1 ≤ nn := by
                have := HST.out
                have := HPP.out
                omega
              have HSET := Lib.hid (fun V (hi : ImgAt V ib pb nn st wd ht) => setIndex hi (x + x2) y hin.2 hyt hw hh hst8 hpxx hnl iv)
              have HIV := Lib.hid hiv
              have HBV := Lib.hid hbv
              have HSM := Lib.hid hsm
              have HBN := Lib.hid hbn
              have HY := Lib.hid (And.intro hIy (And.intro hky (And.intro hPy hcy)))
              have HIN := Lib.hid hin
              clear hiv hbv hsm hbn hbn2 hIy hky hcy hin hur hlt hb256
              go_wp2_with (go_at_call 108; fail)
              refine (setFar (l := [iv]) HY.out.1 (by repeat (first | exact Keep.refl _ _ | apply Keep.drewN | apply Keep.drew)) fun hi => HSET.out _ hi).mono ?_
              rintro e w2' ⟨rfl, hI2, hbs, hks⟩
              have kall : Keep (fun p j => p = pb ∧ y * st ≤ j) w1' w2' := HY.out.2.1.trans (hks.mono fun p j _ e => ⟨e.1, by omega⟩)
              have hP2 := hks.get HY.out.2.2.1 (fun e => HM.out.img.ne e.1)
              have hc2 : ∀ k, k < x + (x2 + 1) → k < wd → w2'.cell? ⟨pb, y * st + k, none⟩ = some (.int .u8 (smp R rl 2 y k : Int)) := fun k hk hkw => by
                by_cases h1 : k < x + x2
                · exact hks.get (HY.out.2.2.2 k h1 hkw) fun e => by omega
                · obtain rfl : k = x + x2 := by omega
                  have h3 := hbs 0 (by simp)
                  rw [Nat.add_zero] at h3
                  rw [h3, HSM.out, ← HBV.out, ← HIV.out]
                  rfl
              have HALL2 := Lib.hid (And.intro hI2 (And.intro kall (And.intro hP2 hc2)))
              clear hbs hks kall hI2 hP2 hc2
              go_wp2
              refine ⟨⟨x2 + 1, by have := HIN.out; omega, by have := HIN.out; omega, ⟨rfl, rfl, rfl, rfl, rfl, rfl, rfl, rfl, rfl, rfl, rfl, rfl⟩, rfl, rfl, by show Value.int .i64 ((x2 : Int) + 1) = _; congr 1, HALL2.out.1, HALL2.out.2.1, HALL2.out.2.2.1, HALL2.out.2.2.2, bn, HBN.out, rfl⟩, ?_⟩
              show 4 - (intOf (.int .i64 ((x2 : Int) + 1))).toNat < 4 - (intOf (.int .i64 (x2 : Int))).toNat
              have := HIN.out
              simp only [intOf]
              omega
            · have HY := Lib.hid (And.intro hIy (And.intro hky (And.intro hPy hcy)))
              have HOUT := Lib.hid hin
              have hfin : wd + 4 - (intOf (.int .i64 ((x : Int) + 4))).toNat < wd + 4 - (intOf (.int .i64 (x : Int))).toNat := by simp only [intOf]; omega
              by_cases hm : x2 < 4
              · have d1 : decide ((x2 : Int) < 4) = true := by simp; omega
                have d2 : decide ((x : Int) + (x2 : Int) < (wd : Int)) = false := by simp; omega
                clear hIy hky hPy hcy hin hbv
                go_wp2
                refine ⟨⟨q + 1, x + 4, by have := HQX.out; omega, by have := HQX.out; omega, by omega, ⟨rfl, rfl, rfl, rfl, rfl, rfl, rfl, rfl, rfl, rfl, rfl, rfl⟩, rfl, by show Value.int .i64 ((x : Int) + 4) = _; congr 1, HY.out.1, HY.out.2.1, HY.out.2.2.1, fun k hk hkw => HY.out.2.2.2 k (by have := HOUT.out; omega) hkw⟩, hfin⟩
              · have d1 : decide ((x2 : Int) < 4) = false := by simp; omega
                clear hIy hky hPy hcy hin hbv
                go_wp2
                refine ⟨⟨q + 1, x + 4, by have := HQX.out; omega, by have := HQX.out; omega, by omega, ⟨rfl, rfl, rfl, rfl, rfl, rfl, rfl, rfl, rfl, rfl, rfl, rfl⟩, rfl, by show Value.int .i64 ((x : Int) + 4) = _; congr 1, HY.out.1, HY.out.2.1, HY.out.2.2.1, fun k hk hkw => HY.out.2.2.2 k (by have := HOUT.out; omega) hkw⟩, hfin⟩
        · have hxI : decide ((x : Int) < (wd : Int)) = false := by simp; omega
          have HNX := Lib.hid (HM.out.next hr hkx (fun _ _ e => e) hIx.room (fun k hk => by
            have := HST.out
            have h1 := hcx k (by omega) (by omega)
            rw [h1, HRL.out]))
          have HPN := Lib.hid hPx
          clear hIx hkx hcx hPx
          go_wp2
          refine ⟨⟨y + 1, px, c2, c1, by omega, HPX.out, ⟨rfl, rfl, rfl, rfl, rfl, rfl, rfl, rfl, rfl, rfl, rfl, by show Value.int .i64 ((y : Int) + 1) = _; congr 1⟩, HNX.out, HPN.out⟩, ?_⟩
          show ht - (intOf (.int .i64 ((y : Int) + 1))).toNat < ht - (intOf (.int .i64 (y : Int))).toNat
          simp only [intOf]
          omega
    · have hyI : decide ((y : Int) < (ht : Int)) = false := by simp; omega
      obtain rfl : y = ht := by omega
      have HW := Lib.hid hW
      clear hW
      go_wp2
      go_ret2
      refine ⟨ib, pb, rfl, ?_, ?_, hPw, ?_, HW.out.b1.1, HW.out.b1.2.1, HW.out.k⟩
      · have := HW.out.img
        rw [HNN.out, HST.out] at this
        exact this
      · have := HW.out.pix
        rw [HST.out] at this
        exact this
      · have := HW.out.inv
        rw [List.drop_eq_nil_of_le (by rw [hlen]; exact Nat.le_refl _)] at this
        exact this
end Go.Proofs.YtnbbppjgamdfeaaGreatDoor
end
