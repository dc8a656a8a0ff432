/- laws.FnBack, part 18 of 54: E4 E5. -/
import Derived.Test.YtnbbppjgamdfeaaGreatDoorY12

/- readImagePass: one kind of pixels (printed by gen_e4.py). -/
section
set_option linter.unusedVariables false
set_option linter.unusedSimpArgs false
namespace Go.Proofs.YtnbbppjgamdfeaaGreatDoor
open Go Go.RowKit

set_option maxRecDepth 100000 in
set_option maxHeartbeats 8000000 in
theorem ripG8 {t : TypeId} {ra : Addr} {f : FuncId} {I : World → List UInt8 → Prop} {FR : Nat → Nat → Prop} {Ok : Nat → Prop} {bd rb cb : Nat} {d : Dv} {W : World} (hr : RipRd t ra f I FR Ok bd rb cb d W) (wd ht : Nat) (hw : wd ≤ 60) (hh : ht ≤ 60) (hw0 : 0 < wd) (hh0 : 0 < ht)
    (hdw : d.width = (wd : Int)) (hdh : d.height = (ht : Int)) (hcb : d.cb = 4) (hdep : d.depth = 8) (hlc : d.lace = 0) (hut : d.useT = false) (R : List UInt8) (hI : I W R) (hlen : R.length = ht * (1 + 1 * wd)) (hft : ∀ y, y < ht → R.getD (y * (1 + 1 * wd)) 0 = 0) :
    Calls Tryz.prog 93 #[.pointer (some ⟨bd, 0, none⟩), .iface t (.pointer (some ra)), .int .i64 0, .bool false] W fun e w' => ∃ ib pb, e = .returned (.tuple #[.iface 107 (.pointer (some ⟨ib, 0, none⟩)), .nilIface]) ∧
      ImgAt w' ib pb (1 * wd * ht) (1 * wd) wd ht ∧ PixRows w' pb (1 * wd) ht (fun y k => rowAt R (1 * wd) y k) ∧ I w' [] ∧ W.heap.size ≤ ib ∧ W.heap.size ≤ pb ∧ Keep FR W w' := by
  obtain ⟨q, hdec⟩ := hr.dec W R hI
  have f3 := hdec.f3
  have f4 := hdec.f4
  have f5 := hdec.f5
  have f7 := hdec.f7
  have fl := hdec.fl
  have ft := hdec.ft
  simp only [hdw] at f3
  simp only [hdh] at f4
  simp only [hdep] at f5
  simp only [hcb] at f7
  simp only [hlc] at fl
  simp only [hut] at ft
  obtain ⟨st, hst⟩ : ∃ st, st = 1 * wd := ⟨_, rfl⟩
  obtain ⟨rl, hrl⟩ : ∃ rl, rl = 1 * wd := ⟨_, rfl⟩
  obtain ⟨nn, hnn⟩ : ∃ nn, nn = 1 * wd * ht := ⟨_, rfl⟩
  obtain ⟨rs, hrs⟩ : ∃ rs, rs = 1 + rl := ⟨_, rfl⟩
  have hnst : nn = st * ht := by rw [hnn, hst]
  have hnl : nn ≤ 28800 := by
    rw [hnn]; exact Nat.mul_le_mul (show 1 * wd ≤ 480 by omega) hh
  rw [← hrl, ← hrs] at hlen hft
  have e8 : (8 * (wd : Int) + 7) / 8 = (rl : Int) := by omega
  have e9 : (1 : Int) + (rl : Int) = (rs : Int) := by omega
  have e10 : IntKind.i64.wrap (rs : Int) = (rs : Int) := IntWalk.i64_in _ (by omega)
  have hmk := fun W => makeBytes_eq W .i64 .i64 rs (by omega)
  have hw480 : rl ≤ 480 := by omega
  have HRS := Lib.hid hrs
  have HRL := Lib.hid hrl
  have HST := Lib.hid hst
  have HNN := Lib.hid hnn
  have HNST := Lib.hid hnst
  clear hrs hrl hst hnn hnst
  go_enter Tryz.func93, Tryz.ntmps93
  go_wp2
  go_quiet (fail)
  have hk0 : Keep Nil2 W (W.drewN nq) := (Keep.refl Nil2 W).drewN nq
  obtain ⟨w0, hw0'⟩ : ∃ w0, w0 = W.drewN nq := ⟨_, rfl⟩
  have HW0 := Lib.hid hw0'
  clear hw0'
  go_wp2_with (go_at_call 98; fail)
  refine (imgRect _ wd ht).mono ?_
  rintro e w1 ⟨rfl, hk1⟩
  go_wp2_with (go_at_call 99; fail)
  refine (imgNewGray w1 wd ht hw hh).mono ?_
  rintro e w2 ⟨ib, pb, rfl, hib, hpb, hImg, hk2⟩
  rw [← HNN.out, ← HST.out] at hImg
  go_wp2
  obtain ⟨w3, hw3⟩ : ∃ w3, w3 = (w2.alloc (.cells (madeCells #[.int .u8 0] rs) 5)).alloc (.cells (madeCells #[.int .u8 0] rs) 5) := ⟨_, rfl⟩
  rw [← hw3]
  have r1 : RoomAt (w2.alloc (.cells (madeCells #[.int .u8 0] rs) 5)) w2.heap.size 0 rs := madeBytes w2 rs
  have r2 : RoomAt w3 (w2.heap.size + 1) 0 rs := by rw [hw3]; have := madeBytes (w2.alloc (.cells (madeCells #[.int .u8 0] rs) 5)) rs; simpa using this
  have hk3 : Keep Nil2 w2 w3 := by rw [hw3]; exact ((Keep.refl Nil2 w2).alloc _).alloc _
  have r1' : RoomAt w3 w2.heap.size 0 rs := by rw [hw3]; exact r1.keep ((Keep.refl Nil2 _).alloc _) fun _ _ e => e
  have hk01 : Keep Nil2 W w1 := hk0.trans hk1
  have hk02 : Keep Nil2 W w2 := hk01.trans hk2
  have hkW : Keep Nil2 W w3 := hk02.trans hk3
  have hI3 : I w3 R := hr.keep _ _ _ _ hI hkW fun _ _ e => e.elim
  have hImg3 := hImg.keep hk3 (fun _ e => e) (fun _ e => e)
  have hib2 := hImg.lt
  have hpb2 : pb < w2.heap.size := hImg.room.lt (by rw [HNST.out, HST.out]; exact Nat.mul_pos (Nat.mul_pos (by omega) hw0) hh0)
  have hsz1 := hk01.size
  have hsz2 := hk02.size
  have hWb : RipW I FR W R ib pb nn st wd ht w2.heap.size (w2.heap.size + 1) rs 0 (fun y k => rowAt R (1 * wd) y k) w3 :=
    ⟨by rw [Nat.zero_mul]; exact hI3, hImg3, fun j k hj => by omega, r1', r2, hkW.mono fun _ _ _ e => e.elim, ⟨by omega, by omega, by omega, by omega⟩, ⟨by omega, by omega, by omega, by omega, by omega⟩⟩
  clear hw3 r1
  refine wp_loop (fun a w => ∃ y px c1 c2, y ≤ ht ∧ px = y * st ∧ RipA a bd (.iface t (.pointer (some ra))) px 12 (.pointer (some ⟨ib, 0, none⟩)) (.iface 107 (.pointer (some ⟨ib, 0, none⟩))) wd ht c1 c2 rs y ∧ RipW I FR W R ib pb nn st wd ht c1 c2 rs y (fun y k => rowAt R (1 * wd) y k) w) (fun a _ => ht - (intOf (a.tmps.getD 27 undef)).toNat) ?_ ?_
  · exact ⟨0, 0, w2.heap.size, w2.heap.size + 1, Nat.zero_le _, (Nat.zero_mul _).symm, ⟨rfl, rfl, rfl, rfl, rfl, rfl, rfl, rfl, rfl, rfl, rfl, rfl⟩, hWb⟩
  · rintro a w ⟨y, px, c1, c2, hy, hpxd, hA, hW⟩
    have HPX := Lib.hid hpxd
    clear hpxd
    obtain ⟨T, rfl, t0, t1, t11, tsl, t19, t20, t21, t25, t26, t27⟩ := hA.open
    unfold ripFrame
    rw [t0, t1, t11, tsl, t19, t20, t21, t25, t26, t27]
    clear t0 t1 t11 tsl t19 t20 t21 t25 t26 t27 hA
    by_cases hyt : y < ht
    · have hyI : decide ((y : Int) < (ht : Int)) = true := by simp; omega
      have HRD := Lib.hid (hW.read hr hyt (by have := HRS.out; omega) (by have := HRS.out; omega) hlen hft)
      clear hW
      go_wp2_with (go_at_call 53; fail)
      refine HRD.out.mono ?_
      rintro e w1' ⟨rfl, B, hM⟩
      obtain ⟨q1, hdec1⟩ := hr.dec w1' _ hM.inv
      have g7 := hdec1.f7
      have gt := hdec1.ft
      simp only [hcb] at g7
      simp only [hut] at gt
      have hB0 : w1'.cell? ⟨c1, 0, none⟩ = some (.int .u8 0) := by
        have := hM.row.at_ 0 0 hM.zero
        simpa using this
      have m0 := hM.img.i0
      have m1 := hM.img.i1
      have hpx : y * st + st ≤ nn := by
        have : (y + 1) * st ≤ ht * st := Nat.mul_le_mul_right _ hyt
        rw [Nat.add_mul, Nat.mul_comm ht] at this
        rw [HNST.out]; omega
      have HM := Lib.hid hM
      have hrsl : rs = 1 + rl := HRS.out
      have hst0 : 0 < st := by have := HST.out; omega
      have hrl0 : 0 < rl := by have := HRL.out; omega
      have HPP := Lib.hid hpx
      clear hM hdec1 HRD
      have q1 : (1 : Int) ≤ rs := by omega
      have q2 : ¬ rs = 1 := by omega
      have q5 : (0 : Int) < rs := by omega
      rw [← HPX.out] at hpx
      have q3 : (px : Int) ≤ nn := by omega
      have q4 : ¬ nn = px := by omega
      have hle : st = rl := by rw [HST.out, HRL.out]
      obtain ⟨L, hL⟩ : ∃ L, L = B.drop 1 := ⟨_, rfl⟩
      have hLL : L.length = st := by rw [hL, List.length_drop, HM.out.len]; omega
      have HL := Lib.hid hL
      have HLL := Lib.hid hLL
      have HLB := Lib.hid (show BytesAt w1' c1 1 L by rw [hL]; have := HM.out.row.drop 1; rwa [Nat.zero_add] at this)
      have HLE := Lib.hid hle
      have HRSL := Lib.hid hrsl
      clear hL hLL hle hrsl
      go_wp2_with (with_reducible refine wpList_copy_bytes rfl (.tmp 742) (.tmp 743) 23 23 rfl 5 Tryz.underlying23 (by kernel_rfl) pb px (nn - px) (nn - px) c1 1 (rs - 1) (rs - 1) rfl rfl L ?c1 ?c2 ?c3 ?_)
      case c1 =>
        rw [HLL.out]
        have := HLE.out; have := HRSL.out
        show st = min (rs - 1) (nn - px)
        omega
      case c2 => exact HLB.out
      case c3 => rw [HLL.out]; exact fun j hj => by have := HM.out.img.room (px + j) (by omega); simpa using this
      rw [HLL.out]
      intro w2' hkc hbc hfc
      have m1c := hkc.get m1 (fun e => HM.out.img.ne e.1)
      have HNX := Lib.hid (HM.out.next hr hkc (fun x j e => ⟨e.1, by have := HPX.out; omega⟩) (HM.out.img.room.after (l := L) hkc (fun y' e => by rw [HLL.out]; exact e.2) hbc hfc) (fun k hk => by
        obtain ⟨x, hx, hxv⟩ := HM.out.byte k (by have := HLE.out; have := HRSL.out; omega)
        have h1 : L[k]? = some x := by rw [HL.out, List.getElem?_drop, Nat.add_comm]; exact hx
        have h2 := hbc.at_ k x h1
        rw [HPX.out] at h2
        rw [h2, hxv, HRSL.out, show 1 + rl - 1 = rl by omega, HRL.out]))
      clear hkc hbc hfc m0 m1 hB0 g7 gt
      go_wp2
      refine ⟨⟨y + 1, px + st, c2, c1, by omega, by rw [Nat.add_mul, Nat.one_mul, HPX.out], ⟨rfl, rfl, rfl, rfl, by show Value.int .i64 ((px : Int) + (st : Int)) = _; congr 1, rfl, rfl, rfl, rfl, rfl, rfl, by show Value.int .i64 ((y : Int) + 1) = _; congr 1⟩, HNX.out⟩, ?_⟩
      show ht - (intOf (.int .i64 ((y : Int) + 1))).toNat < ht - (intOf (.int .i64 (y : Int))).toNat
      simp only [intOf]
      omega
    · have hyI : decide ((y : Int) < (ht : Int)) = false := by simp; omega
      obtain rfl : y = ht := by omega
      have HW := Lib.hid hW
      clear hW
      go_wp2
      go_ret2
      refine ⟨ib, pb, rfl, ?_, ?_, ?_, HW.out.b1.1, HW.out.b1.2.1, HW.out.k⟩
      · have := HW.out.img
        rw [HNN.out, HST.out] at this
        exact this
      · have := HW.out.pix
        rw [HST.out] at this
        exact this
      · have := HW.out.inv
        rw [List.drop_eq_nil_of_le (by rw [hlen]; exact Nat.le_refl _)] at this
        exact this
end Go.Proofs.YtnbbppjgamdfeaaGreatDoor
end

/- readImagePass: one kind of pixels (printed by gen_e4.py). -/
section
set_option linter.unusedVariables false
set_option linter.unusedSimpArgs false
namespace Go.Proofs.YtnbbppjgamdfeaaGreatDoor
open Go Go.RowKit

set_option maxRecDepth 100000 in
set_option maxHeartbeats 8000000 in
theorem ripTCA8 {t : TypeId} {ra : Addr} {f : FuncId} {I : World → List UInt8 → Prop} {FR : Nat → Nat → Prop} {Ok : Nat → Prop} {bd rb cb : Nat} {d : Dv} {W : World} (hr : RipRd t ra f I FR Ok bd rb cb d W) (wd ht : Nat) (hw : wd ≤ 60) (hh : ht ≤ 60) (hw0 : 0 < wd) (hh0 : 0 < ht)
    (hdw : d.width = (wd : Int)) (hdh : d.height = (ht : Int)) (hcb : d.cb = 11) (hdep : d.depth = 8) (hlc : d.lace = 0) (hut : d.useT = false) (R : List UInt8) (hI : I W R) (hlen : R.length = ht * (1 + 4 * wd)) (hft : ∀ y, y < ht → R.getD (y * (1 + 4 * wd)) 0 = 0) :
    Calls Tryz.prog 93 #[.pointer (some ⟨bd, 0, none⟩), .iface t (.pointer (some ra)), .int .i64 0, .bool false] W fun e w' => ∃ ib pb, e = .returned (.tuple #[.iface 121 (.pointer (some ⟨ib, 0, none⟩)), .nilIface]) ∧
      ImgAt w' ib pb (4 * wd * ht) (4 * wd) wd ht ∧ PixRows w' pb (4 * wd) ht (fun y k => rowAt R (4 * wd) y k) ∧ I w' [] ∧ W.heap.size ≤ ib ∧ W.heap.size ≤ pb ∧ Keep FR W w' := by
  obtain ⟨q, hdec⟩ := hr.dec W R hI
  have f3 := hdec.f3
  have f4 := hdec.f4
  have f5 := hdec.f5
  have f7 := hdec.f7
  have fl := hdec.fl
  have ft := hdec.ft
  simp only [hdw] at f3
  simp only [hdh] at f4
  simp only [hdep] at f5
  simp only [hcb] at f7
  simp only [hlc] at fl
  simp only [hut] at ft
  obtain ⟨st, hst⟩ : ∃ st, st = 4 * wd := ⟨_, rfl⟩
  obtain ⟨rl, hrl⟩ : ∃ rl, rl = 4 * wd := ⟨_, rfl⟩
  obtain ⟨nn, hnn⟩ : ∃ nn, nn = 4 * wd * ht := ⟨_, rfl⟩
  obtain ⟨rs, hrs⟩ : ∃ rs, rs = 1 + rl := ⟨_, rfl⟩
  have hnst : nn = st * ht := by rw [hnn, hst]
  have hnl : nn ≤ 28800 := by
    rw [hnn]; exact Nat.mul_le_mul (show 4 * wd ≤ 480 by omega) hh
  rw [← hrl, ← hrs] at hlen hft
  have e8 : (32 * (wd : Int) + 7) / 8 = (rl : Int) := by omega
  have e9 : (1 : Int) + (rl : Int) = (rs : Int) := by omega
  have e10 : IntKind.i64.wrap (rs : Int) = (rs : Int) := IntWalk.i64_in _ (by omega)
  have hmk := fun W => makeBytes_eq W .i64 .i64 rs (by omega)
  have hw480 : rl ≤ 480 := by omega
  have HRS := Lib.hid hrs
  have HRL := Lib.hid hrl
  have HST := Lib.hid hst
  have HNN := Lib.hid hnn
  have HNST := Lib.hid hnst
  clear hrs hrl hst hnn hnst
  go_enter Tryz.func93, Tryz.ntmps93
  go_wp2
  go_quiet (fail)
  have hk0 : Keep Nil2 W (W.drewN nq) := (Keep.refl Nil2 W).drewN nq
  obtain ⟨w0, hw0'⟩ : ∃ w0, w0 = W.drewN nq := ⟨_, rfl⟩
  have HW0 := Lib.hid hw0'
  clear hw0'
  go_wp2_with (go_at_call 98; fail)
  refine (imgRect _ wd ht).mono ?_
  rintro e w1 ⟨rfl, hk1⟩
  go_wp2_with (go_at_call 97; fail)
  refine (imgNewNRGBA w1 wd ht hw hh).mono ?_
  rintro e w2 ⟨ib, pb, rfl, hib, hpb, hImg, hk2⟩
  rw [← HNN.out, ← HST.out] at hImg
  go_wp2
  obtain ⟨w3, hw3⟩ : ∃ w3, w3 = (w2.alloc (.cells (madeCells #[.int .u8 0] rs) 5)).alloc (.cells (madeCells #[.int .u8 0] rs) 5) := ⟨_, rfl⟩
  rw [← hw3]
  have r1 : RoomAt (w2.alloc (.cells (madeCells #[.int .u8 0] rs) 5)) w2.heap.size 0 rs := madeBytes w2 rs
  have r2 : RoomAt w3 (w2.heap.size + 1) 0 rs := by rw [hw3]; have := madeBytes (w2.alloc (.cells (madeCells #[.int .u8 0] rs) 5)) rs; simpa using this
  have hk3 : Keep Nil2 w2 w3 := by rw [hw3]; exact ((Keep.refl Nil2 w2).alloc _).alloc _
  have r1' : RoomAt w3 w2.heap.size 0 rs := by rw [hw3]; exact r1.keep ((Keep.refl Nil2 _).alloc _) fun _ _ e => e
  have hk01 : Keep Nil2 W w1 := hk0.trans hk1
  have hk02 : Keep Nil2 W w2 := hk01.trans hk2
  have hkW : Keep Nil2 W w3 := hk02.trans hk3
  have hI3 : I w3 R := hr.keep _ _ _ _ hI hkW fun _ _ e => e.elim
  have hImg3 := hImg.keep hk3 (fun _ e => e) (fun _ e => e)
  have hib2 := hImg.lt
  have hpb2 : pb < w2.heap.size := hImg.room.lt (by rw [HNST.out, HST.out]; exact Nat.mul_pos (Nat.mul_pos (by omega) hw0) hh0)
  have hsz1 := hk01.size
  have hsz2 := hk02.size
  have hWb : RipW I FR W R ib pb nn st wd ht w2.heap.size (w2.heap.size + 1) rs 0 (fun y k => rowAt R (4 * wd) y k) w3 :=
    ⟨by rw [Nat.zero_mul]; exact hI3, hImg3, fun j k hj => by omega, r1', r2, hkW.mono fun _ _ _ e => e.elim, ⟨by omega, by omega, by omega, by omega⟩, ⟨by omega, by omega, by omega, by omega, by omega⟩⟩
  clear hw3 r1
  refine wp_loop (fun a w => ∃ y px c1 c2, y ≤ ht ∧ px = y * st ∧ RipA a bd (.iface t (.pointer (some ra))) px 15 (.pointer (some ⟨ib, 0, none⟩)) (.iface 121 (.pointer (some ⟨ib, 0, none⟩))) wd ht c1 c2 rs y ∧ RipW I FR W R ib pb nn st wd ht c1 c2 rs y (fun y k => rowAt R (4 * wd) y k) w) (fun a _ => ht - (intOf (a.tmps.getD 27 undef)).toNat) ?_ ?_
  · exact ⟨0, 0, w2.heap.size, w2.heap.size + 1, Nat.zero_le _, (Nat.zero_mul _).symm, ⟨rfl, rfl, rfl, rfl, rfl, rfl, rfl, rfl, rfl, rfl, rfl, rfl⟩, hWb⟩
  · rintro a w ⟨y, px, c1, c2, hy, hpxd, hA, hW⟩
    have HPX := Lib.hid hpxd
    clear hpxd
    obtain ⟨T, rfl, t0, t1, t11, tsl, t19, t20, t21, t25, t26, t27⟩ := hA.open
    unfold ripFrame
    rw [t0, t1, t11, tsl, t19, t20, t21, t25, t26, t27]
    clear t0 t1 t11 tsl t19 t20 t21 t25 t26 t27 hA
    by_cases hyt : y < ht
    · have hyI : decide ((y : Int) < (ht : Int)) = true := by simp; omega
      have HRD := Lib.hid (hW.read hr hyt (by have := HRS.out; omega) (by have := HRS.out; omega) hlen hft)
      clear hW
      go_wp2_with (go_at_call 53; fail)
      refine HRD.out.mono ?_
      rintro e w1' ⟨rfl, B, hM⟩
      obtain ⟨q1, hdec1⟩ := hr.dec w1' _ hM.inv
      have g7 := hdec1.f7
      have gt := hdec1.ft
      simp only [hcb] at g7
      simp only [hut] at gt
      have hB0 : w1'.cell? ⟨c1, 0, none⟩ = some (.int .u8 0) := by
        have := hM.row.at_ 0 0 hM.zero
        simpa using this
      have m0 := hM.img.i0
      have m1 := hM.img.i1
      have hpx : y * st + st ≤ nn := by
        have : (y + 1) * st ≤ ht * st := Nat.mul_le_mul_right _ hyt
        rw [Nat.add_mul, Nat.mul_comm ht] at this
        rw [HNST.out]; omega
      have HM := Lib.hid hM
      have hrsl : rs = 1 + rl := HRS.out
      have hst0 : 0 < st := by have := HST.out; omega
      have hrl0 : 0 < rl := by have := HRL.out; omega
      have HPP := Lib.hid hpx
      clear hM hdec1 HRD
      have q1 : (1 : Int) ≤ rs := by omega
      have q2 : ¬ rs = 1 := by omega
      have q5 : (0 : Int) < rs := by omega
      rw [← HPX.out] at hpx
      have q3 : (px : Int) ≤ nn := by omega
      have q4 : ¬ nn = px := by omega
      have hle : st = rl := by rw [HST.out, HRL.out]
      obtain ⟨L, hL⟩ : ∃ L, L = B.drop 1 := ⟨_, rfl⟩
      have hLL : L.length = st := by rw [hL, List.length_drop, HM.out.len]; omega
      have HL := Lib.hid hL
      have HLL := Lib.hid hLL
      have HLB := Lib.hid (show BytesAt w1' c1 1 L by rw [hL]; have := HM.out.row.drop 1; rwa [Nat.zero_add] at this)
      have HLE := Lib.hid hle
      have HRSL := Lib.hid hrsl
      clear hL hLL hle hrsl
      go_wp2_with (with_reducible refine wpList_copy_bytes rfl (.tmp 1136) (.tmp 1137) 23 23 rfl 5 Tryz.underlying23 (by kernel_rfl) pb px (nn - px) (nn - px) c1 1 (rs - 1) (rs - 1) rfl rfl L ?c1 ?c2 ?c3 ?_)
      case c1 =>
        rw [HLL.out]
        have := HLE.out; have := HRSL.out
        show st = min (rs - 1) (nn - px)
        omega
      case c2 => exact HLB.out
      case c3 => rw [HLL.out]; exact fun j hj => by have := HM.out.img.room (px + j) (by omega); simpa using this
      rw [HLL.out]
      intro w2' hkc hbc hfc
      have m1c := hkc.get m1 (fun e => HM.out.img.ne e.1)
      have HNX := Lib.hid (HM.out.next hr hkc (fun x j e => ⟨e.1, by have := HPX.out; omega⟩) (HM.out.img.room.after (l := L) hkc (fun y' e => by rw [HLL.out]; exact e.2) hbc hfc) (fun k hk => by
        obtain ⟨x, hx, hxv⟩ := HM.out.byte k (by have := HLE.out; have := HRSL.out; omega)
        have h1 : L[k]? = some x := by rw [HL.out, List.getElem?_drop, Nat.add_comm]; exact hx
        have h2 := hbc.at_ k x h1
        rw [HPX.out] at h2
        rw [h2, hxv, HRSL.out, show 1 + rl - 1 = rl by omega, HRL.out]))
      clear hkc hbc hfc m0 m1 hB0 g7 gt
      go_wp2
      refine ⟨⟨y + 1, px + st, c2, c1, by omega, by rw [Nat.add_mul, Nat.one_mul, HPX.out], ⟨rfl, rfl, rfl, rfl, by show Value.int .i64 ((px : Int) + (st : Int)) = _; congr 1, rfl, rfl, rfl, rfl, rfl, rfl, by show Value.int .i64 ((y : Int) + 1) = _; congr 1⟩, HNX.out⟩, ?_⟩
      show ht - (intOf (.int .i64 ((y : Int) + 1))).toNat < ht - (intOf (.int .i64 (y : Int))).toNat
      simp only [intOf]
      omega
    · have hyI : decide ((y : Int) < (ht : Int)) = false := by simp; omega
      obtain rfl : y = ht := by omega
      have HW := Lib.hid hW
      clear hW
      go_wp2
      go_ret2
      refine ⟨ib, pb, rfl, ?_, ?_, ?_, HW.out.b1.1, HW.out.b1.2.1, HW.out.k⟩
      · have := HW.out.img
        rw [HNN.out, HST.out] at this
        exact this
      · have := HW.out.pix
        rw [HST.out] at this
        exact this
      · have := HW.out.inv
        rw [List.drop_eq_nil_of_le (by rw [hlen]; exact Nat.le_refl _)] at this
        exact this
end Go.Proofs.YtnbbppjgamdfeaaGreatDoor
end
