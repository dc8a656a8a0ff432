/- laws.FnBack, part 13 of 54: E6. -/
import Derived.Test.YtnbbppjgamdfeaaGreatDoorY12
import Derived.Test.YtnbbppjgamdfeaaGreatDoorY02
import Derived.Test.YtnbbppjgamdfeaaGreatDoorY01

/- image: a pixel is set (printed by gen_e6.py). -/
section
set_option linter.unusedVariables false
set_option linter.unusedSimpArgs false
namespace Go.Proofs.YtnbbppjgamdfeaaGreatDoor
open Go Go.RowKit

set_option maxHeartbeats 1000000 in
theorem ptIn (w : World) (x y wd ht : Nat) (hx : x < wd) (hy : y < ht) :
    Calls Tryz.prog 117 #[.agg #[.int .i64 (x : Int), .int .i64 (y : Int)], rectV wd ht] w fun e w' => e = .returned (.bool true) ∧ Keep Nil2 w w' := by
  have h1 : decide ((0 : Int) ≤ (x : Int)) = true := by simp
  have h2 : decide ((x : Int) < (wd : Int)) = true := by simp; omega
  have h3 : decide ((0 : Int) ≤ (y : Int)) = true := by simp
  have h4 : decide ((y : Int) < (ht : Int)) = true := by simp; omega
  unfold rectV
  go_enter Tryz.func117, Tryz.ntmps117
  go_wp2
  go_ret
  exact ⟨rfl, ((Keep.refl Nil2 w).alloc _).alloc _⟩

/-- The bytes l were set at a place of the picture. -/
def SetPost (w : World) (pb off : Nat) (l : List UInt8) (e : Ending) (w' : World) : Prop :=
  e = .returned (.tuple #[]) ∧ BytesAt w' pb off l ∧ (∀ j, w'.frozen? ⟨pb, j, none⟩ = w.frozen? ⟨pb, j, none⟩) ∧ Keep (fun x j => x = pb ∧ off ≤ j ∧ j < off + l.length) w w'

set_option maxHeartbeats 1000000 in
theorem pixOffPaletted {w : World} {ib pb m st wd ht : Nat} (h : ImgAt w ib pb m st wd ht) (x y : Nat) (hx : x ≤ 60) (hy : y ≤ 60) (hst : st ≤ 480) :
    Calls Tryz.prog 120 #[.pointer (some ⟨ib, 0, none⟩), .int .i64 (x : Int), .int .i64 (y : Int)] w fun e w' => e = .returned (.int .i64 ((y * st + x : Nat) : Int)) ∧ ∃ q, w' = w.drewN q := by
  have c1 := h.i1
  have c2 := h.i2
  have c3 := h.i3
  have hm : y * st ≤ 60 * 480 := Nat.mul_le_mul hy hst
  obtain ⟨p, hp⟩ : ∃ p, p = y * st := ⟨_, rfl⟩
  have e0 : (y : Int) * (st : Int) = (p : Int) := by rw [hp]; simp
  rw [← hp] at hm ⊢
  have e1 : IntKind.i64.wrap ((y : Int) * (st : Int)) = (p : Int) := by rw [e0]; exact IntWalk.i64_in _ (by omega)
  have e2 : IntKind.i64.wrap ((x : Int)) = ((x : Nat) : Int) := (IntWalk.i64_in _ (by omega)).trans (by omega)
  have e3 : IntKind.i64.wrap ((p : Int) + ((x : Nat) : Int)) = ((p + x : Nat) : Int) := by rw [IntWalk.i64_in _ (by omega)]; omega
  have HP := Lib.hid hp
  clear hp
  go_enter Tryz.func120, Tryz.ntmps120
  go_wp2
  go_quiet (fail)
  go_wp2
  go_ret
  exact ⟨by congr 2 <;> omega, _, rfl⟩

set_option maxHeartbeats 1000000 in
theorem pixOffNRGBA64 {w : World} {ib pb m st wd ht : Nat} (h : ImgAt w ib pb m st wd ht) (x y : Nat) (hx : x ≤ 60) (hy : y ≤ 60) (hst : st ≤ 480) :
    Calls Tryz.prog 121 #[.pointer (some ⟨ib, 0, none⟩), .int .i64 (x : Int), .int .i64 (y : Int)] w fun e w' => e = .returned (.int .i64 ((y * st + x * 8 : Nat) : Int)) ∧ ∃ q, w' = w.drewN q := by
  have c1 := h.i1
  have c2 := h.i2
  have c3 := h.i3
  have hm : y * st ≤ 60 * 480 := Nat.mul_le_mul hy hst
  obtain ⟨p, hp⟩ : ∃ p, p = y * st := ⟨_, rfl⟩
  have e0 : (y : Int) * (st : Int) = (p : Int) := by rw [hp]; simp
  rw [← hp] at hm ⊢
  have e1 : IntKind.i64.wrap ((y : Int) * (st : Int)) = (p : Int) := by rw [e0]; exact IntWalk.i64_in _ (by omega)
  have e2 : IntKind.i64.wrap ((x : Int) * 8) = ((x * 8 : Nat) : Int) := (IntWalk.i64_in _ (by omega)).trans (by omega)
  have e3 : IntKind.i64.wrap ((p : Int) + ((x * 8 : Nat) : Int)) = ((p + x * 8 : Nat) : Int) := by rw [IntWalk.i64_in _ (by omega)]; omega
  have HP := Lib.hid hp
  clear hp
  go_enter Tryz.func121, Tryz.ntmps121
  go_wp2
  go_quiet (fail)
  go_wp2
  go_ret
  exact ⟨by congr 2 <;> omega, _, rfl⟩

set_option maxHeartbeats 1000000 in
theorem pixOffGray16 {w : World} {ib pb m st wd ht : Nat} (h : ImgAt w ib pb m st wd ht) (x y : Nat) (hx : x ≤ 60) (hy : y ≤ 60) (hst : st ≤ 480) :
    Calls Tryz.prog 122 #[.pointer (some ⟨ib, 0, none⟩), .int .i64 (x : Int), .int .i64 (y : Int)] w fun e w' => e = .returned (.int .i64 ((y * st + x * 2 : Nat) : Int)) ∧ ∃ q, w' = w.drewN q := by
  have c1 := h.i1
  have c2 := h.i2
  have c3 := h.i3
  have hm : y * st ≤ 60 * 480 := Nat.mul_le_mul hy hst
  obtain ⟨p, hp⟩ : ∃ p, p = y * st := ⟨_, rfl⟩
  have e0 : (y : Int) * (st : Int) = (p : Int) := by rw [hp]; simp
  rw [← hp] at hm ⊢
  have e1 : IntKind.i64.wrap ((y : Int) * (st : Int)) = (p : Int) := by rw [e0]; exact IntWalk.i64_in _ (by omega)
  have e2 : IntKind.i64.wrap ((x : Int) * 2) = ((x * 2 : Nat) : Int) := (IntWalk.i64_in _ (by omega)).trans (by omega)
  have e3 : IntKind.i64.wrap ((p : Int) + ((x * 2 : Nat) : Int)) = ((p + x * 2 : Nat) : Int) := by rw [IntWalk.i64_in _ (by omega)]; omega
  have HP := Lib.hid hp
  clear hp
  go_enter Tryz.func122, Tryz.ntmps122
  go_wp2
  go_quiet (fail)
  go_wp2
  go_ret
  exact ⟨by congr 2 <;> omega, _, rfl⟩

set_option maxHeartbeats 1000000 in
theorem pixOffRGBA64 {w : World} {ib pb m st wd ht : Nat} (h : ImgAt w ib pb m st wd ht) (x y : Nat) (hx : x ≤ 60) (hy : y ≤ 60) (hst : st ≤ 480) :
    Calls Tryz.prog 123 #[.pointer (some ⟨ib, 0, none⟩), .int .i64 (x : Int), .int .i64 (y : Int)] w fun e w' => e = .returned (.int .i64 ((y * st + x * 8 : Nat) : Int)) ∧ ∃ q, w' = w.drewN q := by
  have c1 := h.i1
  have c2 := h.i2
  have c3 := h.i3
  have hm : y * st ≤ 60 * 480 := Nat.mul_le_mul hy hst
  obtain ⟨p, hp⟩ : ∃ p, p = y * st := ⟨_, rfl⟩
  have e0 : (y : Int) * (st : Int) = (p : Int) := by rw [hp]; simp
  rw [← hp] at hm ⊢
  have e1 : IntKind.i64.wrap ((y : Int) * (st : Int)) = (p : Int) := by rw [e0]; exact IntWalk.i64_in _ (by omega)
  have e2 : IntKind.i64.wrap ((x : Int) * 8) = ((x * 8 : Nat) : Int) := (IntWalk.i64_in _ (by omega)).trans (by omega)
  have e3 : IntKind.i64.wrap ((p : Int) + ((x * 8 : Nat) : Int)) = ((p + x * 8 : Nat) : Int) := by rw [IntWalk.i64_in _ (by omega)]; omega
  have HP := Lib.hid hp
  clear hp
  go_enter Tryz.func123, Tryz.ntmps123
  go_wp2
  go_quiet (fail)
  go_wp2
  go_ret
  exact ⟨by congr 2 <;> omega, _, rfl⟩

set_option maxHeartbeats 2000000 in
theorem setIndex {w : World} {ib pb m st wd ht : Nat} (h : ImgAt w ib pb m st wd ht) (x y : Nat) (hx : x < wd) (hy : y < ht) (hwd : wd ≤ 60) (hht : ht ≤ 60) (hst : st ≤ 480) (hm : y * st + x + 1 ≤ m) (hm2 : m ≤ 28800) (v : UInt8) :
    Calls Tryz.prog 108 #[.pointer (some ⟨ib, 0, none⟩), .int .i64 (x : Int), .int .i64 (y : Int), .int .u8 (v.toNat : Int)] w (SetPost w pb (y * st + x) [v]) := by
  have c0 := h.i0
  have c2 := h.i2
  have c3 := h.i3
  have c4 := h.i4
  have c5 := h.i5
  have hin := fun W => ptIn W x y wd ht hx hy
  unfold rectV at hin
  go_enter Tryz.func108, Tryz.ntmps108
  go_wp2_with (go_at_call 117; fail)
  refine (hin _).mono ?_
  rintro e w1 ⟨rfl, hk1⟩
  have h1 := h.keep hk1 (fun _ e => e) (fun _ e => e)
  go_wp2_with (go_at_call 120; fail)
  refine (pixOffPaletted h1 x y (by omega) (by omega) hst).mono ?_
  rintro e w2 ⟨rfl, q, rfl⟩
  obtain ⟨off, hoff⟩ : ∃ off, off = y * st + x := ⟨_, rfl⟩
  rw [← hoff] at hm ⊢
  have h2 : ImgAt (w1.drewN q) ib pb m st wd ht := h1.keep ((Keep.refl Nil2 w1).drewN q) (fun _ e => e) (fun _ e => e)
  have d0 := h2.i0
  obtain ⟨⟨ov, hov⟩, hfz⟩ := h2.room off (by omega)
  rw [Nat.zero_add] at hov hfz
  have hoI : (off : Int) < m := by omega
  have HO := Lib.hid hoff
  have H2 := Lib.hid h2
  clear hoff c0 c2 c3 c4 c5 h1 h2
  go_wp2
  go_end0
  rw [← HO.out]
  refine ⟨rfl, fun i hi => ?_, fun j => by rw [World.frozen?_setCell]; exact hk1.frozen pb j (h.room.lt (by omega)) (fun e => e), ?_⟩
  · obtain rfl : i = 0 := by simp at hi; omega
    exact World.cell?_setCell_same _ _ _ hov
  · exact ((hk1.mono fun _ _ _ e => e.elim).drewN q).trans ((keep_setCell _ _ _ _).mono fun a b _ e => ⟨e.1, by simp; omega⟩)

theorem hl16 (h l : UInt8) : ((h.toNat * 256 + l.toNat : Nat) : Int) / 256 = (h.toNat : Int) := by have := l.toNat_lt; omega
theorem hl16m (h l : UInt8) : ((h.toNat * 256 + l.toNat : Nat) : Int) % 256 = (l.toNat : Int) := by have := l.toNat_lt; omega

set_option maxHeartbeats 4000000 in
theorem setGray16 {w : World} {ib pb m st wd ht : Nat} (h : ImgAt w ib pb m st wd ht) (x y : Nat) (hx : x < wd) (hy : y < ht) (hwd : wd ≤ 60) (hht : ht ≤ 60) (hst : st ≤ 480) (hm : y * st + x * 2 + 2 ≤ m) (hm2 : m ≤ 28800) (u v : UInt8) :
    Calls Tryz.prog 110 #[.pointer (some ⟨ib, 0, none⟩), .int .i64 (x : Int), .int .i64 (y : Int), .agg #[.int .u16 ((u.toNat * 256 + v.toNat : Nat) : Int)]] w (SetPost w pb (y * st + x * 2) [u, v]) := by
  have hv1 := hl16 u v
  have hv2 := hl16m u v
  have hu8 : (u.toNat : Int) % 256 = (u.toNat : Int) := by have := u.toNat_lt; omega
  have hin := fun W => ptIn W x y wd ht hx hy
  unfold rectV at hin
  obtain ⟨z, hz⟩ : ∃ z, z = u.toNat * 256 + v.toNat := ⟨_, rfl⟩
  rw [← hz] at hv1 hv2 ⊢
  obtain ⟨wb, hwb⟩ : ∃ wb, wb = w.alloc (.cells #[.int .u16 (z : Int)] 233) := ⟨_, rfl⟩
  have kb : Keep Nil2 w wb := by rw [hwb]; exact (Keep.refl Nil2 w).alloc _
  have cb : wb.cell? ⟨w.heap.size, 0, none⟩ = some (.int .u16 (z : Int)) := by rw [hwb]; go_simp
  have hb := h.keep kb (fun _ e => e) (fun _ e => e)
  have c0 := h.i0
  have c2 := h.i2
  have c3 := h.i3
  have c4 := h.i4
  have c5 := h.i5
  have hpl : pb < w.heap.size := h.room.lt (by omega)
  have hil := h.lt
  have HWB := Lib.hid hwb
  have HH := Lib.hid h
  clear hz hwb h
  go_enter Tryz.func110, Tryz.ntmps110
  go_wp2_with (go_at_call 117; fail)
  rw [← HWB.out]
  refine (hin _).mono ?_
  rintro e w1 ⟨rfl, hk1⟩
  have h1 := hb.keep hk1 (fun _ e => e) (fun _ e => e)
  have cb1 := hk1.get cb (fun e => e)
  go_wp2_with (go_at_call 122; fail)
  refine (pixOffGray16 h1 x y (by omega) (by omega) hst).mono ?_
  rintro e w2 ⟨rfl, q, rfl⟩
  obtain ⟨off, hoff⟩ : ∃ off, off = y * st + x * 2 := ⟨_, rfl⟩
  rw [← hoff] at hm ⊢
  have kq : Keep Nil2 w1 (w1.drewN q) := (Keep.refl Nil2 w1).drewN q
  have h2 : ImgAt (w1.drewN q) ib pb m st wd ht := h1.keep kq (fun _ e => e) (fun _ e => e)
  have cb2 : (w1.drewN q).cell? ⟨w.heap.size, 0, none⟩ = some (.int .u16 (z : Int)) := cb1
  have kw2 : Keep Nil2 w (w1.drewN q) := (kb.trans hk1).trans kq
  obtain ⟨w3, hw3⟩ : ∃ w3, w3 = w1.drewN q := ⟨_, rfl⟩
  rw [← hw3] at h2 cb2 kw2 ⊢
  have d0 := h2.i0
  obtain ⟨⟨ov, hov⟩, hfz⟩ := h2.room off (by omega)
  obtain ⟨⟨ow, how⟩, hfy⟩ := h2.room (off + 1) (by omega)
  rw [Nat.zero_add] at hov hfz how hfy
  have hoI : (off : Int) < m := by omega
  have hoJ : (off : Int) + 1 < m := by omega
  have e1 : IntKind.i64.wrap ((off : Int) + 1) = ((off + 1 : Nat) : Int) := by rw [IntWalk.i64_in _ (by omega)]; omega
  have nib : ¬ pb = ib := fun e => h2.ne e.symm
  have nbb : ¬ pb = w.heap.size := by omega
  have HO := Lib.hid hoff
  have H2 := Lib.hid h2
  have KW := Lib.hid kw2
  clear hoff c0 c2 c3 c4 c5 h1 h2 hb kb cb cb1 hk1 hw3 kw2 kq hin
  go_wp2
  go_region
  go_wp2
  go_region
  go_wp2
  go_end0
  rw [← HO.out]
  refine ⟨rfl, fun i hi => ?_, fun j => ?_, ?_⟩
  · match i, hi with
    | 0, _ => exact setF (World.cell?_setCell_same _ _ _ hov) (by omega)
    | 1, _ => exact World.cell?_setCell_same _ _ _ (setF how (by omega))
  · show ((w3.setCell _ _).setCell _ _).frozen? _ = _
    rw [World.frozen?_setCell, World.frozen?_setCell]
    exact KW.out.frozen pb j hpl fun e => e
  · exact ((((KW.out.mono fun _ _ _ e => e.elim).trans ((keep_setCell _ _ _ _).mono fun a b _ e => ⟨e.1, by simp; omega⟩)).trans ((keep_setCell _ _ _ _).mono fun a b _ e => ⟨e.1, by simp; omega⟩)).drew).drew

/-- A pixel was set, told of a world ahead of some draws. -/
theorem setFar {W0 w : World} {fn : FuncId} {args : Array Value} {ib pb nn st wd ht off : Nat} {l : List UInt8} (hI : ImgAt W0 ib pb nn st wd ht) (hk : Keep Nil2 W0 w) (h : ImgAt w ib pb nn st wd ht → Calls Tryz.prog fn args w (SetPost w pb off l)) :
    Calls Tryz.prog fn args w fun e w' => e = .returned (.tuple #[]) ∧ ImgAt w' ib pb nn st wd ht ∧ BytesAt w' pb off l ∧ Keep (fun p j => p = pb ∧ off ≤ j ∧ j < off + l.length) W0 w' := by
  have hi := hI.keep hk (fun _ e => e) (fun _ e => e)
  refine (h hi).mono ?_
  rintro e w' ⟨rfl, hb, hf, hks⟩
  exact ⟨rfl, hi.wrote hks (fun _ e => hi.ne e.1) (hi.room.after (l := l) hks (fun _ e => e.2) hb hf), hb, (hk.mono fun _ _ _ e => e.elim).trans hks⟩

set_option maxHeartbeats 8000000 in
set_option maxRecDepth 100000 in
theorem setRGBA64 {w : World} {ib pb m st wd ht : Nat} (h : ImgAt w ib pb m st wd ht) (x y : Nat) (hx : x < wd) (hy : y < ht) (hwd : wd ≤ 60) (hht : ht ≤ 60) (hst : st ≤ 480) (hm : y * st + x * 8 + 8 ≤ m) (hm2 : m ≤ 28800) (u0 u1 u2 u3 u4 u5 u6 u7 : UInt8) :
    Calls Tryz.prog 111 #[.pointer (some ⟨ib, 0, none⟩), .int .i64 (x : Int), .int .i64 (y : Int), .agg #[.int .u16 ((u0.toNat * 256 + u1.toNat : Nat) : Int), .int .u16 ((u2.toNat * 256 + u3.toNat : Nat) : Int), .int .u16 ((u4.toNat * 256 + u5.toNat : Nat) : Int), .int .u16 ((u6.toNat * 256 + u7.toNat : Nat) : Int)]] w (SetPost w pb (y * st + x * 8) [u0, u1, u2, u3, u4, u5, u6, u7]) := by
  have hv0 := hl16 u0 u1
  have hm0 := hl16m u0 u1
  have hu0 : (u0.toNat : Int) % 256 = (u0.toNat : Int) := by have := u0.toNat_lt; omega
  obtain ⟨z0, hz0⟩ : ∃ z, z = u0.toNat * 256 + u1.toNat := ⟨_, rfl⟩
  rw [← hz0] at hv0 hm0
  have hv1 := hl16 u2 u3
  have hm1 := hl16m u2 u3
  have hu1 : (u2.toNat : Int) % 256 = (u2.toNat : Int) := by have := u2.toNat_lt; omega
  obtain ⟨z1, hz1⟩ : ∃ z, z = u2.toNat * 256 + u3.toNat := ⟨_, rfl⟩
  rw [← hz1] at hv1 hm1
  have hv2 := hl16 u4 u5
  have hm2 := hl16m u4 u5
  have hu2 : (u4.toNat : Int) % 256 = (u4.toNat : Int) := by have := u4.toNat_lt; omega
  obtain ⟨z2, hz2⟩ : ∃ z, z = u4.toNat * 256 + u5.toNat := ⟨_, rfl⟩
  rw [← hz2] at hv2 hm2
  have hv3 := hl16 u6 u7
  have hm3 := hl16m u6 u7
  have hu3 : (u6.toNat : Int) % 256 = (u6.toNat : Int) := by have := u6.toNat_lt; omega
  obtain ⟨z3, hz3⟩ : ∃ z, z = u6.toNat * 256 + u7.toNat := ⟨_, rfl⟩
  rw [← hz3] at hv3 hm3
  have hin := fun W => ptIn W x y wd ht hx hy
  unfold rectV at hin
  rw [← hz0, ← hz1, ← hz2, ← hz3]
  obtain ⟨wb, hwb⟩ : ∃ wb, wb = w.alloc (.cells #[.int .u16 (z0 : Int), .int .u16 (z1 : Int), .int .u16 (z2 : Int), .int .u16 (z3 : Int)] 235) := ⟨_, rfl⟩
  have kb : Keep Nil2 w wb := by rw [hwb]; exact (Keep.refl Nil2 w).alloc _
  have cb0 : wb.cell? ⟨w.heap.size, 0, none⟩ = some (.int .u16 (z0 : Int)) := by rw [hwb]; go_simp
  have cb1 : wb.cell? ⟨w.heap.size, 1, none⟩ = some (.int .u16 (z1 : Int)) := by rw [hwb]; go_simp
  have cb2 : wb.cell? ⟨w.heap.size, 2, none⟩ = some (.int .u16 (z2 : Int)) := by rw [hwb]; go_simp
  have cb3 : wb.cell? ⟨w.heap.size, 3, none⟩ = some (.int .u16 (z3 : Int)) := by rw [hwb]; go_simp
  have hb := h.keep kb (fun _ e => e) (fun _ e => e)
  have c0 := h.i0
  have c2 := h.i2
  have c3 := h.i3
  have c4 := h.i4
  have c5 := h.i5
  have hpl : pb < w.heap.size := h.room.lt (by omega)
  have hil := h.lt
  have HWB := Lib.hid hwb
  have HH := Lib.hid h
  clear hz0 hz1 hz2 hz3 hwb h
  go_enter Tryz.func111, Tryz.ntmps111
  go_wp2_with (go_at_call 117; fail)
  rw [← HWB.out]
  refine (hin _).mono ?_
  rintro e w1 ⟨rfl, hk1⟩
  have h1 := hb.keep hk1 (fun _ e => e) (fun _ e => e)
  go_wp2_with (go_at_call 123; fail)
  refine (pixOffRGBA64 h1 x y (by omega) (by omega) hst).mono ?_
  rintro e w2 ⟨rfl, q, rfl⟩
  obtain ⟨off, hoff⟩ : ∃ off, off = y * st + x * 8 := ⟨_, rfl⟩
  rw [← hoff] at hm ⊢
  have kq : Keep Nil2 w1 (w1.drewN q) := (Keep.refl Nil2 w1).drewN q
  have h2 : ImgAt (w1.drewN q) ib pb m st wd ht := h1.keep kq (fun _ e => e) (fun _ e => e)
  have db0 : (w1.drewN q).cell? ⟨w.heap.size, 0, none⟩ = some (.int .u16 (z0 : Int)) := hk1.get cb0 (fun e => e)
  have db1 : (w1.drewN q).cell? ⟨w.heap.size, 1, none⟩ = some (.int .u16 (z1 : Int)) := hk1.get cb1 (fun e => e)
  have db2 : (w1.drewN q).cell? ⟨w.heap.size, 2, none⟩ = some (.int .u16 (z2 : Int)) := hk1.get cb2 (fun e => e)
  have db3 : (w1.drewN q).cell? ⟨w.heap.size, 3, none⟩ = some (.int .u16 (z3 : Int)) := hk1.get cb3 (fun e => e)
  have kw2 : Keep Nil2 w (w1.drewN q) := (kb.trans hk1).trans kq
  obtain ⟨w3, hw3⟩ : ∃ w3, w3 = w1.drewN q := ⟨_, rfl⟩
  rw [← hw3] at h2 db0 db1 db2 db3 kw2 ⊢
  have d0 := h2.i0
  obtain ⟨⟨o0, ho0⟩, hf0⟩ := h2.room off (by omega)
  rw [Nat.zero_add] at ho0 hf0
  obtain ⟨⟨o1, ho1⟩, hf1⟩ := h2.room (off + 1) (by omega)
  rw [Nat.zero_add] at ho1 hf1
  obtain ⟨⟨o2, ho2⟩, hf2⟩ := h2.room (off + 2) (by omega)
  rw [Nat.zero_add] at ho2 hf2
  obtain ⟨⟨o3, ho3⟩, hf3⟩ := h2.room (off + 3) (by omega)
  rw [Nat.zero_add] at ho3 hf3
  obtain ⟨⟨o4, ho4⟩, hf4⟩ := h2.room (off + 4) (by omega)
  rw [Nat.zero_add] at ho4 hf4
  obtain ⟨⟨o5, ho5⟩, hf5⟩ := h2.room (off + 5) (by omega)
  rw [Nat.zero_add] at ho5 hf5
  obtain ⟨⟨o6, ho6⟩, hf6⟩ := h2.room (off + 6) (by omega)
  rw [Nat.zero_add] at ho6 hf6
  obtain ⟨⟨o7, ho7⟩, hf7⟩ := h2.room (off + 7) (by omega)
  rw [Nat.zero_add] at ho7 hf7
  have hoI : (off : Int) ≤ m := by omega
  have hoJ : (off : Int) + 8 ≤ m := by omega
  have e8 : IntKind.i64.wrap ((off : Int) + 8) = ((off + 8 : Nat) : Int) := by rw [IntWalk.i64_in _ (by omega)]; omega
  have nib : ¬ pb = ib := fun e => h2.ne e.symm
  have nbb : ¬ pb = w.heap.size := by omega
  have nof : ¬ m = off := by omega
  have HO := Lib.hid hoff
  have H2 := Lib.hid h2
  have KW := Lib.hid kw2
  clear hoff c0 c2 c3 c4 c5 h1 h2 hb kb cb0 cb1 cb2 cb3 hk1 hw3 kw2 kq hin
  go_wp2
  go_end0
  rw [← HO.out]
  refine ⟨rfl, fun i hi => ?_, fun j => ?_, ?_⟩
  · match i, hi with
    | 0, _ => exact setF (setF (setF (setF (setF (setF (setF (World.cell?_setCell_same _ _ _ ho0) (by omega)) (by omega)) (by omega)) (by omega)) (by omega)) (by omega)) (by omega)
    | 1, _ => exact setF (setF (setF (setF (setF (setF (World.cell?_setCell_same _ _ _ (setF ho1 (by omega))) (by omega)) (by omega)) (by omega)) (by omega)) (by omega)) (by omega)
    | 2, _ => exact setF (setF (setF (setF (setF (World.cell?_setCell_same _ _ _ (setF (setF ho2 (by omega)) (by omega))) (by omega)) (by omega)) (by omega)) (by omega)) (by omega)
    | 3, _ => exact setF (setF (setF (setF (World.cell?_setCell_same _ _ _ (setF (setF (setF ho3 (by omega)) (by omega)) (by omega))) (by omega)) (by omega)) (by omega)) (by omega)
    | 4, _ => exact setF (setF (setF (World.cell?_setCell_same _ _ _ (setF (setF (setF (setF ho4 (by omega)) (by omega)) (by omega)) (by omega))) (by omega)) (by omega)) (by omega)
    | 5, _ => exact setF (setF (World.cell?_setCell_same _ _ _ (setF (setF (setF (setF (setF ho5 (by omega)) (by omega)) (by omega)) (by omega)) (by omega))) (by omega)) (by omega)
    | 6, _ => exact setF (World.cell?_setCell_same _ _ _ (setF (setF (setF (setF (setF (setF ho6 (by omega)) (by omega)) (by omega)) (by omega)) (by omega)) (by omega))) (by omega)
    | 7, _ => exact World.cell?_setCell_same _ _ _ (setF (setF (setF (setF (setF (setF (setF ho7 (by omega)) (by omega)) (by omega)) (by omega)) (by omega)) (by omega)) (by omega))
  · rw [World.frozen?_setCell, World.frozen?_setCell, World.frozen?_setCell, World.frozen?_setCell, World.frozen?_setCell, World.frozen?_setCell, World.frozen?_setCell, World.frozen?_setCell]
    exact KW.out.frozen pb j hpl fun e => e
  · exact (((((((((KW.out.mono fun _ _ _ e => e.elim).trans ((keep_setCell _ _ _ _).mono fun a b _ e => ⟨e.1, by simp; omega⟩)).trans ((keep_setCell _ _ _ _).mono fun a b _ e => ⟨e.1, by simp; omega⟩)).trans ((keep_setCell _ _ _ _).mono fun a b _ e => ⟨e.1, by simp; omega⟩)).trans ((keep_setCell _ _ _ _).mono fun a b _ e => ⟨e.1, by simp; omega⟩)).trans ((keep_setCell _ _ _ _).mono fun a b _ e => ⟨e.1, by simp; omega⟩)).trans ((keep_setCell _ _ _ _).mono fun a b _ e => ⟨e.1, by simp; omega⟩)).trans ((keep_setCell _ _ _ _).mono fun a b _ e => ⟨e.1, by simp; omega⟩)).trans ((keep_setCell _ _ _ _).mono fun a b _ e => ⟨e.1, by simp; omega⟩))

set_option maxHeartbeats 8000000 in
set_option maxRecDepth 100000 in
theorem setNRGBA64 {w : World} {ib pb m st wd ht : Nat} (h : ImgAt w ib pb m st wd ht) (x y : Nat) (hx : x < wd) (hy : y < ht) (hwd : wd ≤ 60) (hht : ht ≤ 60) (hst : st ≤ 480) (hm : y * st + x * 8 + 8 ≤ m) (hm2 : m ≤ 28800) (u0 u1 u2 u3 u4 u5 u6 u7 : UInt8) :
    Calls Tryz.prog 109 #[.pointer (some ⟨ib, 0, none⟩), .int .i64 (x : Int), .int .i64 (y : Int), .agg #[.int .u16 ((u0.toNat * 256 + u1.toNat : Nat) : Int), .int .u16 ((u2.toNat * 256 + u3.toNat : Nat) : Int), .int .u16 ((u4.toNat * 256 + u5.toNat : Nat) : Int), .int .u16 ((u6.toNat * 256 + u7.toNat : Nat) : Int)]] w (SetPost w pb (y * st + x * 8) [u0, u1, u2, u3, u4, u5, u6, u7]) := by
  have hv0 := hl16 u0 u1
  have hm0 := hl16m u0 u1
  have hu0 : (u0.toNat : Int) % 256 = (u0.toNat : Int) := by have := u0.toNat_lt; omega
  obtain ⟨z0, hz0⟩ : ∃ z, z = u0.toNat * 256 + u1.toNat := ⟨_, rfl⟩
  rw [← hz0] at hv0 hm0
  have hv1 := hl16 u2 u3
  have hm1 := hl16m u2 u3
  have hu1 : (u2.toNat : Int) % 256 = (u2.toNat : Int) := by have := u2.toNat_lt; omega
  obtain ⟨z1, hz1⟩ : ∃ z, z = u2.toNat * 256 + u3.toNat := ⟨_, rfl⟩
  rw [← hz1] at hv1 hm1
  have hv2 := hl16 u4 u5
  have hm2 := hl16m u4 u5
  have hu2 : (u4.toNat : Int) % 256 = (u4.toNat : Int) := by have := u4.toNat_lt; omega
  obtain ⟨z2, hz2⟩ : ∃ z, z = u4.toNat * 256 + u5.toNat := ⟨_, rfl⟩
  rw [← hz2] at hv2 hm2
  have hv3 := hl16 u6 u7
  have hm3 := hl16m u6 u7
  have hu3 : (u6.toNat : Int) % 256 = (u6.toNat : Int) := by have := u6.toNat_lt; omega
  obtain ⟨z3, hz3⟩ : ∃ z, z = u6.toNat * 256 + u7.toNat := ⟨_, rfl⟩
  rw [← hz3] at hv3 hm3
  have hin := fun W => ptIn W x y wd ht hx hy
  unfold rectV at hin
  rw [← hz0, ← hz1, ← hz2, ← hz3]
  obtain ⟨wb, hwb⟩ : ∃ wb, wb = w.alloc (.cells #[.int .u16 (z0 : Int), .int .u16 (z1 : Int), .int .u16 (z2 : Int), .int .u16 (z3 : Int)] 230) := ⟨_, rfl⟩
  have kb : Keep Nil2 w wb := by rw [hwb]; exact (Keep.refl Nil2 w).alloc _
  have cb0 : wb.cell? ⟨w.heap.size, 0, none⟩ = some (.int .u16 (z0 : Int)) := by rw [hwb]; go_simp
  have cb1 : wb.cell? ⟨w.heap.size, 1, none⟩ = some (.int .u16 (z1 : Int)) := by rw [hwb]; go_simp
  have cb2 : wb.cell? ⟨w.heap.size, 2, none⟩ = some (.int .u16 (z2 : Int)) := by rw [hwb]; go_simp
  have cb3 : wb.cell? ⟨w.heap.size, 3, none⟩ = some (.int .u16 (z3 : Int)) := by rw [hwb]; go_simp
  have hb := h.keep kb (fun _ e => e) (fun _ e => e)
  have c0 := h.i0
  have c2 := h.i2
  have c3 := h.i3
  have c4 := h.i4
  have c5 := h.i5
  have hpl : pb < w.heap.size := h.room.lt (by omega)
  have hil := h.lt
  have HWB := Lib.hid hwb
  have HH := Lib.hid h
  clear hz0 hz1 hz2 hz3 hwb h
  go_enter Tryz.func109, Tryz.ntmps109
  go_wp2_with (go_at_call 117; fail)
  rw [← HWB.out]
  refine (hin _).mono ?_
  rintro e w1 ⟨rfl, hk1⟩
  have h1 := hb.keep hk1 (fun _ e => e) (fun _ e => e)
  go_wp2_with (go_at_call 121; fail)
  refine (pixOffNRGBA64 h1 x y (by omega) (by omega) hst).mono ?_
  rintro e w2 ⟨rfl, q, rfl⟩
  obtain ⟨off, hoff⟩ : ∃ off, off = y * st + x * 8 := ⟨_, rfl⟩
  rw [← hoff] at hm ⊢
  have kq : Keep Nil2 w1 (w1.drewN q) := (Keep.refl Nil2 w1).drewN q
  have h2 : ImgAt (w1.drewN q) ib pb m st wd ht := h1.keep kq (fun _ e => e) (fun _ e => e)
  have db0 : (w1.drewN q).cell? ⟨w.heap.size, 0, none⟩ = some (.int .u16 (z0 : Int)) := hk1.get cb0 (fun e => e)
  have db1 : (w1.drewN q).cell? ⟨w.heap.size, 1, none⟩ = some (.int .u16 (z1 : Int)) := hk1.get cb1 (fun e => e)
  have db2 : (w1.drewN q).cell? ⟨w.heap.size, 2, none⟩ = some (.int .u16 (z2 : Int)) := hk1.get cb2 (fun e => e)
  have db3 : (w1.drewN q).cell? ⟨w.heap.size, 3, none⟩ = some (.int .u16 (z3 : Int)) := hk1.get cb3 (fun e => e)
  have kw2 : Keep Nil2 w (w1.drewN q) := (kb.trans hk1).trans kq
  obtain ⟨w3, hw3⟩ : ∃ w3, w3 = w1.drewN q := ⟨_, rfl⟩
  rw [← hw3] at h2 db0 db1 db2 db3 kw2 ⊢
  have d0 := h2.i0
  obtain ⟨⟨o0, ho0⟩, hf0⟩ := h2.room off (by omega)
  rw [Nat.zero_add] at ho0 hf0
  obtain ⟨⟨o1, ho1⟩, hf1⟩ := h2.room (off + 1) (by omega)
  rw [Nat.zero_add] at ho1 hf1
  obtain ⟨⟨o2, ho2⟩, hf2⟩ := h2.room (off + 2) (by omega)
  rw [Nat.zero_add] at ho2 hf2
  obtain ⟨⟨o3, ho3⟩, hf3⟩ := h2.room (off + 3) (by omega)
  rw [Nat.zero_add] at ho3 hf3
  obtain ⟨⟨o4, ho4⟩, hf4⟩ := h2.room (off + 4) (by omega)
  rw [Nat.zero_add] at ho4 hf4
  obtain ⟨⟨o5, ho5⟩, hf5⟩ := h2.room (off + 5) (by omega)
  rw [Nat.zero_add] at ho5 hf5
  obtain ⟨⟨o6, ho6⟩, hf6⟩ := h2.room (off + 6) (by omega)
  rw [Nat.zero_add] at ho6 hf6
  obtain ⟨⟨o7, ho7⟩, hf7⟩ := h2.room (off + 7) (by omega)
  rw [Nat.zero_add] at ho7 hf7
  have hoI : (off : Int) ≤ m := by omega
  have hoJ : (off : Int) + 8 ≤ m := by omega
  have e8 : IntKind.i64.wrap ((off : Int) + 8) = ((off + 8 : Nat) : Int) := by rw [IntWalk.i64_in _ (by omega)]; omega
  have nib : ¬ pb = ib := fun e => h2.ne e.symm
  have nbb : ¬ pb = w.heap.size := by omega
  have nof : ¬ m = off := by omega
  have HO := Lib.hid hoff
  have H2 := Lib.hid h2
  have KW := Lib.hid kw2
  clear hoff c0 c2 c3 c4 c5 h1 h2 hb kb cb0 cb1 cb2 cb3 hk1 hw3 kw2 kq hin
  go_wp2
  go_end0
  rw [← HO.out]
  refine ⟨rfl, fun i hi => ?_, fun j => ?_, ?_⟩
  · match i, hi with
    | 0, _ => exact setF (setF (setF (setF (setF (setF (setF (World.cell?_setCell_same _ _ _ ho0) (by omega)) (by omega)) (by omega)) (by omega)) (by omega)) (by omega)) (by omega)
    | 1, _ => exact setF (setF (setF (setF (setF (setF (World.cell?_setCell_same _ _ _ (setF ho1 (by omega))) (by omega)) (by omega)) (by omega)) (by omega)) (by omega)) (by omega)
    | 2, _ => exact setF (setF (setF (setF (setF (World.cell?_setCell_same _ _ _ (setF (setF ho2 (by omega)) (by omega))) (by omega)) (by omega)) (by omega)) (by omega)) (by omega)
    | 3, _ => exact setF (setF (setF (setF (World.cell?_setCell_same _ _ _ (setF (setF (setF ho3 (by omega)) (by omega)) (by omega))) (by omega)) (by omega)) (by omega)) (by omega)
    | 4, _ => exact setF (setF (setF (World.cell?_setCell_same _ _ _ (setF (setF (setF (setF ho4 (by omega)) (by omega)) (by omega)) (by omega))) (by omega)) (by omega)) (by omega)
    | 5, _ => exact setF (setF (World.cell?_setCell_same _ _ _ (setF (setF (setF (setF (setF ho5 (by omega)) (by omega)) (by omega)) (by omega)) (by omega))) (by omega)) (by omega)
    | 6, _ => exact setF (World.cell?_setCell_same _ _ _ (setF (setF (setF (setF (setF (setF ho6 (by omega)) (by omega)) (by omega)) (by omega)) (by omega)) (by omega))) (by omega)
    | 7, _ => exact World.cell?_setCell_same _ _ _ (setF (setF (setF (setF (setF (setF (setF ho7 (by omega)) (by omega)) (by omega)) (by omega)) (by omega)) (by omega)) (by omega))
  · rw [World.frozen?_setCell, World.frozen?_setCell, World.frozen?_setCell, World.frozen?_setCell, World.frozen?_setCell, World.frozen?_setCell, World.frozen?_setCell, World.frozen?_setCell]
    exact KW.out.frozen pb j hpl fun e => e
  · exact (((((((((KW.out.mono fun _ _ _ e => e.elim).trans ((keep_setCell _ _ _ _).mono fun a b _ e => ⟨e.1, by simp; omega⟩)).trans ((keep_setCell _ _ _ _).mono fun a b _ e => ⟨e.1, by simp; omega⟩)).trans ((keep_setCell _ _ _ _).mono fun a b _ e => ⟨e.1, by simp; omega⟩)).trans ((keep_setCell _ _ _ _).mono fun a b _ e => ⟨e.1, by simp; omega⟩)).trans ((keep_setCell _ _ _ _).mono fun a b _ e => ⟨e.1, by simp; omega⟩)).trans ((keep_setCell _ _ _ _).mono fun a b _ e => ⟨e.1, by simp; omega⟩)).trans ((keep_setCell _ _ _ _).mono fun a b _ e => ⟨e.1, by simp; omega⟩)).trans ((keep_setCell _ _ _ _).mono fun a b _ e => ⟨e.1, by simp; omega⟩))
end Go.Proofs.YtnbbppjgamdfeaaGreatDoor
end
