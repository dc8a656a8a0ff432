/- laws.FnBack, part 12 of 54: E1 E2 E3. -/
import Derived.Test.YtnbbppjgamdfeaaGreatDoorY11
import Derived.Test.YtnbbppjgamdfeaaGreatDoorY01
import Derived.Test.YtnbbppjgamdfeaaGreatDoorY02
import Derived.Test.YtnbbppjgamdfeaaGreatDoorY05

/- image: new pictures (printed by gen_e1.py). -/
section
set_option linter.unusedVariables false
set_option linter.unusedSimpArgs false
namespace Go.Proofs.YtnbbppjgamdfeaaGreatDoor
open Go Go.RowKit

/-- A picture's fields at block ib: its bytes at block pb, n of them, a row's step, how wide and high. -/
structure ImgAt (w : World) (ib pb n stride wd ht : Nat) : Prop where
  i0 : w.cell? ⟨ib, 0, none⟩ = some (.slice (some ⟨pb, 0, none⟩) n n)
  i1 : w.cell? ⟨ib, 1, none⟩ = some (.int .i64 (stride : Int))
  i2 : w.cell? ⟨ib, 2, none⟩ = some (.int .i64 0)
  i3 : w.cell? ⟨ib, 3, none⟩ = some (.int .i64 0)
  i4 : w.cell? ⟨ib, 4, none⟩ = some (.int .i64 (wd : Int))
  i5 : w.cell? ⟨ib, 5, none⟩ = some (.int .i64 (ht : Int))
  fz : ∀ j, w.frozen? ⟨ib, j, none⟩ = false
  room : RoomAt w pb 0 n
  ne : ib ≠ pb
theorem ImgAt.lt {w : World} {ib pb n stride wd ht : Nat} (h : ImgAt w ib pb n stride wd ht) : ib < w.heap.size := World.block_lt_of_cell? w _ h.i0
theorem ImgAt.keep {F : Nat → Nat → Prop} {w w' : World} {ib pb n stride wd ht : Nat} (h : ImgAt w ib pb n stride wd ht) (hk : Keep F w w') (h1 : ∀ y, ¬ F ib y) (h2 : ∀ y, ¬ F pb y) : ImgAt w' ib pb n stride wd ht :=
  ⟨hk.get h.i0 (h1 _), hk.get h.i1 (h1 _), hk.get h.i2 (h1 _), hk.get h.i3 (h1 _), hk.get h.i4 (h1 _), hk.get h.i5 (h1 _), fun j => hk.froz h.lt (h.fz j) (h1 j), h.room.keep hk fun _ _ => h2 _, h.ne⟩
/-- Bytes were written into the picture. -/
theorem ImgAt.wrote {F : Nat → Nat → Prop} {w w' : World} {ib pb n stride wd ht : Nat} (h : ImgAt w ib pb n stride wd ht) (hk : Keep F w w') (h1 : ∀ y, ¬ F ib y) (hr : RoomAt w' pb 0 n) : ImgAt w' ib pb n stride wd ht :=
  ⟨hk.get h.i0 (h1 _), hk.get h.i1 (h1 _), hk.get h.i2 (h1 _), hk.get h.i3 (h1 _), hk.get h.i4 (h1 _), hk.get h.i5 (h1 _), fun j => hk.froz h.lt (h.fz j) (h1 j), hr, h.ne⟩

theorem makeBytes_eq (w : World) (kl kc : IntKind) (n : Nat) (hn : n ≤ 1073741824) :
    (Instr.makeSlice 23 (.int kl (n : Int)) (.int kc (n : Int))).run Tryz.prog w = .ok (.slice (some ⟨w.heap.size, 0, none⟩) n n) (w.alloc (.cells (madeCells #[.int .u8 0] n) 5)) := by
  obtain ⟨i, hi, hz, hsz, hby⟩ := info_of (P := Tryz.prog) (e := 5) (z := .int .u8 0) (size := 1) (bytes := 1) (by kernel_rfl)
  have := run_make (P := Tryz.prog) w 23 5 i (.int .u8 0) Tryz.underlying23 hi hz kl kc n n (by omega) (by omega) (by rw [hby]; omega) (by omega)
  rw [this, hsz, Int.toNat_natCast, Nat.mul_one]; rfl
theorem madeBytes (w : World) (n : Nat) : RoomAt (w.alloc (.cells (madeCells #[.int .u8 0] n) 5)) w.heap.size 0 n :=
  (makeBytes_facts (size_madeCells _ _) fun j hj => by unfold madeCells; simp [hj, Nat.mod_one]).2.1

theorem palAt (W : World) (ty : TypeId) (cs : Array Value) (j : Nat) (v : Value) (h : cs[j]? = some v) : (W.alloc (.cells cs ty)).cell? ⟨W.heap.size, j, none⟩ = some v :=
  (cell_of_row _ _ _ _ _ _ (heap_alloc_new W (.cells cs ty))).trans h
theorem imgBox (W : World) (ty : TypeId) (cs : Array Value) (pb r st wd ht : Nat) (h0 : cs[0]? = some (.slice (some ⟨pb, 0, none⟩) r r)) (h1 : cs[1]? = some (.int .i64 (st : Int))) (h2 : cs[2]? = some (.int .i64 0)) (h3 : cs[3]? = some (.int .i64 0)) (h4 : cs[4]? = some (.int .i64 (wd : Int))) (h5 : cs[5]? = some (.int .i64 (ht : Int)))
    (hr : RoomAt W pb 0 r) (hp : pb < W.heap.size) : ImgAt (W.alloc (.cells cs ty)) W.heap.size pb r st wd ht := by
  have hh := heap_alloc_new W (.cells cs ty)
  have c : ∀ j, (W.alloc (.cells cs ty)).cell? ⟨W.heap.size, j, none⟩ = cs[j]? := fun j => cell_of_row _ _ _ _ _ _ hh
  exact ⟨(c 0).trans h0, (c 1).trans h1, (c 2).trans h2, (c 3).trans h3, (c 4).trans h4, (c 5).trans h5, fun j => frozen_of_row _ _ _ _ _ hh, hr.keep ((Keep.refl Nil2 W).alloc _) fun _ _ e => e, by omega⟩


set_option maxHeartbeats 2000000 in
set_option maxRecDepth 100000 in
theorem imgNewGray (w : World) (wd ht : Nat) (hw : wd ≤ 60) (hh : ht ≤ 60) :
    Calls Tryz.prog 99 #[rectV wd ht] w fun e w' => ∃ ib pb, e = .returned (.pointer (some ⟨ib, 0, none⟩)) ∧ w.heap.size ≤ ib ∧ w.heap.size ≤ pb ∧ ImgAt w' ib pb (1 * wd * ht) (1 * wd) wd ht ∧ Keep Nil2 w w' := by
  have hnw : 1 * wd ≤ 1 * 60 := Nat.mul_le_mul_left 1 hw
  have hnwh : 1 * wd * ht ≤ 1 * 60 * 60 := Nat.mul_le_mul hnw hh
  have hdx := fun W => imgDx W wd ht (by omega)
  have hlen := fun W => imgLen W 1 wd ht { data := #[71, 114, 97, 121] } (by omega) hw hh
  unfold rectV at hdx hlen ⊢
  obtain ⟨r, hr⟩ : ∃ r, r = 1 * wd * ht := ⟨_, rfl⟩
  rw [← hr] at hlen hnwh ⊢
  obtain ⟨st, hst⟩ : ∃ st, st = 1 * wd := ⟨_, rfl⟩
  have hmw : IntKind.i64.wrap (wd : Int) = (st : Int) := by rw [IntWalk.i64_in _ (by omega)]; omega
  rw [← hst]
  have hmk := fun W => makeBytes_eq W .i64 .i64 r (by omega)
  have HX := Lib.hid hdx
  have HL := Lib.hid hlen
  have HR := Lib.hid hnwh
  clear hr hdx hlen hnwh hnw hst
  go_enter Tryz.func99, Tryz.ntmps99
  go_wp2
  obtain ⟨w1, hw1⟩ : ∃ w1, w1 = w.alloc (.cells #[.int .i64 0, .int .i64 0, .int .i64 (wd : Int), .int .i64 (ht : Int)] 112) := ⟨_, rfl⟩
  rw [← hw1]
  have k1 : Keep Nil2 w w1 := by rw [hw1]; exact (Keep.refl Nil2 w).alloc _
  have c0 : w1.cell? ⟨w.heap.size, 0, none⟩ = some (.int .i64 0) := by rw [hw1]; go_simp
  have c1 : w1.cell? ⟨w.heap.size, 1, none⟩ = some (.int .i64 0) := by rw [hw1]; go_simp
  have c2 : w1.cell? ⟨w.heap.size, 2, none⟩ = some (.int .i64 (wd : Int)) := by rw [hw1]; go_simp
  have c3 : w1.cell? ⟨w.heap.size, 3, none⟩ = some (.int .i64 (ht : Int)) := by rw [hw1]; go_simp
  have hsz1 : w1.heap.size = w.heap.size + 1 := by rw [hw1]; simp
  clear hw1
  have HK := Lib.hid k1
  have HS1 := Lib.hid hsz1
  clear k1 hsz1
  have hkeep : ∀ W W' : World, (Keep Nil2 w1 W ∧ W.cell? ⟨w.heap.size, 0, none⟩ = some (.int .i64 0) ∧ W.cell? ⟨w.heap.size, 1, none⟩ = some (.int .i64 0) ∧ W.cell? ⟨w.heap.size, 2, none⟩ = some (.int .i64 (wd : Int)) ∧ W.cell? ⟨w.heap.size, 3, none⟩ = some (.int .i64 (ht : Int))) → Keep Nil2 W W' → (Keep Nil2 w1 W' ∧ W'.cell? ⟨w.heap.size, 0, none⟩ = some (.int .i64 0) ∧ W'.cell? ⟨w.heap.size, 1, none⟩ = some (.int .i64 0) ∧ W'.cell? ⟨w.heap.size, 2, none⟩ = some (.int .i64 (wd : Int)) ∧ W'.cell? ⟨w.heap.size, 3, none⟩ = some (.int .i64 (ht : Int))) := fun W W' hs hk => ⟨hs.1.trans hk, hk.get hs.2.1 (fun e => e), hk.get hs.2.2.1 (fun e => e), hk.get hs.2.2.2.1 (fun e => e), hk.get hs.2.2.2.2 (fun e => e)⟩
  have X := Lib.hid fun (W : World) (hs : (Keep Nil2 w1 W ∧ W.cell? ⟨w.heap.size, 0, none⟩ = some (.int .i64 0) ∧ W.cell? ⟨w.heap.size, 1, none⟩ = some (.int .i64 0) ∧ W.cell? ⟨w.heap.size, 2, none⟩ = some (.int .i64 (wd : Int)) ∧ W.cell? ⟨w.heap.size, 3, none⟩ = some (.int .i64 (ht : Int)))) => (HX.out W).mono (fun e w' (h : e = .returned (.int .i64 (wd : Int)) ∧ Keep Nil2 W w') => And.intro h.1 (And.intro (hkeep W w' hs h.2) h.2))
  have L := Lib.hid fun (W : World) (hs : (Keep Nil2 w1 W ∧ W.cell? ⟨w.heap.size, 0, none⟩ = some (.int .i64 0) ∧ W.cell? ⟨w.heap.size, 1, none⟩ = some (.int .i64 0) ∧ W.cell? ⟨w.heap.size, 2, none⟩ = some (.int .i64 (wd : Int)) ∧ W.cell? ⟨w.heap.size, 3, none⟩ = some (.int .i64 (ht : Int)))) => (HL.out W).mono (fun e w' (h : e = .returned (.int .i64 (r : Int)) ∧ Keep Nil2 W w') => And.intro h.1 (And.intro (hkeep W w' hs h.2) h.2))
  have A := Lib.hid fun (W : World) (o : Obj) (hs : (Keep Nil2 w1 W ∧ W.cell? ⟨w.heap.size, 0, none⟩ = some (.int .i64 0) ∧ W.cell? ⟨w.heap.size, 1, none⟩ = some (.int .i64 0) ∧ W.cell? ⟨w.heap.size, 2, none⟩ = some (.int .i64 (wd : Int)) ∧ W.cell? ⟨w.heap.size, 3, none⟩ = some (.int .i64 (ht : Int)))) => hkeep W (W.alloc o) hs ((Keep.refl Nil2 W).alloc o)
  clear HX HL hkeep
  go_region_held3 (fun w' => Keep Nil2 w1 w' ∧ w'.cell? ⟨w.heap.size, 0, none⟩ = some (.int .i64 0) ∧ w'.cell? ⟨w.heap.size, 1, none⟩ = some (.int .i64 0) ∧ w'.cell? ⟨w.heap.size, 2, none⟩ = some (.int .i64 (wd : Int)) ∧ w'.cell? ⟨w.heap.size, 3, none⟩ = some (.int .i64 (ht : Int)))
    (first | exact ⟨(Keep.refl Nil2 w1).drew, c0, c1, c2, c3⟩ | exact hsX | exact hsL | exact A.out _ _ hsX | exact A.out _ _ hsL | exact A.out _ _ (A.out _ _ hsX) | exact A.out _ _ (A.out _ _ hsL))
    (first | (go_at_call 114; refine (L.out _ (by assumption)).mono ?_; rintro e wL ⟨rfl, hsL, hkL⟩) | (go_at_call 115; refine (X.out _ (by assumption)).mono ?_; rintro e wX ⟨rfl, hsX, hkX⟩))
  · go_wp2
    go_ret
    have s1 := HS1.out
    have s2 := hsL.1.size
    have s3 := hkX.size
    have s4 : (wL.alloc (.cells (madeCells #[.int .u8 0] r) 5)).heap.size = wL.heap.size + 1 := by simp
    refine ⟨_, _, rfl, by omega, by omega, imgBox wX 114 _ wL.heap.size r st wd ht rfl rfl rfl rfl rfl rfl ((madeBytes wL r).keep hkX fun _ _ e => e) (by omega), (HK.out.trans hsX.1).alloc _⟩
  · go_wp2
    go_ret
    have s1 := HS1.out
    have s2 := hsX.1.size
    have s4 : (wX.alloc (.cells (madeCells #[.int .u8 0] r) 5)).heap.size = wX.heap.size + 1 := by simp
    refine ⟨wX.heap.size + 1, wX.heap.size, rfl, by omega, by omega, ?_, ((HK.out.trans hsX.1).alloc _).alloc _⟩
    · have := imgBox (wX.alloc (.cells (madeCells #[.int .u8 0] r) 5)) 114 #[.slice (some ⟨wX.heap.size, 0, none⟩) r r, .int .i64 (st : Int), .int .i64 0, .int .i64 0, .int .i64 (wd : Int), .int .i64 (ht : Int)] wX.heap.size r st wd ht rfl rfl rfl rfl rfl rfl (madeBytes wX r) (by omega)
      rw [s4] at this
      exact this

set_option maxHeartbeats 2000000 in
set_option maxRecDepth 100000 in
theorem imgNewGray16 (w : World) (wd ht : Nat) (hw : wd ≤ 60) (hh : ht ≤ 60) :
    Calls Tryz.prog 103 #[rectV wd ht] w fun e w' => ∃ ib pb, e = .returned (.pointer (some ⟨ib, 0, none⟩)) ∧ w.heap.size ≤ ib ∧ w.heap.size ≤ pb ∧ ImgAt w' ib pb (2 * wd * ht) (2 * wd) wd ht ∧ Keep Nil2 w w' := by
  have hnw : 2 * wd ≤ 2 * 60 := Nat.mul_le_mul_left 2 hw
  have hnwh : 2 * wd * ht ≤ 2 * 60 * 60 := Nat.mul_le_mul hnw hh
  have hdx := fun W => imgDx W wd ht (by omega)
  have hlen := fun W => imgLen W 2 wd ht { data := #[71, 114, 97, 121, 49, 54] } (by omega) hw hh
  unfold rectV at hdx hlen ⊢
  obtain ⟨r, hr⟩ : ∃ r, r = 2 * wd * ht := ⟨_, rfl⟩
  rw [← hr] at hlen hnwh ⊢
  obtain ⟨st, hst⟩ : ∃ st, st = 2 * wd := ⟨_, rfl⟩
  have hmw : IntKind.i64.wrap (2 * (wd : Int)) = (st : Int) := by rw [IntWalk.i64_in _ (by omega)]; omega
  rw [← hst]
  have hmk := fun W => makeBytes_eq W .i64 .i64 r (by omega)
  have HX := Lib.hid hdx
  have HL := Lib.hid hlen
  have HR := Lib.hid hnwh
  clear hr hdx hlen hnwh hnw hst
  go_enter Tryz.func103, Tryz.ntmps103
  go_wp2
  obtain ⟨w1, hw1⟩ : ∃ w1, w1 = w.alloc (.cells #[.int .i64 0, .int .i64 0, .int .i64 (wd : Int), .int .i64 (ht : Int)] 112) := ⟨_, rfl⟩
  rw [← hw1]
  have k1 : Keep Nil2 w w1 := by rw [hw1]; exact (Keep.refl Nil2 w).alloc _
  have c0 : w1.cell? ⟨w.heap.size, 0, none⟩ = some (.int .i64 0) := by rw [hw1]; go_simp
  have c1 : w1.cell? ⟨w.heap.size, 1, none⟩ = some (.int .i64 0) := by rw [hw1]; go_simp
  have c2 : w1.cell? ⟨w.heap.size, 2, none⟩ = some (.int .i64 (wd : Int)) := by rw [hw1]; go_simp
  have c3 : w1.cell? ⟨w.heap.size, 3, none⟩ = some (.int .i64 (ht : Int)) := by rw [hw1]; go_simp
  have hsz1 : w1.heap.size = w.heap.size + 1 := by rw [hw1]; simp
  clear hw1
  have HK := Lib.hid k1
  have HS1 := Lib.hid hsz1
  clear k1 hsz1
  have hkeep : ∀ W W' : World, (Keep Nil2 w1 W ∧ W.cell? ⟨w.heap.size, 0, none⟩ = some (.int .i64 0) ∧ W.cell? ⟨w.heap.size, 1, none⟩ = some (.int .i64 0) ∧ W.cell? ⟨w.heap.size, 2, none⟩ = some (.int .i64 (wd : Int)) ∧ W.cell? ⟨w.heap.size, 3, none⟩ = some (.int .i64 (ht : Int))) → Keep Nil2 W W' → (Keep Nil2 w1 W' ∧ W'.cell? ⟨w.heap.size, 0, none⟩ = some (.int .i64 0) ∧ W'.cell? ⟨w.heap.size, 1, none⟩ = some (.int .i64 0) ∧ W'.cell? ⟨w.heap.size, 2, none⟩ = some (.int .i64 (wd : Int)) ∧ W'.cell? ⟨w.heap.size, 3, none⟩ = some (.int .i64 (ht : Int))) := fun W W' hs hk => ⟨hs.1.trans hk, hk.get hs.2.1 (fun e => e), hk.get hs.2.2.1 (fun e => e), hk.get hs.2.2.2.1 (fun e => e), hk.get hs.2.2.2.2 (fun e => e)⟩
  have X := Lib.hid fun (W : World) (hs : (Keep Nil2 w1 W ∧ W.cell? ⟨w.heap.size, 0, none⟩ = some (.int .i64 0) ∧ W.cell? ⟨w.heap.size, 1, none⟩ = some (.int .i64 0) ∧ W.cell? ⟨w.heap.size, 2, none⟩ = some (.int .i64 (wd : Int)) ∧ W.cell? ⟨w.heap.size, 3, none⟩ = some (.int .i64 (ht : Int)))) => (HX.out W).mono (fun e w' (h : e = .returned (.int .i64 (wd : Int)) ∧ Keep Nil2 W w') => And.intro h.1 (And.intro (hkeep W w' hs h.2) h.2))
  have L := Lib.hid fun (W : World) (hs : (Keep Nil2 w1 W ∧ W.cell? ⟨w.heap.size, 0, none⟩ = some (.int .i64 0) ∧ W.cell? ⟨w.heap.size, 1, none⟩ = some (.int .i64 0) ∧ W.cell? ⟨w.heap.size, 2, none⟩ = some (.int .i64 (wd : Int)) ∧ W.cell? ⟨w.heap.size, 3, none⟩ = some (.int .i64 (ht : Int)))) => (HL.out W).mono (fun e w' (h : e = .returned (.int .i64 (r : Int)) ∧ Keep Nil2 W w') => And.intro h.1 (And.intro (hkeep W w' hs h.2) h.2))
  have A := Lib.hid fun (W : World) (o : Obj) (hs : (Keep Nil2 w1 W ∧ W.cell? ⟨w.heap.size, 0, none⟩ = some (.int .i64 0) ∧ W.cell? ⟨w.heap.size, 1, none⟩ = some (.int .i64 0) ∧ W.cell? ⟨w.heap.size, 2, none⟩ = some (.int .i64 (wd : Int)) ∧ W.cell? ⟨w.heap.size, 3, none⟩ = some (.int .i64 (ht : Int)))) => hkeep W (W.alloc o) hs ((Keep.refl Nil2 W).alloc o)
  clear HX HL hkeep
  go_region_held3 (fun w' => Keep Nil2 w1 w' ∧ w'.cell? ⟨w.heap.size, 0, none⟩ = some (.int .i64 0) ∧ w'.cell? ⟨w.heap.size, 1, none⟩ = some (.int .i64 0) ∧ w'.cell? ⟨w.heap.size, 2, none⟩ = some (.int .i64 (wd : Int)) ∧ w'.cell? ⟨w.heap.size, 3, none⟩ = some (.int .i64 (ht : Int)))
    (first | exact ⟨(Keep.refl Nil2 w1).drew, c0, c1, c2, c3⟩ | exact hsX | exact hsL | exact A.out _ _ hsX | exact A.out _ _ hsL | exact A.out _ _ (A.out _ _ hsX) | exact A.out _ _ (A.out _ _ hsL))
    (first | (go_at_call 114; refine (L.out _ (by assumption)).mono ?_; rintro e wL ⟨rfl, hsL, hkL⟩) | (go_at_call 115; refine (X.out _ (by assumption)).mono ?_; rintro e wX ⟨rfl, hsX, hkX⟩))
  · go_wp2
    go_ret
    have s1 := HS1.out
    have s2 := hsL.1.size
    have s3 := hkX.size
    have s4 : (wL.alloc (.cells (madeCells #[.int .u8 0] r) 5)).heap.size = wL.heap.size + 1 := by simp
    refine ⟨_, _, rfl, by omega, by omega, imgBox wX 116 _ wL.heap.size r st wd ht rfl rfl rfl rfl rfl rfl ((madeBytes wL r).keep hkX fun _ _ e => e) (by omega), (HK.out.trans hsX.1).alloc _⟩
  · go_wp2
    go_ret
    have s1 := HS1.out
    have s2 := hsX.1.size
    have s4 : (wX.alloc (.cells (madeCells #[.int .u8 0] r) 5)).heap.size = wX.heap.size + 1 := by simp
    refine ⟨wX.heap.size + 1, wX.heap.size, rfl, by omega, by omega, ?_, ((HK.out.trans hsX.1).alloc _).alloc _⟩
    · have := imgBox (wX.alloc (.cells (madeCells #[.int .u8 0] r) 5)) 116 #[.slice (some ⟨wX.heap.size, 0, none⟩) r r, .int .i64 (st : Int), .int .i64 0, .int .i64 0, .int .i64 (wd : Int), .int .i64 (ht : Int)] wX.heap.size r st wd ht rfl rfl rfl rfl rfl rfl (madeBytes wX r) (by omega)
      rw [s4] at this
      exact this

set_option maxHeartbeats 2000000 in
set_option maxRecDepth 100000 in
theorem imgNewRGBA (w : World) (wd ht : Nat) (hw : wd ≤ 60) (hh : ht ≤ 60) :
    Calls Tryz.prog 100 #[rectV wd ht] w fun e w' => ∃ ib pb, e = .returned (.pointer (some ⟨ib, 0, none⟩)) ∧ w.heap.size ≤ ib ∧ w.heap.size ≤ pb ∧ ImgAt w' ib pb (4 * wd * ht) (4 * wd) wd ht ∧ Keep Nil2 w w' := by
  have hnw : 4 * wd ≤ 4 * 60 := Nat.mul_le_mul_left 4 hw
  have hnwh : 4 * wd * ht ≤ 4 * 60 * 60 := Nat.mul_le_mul hnw hh
  have hdx := fun W => imgDx W wd ht (by omega)
  have hlen := fun W => imgLen W 4 wd ht { data := #[82, 71, 66, 65] } (by omega) hw hh
  unfold rectV at hdx hlen ⊢
  obtain ⟨r, hr⟩ : ∃ r, r = 4 * wd * ht := ⟨_, rfl⟩
  rw [← hr] at hlen hnwh ⊢
  obtain ⟨st, hst⟩ : ∃ st, st = 4 * wd := ⟨_, rfl⟩
  have hmw : IntKind.i64.wrap (4 * (wd : Int)) = (st : Int) := by rw [IntWalk.i64_in _ (by omega)]; omega
  rw [← hst]
  have hmk := fun W => makeBytes_eq W .i64 .i64 r (by omega)
  have HX := Lib.hid hdx
  have HL := Lib.hid hlen
  have HR := Lib.hid hnwh
  clear hr hdx hlen hnwh hnw hst
  go_enter Tryz.func100, Tryz.ntmps100
  go_wp2
  obtain ⟨w1, hw1⟩ : ∃ w1, w1 = w.alloc (.cells #[.int .i64 0, .int .i64 0, .int .i64 (wd : Int), .int .i64 (ht : Int)] 112) := ⟨_, rfl⟩
  rw [← hw1]
  have k1 : Keep Nil2 w w1 := by rw [hw1]; exact (Keep.refl Nil2 w).alloc _
  have c0 : w1.cell? ⟨w.heap.size, 0, none⟩ = some (.int .i64 0) := by rw [hw1]; go_simp
  have c1 : w1.cell? ⟨w.heap.size, 1, none⟩ = some (.int .i64 0) := by rw [hw1]; go_simp
  have c2 : w1.cell? ⟨w.heap.size, 2, none⟩ = some (.int .i64 (wd : Int)) := by rw [hw1]; go_simp
  have c3 : w1.cell? ⟨w.heap.size, 3, none⟩ = some (.int .i64 (ht : Int)) := by rw [hw1]; go_simp
  have hsz1 : w1.heap.size = w.heap.size + 1 := by rw [hw1]; simp
  clear hw1
  have HK := Lib.hid k1
  have HS1 := Lib.hid hsz1
  clear k1 hsz1
  have hkeep : ∀ W W' : World, (Keep Nil2 w1 W ∧ W.cell? ⟨w.heap.size, 0, none⟩ = some (.int .i64 0) ∧ W.cell? ⟨w.heap.size, 1, none⟩ = some (.int .i64 0) ∧ W.cell? ⟨w.heap.size, 2, none⟩ = some (.int .i64 (wd : Int)) ∧ W.cell? ⟨w.heap.size, 3, none⟩ = some (.int .i64 (ht : Int))) → Keep Nil2 W W' → (Keep Nil2 w1 W' ∧ W'.cell? ⟨w.heap.size, 0, none⟩ = some (.int .i64 0) ∧ W'.cell? ⟨w.heap.size, 1, none⟩ = some (.int .i64 0) ∧ W'.cell? ⟨w.heap.size, 2, none⟩ = some (.int .i64 (wd : Int)) ∧ W'.cell? ⟨w.heap.size, 3, none⟩ = some (.int .i64 (ht : Int))) := fun W W' hs hk => ⟨hs.1.trans hk, hk.get hs.2.1 (fun e => e), hk.get hs.2.2.1 (fun e => e), hk.get hs.2.2.2.1 (fun e => e), hk.get hs.2.2.2.2 (fun e => e)⟩
  have X := Lib.hid fun (W : World) (hs : (Keep Nil2 w1 W ∧ W.cell? ⟨w.heap.size, 0, none⟩ = some (.int .i64 0) ∧ W.cell? ⟨w.heap.size, 1, none⟩ = some (.int .i64 0) ∧ W.cell? ⟨w.heap.size, 2, none⟩ = some (.int .i64 (wd : Int)) ∧ W.cell? ⟨w.heap.size, 3, none⟩ = some (.int .i64 (ht : Int)))) => (HX.out W).mono (fun e w' (h : e = .returned (.int .i64 (wd : Int)) ∧ Keep Nil2 W w') => And.intro h.1 (And.intro (hkeep W w' hs h.2) h.2))
  have L := Lib.hid fun (W : World) (hs : (Keep Nil2 w1 W ∧ W.cell? ⟨w.heap.size, 0, none⟩ = some (.int .i64 0) ∧ W.cell? ⟨w.heap.size, 1, none⟩ = some (.int .i64 0) ∧ W.cell? ⟨w.heap.size, 2, none⟩ = some (.int .i64 (wd : Int)) ∧ W.cell? ⟨w.heap.size, 3, none⟩ = some (.int .i64 (ht : Int)))) => (HL.out W).mono (fun e w' (h : e = .returned (.int .i64 (r : Int)) ∧ Keep Nil2 W w') => And.intro h.1 (And.intro (hkeep W w' hs h.2) h.2))
  have A := Lib.hid fun (W : World) (o : Obj) (hs : (Keep Nil2 w1 W ∧ W.cell? ⟨w.heap.size, 0, none⟩ = some (.int .i64 0) ∧ W.cell? ⟨w.heap.size, 1, none⟩ = some (.int .i64 0) ∧ W.cell? ⟨w.heap.size, 2, none⟩ = some (.int .i64 (wd : Int)) ∧ W.cell? ⟨w.heap.size, 3, none⟩ = some (.int .i64 (ht : Int)))) => hkeep W (W.alloc o) hs ((Keep.refl Nil2 W).alloc o)
  clear HX HL hkeep
  go_region_held3 (fun w' => Keep Nil2 w1 w' ∧ w'.cell? ⟨w.heap.size, 0, none⟩ = some (.int .i64 0) ∧ w'.cell? ⟨w.heap.size, 1, none⟩ = some (.int .i64 0) ∧ w'.cell? ⟨w.heap.size, 2, none⟩ = some (.int .i64 (wd : Int)) ∧ w'.cell? ⟨w.heap.size, 3, none⟩ = some (.int .i64 (ht : Int)))
    (first | exact ⟨(Keep.refl Nil2 w1).drew, c0, c1, c2, c3⟩ | exact hsX | exact hsL | exact A.out _ _ hsX | exact A.out _ _ hsL | exact A.out _ _ (A.out _ _ hsX) | exact A.out _ _ (A.out _ _ hsL))
    (first | (go_at_call 114; refine (L.out _ (by assumption)).mono ?_; rintro e wL ⟨rfl, hsL, hkL⟩) | (go_at_call 115; refine (X.out _ (by assumption)).mono ?_; rintro e wX ⟨rfl, hsX, hkX⟩))
  · go_wp2
    go_ret
    have s1 := HS1.out
    have s2 := hsL.1.size
    have s3 := hkX.size
    have s4 : (wL.alloc (.cells (madeCells #[.int .u8 0] r) 5)).heap.size = wL.heap.size + 1 := by simp
    refine ⟨_, _, rfl, by omega, by omega, imgBox wX 118 _ wL.heap.size r st wd ht rfl rfl rfl rfl rfl rfl ((madeBytes wL r).keep hkX fun _ _ e => e) (by omega), (HK.out.trans hsX.1).alloc _⟩
  · go_wp2
    go_ret
    have s1 := HS1.out
    have s2 := hsX.1.size
    have s4 : (wX.alloc (.cells (madeCells #[.int .u8 0] r) 5)).heap.size = wX.heap.size + 1 := by simp
    refine ⟨wX.heap.size + 1, wX.heap.size, rfl, by omega, by omega, ?_, ((HK.out.trans hsX.1).alloc _).alloc _⟩
    · have := imgBox (wX.alloc (.cells (madeCells #[.int .u8 0] r) 5)) 118 #[.slice (some ⟨wX.heap.size, 0, none⟩) r r, .int .i64 (st : Int), .int .i64 0, .int .i64 0, .int .i64 (wd : Int), .int .i64 (ht : Int)] wX.heap.size r st wd ht rfl rfl rfl rfl rfl rfl (madeBytes wX r) (by omega)
      rw [s4] at this
      exact this

set_option maxHeartbeats 2000000 in
set_option maxRecDepth 100000 in
theorem imgNewRGBA64 (w : World) (wd ht : Nat) (hw : wd ≤ 60) (hh : ht ≤ 60) :
    Calls Tryz.prog 104 #[rectV wd ht] w fun e w' => ∃ ib pb, e = .returned (.pointer (some ⟨ib, 0, none⟩)) ∧ w.heap.size ≤ ib ∧ w.heap.size ≤ pb ∧ ImgAt w' ib pb (8 * wd * ht) (8 * wd) wd ht ∧ Keep Nil2 w w' := by
  have hnw : 8 * wd ≤ 8 * 60 := Nat.mul_le_mul_left 8 hw
  have hnwh : 8 * wd * ht ≤ 8 * 60 * 60 := Nat.mul_le_mul hnw hh
  have hdx := fun W => imgDx W wd ht (by omega)
  have hlen := fun W => imgLen W 8 wd ht { data := #[82, 71, 66, 65, 54, 52] } (by omega) hw hh
  unfold rectV at hdx hlen ⊢
  obtain ⟨r, hr⟩ : ∃ r, r = 8 * wd * ht := ⟨_, rfl⟩
  rw [← hr] at hlen hnwh ⊢
  obtain ⟨st, hst⟩ : ∃ st, st = 8 * wd := ⟨_, rfl⟩
  have hmw : IntKind.i64.wrap (8 * (wd : Int)) = (st : Int) := by rw [IntWalk.i64_in _ (by omega)]; omega
  rw [← hst]
  have hmk := fun W => makeBytes_eq W .i64 .i64 r (by omega)
  have HX := Lib.hid hdx
  have HL := Lib.hid hlen
  have HR := Lib.hid hnwh
  clear hr hdx hlen hnwh hnw hst
  go_enter Tryz.func104, Tryz.ntmps104
  go_wp2
  obtain ⟨w1, hw1⟩ : ∃ w1, w1 = w.alloc (.cells #[.int .i64 0, .int .i64 0, .int .i64 (wd : Int), .int .i64 (ht : Int)] 112) := ⟨_, rfl⟩
  rw [← hw1]
  have k1 : Keep Nil2 w w1 := by rw [hw1]; exact (Keep.refl Nil2 w).alloc _
  have c0 : w1.cell? ⟨w.heap.size, 0, none⟩ = some (.int .i64 0) := by rw [hw1]; go_simp
  have c1 : w1.cell? ⟨w.heap.size, 1, none⟩ = some (.int .i64 0) := by rw [hw1]; go_simp
  have c2 : w1.cell? ⟨w.heap.size, 2, none⟩ = some (.int .i64 (wd : Int)) := by rw [hw1]; go_simp
  have c3 : w1.cell? ⟨w.heap.size, 3, none⟩ = some (.int .i64 (ht : Int)) := by rw [hw1]; go_simp
  have hsz1 : w1.heap.size = w.heap.size + 1 := by rw [hw1]; simp
  clear hw1
  have HK := Lib.hid k1
  have HS1 := Lib.hid hsz1
  clear k1 hsz1
  have hkeep : ∀ W W' : World, (Keep Nil2 w1 W ∧ W.cell? ⟨w.heap.size, 0, none⟩ = some (.int .i64 0) ∧ W.cell? ⟨w.heap.size, 1, none⟩ = some (.int .i64 0) ∧ W.cell? ⟨w.heap.size, 2, none⟩ = some (.int .i64 (wd : Int)) ∧ W.cell? ⟨w.heap.size, 3, none⟩ = some (.int .i64 (ht : Int))) → Keep Nil2 W W' → (Keep Nil2 w1 W' ∧ W'.cell? ⟨w.heap.size, 0, none⟩ = some (.int .i64 0) ∧ W'.cell? ⟨w.heap.size, 1, none⟩ = some (.int .i64 0) ∧ W'.cell? ⟨w.heap.size, 2, none⟩ = some (.int .i64 (wd : Int)) ∧ W'.cell? ⟨w.heap.size, 3, none⟩ = some (.int .i64 (ht : Int))) := fun W W' hs hk => ⟨hs.1.trans hk, hk.get hs.2.1 (fun e => e), hk.get hs.2.2.1 (fun e => e), hk.get hs.2.2.2.1 (fun e => e), hk.get hs.2.2.2.2 (fun e => e)⟩
  have X := Lib.hid fun (W : World) (hs : (Keep Nil2 w1 W ∧ W.cell? ⟨w.heap.size, 0, none⟩ = some (.int .i64 0) ∧ W.cell? ⟨w.heap.size, 1, none⟩ = some (.int .i64 0) ∧ W.cell? ⟨w.heap.size, 2, none⟩ = some (.int .i64 (wd : Int)) ∧ W.cell? ⟨w.heap.size, 3, none⟩ = some (.int .i64 (ht : Int)))) => (HX.out W).mono (fun e w' (h : e = .returned (.int .i64 (wd : Int)) ∧ Keep Nil2 W w') => And.intro h.1 (And.intro (hkeep W w' hs h.2) h.2))
  have L := Lib.hid fun (W : World) (hs : (Keep Nil2 w1 W ∧ W.cell? ⟨w.heap.size, 0, none⟩ = some (.int .i64 0) ∧ W.cell? ⟨w.heap.size, 1, none⟩ = some (.int .i64 0) ∧ W.cell? ⟨w.heap.size, 2, none⟩ = some (.int .i64 (wd : Int)) ∧ W.cell? ⟨w.heap.size, 3, none⟩ = some (.int .i64 (ht : Int)))) => (HL.out W).mono (fun e w' (h : e = .returned (.int .i64 (r : Int)) ∧ Keep Nil2 W w') => And.intro h.1 (And.intro (hkeep W w' hs h.2) h.2))
  have A := Lib.hid fun (W : World) (o : Obj) (hs : (Keep Nil2 w1 W ∧ W.cell? ⟨w.heap.size, 0, none⟩ = some (.int .i64 0) ∧ W.cell? ⟨w.heap.size, 1, none⟩ = some (.int .i64 0) ∧ W.cell? ⟨w.heap.size, 2, none⟩ = some (.int .i64 (wd : Int)) ∧ W.cell? ⟨w.heap.size, 3, none⟩ = some (.int .i64 (ht : Int)))) => hkeep W (W.alloc o) hs ((Keep.refl Nil2 W).alloc o)
  clear HX HL hkeep
  go_region_held3 (fun w' => Keep Nil2 w1 w' ∧ w'.cell? ⟨w.heap.size, 0, none⟩ = some (.int .i64 0) ∧ w'.cell? ⟨w.heap.size, 1, none⟩ = some (.int .i64 0) ∧ w'.cell? ⟨w.heap.size, 2, none⟩ = some (.int .i64 (wd : Int)) ∧ w'.cell? ⟨w.heap.size, 3, none⟩ = some (.int .i64 (ht : Int)))
    (first | exact ⟨(Keep.refl Nil2 w1).drew, c0, c1, c2, c3⟩ | exact hsX | exact hsL | exact A.out _ _ hsX | exact A.out _ _ hsL | exact A.out _ _ (A.out _ _ hsX) | exact A.out _ _ (A.out _ _ hsL))
    (first | (go_at_call 114; refine (L.out _ (by assumption)).mono ?_; rintro e wL ⟨rfl, hsL, hkL⟩) | (go_at_call 115; refine (X.out _ (by assumption)).mono ?_; rintro e wX ⟨rfl, hsX, hkX⟩))
  · go_wp2
    go_ret
    have s1 := HS1.out
    have s2 := hsL.1.size
    have s3 := hkX.size
    have s4 : (wL.alloc (.cells (madeCells #[.int .u8 0] r) 5)).heap.size = wL.heap.size + 1 := by simp
    refine ⟨_, _, rfl, by omega, by omega, imgBox wX 120 _ wL.heap.size r st wd ht rfl rfl rfl rfl rfl rfl ((madeBytes wL r).keep hkX fun _ _ e => e) (by omega), (HK.out.trans hsX.1).alloc _⟩
  · go_wp2
    go_ret
    have s1 := HS1.out
    have s2 := hsX.1.size
    have s4 : (wX.alloc (.cells (madeCells #[.int .u8 0] r) 5)).heap.size = wX.heap.size + 1 := by simp
    refine ⟨wX.heap.size + 1, wX.heap.size, rfl, by omega, by omega, ?_, ((HK.out.trans hsX.1).alloc _).alloc _⟩
    · have := imgBox (wX.alloc (.cells (madeCells #[.int .u8 0] r) 5)) 120 #[.slice (some ⟨wX.heap.size, 0, none⟩) r r, .int .i64 (st : Int), .int .i64 0, .int .i64 0, .int .i64 (wd : Int), .int .i64 (ht : Int)] wX.heap.size r st wd ht rfl rfl rfl rfl rfl rfl (madeBytes wX r) (by omega)
      rw [s4] at this
      exact this

set_option maxHeartbeats 2000000 in
set_option maxRecDepth 100000 in
theorem imgNewNRGBA (w : World) (wd ht : Nat) (hw : wd ≤ 60) (hh : ht ≤ 60) :
    Calls Tryz.prog 97 #[rectV wd ht] w fun e w' => ∃ ib pb, e = .returned (.pointer (some ⟨ib, 0, none⟩)) ∧ w.heap.size ≤ ib ∧ w.heap.size ≤ pb ∧ ImgAt w' ib pb (4 * wd * ht) (4 * wd) wd ht ∧ Keep Nil2 w w' := by
  have hnw : 4 * wd ≤ 4 * 60 := Nat.mul_le_mul_left 4 hw
  have hnwh : 4 * wd * ht ≤ 4 * 60 * 60 := Nat.mul_le_mul hnw hh
  have hdx := fun W => imgDx W wd ht (by omega)
  have hlen := fun W => imgLen W 4 wd ht { data := #[78, 82, 71, 66, 65] } (by omega) hw hh
  unfold rectV at hdx hlen ⊢
  obtain ⟨r, hr⟩ : ∃ r, r = 4 * wd * ht := ⟨_, rfl⟩
  rw [← hr] at hlen hnwh ⊢
  obtain ⟨st, hst⟩ : ∃ st, st = 4 * wd := ⟨_, rfl⟩
  have hmw : IntKind.i64.wrap (4 * (wd : Int)) = (st : Int) := by rw [IntWalk.i64_in _ (by omega)]; omega
  rw [← hst]
  have hmk := fun W => makeBytes_eq W .i64 .i64 r (by omega)
  have HX := Lib.hid hdx
  have HL := Lib.hid hlen
  have HR := Lib.hid hnwh
  clear hr hdx hlen hnwh hnw hst
  go_enter Tryz.func97, Tryz.ntmps97
  go_wp2
  obtain ⟨w1, hw1⟩ : ∃ w1, w1 = w.alloc (.cells #[.int .i64 0, .int .i64 0, .int .i64 (wd : Int), .int .i64 (ht : Int)] 112) := ⟨_, rfl⟩
  rw [← hw1]
  have k1 : Keep Nil2 w w1 := by rw [hw1]; exact (Keep.refl Nil2 w).alloc _
  have c0 : w1.cell? ⟨w.heap.size, 0, none⟩ = some (.int .i64 0) := by rw [hw1]; go_simp
  have c1 : w1.cell? ⟨w.heap.size, 1, none⟩ = some (.int .i64 0) := by rw [hw1]; go_simp
  have c2 : w1.cell? ⟨w.heap.size, 2, none⟩ = some (.int .i64 (wd : Int)) := by rw [hw1]; go_simp
  have c3 : w1.cell? ⟨w.heap.size, 3, none⟩ = some (.int .i64 (ht : Int)) := by rw [hw1]; go_simp
  have hsz1 : w1.heap.size = w.heap.size + 1 := by rw [hw1]; simp
  clear hw1
  have HK := Lib.hid k1
  have HS1 := Lib.hid hsz1
  clear k1 hsz1
  have hkeep : ∀ W W' : World, (Keep Nil2 w1 W ∧ W.cell? ⟨w.heap.size, 0, none⟩ = some (.int .i64 0) ∧ W.cell? ⟨w.heap.size, 1, none⟩ = some (.int .i64 0) ∧ W.cell? ⟨w.heap.size, 2, none⟩ = some (.int .i64 (wd : Int)) ∧ W.cell? ⟨w.heap.size, 3, none⟩ = some (.int .i64 (ht : Int))) → Keep Nil2 W W' → (Keep Nil2 w1 W' ∧ W'.cell? ⟨w.heap.size, 0, none⟩ = some (.int .i64 0) ∧ W'.cell? ⟨w.heap.size, 1, none⟩ = some (.int .i64 0) ∧ W'.cell? ⟨w.heap.size, 2, none⟩ = some (.int .i64 (wd : Int)) ∧ W'.cell? ⟨w.heap.size, 3, none⟩ = some (.int .i64 (ht : Int))) := fun W W' hs hk => ⟨hs.1.trans hk, hk.get hs.2.1 (fun e => e), hk.get hs.2.2.1 (fun e => e), hk.get hs.2.2.2.1 (fun e => e), hk.get hs.2.2.2.2 (fun e => e)⟩
  have X := Lib.hid fun (W : World) (hs : (Keep Nil2 w1 W ∧ W.cell? ⟨w.heap.size, 0, none⟩ = some (.int .i64 0) ∧ W.cell? ⟨w.heap.size, 1, none⟩ = some (.int .i64 0) ∧ W.cell? ⟨w.heap.size, 2, none⟩ = some (.int .i64 (wd : Int)) ∧ W.cell? ⟨w.heap.size, 3, none⟩ = some (.int .i64 (ht : Int)))) => (HX.out W).mono (fun e w' (h : e = .returned (.int .i64 (wd : Int)) ∧ Keep Nil2 W w') => And.intro h.1 (And.intro (hkeep W w' hs h.2) h.2))
  have L := Lib.hid fun (W : World) (hs : (Keep Nil2 w1 W ∧ W.cell? ⟨w.heap.size, 0, none⟩ = some (.int .i64 0) ∧ W.cell? ⟨w.heap.size, 1, none⟩ = some (.int .i64 0) ∧ W.cell? ⟨w.heap.size, 2, none⟩ = some (.int .i64 (wd : Int)) ∧ W.cell? ⟨w.heap.size, 3, none⟩ = some (.int .i64 (ht : Int)))) => (HL.out W).mono (fun e w' (h : e = .returned (.int .i64 (r : Int)) ∧ Keep Nil2 W w') => And.intro h.1 (And.intro (hkeep W w' hs h.2) h.2))
  have A := Lib.hid fun (W : World) (o : Obj) (hs : (Keep Nil2 w1 W ∧ W.cell? ⟨w.heap.size, 0, none⟩ = some (.int .i64 0) ∧ W.cell? ⟨w.heap.size, 1, none⟩ = some (.int .i64 0) ∧ W.cell? ⟨w.heap.size, 2, none⟩ = some (.int .i64 (wd : Int)) ∧ W.cell? ⟨w.heap.size, 3, none⟩ = some (.int .i64 (ht : Int)))) => hkeep W (W.alloc o) hs ((Keep.refl Nil2 W).alloc o)
  clear HX HL hkeep
  go_region_held3 (fun w' => Keep Nil2 w1 w' ∧ w'.cell? ⟨w.heap.size, 0, none⟩ = some (.int .i64 0) ∧ w'.cell? ⟨w.heap.size, 1, none⟩ = some (.int .i64 0) ∧ w'.cell? ⟨w.heap.size, 2, none⟩ = some (.int .i64 (wd : Int)) ∧ w'.cell? ⟨w.heap.size, 3, none⟩ = some (.int .i64 (ht : Int)))
    (first | exact ⟨(Keep.refl Nil2 w1).drew, c0, c1, c2, c3⟩ | exact hsX | exact hsL | exact A.out _ _ hsX | exact A.out _ _ hsL | exact A.out _ _ (A.out _ _ hsX) | exact A.out _ _ (A.out _ _ hsL))
    (first | (go_at_call 114; refine (L.out _ (by assumption)).mono ?_; rintro e wL ⟨rfl, hsL, hkL⟩) | (go_at_call 115; refine (X.out _ (by assumption)).mono ?_; rintro e wX ⟨rfl, hsX, hkX⟩))
  · go_wp2
    go_ret
    have s1 := HS1.out
    have s2 := hsL.1.size
    have s3 := hkX.size
    have s4 : (wL.alloc (.cells (madeCells #[.int .u8 0] r) 5)).heap.size = wL.heap.size + 1 := by simp
    refine ⟨_, _, rfl, by omega, by omega, imgBox wX 122 _ wL.heap.size r st wd ht rfl rfl rfl rfl rfl rfl ((madeBytes wL r).keep hkX fun _ _ e => e) (by omega), (HK.out.trans hsX.1).alloc _⟩
  · go_wp2
    go_ret
    have s1 := HS1.out
    have s2 := hsX.1.size
    have s4 : (wX.alloc (.cells (madeCells #[.int .u8 0] r) 5)).heap.size = wX.heap.size + 1 := by simp
    refine ⟨wX.heap.size + 1, wX.heap.size, rfl, by omega, by omega, ?_, ((HK.out.trans hsX.1).alloc _).alloc _⟩
    · have := imgBox (wX.alloc (.cells (madeCells #[.int .u8 0] r) 5)) 122 #[.slice (some ⟨wX.heap.size, 0, none⟩) r r, .int .i64 (st : Int), .int .i64 0, .int .i64 0, .int .i64 (wd : Int), .int .i64 (ht : Int)] wX.heap.size r st wd ht rfl rfl rfl rfl rfl rfl (madeBytes wX r) (by omega)
      rw [s4] at this
      exact this

set_option maxHeartbeats 2000000 in
set_option maxRecDepth 100000 in
theorem imgNewNRGBA64 (w : World) (wd ht : Nat) (hw : wd ≤ 60) (hh : ht ≤ 60) :
    Calls Tryz.prog 102 #[rectV wd ht] w fun e w' => ∃ ib pb, e = .returned (.pointer (some ⟨ib, 0, none⟩)) ∧ w.heap.size ≤ ib ∧ w.heap.size ≤ pb ∧ ImgAt w' ib pb (8 * wd * ht) (8 * wd) wd ht ∧ Keep Nil2 w w' := by
  have hnw : 8 * wd ≤ 8 * 60 := Nat.mul_le_mul_left 8 hw
  have hnwh : 8 * wd * ht ≤ 8 * 60 * 60 := Nat.mul_le_mul hnw hh
  have hdx := fun W => imgDx W wd ht (by omega)
  have hlen := fun W => imgLen W 8 wd ht { data := #[78, 82, 71, 66, 65, 54, 52] } (by omega) hw hh
  unfold rectV at hdx hlen ⊢
  obtain ⟨r, hr⟩ : ∃ r, r = 8 * wd * ht := ⟨_, rfl⟩
  rw [← hr] at hlen hnwh ⊢
  obtain ⟨st, hst⟩ : ∃ st, st = 8 * wd := ⟨_, rfl⟩
  have hmw : IntKind.i64.wrap (8 * (wd : Int)) = (st : Int) := by rw [IntWalk.i64_in _ (by omega)]; omega
  rw [← hst]
  have hmk := fun W => makeBytes_eq W .i64 .i64 r (by omega)
  have HX := Lib.hid hdx
  have HL := Lib.hid hlen
  have HR := Lib.hid hnwh
  clear hr hdx hlen hnwh hnw hst
  go_enter Tryz.func102, Tryz.ntmps102
  go_wp2
  obtain ⟨w1, hw1⟩ : ∃ w1, w1 = w.alloc (.cells #[.int .i64 0, .int .i64 0, .int .i64 (wd : Int), .int .i64 (ht : Int)] 112) := ⟨_, rfl⟩
  rw [← hw1]
  have k1 : Keep Nil2 w w1 := by rw [hw1]; exact (Keep.refl Nil2 w).alloc _
  have c0 : w1.cell? ⟨w.heap.size, 0, none⟩ = some (.int .i64 0) := by rw [hw1]; go_simp
  have c1 : w1.cell? ⟨w.heap.size, 1, none⟩ = some (.int .i64 0) := by rw [hw1]; go_simp
  have c2 : w1.cell? ⟨w.heap.size, 2, none⟩ = some (.int .i64 (wd : Int)) := by rw [hw1]; go_simp
  have c3 : w1.cell? ⟨w.heap.size, 3, none⟩ = some (.int .i64 (ht : Int)) := by rw [hw1]; go_simp
  have hsz1 : w1.heap.size = w.heap.size + 1 := by rw [hw1]; simp
  clear hw1
  have HK := Lib.hid k1
  have HS1 := Lib.hid hsz1
  clear k1 hsz1
  have hkeep : ∀ W W' : World, (Keep Nil2 w1 W ∧ W.cell? ⟨w.heap.size, 0, none⟩ = some (.int .i64 0) ∧ W.cell? ⟨w.heap.size, 1, none⟩ = some (.int .i64 0) ∧ W.cell? ⟨w.heap.size, 2, none⟩ = some (.int .i64 (wd : Int)) ∧ W.cell? ⟨w.heap.size, 3, none⟩ = some (.int .i64 (ht : Int))) → Keep Nil2 W W' → (Keep Nil2 w1 W' ∧ W'.cell? ⟨w.heap.size, 0, none⟩ = some (.int .i64 0) ∧ W'.cell? ⟨w.heap.size, 1, none⟩ = some (.int .i64 0) ∧ W'.cell? ⟨w.heap.size, 2, none⟩ = some (.int .i64 (wd : Int)) ∧ W'.cell? ⟨w.heap.size, 3, none⟩ = some (.int .i64 (ht : Int))) := fun W W' hs hk => ⟨hs.1.trans hk, hk.get hs.2.1 (fun e => e), hk.get hs.2.2.1 (fun e => e), hk.get hs.2.2.2.1 (fun e => e), hk.get hs.2.2.2.2 (fun e => e)⟩
  have X := Lib.hid fun (W : World) (hs : (Keep Nil2 w1 W ∧ W.cell? ⟨w.heap.size, 0, none⟩ = some (.int .i64 0) ∧ W.cell? ⟨w.heap.size, 1, none⟩ = some (.int .i64 0) ∧ W.cell? ⟨w.heap.size, 2, none⟩ = some (.int .i64 (wd : Int)) ∧ W.cell? ⟨w.heap.size, 3, none⟩ = some (.int .i64 (ht : Int)))) => (HX.out W).mono (fun e w' (h : e = .returned (.int .i64 (wd : Int)) ∧ Keep Nil2 W w') => And.intro h.1 (And.intro (hkeep W w' hs h.2) h.2))
  have L := Lib.hid fun (W : World) (hs : (Keep Nil2 w1 W ∧ W.cell? ⟨w.heap.size, 0, none⟩ = some (.int .i64 0) ∧ W.cell? ⟨w.heap.size, 1, none⟩ = some (.int .i64 0) ∧ W.cell? ⟨w.heap.size, 2, none⟩ = some (.int .i64 (wd : Int)) ∧ W.cell? ⟨w.heap.size, 3, none⟩ = some (.int .i64 (ht : Int)))) => (HL.out W).mono (fun e w' (h : e = .returned (.int .i64 (r : Int)) ∧ Keep Nil2 W w') => And.intro h.1 (And.intro (hkeep W w' hs h.2) h.2))
  have A := Lib.hid fun (W : World) (o : Obj) (hs : (Keep Nil2 w1 W ∧ W.cell? ⟨w.heap.size, 0, none⟩ = some (.int .i64 0) ∧ W.cell? ⟨w.heap.size, 1, none⟩ = some (.int .i64 0) ∧ W.cell? ⟨w.heap.size, 2, none⟩ = some (.int .i64 (wd : Int)) ∧ W.cell? ⟨w.heap.size, 3, none⟩ = some (.int .i64 (ht : Int)))) => hkeep W (W.alloc o) hs ((Keep.refl Nil2 W).alloc o)
  clear HX HL hkeep
  go_region_held3 (fun w' => Keep Nil2 w1 w' ∧ w'.cell? ⟨w.heap.size, 0, none⟩ = some (.int .i64 0) ∧ w'.cell? ⟨w.heap.size, 1, none⟩ = some (.int .i64 0) ∧ w'.cell? ⟨w.heap.size, 2, none⟩ = some (.int .i64 (wd : Int)) ∧ w'.cell? ⟨w.heap.size, 3, none⟩ = some (.int .i64 (ht : Int)))
    (first | exact ⟨(Keep.refl Nil2 w1).drew, c0, c1, c2, c3⟩ | exact hsX | exact hsL | exact A.out _ _ hsX | exact A.out _ _ hsL | exact A.out _ _ (A.out _ _ hsX) | exact A.out _ _ (A.out _ _ hsL))
    (first | (go_at_call 114; refine (L.out _ (by assumption)).mono ?_; rintro e wL ⟨rfl, hsL, hkL⟩) | (go_at_call 115; refine (X.out _ (by assumption)).mono ?_; rintro e wX ⟨rfl, hsX, hkX⟩))
  · go_wp2
    go_ret
    have s1 := HS1.out
    have s2 := hsL.1.size
    have s3 := hkX.size
    have s4 : (wL.alloc (.cells (madeCells #[.int .u8 0] r) 5)).heap.size = wL.heap.size + 1 := by simp
    refine ⟨_, _, rfl, by omega, by omega, imgBox wX 124 _ wL.heap.size r st wd ht rfl rfl rfl rfl rfl rfl ((madeBytes wL r).keep hkX fun _ _ e => e) (by omega), (HK.out.trans hsX.1).alloc _⟩
  · go_wp2
    go_ret
    have s1 := HS1.out
    have s2 := hsX.1.size
    have s4 : (wX.alloc (.cells (madeCells #[.int .u8 0] r) 5)).heap.size = wX.heap.size + 1 := by simp
    refine ⟨wX.heap.size + 1, wX.heap.size, rfl, by omega, by omega, ?_, ((HK.out.trans hsX.1).alloc _).alloc _⟩
    · have := imgBox (wX.alloc (.cells (madeCells #[.int .u8 0] r) 5)) 124 #[.slice (some ⟨wX.heap.size, 0, none⟩) r r, .int .i64 (st : Int), .int .i64 0, .int .i64 0, .int .i64 (wd : Int), .int .i64 (ht : Int)] wX.heap.size r st wd ht rfl rfl rfl rfl rfl rfl (madeBytes wX r) (by omega)
      rw [s4] at this
      exact this

set_option maxHeartbeats 2000000 in
set_option maxRecDepth 100000 in
theorem imgNewPaletted (w : World) (wd ht : Nat) (plb pn pc : Nat) (hw : wd ≤ 60) (hh : ht ≤ 60) :
    Calls Tryz.prog 101 #[rectV wd ht, .slice (some ⟨plb, 0, none⟩) pn pc] w fun e w' => ∃ ib pb, e = .returned (.pointer (some ⟨ib, 0, none⟩)) ∧ w.heap.size ≤ ib ∧ w.heap.size ≤ pb ∧ ImgAt w' ib pb (1 * wd * ht) (1 * wd) wd ht ∧ w'.cell? ⟨ib, 6, none⟩ = some (.slice (some ⟨plb, 0, none⟩) pn pc) ∧ Keep Nil2 w w' := by
  have hnw : 1 * wd ≤ 1 * 60 := Nat.mul_le_mul_left 1 hw
  have hnwh : 1 * wd * ht ≤ 1 * 60 * 60 := Nat.mul_le_mul hnw hh
  have hdx := fun W => imgDx W wd ht (by omega)
  have hlen := fun W => imgLen W 1 wd ht { data := #[80, 97, 108, 101, 116, 116, 101, 100] } (by omega) hw hh
  unfold rectV at hdx hlen ⊢
  obtain ⟨r, hr⟩ : ∃ r, r = 1 * wd * ht := ⟨_, rfl⟩
  rw [← hr] at hlen hnwh ⊢
  obtain ⟨st, hst⟩ : ∃ st, st = 1 * wd := ⟨_, rfl⟩
  have hmw : IntKind.i64.wrap (wd : Int) = (st : Int) := by rw [IntWalk.i64_in _ (by omega)]; omega
  rw [← hst]
  have hmk := fun W => makeBytes_eq W .i64 .i64 r (by omega)
  have HX := Lib.hid hdx
  have HL := Lib.hid hlen
  have HR := Lib.hid hnwh
  clear hr hdx hlen hnwh hnw hst
  go_enter Tryz.func101, Tryz.ntmps101
  go_wp2
  obtain ⟨w1, hw1⟩ : ∃ w1, w1 = w.alloc (.cells #[.int .i64 0, .int .i64 0, .int .i64 (wd : Int), .int .i64 (ht : Int)] 112) := ⟨_, rfl⟩
  rw [← hw1]
  have k1 : Keep Nil2 w w1 := by rw [hw1]; exact (Keep.refl Nil2 w).alloc _
  have c0 : w1.cell? ⟨w.heap.size, 0, none⟩ = some (.int .i64 0) := by rw [hw1]; go_simp
  have c1 : w1.cell? ⟨w.heap.size, 1, none⟩ = some (.int .i64 0) := by rw [hw1]; go_simp
  have c2 : w1.cell? ⟨w.heap.size, 2, none⟩ = some (.int .i64 (wd : Int)) := by rw [hw1]; go_simp
  have c3 : w1.cell? ⟨w.heap.size, 3, none⟩ = some (.int .i64 (ht : Int)) := by rw [hw1]; go_simp
  have hsz1 : w1.heap.size = w.heap.size + 1 := by rw [hw1]; simp
  clear hw1
  have HK := Lib.hid k1
  have HS1 := Lib.hid hsz1
  clear k1 hsz1
  have hkeep : ∀ W W' : World, (Keep Nil2 w1 W ∧ W.cell? ⟨w.heap.size, 0, none⟩ = some (.int .i64 0) ∧ W.cell? ⟨w.heap.size, 1, none⟩ = some (.int .i64 0) ∧ W.cell? ⟨w.heap.size, 2, none⟩ = some (.int .i64 (wd : Int)) ∧ W.cell? ⟨w.heap.size, 3, none⟩ = some (.int .i64 (ht : Int))) → Keep Nil2 W W' → (Keep Nil2 w1 W' ∧ W'.cell? ⟨w.heap.size, 0, none⟩ = some (.int .i64 0) ∧ W'.cell? ⟨w.heap.size, 1, none⟩ = some (.int .i64 0) ∧ W'.cell? ⟨w.heap.size, 2, none⟩ = some (.int .i64 (wd : Int)) ∧ W'.cell? ⟨w.heap.size, 3, none⟩ = some (.int .i64 (ht : Int))) := fun W W' hs hk => ⟨hs.1.trans hk, hk.get hs.2.1 (fun e => e), hk.get hs.2.2.1 (fun e => e), hk.get hs.2.2.2.1 (fun e => e), hk.get hs.2.2.2.2 (fun e => e)⟩
  have X := Lib.hid fun (W : World) (hs : (Keep Nil2 w1 W ∧ W.cell? ⟨w.heap.size, 0, none⟩ = some (.int .i64 0) ∧ W.cell? ⟨w.heap.size, 1, none⟩ = some (.int .i64 0) ∧ W.cell? ⟨w.heap.size, 2, none⟩ = some (.int .i64 (wd : Int)) ∧ W.cell? ⟨w.heap.size, 3, none⟩ = some (.int .i64 (ht : Int)))) => (HX.out W).mono (fun e w' (h : e = .returned (.int .i64 (wd : Int)) ∧ Keep Nil2 W w') => And.intro h.1 (And.intro (hkeep W w' hs h.2) h.2))
  have L := Lib.hid fun (W : World) (hs : (Keep Nil2 w1 W ∧ W.cell? ⟨w.heap.size, 0, none⟩ = some (.int .i64 0) ∧ W.cell? ⟨w.heap.size, 1, none⟩ = some (.int .i64 0) ∧ W.cell? ⟨w.heap.size, 2, none⟩ = some (.int .i64 (wd : Int)) ∧ W.cell? ⟨w.heap.size, 3, none⟩ = some (.int .i64 (ht : Int)))) => (HL.out W).mono (fun e w' (h : e = .returned (.int .i64 (r : Int)) ∧ Keep Nil2 W w') => And.intro h.1 (And.intro (hkeep W w' hs h.2) h.2))
  have A := Lib.hid fun (W : World) (o : Obj) (hs : (Keep Nil2 w1 W ∧ W.cell? ⟨w.heap.size, 0, none⟩ = some (.int .i64 0) ∧ W.cell? ⟨w.heap.size, 1, none⟩ = some (.int .i64 0) ∧ W.cell? ⟨w.heap.size, 2, none⟩ = some (.int .i64 (wd : Int)) ∧ W.cell? ⟨w.heap.size, 3, none⟩ = some (.int .i64 (ht : Int)))) => hkeep W (W.alloc o) hs ((Keep.refl Nil2 W).alloc o)
  clear HX HL hkeep
  go_region_held3 (fun w' => Keep Nil2 w1 w' ∧ w'.cell? ⟨w.heap.size, 0, none⟩ = some (.int .i64 0) ∧ w'.cell? ⟨w.heap.size, 1, none⟩ = some (.int .i64 0) ∧ w'.cell? ⟨w.heap.size, 2, none⟩ = some (.int .i64 (wd : Int)) ∧ w'.cell? ⟨w.heap.size, 3, none⟩ = some (.int .i64 (ht : Int)))
    (first | exact ⟨(Keep.refl Nil2 w1).drew, c0, c1, c2, c3⟩ | exact hsX | exact hsL | exact A.out _ _ hsX | exact A.out _ _ hsL | exact A.out _ _ (A.out _ _ hsX) | exact A.out _ _ (A.out _ _ hsL))
    (first | (go_at_call 114; refine (L.out _ (by assumption)).mono ?_; rintro e wL ⟨rfl, hsL, hkL⟩) | (go_at_call 115; refine (X.out _ (by assumption)).mono ?_; rintro e wX ⟨rfl, hsX, hkX⟩))
  · go_wp2
    go_ret
    have s1 := HS1.out
    have s2 := hsL.1.size
    have s3 := hkX.size
    have s4 : (wL.alloc (.cells (madeCells #[.int .u8 0] r) 5)).heap.size = wL.heap.size + 1 := by simp
    refine ⟨_, _, rfl, by omega, by omega, imgBox wX 127 _ wL.heap.size r st wd ht rfl rfl rfl rfl rfl rfl ((madeBytes wL r).keep hkX fun _ _ e => e) (by omega), palAt _ _ _ 6 _ rfl, (HK.out.trans hsX.1).alloc _⟩
  · go_wp2
    go_ret
    have s1 := HS1.out
    have s2 := hsX.1.size
    have s4 : (wX.alloc (.cells (madeCells #[.int .u8 0] r) 5)).heap.size = wX.heap.size + 1 := by simp
    refine ⟨wX.heap.size + 1, wX.heap.size, rfl, by omega, by omega, ?_, ?_, ((HK.out.trans hsX.1).alloc _).alloc _⟩
    · have := imgBox (wX.alloc (.cells (madeCells #[.int .u8 0] r) 5)) 127 #[.slice (some ⟨wX.heap.size, 0, none⟩) r r, .int .i64 (st : Int), .int .i64 0, .int .i64 0, .int .i64 (wd : Int), .int .i64 (ht : Int), .slice (some ⟨plb, 0, none⟩) pn pc] wX.heap.size r st wd ht rfl rfl rfl rfl rfl rfl (madeBytes wX r) (by omega)
      rw [s4] at this
      exact this
    · have := palAt (wX.alloc (.cells (madeCells #[.int .u8 0] r) 5)) 127 #[.slice (some ⟨wX.heap.size, 0, none⟩) r r, .int .i64 (st : Int), .int .i64 0, .int .i64 0, .int .i64 (wd : Int), .int .i64 (ht : Int), .slice (some ⟨plb, 0, none⟩) pn pc] 6 _ rfl
      rw [s4] at this
      exact this
end Go.Proofs.YtnbbppjgamdfeaaGreatDoor
end

/- readImagePass's frame, its slots by a function. -/
section
set_option linter.unusedVariables false
set_option linter.unusedSimpArgs false
namespace Go.Proofs.YtnbbppjgamdfeaaGreatDoor
open Go Go.RowKit

set_option maxRecDepth 1000000 in
def ripFrame (T : Nat → Value) : Array Value := #[T 0, T 1, T 2, T 3, T 4, T 5, T 6, T 7, T 8, T 9, T 10, T 11, T 12, T 13, T 14, T 15, T 16, T 17, T 18, T 19, T 20, T 21, T 22, T 23, T 24, T 25, T 26, T 27, T 28, T 29, T 30, T 31, T 32, T 33, T 34, T 35, T 36, T 37, T 38, T 39, T 40, T 41, T 42, T 43, T 44, T 45, T 46, T 47, T 48, T 49, T 50, T 51, T 52, T 53, T 54, T 55, T 56, T 57, T 58, T 59, T 60, T 61, T 62, T 63, T 64, T 65, T 66, T 67, T 68, T 69, T 70, T 71, T 72, T 73, T 74, T 75, T 76, T 77, T 78, T 79, T 80, T 81, T 82, T 83, T 84, T 85, T 86, T 87, T 88, T 89, T 90, T 91, T 92, T 93, T 94, T 95, T 96, T 97, T 98, T 99, T 100, T 101, T 102, T 103, T 104, T 105, T 106, T 107, T 108, T 109, T 110, T 111, T 112, T 113, T 114, T 115, T 116, T 117, T 118, T 119, T 120, T 121, T 122, T 123, T 124, T 125, T 126, T 127, T 128, T 129, T 130, T 131, T 132, T 133, T 134, T 135, T 136, T 137, T 138, T 139, T 140, T 141, T 142, T 143, T 144, T 145, T 146, T 147, T 148, T 149, T 150, T 151, T 152, T 153, T 154, T 155, T 156, T 157, T 158, T 159, T 160, T 161, T 162, T 163, T 164, T 165, T 166, T 167, T 168, T 169, T 170, T 171, T 172, T 173, T 174, T 175, T 176, T 177, T 178, T 179, T 180, T 181, T 182, T 183, T 184, T 185, T 186, T 187, T 188, T 189, T 190, T 191, T 192, T 193, T 194, T 195, T 196, T 197, T 198, T 199, T 200, T 201, T 202, T 203, T 204, T 205, T 206, T 207, T 208, T 209, T 210, T 211, T 212, T 213, T 214, T 215, T 216, T 217, T 218, T 219, T 220, T 221, T 222, T 223, T 224, T 225, T 226, T 227, T 228, T 229, T 230, T 231, T 232, T 233, T 234, T 235, T 236, T 237, T 238, T 239, T 240, T 241, T 242, T 243, T 244, T 245, T 246, T 247, T 248, T 249, T 250, T 251, T 252, T 253, T 254, T 255, T 256, T 257, T 258, T 259, T 260, T 261, T 262, T 263, T 264, T 265, T 266, T 267, T 268, T 269, T 270, T 271, T 272, T 273, T 274, T 275, T 276, T 277, T 278, T 279, T 280, T 281, T 282, T 283, T 284, T 285, T 286, T 287, T 288, T 289, T 290, T 291, T 292, T 293, T 294, T 295, T 296, T 297, T 298, T 299, T 300, T 301, T 302, T 303, T 304, T 305, T 306, T 307, T 308, T 309, T 310, T 311, T 312, T 313, T 314, T 315, T 316, T 317, T 318, T 319, T 320, T 321, T 322, T 323, T 324, T 325, T 326, T 327, T 328, T 329, T 330, T 331, T 332, T 333, T 334, T 335, T 336, T 337, T 338, T 339, T 340, T 341, T 342, T 343, T 344, T 345, T 346, T 347, T 348, T 349, T 350, T 351, T 352, T 353, T 354, T 355, T 356, T 357, T 358, T 359, T 360, T 361, T 362, T 363, T 364, T 365, T 366, T 367, T 368, T 369, T 370, T 371, T 372, T 373, T 374, T 375, T 376, T 377, T 378, T 379, T 380, T 381, T 382, T 383, T 384, T 385, T 386, T 387, T 388, T 389, T 390, T 391, T 392, T 393, T 394, T 395, T 396, T 397, T 398, T 399, T 400, T 401, T 402, T 403, T 404, T 405, T 406, T 407, T 408, T 409, T 410, T 411, T 412, T 413, T 414, T 415, T 416, T 417, T 418, T 419, T 420, T 421, T 422, T 423, T 424, T 425, T 426, T 427, T 428, T 429, T 430, T 431, T 432, T 433, T 434, T 435, T 436, T 437, T 438, T 439, T 440, T 441, T 442, T 443, T 444, T 445, T 446, T 447, T 448, T 449, T 450, T 451, T 452, T 453, T 454, T 455, T 456, T 457, T 458, T 459, T 460, T 461, T 462, T 463, T 464, T 465, T 466, T 467, T 468, T 469, T 470, T 471, T 472, T 473, T 474, T 475, T 476, T 477, T 478, T 479, T 480, T 481, T 482, T 483, T 484, T 485, T 486, T 487, T 488, T 489, T 490, T 491, T 492, T 493, T 494, T 495, T 496, T 497, T 498, T 499, T 500, T 501, T 502, T 503, T 504, T 505, T 506, T 507, T 508, T 509, T 510, T 511, T 512, T 513, T 514, T 515, T 516, T 517, T 518, T 519, T 520, T 521, T 522, T 523, T 524, T 525, T 526, T 527, T 528, T 529, T 530, T 531, T 532, T 533, T 534, T 535, T 536, T 537, T 538, T 539, T 540, T 541, T 542, T 543, T 544, T 545, T 546, T 547, T 548, T 549, T 550, T 551, T 552, T 553, T 554, T 555, T 556, T 557, T 558, T 559, T 560, T 561, T 562, T 563, T 564, T 565, T 566, T 567, T 568, T 569, T 570, T 571, T 572, T 573, T 574, T 575, T 576, T 577, T 578, T 579, T 580, T 581, T 582, T 583, T 584, T 585, T 586, T 587, T 588, T 589, T 590, T 591, T 592, T 593, T 594, T 595, T 596, T 597, T 598, T 599, T 600, T 601, T 602, T 603, T 604, T 605, T 606, T 607, T 608, T 609, T 610, T 611, T 612, T 613, T 614, T 615, T 616, T 617, T 618, T 619, T 620, T 621, T 622, T 623, T 624, T 625, T 626, T 627, T 628, T 629, T 630, T 631, T 632, T 633, T 634, T 635, T 636, T 637, T 638, T 639, T 640, T 641, T 642, T 643, T 644, T 645, T 646, T 647, T 648, T 649, T 650, T 651, T 652, T 653, T 654, T 655, T 656, T 657, T 658, T 659, T 660, T 661, T 662, T 663, T 664, T 665, T 666, T 667, T 668, T 669, T 670, T 671, T 672, T 673, T 674, T 675, T 676, T 677, T 678, T 679, T 680, T 681, T 682, T 683, T 684, T 685, T 686, T 687, T 688, T 689, T 690, T 691, T 692, T 693, T 694, T 695, T 696, T 697, T 698, T 699, T 700, T 701, T 702, T 703, T 704, T 705, T 706, T 707, T 708, T 709, T 710, T 711, T 712, T 713, T 714, T 715, T 716, T 717, T 718, T 719, T 720, T 721, T 722, T 723, T 724, T 725, T 726, T 727, T 728, T 729, T 730, T 731, T 732, T 733, T 734, T 735, T 736, T 737, T 738, T 739, T 740, T 741, T 742, T 743, T 744, T 745, T 746, T 747, T 748, T 749, T 750, T 751, T 752, T 753, T 754, T 755, T 756, T 757, T 758, T 759, T 760, T 761, T 762, T 763, T 764, T 765, T 766, T 767, T 768, T 769, T 770, T 771, T 772, T 773, T 774, T 775, T 776, T 777, T 778, T 779, T 780, T 781, T 782, T 783, T 784, T 785, T 786, T 787, T 788, T 789, T 790, T 791, T 792, T 793, T 794, T 795, T 796, T 797, T 798, T 799, T 800, T 801, T 802, T 803, T 804, T 805, T 806, T 807, T 808, T 809, T 810, T 811, T 812, T 813, T 814, T 815, T 816, T 817, T 818, T 819, T 820, T 821, T 822, T 823, T 824, T 825, T 826, T 827, T 828, T 829, T 830, T 831, T 832, T 833, T 834, T 835, T 836, T 837, T 838, T 839, T 840, T 841, T 842, T 843, T 844, T 845, T 846, T 847, T 848, T 849, T 850, T 851, T 852, T 853, T 854, T 855, T 856, T 857, T 858, T 859, T 860, T 861, T 862, T 863, T 864, T 865, T 866, T 867, T 868, T 869, T 870, T 871, T 872, T 873, T 874, T 875, T 876, T 877, T 878, T 879, T 880, T 881, T 882, T 883, T 884, T 885, T 886, T 887, T 888, T 889, T 890, T 891, T 892, T 893, T 894, T 895, T 896, T 897, T 898, T 899, T 900, T 901, T 902, T 903, T 904, T 905, T 906, T 907, T 908, T 909, T 910, T 911, T 912, T 913, T 914, T 915, T 916, T 917, T 918, T 919, T 920, T 921, T 922, T 923, T 924, T 925, T 926, T 927, T 928, T 929, T 930, T 931, T 932, T 933, T 934, T 935, T 936, T 937, T 938, T 939, T 940, T 941, T 942, T 943, T 944, T 945, T 946, T 947, T 948, T 949, T 950, T 951, T 952, T 953, T 954, T 955, T 956, T 957, T 958, T 959, T 960, T 961, T 962, T 963, T 964, T 965, T 966, T 967, T 968, T 969, T 970, T 971, T 972, T 973, T 974, T 975, T 976, T 977, T 978, T 979, T 980, T 981, T 982, T 983, T 984, T 985, T 986, T 987, T 988, T 989, T 990, T 991, T 992, T 993, T 994, T 995, T 996, T 997, T 998, T 999, T 1000, T 1001, T 1002, T 1003, T 1004, T 1005, T 1006, T 1007, T 1008, T 1009, T 1010, T 1011, T 1012, T 1013, T 1014, T 1015, T 1016, T 1017, T 1018, T 1019, T 1020, T 1021, T 1022, T 1023, T 1024, T 1025, T 1026, T 1027, T 1028, T 1029, T 1030, T 1031, T 1032, T 1033, T 1034, T 1035, T 1036, T 1037, T 1038, T 1039, T 1040, T 1041, T 1042, T 1043, T 1044, T 1045, T 1046, T 1047, T 1048, T 1049, T 1050, T 1051, T 1052, T 1053, T 1054, T 1055, T 1056, T 1057, T 1058, T 1059, T 1060, T 1061, T 1062, T 1063, T 1064, T 1065, T 1066, T 1067, T 1068, T 1069, T 1070, T 1071, T 1072, T 1073, T 1074, T 1075, T 1076, T 1077, T 1078, T 1079, T 1080, T 1081, T 1082, T 1083, T 1084, T 1085, T 1086, T 1087, T 1088, T 1089, T 1090, T 1091, T 1092, T 1093, T 1094, T 1095, T 1096, T 1097, T 1098, T 1099, T 1100, T 1101, T 1102, T 1103, T 1104, T 1105, T 1106, T 1107, T 1108, T 1109, T 1110, T 1111, T 1112, T 1113, T 1114, T 1115, T 1116, T 1117, T 1118, T 1119, T 1120, T 1121, T 1122, T 1123, T 1124, T 1125, T 1126, T 1127, T 1128, T 1129, T 1130, T 1131, T 1132, T 1133, T 1134, T 1135, T 1136, T 1137, T 1138, T 1139, T 1140, T 1141, T 1142, T 1143, T 1144, T 1145, T 1146, T 1147, T 1148, T 1149, T 1150, T 1151, T 1152, T 1153, T 1154, T 1155, T 1156, T 1157, T 1158, T 1159, T 1160, T 1161, T 1162, T 1163, T 1164, T 1165, T 1166, T 1167, T 1168, T 1169, T 1170, T 1171, T 1172, T 1173, T 1174, T 1175, T 1176, T 1177, T 1178, T 1179, T 1180, T 1181, T 1182, T 1183, T 1184, T 1185, T 1186, T 1187, T 1188, T 1189, T 1190, T 1191, T 1192, T 1193, T 1194, T 1195, T 1196, T 1197, T 1198, T 1199, T 1200, T 1201, T 1202, T 1203, T 1204, T 1205, T 1206, T 1207, T 1208, T 1209, T 1210, T 1211, T 1212, T 1213, T 1214, T 1215, T 1216, T 1217, T 1218, T 1219, T 1220, T 1221, T 1222, T 1223, T 1224, T 1225, T 1226, T 1227, T 1228, T 1229, T 1230, T 1231, T 1232, T 1233, T 1234, T 1235, T 1236, T 1237, T 1238, T 1239, T 1240, T 1241, T 1242, T 1243, T 1244, T 1245, T 1246, T 1247, T 1248, T 1249, T 1250, T 1251, T 1252, T 1253, T 1254, T 1255, T 1256, T 1257, T 1258, T 1259, T 1260, T 1261, T 1262, T 1263, T 1264, T 1265, T 1266, T 1267, T 1268, T 1269, T 1270, T 1271, T 1272, T 1273, T 1274, T 1275, T 1276, T 1277, T 1278, T 1279, T 1280, T 1281, T 1282, T 1283, T 1284, T 1285, T 1286, T 1287, T 1288, T 1289, T 1290, T 1291, T 1292, T 1293, T 1294, T 1295, T 1296, T 1297, T 1298, T 1299, T 1300, T 1301, T 1302, T 1303, T 1304, T 1305, T 1306, T 1307, T 1308, T 1309, T 1310, T 1311, T 1312, T 1313, T 1314, T 1315, T 1316, T 1317, T 1318, T 1319, T 1320, T 1321, T 1322, T 1323, T 1324, T 1325, T 1326, T 1327, T 1328, T 1329, T 1330, T 1331, T 1332, T 1333, T 1334, T 1335, T 1336, T 1337, T 1338, T 1339, T 1340, T 1341, T 1342, T 1343, T 1344, T 1345, T 1346, T 1347, T 1348, T 1349, T 1350, T 1351, T 1352, T 1353, T 1354, T 1355, T 1356, T 1357, T 1358, T 1359, T 1360, T 1361, T 1362, T 1363, T 1364, T 1365, T 1366, T 1367, T 1368, T 1369, T 1370, T 1371, T 1372, T 1373, T 1374, T 1375, T 1376, T 1377, T 1378, T 1379, T 1380, T 1381, T 1382, T 1383, T 1384, T 1385, T 1386, T 1387, T 1388, T 1389, T 1390, T 1391, T 1392, T 1393, T 1394, T 1395, T 1396, T 1397, T 1398, T 1399, T 1400, T 1401, T 1402, T 1403, T 1404, T 1405, T 1406, T 1407, T 1408, T 1409, T 1410, T 1411, T 1412, T 1413, T 1414, T 1415, T 1416, T 1417, T 1418, T 1419, T 1420, T 1421, T 1422, T 1423, T 1424, T 1425, T 1426, T 1427, T 1428, T 1429, T 1430, T 1431, T 1432, T 1433, T 1434, T 1435, T 1436, T 1437, T 1438, T 1439, T 1440, T 1441, T 1442, T 1443, T 1444, T 1445, T 1446, T 1447, T 1448, T 1449, T 1450, T 1451, T 1452, T 1453, T 1454, T 1455, T 1456, T 1457, T 1458, T 1459, T 1460, T 1461, T 1462, T 1463, T 1464, T 1465, T 1466, T 1467, T 1468, T 1469, T 1470, T 1471, T 1472, T 1473, T 1474, T 1475, T 1476, T 1477, T 1478, T 1479, T 1480, T 1481, T 1482, T 1483, T 1484, T 1485, T 1486, T 1487, T 1488, T 1489, T 1490, T 1491, T 1492, T 1493, T 1494, T 1495, T 1496, T 1497, T 1498, T 1499, T 1500, T 1501, T 1502, T 1503, T 1504, T 1505, T 1506, T 1507, T 1508, T 1509, T 1510, T 1511, T 1512, T 1513, T 1514, T 1515, T 1516, T 1517, T 1518, T 1519, T 1520, T 1521, T 1522, T 1523, T 1524, T 1525, T 1526, T 1527, T 1528, T 1529, T 1530, T 1531, T 1532, T 1533, T 1534, T 1535, T 1536, T 1537, T 1538, T 1539]
set_option maxRecDepth 1000000 in
theorem ripFrame_map (T : Nat → Value) : ripFrame T = ((List.range 1540).map T).toArray := by kernel_rfl
theorem ripFrame_eq (A : Array Value) (h : A.size = 1540) : A = ripFrame (fun i => A.getD i undef) := by
  rw [ripFrame_map]
  apply Array.ext
  · simp [h]
  · intro i h1 h2
    simp only [List.getElem_toArray, List.getElem_map, List.getElem_range]
    rw [Array.getD_eq_getD_getElem?, Array.getElem?_eq_getElem h1]
    rfl
end Go.Proofs.YtnbbppjgamdfeaaGreatDoor
end

/- readImagePass: what stands at the head of its loop over rows. -/
section
set_option linter.unusedVariables false
set_option linter.unusedSimpArgs false
namespace Go.Proofs.YtnbbppjgamdfeaaGreatDoor
open Go Go.RowKit

/-- y rows of st bytes are laid: byte k of row j is g j k. -/
def PixRows (w : World) (pb st y : Nat) (g : Nat → Nat → Nat) : Prop := ∀ j k, j < y → k < st → w.cell? ⟨pb, j * st + k, none⟩ = some (.int .u8 (g j k : Int))
theorem PixRows.keep {F : Nat → Nat → Prop} {w w' : World} {pb st y : Nat} {g : Nat → Nat → Nat} (h : PixRows w pb st y g) (hk : Keep F w w') (hF : ∀ j k, j < y → k < st → ¬ F pb (j * st + k)) : PixRows w' pb st y g := fun j k hj hk' => hk.get (h j k hj hk') (hF j k hj hk')

/-- What the pass asks of the reader of the rows and of the decoder. -/
structure RipRd (t : TypeId) (ra : Addr) (f : FuncId) (I : World → List UInt8 → Prop) (FR : Nat → Nat → Prop) (Ok : Nat → Prop) (bd rb cb : Nat) (d : Dv) (W : World) : Prop where
  rd : Rdr t ra f I FR Ok
  dec : ∀ w R, I w R → ∃ q, Dec w bd rb cb { d with idat := q }
  new : ∀ b, W.heap.size ≤ b → Ok b
  keep : ∀ (F : Nat → Nat → Prop) w w' R, I w R → Keep F w w' → (∀ x y, F x y → W.heap.size ≤ x) → I w' R

/-- The frame at the head of the loop over rows: row y, the picture's place px, its pointer ip in slot sl, the two rows' slices. -/
structure RipA (a : Act) (bd : Nat) (rv : Value) (px sl : Nat) (ip img : Value) (wd ht c1 c2 rs y : Nat) : Prop where
  size : a.tmps.size = 1540
  dfs : a.defers = []
  s0 : a.tmps.getD 0 undef = .pointer (some ⟨bd, 0, none⟩)
  s1 : a.tmps.getD 1 undef = rv
  s11 : a.tmps.getD 11 undef = .int .i64 (px : Int)
  ssl : a.tmps.getD sl undef = ip
  s19 : a.tmps.getD 19 undef = img
  s20 : a.tmps.getD 20 undef = .int .i64 (wd : Int)
  s21 : a.tmps.getD 21 undef = .int .i64 (ht : Int)
  s25 : a.tmps.getD 25 undef = .slice (some ⟨c1, 0, none⟩) rs rs
  s26 : a.tmps.getD 26 undef = .slice (some ⟨c2, 0, none⟩) rs rs
  s27 : a.tmps.getD 27 undef = .int .i64 (y : Int)
theorem RipA.open {a : Act} {bd : Nat} {rv : Value} {px sl : Nat} {ip img : Value} {wd ht c1 c2 rs y : Nat} (h : RipA a bd rv px sl ip img wd ht c1 c2 rs y) :
    ∃ T : Nat → Value, a = ⟨ripFrame T, []⟩ ∧ T 0 = .pointer (some ⟨bd, 0, none⟩) ∧ T 1 = rv ∧ T 11 = .int .i64 (px : Int) ∧ T sl = ip ∧ T 19 = img ∧ T 20 = .int .i64 (wd : Int) ∧ T 21 = .int .i64 (ht : Int) ∧
      T 25 = .slice (some ⟨c1, 0, none⟩) rs rs ∧ T 26 = .slice (some ⟨c2, 0, none⟩) rs rs ∧ T 27 = .int .i64 (y : Int) := by
  obtain ⟨A, D⟩ := a
  obtain ⟨h1, h2, h3, h4, h5, h6, h7, h8, h9, h10, h11, h12⟩ := h
  simp only at *
  exact ⟨fun i => A.getD i undef, by rw [h2, ← ripFrame_eq A h1], h3, h4, h5, h6, h7, h8, h9, h10, h11, h12⟩

/-- What stands of the world at the head of the loop over rows. -/
structure RipW (I : World → List UInt8 → Prop) (FR : Nat → Nat → Prop) (W : World) (R : List UInt8) (ib pb n st wd ht c1 c2 rs y : Nat) (g : Nat → Nat → Nat) (w : World) : Prop where
  inv : I w (R.drop (y * rs))
  img : ImgAt w ib pb n st wd ht
  pix : PixRows w pb st y g
  r1 : RoomAt w c1 0 rs
  r2 : RoomAt w c2 0 rs
  k : Keep FR W w
  b1 : W.heap.size ≤ ib ∧ W.heap.size ≤ pb ∧ W.heap.size ≤ c1 ∧ W.heap.size ≤ c2
  n1 : c1 ≠ ib ∧ c1 ≠ pb ∧ c2 ≠ ib ∧ c2 ≠ pb ∧ c1 ≠ c2

/-- What stands behind the read of row y: its bytes B in the row's block c1. -/
structure RipM (I : World → List UInt8 → Prop) (FR : Nat → Nat → Prop) (W : World) (R : List UInt8) (ib pb n st wd ht c1 c2 rs y : Nat) (g : Nat → Nat → Nat) (B : List UInt8) (w : World) : Prop where
  inv : I w (R.drop ((y + 1) * rs))
  img : ImgAt w ib pb n st wd ht
  pix : PixRows w pb st y g
  r1 : RoomAt w c1 0 rs
  r2 : RoomAt w c2 0 rs
  k : Keep FR W w
  b1 : W.heap.size ≤ ib ∧ W.heap.size ≤ pb ∧ W.heap.size ≤ c1 ∧ W.heap.size ≤ c2
  n1 : c1 ≠ ib ∧ c1 ≠ pb ∧ c2 ≠ ib ∧ c2 ≠ pb ∧ c1 ≠ c2
  row : BytesAt w c1 0 B
  len : B.length = rs
  zero : B[0]? = some 0
  byte : ∀ k, k + 1 < rs → ∃ x : UInt8, B[k + 1]? = some x ∧ x.toNat = rowAt R (rs - 1) y k

section
variable {t : TypeId} {ra : Addr} {f : FuncId} {I : World → List UInt8 → Prop} {FR : Nat → Nat → Prop} {Ok : Nat → Prop} {bd rb cb : Nat} {d : Dv} {W : World} (hr : RipRd t ra f I FR Ok bd rb cb d W) {R : List UInt8} {ib pb n st wd ht c1 c2 rs y : Nat} {g : Nat → Nat → Nat} {w : World}
include hr
/-- The row is read; the picture's block is as it was. -/
theorem RipW.readX (h : RipW I FR W R ib pb n st wd ht c1 c2 rs y g w) (hy : y < ht) (hrs : 0 < rs) (hrs2 : rs ≤ 1073741824) (hlen : R.length = ht * rs) (hft : ∀ y, y < ht → R.getD (y * rs) 0 = 0) :
    Calls Tryz.prog 53 #[.iface t (.pointer (some ra)), .slice (some ⟨c1, 0, none⟩) rs rs] w fun e w' => e = .returned (.tuple #[.int .i64 (rs : Int), .nilIface]) ∧ ∃ B, RipM I FR W R ib pb n st wd ht c1 c2 rs y g B w' ∧ ∀ j v, w.cell? ⟨ib, j, none⟩ = some v → w'.cell? ⟨ib, j, none⟩ = some v := by
  have hyr : y * rs + rs ≤ R.length := by
    rw [hlen]
    have : (y + 1) * rs ≤ ht * rs := Nat.mul_le_mul_right _ hy
    rw [Nat.add_mul] at this
    omega
  refine (readFull hr.rd w (R.drop (y * rs)) c1 0 rs rs h.inv (by rw [List.length_drop]; omega) hrs2 h.r1 (hr.new c1 h.b1.2.2.1) (Nat.le_refl _)).mono ?_
  rintro e w1 ⟨rfl, hI1, hB1, hz1, hk1⟩
  refine ⟨rfl, (R.drop (y * rs)).take rs, ?_, fun j v hv => hk1.get hv fun e => e.elim (hr.rd.ok ib (hr.new ib h.b1.1) j) fun e => h.n1.1 e.1.symm⟩
  have hBl : ((R.drop (y * rs)).take rs).length = rs := by rw [List.length_take, List.length_drop]; omega
  have nb : ∀ x, W.heap.size ≤ x → x ≠ c1 → ∀ y', ¬ (FR x y' ∨ (x = c1 ∧ 0 ≤ y' ∧ y' < 0 + rs)) := fun x hx hn y' e => e.elim (hr.rd.ok x (hr.new x hx) y') fun e => hn e.1
  have bi := nb ib h.b1.1 h.n1.1.symm
  have bp := nb pb h.b1.2.1 h.n1.2.1.symm
  have b2 := nb c2 h.b1.2.2.2 h.n1.2.2.2.2.symm
  refine ⟨?_, h.img.keep hk1 bi bp, h.pix.keep hk1 fun _ _ _ _ => bp _, ?_, h.r2.keep hk1 fun _ _ => b2 _, ?_, h.b1, h.n1, hB1, hBl, ?_, ?_⟩
  · rw [List.drop_drop] at hI1
    rw [Nat.add_mul, Nat.one_mul]; exact hI1
  · exact h.r1.after (l := (R.drop (y * rs)).take rs) hk1 (fun y' e => by rw [hBl]; exact e.elim (fun e => (hr.rd.ok c1 (hr.new c1 h.b1.2.2.1) y' e).elim) fun e => e.2) hB1 hz1
  · exact h.k.then hk1 (fun _ _ _ e => e) fun x y' hx e => e.elim id fun e => absurd e.1 (by have := h.b1.2.2.1; omega)
  · rw [List.getElem?_take, if_pos hrs, List.getElem?_drop, Nat.add_zero, List.getElem?_eq_getElem (by omega)]
    have hz := hft y hy
    rw [List.getD_eq_getElem?_getD, List.getElem?_eq_getElem (by omega)] at hz
    exact congrArg some hz
  · intro k hk
    refine ⟨R[y * rs + (k + 1)]'(by omega), by rw [List.getElem?_take, if_pos hk, List.getElem?_drop, List.getElem?_eq_getElem (by omega)], ?_⟩
    unfold rowAt
    rw [show y * (1 + (rs - 1)) + 1 + k = y * rs + (k + 1) by rw [show 1 + (rs - 1) = rs by omega]; omega, List.getD_eq_getElem?_getD, List.getElem?_eq_getElem (by omega)]
    rfl
/-- The row is read. -/
theorem RipW.read (h : RipW I FR W R ib pb n st wd ht c1 c2 rs y g w) (hy : y < ht) (hrs : 0 < rs) (hrs2 : rs ≤ 1073741824) (hlen : R.length = ht * rs) (hft : ∀ y, y < ht → R.getD (y * rs) 0 = 0) :
    Calls Tryz.prog 53 #[.iface t (.pointer (some ra)), .slice (some ⟨c1, 0, none⟩) rs rs] w fun e w' => e = .returned (.tuple #[.int .i64 (rs : Int), .nilIface]) ∧ ∃ B, RipM I FR W R ib pb n st wd ht c1 c2 rs y g B w' :=
  (h.readX hr hy hrs hrs2 hlen hft).mono fun e w' ⟨h1, B, h2, _⟩ => ⟨h1, B, h2⟩
/-- The row is laid into the picture. -/
theorem RipM.next {B : List UInt8} (h : RipM I FR W R ib pb n st wd ht c1 c2 rs y g B w) {w' : World} {F : Nat → Nat → Prop} (hk : Keep F w w') (hF : ∀ x j, F x j → x = pb ∧ y * st ≤ j) (hroom : RoomAt w' pb 0 n) (hrow : ∀ k, k < st → w'.cell? ⟨pb, y * st + k, none⟩ = some (.int .u8 (g y k : Int))) :
    RipW I FR W R ib pb n st wd ht c2 c1 rs (y + 1) g w' := by
  have hne : ∀ x, x ≠ pb → ∀ j, ¬ F x j := fun x hx j e => hx (hF x j e).1
  refine ⟨hr.keep F w w' _ h.inv hk fun x j e => by rw [(hF x j e).1]; exact h.b1.2.1, h.img.wrote hk (hne ib h.img.ne) hroom, fun j k hj hk' => ?_, h.r2.keep hk fun _ _ => hne c2 h.n1.2.2.2.1 _, h.r1.keep hk fun _ _ => hne c1 h.n1.2.1 _, ?_, ⟨h.b1.1, h.b1.2.1, h.b1.2.2.2, h.b1.2.2.1⟩, ⟨h.n1.2.2.1, h.n1.2.2.2.1, h.n1.1, h.n1.2.1, h.n1.2.2.2.2.symm⟩⟩
  · by_cases e : j = y
    · subst e; exact hrow k hk'
    · refine hk.get (h.pix j k (by omega) hk') fun e' => ?_
      have := (hF _ _ e').2
      have h2 : (j + 1) * st ≤ y * st := Nat.mul_le_mul_right _ (by omega)
      rw [Nat.add_mul] at h2
      omega
  · exact h.k.then hk (fun _ _ _ e => e) fun x j hx e => absurd (hF x j e).1 (by have := h.b1.2.1; omega)
end
end Go.Proofs.YtnbbppjgamdfeaaGreatDoor
end
