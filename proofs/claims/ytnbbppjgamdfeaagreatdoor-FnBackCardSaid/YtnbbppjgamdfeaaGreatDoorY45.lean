/- laws.FnBack, part 45 of 54: R0. -/
import Derived.Test.YtnbbppjgamdfeaaGreatDoorY32
import Derived.Test.YtnbbppjgamdfeaaGreatDoorY38
import Derived.Test.YtnbbppjgamdfeaaGreatDoorY33

/- The reference's PictureDots over the decoded picture. -/
section
set_option linter.unusedVariables false
set_option linter.unusedSimpArgs false
namespace Go.Proofs.YtnbbppjgamdfeaaGreatDoor
open Go Go.RowKit

theorem pixN_kind {colour depth : Nat} (h : KindOk colour depth) : pixN (kKind colour depth) = kN colour depth := by
  rcases h with ⟨rfl, rfl | rfl⟩ | ⟨rfl, rfl | rfl⟩ | ⟨rfl, rfl | rfl⟩ | ⟨rfl, rfl | rfl | rfl | rfl⟩ <;> rfl
theorem kKind_7 {colour depth : Nat} (h : KindOk colour depth) : kKind colour depth = 7 ↔ colour = 3 := by
  rcases h with ⟨rfl, rfl | rfl⟩ | ⟨rfl, rfl | rfl⟩ | ⟨rfl, rfl | rfl⟩ | ⟨rfl, rfl | rfl | rfl | rfl⟩ <;> simp [kKind]
def Pd4 (wr : World) (b q x0 x1 x2 x3 base : Nat) (v : Value) (n : Nat) (xs : List Value) (w' : World) : Prop :=
  w'.cell? ⟨b, q, none⟩ = some (.int .u8 (x0 : Int)) ∧ w'.cell? ⟨b, q + 1, none⟩ = some (.int .u8 (x1 : Int)) ∧ w'.cell? ⟨b, q + 2, none⟩ = some (.int .u8 (x2 : Int)) ∧ w'.cell? ⟨b, q + 3, none⟩ = some (.int .u8 (x3 : Int)) ∧ OwnV 41 4 w' base v n xs ∧ Keep (fun k _ => v.ownBlock = some k) wr w'
theorem pd4_keep {wr : World} {b q x0 x1 x2 x3 base : Nat} {v : Value} {n : Nat} {xs : List Value} {V V' : World} (h : Pd4 wr b q x0 x1 x2 x3 base v n xs V) (hk : Keep Nil2 V V') : Pd4 wr b q x0 x1 x2 x3 base v n xs V' :=
  ⟨hk.get h.1 fun e => e, hk.get h.2.1 fun e => e, hk.get h.2.2.1 fun e => e, hk.get h.2.2.2.1 fun e => e, h.2.2.2.2.1.keep0 hk, h.2.2.2.2.2.trans (hk.mono fun _ _ _ e => e.elim)⟩
theorem pd4_app {wr : World} {b q x0 x1 x2 x3 base : Nat} {v : Value} {n : Nat} {xs : List Value} {V V' : World} (h : Pd4 wr b q x0 x1 x2 x3 base v n xs V) (hk : Keep (fun k _ => v.ownBlock = some k) V V') (ho : OwnV 41 4 V' base v n xs) (hb : b < base) : Pd4 wr b q x0 x1 x2 x3 base v n xs V' := by
  have hge := fun k e => (h.2.2.2.2.1.block_ge k e).1
  exact ⟨hk.get h.1 fun e => by have := hge _ e; omega, hk.get h.2.1 fun e => by have := hge _ e; omega, hk.get h.2.2.1 fun e => by have := hge _ e; omega, hk.get h.2.2.2.1 fun e => by have := hge _ e; omega, ho, h.2.2.2.2.2.trans hk⟩
def Pd8 (wr : World) (b q x0 x1 x2 x3 x4 x5 x6 x7 base : Nat) (v : Value) (n : Nat) (xs : List Value) (w' : World) : Prop :=
  w'.cell? ⟨b, q, none⟩ = some (.int .u8 (x0 : Int)) ∧ w'.cell? ⟨b, q + 1, none⟩ = some (.int .u8 (x1 : Int)) ∧ w'.cell? ⟨b, q + 2, none⟩ = some (.int .u8 (x2 : Int)) ∧ w'.cell? ⟨b, q + 3, none⟩ = some (.int .u8 (x3 : Int)) ∧ w'.cell? ⟨b, q + 4, none⟩ = some (.int .u8 (x4 : Int)) ∧ w'.cell? ⟨b, q + 5, none⟩ = some (.int .u8 (x5 : Int)) ∧ w'.cell? ⟨b, q + 6, none⟩ = some (.int .u8 (x6 : Int)) ∧ w'.cell? ⟨b, q + 7, none⟩ = some (.int .u8 (x7 : Int)) ∧ OwnV 41 4 w' base v n xs ∧ Keep (fun k _ => v.ownBlock = some k) wr w'
theorem pd8_keep {wr : World} {b q x0 x1 x2 x3 x4 x5 x6 x7 base : Nat} {v : Value} {n : Nat} {xs : List Value} {V V' : World} (h : Pd8 wr b q x0 x1 x2 x3 x4 x5 x6 x7 base v n xs V) (hk : Keep Nil2 V V') : Pd8 wr b q x0 x1 x2 x3 x4 x5 x6 x7 base v n xs V' :=
  ⟨hk.get h.1 fun e => e, hk.get h.2.1 fun e => e, hk.get h.2.2.1 fun e => e, hk.get h.2.2.2.1 fun e => e, hk.get h.2.2.2.2.1 fun e => e, hk.get h.2.2.2.2.2.1 fun e => e, hk.get h.2.2.2.2.2.2.1 fun e => e, hk.get h.2.2.2.2.2.2.2.1 fun e => e, h.2.2.2.2.2.2.2.2.1.keep0 hk, h.2.2.2.2.2.2.2.2.2.trans (hk.mono fun _ _ _ e => e.elim)⟩
theorem pd8_app {wr : World} {b q x0 x1 x2 x3 x4 x5 x6 x7 base : Nat} {v : Value} {n : Nat} {xs : List Value} {V V' : World} (h : Pd8 wr b q x0 x1 x2 x3 x4 x5 x6 x7 base v n xs V) (hk : Keep (fun k _ => v.ownBlock = some k) V V') (ho : OwnV 41 4 V' base v n xs) (hb : b < base) : Pd8 wr b q x0 x1 x2 x3 x4 x5 x6 x7 base v n xs V' := by
  have hge := fun k e => (h.2.2.2.2.2.2.2.2.1.block_ge k e).1
  exact ⟨hk.get h.1 fun e => by have := hge _ e; omega, hk.get h.2.1 fun e => by have := hge _ e; omega, hk.get h.2.2.1 fun e => by have := hge _ e; omega, hk.get h.2.2.2.1 fun e => by have := hge _ e; omega, hk.get h.2.2.2.2.1 fun e => by have := hge _ e; omega, hk.get h.2.2.2.2.2.1 fun e => by have := hge _ e; omega, hk.get h.2.2.2.2.2.2.1 fun e => by have := hge _ e; omega, hk.get h.2.2.2.2.2.2.2.1 fun e => by have := hge _ e; omega, ho, h.2.2.2.2.2.2.2.2.2.trans hk⟩
theorem cellsDotD (V : World) (a b c e : Nat) : CellsAt ((V.alloc (.cells #[.int .i64 (a : Int), .int .i64 (b : Int), .int .i64 (c : Int), .int .i64 (e : Int)] 41)).drew) V.heap.size 0 (dotCell (a, b, c, e)) := (CellsAt.lit V #[.int .i64 (a : Int), .int .i64 (b : Int), .int .i64 (c : Int), .int .i64 (e : Int)] 41).keep ((Keep.refl Nil2 _).drew) fun _ _ e => e
theorem dotI_at (R : List UInt8) (wd depth colour : Nat) (pal : List Shade4) (y x : Nat) (hx : x < wd) : dotI R wd depth colour pal (y * wd + x) = dotAt R wd depth colour pal y x := by
  unfold dotI
  rw [Nat.mul_comm y, Nat.mul_add_div (by omega), Nat.div_eq_of_lt hx, Nat.mul_add_mod, Nat.mod_eq_of_lt hx, Nat.add_zero]
theorem or16 (x y : Nat) (hx : x < 256) (hy : y < 256) : bits BinOp.or IntKind.i64 ((x : Int) * 256) (y : Int) = ((x * 256 + y : Nat) : Int) := by
  rw [show (x : Int) * 256 = ((x * 256 : Nat) : Int) by omega, i64_or_nat _ _ (by omega) (by omega), or_add _ _ 8 (by omega) (by omega)]

set_option maxHeartbeats 8000000 in
set_option maxRecDepth 100000 in
theorem specPictureDots {w : World} {R : List UInt8} {wd ht depth colour : Nat} {pal : List Shade4} (ok : RowsOk wd ht depth colour pal.length R) (b o c n : Nat) (hn : n = kN colour depth * wd * ht) (hb : BytesAt w b o (pixL R wd ht depth colour)) (hc : n ≤ c) (pv : Value)
    (hpv : colour = 3 → ∃ plb plo pc, pv = .slice (some ⟨plb, plo, none⟩) pal.length pc ∧ CellsAt w plb plo (dotsV (pal.map palDot))) :
    Calls Tryz.prog 8 #[.int .i64 (kKind colour depth : Int), .int .i64 (wd : Int), .int .i64 (ht : Int), .int .i64 ((kN colour depth * wd : Nat) : Int), .slice (some ⟨b, o, none⟩) n c, pv] w fun e w' => ∃ v, e = .returned (.tuple #[v, .bool true]) ∧ OwnV 41 4 w' w.heap.size v (ht * wd) (dotsV (dotsUp R wd depth colour pal (ht * wd))) ∧ Keep Nil2 w w' := by
  have hk : KindOk colour depth := ok.kind
  have hw := ok.w60
  have hw0 := ok.w0
  have hh := ok.h60
  have hh0 := ok.h0
  have hkN := kN_pos colour depth
  have hPB := fun V => specPixelBytes V (kKind colour depth) (kKind_cases colour depth)
  have hkk := kKind_cases colour depth
  have hpk := pixN_kind hk
  rw [pixN_kind hk] at hPB
  have hbs : ∀ (a b c e : Int) (w : World), (Instr.buildSlice 31 1 #[(0, .agg #[.int .i64 a, .int .i64 b, .int .i64 c, .int .i64 e])]).run Tryz.prog w = .ok (.slice (some ⟨w.heap.size, 0, none⟩) 1 1) (w.alloc (.cells #[.int .i64 a, .int .i64 b, .int .i64 c, .int .i64 e] 41)) := fun a b c e w => by kernel_rfl
  have hdot := fun y x (hx : x < wd) => pdot_eq ok pal y x hx
  have hpx := fun y k hy hk => pixL_at ok y k hy hk
  obtain ⟨kn, hkn⟩ : ∃ kn, kn = kN colour depth := ⟨_, rfl⟩
  obtain ⟨kd, hkd⟩ : ∃ kd, kd = kKind colour depth := ⟨_, rfl⟩
  obtain ⟨st, hst⟩ : ∃ st, st = kn * wd := ⟨_, rfl⟩
  obtain ⟨p, hp⟩ : ∃ p, p = wd * ht := ⟨_, rfl⟩
  have hp2 : p ≤ 3600 := by rw [hp]; exact Nat.le_trans (Nat.mul_le_mul hw hh) (by decide)
  rw [← hkn] at hPB hpx hdot hn hkN hpk ⊢
  rw [← hkd] at hPB hdot hkk hpk ⊢
  rw [← hst] at hpx hn ⊢
  have hst2 : st ≤ 480 := by rw [hst]; exact Nat.le_trans (Nat.mul_le_mul hkN.2 hw) (by decide)
  have hn2 : n ≤ 28800 := by rw [hn]; exact Nat.le_trans (Nat.mul_le_mul hst2 hh) (by decide)
  have e1 : IntKind.i64.wrap ((wd : Int) * (ht : Int)) = (p : Int) := by rw [← Int.natCast_mul, ← hp]; exact IntWalk.i64_in _ (by omega)
  have z1 : ((kn : Int) == 0) = false := by simp; omega
  have z2 : ¬ 1048576 < wd := by omega
  have z3 : ¬ 1048576 < ht := by omega
  have z4 : ¬ 1048576 < p := by omega
  have z5 : ¬ 1073741824 < st := by omega
  have H0 := Lib.hid (And.intro ok (And.intro hk (And.intro hkn (And.intro hkd (And.intro hst (And.intro hn (And.intro hdot hpx)))))))
  have HPB := Lib.hid hPB
  have HPV := Lib.hid hpv
  have HP := Lib.hid hp
  have HPK := Lib.hid hpk
  clear ok hk hkn hkd hst hn hdot hpx hPB hpv hp hpk
  go_enter Tryz.func8, Tryz.ntmps8
  go_wp2_with (go_at_call 10; fail)
  refine (HPB.out _).mono ?_
  rintro e w1 ⟨rfl, rfl⟩
  have HI := Lib.hid (And.intro (OwnV.lit (e := 41) (size := 4) w1 #[] 0 [] rfl rfl (by omega)) ((Keep.refl Nil2 w1).alloc (.cells #[] 41)))
  go_wp2
  go_loopg [15, 16, 17, 18, 19, 20, 21, 58] ht (fun G v15 v16 v17 v18 v19 v20 v21 v58 wr => ∃ (y g yw : Nat), g = G ∧ y + g = ht ∧ v58 = .int .i64 (y : Int) ∧ y * wd = yw ∧ OwnV 41 4 wr w1.heap.size v15 yw (dotsV (dotsUp R wd depth colour pal yw)) ∧ Keep Nil2 w1 wr)
  case atStart => exact ⟨0, ht, 0, rfl, by omega, rfl, by simp, HI.out.1, HI.out.2⟩
  case round =>
    obtain ⟨y, g, yw, hG, hyg, rfl, hyw, hO, hK⟩ := hrel
    have HG := Lib.hid hG
    have HYW := Lib.hid hyw
    have hyw2 : yw + wd ≤ 3600 ∨ ¬ y < ht := by
      by_cases hy : y < ht
      · left
        have h1 : (y + 1) * wd ≤ 60 * 60 := Nat.mul_le_mul (by omega) hw
        rw [Nat.add_mul, Nat.one_mul, hyw] at h1
        exact h1
      · right; exact hy
    by_cases hy : y < ht
    · have d1 : decide ((y : Int) < (ht : Int)) = true := by simp; omega
      have hyw3 : yw + wd ≤ 3600 := by omega
      have HO := Lib.hid (And.intro hO hK)
      clear hG hyw hO hK hyw2
      go_wp2
      go_loopg [15, 17, 18, 19, 20, 21, 62] wd (fun G v15 v17 v18 v19 v20 v21 v62 wr => ∃ (x g : Nat), g = G ∧ x + g = wd ∧ v62 = .int .i64 (x : Int) ∧ OwnV 41 4 wr w1.heap.size v15 (yw + x) (dotsV (dotsUp R wd depth colour pal (yw + x))) ∧ Keep Nil2 w1 wr)
      case atStart => exact ⟨0, wd, rfl, by omega, rfl, HO.out.1, HO.out.2⟩
      case round =>
        obtain ⟨x, g2, hG2, hxg, rfl, hO, hK⟩ := hrel
        have HG2 := Lib.hid hG2
        clear hG2
        by_cases hx : x < wd
        · have d2 : decide ((x : Int) < (wd : Int)) = true := by simp; omega
          obtain ⟨A, hA⟩ : ∃ A, A = y * st := ⟨_, rfl⟩
          obtain ⟨f, hf⟩ : ∃ f, f = x * kn := ⟨_, rfl⟩
          have ha1 : A + st ≤ n := by
            have h1 : (y + 1) * st ≤ ht * st := Nat.mul_le_mul_right _ hy
            have h2 := H0.out.2.2.2.2.2.1
            rw [Nat.add_mul, Nat.one_mul, Nat.mul_comm ht] at h1
            omega
          have hf1 : f + kn ≤ st := by
            have h1 : (x + 1) * kn ≤ wd * kn := Nat.mul_le_mul_right _ hx
            have h2 := H0.out.2.2.2.2.1
            rw [Nat.add_mul, Nat.one_mul, Nat.mul_comm wd] at h1
            omega
          obtain ⟨q, hq⟩ : ∃ q, q = A + f := ⟨_, rfl⟩
          obtain ⟨q2, hq2⟩ : ∃ q2, q2 = q + kn := ⟨_, rfl⟩
          have g1 : IntKind.i64.wrap ((y : Int) * (st : Int)) = (A : Int) := by rw [← Int.natCast_mul, ← hA]; exact IntWalk.i64_in _ (by omega)
          have g2' : IntKind.i64.wrap ((x : Int) * (kn : Int)) = (f : Int) := by rw [← Int.natCast_mul, ← hf]; exact IntWalk.i64_in _ (by omega)
          have g3 : IntKind.i64.wrap ((A : Int) + (f : Int)) = (q : Int) := by rw [IntWalk.i64_in _ (by omega)]; omega
          have g4 : IntKind.i64.wrap ((q : Int) + (kn : Int)) = (q2 : Int) := by rw [IntWalk.i64_in _ (by omega)]; omega
          have s1 : ¬ n < q2 := by omega
          have s2 : (q : Int) ≤ (q2 : Int) := by omega
          have s3 : (q2 : Int) ≤ c := by omega
          have s4 : ¬ c = q := by omega
          have s5 : q2 - q = kn := by omega
          have hcell : ∀ j, j < kn → wr.cell? ⟨b, o + q + j, none⟩ = some (.int .u8 (kG R wd depth colour y (kn * x + j) : Int)) ∧ kG R wd depth colour y (kn * x + j) < 256 := fun j hj => by
            obtain ⟨u, hu, hv⟩ := H0.out.2.2.2.2.2.2.2 y (kn * x + j) hy (by rw [Nat.mul_comm]; omega)
            have h1 := (hb.keep hK fun _ _ e => e).at_ _ u hu
            rw [hv] at h1
            rw [show o + q + j = o + (y * st + (kn * x + j)) by rw [Nat.mul_comm kn, ← hf, ← hA]; omega]
            exact ⟨h1, by rw [← hv]; exact u.toNat_lt⟩
          obtain ⟨gv, hgv⟩ : ∃ gv : Nat → Nat, gv = fun j => kG R wd depth colour y (kn * x + j) := ⟨_, rfl⟩
          have hcell2 : ∀ j, j < kn → wr.cell? ⟨b, o + q + j, none⟩ = some (.int .u8 (gv j : Int)) ∧ gv j < 256 := by rw [hgv]; exact hcell
          have HG0 := Lib.hid hgv
          have hbw : b < w1.heap.size := hb.lt (by rw [pixL_length, ← H0.out.2.2.1]; have := H0.out.2.2.2.2.1; rw [← this, ← H0.out.2.2.2.2.2.1]; omega)
          have hszr := hK.size
          clear hcell hgv hA hf hq hq2
          have HOK := Lib.hid (And.intro hO hK)
          rcases kind7 hkk with rfl | rfl | rfl | rfl | rfl | rfl | rfl
          · as_aux_lemma =>
              have hk1 : kn = 1 := HPK.out.symm
              have hj0 : (0 : Int) < kn := by omega
              have hjz : 0 < kn := by omega
              clear hk1
              obtain ⟨c0, u0⟩ := hcell2 0 (by omega)
              obtain ⟨y0, hy0⟩ : ∃ y0, y0 = gv 0 := ⟨_, rfl⟩
              rw [← hy0] at c0 u0
              have v0 : IntKind.i64.wrap (y0 : Int) = (y0 : Int) := IntWalk.i64_in _ (by omega)
              rw [Nat.add_zero] at c0
              obtain ⟨D0, hD0⟩ : ∃ D0, D0 = 257 * y0 := ⟨_, rfl⟩
              have m0 : IntKind.i64.wrap (257 * (y0 : Int)) = (D0 : Int) := by rw [IntWalk.i64_in _ (by omega)]; omega
              have HX := Lib.hid (show dotI R wd depth colour pal (yw + x) = (D0, D0, D0, 65535) by
                rw [← HYW.out, dotI_at _ _ _ _ _ _ _ hx, ← H0.out.2.2.2.2.2.2.1 y x hx, ← HG0.out]
                simp [pdot, ← hy0, hD0])
              clear hy0 hD0 hcell2
              clear hO hK
              go_wp2_with (at_builtin; refine goalStop ?_)
              refine ⟨?_⟩
              refine wpList_append_vals rfl (.tmp 108) (.tmp 113) 31 41 rfl _ 4 32 Tryz.underlying31 info41 rfl (by decide) (by decide) w1.heap.size u15 (yw + x) (dotsV (dotsUp R wd depth colour pal (yw + x))) rfl (HOK.out.1.alloc _) _ 1 (dotCell (D0, D0, D0, 65535)) rfl (SrcV.litAt' _ _ 41 1 _ rfl (by simp)) rfl (dotCell_one _) (by omega) (by have := HOK.out.2.size; simp; omega) ?_
              intro v4 w4 hof hk4 hv4
              have hkf := keep_layV' (HOK.out.2.alloc _) (HOK.out.1.alloc _) hk4
              have HF := Lib.hid (show OwnV 41 4 w4 w1.heap.size v4 (yw + (x + 1)) (dotsV (dotsUp R wd depth colour pal (yw + (x + 1)))) ∧ Keep Nil2 w1 w4 by
                refine ⟨?_, hkf⟩
                rw [show yw + (x + 1) = yw + x + 1 by omega, dotsUp_succ, dotsV_snoc, HX.out]
                exact hof)
              clear hk4 hv4
              clear hof hkf
              go_wp2
              go_roundg (g2 - 1)
              case measure => have := HG2.out; omega
              case rel => exact ⟨x + 1, g2 - 1, rfl, by omega, by go_num, HF.out.1, HF.out.2⟩
          · as_aux_lemma =>
              have hk1 : kn = 2 := HPK.out.symm
              have hj0 : (0 : Int) < kn := by omega
              have hjz : 0 < kn := by omega
              have hj1 : (1 : Int) < kn := by omega
              obtain ⟨c0, u0⟩ := hcell2 0 (by omega)
              obtain ⟨y0, hy0⟩ : ∃ y0, y0 = gv 0 := ⟨_, rfl⟩
              rw [← hy0] at c0 u0
              have v0 : IntKind.i64.wrap (y0 : Int) = (y0 : Int) := IntWalk.i64_in _ (by omega)
              obtain ⟨c1, u1⟩ := hcell2 1 (by omega)
              obtain ⟨y1, hy1⟩ : ∃ y1, y1 = gv 1 := ⟨_, rfl⟩
              rw [← hy1] at c1 u1
              have v1 : IntKind.i64.wrap (y1 : Int) = (y1 : Int) := IntWalk.i64_in _ (by omega)
              rw [Nat.add_zero] at c0
              clear hk1
              obtain ⟨D0, hD0⟩ : ∃ D0, D0 = y0 * 256 + y1 := ⟨_, rfl⟩
              have s0a : IntKind.i64.wrap ((y0 : Int) * 256) = (y0 : Int) * 256 := IntWalk.i64_in _ (by omega)
              have m0 : bits BinOp.or IntKind.i64 ((y0 : Int) * 256) (y1 : Int) = (D0 : Int) := by rw [or16 _ _ (by omega) (by omega), hD0]
              have HX := Lib.hid (show dotI R wd depth colour pal (yw + x) = (D0, D0, D0, 65535) by
                rw [← HYW.out, dotI_at _ _ _ _ _ _ _ hx, ← H0.out.2.2.2.2.2.2.1 y x hx, ← HG0.out]
                simp [pdot, ← hy0, ← hy1, hD0])
              clear hy0 hy1 hD0 hcell2
              clear hO hK
              go_wp2
              go_quiet (fail)
              obtain ⟨wq, hwq⟩ : ∃ wq, wq = wr.drewN nq := ⟨_, rfl⟩
              rw [← hwq]
              have HQ := Lib.hid (show OwnV 41 4 wq w1.heap.size u15 (yw + x) (dotsV (dotsUp R wd depth colour pal (yw + x))) ∧ Keep Nil2 w1 wq by rw [hwq]; exact ⟨HOK.out.1.keep0 ((Keep.refl Nil2 wr).drewN _), HOK.out.2.drewN _⟩)
              clear hwq
              go_wp2_with (at_builtin; refine goalStop ?_)
              refine ⟨?_⟩
              refine wpList_append_vals rfl (.tmp 127) (.tmp 132) 31 41 rfl _ 4 32 Tryz.underlying31 info41 rfl (by decide) (by decide) w1.heap.size u15 (yw + x) (dotsV (dotsUp R wd depth colour pal (yw + x))) rfl (HQ.out.1.alloc _) _ 1 (dotCell (D0, D0, D0, 65535)) rfl (SrcV.litAt' _ _ 41 1 _ rfl (by simp)) rfl (dotCell_one _) (by omega) (by have := HQ.out.2.size; simp; omega) ?_
              intro v4 w4 hof hk4 hv4
              have hkf := keep_layV' (HQ.out.2.alloc _) (HQ.out.1.alloc _) hk4
              have HF := Lib.hid (show OwnV 41 4 w4 w1.heap.size v4 (yw + (x + 1)) (dotsV (dotsUp R wd depth colour pal (yw + (x + 1)))) ∧ Keep Nil2 w1 w4 by
                refine ⟨?_, hkf⟩
                rw [show yw + (x + 1) = yw + x + 1 by omega, dotsUp_succ, dotsV_snoc, HX.out]
                exact hof)
              clear hk4 hv4
              clear hof hkf
              go_wp2
              go_roundg (g2 - 1)
              case measure => have := HG2.out; omega
              case rel => exact ⟨x + 1, g2 - 1, rfl, by omega, by go_num, HF.out.1, HF.out.2⟩
          · as_aux_lemma =>
              have hk1 : kn = 4 := HPK.out.symm
              have hj0 : (0 : Int) < kn := by omega
              have hjz : 0 < kn := by omega
              have hj1 : (1 : Int) < kn := by omega
              have hj2 : (2 : Int) < kn := by omega
              have hj3 : (3 : Int) < kn := by omega
              obtain ⟨c0, u0⟩ := hcell2 0 (by omega)
              obtain ⟨y0, hy0⟩ : ∃ y0, y0 = gv 0 := ⟨_, rfl⟩
              rw [← hy0] at c0 u0
              have v0 : IntKind.i64.wrap (y0 : Int) = (y0 : Int) := IntWalk.i64_in _ (by omega)
              obtain ⟨c1, u1⟩ := hcell2 1 (by omega)
              obtain ⟨y1, hy1⟩ : ∃ y1, y1 = gv 1 := ⟨_, rfl⟩
              rw [← hy1] at c1 u1
              have v1 : IntKind.i64.wrap (y1 : Int) = (y1 : Int) := IntWalk.i64_in _ (by omega)
              obtain ⟨c2, u2⟩ := hcell2 2 (by omega)
              obtain ⟨y2, hy2⟩ : ∃ y2, y2 = gv 2 := ⟨_, rfl⟩
              rw [← hy2] at c2 u2
              have v2 : IntKind.i64.wrap (y2 : Int) = (y2 : Int) := IntWalk.i64_in _ (by omega)
              obtain ⟨c3, u3⟩ := hcell2 3 (by omega)
              obtain ⟨y3, hy3⟩ : ∃ y3, y3 = gv 3 := ⟨_, rfl⟩
              rw [← hy3] at c3 u3
              have v3 : IntKind.i64.wrap (y3 : Int) = (y3 : Int) := IntWalk.i64_in _ (by omega)
              rw [Nat.add_zero] at c0
              clear hk1
              obtain ⟨D0, hD0⟩ : ∃ D0, D0 = 257 * y0 := ⟨_, rfl⟩
              have m0 : IntKind.i64.wrap (257 * (y0 : Int)) = (D0 : Int) := by rw [IntWalk.i64_in _ (by omega)]; omega
              obtain ⟨D1, hD1⟩ : ∃ D1, D1 = 257 * y1 := ⟨_, rfl⟩
              have m1 : IntKind.i64.wrap (257 * (y1 : Int)) = (D1 : Int) := by rw [IntWalk.i64_in _ (by omega)]; omega
              obtain ⟨D2, hD2⟩ : ∃ D2, D2 = 257 * y2 := ⟨_, rfl⟩
              have m2 : IntKind.i64.wrap (257 * (y2 : Int)) = (D2 : Int) := by rw [IntWalk.i64_in _ (by omega)]; omega
              obtain ⟨D3, hD3⟩ : ∃ D3, D3 = 257 * y3 := ⟨_, rfl⟩
              have m3 : IntKind.i64.wrap (257 * (y3 : Int)) = (D3 : Int) := by rw [IntWalk.i64_in _ (by omega)]; omega
              have HX := Lib.hid (show dotI R wd depth colour pal (yw + x) = (D0, D1, D2, D3) by
                rw [← HYW.out, dotI_at _ _ _ _ _ _ _ hx, ← H0.out.2.2.2.2.2.2.1 y x hx, ← HG0.out]
                simp [pdot, ← hy0, ← hy1, ← hy2, ← hy3, hD0, hD1, hD2, hD3])
              clear hy0 hy1 hy2 hy3 hD0 hD1 hD2 hD3 hcell2
              have hs0 : Pd4 wr b (o + q) y0 y1 y2 y3 w1.heap.size u15 (yw + x) (dotsV (dotsUp R wd depth colour pal (yw + x))) wr := ⟨c0, c1, c2, c3, hO, Keep.refl _ _⟩
              have KS := Lib.hid (fun V V' (h : Pd4 wr b (o + q) y0 y1 y2 y3 w1.heap.size u15 (yw + x) (dotsV (dotsUp R wd depth colour pal (yw + x))) V) (hk : Keep Nil2 V V') => pd4_keep h hk)
              have KA := Lib.hid (fun V V' (h : Pd4 wr b (o + q) y0 y1 y2 y3 w1.heap.size u15 (yw + x) (dotsV (dotsUp R wd depth colour pal (yw + x))) V) (hk : Keep (fun k _ => u15.ownBlock = some k) V V') (ho : OwnV 41 4 V' w1.heap.size u15 (yw + x) (dotsV (dotsUp R wd depth colour pal (yw + x)))) => pd4_app h hk ho hbw)
              have KO := Lib.hid (fun V (h : Pd4 wr b (o + q) y0 y1 y2 y3 w1.heap.size u15 (yw + x) (dotsV (dotsUp R wd depth colour pal (yw + x))) V) => h.2.2.2.2.1)
              have KH := Lib.hid (fun V (h : Pd4 wr b (o + q) y0 y1 y2 y3 w1.heap.size u15 (yw + x) (dotsV (dotsUp R wd depth colour pal (yw + x))) V) => Nat.le_trans hszr h.2.2.2.2.2.size)
              clear hO hK
              go_wp2
              go_region_held3 (fun w' => w'.cell? ⟨b, o + q, none⟩ = some (.int .u8 (y0 : Int)) ∧ w'.cell? ⟨b, o + q + 1, none⟩ = some (.int .u8 (y1 : Int)) ∧ w'.cell? ⟨b, o + q + 2, none⟩ = some (.int .u8 (y2 : Int)) ∧ w'.cell? ⟨b, o + q + 3, none⟩ = some (.int .u8 (y3 : Int)) ∧ OwnV 41 4 w' w1.heap.size u15 (yw + x) (dotsV (dotsUp R wd depth colour pal (yw + x))) ∧ Keep (fun k _ => u15.ownBlock = some k) wr w')
                (first | assumption | exact KA.out _ _ (by assumption) h2 h3 | exact KS.out _ _ (by assumption) ((Keep.refl Nil2 _).drew) | exact KS.out _ _ (by assumption) ((Keep.refl Nil2 _).alloc _))
                (first | (refine step_append_vals rfl (.tmp 137) (.tmp 159) 31 41 rfl _ 4 32 Tryz.underlying31 info41 rfl (by decide) (by decide) w1.heap.size u15 (yw + x) (dotsV (dotsUp R wd depth colour pal (yw + x))) rfl (KO.out _ (by assumption)) _ _ 1 1 (dotCell (D0, D1, D2, D3)) rfl (cellsDotD _ _ _ _ _) rfl (dotCell_one _) (by omega) (KH.out _ (by assumption)) ?_; intro v' w' h1 h2 h3))
              have hS2 : Pd4 wr b (o + q) y0 y1 y2 y3 w1.heap.size u15 (yw + x) (dotsV (dotsUp R wd depth colour pal (yw + x))) w' := by assumption
              have hof := h1
              have hkf := keep_layV' HOK.out.2 HOK.out.1 hS2.2.2.2.2.2
              have HF := Lib.hid (show OwnV 41 4 w' w1.heap.size v' (yw + (x + 1)) (dotsV (dotsUp R wd depth colour pal (yw + (x + 1)))) ∧ Keep Nil2 w1 w' by
                refine ⟨?_, hkf⟩
                rw [show yw + (x + 1) = yw + x + 1 by omega, dotsUp_succ, dotsV_snoc, HX.out]
                exact hof)
              clear h1 h2 h3 hS2 hs0 c0 c1 c2 c3
              clear hof hkf
              go_wp2
              go_roundg (g2 - 1)
              case measure => have := HG2.out; omega
              case rel => exact ⟨x + 1, g2 - 1, rfl, by omega, by go_num, HF.out.1, HF.out.2⟩
          · as_aux_lemma =>
              have hk1 : kn = 8 := HPK.out.symm
              have hj0 : (0 : Int) < kn := by omega
              have hjz : 0 < kn := by omega
              have hj1 : (1 : Int) < kn := by omega
              have hj2 : (2 : Int) < kn := by omega
              have hj3 : (3 : Int) < kn := by omega
              have hj4 : (4 : Int) < kn := by omega
              have hj5 : (5 : Int) < kn := by omega
              have hj6 : (6 : Int) < kn := by omega
              have hj7 : (7 : Int) < kn := by omega
              obtain ⟨c0, u0⟩ := hcell2 0 (by omega)
              obtain ⟨y0, hy0⟩ : ∃ y0, y0 = gv 0 := ⟨_, rfl⟩
              rw [← hy0] at c0 u0
              have v0 : IntKind.i64.wrap (y0 : Int) = (y0 : Int) := IntWalk.i64_in _ (by omega)
              obtain ⟨c1, u1⟩ := hcell2 1 (by omega)
              obtain ⟨y1, hy1⟩ : ∃ y1, y1 = gv 1 := ⟨_, rfl⟩
              rw [← hy1] at c1 u1
              have v1 : IntKind.i64.wrap (y1 : Int) = (y1 : Int) := IntWalk.i64_in _ (by omega)
              obtain ⟨c2, u2⟩ := hcell2 2 (by omega)
              obtain ⟨y2, hy2⟩ : ∃ y2, y2 = gv 2 := ⟨_, rfl⟩
              rw [← hy2] at c2 u2
              have v2 : IntKind.i64.wrap (y2 : Int) = (y2 : Int) := IntWalk.i64_in _ (by omega)
              obtain ⟨c3, u3⟩ := hcell2 3 (by omega)
              obtain ⟨y3, hy3⟩ : ∃ y3, y3 = gv 3 := ⟨_, rfl⟩
              rw [← hy3] at c3 u3
              have v3 : IntKind.i64.wrap (y3 : Int) = (y3 : Int) := IntWalk.i64_in _ (by omega)
              obtain ⟨c4, u4⟩ := hcell2 4 (by omega)
              obtain ⟨y4, hy4⟩ : ∃ y4, y4 = gv 4 := ⟨_, rfl⟩
              rw [← hy4] at c4 u4
              have v4 : IntKind.i64.wrap (y4 : Int) = (y4 : Int) := IntWalk.i64_in _ (by omega)
              obtain ⟨c5, u5⟩ := hcell2 5 (by omega)
              obtain ⟨y5, hy5⟩ : ∃ y5, y5 = gv 5 := ⟨_, rfl⟩
              rw [← hy5] at c5 u5
              have v5 : IntKind.i64.wrap (y5 : Int) = (y5 : Int) := IntWalk.i64_in _ (by omega)
              obtain ⟨c6, u6⟩ := hcell2 6 (by omega)
              obtain ⟨y6, hy6⟩ : ∃ y6, y6 = gv 6 := ⟨_, rfl⟩
              rw [← hy6] at c6 u6
              have v6 : IntKind.i64.wrap (y6 : Int) = (y6 : Int) := IntWalk.i64_in _ (by omega)
              obtain ⟨c7, u7⟩ := hcell2 7 (by omega)
              obtain ⟨y7, hy7⟩ : ∃ y7, y7 = gv 7 := ⟨_, rfl⟩
              rw [← hy7] at c7 u7
              have v7 : IntKind.i64.wrap (y7 : Int) = (y7 : Int) := IntWalk.i64_in _ (by omega)
              rw [Nat.add_zero] at c0
              clear hk1
              obtain ⟨D0, hD0⟩ : ∃ D0, D0 = y0 * 256 + y1 := ⟨_, rfl⟩
              have s0a : IntKind.i64.wrap ((y0 : Int) * 256) = (y0 : Int) * 256 := IntWalk.i64_in _ (by omega)
              have m0 : bits BinOp.or IntKind.i64 ((y0 : Int) * 256) (y1 : Int) = (D0 : Int) := by rw [or16 _ _ (by omega) (by omega), hD0]
              obtain ⟨D1, hD1⟩ : ∃ D1, D1 = y2 * 256 + y3 := ⟨_, rfl⟩
              have s1a : IntKind.i64.wrap ((y2 : Int) * 256) = (y2 : Int) * 256 := IntWalk.i64_in _ (by omega)
              have m1 : bits BinOp.or IntKind.i64 ((y2 : Int) * 256) (y3 : Int) = (D1 : Int) := by rw [or16 _ _ (by omega) (by omega), hD1]
              obtain ⟨D2, hD2⟩ : ∃ D2, D2 = y4 * 256 + y5 := ⟨_, rfl⟩
              have s2a : IntKind.i64.wrap ((y4 : Int) * 256) = (y4 : Int) * 256 := IntWalk.i64_in _ (by omega)
              have m2 : bits BinOp.or IntKind.i64 ((y4 : Int) * 256) (y5 : Int) = (D2 : Int) := by rw [or16 _ _ (by omega) (by omega), hD2]
              obtain ⟨D3, hD3⟩ : ∃ D3, D3 = y6 * 256 + y7 := ⟨_, rfl⟩
              have s3a : IntKind.i64.wrap ((y6 : Int) * 256) = (y6 : Int) * 256 := IntWalk.i64_in _ (by omega)
              have m3 : bits BinOp.or IntKind.i64 ((y6 : Int) * 256) (y7 : Int) = (D3 : Int) := by rw [or16 _ _ (by omega) (by omega), hD3]
              have HX := Lib.hid (show dotI R wd depth colour pal (yw + x) = (D0, D1, D2, D3) by
                rw [← HYW.out, dotI_at _ _ _ _ _ _ _ hx, ← H0.out.2.2.2.2.2.2.1 y x hx, ← HG0.out]
                simp [pdot, ← hy0, ← hy1, ← hy2, ← hy3, ← hy4, ← hy5, ← hy6, ← hy7, hD0, hD1, hD2, hD3])
              clear hy0 hy1 hy2 hy3 hy4 hy5 hy6 hy7 hD0 hD1 hD2 hD3 hcell2
              have hs0 : Pd8 wr b (o + q) y0 y1 y2 y3 y4 y5 y6 y7 w1.heap.size u15 (yw + x) (dotsV (dotsUp R wd depth colour pal (yw + x))) wr := ⟨c0, c1, c2, c3, c4, c5, c6, c7, hO, Keep.refl _ _⟩
              have KS := Lib.hid (fun V V' (h : Pd8 wr b (o + q) y0 y1 y2 y3 y4 y5 y6 y7 w1.heap.size u15 (yw + x) (dotsV (dotsUp R wd depth colour pal (yw + x))) V) (hk : Keep Nil2 V V') => pd8_keep h hk)
              have KA := Lib.hid (fun V V' (h : Pd8 wr b (o + q) y0 y1 y2 y3 y4 y5 y6 y7 w1.heap.size u15 (yw + x) (dotsV (dotsUp R wd depth colour pal (yw + x))) V) (hk : Keep (fun k _ => u15.ownBlock = some k) V V') (ho : OwnV 41 4 V' w1.heap.size u15 (yw + x) (dotsV (dotsUp R wd depth colour pal (yw + x)))) => pd8_app h hk ho hbw)
              have KO := Lib.hid (fun V (h : Pd8 wr b (o + q) y0 y1 y2 y3 y4 y5 y6 y7 w1.heap.size u15 (yw + x) (dotsV (dotsUp R wd depth colour pal (yw + x))) V) => h.2.2.2.2.2.2.2.2.1)
              have KH := Lib.hid (fun V (h : Pd8 wr b (o + q) y0 y1 y2 y3 y4 y5 y6 y7 w1.heap.size u15 (yw + x) (dotsV (dotsUp R wd depth colour pal (yw + x))) V) => Nat.le_trans hszr h.2.2.2.2.2.2.2.2.2.size)
              clear hO hK
              go_wp2
              go_region_held3 (fun w' => w'.cell? ⟨b, o + q, none⟩ = some (.int .u8 (y0 : Int)) ∧ w'.cell? ⟨b, o + q + 1, none⟩ = some (.int .u8 (y1 : Int)) ∧ w'.cell? ⟨b, o + q + 2, none⟩ = some (.int .u8 (y2 : Int)) ∧ w'.cell? ⟨b, o + q + 3, none⟩ = some (.int .u8 (y3 : Int)) ∧ w'.cell? ⟨b, o + q + 4, none⟩ = some (.int .u8 (y4 : Int)) ∧ w'.cell? ⟨b, o + q + 5, none⟩ = some (.int .u8 (y5 : Int)) ∧ w'.cell? ⟨b, o + q + 6, none⟩ = some (.int .u8 (y6 : Int)) ∧ w'.cell? ⟨b, o + q + 7, none⟩ = some (.int .u8 (y7 : Int)) ∧ OwnV 41 4 w' w1.heap.size u15 (yw + x) (dotsV (dotsUp R wd depth colour pal (yw + x))) ∧ Keep (fun k _ => u15.ownBlock = some k) wr w')
                (first | assumption | exact KA.out _ _ (by assumption) h2 h3 | exact KS.out _ _ (by assumption) ((Keep.refl Nil2 _).drew) | exact KS.out _ _ (by assumption) ((Keep.refl Nil2 _).alloc _))
                (first | (refine step_append_vals rfl (.tmp 164) (.tmp 206) 31 41 rfl _ 4 32 Tryz.underlying31 info41 rfl (by decide) (by decide) w1.heap.size u15 (yw + x) (dotsV (dotsUp R wd depth colour pal (yw + x))) rfl (KO.out _ (by assumption)) _ _ 1 1 (dotCell (D0, D1, D2, D3)) rfl (cellsDotD _ _ _ _ _) rfl (dotCell_one _) (by omega) (KH.out _ (by assumption)) ?_; intro v' w' h1 h2 h3))
              have hS2 : Pd8 wr b (o + q) y0 y1 y2 y3 y4 y5 y6 y7 w1.heap.size u15 (yw + x) (dotsV (dotsUp R wd depth colour pal (yw + x))) w' := by assumption
              have hof := h1
              have hkf := keep_layV' HOK.out.2 HOK.out.1 hS2.2.2.2.2.2.2.2.2.2
              have HF := Lib.hid (show OwnV 41 4 w' w1.heap.size v' (yw + (x + 1)) (dotsV (dotsUp R wd depth colour pal (yw + (x + 1)))) ∧ Keep Nil2 w1 w' by
                refine ⟨?_, hkf⟩
                rw [show yw + (x + 1) = yw + x + 1 by omega, dotsUp_succ, dotsV_snoc, HX.out]
                exact hof)
              clear h1 h2 h3 hS2 hs0 c0 c1 c2 c3 c4 c5 c6 c7
              clear hof hkf
              go_wp2
              go_roundg (g2 - 1)
              case measure => have := HG2.out; omega
              case rel => exact ⟨x + 1, g2 - 1, rfl, by omega, by go_num, HF.out.1, HF.out.2⟩
          · as_aux_lemma =>
              have hk1 : kn = 4 := HPK.out.symm
              have hj0 : (0 : Int) < kn := by omega
              have hjz : 0 < kn := by omega
              have hj1 : (1 : Int) < kn := by omega
              have hj2 : (2 : Int) < kn := by omega
              have hj3 : (3 : Int) < kn := by omega
              obtain ⟨c0, u0⟩ := hcell2 0 (by omega)
              obtain ⟨y0, hy0⟩ : ∃ y0, y0 = gv 0 := ⟨_, rfl⟩
              rw [← hy0] at c0 u0
              have v0 : IntKind.i64.wrap (y0 : Int) = (y0 : Int) := IntWalk.i64_in _ (by omega)
              obtain ⟨c1, u1⟩ := hcell2 1 (by omega)
              obtain ⟨y1, hy1⟩ : ∃ y1, y1 = gv 1 := ⟨_, rfl⟩
              rw [← hy1] at c1 u1
              have v1 : IntKind.i64.wrap (y1 : Int) = (y1 : Int) := IntWalk.i64_in _ (by omega)
              obtain ⟨c2, u2⟩ := hcell2 2 (by omega)
              obtain ⟨y2, hy2⟩ : ∃ y2, y2 = gv 2 := ⟨_, rfl⟩
              rw [← hy2] at c2 u2
              have v2 : IntKind.i64.wrap (y2 : Int) = (y2 : Int) := IntWalk.i64_in _ (by omega)
              obtain ⟨c3, u3⟩ := hcell2 3 (by omega)
              obtain ⟨y3, hy3⟩ : ∃ y3, y3 = gv 3 := ⟨_, rfl⟩
              rw [← hy3] at c3 u3
              have v3 : IntKind.i64.wrap (y3 : Int) = (y3 : Int) := IntWalk.i64_in _ (by omega)
              rw [Nat.add_zero] at c0
              clear hk1
              obtain ⟨D0, hD0⟩ : ∃ D0, D0 = 257 * y0 := ⟨_, rfl⟩
              have m0 : IntKind.i64.wrap (257 * (y0 : Int)) = (D0 : Int) := by rw [IntWalk.i64_in _ (by omega)]; omega
              obtain ⟨D1, hD1⟩ : ∃ D1, D1 = 257 * y1 := ⟨_, rfl⟩
              have m1 : IntKind.i64.wrap (257 * (y1 : Int)) = (D1 : Int) := by rw [IntWalk.i64_in _ (by omega)]; omega
              obtain ⟨D2, hD2⟩ : ∃ D2, D2 = 257 * y2 := ⟨_, rfl⟩
              have m2 : IntKind.i64.wrap (257 * (y2 : Int)) = (D2 : Int) := by rw [IntWalk.i64_in _ (by omega)]; omega
              obtain ⟨D3, hD3⟩ : ∃ D3, D3 = 257 * y3 := ⟨_, rfl⟩
              have m3 : IntKind.i64.wrap (257 * (y3 : Int)) = (D3 : Int) := by rw [IntWalk.i64_in _ (by omega)]; omega
              have HX := Lib.hid (show dotI R wd depth colour pal (yw + x) = (D0, D1, D2, D3) by
                rw [← HYW.out, dotI_at _ _ _ _ _ _ _ hx, ← H0.out.2.2.2.2.2.2.1 y x hx, ← HG0.out]
                simp [pdot, ← hy0, ← hy1, ← hy2, ← hy3, hD0, hD1, hD2, hD3])
              clear hy0 hy1 hy2 hy3 hD0 hD1 hD2 hD3 hcell2
              have hs0 : Pd4 wr b (o + q) y0 y1 y2 y3 w1.heap.size u15 (yw + x) (dotsV (dotsUp R wd depth colour pal (yw + x))) wr := ⟨c0, c1, c2, c3, hO, Keep.refl _ _⟩
              have KS := Lib.hid (fun V V' (h : Pd4 wr b (o + q) y0 y1 y2 y3 w1.heap.size u15 (yw + x) (dotsV (dotsUp R wd depth colour pal (yw + x))) V) (hk : Keep Nil2 V V') => pd4_keep h hk)
              have KA := Lib.hid (fun V V' (h : Pd4 wr b (o + q) y0 y1 y2 y3 w1.heap.size u15 (yw + x) (dotsV (dotsUp R wd depth colour pal (yw + x))) V) (hk : Keep (fun k _ => u15.ownBlock = some k) V V') (ho : OwnV 41 4 V' w1.heap.size u15 (yw + x) (dotsV (dotsUp R wd depth colour pal (yw + x)))) => pd4_app h hk ho hbw)
              have KO := Lib.hid (fun V (h : Pd4 wr b (o + q) y0 y1 y2 y3 w1.heap.size u15 (yw + x) (dotsV (dotsUp R wd depth colour pal (yw + x))) V) => h.2.2.2.2.1)
              have KH := Lib.hid (fun V (h : Pd4 wr b (o + q) y0 y1 y2 y3 w1.heap.size u15 (yw + x) (dotsV (dotsUp R wd depth colour pal (yw + x))) V) => Nat.le_trans hszr h.2.2.2.2.2.size)
              clear hO hK
              go_wp2
              go_region_held3 (fun w' => w'.cell? ⟨b, o + q, none⟩ = some (.int .u8 (y0 : Int)) ∧ w'.cell? ⟨b, o + q + 1, none⟩ = some (.int .u8 (y1 : Int)) ∧ w'.cell? ⟨b, o + q + 2, none⟩ = some (.int .u8 (y2 : Int)) ∧ w'.cell? ⟨b, o + q + 3, none⟩ = some (.int .u8 (y3 : Int)) ∧ OwnV 41 4 w' w1.heap.size u15 (yw + x) (dotsV (dotsUp R wd depth colour pal (yw + x))) ∧ Keep (fun k _ => u15.ownBlock = some k) wr w')
                (first | assumption | exact KA.out _ _ (by assumption) h2 h3 | exact KS.out _ _ (by assumption) ((Keep.refl Nil2 _).drew) | exact KS.out _ _ (by assumption) ((Keep.refl Nil2 _).alloc _))
                (first | (refine step_append_vals rfl (.tmp 137) (.tmp 159) 31 41 rfl _ 4 32 Tryz.underlying31 info41 rfl (by decide) (by decide) w1.heap.size u15 (yw + x) (dotsV (dotsUp R wd depth colour pal (yw + x))) rfl (KO.out _ (by assumption)) _ _ 1 1 (dotCell (D0, D1, D2, D3)) rfl (cellsDotD _ _ _ _ _) rfl (dotCell_one _) (by omega) (KH.out _ (by assumption)) ?_; intro v' w' h1 h2 h3))
              have hS2 : Pd4 wr b (o + q) y0 y1 y2 y3 w1.heap.size u15 (yw + x) (dotsV (dotsUp R wd depth colour pal (yw + x))) w' := by assumption
              have hof := h1
              have hkf := keep_layV' HOK.out.2 HOK.out.1 hS2.2.2.2.2.2
              have HF := Lib.hid (show OwnV 41 4 w' w1.heap.size v' (yw + (x + 1)) (dotsV (dotsUp R wd depth colour pal (yw + (x + 1)))) ∧ Keep Nil2 w1 w' by
                refine ⟨?_, hkf⟩
                rw [show yw + (x + 1) = yw + x + 1 by omega, dotsUp_succ, dotsV_snoc, HX.out]
                exact hof)
              clear h1 h2 h3 hS2 hs0 c0 c1 c2 c3
              clear hof hkf
              go_wp2
              go_roundg (g2 - 1)
              case measure => have := HG2.out; omega
              case rel => exact ⟨x + 1, g2 - 1, rfl, by omega, by go_num, HF.out.1, HF.out.2⟩
          · as_aux_lemma =>
              have hk1 : kn = 8 := HPK.out.symm
              have hj0 : (0 : Int) < kn := by omega
              have hjz : 0 < kn := by omega
              have hj1 : (1 : Int) < kn := by omega
              have hj2 : (2 : Int) < kn := by omega
              have hj3 : (3 : Int) < kn := by omega
              have hj4 : (4 : Int) < kn := by omega
              have hj5 : (5 : Int) < kn := by omega
              have hj6 : (6 : Int) < kn := by omega
              have hj7 : (7 : Int) < kn := by omega
              obtain ⟨c0, u0⟩ := hcell2 0 (by omega)
              obtain ⟨y0, hy0⟩ : ∃ y0, y0 = gv 0 := ⟨_, rfl⟩
              rw [← hy0] at c0 u0
              have v0 : IntKind.i64.wrap (y0 : Int) = (y0 : Int) := IntWalk.i64_in _ (by omega)
              obtain ⟨c1, u1⟩ := hcell2 1 (by omega)
              obtain ⟨y1, hy1⟩ : ∃ y1, y1 = gv 1 := ⟨_, rfl⟩
              rw [← hy1] at c1 u1
              have v1 : IntKind.i64.wrap (y1 : Int) = (y1 : Int) := IntWalk.i64_in _ (by omega)
              obtain ⟨c2, u2⟩ := hcell2 2 (by omega)
              obtain ⟨y2, hy2⟩ : ∃ y2, y2 = gv 2 := ⟨_, rfl⟩
              rw [← hy2] at c2 u2
              have v2 : IntKind.i64.wrap (y2 : Int) = (y2 : Int) := IntWalk.i64_in _ (by omega)
              obtain ⟨c3, u3⟩ := hcell2 3 (by omega)
              obtain ⟨y3, hy3⟩ : ∃ y3, y3 = gv 3 := ⟨_, rfl⟩
              rw [← hy3] at c3 u3
              have v3 : IntKind.i64.wrap (y3 : Int) = (y3 : Int) := IntWalk.i64_in _ (by omega)
              obtain ⟨c4, u4⟩ := hcell2 4 (by omega)
              obtain ⟨y4, hy4⟩ : ∃ y4, y4 = gv 4 := ⟨_, rfl⟩
              rw [← hy4] at c4 u4
              have v4 : IntKind.i64.wrap (y4 : Int) = (y4 : Int) := IntWalk.i64_in _ (by omega)
              obtain ⟨c5, u5⟩ := hcell2 5 (by omega)
              obtain ⟨y5, hy5⟩ : ∃ y5, y5 = gv 5 := ⟨_, rfl⟩
              rw [← hy5] at c5 u5
              have v5 : IntKind.i64.wrap (y5 : Int) = (y5 : Int) := IntWalk.i64_in _ (by omega)
              obtain ⟨c6, u6⟩ := hcell2 6 (by omega)
              obtain ⟨y6, hy6⟩ : ∃ y6, y6 = gv 6 := ⟨_, rfl⟩
              rw [← hy6] at c6 u6
              have v6 : IntKind.i64.wrap (y6 : Int) = (y6 : Int) := IntWalk.i64_in _ (by omega)
              obtain ⟨c7, u7⟩ := hcell2 7 (by omega)
              obtain ⟨y7, hy7⟩ : ∃ y7, y7 = gv 7 := ⟨_, rfl⟩
              rw [← hy7] at c7 u7
              have v7 : IntKind.i64.wrap (y7 : Int) = (y7 : Int) := IntWalk.i64_in _ (by omega)
              rw [Nat.add_zero] at c0
              clear hk1
              obtain ⟨D0, hD0⟩ : ∃ D0, D0 = y0 * 256 + y1 := ⟨_, rfl⟩
              have s0a : IntKind.i64.wrap ((y0 : Int) * 256) = (y0 : Int) * 256 := IntWalk.i64_in _ (by omega)
              have m0 : bits BinOp.or IntKind.i64 ((y0 : Int) * 256) (y1 : Int) = (D0 : Int) := by rw [or16 _ _ (by omega) (by omega), hD0]
              obtain ⟨D1, hD1⟩ : ∃ D1, D1 = y2 * 256 + y3 := ⟨_, rfl⟩
              have s1a : IntKind.i64.wrap ((y2 : Int) * 256) = (y2 : Int) * 256 := IntWalk.i64_in _ (by omega)
              have m1 : bits BinOp.or IntKind.i64 ((y2 : Int) * 256) (y3 : Int) = (D1 : Int) := by rw [or16 _ _ (by omega) (by omega), hD1]
              obtain ⟨D2, hD2⟩ : ∃ D2, D2 = y4 * 256 + y5 := ⟨_, rfl⟩
              have s2a : IntKind.i64.wrap ((y4 : Int) * 256) = (y4 : Int) * 256 := IntWalk.i64_in _ (by omega)
              have m2 : bits BinOp.or IntKind.i64 ((y4 : Int) * 256) (y5 : Int) = (D2 : Int) := by rw [or16 _ _ (by omega) (by omega), hD2]
              obtain ⟨D3, hD3⟩ : ∃ D3, D3 = y6 * 256 + y7 := ⟨_, rfl⟩
              have s3a : IntKind.i64.wrap ((y6 : Int) * 256) = (y6 : Int) * 256 := IntWalk.i64_in _ (by omega)
              have m3 : bits BinOp.or IntKind.i64 ((y6 : Int) * 256) (y7 : Int) = (D3 : Int) := by rw [or16 _ _ (by omega) (by omega), hD3]
              have HX := Lib.hid (show dotI R wd depth colour pal (yw + x) = (D0, D1, D2, D3) by
                rw [← HYW.out, dotI_at _ _ _ _ _ _ _ hx, ← H0.out.2.2.2.2.2.2.1 y x hx, ← HG0.out]
                simp [pdot, ← hy0, ← hy1, ← hy2, ← hy3, ← hy4, ← hy5, ← hy6, ← hy7, hD0, hD1, hD2, hD3])
              clear hy0 hy1 hy2 hy3 hy4 hy5 hy6 hy7 hD0 hD1 hD2 hD3 hcell2
              have hs0 : Pd8 wr b (o + q) y0 y1 y2 y3 y4 y5 y6 y7 w1.heap.size u15 (yw + x) (dotsV (dotsUp R wd depth colour pal (yw + x))) wr := ⟨c0, c1, c2, c3, c4, c5, c6, c7, hO, Keep.refl _ _⟩
              have KS := Lib.hid (fun V V' (h : Pd8 wr b (o + q) y0 y1 y2 y3 y4 y5 y6 y7 w1.heap.size u15 (yw + x) (dotsV (dotsUp R wd depth colour pal (yw + x))) V) (hk : Keep Nil2 V V') => pd8_keep h hk)
              have KA := Lib.hid (fun V V' (h : Pd8 wr b (o + q) y0 y1 y2 y3 y4 y5 y6 y7 w1.heap.size u15 (yw + x) (dotsV (dotsUp R wd depth colour pal (yw + x))) V) (hk : Keep (fun k _ => u15.ownBlock = some k) V V') (ho : OwnV 41 4 V' w1.heap.size u15 (yw + x) (dotsV (dotsUp R wd depth colour pal (yw + x)))) => pd8_app h hk ho hbw)
              have KO := Lib.hid (fun V (h : Pd8 wr b (o + q) y0 y1 y2 y3 y4 y5 y6 y7 w1.heap.size u15 (yw + x) (dotsV (dotsUp R wd depth colour pal (yw + x))) V) => h.2.2.2.2.2.2.2.2.1)
              have KH := Lib.hid (fun V (h : Pd8 wr b (o + q) y0 y1 y2 y3 y4 y5 y6 y7 w1.heap.size u15 (yw + x) (dotsV (dotsUp R wd depth colour pal (yw + x))) V) => Nat.le_trans hszr h.2.2.2.2.2.2.2.2.2.size)
              clear hO hK
              go_wp2
              go_region_held3 (fun w' => w'.cell? ⟨b, o + q, none⟩ = some (.int .u8 (y0 : Int)) ∧ w'.cell? ⟨b, o + q + 1, none⟩ = some (.int .u8 (y1 : Int)) ∧ w'.cell? ⟨b, o + q + 2, none⟩ = some (.int .u8 (y2 : Int)) ∧ w'.cell? ⟨b, o + q + 3, none⟩ = some (.int .u8 (y3 : Int)) ∧ w'.cell? ⟨b, o + q + 4, none⟩ = some (.int .u8 (y4 : Int)) ∧ w'.cell? ⟨b, o + q + 5, none⟩ = some (.int .u8 (y5 : Int)) ∧ w'.cell? ⟨b, o + q + 6, none⟩ = some (.int .u8 (y6 : Int)) ∧ w'.cell? ⟨b, o + q + 7, none⟩ = some (.int .u8 (y7 : Int)) ∧ OwnV 41 4 w' w1.heap.size u15 (yw + x) (dotsV (dotsUp R wd depth colour pal (yw + x))) ∧ Keep (fun k _ => u15.ownBlock = some k) wr w')
                (first | assumption | exact KA.out _ _ (by assumption) h2 h3 | exact KS.out _ _ (by assumption) ((Keep.refl Nil2 _).drew) | exact KS.out _ _ (by assumption) ((Keep.refl Nil2 _).alloc _))
                (first | (refine step_append_vals rfl (.tmp 164) (.tmp 206) 31 41 rfl _ 4 32 Tryz.underlying31 info41 rfl (by decide) (by decide) w1.heap.size u15 (yw + x) (dotsV (dotsUp R wd depth colour pal (yw + x))) rfl (KO.out _ (by assumption)) _ _ 1 1 (dotCell (D0, D1, D2, D3)) rfl (cellsDotD _ _ _ _ _) rfl (dotCell_one _) (by omega) (KH.out _ (by assumption)) ?_; intro v' w' h1 h2 h3))
              have hS2 : Pd8 wr b (o + q) y0 y1 y2 y3 y4 y5 y6 y7 w1.heap.size u15 (yw + x) (dotsV (dotsUp R wd depth colour pal (yw + x))) w' := by assumption
              have hof := h1
              have hkf := keep_layV' HOK.out.2 HOK.out.1 hS2.2.2.2.2.2.2.2.2.2
              have HF := Lib.hid (show OwnV 41 4 w' w1.heap.size v' (yw + (x + 1)) (dotsV (dotsUp R wd depth colour pal (yw + (x + 1)))) ∧ Keep Nil2 w1 w' by
                refine ⟨?_, hkf⟩
                rw [show yw + (x + 1) = yw + x + 1 by omega, dotsUp_succ, dotsV_snoc, HX.out]
                exact hof)
              clear h1 h2 h3 hS2 hs0 c0 c1 c2 c3 c4 c5 c6 c7
              clear hof hkf
              go_wp2
              go_roundg (g2 - 1)
              case measure => have := HG2.out; omega
              case rel => exact ⟨x + 1, g2 - 1, rfl, by omega, by go_num, HF.out.1, HF.out.2⟩
          · as_aux_lemma =>
              have hk1 : kn = 1 := HPK.out.symm
              have hj0 : (0 : Int) < kn := by omega
              have hjz : 0 < kn := by omega
              obtain ⟨c0, u0⟩ := hcell2 0 (by omega)
              obtain ⟨y0, hy0⟩ : ∃ y0, y0 = gv 0 := ⟨_, rfl⟩
              rw [← hy0] at c0 u0
              have v0 : IntKind.i64.wrap (y0 : Int) = (y0 : Int) := IntWalk.i64_in _ (by omega)
              rw [Nat.add_zero] at c0
              clear hk1
              have hc3 : colour = 3 := (kKind_7 H0.out.2.1).1 H0.out.2.2.2.1.symm
              have hy0p : y0 < pal.length := by
                have h1 := H0.out.1.pal hc3 y x hy hx
                have hkn1 : kn = 1 := HPK.out.symm
                have h2 : y0 = smp R (rowB wd depth colour) depth y x := by
                  rw [hy0, HG0.out]
                  simp only [kG, hc3, hkn1, Nat.one_mul, Nat.add_zero]
                  rfl
                omega
              obtain ⟨np, hnp⟩ : ∃ np, np = pal.length := ⟨_, rfl⟩
              obtain ⟨dd, hdd⟩ : ∃ dd, dd = palDot (pal.getD y0 (0, 0, 0, 0)) := ⟨_, rfl⟩
              obtain ⟨plb, plo, pc, hpv, hpl⟩ := HPV.out hc3
              obtain ⟨t0, t1, t2, t3⟩ := (hpl.keep hK fun _ _ e => e).dot y0 dd (by rw [List.getElem?_map, List.getElem?_eq_getElem hy0p, hdd, List.getD_eq_getElem?_getD, List.getElem?_eq_getElem hy0p]; rfl)
              have HX := Lib.hid (show dotI R wd depth colour pal (yw + x) = dd by
                rw [← HYW.out, dotI_at _ _ _ _ _ _ _ hx, ← H0.out.2.2.2.2.2.2.1 y x hx, ← HG0.out]
                simp [pdot, ← hy0, hdd])
              rw [← hnp] at hpv hy0p
              have n1 : ¬ np ≤ y0 := by omega
              have n2 : (y0 : Int) < np := by omega
              subst hpv
              clear hy0 hcell2 hnp hdd hpl hO hK hc3
              go_wp2_with (at_builtin; refine goalStop ?_)
              refine ⟨?_⟩
              refine wpList_append_vals rfl (.tmp 92) (.tmp 99) 31 41 rfl _ 4 32 Tryz.underlying31 info41 rfl (by decide) (by decide) w1.heap.size u15 (yw + x) (dotsV (dotsUp R wd depth colour pal (yw + x))) rfl (HOK.out.1.alloc _) _ 1 (dotCell dd) rfl (SrcV.litAt' _ _ 41 1 _ rfl (by simp)) rfl (dotCell_one _) (by omega) (by have := HOK.out.2.size; simp; omega) ?_
              intro v4 w4 hof hk4 hv4
              have hkf := keep_layV' (HOK.out.2.alloc _) (HOK.out.1.alloc _) hk4
              have HF := Lib.hid (show OwnV 41 4 w4 w1.heap.size v4 (yw + (x + 1)) (dotsV (dotsUp R wd depth colour pal (yw + (x + 1)))) ∧ Keep Nil2 w1 w4 by
                refine ⟨?_, hkf⟩
                rw [show yw + (x + 1) = yw + x + 1 by omega, dotsUp_succ, dotsV_snoc, HX.out]
                exact hof)
              clear hk4 hv4
              clear hof hkf
              go_wp2
              go_roundg (g2 - 1)
              case measure => have := HG2.out; omega
              case rel => exact ⟨x + 1, g2 - 1, rfl, by omega, by go_num, HF.out.1, HF.out.2⟩
        · obtain rfl : x = wd := by omega
          have d2 : decide ((x : Int) < (x : Int)) = false := by simp
          have HO2 := Lib.hid (And.intro hO hK)
          clear hO hK
          go_wp2
          go_roundg (g - 1)
          case measure => have := HG.out; omega
          case rel => exact ⟨y + 1, g - 1, yw + x, rfl, by omega, by go_num, by rw [Nat.add_mul, Nat.one_mul, HYW.out], HO2.out.1, HO2.out.2⟩
    · obtain rfl : y = ht := by omega
      have d1 : decide ((y : Int) < (y : Int)) = false := by simp
      have HO := Lib.hid (show OwnV 41 4 wr w1.heap.size u15 (y * wd) (dotsV (dotsUp R wd depth colour pal (y * wd))) ∧ Keep Nil2 w1 wr by rw [hyw]; exact ⟨hO, hK⟩)
      clear hG hyw hO hK hyw2
      go_wp2
      go_ret2
      exact ⟨_, rfl, HO.out.1, HO.out.2⟩
end Go.Proofs.YtnbbppjgamdfeaaGreatDoor
end
