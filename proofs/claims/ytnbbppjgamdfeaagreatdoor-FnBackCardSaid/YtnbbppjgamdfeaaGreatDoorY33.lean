/- laws.FnBack, part 33 of 54: V0 V1 V2. -/
import Derived.Test.YtnbbppjgamdfeaaGreatDoorY05
import Derived.Test.YtnbbppjgamdfeaaGreatDoorY06
import Derived.Test.YtnbbppjgamdfeaaGreatDoorY15

/- The reference's bits: one, many. -/
section
set_option linter.unusedVariables false
set_option linter.unusedSimpArgs false
namespace Go.Proofs.YtnbbppjgamdfeaaGreatDoor
open Go Go.RowKit

/-- The reader of bits at block xb, over the bytes l, at bit i. -/
structure BitsAt (w : World) (xb b o c : Nat) (l : List UInt8) (i : Nat) : Prop where
  x0 : w.cell? ⟨xb, 0, none⟩ = some (.slice (some ⟨b, o, none⟩) l.length c)
  x1 : w.cell? ⟨xb, 1, none⟩ = some (.int .i64 (i : Int))
  fz : ∀ j, w.frozen? ⟨xb, j, none⟩ = false
  data : BytesAt w b o l
  ne : b ≠ xb
  len : l.length ≤ 1048576
theorem BitsAt.keep {F : Nat → Nat → Prop} {w w' : World} {xb b o c i : Nat} {l : List UInt8} (h : BitsAt w xb b o c l i) (hk : Keep F w w') (h1 : ∀ y, ¬ F xb y) (h2 : ∀ y, ¬ F b y) : BitsAt w' xb b o c l i :=
  ⟨hk.get h.x0 (h1 _), hk.get h.x1 (h1 _), fun j => hk.froz (World.block_lt_of_cell? w _ h.x0) (h.fz j) (h1 j), h.data.keep hk fun _ _ => h2 _, h.ne, h.len⟩
theorem BitsAt.keep0 {w w' : World} {xb b o c i : Nat} {l : List UInt8} (h : BitsAt w xb b o c l i) (hk : Keep Nil2 w w') : BitsAt w' xb b o c l i := h.keep hk (fun _ e => e) (fun _ e => e)
theorem BitsAt.set {w : World} {xb b o c i : Nat} {l : List UInt8} (h : BitsAt w xb b o c l i) (j : Nat) : BitsAt (w.setCell ⟨xb, 1, none⟩ (.int .i64 (j : Int))) xb b o c l j :=
  ⟨setF h.x0 (by decide), World.cell?_setCell_same _ _ _ h.x1, fun k => by rw [World.frozen?_setCell]; exact h.fz k, h.data.keep (keep_setCell _ _ _ _) fun _ _ e => h.ne e.1, h.ne, h.len⟩

theorem i64_and_nat (a b : Nat) (ha : a < 4294967296) (hb : b < 4294967296) : bits .and .i64 (a : Int) (b : Int) = ((a &&& b : Nat) : Int) := by
  show IntKind.i64.wrap ((BitVec.ofInt 64 (a : Int) &&& BitVec.ofInt 64 (b : Int)).toNat : Int) = _
  have hab : a &&& b < 4294967296 := Nat.lt_of_le_of_lt Nat.and_le_left ha
  rw [BitVec.toNat_and, ofInt_u64 a (by omega), ofInt_u64 b (by omega)]
  exact IntWalk.i64_in _ (by omega)
theorem bit_eq (v k : Nat) (hv : v < 256) (hk : k < 8) : bits BinOp.and IntKind.i64 ((v / 2 ^ k : Nat) : Int) 1 = ((v / 2 ^ k % 2 : Nat) : Int) := by
  have h1 : v / 2 ^ k ≤ v := Nat.div_le_self _ _
  rw [show (1 : Int) = ((1 : Nat) : Int) from rfl, i64_and_nat _ _ (by omega) (by omega), Nat.and_one_is_mod]

set_option maxHeartbeats 2000000 in
set_option maxRecDepth 100000 in
theorem bitsOne {w : World} {xb b o c i : Nat} {l : List UInt8} (h : BitsAt w xb b o c l i) (hi : i < 8 * l.length) :
    Calls Tryz.prog 69 #[.pointer (some ⟨xb, 0, none⟩)] w fun e w' => e = .returned (.int .i64 (bitAt l i : Int)) ∧ BitsAt w' xb b o c l (i + 1) ∧ Keep (fun x _ => x = xb) w w' := by
  have x0 := h.x0
  have x1 := h.x1
  have fz := h.fz
  have hlen := h.len
  have hne := h.ne
  have hne2 : xb ≠ b := fun e => hne e.symm
  obtain ⟨n, hn⟩ : ∃ n, n = l.length := ⟨_, rfl⟩
  obtain ⟨k, hk⟩ : ∃ k, k = i / 8 := ⟨_, rfl⟩
  obtain ⟨m, hm⟩ : ∃ m, m = i % 8 := ⟨_, rfl⟩
  have hkn : k < l.length := by omega
  have ck := h.data k hkn
  have hu := u8_lt l[k]
  have hbit : bitAt l i = l[k].toNat / 2 ^ m % 2 := by
    unfold bitAt
    rw [← hk, ← hm, List.getD_eq_getElem?_getD, List.getElem?_eq_getElem hkn]
    rfl
  have hm8 : m < 8 := by omega
  have hm64 : min m 64 = m := by omega
  have hand := bit_eq l[k].toNat m hu hm8
  generalize l[k].toNat = u at ck hu hbit hand
  rw [← hn] at x0 hi hlen hkn
  have e1 : (i : Int) / 8 = (k : Int) := by omega
  have e2 : IntKind.i64.wrap ((i : Int) + 1) = ((i + 1 : Nat) : Int) := by rw [IntWalk.i64_in _ (by omega)]; omega
  have e3 : decide ((n : Int) ≤ (k : Int)) = false := by simp; omega
  have e4 : (k : Int) < n := by omega
  have e5 : IntKind.i64.wrap (((i + 1 : Nat) : Int) - 1) = (i : Int) := by rw [IntWalk.i64_in _ (by omega)]; omega
  have e6 : (i : Int) % 8 = (m : Int) := by omega
  obtain ⟨q, hq⟩ : ∃ q, q = u / 2 ^ m := ⟨_, rfl⟩
  have e7 : (u : Int) / 2 ^ m = (q : Int) := by rw [hq]; simp
  rw [← hq] at hand hbit
  obtain ⟨z, hz⟩ : ∃ z, z = q % 2 := ⟨_, rfl⟩
  rw [← hz] at hand hbit
  clear hq hz
  have e8 : IntKind.i64.wrap (i : Int) = (i : Int) := IntWalk.i64_in _ (by omega)
  have e9 : Int.tmod (i : Int) 8 = (m : Int) := by rw [Int.tmod_eq_emod_of_nonneg (by omega)]; omega
  have e10 : IntKind.i64.wrap (u : Int) = (u : Int) := IntWalk.i64_in _ (by omega)
  have e11 : IntKind.i64.wrap (m : Int) = (m : Int) := IntWalk.i64_in _ (by omega)
  have H := Lib.hid (And.intro h (And.intro hbit hn))
  clear hn hk hm hbit h
  go_enter Tryz.func69, Tryz.ntmps69
  go_wp2
  go_region
  go_wp2
  go_ret
  have HB := H.out.1.set (i + 1)
  have hd : Keep Nil2 (w.setCell ⟨xb, 1, none⟩ (.int .i64 ((i + 1 : Nat) : Int))) (w.setCell ⟨xb, 1, none⟩ (.int .i64 ((i + 1 : Nat) : Int))).drew := (Keep.refl Nil2 _).drew
  exact ⟨by rw [H.out.2.1]; rfl, HB.keep0 hd, ((keep_setCell w xb 1 (.int .i64 ((i + 1 : Nat) : Int))).mono fun _ _ _ e => e.1).drew⟩

set_option maxHeartbeats 2000000 in
set_option maxRecDepth 100000 in
theorem bitsMany {w : World} {xb b o c i n : Nat} {l : List UInt8} (h : BitsAt w xb b o c l i) (hi : i + n ≤ 8 * l.length) (hn : n ≤ 16) :
    Calls Tryz.prog 70 #[.pointer (some ⟨xb, 0, none⟩), .int .i64 (n : Int)] w fun e w' => e = .returned (.int .i64 (manyB l i n : Int)) ∧ BitsAt w' xb b o c l (i + n) ∧ Keep (fun x _ => x = xb) w w' := by
  have H := Lib.hid h
  clear h
  go_enter Tryz.func70, Tryz.ntmps70
  go_wp2
  go_loopg [5, 6, 8] n (fun G v5 v6 v8 wr => ∃ k g, g = G ∧ k + g = n ∧ v8 = .int .i64 (k : Int) ∧ v5 = .int .i64 ((manyB l i k : Nat) : Int) ∧ BitsAt wr xb b o c l (i + k) ∧ Keep (fun x _ => x = xb) w wr)
  case atStart => exact ⟨0, n, rfl, by omega, rfl, rfl, H.out, Keep.refl _ _⟩
  case round =>
    obtain ⟨k, g, hG, hkg, rfl, rfl, hB, hK⟩ := hrel
    have HG := Lib.hid hG
    have HB := Lib.hid (And.intro hB hK)
    clear hG hB hK
    by_cases hk : k < n
    · have d1 : decide ((k : Int) < (n : Int)) = true := by simp; omega
      have hs : manyB l i (k + 1) = manyB l i k + bitAt l (i + k) * 2 ^ k := rfl
      have hlt := manyB_lt l i k
      have hb := bitAt_lt l (i + k)
      have hone := bitsOne HB.out.1 (by omega)
      have hp : 2 ^ k ≤ 2 ^ 15 := Nat.pow_le_pow_right (by omega) (by omega)
      generalize bitAt l (i + k) = z at hs hb hone
      generalize manyB l i k = v at hs hlt
      obtain ⟨y, hy⟩ : ∃ y, y = z * 2 ^ k := ⟨_, rfl⟩
      have hy2 : y ≤ 32768 := by
        have : z * 2 ^ k ≤ 1 * 2 ^ k := Nat.mul_le_mul_right _ (by omega)
        omega
      have e1 : (z : Int) * 2 ^ k = (y : Int) := by rw [hy]; simp
      have e2 : IntKind.i64.wrap (y : Int) = (y : Int) := IntWalk.i64_in _ (by omega)
      have hk64 : min k 64 = k := by omega
      have e3 : bits BinOp.or IntKind.i64 (v : Int) (y : Int) = ((v + y : Nat) : Int) := by
        rw [i64_or_nat _ _ (by omega) (by omega), Nat.or_comm, or_add _ _ k (by rw [hy]; exact Nat.mul_mod_left _ _) hlt, Nat.add_comm]
      rw [← hy] at hs
      have HS := Lib.hid hs
      have HO := Lib.hid hone
      clear hs hone hy hp hlt
      go_wp2_with (go_at_call 69; fail)
      refine HO.out.mono ?_
      rintro e w2 ⟨rfl, h2, hk2⟩
      have HF := Lib.hid (And.intro h2 (HB.out.2.trans hk2))
      clear h2 hk2
      go_wp2
      go_roundg (g - 1)
      case measure => have := HG.out; omega
      case rel => exact ⟨k + 1, g - 1, rfl, by omega, by go_num, by rw [HS.out]; first | rfl | go_num, HF.out.1, HF.out.2⟩
    · obtain rfl : k = n := by omega
      have d1 : decide ((k : Int) < (k : Int)) = false := by simp
      go_wp2
      go_ret
      exact ⟨rfl, HB.out.1, HB.out.2⟩
end Go.Proofs.YtnbbppjgamdfeaaGreatDoor
end

/- The reference's bits: short; stored. -/
section
set_option linter.unusedVariables false
set_option linter.unusedSimpArgs false
namespace Go.Proofs.YtnbbppjgamdfeaaGreatDoor
open Go Go.RowKit

/-- The walk stands still here. -/
structure Stopped (p : Prop) : Prop where
  out : p
theorem goalStop {p : Prop} (h : Stopped p) : p := h.out

set_option maxHeartbeats 1000000 in
set_option maxRecDepth 100000 in
theorem bitsShort {w : World} {xb b o c i : Nat} {l : List UInt8} (h : BitsAt w xb b o c l i) (hi : i ≤ 8 * l.length) :
    Calls Tryz.prog 85 #[.pointer (some ⟨xb, 0, none⟩)] w fun e w' => e = .returned (.bool false) ∧ ∃ q, w' = w.drewN q := by
  have x0 := h.x0
  have x1 := h.x1
  have hlen := h.len
  obtain ⟨n, hn⟩ : ∃ n, n = l.length := ⟨_, rfl⟩
  rw [← hn] at x0 hlen hi
  have e1 : IntKind.i64.wrap (8 * (n : Int)) = ((8 * n : Nat) : Int) := by rw [IntWalk.i64_in _ (by omega)]; omega
  have e2 : decide (8 * (n : Int) < (i : Int)) = false := by simp; omega
  clear hn h
  go_enter Tryz.func85, Tryz.ntmps85
  go_wp2
  go_quiet (fail)
  go_wp2
  go_ret
  exact ⟨rfl, _, rfl⟩

set_option maxHeartbeats 2000000 in
set_option maxRecDepth 100000 in
theorem specStored {w : World} {xb b o c i j base : Nat} {l R r0 : List UInt8} {ov : Value} (h : BitsAt w xb b o c l i) (hj : (i + 7) / 8 = j) (hle : j + 4 + R.length ≤ l.length) (hlc : l.length ≤ c) (hRl : 0 < R.length ∧ R.length ≤ 65535)
    (hn1 : (l.getD j 0).toNat + (l.getD (j + 1) 0).toNat * 256 = R.length) (hn2 : (l.getD (j + 2) 0).toNat + (l.getD (j + 3) 0).toNat * 256 = 65535 - R.length) (hR : (l.drop (j + 4)).take R.length = R)
    (hO : OwnB w base ov r0) (hr0 : r0.length ≤ 65536) (hbase : base ≤ w.heap.size) (hxb : xb < base) (hbb : b < base) :
    Calls Tryz.prog 71 #[.pointer (some ⟨xb, 0, none⟩), ov] w fun e w' => ∃ v, e = .returned (.tuple #[v, .int .i64 0]) ∧ OwnB w' base v (r0 ++ R) ∧ BitsAt w' xb b o c l (8 * (j + 4 + R.length)) ∧ Keep (fun x _ => x = xb ∨ base ≤ x) w w' := by
  have x0 := h.x0
  have x1 := h.x1
  have fz := h.fz
  have hlen := h.len
  obtain ⟨n, hn⟩ : ∃ n, n = R.length := ⟨_, rfl⟩
  obtain ⟨L, hL⟩ : ∃ L, L = l.length := ⟨_, rfl⟩
  rw [← hn] at hn1 hn2 hle hRl
  rw [← hL] at hle hlen x0 hlc
  have e1 : IntKind.i64.wrap ((i : Int) + 7) = ((i + 7 : Nat) : Int) := by rw [IntWalk.i64_in _ (by omega)]; omega
  have e2 : ((i : Int) + 7) / 8 = (j : Int) := by omega
  have e3 : IntKind.i64.wrap (8 * (j : Int)) = ((8 * j : Nat) : Int) := by rw [IntWalk.i64_in _ (by omega)]; omega
  have H := Lib.hid (And.intro h (And.intro hO (And.intro hn (And.intro hL hR))))
  have H2 := Lib.hid (And.intro hj (And.intro hn1 hn2))
  clear h hO hn hL hj hn1 hn2 hR
  go_enter Tryz.func71, Tryz.ntmps71
  go_wp2_with (go_at_call 70; fail)
  rw [e2]
  have h1 := H.out.1.set (8 * j)
  have hm1 : manyB l (8 * j) 16 = n := by rw [manyB16]; exact H2.out.2.1
  have hm2 : manyB l (8 * j + 16) 16 = 65535 - n := by rw [show 8 * j + 16 = 8 * (j + 2) by omega, manyB16]; exact H2.out.2.2
  have hL8 : 8 * j + 32 ≤ 8 * l.length := by have := H.out.2.2.2.1; omega
  have HM := Lib.hid (And.intro hm1 (And.intro hm2 hL8))
  have HK1 := Lib.hid (keep_setCell w xb 1 (.int .i64 ((8 * j : Nat) : Int)))
  refine (bitsMany (n := 16) h1 (by omega) (by omega)).mono ?_
  rintro e w2 ⟨rfl, h2, hk2⟩
  rw [hm1]
  have HW2 := Lib.hid (And.intro h2 ((HK1.out.mono fun _ _ _ e => e.1).trans hk2))
  clear h1 h2 hk2 hm1 hm2 hL8 x0 x1 fz e1 e2 e3
  go_wp2_with (go_at_call 70; fail)
  refine (bitsMany (n := 16) HW2.out.1 (by have := HM.out.2.2; omega) (by omega)).mono ?_
  rintro e w3 ⟨rfl, h3, hk3⟩
  rw [HM.out.2.1]
  have HW3 := Lib.hid (And.intro h3 (HW2.out.2.trans hk3))
  clear h3 hk3
  go_wp2_with (go_at_call 85; fail)
  refine (bitsShort HW3.out.1 (by have := HM.out.2.2; omega)).mono ?_
  rintro e w4 ⟨rfl, q4, hw4⟩
  have HW4 := Lib.hid (show BitsAt w4 xb b o c l (8 * j + 16 + 16) ∧ Keep (fun x _ => x = xb) w w4 by
    rw [hw4]; exact ⟨HW3.out.1.keep0 ((Keep.refl Nil2 w3).drewN q4), HW3.out.2.drewN q4⟩)
  have x0 := HW4.out.1.x0
  have x1 := HW4.out.1.x1
  have fz := HW4.out.1.fz
  rw [← H.out.2.2.2.1] at x0
  clear hw4
  have f1 : (n : Int) + ((65535 - n : Nat) : Int) = 65535 := by omega
  have f2 : IntKind.i64.wrap ((n : Int) + ((65535 - n : Nat) : Int)) = 65535 := by rw [f1]; rfl
  have f3 : IntKind.i64.wrap ((j : Int) + 4) = ((j + 4 : Nat) : Int) := by rw [IntWalk.i64_in _ (by omega)]; omega
  have f4 : IntKind.i64.wrap (((j + 4 : Nat) : Int) + (n : Int)) = ((j + 4 + n : Nat) : Int) := by rw [IntWalk.i64_in _ (by omega)]; omega
  have f5 : decide ((L : Int) < (j : Int) + 4 + (n : Int)) = false := by simp; omega
  have f6 : ¬ c = j + 4 := by omega
  have f7 : (j : Int) + 4 + (n : Int) ≤ c := by omega
  have f8 : IntKind.i64.wrap (8 * (n : Int)) = 8 * (n : Int) := IntWalk.i64_in _ (by omega)
  go_wp2_with (at_builtin; refine goalStop ?_)
  refine ⟨?_⟩
  rw [show (8 * (j : Int) + 16 + 16 + 8 * (n : Int)) = ((8 * (j + 4 + n) : Nat) : Int) by omega]
  have HB5 := Lib.hid (And.intro (HW4.out.1.set (8 * (j + 4 + n))) (HW4.out.2.setCell (o := 1) (.int .i64 ((8 * (j + 4 + n) : Nat) : Int)) fun _ => rfl))
  have HO5 := Lib.hid (H.out.2.1.keep HB5.out.2 fun k _ hk e => by omega)
  have hbs : base ≤ (w4.setCell ⟨xb, 1, none⟩ (.int .i64 ((8 * (j + 4 + n) : Nat) : Int))).heap.size := Nat.le_trans hbase HB5.out.2.size
  have hsrc : BytesAt (w4.setCell ⟨xb, 1, none⟩ (.int .i64 ((8 * (j + 4 + n) : Nat) : Int))) b (o + (j + 4)) R := by
    have h1 := (HB5.out.1.data.drop (j + 4)).take R.length
    rwa [H.out.2.2.2.2] at h1
  refine wpList_append_bytes rfl (.tmp 54) (.tmp 65) rfl base ov r0 rfl HO5.out _ R rfl (Src.of (by have := H.out.2.2.1; omega) hsrc) (by have := H.out.2.2.1; omega) hbs ?_
  intro v6 w6 h6 hk6 hv6
  have hge := fun k e => (HO5.out.block_ge k e).1
  have HF := Lib.hid (And.intro h6 (And.intro (HB5.out.1.keep hk6 (fun _ e => by have := hge _ e; omega) (fun _ e => by have := hge _ e; omega)) (HB5.out.2.then (F := fun x _ => x = xb ∨ base ≤ x) hk6 (fun _ _ _ e => .inl e) fun k _ _ e => .inr (hge k e))))
  clear h6 hk6 hv6 hge hsrc
  go_wp2
  go_ret2
  refine ⟨v6, rfl, HF.out.1, ?_, HF.out.2.2⟩
  rw [← H.out.2.2.1]
  exact HF.out.2.1
end Go.Proofs.YtnbbppjgamdfeaaGreatDoor
end

/- The reference's prefix.read where the word is seven noughts. -/
section
set_option linter.unusedVariables false
set_option linter.unusedSimpArgs false
namespace Go.Proofs.YtnbbppjgamdfeaaGreatDoor
open Go Go.RowKit

/-- What is asked of the code of literals: no words of fewer than seven bits, and the first word of seven bits is 256. -/
structure LitCode (w : World) (kb lb ln : Nat) : Prop where
  zero : ∀ n, 1 ≤ n → n < 7 → w.cell? ⟨kb, n, none⟩ = some (.int .i64 0)
  seven : w.cell? ⟨kb, 7, none⟩ = some (.int .i64 24)
  first : w.cell? ⟨lb, 0, none⟩ = some (.int .i64 256)
  some_ : 0 < ln
theorem LitCode.keep {F : Nat → Nat → Prop} {w w' : World} {kb lb ln : Nat} (h : LitCode w kb lb ln) (hk : Keep F w w') (h1 : ∀ y, ¬ F kb y) (h2 : ∀ y, ¬ F lb y) : LitCode w' kb lb ln :=
  ⟨fun n a b => hk.get (h.zero n a b) (h1 _), hk.get h.seven (h1 _), hk.get h.first (h2 _), h.some_⟩

set_option maxHeartbeats 4000000 in
set_option maxRecDepth 100000 in
theorem prefixRead {w : World} {xb b o c i kb lb ln lc : Nat} {l : List UInt8} (h : BitsAt w xb b o c l i) (hC : LitCode w kb lb ln) (hi : i + 7 ≤ 8 * l.length) (hz : ∀ k, k < 7 → bitAt l (i + k) = 0) (hk : kb ≠ xb) (hl : lb ≠ xb) :
    Calls Tryz.prog 87 #[.agg #[.slice (some ⟨kb, 0, none⟩) 16 16, .slice (some ⟨lb, 0, none⟩) ln lc], .pointer (some ⟨xb, 0, none⟩)] w fun e w' => e = .returned (.int .i64 256) ∧ BitsAt w' xb b o c l (i + 7) ∧ Keep (fun x _ => x = xb) w w' := by
  have hxlt : xb < w.heap.size := World.block_lt_of_cell? w _ h.x0
  have H0 := Lib.hid (And.intro h hC)
  have hln := hC.some_
  clear h hC
  go_enter Tryz.func87, Tryz.ntmps87
  go_wp2
  obtain ⟨pb, hpb⟩ : ∃ pb, pb = w.heap.size := ⟨_, rfl⟩
  rw [← hpb]
  obtain ⟨w1, hw1⟩ : ∃ w1, w1 = w.alloc (.cells #[.slice (some ⟨kb, 0, none⟩) 16 16, .slice (some ⟨lb, 0, none⟩) ln lc] 169) := ⟨_, rfl⟩
  rw [← hw1]
  have H1 := Lib.hid (show Keep Nil2 w w1 ∧ w1.cell? ⟨pb, 0, none⟩ = some (.slice (some ⟨kb, 0, none⟩) 16 16) ∧ w1.cell? ⟨pb, 1, none⟩ = some (.slice (some ⟨lb, 0, none⟩) ln lc) by
    rw [hw1, hpb]
    have hh := heap_alloc_new w (.cells #[.slice (some ⟨kb, 0, none⟩) 16 16, .slice (some ⟨lb, 0, none⟩) ln lc] 169)
    exact ⟨(Keep.refl Nil2 w).alloc _, cell_of_row _ _ _ _ _ _ hh, cell_of_row _ _ _ _ _ _ hh⟩)
  have hne : pb ≠ xb := by omega
  clear hw1 hpb
  go_loopg [5, 6, 7, 8] 8 (fun G v5 v6 v7 v8 wr => ∃ n g, g = G ∧ n + g = 9 ∧ 1 ≤ n ∧ n ≤ 7 ∧ v5 = .int .i64 0 ∧ v6 = .int .i64 0 ∧ v7 = .int .i64 0 ∧ v8 = .int .i64 (n : Int) ∧ BitsAt wr xb b o c l (i + (n - 1)) ∧ Keep (fun x _ => x = xb) w1 wr)
  case atStart => exact ⟨1, 8, rfl, by omega, by omega, by omega, rfl, rfl, rfl, rfl, H0.out.1.keep0 H1.out.1, Keep.refl _ _⟩
  case round =>
    obtain ⟨n, g, hG, hng, h1n, hn7, rfl, rfl, rfl, rfl, hB, hK⟩ := hrel
    have HG := Lib.hid hG
    clear hG
    have d1 : decide ((n : Int) < 16) = true := by simp; omega
    have hone := bitsOne hB (by omega)
    rw [hz (n - 1) (by omega)] at hone
    have HO := Lib.hid hone
    have HB := Lib.hid hK
    clear hone hB hK
    go_wp2_with (go_at_call 69; fail)
    refine HO.out.mono ?_
    rintro e w2 ⟨rfl, h2, hk2⟩
    have hkk := HB.out.trans hk2
    have HF := Lib.hid (And.intro h2 hkk)
    have p0 := hkk.get H1.out.2.1 (fun e => hne e)
    have p1 := hkk.get H1.out.2.2 (fun e => hne e)
    have hC2 := (H0.out.2.keep H1.out.1 (fun _ e => e) (fun _ e => e)).keep hkk (fun _ e => hk e) (fun _ e => hl e)
    have hnI : (n : Int) < 16 := by omega
    clear h2 hk2 hkk
    by_cases h7 : n = 7
    · subst h7
      have c7 := hC2.seven
      have c0 := hC2.first
      have hl0 : (0 : Int) < ln := by omega
      clear hC2
      go_wp2
      go_ret
      exact ⟨rfl, HF.out.1, (H1.out.1.mono fun _ _ _ e => e.elim).trans HF.out.2⟩
    · have cn := hC2.zero n h1n (by omega)
      clear hC2
      go_wp2
      go_roundg (g - 1)
      case measure => have := HG.out; omega
      case rel => exact ⟨n + 1, g - 1, rfl, by omega, by omega, by omega, rfl, rfl, rfl, by go_num, by have := HF.out.1; rwa [show i + (n - 1) + 1 = i + (n + 1 - 1) by omega] at this, HF.out.2⟩
end Go.Proofs.YtnbbppjgamdfeaaGreatDoor
end
