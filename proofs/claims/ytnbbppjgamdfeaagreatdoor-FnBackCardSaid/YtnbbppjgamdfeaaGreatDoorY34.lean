/- laws.FnBack, part 34 of 54: W6 W7. -/
import Derived.Test.YtnbbppjgamdfeaaGreatDoorY17
import Derived.Test.YtnbbppjgamdfeaaGreatDoorY06
import Derived.Test.YtnbbppjgamdfeaaGreatDoorY33

/- The reference's samplesOf: samples of 16 bits. -/
section
set_option linter.unusedVariables false
set_option linter.unusedSimpArgs false
namespace Go.Proofs.YtnbbppjgamdfeaaGreatDoor
open Go Go.RowKit

/-- What stands of the world while two bytes are read and a number is appended. -/
def SmpS (wr : World) (b o i j x y base : Nat) (v : Value) (n : Nat) (xs : List Value) (w' : World) : Prop :=
  w'.cell? ⟨b, o + i, none⟩ = some (.int .u8 (x : Int)) ∧ w'.cell? ⟨b, o + j, none⟩ = some (.int .u8 (y : Int)) ∧ OwnV 3 1 w' base v n xs ∧ Keep (fun k _ => v.ownBlock = some k) wr w'
theorem smpS_keep (wr : World) (b o i j x y base : Nat) (v : Value) (n : Nat) (xs : List Value) (V V' : World) (h : SmpS wr b o i j x y base v n xs V) (hk : Keep Nil2 V V') : SmpS wr b o i j x y base v n xs V' :=
  ⟨hk.get h.1 fun e => e, hk.get h.2.1 fun e => e, h.2.2.1.keep0 hk, h.2.2.2.trans (hk.mono fun _ _ _ e => e.elim)⟩
theorem smpS_app {wr : World} {b o i j x y base : Nat} {v : Value} {n : Nat} {xs : List Value} {V V' : World} (h : SmpS wr b o i j x y base v n xs V) (hk : Keep (fun k _ => v.ownBlock = some k) V V') (ho : OwnV 3 1 V' base v n xs) (hb : b < base) : SmpS wr b o i j x y base v n xs V' := by
  have hge := fun k e => (h.2.2.1.block_ge k e).1
  exact ⟨hk.get h.1 fun e => by have := hge _ e; omega, hk.get h.2.1 fun e => by have := hge _ e; omega, ho, h.2.2.2.trans hk⟩
theorem cellsLitD (V : World) (z : Int) : CellsAt ((V.alloc (.cells #[.int .i64 z] 3)).drew) V.heap.size 0 [.int .i64 z] := (CellsAt.lit V #[.int .i64 z] 3).keep ((Keep.refl Nil2 _).drew) fun _ _ e => e

set_option maxHeartbeats 4000000 in
set_option maxRecDepth 100000 in
theorem samplesOf16 {w : World} {r : List UInt8} (b o n c m : Nat) (hn : n = r.length) (hb : BytesAt w b o r) (hm : 2 * m ≤ n) (hn2 : n ≤ 1000) :
    Calls Tryz.prog 78 #[.slice (some ⟨b, o, none⟩) n c, .int .i64 (m : Int), .int .i64 16] w fun e w' => ∃ v, e = .returned v ∧ OwnV 3 1 w' w.heap.size v m (intsV ((List.range m).map (rowSmp r 16))) ∧ Keep Nil2 w w' := by
  have HN := Lib.hid hn
  clear hn
  go_enter Tryz.func78, Tryz.ntmps78
  go_wp2
  have HI := Lib.hid (And.intro (OwnV.lit (e := 3) (size := 1) w #[] 0 [] rfl rfl (by omega)) ((Keep.refl Nil2 w).alloc (.cells #[] 3)))
  go_loopg [7, 8, 9, 12] m (fun G v7 v8 v9 v12 wr => ∃ k g, g = G ∧ k + g = m ∧ v12 = .int .i64 (k : Int) ∧ OwnV 3 1 wr w.heap.size v7 k (intsV ((List.range k).map (rowSmp r 16))) ∧ Keep Nil2 w wr)
  case atStart => exact ⟨0, m, rfl, by omega, rfl, HI.out.1, HI.out.2⟩
  case round =>
    obtain ⟨k, g, hG, hkg, rfl, hO, hK⟩ := hrel
    have HG := Lib.hid hG
    clear hG
    by_cases hk : k < m
    · have d1 : decide ((k : Int) < (m : Int)) = true := by simp; omega
      have hkI : ((2 * k : Nat) : Int) < n := by omega
      have hkJ : ((2 * k + 1 : Nat) : Int) < n := by omega
      have hkI' : 2 * (k : Int) < n := by omega
      have hkJ' : 2 * (k : Int) + 1 < n := by omega
      have z0 : (0 : Int) ≤ 2 * (k : Int) := by omega
      have z1 : (0 : Int) ≤ 2 * (k : Int) + 1 := by omega
      have e3b : IntKind.i64.wrap (2 * (k : Int)) = 2 * (k : Int) := IntWalk.i64_in _ (by omega)
      have e4b : IntKind.i64.wrap (2 * (k : Int) + 1) = 2 * (k : Int) + 1 := IntWalk.i64_in _ (by omega)
      have tn0 : (2 * (k : Int)).toNat = 2 * k := by omega
      have tn1 : (2 * (k : Int) + 1).toNat = 2 * k + 1 := by omega
      obtain ⟨x, hx⟩ : ∃ x, r[2 * k]? = some x := ⟨r[2 * k]'(by have := HN.out; omega), List.getElem?_eq_getElem _⟩
      obtain ⟨y, hy⟩ : ∃ y, r[2 * k + 1]? = some y := ⟨r[2 * k + 1]'(by have := HN.out; omega), List.getElem?_eq_getElem _⟩
      have hbw : b < w.heap.size := hb.lt (by have := HN.out; omega)
      have cx := (hb.keep hK fun _ _ e => e).at_ (2 * k) x hx
      have cy := (hb.keep hK fun _ _ e => e).at_ (2 * k + 1) y hy
      have hv := x.toNat_lt
      have hw := y.toNat_lt
      have HX := Lib.hid (show rowSmp r 16 k = x.toNat * 256 + y.toNat by unfold rowSmp; rw [if_neg (by decide), if_pos rfl, List.getD_eq_getElem?_getD, List.getD_eq_getElem?_getD, hx, hy]; rfl)
      have e1 : IntKind.i64.wrap (x.toNat : Int) = (x.toNat : Int) := IntWalk.i64_in _ (by omega)
      have e1' : IntKind.i64.wrap (y.toNat : Int) = (y.toNat : Int) := IntWalk.i64_in _ (by omega)
      have e2 : IntKind.i64.wrap ((x.toNat : Int) * 256) = (x.toNat : Int) * 256 := IntWalk.i64_in _ (by omega)
      obtain ⟨z, hz⟩ : ∃ z, z = x.toNat * 256 + y.toNat := ⟨_, rfl⟩
      have e5 : bits BinOp.or IntKind.i64 ((x.toNat : Int) * 256) (y.toNat : Int) = (z : Int) := by
        rw [show (x.toNat : Int) * 256 = ((x.toNat * 256 : Nat) : Int) by omega, i64_or_nat _ _ (by omega) (by omega), or_add _ _ 8 (by omega) (by omega), hz]
      rw [← hz] at HX
      have hsz := hK.size
      have KS := Lib.hid (smpS_keep wr b o (2 * k) (2 * k + 1) x.toNat y.toNat w.heap.size u7 k (intsV ((List.range k).map (rowSmp r 16))))
      have KO := Lib.hid (fun V (h : SmpS wr b o (2 * k) (2 * k + 1) x.toNat y.toNat w.heap.size u7 k (intsV ((List.range k).map (rowSmp r 16))) V) => h.2.2.1)
      have KH := Lib.hid (fun V (h : SmpS wr b o (2 * k) (2 * k + 1) x.toNat y.toNat w.heap.size u7 k (intsV ((List.range k).map (rowSmp r 16))) V) => Nat.le_trans hsz h.2.2.2.size)
      have KA := Lib.hid (fun V V' (h : SmpS wr b o (2 * k) (2 * k + 1) x.toNat y.toNat w.heap.size u7 k (intsV ((List.range k).map (rowSmp r 16))) V) (hk : Keep (fun k _ => u7.ownBlock = some k) V V') (ho : OwnV 3 1 V' w.heap.size u7 k (intsV ((List.range k).map (rowSmp r 16)))) => smpS_app h hk ho hbw)
      have hs0 : SmpS wr b o (2 * k) (2 * k + 1) x.toNat y.toNat w.heap.size u7 k (intsV ((List.range k).map (rowSmp r 16))) wr := ⟨cx, cy, hO, Keep.refl _ _⟩
      have HO := Lib.hid (And.intro hO hK)
      clear hO hK hx hy hz
      go_wp2
      go_region_held3 (fun w' => w'.cell? ⟨b, o + (2 * k), none⟩ = some (.int .u8 (x.toNat : Int)) ∧ w'.cell? ⟨b, o + (2 * k + 1), none⟩ = some (.int .u8 (y.toNat : Int)) ∧ OwnV 3 1 w' w.heap.size u7 k (intsV ((List.range k).map (rowSmp r 16))) ∧ Keep (fun k _ => u7.ownBlock = some k) wr w')
        (first | assumption | exact KA.out _ _ (by assumption) h2 h3 | exact KS.out _ _ (by assumption) ((Keep.refl Nil2 _).drew) | exact KS.out _ _ (by assumption) ((Keep.refl Nil2 _).alloc _))
        (first | (refine step_append_vals rfl (.tmp 50) (.tmp 66) 32 3 rfl (.int .i64 0) 1 8 Tryz.underlying32 info3 rfl (by decide) (by decide) w.heap.size u7 k (intsV ((List.range k).map (rowSmp r 16))) rfl (KO.out _ (by assumption)) _ _ 1 1 [.int .i64 (z : Int)] rfl (cellsLitD _ _) rfl (by intro u hu; simp at hu; subst hu; rfl) (by omega) (KH.out _ (by assumption)) ?_; intro v' w' h1 h2 h3))
      have hS2 : SmpS wr b o (2 * k) (2 * k + 1) x.toNat y.toNat w.heap.size u7 k (intsV ((List.range k).map (rowSmp r 16))) w' := by assumption
      have HF := Lib.hid (And.intro h1 (keep_layV' HO.out.2 HO.out.1 hS2.2.2.2))
      clear h1 h2 h3 hS2 hs0 cx cy
      go_wp2
      go_roundg (g - 1)
      case measure => have := HG.out; omega
      case rel => exact ⟨k + 1, g - 1, rfl, by omega, by go_num, by rw [range_snoc, HX.out]; exact HF.out.1, HF.out.2⟩
    · obtain rfl : k = m := by omega
      have d1 : decide ((k : Int) < (k : Int)) = false := by simp
      have HO := Lib.hid (And.intro hO hK)
      clear hO hK
      go_wp2
      go_ret
      exact ⟨u7, rfl, HO.out.1, HO.out.2⟩
end Go.Proofs.YtnbbppjgamdfeaaGreatDoor
end

/- The reference's samplesOf: samples of fewer than 8 bits. -/
section
set_option linter.unusedVariables false
set_option linter.unusedSimpArgs false
namespace Go.Proofs.YtnbbppjgamdfeaaGreatDoor
open Go Go.RowKit

set_option maxHeartbeats 4000000 in
set_option maxRecDepth 100000 in
theorem samplesOfFew {w : World} {r : List UInt8} (b o n c m : Nat) (hn : n = r.length) (hb : BytesAt w b o r) (depth : Nat) (hd : depth = 1 ∨ depth = 2 ∨ depth = 4) (hm : (m * depth + 7) / 8 ≤ n) (hm60 : m ≤ 60) (hn2 : n ≤ 1000) :
    Calls Tryz.prog 78 #[.slice (some ⟨b, o, none⟩) n c, .int .i64 (m : Int), .int .i64 (depth : Int)] w fun e w' => ∃ v, e = .returned v ∧ OwnV 3 1 w' w.heap.size v m (intsV ((List.range m).map (rowSmp r depth))) ∧ Keep Nil2 w w' := by
  have HN := Lib.hid hn
  clear hn
  go_enter Tryz.func78, Tryz.ntmps78
  go_wp2
  have HI := Lib.hid (And.intro (OwnV.lit (e := 3) (size := 1) w #[] 0 [] rfl rfl (by omega)) ((Keep.refl Nil2 w).alloc (.cells #[] 3)))
  go_loopg [7, 8, 9, 12] m (fun G v7 v8 v9 v12 wr => ∃ k g, g = G ∧ k + g = m ∧ v12 = .int .i64 (k : Int) ∧ OwnV 3 1 wr w.heap.size v7 k (intsV ((List.range k).map (rowSmp r depth))) ∧ Keep Nil2 w wr)
  case atStart => exact ⟨0, m, rfl, by omega, rfl, HI.out.1, HI.out.2⟩
  case round =>
    obtain ⟨k, g, hG, hkg, rfl, hO, hK⟩ := hrel
    have HG := Lib.hid hG
    clear hG
    by_cases hk : k < m
    · have d1 : decide ((k : Int) < (m : Int)) = true := by simp; omega
      obtain ⟨q, hq⟩ : ∃ q, q = k * depth := ⟨_, rfl⟩
      obtain ⟨i8, hi8⟩ : ∃ i8, i8 = q / 8 := ⟨_, rfl⟩
      obtain ⟨s8, hs8⟩ : ∃ s8, s8 = 8 - depth - q % 8 := ⟨_, rfl⟩
      have hi8n : i8 < n := by rcases hd with rfl | rfl | rfl <;> omega
      have hs8' : s8 ≤ 7 := by omega
      have hsum : depth + q % 8 ≤ 8 := by rcases hd with rfl | rfl | rfl <;> omega
      obtain ⟨x, hx⟩ : ∃ x, r[i8]? = some x := ⟨r[i8]'(by have := HN.out; omega), List.getElem?_eq_getElem _⟩
      have hbw : b < w.heap.size := hb.lt (by have := HN.out; omega)
      have cx := (hb.keep hK fun _ _ e => e).at_ i8 x hx
      have hv := x.toNat_lt
      obtain ⟨z, hz⟩ : ∃ z, z = x.toNat / 2 ^ s8 % 2 ^ depth := ⟨_, rfl⟩
      have HX := Lib.hid (show rowSmp r depth k = z by unfold rowSmp pk; rw [if_neg (by omega), if_neg (by omega), ← hq, ← hi8, ← hs8, hz, List.getD_eq_getElem?_getD, hx]; rfl)
      have hq60 : q ≤ 240 := by rw [hq]; exact Nat.le_trans (Nat.mul_le_mul (show k ≤ 60 by omega) (show depth ≤ 4 by omega)) (by decide)
      have hd4 : 0 < depth ∧ depth ≤ 4 := by omega
      have q8 : ((depth : Int) == 8) = false := by simp; omega
      have q16 : ((depth : Int) == 16) = false := by simp; omega
      have e1 : IntKind.i64.wrap ((k : Int) * (depth : Int)) = (q : Int) := by rw [← Int.natCast_mul, ← hq]; exact IntWalk.i64_in _ (by omega)
      have e2 : (q : Int) / 8 = (i8 : Int) := by omega
      have e2' : Int.tdiv (q : Int) 8 = (i8 : Int) := by rw [Int.tdiv_eq_ediv_of_nonneg (by omega)]; omega
      have e3 : IntKind.i64.wrap (i8 : Int) = (i8 : Int) := IntWalk.i64_in _ (by omega)
      obtain ⟨m8, hm8⟩ : ∃ m8, m8 = q % 8 := ⟨_, rfl⟩
      have e4 : Int.tmod (q : Int) 8 = (m8 : Int) := by rw [Int.tmod_eq_emod_of_nonneg (by omega)]; omega
      have e4' : (q : Int) % 8 = (m8 : Int) := by omega
      have e5 : IntKind.i64.wrap (m8 : Int) = (m8 : Int) := IntWalk.i64_in _ (by omega)
      have e6 : IntKind.i64.wrap (x.toNat : Int) = (x.toNat : Int) := IntWalk.i64_in _ (by omega)
      obtain ⟨d8, hd8⟩ : ∃ d8, d8 = 8 - depth := ⟨_, rfl⟩
      have e7 : IntKind.i64.wrap (8 - (depth : Int)) = (d8 : Int) := by rw [IntWalk.i64_in _ (by omega)]; omega
      have e8 : IntKind.i64.wrap ((d8 : Int) - (m8 : Int)) = (s8 : Int) := by rw [IntWalk.i64_in _ (by omega)]; omega
      have hs64 : min s8 64 = s8 := by omega
      have hd64 : min depth 64 = depth := by omega
      have hs0 : decide ((s8 : Int) < 0) = false := by simp
      have hi8I : (i8 : Int) < n := by omega
      obtain ⟨y, hy⟩ : ∃ y, y = x.toNat / 2 ^ s8 := ⟨_, rfl⟩
      have hy2 : y ≤ x.toNat := by rw [hy]; exact Nat.div_le_self _ _
      have e9 : (x.toNat : Int) / 2 ^ s8 = (y : Int) := by rw [hy]; simp
      have e9' : IntKind.i64.wrap (y : Int) = (y : Int) := IntWalk.i64_in _ (by omega)
      obtain ⟨t, ht⟩ : ∃ t, t = 2 ^ depth := ⟨_, rfl⟩
      have ht16 : 2 ≤ t ∧ t ≤ 16 := by rw [ht]; rcases hd with rfl | rfl | rfl <;> decide
      have e10 : (2 : Int) ^ depth = (t : Int) := by rw [ht]; simp
      have e10' : (1 : Int) * 2 ^ depth = (t : Int) := by rw [Int.one_mul]; exact e10
      have e11 : IntKind.i64.wrap (t : Int) = (t : Int) := IntWalk.i64_in _ (by omega)
      obtain ⟨t1, ht1⟩ : ∃ t1, t1 = t - 1 := ⟨_, rfl⟩
      have e12 : IntKind.i64.wrap ((t : Int) - 1) = (t1 : Int) := by rw [IntWalk.i64_in _ (by omega)]; omega
      have e13 : bits BinOp.and IntKind.i64 (y : Int) (t1 : Int) = (z : Int) := by
        rw [i64_and_nat _ _ (by omega) (by omega), hz, ← hy, ht1, ht, Nat.and_two_pow_sub_one_eq_mod]
      have hsz := hK.size
      have KS := Lib.hid (smpS_keep wr b o i8 i8 x.toNat x.toNat w.heap.size u7 k (intsV ((List.range k).map (rowSmp r depth))))
      have KO := Lib.hid (fun V (h : SmpS wr b o i8 i8 x.toNat x.toNat w.heap.size u7 k (intsV ((List.range k).map (rowSmp r depth))) V) => h.2.2.1)
      have KH := Lib.hid (fun V (h : SmpS wr b o i8 i8 x.toNat x.toNat w.heap.size u7 k (intsV ((List.range k).map (rowSmp r depth))) V) => Nat.le_trans hsz h.2.2.2.size)
      have KA := Lib.hid (fun V V' (h : SmpS wr b o i8 i8 x.toNat x.toNat w.heap.size u7 k (intsV ((List.range k).map (rowSmp r depth))) V) (hk : Keep (fun k _ => u7.ownBlock = some k) V V') (ho : OwnV 3 1 V' w.heap.size u7 k (intsV ((List.range k).map (rowSmp r depth)))) => smpS_app h hk ho hbw)
      have hs0 : SmpS wr b o i8 i8 x.toNat x.toNat w.heap.size u7 k (intsV ((List.range k).map (rowSmp r depth))) wr := ⟨cx, cx, hO, Keep.refl _ _⟩
      have HO := Lib.hid (And.intro hO hK)
      clear hO hK hx hz hy ht ht1 hd8 hi8 hs8 hm8 hq
      go_wp2
      go_region_held3 (fun w' => w'.cell? ⟨b, o + i8, none⟩ = some (.int .u8 (x.toNat : Int)) ∧ w'.cell? ⟨b, o + i8, none⟩ = some (.int .u8 (x.toNat : Int)) ∧ OwnV 3 1 w' w.heap.size u7 k (intsV ((List.range k).map (rowSmp r depth))) ∧ Keep (fun k _ => u7.ownBlock = some k) wr w')
        (first | assumption | exact KA.out _ _ (by assumption) h2 h3 | exact KS.out _ _ (by assumption) ((Keep.refl Nil2 _).drew) | exact KS.out _ _ (by assumption) ((Keep.refl Nil2 _).alloc _))
        (first | (refine step_append_vals rfl (.tmp 19) (.tmp 36) 32 3 rfl (.int .i64 0) 1 8 Tryz.underlying32 info3 rfl (by decide) (by decide) w.heap.size u7 k (intsV ((List.range k).map (rowSmp r depth))) rfl (KO.out _ (by assumption)) _ _ 1 1 [.int .i64 (z : Int)] rfl (cellsLitD _ _) rfl (by intro u hu; simp at hu; subst hu; rfl) (by omega) (KH.out _ (by assumption)) ?_; intro v' w' h1 h2 h3))
      have hS2 : SmpS wr b o i8 i8 x.toNat x.toNat w.heap.size u7 k (intsV ((List.range k).map (rowSmp r depth))) w' := by assumption
      have HF := Lib.hid (And.intro h1 (keep_layV' HO.out.2 HO.out.1 hS2.2.2.2))
      clear h1 h2 h3 hS2 hs0 cx
      go_wp2
      go_roundg (g - 1)
      case measure => have := HG.out; omega
      case rel => exact ⟨k + 1, g - 1, rfl, by omega, by go_num, by rw [range_snoc, HX.out]; exact HF.out.1, HF.out.2⟩
    · obtain rfl : k = m := by omega
      have d1 : decide ((k : Int) < (k : Int)) = false := by simp
      have HO := Lib.hid (And.intro hO hK)
      clear hO hK
      go_wp2
      go_ret
      exact ⟨u7, rfl, HO.out.1, HO.out.2⟩
end Go.Proofs.YtnbbppjgamdfeaaGreatDoor
end
