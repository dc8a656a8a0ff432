/- laws.FnBack, part 11 of 54: S1 E0 W1 W2 W3 W4. -/
import Derived.Test.YtnbbppjgamdfeaaGreatDoorY05
import Derived.Test.YtnbbppjgamdfeaaGreatDoorY01

/- The reference's sums: CRC-32, Adler-32; numbers in four bytes. -/
section
set_option linter.unusedVariables false
set_option linter.unusedSimpArgs false
namespace Go.Proofs.YtnbbppjgamdfeaaGreatDoor
open Go Go.RowKit

theorem crcStep_bits (x : Nat) (hx : x < 4294967296) : bits .and .u32 (x : Int) 1 = ((x % 2 : Nat) : Int) := by
  rw [show (1 : Int) = ((1 : Nat) : Int) from rfl, u32_and_nat _ _ hx (by decide), Nat.and_one_is_mod]

set_option maxHeartbeats 2000000 in
set_option maxRecDepth 100000 in
theorem specCrc {w : World} (l : List UInt8) (b o n cap : Nat) (hn : n = l.length) (hb : BytesAt w b o l) (hlen : l.length ≤ 1073741824) :
    Calls Tryz.prog 14 #[.slice (some ⟨b, o, none⟩) n cap] w fun e w' => e = .returned (.int .u32 (crcOf l : Int)) ∧ w' = w := by
  subst hn
  go_enter Tryz.func14, Tryz.ntmps14
  go_wp2
  go_loop [3, 5, 8, 16] (fun v3 v5 v8 v16 => ∃ k : Nat, k ≤ l.length ∧ v8 = .int .i64 (k : Int) ∧ v3 = .int .u32 (crcRun 4294967295 (l.take k) : Int)) (fun _ _ v _ => l.length - (intOf v).toNat)
  case atStart => exact ⟨0, Nat.zero_le _, rfl, rfl⟩
  case round =>
    obtain ⟨k, hk, rfl, rfl⟩ := hrel
    by_cases hlt2 : k < l.length
    · have hcl := hb k hlt2
      have hs := crcRun_take_succ 4294967295 l k hlt2
      have hx := crcRun_lt (l.take k) 4294967295 (by decide)
      generalize crcRun 4294967295 (l.take k) = x at hx hs ⊢
      have hv := u8_lt l[k]
      generalize l[k].toNat = v at hcl hs hv
      have e2 : bits BinOp.xor IntKind.u32 (x : Int) (v : Int) = ((x ^^^ v : Nat) : Int) := u32_xor_nat _ _ hx (by omega)
      have hy : x ^^^ v < 4294967296 := Nat.xor_lt_two_pow (n := 32) hx (by omega)
      have hvw : IntKind.u32.wrap (v : Int) = (v : Int) := IntWalk.u32_in _ (by omega)
      have HS := Lib.hid hs
      clear hs
      generalize x ^^^ v = y at e2 hy HS
      go_wp2
      go_loop [3, 16] (fun v3 v16 => ∃ j : Nat, j ≤ 8 ∧ v16 = .int .i64 (j : Int) ∧ v3 = .int .u32 (crcSteps j y : Int)) (fun _ v => 8 - (intOf v).toNat)
      case atStart => exact ⟨0, by omega, rfl, rfl⟩
      case round =>
        obtain ⟨j, hj, rfl, rfl⟩ := hrel
        by_cases hj8 : j < 8
        · have hz := crcSteps_lt j y hy
          have hsw : crcSteps (j + 1) y = crcStep (crcSteps j y) := by
            have : ∀ (m : Nat) (q : Nat), crcSteps (m + 1) q = crcStep (crcSteps m q) := by
              intro m
              induction m with
              | zero => intro q; rfl
              | succ m ih => intro q; exact ih (crcStep q)
            exact this j y
          generalize crcSteps j y = z at hz hsw ⊢
          have hand := crcStep_bits z hz
          have hjI : decide ((j : Int) < 8) = true := by simp; omega
          have HSW := Lib.hid hsw
          clear hsw
          obtain ⟨z2, hz2⟩ : ∃ z2, z2 = z / 2 := ⟨_, rfl⟩
          have hzI : (z : Int) / 2 = (z2 : Int) := by omega
          have HZ := Lib.hid hz2
          have hz2l : z2 < 4294967296 := by omega
          clear hz2
          by_cases hp : z % 2 = 1
          · have e1 : (((z % 2 : Nat) : Int) == 1) = true := by rw [hp]; rfl
            have e3 : bits BinOp.xor IntKind.u32 (z2 : Int) 3988292384 = ((z2 ^^^ 3988292384 : Nat) : Int) := by
              rw [show (3988292384 : Int) = ((3988292384 : Nat) : Int) from rfl, u32_xor_nat _ _ hz2l (by decide)]
            rw [hp] at hand
            go_wp2
            go_round
            case rel => exact ⟨j + 1, by omega, by go_num, by rw [HSW.out]; unfold crcStep; rw [if_pos hp, ← HZ.out]⟩
            case measure => simp [intOf]; omega
          · have hp0 : z % 2 = 0 := by omega
            rw [hp0] at hand
            go_wp2
            go_round
            case rel => exact ⟨j + 1, by omega, by go_num, by rw [HSW.out]; unfold crcStep; rw [if_neg hp, ← HZ.out]⟩
            case measure => simp [intOf]; omega
        · obtain rfl : j = 8 := by omega
          go_wp2
          go_round
          case rel => exact ⟨k + 1, by omega, by go_num, by rw [HS.out]; rfl⟩
          case measure => simp [intOf]; omega
    · obtain rfl : k = l.length := by omega
      rw [List.take_length]
      have hx := crcRun_lt l 4294967295 (by decide)
      have hof : (crcOf l : Int) = 4294967295 - (crcRun 4294967295 l : Int) := by unfold crcOf; omega
      generalize crcRun 4294967295 l = x at hx hof ⊢
      have e4 := compl_u32 x hx
      have HOF := Lib.hid hof
      clear hof
      go_wp2
      go_ret
      exact ⟨by rw [HOF.out]; rfl, rfl⟩

theorem adM_take_succ (l : List UInt8) (k : Nat) (h : k < l.length) : adM (1, 0) (l.take (k + 1)) = (((adM (1, 0) (l.take k)).1 + l[k].toNat) % 65521, ((adM (1, 0) (l.take k)).2 + ((adM (1, 0) (l.take k)).1 + l[k].toNat) % 65521) % 65521) := by
  rw [← adStep_mod _ _ (by decide) (by decide), ← adStep_mod _ _ (by decide) (by decide), List.take_succ_eq_append_getElem h, List.foldl_append]
  rfl

set_option maxHeartbeats 2000000 in
set_option maxRecDepth 100000 in
theorem specAdler {w : World} (l : List UInt8) (b o n cap : Nat) (hn : n = l.length) (hb : BytesAt w b o l) (hlen : l.length ≤ 1073741824) :
    Calls Tryz.prog 33 #[.slice (some ⟨b, o, none⟩) n cap] w fun e w' => e = .returned (.int .u32 (adOf l : Int)) ∧ w' = w := by
  subst hn
  go_enter Tryz.func33, Tryz.ntmps33
  go_wp2
  go_loop [3, 4, 6, 9] (fun v3 v4 v6 v9 => ∃ k : Nat, k ≤ l.length ∧ v9 = .int .i64 (k : Int) ∧ v3 = .int .u32 ((adM (1, 0) (l.take k)).1 : Int) ∧ v4 = .int .u32 ((adM (1, 0) (l.take k)).2 : Int)) (fun _ _ _ v => l.length - (intOf v).toNat)
  case atStart => exact ⟨0, Nat.zero_le _, rfl, rfl, rfl⟩
  case round =>
    obtain ⟨k, hk, rfl, rfl, rfl⟩ := hrel
    by_cases hlt2 : k < l.length
    · have hcl := hb k hlt2
      have hs := adM_take_succ l k hlt2
      have hx := adM_lt (1, 0) (l.take k)
      generalize adM (1, 0) (l.take k) = a at hx hs ⊢
      obtain ⟨a1, a2⟩ := a
      have hv := u8_lt l[k]
      generalize l[k].toNat = v at hcl hs hv
      simp only at hx hs ⊢
      have hvw : IntKind.u32.wrap (v : Int) = (v : Int) := IntWalk.u32_in _ (by omega)
      have e1 : IntKind.u32.wrap ((a1 : Int) + (v : Int)) = ((a1 + v : Nat) : Int) := by rw [IntWalk.u32_in _ (by omega)]; omega
      obtain ⟨x, hx1⟩ : ∃ x, x = (a1 + v) % 65521 := ⟨_, rfl⟩
      have e2 : ((a1 + v : Nat) : Int).tmod 65521 = (x : Int) := by rw [hx1]; rfl
      have hxl : x < 65521 := by omega
      have e3 : IntKind.u32.wrap ((a2 : Int) + (x : Int)) = ((a2 + x : Nat) : Int) := by rw [IntWalk.u32_in _ (by omega)]; omega
      obtain ⟨y, hy1⟩ : ∃ y, y = (a2 + x) % 65521 := ⟨_, rfl⟩
      have e4 : ((a2 + x : Nat) : Int).tmod 65521 = (y : Int) := by rw [hy1]; rfl
      have hyl : y < 65521 := by omega
      rw [← hx1, ← hy1] at hs
      have HS := Lib.hid hs
      have HX1 := Lib.hid hx1
      have HY1 := Lib.hid hy1
      clear hs hx1 hy1
      go_wp2
      go_round
      case rel =>
        have qx := HX1.out
        have qy := HY1.out
        exact ⟨k + 1, by omega, by go_num, by rw [HS.out]; exact congrArg (Value.int .u32) (by show _ = (x : Int); omega), by rw [HS.out]; exact congrArg (Value.int .u32) (by show _ = (y : Int); omega)⟩
      case measure => simp [intOf]; omega
    · obtain rfl : k = l.length := by omega
      rw [List.take_length]
      have hx := adM_lt (1, 0) l
      have hof : adOf l = adNum (adM (1, 0) l) := rfl
      generalize adM (1, 0) l = a at hx hof ⊢
      obtain ⟨a1, a2⟩ := a
      simp only at hx hof ⊢
      have e5 : bits BinOp.or IntKind.u32 ((a2 : Int) * 65536) (a1 : Int) = ((a2 * 65536 + a1 : Nat) : Int) := by
        rw [show (a2 : Int) * 65536 = ((a2 * 65536 : Nat) : Int) by omega, u32_or_nat _ _ (by omega) (by omega), or_add _ _ 16 (by omega) (by omega)]
      have e6 : IntKind.u32.wrap ((a2 : Int) * 65536) = (a2 : Int) * 65536 := IntWalk.u32_in _ (by omega)
      have HOF := Lib.hid hof
      clear hof
      go_wp2
      go_ret
      exact ⟨by rw [HOF.out]; rfl, rfl⟩

theorem ownB_lit (w : World) (l : List UInt8) (cs : Array Value) (n : Nat) (hcs : cs.toList = bytesV l) (hn : n = l.length) (hm : n ≤ 1073741824) : OwnB (w.alloc (.cells cs 5)) w.heap.size (.slice (some ⟨w.heap.size, 0, none⟩) n n) l := by
  subst hn
  have h : cs = ⟨bytesV l⟩ := by rw [← hcs]
  have hs : cs.size = l.length := by rw [h]; simp [length_bytesV]
  have := World.ownsRow_lit (base := w.heap.size) (e := 5) (size := 1) w cs l.length (Nat.le_refl _) (by unfold maxLen; omega) (by omega)
  rw [hcs] at this
  exact this

set_option maxHeartbeats 400000 in
set_option maxRecDepth 100000 in
theorem specFour (w : World) (n : Nat) (hn : n < 4294967296) :
    Calls Tryz.prog 32 #[.int .u32 (n : Int)] w fun e w' => ∃ g, e = .returned (.slice (some ⟨g, 0, none⟩) 4 4) ∧ OwnB w' w.heap.size (.slice (some ⟨g, 0, none⟩) 4 4) (four n) ∧ Keep Nil2 w w' := by
  go_enter Tryz.func32, Tryz.ntmps32
  go_wp2
  go_ret
  refine ⟨_, rfl, ownB_lit w (four n) _ 4 ?_ rfl (by omega), (Keep.refl Nil2 w).alloc _⟩
  simp only [four, bytesV, List.map, b8_toNat]
  congr 1
  · congr 1; omega

theorem be4_bits' (x0 x1 x2 x3 : Nat) (h0 : x0 < 256) (h1 : x1 < 256) (h2 : x2 < 256) (h3 : x3 < 256) :
    bits BinOp.or IntKind.u32 (bits BinOp.or IntKind.u32 (bits BinOp.or IntKind.u32 ((x0 : Int) % 4294967296 * 16777216 % 4294967296) ((x1 : Int) % 4294967296 * 65536 % 4294967296)) ((x2 : Int) % 4294967296 * 256 % 4294967296)) ((x3 : Int) % 4294967296)
      = ((x0 * 16777216 + x1 * 65536 + x2 * 256 + x3 : Nat) : Int) := by
  rw [show (x3 : Int) % 4294967296 = ((x3 : Nat) : Int) by omega, show (x2 : Int) % 4294967296 * 256 % 4294967296 = ((x2 * 256 : Nat) : Int) by omega,
    show (x1 : Int) % 4294967296 * 65536 % 4294967296 = ((x1 * 65536 : Nat) : Int) by omega, show (x0 : Int) % 4294967296 * 16777216 % 4294967296 = ((x0 * 16777216 : Nat) : Int) by omega]
  rw [u32_or_nat _ _ (by omega) (by omega), or_add _ _ 24 (by omega) (by omega), u32_or_nat _ _ (by omega) (by omega), or_add _ _ 16 (by omega) (by omega), u32_or_nat _ _ (by omega) (by omega), or_add _ _ 8 (by omega) (by omega)]

set_option maxHeartbeats 400000 in
set_option maxRecDepth 100000 in
theorem specfour {w : World} {x0 x1 x2 x3 : UInt8} (b o n cap k : Nat) (hn : k + 4 ≤ n) (hn2 : n ≤ 1073741824) (hb : BytesAt w b (o + k) [x0, x1, x2, x3]) :
    Calls Tryz.prog 13 #[.slice (some ⟨b, o, none⟩) n cap, .int .i64 (k : Int)] w fun e w' => e = .returned (.int .u32 (be4 x0 x1 x2 x3 : Int)) ∧ ∃ q, w' = w.drewN q := by
  have c0 := hb 0 (by simp)
  have c1 := hb 1 (by simp)
  have c2 := hb 2 (by simp)
  have c3 := hb 3 (by simp)
  simp only [List.getElem_cons_zero, List.getElem_cons_succ, Nat.add_zero, Nat.add_assoc] at c0 c1 c2 c3
  have e := be4_bits' _ _ _ _ (u8_lt x0) (u8_lt x1) (u8_lt x2) (u8_lt x3)
  unfold be4
  generalize x0.toNat = y0 at *
  generalize x1.toNat = y1 at *
  generalize x2.toNat = y2 at *
  generalize x3.toNat = y3 at *
  have E := Lib.hid e
  clear e
  have k1 : IntKind.i64.wrap ((k : Int) + 1) = ((k + 1 : Nat) : Int) := by rw [IntWalk.i64_in _ (by omega)]; omega
  have k2 : IntKind.i64.wrap ((k : Int) + 2) = ((k + 2 : Nat) : Int) := by rw [IntWalk.i64_in _ (by omega)]; omega
  have k3 : IntKind.i64.wrap ((k : Int) + 3) = ((k + 3 : Nat) : Int) := by rw [IntWalk.i64_in _ (by omega)]; omega
  have hl3 : ((k + 3 : Nat) : Int) < n := by omega
  have hl2 : ((k + 2 : Nat) : Int) < n := by omega
  have hl1 : ((k + 1 : Nat) : Int) < n := by omega
  have hl0 : (k : Int) < n := by omega
  go_enter Tryz.func13, Tryz.ntmps13
  go_wp2
  go_quiet (fail)
  go_wp2
  go_ret
  exact ⟨by rw [← E.out]; rfl, _, rfl⟩

set_option maxHeartbeats 400000 in
theorem specSig (w : World) :
    Calls Tryz.prog 12 #[] w fun e w' => ∃ g, e = .returned (.slice (some ⟨g, 0, none⟩) 8 8) ∧ OwnB w' w.heap.size (.slice (some ⟨g, 0, none⟩) 8 8) sigB ∧ Keep Nil2 w w' := by
  go_enter Tryz.func12, Tryz.ntmps12
  go_wp2
  go_ret
  exact ⟨_, rfl, ownB_lit w sigB _ 8 rfl rfl (by omega), (Keep.refl Nil2 w).alloc _⟩
end Go.Proofs.YtnbbppjgamdfeaaGreatDoor
end

/- image: rectangles, how long a buffer of pixels is. -/
section
set_option linter.unusedVariables false
set_option linter.unusedSimpArgs false
namespace Go.Proofs.YtnbbppjgamdfeaaGreatDoor
open Go Go.RowKit

def rectV (wd ht : Nat) : Value := .agg #[.int .i64 0, .int .i64 0, .int .i64 (wd : Int), .int .i64 (ht : Int)]

theorem results_cell1 {fn : Func} {p : Tmp} {ty : TypeId} (h : fn.results = #[.cell p ty]) (tmps : Array Value) (P : Program) (w : World) :
    (results fn tmps).run P w = ((asAddr (tmps.getD p undef)).run P w).andThen fun a w₁ => (loadVar ty a).run P w₁ := by
  simp only [results, h]
  simp [Sem.run_bind, Result.andThen]

set_option maxHeartbeats 400000 in
theorem imgRect (w : World) (wd ht : Nat) :
    Calls Tryz.prog 98 #[.int .i64 0, .int .i64 0, .int .i64 (wd : Int), .int .i64 (ht : Int)] w fun e w' => e = .returned (rectV wd ht) ∧ Keep Nil2 w w' := by
  have h1 : decide ((wd : Int) < 0) = false := by simp
  have h2 : decide ((ht : Int) < 0) = false := by simp
  go_enter Tryz.func98, Tryz.ntmps98
  go_wp2
  refine bodyPost_ret (v := rectV wd ht) ?_ rfl ⟨rfl, (Keep.refl Nil2 w).alloc _⟩
  rw [results_cell1 rfl]
  go_simp
  rfl

set_option maxHeartbeats 400000 in
theorem imgDx (w : World) (wd ht : Nat) (hw : wd ≤ 1048576) :
    Calls Tryz.prog 115 #[rectV wd ht] w fun e w' => e = .returned (.int .i64 (wd : Int)) ∧ Keep Nil2 w w' := by
  have h1 : IntKind.i64.wrap ((wd : Int) - 0) = (wd : Int) := by rw [Int.sub_zero]; exact IntWalk.i64_in _ (by omega)
  unfold rectV
  go_enter Tryz.func115, Tryz.ntmps115
  go_wp2
  go_ret
  exact ⟨rfl, (Keep.refl Nil2 w).alloc _⟩

set_option maxHeartbeats 400000 in
theorem imgDy (w : World) (wd ht : Nat) (hh : ht ≤ 1048576) :
    Calls Tryz.prog 132 #[rectV wd ht] w fun e w' => e = .returned (.int .i64 (ht : Int)) ∧ Keep Nil2 w w' := by
  have h1 : IntKind.i64.wrap ((ht : Int) - 0) = (ht : Int) := by rw [Int.sub_zero]; exact IntWalk.i64_in _ (by omega)
  unfold rectV
  go_enter Tryz.func132, Tryz.ntmps132
  go_wp2
  go_ret
  exact ⟨rfl, (Keep.refl Nil2 w).alloc _⟩

theorem u64_low (x : Nat) (h : x < 4294967296) : bits .and .u64 (x : Int) 4294967295 = (x : Int) := by
  rw [show (4294967295 : Int) = ((4294967295 : Nat) : Int) from rfl, u64_and_nat _ _ (by omega) (by omega), Nat.and_two_pow_sub_one_eq_mod _ 32, Nat.mod_eq_of_lt h]

set_option maxHeartbeats 1000000 in
theorem imgMul64 (w : World) (x y : Nat) (hx : x < 4294967296) (hy : y < 4294967296) (hxy : x * y < 4294967296) :
    Calls Tryz.prog 139 #[.int .u64 (x : Int), .int .u64 (y : Int)] w fun e w' => e = .returned (.tuple #[.int .u64 0, .int .u64 ((x * y : Nat) : Int)]) ∧ w' = w := by
  have a1 := u64_low x hx
  have a2 := u64_low y hy
  obtain ⟨p, hp⟩ : ∃ p, p = x * y := ⟨_, rfl⟩
  have d1 : (x : Int) / 4294967296 = 0 := by omega
  have d2 : (y : Int) / 4294967296 = 0 := by omega
  have hpI : (x : Int) * (y : Int) = (p : Int) := by rw [hp]; simp
  rw [← hp] at hxy ⊢
  have HP := Lib.hid hp
  clear hp
  have m1 : IntKind.u64.wrap ((x : Int) * (y : Int)) = (p : Int) := by rw [hpI]; exact IntWalk.u64_in _ (by omega)
  have d3 : (p : Int) / 4294967296 = 0 := by omega
  have b0 : bits BinOp.and IntKind.u64 0 4294967295 = 0 := by decide
  have z1 : IntKind.u64.wrap (0 * (y : Int)) = 0 := by rw [Int.zero_mul]; rfl
  have z2 : IntKind.u64.wrap ((x : Int) * 0) = 0 := by rw [Int.mul_zero]; rfl
  go_enter Tryz.func139, Tryz.ntmps139
  go_wp2
  go_ret2
  exact ⟨rfl, rfl⟩

set_option maxHeartbeats 1000000 in
theorem imgMul3 (w : World) (x y z : Nat) (hx : x < 4294967296) (hy : y < 4294967296) (hz : z < 4294967296) (hxy : x * y < 4294967296) (hp : x * y * z < 4294967296) :
    Calls Tryz.prog 131 #[.int .i64 (x : Int), .int .i64 (y : Int), .int .i64 (z : Int)] w fun e w' => e = .returned (.int .i64 ((x * y * z : Nat) : Int)) ∧ w' = w := by
  have ux : IntKind.u64.wrap (x : Int) = (x : Int) := IntWalk.u64_in _ (by omega)
  have uy : IntKind.u64.wrap (y : Int) = (y : Int) := IntWalk.u64_in _ (by omega)
  have uz : IntKind.u64.wrap (z : Int) = (z : Int) := IntWalk.u64_in _ (by omega)
  have nx : decide ((x : Int) < 0) = false := by simp
  have ny : decide ((y : Int) < 0) = false := by simp
  have nz : decide ((z : Int) < 0) = false := by simp
  have hM1 := imgMul64 w x y hx hy hxy
  obtain ⟨q, hq⟩ : ∃ q, q = x * y := ⟨_, rfl⟩
  rw [← hq] at hxy hp hM1 ⊢
  have hM2 := imgMul64 w q z hxy hz hp
  obtain ⟨r, hr⟩ : ∃ r, r = q * z := ⟨_, rfl⟩
  rw [← hr] at hp hM2 ⊢
  have ur : IntKind.i64.wrap (r : Int) = (r : Int) := IntWalk.i64_in _ (by omega)
  have ur2 : IntKind.u64.wrap (r : Int) = (r : Int) := IntWalk.u64_in _ (by omega)
  have nr : decide ((r : Int) < 0) = false := by simp
  have H1 := Lib.hid hM1
  have H2 := Lib.hid hM2
  clear hq hr hM1 hM2
  go_enter Tryz.func131, Tryz.ntmps131
  go_wp2_with (go_at_call 139; fail)
  refine H1.out.mono ?_
  rintro e w1 ⟨rfl, rfl⟩
  go_wp2_with (go_at_call 139; fail)
  refine H2.out.mono ?_
  rintro e w2 ⟨rfl, rfl⟩
  go_wp2
  go_ret
  exact ⟨rfl, rfl⟩

set_option maxHeartbeats 1000000 in
theorem imgLen (w : World) (n wd ht : Nat) (s : ByteArray) (hn : n ≤ 8) (hw : wd ≤ 60) (hh : ht ≤ 60) :
    Calls Tryz.prog 114 #[.int .i64 (n : Int), rectV wd ht, .string s] w fun e w' => e = .returned (.int .i64 ((n * wd * ht : Nat) : Int)) ∧ Keep Nil2 w w' := by
  have hnw : n * wd ≤ 8 * 60 := Nat.mul_le_mul hn hw
  have hnwh : n * wd * ht ≤ 8 * 60 * 60 := Nat.mul_le_mul hnw hh
  have hdx := fun W => imgDx W wd ht (by omega)
  have hdy := fun W => imgDy W wd ht (by omega)
  have hm := fun W => imgMul3 W n wd ht (by omega) (by omega) (by omega) (by omega) (by omega)
  unfold rectV at hdx hdy ⊢
  obtain ⟨r, hr⟩ : ∃ r, r = n * wd * ht := ⟨_, rfl⟩
  rw [← hr] at hm ⊢
  have nr : decide ((r : Int) < 0) = false := by simp
  have HX := Lib.hid hdx
  have HY := Lib.hid hdy
  have HM := Lib.hid hm
  clear hr hdx hdy hm hnwh
  go_enter Tryz.func114, Tryz.ntmps114
  go_wp2
  obtain ⟨w1, hw1⟩ : ∃ w1, w1 = w.alloc (.cells #[.int .i64 0, .int .i64 0, .int .i64 (wd : Int), .int .i64 (ht : Int)] 112) := ⟨_, rfl⟩
  rw [← hw1]
  have k1 : Keep Nil2 w w1 := by rw [hw1]; exact (Keep.refl Nil2 w).alloc _
  have c0 : w1.cell? ⟨w.heap.size, 0, none⟩ = some (.int .i64 0) := by rw [hw1]; go_simp
  have c1 : w1.cell? ⟨w.heap.size, 1, none⟩ = some (.int .i64 0) := by rw [hw1]; go_simp
  have c2 : w1.cell? ⟨w.heap.size, 2, none⟩ = some (.int .i64 (wd : Int)) := by rw [hw1]; go_simp
  have c3 : w1.cell? ⟨w.heap.size, 3, none⟩ = some (.int .i64 (ht : Int)) := by rw [hw1]; go_simp
  clear hw1
  have HK := Lib.hid k1
  clear k1
  have hkeep : ∀ W W' : World, (Keep Nil2 w1 W ∧ W.cell? ⟨w.heap.size, 0, none⟩ = some (.int .i64 0) ∧ W.cell? ⟨w.heap.size, 1, none⟩ = some (.int .i64 0) ∧ W.cell? ⟨w.heap.size, 2, none⟩ = some (.int .i64 (wd : Int)) ∧ W.cell? ⟨w.heap.size, 3, none⟩ = some (.int .i64 (ht : Int))) → Keep Nil2 W W' → (Keep Nil2 w1 W' ∧ W'.cell? ⟨w.heap.size, 0, none⟩ = some (.int .i64 0) ∧ W'.cell? ⟨w.heap.size, 1, none⟩ = some (.int .i64 0) ∧ W'.cell? ⟨w.heap.size, 2, none⟩ = some (.int .i64 (wd : Int)) ∧ W'.cell? ⟨w.heap.size, 3, none⟩ = some (.int .i64 (ht : Int))) := fun W W' hs hk => ⟨hs.1.trans hk, hk.get hs.2.1 (fun e => e), hk.get hs.2.2.1 (fun e => e), hk.get hs.2.2.2.1 (fun e => e), hk.get hs.2.2.2.2 (fun e => e)⟩
  have X := Lib.hid fun (W : World) (hs : (Keep Nil2 w1 W ∧ W.cell? ⟨w.heap.size, 0, none⟩ = some (.int .i64 0) ∧ W.cell? ⟨w.heap.size, 1, none⟩ = some (.int .i64 0) ∧ W.cell? ⟨w.heap.size, 2, none⟩ = some (.int .i64 (wd : Int)) ∧ W.cell? ⟨w.heap.size, 3, none⟩ = some (.int .i64 (ht : Int)))) => (HX.out W).mono (fun e w' (h : e = .returned (.int .i64 (wd : Int)) ∧ Keep Nil2 W w') => And.intro h.1 (hkeep W w' hs h.2))
  have Y := Lib.hid fun (W : World) (hs : (Keep Nil2 w1 W ∧ W.cell? ⟨w.heap.size, 0, none⟩ = some (.int .i64 0) ∧ W.cell? ⟨w.heap.size, 1, none⟩ = some (.int .i64 0) ∧ W.cell? ⟨w.heap.size, 2, none⟩ = some (.int .i64 (wd : Int)) ∧ W.cell? ⟨w.heap.size, 3, none⟩ = some (.int .i64 (ht : Int)))) => (HY.out W).mono (fun e w' (h : e = .returned (.int .i64 (ht : Int)) ∧ Keep Nil2 W w') => And.intro h.1 (hkeep W w' hs h.2))
  have M := Lib.hid fun (W : World) (hs : (Keep Nil2 w1 W ∧ W.cell? ⟨w.heap.size, 0, none⟩ = some (.int .i64 0) ∧ W.cell? ⟨w.heap.size, 1, none⟩ = some (.int .i64 0) ∧ W.cell? ⟨w.heap.size, 2, none⟩ = some (.int .i64 (wd : Int)) ∧ W.cell? ⟨w.heap.size, 3, none⟩ = some (.int .i64 (ht : Int)))) => (HM.out W).mono (fun e w' (h : e = .returned (.int .i64 (r : Int)) ∧ w' = W) => And.intro h.1 (show (Keep Nil2 w1 w' ∧ w'.cell? ⟨w.heap.size, 0, none⟩ = some (.int .i64 0) ∧ w'.cell? ⟨w.heap.size, 1, none⟩ = some (.int .i64 0) ∧ w'.cell? ⟨w.heap.size, 2, none⟩ = some (.int .i64 (wd : Int)) ∧ w'.cell? ⟨w.heap.size, 3, none⟩ = some (.int .i64 (ht : Int))) by rw [h.2]; exact hs))
  clear HX HY HM hkeep
  go_region_held3 (fun w' => Keep Nil2 w1 w' ∧ w'.cell? ⟨w.heap.size, 0, none⟩ = some (.int .i64 0) ∧ w'.cell? ⟨w.heap.size, 1, none⟩ = some (.int .i64 0) ∧ w'.cell? ⟨w.heap.size, 2, none⟩ = some (.int .i64 (wd : Int)) ∧ w'.cell? ⟨w.heap.size, 3, none⟩ = some (.int .i64 (ht : Int)))
    (first | exact ⟨(Keep.refl Nil2 w1).drew, c0, c1, c2, c3⟩ | exact hs')
    (first | (go_at_call 115; refine (X.out _ (by assumption)).mono ?_; rintro e w' ⟨rfl, hs'⟩) | (go_at_call 132; refine (Y.out _ (by assumption)).mono ?_; rintro e w' ⟨rfl, hs'⟩) | (go_at_call 131; refine (M.out _ (by assumption)).mono ?_; rintro e w' ⟨rfl, hs'⟩))
  go_wp2
  go_ret
  exact ⟨rfl, HK.out.trans hs'.1⟩
end Go.Proofs.YtnbbppjgamdfeaaGreatDoor
end

/- The reference's Channels, IsKind, passes, rowBytes, step, PartOf, Size. -/
section
set_option linter.unusedVariables false
set_option linter.unusedSimpArgs false
namespace Go.Proofs.YtnbbppjgamdfeaaGreatDoor
open Go Go.RowKit

/-- What the head of a file tells. -/
def shapeV (wd ht depth colour : Nat) : Value := .agg #[.int .i64 (wd : Int), .int .i64 (ht : Int), .int .i64 (depth : Int), .int .i64 (colour : Int), .bool false]
/-- A kind of pixels that a file may have. -/
def KindOk (colour depth : Nat) : Prop := (colour = 0 ∧ (depth = 8 ∨ depth = 16)) ∨ (colour = 2 ∧ (depth = 8 ∨ depth = 16)) ∨ (colour = 6 ∧ (depth = 8 ∨ depth = 16)) ∨ (colour = 3 ∧ (depth = 1 ∨ depth = 2 ∨ depth = 4 ∨ depth = 8))
theorem KindOk.c {colour depth : Nat} (h : KindOk colour depth) : colour = 0 ∨ colour = 2 ∨ colour = 6 ∨ colour = 3 := by unfold KindOk at h; omega

set_option maxHeartbeats 2000000 in
theorem specChannels (w : World) (colour : Nat) (h : colour = 0 ∨ colour = 2 ∨ colour = 6 ∨ colour = 3) :
    Calls Tryz.prog 39 #[.int .i64 (colour : Int)] w fun e w' => e = .returned (.int .i64 (chan colour : Int)) ∧ w = w' := by
  rcases h with rfl | rfl | rfl | rfl
  all_goals
    go_enter Tryz.func39, Tryz.ntmps39
    go_wp2
    go_ret
    exact ⟨rfl, rfl⟩

set_option maxHeartbeats 2000000 in
theorem specIsKind (w : World) (colour depth : Nat) (h : KindOk colour depth) :
    Calls Tryz.prog 38 #[.int .i64 (colour : Int), .int .i64 (depth : Int)] w fun e w' => e = .returned (.bool true) ∧ w = w' := by
  rcases h with ⟨rfl, rfl | rfl⟩ | ⟨rfl, rfl | rfl⟩ | ⟨rfl, rfl | rfl⟩ | ⟨rfl, rfl | rfl | rfl | rfl⟩
  all_goals
    go_enter Tryz.func38, Tryz.ntmps38
    go_wp2
    go_ret
    exact ⟨rfl, rfl⟩

theorem specPasses (w : World) : Calls Tryz.prog 48 #[.bool false] w fun e w' => e = .returned (.int .i64 1) ∧ w = w' := by
  go_enter Tryz.func48, Tryz.ntmps48
  go_wp2
  go_ret
  exact ⟨rfl, rfl⟩

set_option maxHeartbeats 2000000 in
theorem specRowBytes (w : World) (wd ht depth colour : Nat) (h : KindOk colour depth) (hw : wd ≤ 60) :
    Calls Tryz.prog 75 #[shapeV wd ht depth colour, .int .i64 (wd : Int)] w fun e w' => e = .returned (.int .i64 (rowB wd depth colour : Int)) ∧ Keep Nil2 w w' := by
  have hch := fun V => specChannels V colour h.c
  obtain ⟨ch, hc⟩ : ∃ ch, ch = chan colour := ⟨_, rfl⟩
  have hc4 := (chan_pos colour)
  have hd16 : depth ≤ 16 := by unfold KindOk at h; omega
  obtain ⟨p, hp⟩ : ∃ p, p = wd * ch := ⟨_, rfl⟩
  obtain ⟨q, hq⟩ : ∃ q, q = p * depth := ⟨_, rfl⟩
  rw [← hc] at hch hc4
  have hp2 : p ≤ 240 := by rw [hp]; exact Nat.mul_le_mul hw hc4.2
  have hq2 : q ≤ 3840 := by rw [hq]; exact Nat.mul_le_mul hp2 hd16
  have e1 : IntKind.i64.wrap ((wd : Int) * (ch : Int)) = (p : Int) := by rw [← Int.natCast_mul, ← hp]; exact IntWalk.i64_in _ (by omega)
  have e2 : IntKind.i64.wrap ((p : Int) * (depth : Int)) = (q : Int) := by rw [← Int.natCast_mul, ← hq]; exact IntWalk.i64_in _ (by omega)
  have HR := Lib.hid (show rowB wd depth colour = (q + 7) / 8 by unfold rowB; rw [← hc, hq, hp])
  clear hc hp hq
  unfold shapeV
  go_enter Tryz.func75, Tryz.ntmps75
  go_wp2
  go_quiet ((go_at_call 39; exact Calls.quiet_of_same ((hch _).mono fun _ _ ⟨a, b⟩ => ⟨a, b.symm⟩)))
  go_wp2
  go_ret
  exact ⟨by rw [HR.out]; congr 2, ((Keep.refl Nil2 w).alloc _).drewN _⟩
end Go.Proofs.YtnbbppjgamdfeaaGreatDoor
end

/- The reference's step, PartOf, Size. -/
section
set_option linter.unusedVariables false
set_option linter.unusedSimpArgs false
namespace Go.Proofs.YtnbbppjgamdfeaaGreatDoor
open Go Go.RowKit

/-- All of an image. -/
def partV : Value := .agg #[.int .i64 0, .int .i64 0, .int .i64 1, .int .i64 1]

set_option maxHeartbeats 2000000 in
theorem specPartOf (w : World) (k : Nat) : Calls Tryz.prog 50 #[.bool false, .int .i64 (k : Int)] w fun e w' => e = .returned partV ∧ Keep Nil2 w w' := by
  go_enter Tryz.func50, Tryz.ntmps50
  go_wp2
  refine bodyPost_ret (v := partV) ?_ rfl ⟨rfl, (Keep.refl Nil2 w).alloc _⟩
  rw [results_cell1 rfl]
  go_simp
  rfl

set_option maxHeartbeats 4000000 in
set_option maxRecDepth 100000 in
theorem specSize (w : World) (wd ht : Nat) (hw : 0 < wd ∧ wd ≤ 60) (hh : 0 < ht ∧ ht ≤ 60) :
    Calls Tryz.prog 52 #[partV, .int .i64 (wd : Int), .int .i64 (ht : Int)] w fun e w' => e = .returned (.tuple #[.int .i64 (wd : Int), .int .i64 (ht : Int)]) ∧ Keep Nil2 w w' := by
  unfold partV
  have q1 : ((wd : Int) == 0) = false := by simp; omega
  have q2 : ((ht : Int) == 0) = false := by simp; omega
  go_enter Tryz.func52, Tryz.ntmps52
  go_wp2
  go_loop [8, 10] (fun v8 v10 => ∃ x : Nat, x ≤ wd ∧ v8 = .int .i64 (x : Int) ∧ v10 = .int .i64 (x : Int)) (fun _ v => wd - (intOf v).toNat)
  case atStart => exact ⟨0, Nat.zero_le _, rfl, rfl⟩
  case round =>
    obtain ⟨x, hx, rfl, rfl⟩ := hrel
    by_cases hx2 : x < wd
    · have d1 : decide ((x : Int) < (wd : Int)) = true := by simp; omega
      go_wp2
      go_round
      case rel => exact ⟨x + 1, by omega, by go_num, by go_num⟩
      case measure => simp [intOf]; omega
    · obtain rfl : x = wd := by omega
      have d1 : decide ((x : Int) < (x : Int)) = false := by simp
      go_wp2
      go_loop [9, 11] (fun v9 v11 => ∃ y : Nat, y ≤ ht ∧ v9 = .int .i64 (y : Int) ∧ v11 = .int .i64 (y : Int)) (fun _ v => ht - (intOf v).toNat)
      case atStart => exact ⟨0, Nat.zero_le _, rfl, rfl⟩
      case round =>
        obtain ⟨y, hy, rfl, rfl⟩ := hrel
        by_cases hy2 : y < ht
        · have d2 : decide ((y : Int) < (ht : Int)) = true := by simp; omega
          go_wp2
          go_round
          case rel => exact ⟨y + 1, by omega, by go_num, by go_num⟩
          case measure => simp [intOf]; omega
        · obtain rfl : y = ht := by omega
          have d2 : decide ((y : Int) < (y : Int)) = false := by simp
          go_wp2
          go_ret2
          exact ⟨rfl, (Keep.refl Nil2 w).alloc _⟩

attribute [local go_sem] max2_max max_two'
/-- Bytes from one pixel to the next. -/
def stepB (depth colour : Nat) : Nat := max 1 (chan colour * depth / 8)

set_option maxHeartbeats 2000000 in
theorem specStep (w : World) (wd ht depth colour : Nat) (h : KindOk colour depth) :
    Calls Tryz.prog 77 #[shapeV wd ht depth colour] w fun e w' => e = .returned (.int .i64 (stepB depth colour : Int)) ∧ Keep Nil2 w w' := by
  have hch := fun V => specChannels V colour h.c
  obtain ⟨ch, hc⟩ : ∃ ch, ch = chan colour := ⟨_, rfl⟩
  have hc4 := (chan_pos colour)
  have hd16 : depth ≤ 16 := by unfold KindOk at h; omega
  obtain ⟨q, hq⟩ : ∃ q, q = ch * depth := ⟨_, rfl⟩
  rw [← hc] at hch hc4
  have hq2 : q ≤ 64 := by rw [hq]; exact Nat.mul_le_mul hc4.2 hd16
  have e2 : IntKind.i64.wrap ((ch : Int) * (depth : Int)) = (q : Int) := by rw [← Int.natCast_mul, ← hq]; exact IntWalk.i64_in _ (by omega)
  obtain ⟨r, hr⟩ : ∃ r, r = max 1 (q / 8) := ⟨_, rfl⟩
  have e3 : max (1 : Int) ((q : Int) / 8) = (r : Int) := by omega
  have HR := Lib.hid (show stepB depth colour = r by unfold stepB; rw [← hc, ← hq, hr])
  clear hc hq hr
  unfold shapeV
  go_enter Tryz.func77, Tryz.ntmps77
  go_wp2
  go_quiet ((go_at_call 39; exact Calls.quiet_of_same ((hch _).mono fun _ _ ⟨a, b⟩ => ⟨a, b.symm⟩)))
  go_wp2
  go_ret
  exact ⟨by rw [HR.out]; rfl, ((Keep.refl Nil2 w).alloc _).drewN _⟩
end Go.Proofs.YtnbbppjgamdfeaaGreatDoor
end

/- The reference's PartNeed, Need. -/
section
set_option linter.unusedVariables false
set_option linter.unusedSimpArgs false
namespace Go.Proofs.YtnbbppjgamdfeaaGreatDoor
open Go Go.RowKit

/-- The shape lies in block pb. -/
def ShS (w : World) (pb wd ht depth colour : Nat) (w' : World) : Prop := w'.cell? ⟨pb, 0, none⟩ = some (.int .i64 (wd : Int)) ∧ w'.cell? ⟨pb, 1, none⟩ = some (.int .i64 (ht : Int)) ∧ w'.cell? ⟨pb, 2, none⟩ = some (.int .i64 (depth : Int)) ∧ w'.cell? ⟨pb, 3, none⟩ = some (.int .i64 (colour : Int)) ∧ w'.cell? ⟨pb, 4, none⟩ = some (.bool false) ∧ Keep Nil2 w w'
theorem shS_keep {w : World} {pb wd ht depth colour : Nat} {V V' : World} (h : ShS w pb wd ht depth colour V) (hk : Keep Nil2 V V') : ShS w pb wd ht depth colour V' :=
  ⟨hk.get h.1 fun e => e, hk.get h.2.1 fun e => e, hk.get h.2.2.1 fun e => e, hk.get h.2.2.2.1 fun e => e, hk.get h.2.2.2.2.1 fun e => e, h.2.2.2.2.2.trans hk⟩

set_option maxHeartbeats 4000000 in
set_option maxRecDepth 100000 in
theorem specPartNeed (w : World) (wd ht depth colour k : Nat) (h : KindOk colour depth) (hw : 0 < wd ∧ wd ≤ 60) (hh : 0 < ht ∧ ht ≤ 60) :
    Calls Tryz.prog 49 #[shapeV wd ht depth colour, .int .i64 (k : Int)] w fun e w' => e = .returned (.int .i64 ((ht * (1 + rowB wd depth colour) : Nat) : Int)) ∧ Keep Nil2 w w' := by
  have hrb : rowB wd depth colour ≤ 480 := by
    unfold rowB
    have h1 : wd * chan colour ≤ 60 * 4 := Nat.mul_le_mul hw.2 (chan_pos colour).2
    have h2 : wd * chan colour * depth ≤ 60 * 4 * 16 := Nat.mul_le_mul h1 (by unfold KindOk at h; omega)
    omega
  have hR := fun V => specRowBytes V wd ht depth colour h hw.2
  obtain ⟨rb, hrb'⟩ : ∃ rb, rb = rowB wd depth colour := ⟨_, rfl⟩
  rw [← hrb'] at hR hrb ⊢
  obtain ⟨n, hn⟩ : ∃ n, n = ht * (1 + rb) := ⟨_, rfl⟩
  have hn2 : n ≤ 60 * 481 := by rw [hn]; exact Nat.mul_le_mul hh.2 (by omega)
  rw [← hn]
  have e1 : IntKind.i64.wrap (1 + (rb : Int)) = ((1 + rb : Nat) : Int) := by rw [IntWalk.i64_in _ (by omega)]; omega
  have e2 : (ht : Int) * (1 + (rb : Int)) = (n : Int) := by rw [hn]; simp
  have e3 : IntKind.i64.wrap ((ht : Int) * (1 + (rb : Int))) = (n : Int) := by rw [e2]; exact IntWalk.i64_in _ (by omega)
  have HR := Lib.hid hR
  clear hrb' hn hR
  unfold shapeV at HR ⊢
  go_enter Tryz.func49, Tryz.ntmps49
  go_wp2
  obtain ⟨pb, hpb⟩ : ∃ pb, pb = w.heap.size := ⟨_, rfl⟩
  rw [← hpb]
  obtain ⟨w1, hw1⟩ : ∃ w1, w1 = w.alloc (.cells #[.int .i64 (wd : Int), .int .i64 (ht : Int), .int .i64 (depth : Int), .int .i64 (colour : Int), .bool false] 30) := ⟨_, rfl⟩
  rw [← hw1]
  have hs0 : ShS w pb wd ht depth colour w1 := by
    rw [hw1, hpb]
    have hh := heap_alloc_new w (.cells #[.int .i64 (wd : Int), .int .i64 (ht : Int), .int .i64 (depth : Int), .int .i64 (colour : Int), .bool false] 30)
    exact ⟨cell_of_row _ _ _ _ _ _ hh, cell_of_row _ _ _ _ _ _ hh, cell_of_row _ _ _ _ _ _ hh, cell_of_row _ _ _ _ _ _ hh, cell_of_row _ _ _ _ _ _ hh, (Keep.refl Nil2 w).alloc _⟩
  clear hw1 hpb
  have KS := Lib.hid (fun V V' (h : ShS w pb wd ht depth colour V) (hk : Keep Nil2 V V') => shS_keep h hk)
  have K1 := Lib.hid (fun V (h : ShS w pb wd ht depth colour V) => (specPartOf V k).mono (fun e w' (h2 : e = .returned partV ∧ Keep Nil2 V w') => And.intro h2.1 (show ShS w pb wd ht depth colour w' from shS_keep h h2.2)))
  have K2 := Lib.hid (fun V (h : ShS w pb wd ht depth colour V) => (specSize V wd ht hw hh).mono (fun e w' (h2 : e = .returned (.tuple #[.int .i64 (wd : Int), .int .i64 (ht : Int)]) ∧ Keep Nil2 V w') => And.intro h2.1 (show ShS w pb wd ht depth colour w' from shS_keep h h2.2)))
  unfold partV at K1 K2
  go_region_held3 (fun w' => w'.cell? ⟨pb, 0, none⟩ = some (.int .i64 (wd : Int)) ∧ w'.cell? ⟨pb, 1, none⟩ = some (.int .i64 (ht : Int)) ∧ w'.cell? ⟨pb, 2, none⟩ = some (.int .i64 (depth : Int)) ∧ w'.cell? ⟨pb, 3, none⟩ = some (.int .i64 (colour : Int)) ∧ w'.cell? ⟨pb, 4, none⟩ = some (.bool false) ∧ Keep Nil2 w w')
    (first | assumption | exact KS.out _ _ (by assumption) ((Keep.refl Nil2 _).drew))
    (first | (go_at_call 50; refine (K1.out _ (by assumption)).mono ?_; rintro e w2 ⟨rfl, hsR⟩) | (go_at_call 52; refine (K2.out _ (by assumption)).mono ?_; rintro e w3 ⟨rfl, hsR⟩))
  have hS : ShS w pb wd ht depth colour w3 := by assumption
  obtain ⟨c0, c1, c2, c3, c4, hkS⟩ := hS
  have HKS := Lib.hid hkS
  clear hkS
  go_wp2_with (go_at_call 75; fail)
  refine (HR.out _).mono ?_
  rintro e w4 ⟨rfl, hk4⟩
  go_wp2
  go_ret
  exact ⟨rfl, HKS.out.trans hk4⟩

set_option maxHeartbeats 4000000 in
set_option maxRecDepth 100000 in
theorem specNeed (w : World) (wd ht depth colour : Nat) (h : KindOk colour depth) (hw : 0 < wd ∧ wd ≤ 60) (hh : 0 < ht ∧ ht ≤ 60) :
    Calls Tryz.prog 35 #[shapeV wd ht depth colour] w fun e w' => e = .returned (.int .i64 ((ht * (1 + rowB wd depth colour) : Nat) : Int)) ∧ Keep Nil2 w w' := by
  have hN := fun V => specPartNeed V wd ht depth colour 0 h hw hh
  have hP := specPasses
  obtain ⟨n, hn⟩ : ∃ n, n = ht * (1 + rowB wd depth colour) := ⟨_, rfl⟩
  have hn2 : n ≤ 60 * 481 := by
    rw [hn]
    refine Nat.mul_le_mul hh.2 ?_
    unfold rowB
    have h1 : wd * chan colour ≤ 60 * 4 := Nat.mul_le_mul hw.2 (chan_pos colour).2
    have h2 : wd * chan colour * depth ≤ 60 * 4 * 16 := Nat.mul_le_mul h1 (by unfold KindOk at h; omega)
    omega
  rw [← hn] at hN ⊢
  have e1 : IntKind.i64.wrap (0 + (n : Int)) = (n : Int) := by rw [Int.zero_add]; exact IntWalk.i64_in _ (by omega)
  clear hn
  unfold shapeV at hN ⊢
  have HN := Lib.hid hN
  clear hN
  go_enter Tryz.func35, Tryz.ntmps35
  go_wp2_with (go_at_call 48; fail)
  refine (hP _).mono ?_
  rintro e w1 ⟨rfl, rfl⟩
  go_wp2
  refine wp_loop_rounds 2 ?_
  rw [rounds_succ]
  go_wp2_with (go_at_call 49; fail)
  refine (HN.out _).mono ?_
  rintro e w2 ⟨rfl, hk2⟩
  go_wp2
  rw [rounds_succ]
  go_wp2
  go_ret
  exact ⟨rfl, ((Keep.refl Nil2 w).alloc _).trans hk2⟩
end Go.Proofs.YtnbbppjgamdfeaaGreatDoor
end

/- The reference's predicted: a row without a filter. -/
section
set_option linter.unusedVariables false
set_option linter.unusedSimpArgs false
namespace Go.Proofs.YtnbbppjgamdfeaaGreatDoor
open Go Go.RowKit

set_option maxHeartbeats 2000000 in
set_option maxRecDepth 100000 in
theorem specPredicted {w : World} {r a : List UInt8} (b o c b' o' c' n k st : Nat) (hr : BytesAt w b o r) (ha : BytesAt w b' o' a) (hn : n = r.length) (hn' : n = a.length) (hk : k < n) (hst : 0 < st) (hst2 : st ≤ 1000) (hn2 : n ≤ 1000) :
    Calls Tryz.prog 91 #[.int .i64 0, .slice (some ⟨b, o, none⟩) n c, .slice (some ⟨b', o', none⟩) n c', .int .i64 (k : Int), .int .i64 (st : Int)] w fun e w' => e = .returned (.int .i64 0) ∧ Keep Nil2 w w' := by
  obtain ⟨xk, hxk⟩ : ∃ x, a[k]? = some x := ⟨a[k]'(by omega), List.getElem?_eq_getElem _⟩
  have ck := ha.at_ k xk hxk
  have hkI : (k : Int) < n := by omega
  by_cases hs : st ≤ k
  · obtain ⟨m, hm⟩ : ∃ m, m = k - st := ⟨_, rfl⟩
    have hmn : m < n := by omega
    have e1 : IntKind.i64.wrap ((k : Int) - (st : Int)) = (m : Int) := by rw [IntWalk.i64_in _ (by omega)]; omega
    have e2 : (k : Int) - (st : Int) = (m : Int) := by omega
    have e3 : decide ((st : Int) ≤ (k : Int)) = true := by simp; omega
    have hmI : (m : Int) < n := by omega
    obtain ⟨x1, hx1⟩ : ∃ x, r[m]? = some x := ⟨r[m]'(by omega), List.getElem?_eq_getElem _⟩
    obtain ⟨x2, hx2⟩ : ∃ x, a[m]? = some x := ⟨a[m]'(by omega), List.getElem?_eq_getElem _⟩
    have c1 := hr.at_ m x1 hx1
    have c2 := ha.at_ m x2 hx2
    clear hm hn hn' hx1 hx2 hxk
    go_enter Tryz.func91, Tryz.ntmps91
    go_wp2
    go_quiet (fail)
    go_wp2
    go_quiet (fail)
    go_wp2
    go_ret
    exact ⟨rfl, by repeat (first | exact Keep.refl _ _ | apply Keep.drewN)⟩
  · have e3 : decide ((st : Int) ≤ (k : Int)) = false := by simp; omega
    clear hn hn' hxk
    go_enter Tryz.func91, Tryz.ntmps91
    go_wp2
    go_quiet (fail)
    go_wp2
    go_ret
    exact ⟨rfl, by repeat (first | exact Keep.refl _ _ | apply Keep.drewN)⟩
end Go.Proofs.YtnbbppjgamdfeaaGreatDoor
end
