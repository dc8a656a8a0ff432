/- laws.FnBack, part 15 of 54: U0 U1 H1. -/
import Derived.Test.YtnbbppjgamdfeaaGreatDoorY14
import Derived.Test.YtnbbppjgamdfeaaGreatDoorY06
import Derived.Test.YtnbbppjgamdfeaaGreatDoorY12
import Derived.Test.YtnbbppjgamdfeaaGreatDoorY02

/- The reference's PixelBytes, apart, whole, pixel. -/
section
set_option linter.unusedVariables false
set_option linter.unusedSimpArgs false
namespace Go.Proofs.YtnbbppjgamdfeaaGreatDoor
open Go Go.RowKit

/-- How many bytes a pixel of a kind has. -/
def pixN (k : Nat) : Nat := if k = 1 ∨ k = 7 then 1 else if k = 2 then 2 else if k = 3 ∨ k = 5 then 4 else 8
/-- A truth value was handed back. -/
def IsBool (e : Ending) : Prop := ∃ q : Bool, e = .returned (.bool q)
theorem kind7 {k : Nat} (hk : 1 ≤ k ∧ k ≤ 7) : k = 1 ∨ k = 2 ∨ k = 3 ∨ k = 4 ∨ k = 5 ∨ k = 6 ∨ k = 7 := by omega

set_option maxHeartbeats 2000000 in
theorem specPixelBytes (w : World) (k : Nat) (hk : 1 ≤ k ∧ k ≤ 7) :
    Calls Tryz.prog 10 #[.int .i64 (k : Int)] w fun e w' => e = .returned (.int .i64 (pixN k : Int)) ∧ w' = w := by
  rcases kind7 hk with rfl | rfl | rfl | rfl | rfl | rfl | rfl
  all_goals
    go_enter Tryz.func10, Tryz.ntmps10
    go_wp2
    go_ret
    exact ⟨rfl, rfl⟩

set_option maxHeartbeats 2000000 in
theorem specApart (w : World) (v a : Nat) (hv : v ≤ 65535) (ha : a ≤ 65535) :
    Calls Tryz.prog 46 #[.int .i64 (v : Int), .int .i64 (a : Int)] w fun e w' => ∃ z : Nat, e = .returned (.int .i64 (z : Int)) ∧ z ≤ 4294901760 ∧ w' = w := by
  by_cases h0 : a = 0
  · have h1 : ((a : Int) == 0) = true := by simp; omega
    go_enter Tryz.func46, Tryz.ntmps46
    go_wp2
    go_ret
    exact ⟨0, rfl, by omega, rfl⟩
  · have h1 : ((a : Int) == 0) = false := by simp; omega
    have h2 : ¬ (a : Int) = 0 := by omega
    obtain ⟨m, hm⟩ : ∃ m, m = v * 65535 := ⟨_, rfl⟩
    have h3 : IntKind.i64.wrap ((v : Int) * 65535) = (m : Int) := by rw [IntWalk.i64_in _ (by omega)]; omega
    have h5 : m / a ≤ m := Nat.div_le_self _ _
    have h6 : m / a ≤ 4294901760 := by omega
    have h7 : (m : Int) / (a : Int) = ((m / a : Nat) : Int) := by simp
    generalize m / a = r at h5 h6 h7
    have h4 : wrap64 ((m : Int) / (a : Int)) = (r : Int) := by rw [h7]; unfold wrap64; omega
    clear hm h7
    go_enter Tryz.func46, Tryz.ntmps46
    go_wp2
    go_ret
    exact ⟨r, by rw [← h4]; rfl, h6, rfl⟩

set_option maxHeartbeats 2000000 in
theorem specTwo {w : World} {bb b o n c : Nat} {l : List UInt8} (hbb : w.cell? ⟨bb, 0, none⟩ = some (.slice (some ⟨b, o, none⟩) n c)) (hb : BytesAt w b o l) (hn : n = l.length) (k : Nat) (hk : k + 1 < l.length) (hk2 : k ≤ 100) :
    Calls Tryz.prog 45 #[.int .i64 (k : Int), .pointer (some ⟨bb, 0, none⟩)] w fun e w' => ∃ z : Nat, z ≤ 65535 ∧ e = .returned (.int .i64 (z : Int)) ∧ ∃ q, w' = w.drewN q := by
  have c0 := hb.at_ k l[k] (List.getElem?_eq_getElem (by omega))
  have c1 := hb.at_ (k + 1) l[k + 1] (List.getElem?_eq_getElem hk)
  have hu0 := u8_lt l[k]
  have hu1 := u8_lt l[k + 1]
  generalize l[k].toNat = u0 at c0 hu0
  generalize l[k + 1].toNat = u1 at c1 hu1
  rw [show o + (k + 1) = o + k + 1 by omega] at c1
  have k1 : IntKind.i64.wrap ((k : Int) + 1) = ((k + 1 : Nat) : Int) := by rw [IntWalk.i64_in _ (by omega)]; omega
  have e0 : (k : Int) < n := by omega
  have e1 : ((k + 1 : Nat) : Int) < n := by omega
  have e2 : o + (k + 1) = o + k + 1 := by omega
  have eo : bits BinOp.or IntKind.i64 ((u0 : Int) * 256) (u1 : Int) = ((u0 * 256 + u1 : Nat) : Int) := by
    rw [show (u0 : Int) * 256 = ((u0 * 256 : Nat) : Int) by omega, i64_or_nat _ _ (by omega) (by omega), or_add _ _ 8 (by omega) (by omega)]
  have w0 : IntKind.i64.wrap (u0 : Int) = (u0 : Int) := IntWalk.i64_in _ (by omega)
  have w1 : IntKind.i64.wrap (u1 : Int) = (u1 : Int) := IntWalk.i64_in _ (by omega)
  have w2 : IntKind.i64.wrap ((u0 : Int) * 256) = (u0 : Int) * 256 := IntWalk.i64_in _ (by omega)
  clear hn
  go_enter Tryz.func45, Tryz.ntmps45
  go_wp2
  go_quiet (fail)
  go_wp2
  go_ret
  exact ⟨u0 * 256 + u1, by omega, rfl, _, rfl⟩

set_option maxHeartbeats 2000000 in
theorem specWhole {w : World} (kind wide high stride b o n c : Nat) (hk : 1 ≤ kind ∧ kind ≤ 7) (l : List UInt8) (hb : BytesAt w b o l) (hn : n = l.length) (hl : l.length = stride * high) (hs : wide * pixN kind ≤ stride) (hw : wide ≤ 60) (hh : high ≤ 60) (hst : stride ≤ 1000) (hnc : n ≤ c) :
    Calls Tryz.prog 30 #[.int .i64 (kind : Int), .int .i64 (wide : Int), .int .i64 (high : Int), .int .i64 (stride : Int), .slice (some ⟨b, o, none⟩) n c] w fun e w' => IsBool e ∧ w' = w := by
  have hp := fun w => specPixelBytes w kind hk
  obtain ⟨p, hpp⟩ : ∃ p, p = pixN kind := ⟨_, rfl⟩
  have hp8 : p = 1 ∨ p = 2 ∨ p = 4 ∨ p = 8 := by rw [hpp]; unfold pixN; split; omega; split; omega; split <;> omega
  rw [← hpp] at hp hs
  have HN := Lib.hid hn
  have HL := Lib.hid hl
  clear hpp hn hl
  go_enter Tryz.func30, Tryz.ntmps30
  go_wp2_with (go_at_call 10; fail)
  refine (hp _).mono ?_
  rintro e w1 ⟨rfl, rfl⟩
  go_wp2
  go_loop [12, 13, 14, 18] (fun v12 v13 v14 v18 => ∃ y : Nat, y ≤ high ∧ v18 = .int .i64 (y : Int)) (fun _ _ _ v => high - (intOf v).toNat)
  case atStart => exact ⟨0, Nat.zero_le _, rfl⟩
  case round =>
    obtain ⟨y, hy, rfl⟩ := hrel
    by_cases hy2 : y < high
    · have d1 : decide ((y : Int) < (high : Int)) = true := by simp; omega
      go_wp2
      go_loop [13, 14, 22] (fun v13 v14 v22 => ∃ x : Nat, x ≤ wide ∧ v22 = .int .i64 (x : Int)) (fun _ _ v => wide - (intOf v).toNat)
      case atStart => exact ⟨0, Nat.zero_le _, rfl⟩
      case round =>
        obtain ⟨x, hx, rfl⟩ := hrel
        by_cases hx2 : x < wide
        · have d2 : decide ((x : Int) < (wide : Int)) = true := by simp; omega
          obtain ⟨a, ha⟩ : ∃ a, a = y * stride := ⟨_, rfl⟩
          obtain ⟨f, hf⟩ : ∃ f, f = x * p := ⟨_, rfl⟩
          have ha1 : a + stride ≤ stride * high := by
            have : (y + 1) * stride ≤ high * stride := Nat.mul_le_mul_right _ hy2
            rw [Nat.add_mul, Nat.mul_comm high] at this
            omega
          have hf1 : f + p ≤ stride := by
            have : (x + 1) * p ≤ wide * p := Nat.mul_le_mul_right _ hx2
            rw [Nat.add_mul] at this
            omega
          have hal : a ≤ 60 * 1000 := by rw [ha]; exact Nat.mul_le_mul (by omega) hst
          have e0 : IntKind.i64.wrap ((y : Int) * (stride : Int)) = (a : Int) := by rw [ha, IntWalk.i64_in _ (by rw [← Int.natCast_mul, ← ha]; omega)]; simp
          have e1 : IntKind.i64.wrap ((x : Int) * (p : Int)) = (f : Int) := by rw [hf, IntWalk.i64_in _ (by rw [← Int.natCast_mul, ← hf]; omega)]; simp
          have e2 : IntKind.i64.wrap ((a : Int) + (f : Int)) = ((a + f : Nat) : Int) := by rw [IntWalk.i64_in _ (by omega)]; omega
          have hab : a + f + p ≤ n := by have := HN.out; have := HL.out; omega
          have e3 : ((a + f : Nat) : Int) ≤ n := by omega
          have e4 : ¬ c = a + f := by omega
          have hpos : 0 < p := by omega
          have hB : BytesAt w1 b (o + (a + f)) (l.drop (a + f)) := hb.drop (a + f)
          have hdl : (l.drop (a + f)).length = n - (a + f) := by rw [List.length_drop, HN.out]
          clear ha hf
          rcases hp8 with h | h | h | h
          · have qa : ((p : Int) == 4) = false := by simp; omega
            have qb : ((p : Int) == 8) = false := by simp; omega
            clear h
            go_wp2
            go_round
            case rel => exact ⟨x + 1, by omega, by go_num⟩
            case measure => simp [intOf]; omega
          · have qa : ((p : Int) == 4) = false := by simp; omega
            have qb : ((p : Int) == 8) = false := by simp; omega
            clear h
            go_wp2
            go_round
            case rel => exact ⟨x + 1, by omega, by go_num⟩
            case measure => simp [intOf]; omega
          · have qa : ((p : Int) == 4) = true := by simp; omega
            have qb : ((p : Int) == 8) = false := by simp; omega
            have l3 : (3 : Int) < ((n - (a + f) : Nat) : Int) := by omega
            have l3' : 3 < n - (a + f) := by omega
            have c3 := hB 3 (by omega)
            have hu3 := u8_lt ((l.drop (a + f))[3]'(by omega))
            generalize ((l.drop (a + f))[3]'(by omega)).toNat = u3 at c3 hu3
            clear h
            by_cases h3 : u3 = 255
            · have q3 : ((u3 : Int) == 255) = true := by simp; omega
              go_wp2
              go_round
              case rel => exact ⟨x + 1, by omega, by go_num⟩
              case measure => simp [intOf]; omega
            · have q3 : ((u3 : Int) == 255) = false := by simp; omega
              go_wp2
              go_ret
              exact ⟨⟨false, rfl⟩, rfl⟩
          · have qa : ((p : Int) == 4) = false := by simp; omega
            have qb : ((p : Int) == 8) = true := by simp; omega
            have l6 : (6 : Int) < ((n - (a + f) : Nat) : Int) := by omega
            have l6' : 6 < n - (a + f) := by omega
            have l7 : (7 : Int) < ((n - (a + f) : Nat) : Int) := by omega
            have l7' : 7 < n - (a + f) := by omega
            have c6 := hB 6 (by omega)
            have hu6 := u8_lt ((l.drop (a + f))[6]'(by omega))
            generalize ((l.drop (a + f))[6]'(by omega)).toNat = u6 at c6 hu6
            have c7 := hB 7 (by omega)
            have hu7 := u8_lt ((l.drop (a + f))[7]'(by omega))
            generalize ((l.drop (a + f))[7]'(by omega)).toNat = u7 at c7 hu7
            clear h
            by_cases h6 : u6 = 255
            · have q6 : ((u6 : Int) == 255) = true := by simp; omega
              by_cases h7 : u7 = 255
              · have q7 : ((u7 : Int) == 255) = true := by simp; omega
                go_wp2
                go_round
                case rel => exact ⟨x + 1, by omega, by go_num⟩
                case measure => simp [intOf]; omega
              · have q7 : ((u7 : Int) == 255) = false := by simp; omega
                go_wp2
                go_ret
                exact ⟨⟨false, rfl⟩, rfl⟩
            · have q6 : ((u6 : Int) == 255) = false := by simp; omega
              go_wp2
              go_ret
              exact ⟨⟨false, rfl⟩, rfl⟩
        · have d2 : decide ((x : Int) < (wide : Int)) = false := by simp; omega
          go_wp2
          go_round
          case rel => exact ⟨y + 1, by omega, by go_num⟩
          case measure => simp [intOf]; omega
    · have d1 : decide ((y : Int) < (high : Int)) = false := by simp; omega
      go_wp2
      go_ret
      exact ⟨⟨true, rfl⟩, rfl⟩
end Go.Proofs.YtnbbppjgamdfeaaGreatDoor
end

/- The reference's pixel. -/
section
set_option linter.unusedVariables false
set_option linter.unusedSimpArgs false
namespace Go.Proofs.YtnbbppjgamdfeaaGreatDoor
open Go Go.RowKit

/-- How many bytes a pixel of a kind has as it is written. -/
def pixLen (k : Nat) (opq : Bool) : Nat := if k = 1 ∨ k = 7 then 1 else if k = 2 then 2 else if k = 3 ∨ k = 5 then (if opq then 3 else 4) else (if opq then 6 else 8)
/-- The bytes of a pixel were handed back. -/
def PixPost (w : World) (k : Nat) (opq : Bool) (bb : Nat) (l : List UInt8) (e : Ending) (w' : World) : Prop :=
  ∃ b o n c m, e = .returned (.slice (some ⟨b, o, none⟩) n c) ∧ n = m.length ∧ BytesAt w' b o m ∧ m.length = pixLen k opq ∧ (k = 1 ∨ k = 7 → m = l.take 1 ∧ b = bb) ∧ Keep Nil2 w w'
theorem PixPost.cut {w w' : World} {k : Nat} {opq : Bool} {l : List UInt8} {b o c : Nat} (j : Nat) (hj : pixLen k opq = j) (hl : j ≤ l.length) (hb : BytesAt w b o l) (hk : Keep Nil2 w w') (h1 : k = 1 ∨ k = 7 → j = 1) : PixPost w k opq b l (.returned (.slice (some ⟨b, o, none⟩) j c)) w' :=
  ⟨b, o, j, c, l.take j, rfl, by rw [List.length_take]; omega, (hb.keep hk fun _ _ e => e).take j, by rw [List.length_take, hj]; omega, fun e => ⟨by rw [h1 e], rfl⟩, hk⟩
theorem PixPost.own {w w' : World} {k : Nat} {opq : Bool} {bb : Nat} {l m : List UInt8} {v : Value} (h : OwnB w' w.heap.size v m) (hm : m.length = pixLen k opq) (hm0 : 0 < m.length) (hk : Keep Nil2 w w') (h1 : ¬ (k = 1 ∨ k = 7)) : PixPost w k opq bb l (.returned v) w' := by
  obtain ⟨g, cap, rfl, _, _, _, hb, _⟩ := h.slice hm0
  exact ⟨g, 0, _, cap, m, rfl, rfl, hb, hm, fun e => absurd e h1, hk⟩

/-- What stands of the world while a pixel's bytes are laid. -/
def PixS (bb b o n c : Nat) (l : List UInt8) (wr : World) (j uj i u3 : Nat) (v8 : Value) (lst : List UInt8) (w' : World) : Prop :=
  w'.cell? ⟨bb, 0, none⟩ = some (.slice (some ⟨b, o, none⟩) n c) ∧ w'.cell? ⟨b, o + j, none⟩ = some (.int .u8 (uj : Int)) ∧ w'.cell? ⟨b, o + i, none⟩ = some (.int .u8 (u3 : Int)) ∧ OwnB w' (bb + 1) v8 lst ∧ BytesAt w' b o l ∧ Keep (fun k _ => v8.ownBlock = some k) wr w'
theorem pixS_keep (bb b o n c : Nat) (l : List UInt8) (wr : World) (j uj i u3 : Nat) (v8 : Value) (lst : List UInt8) (w1 w2 : World) (h : PixS bb b o n c l wr j uj i u3 v8 lst w1) (hk : Keep Nil2 w1 w2) : PixS bb b o n c l wr j uj i u3 v8 lst w2 :=
  ⟨hk.get h.1 fun e => e, hk.get h.2.1 fun e => e, hk.get h.2.2.1 fun e => e, h.2.2.2.1.keep hk fun _ _ _ e => e, h.2.2.2.2.1.keep hk fun _ _ e => e, h.2.2.2.2.2.trans (hk.mono fun _ _ _ e => e.elim)⟩
theorem pixS_base {bb b o n c : Nat} {l : List UInt8} {wr : World} {j uj i u3 : Nat} {v8 : Value} {lst : List UInt8} {V : World} (h : PixS bb b o n c l wr j uj i u3 v8 lst V) (hsz : bb + 1 ≤ wr.heap.size) : bb + 1 ≤ V.heap.size := by
  have := h.2.2.2.2.2.size
  omega
theorem pixS_app {bb b o n c : Nat} {l : List UInt8} {wr : World} {j uj i u3 : Nat} {v8 : Value} {lst : List UInt8} {V V' : World} (h : PixS bb b o n c l wr j uj i u3 v8 lst V) (hk : Keep (fun k _ => v8.ownBlock = some k) V V') (ho : OwnB V' (bb + 1) v8 lst) (hbw : b < bb) : PixS bb b o n c l wr j uj i u3 v8 lst V' := by
  have hge := fun k e => (h.2.2.2.1.block_ge k e).1
  exact ⟨hk.get h.1 fun e => by have := hge _ e; omega, hk.get h.2.1 fun e => by have := hge _ e; omega, hk.get h.2.2.1 fun e => by have := hge _ e; omega, ho, h.2.2.2.2.1.keep hk fun _ _ e => by have := hge _ e; omega, h.2.2.2.2.2.trans hk⟩
theorem litOne (V : World) (X : Int) (x : UInt8) (h : X = (x.toNat : Int)) : BytesAt (V.alloc (.cells #[.int .u8 X] 5)) V.heap.size 0 [x] := by
  subst h
  intro j hj
  have : j = 0 := by simp at hj; omega
  subst this
  rw [Nat.zero_add, cell_of_row _ _ _ _ _ _ (heap_alloc_new V _)]
  rfl
theorem litOneD (V : World) (X : Int) (x : UInt8) (h : X = (x.toNat : Int)) : BytesAt ((V.alloc (.cells #[.int .u8 X] 5)).drew) V.heap.size 0 [x] :=
  (litOne V X x h).keep ((Keep.refl Nil2 _).drew) fun _ _ e => e
theorem wrapDiv (z : Nat) (h : z ≤ 4294901760) : IntKind.u8.wrap ((z : Int) / 256) = ((b8 (z / 256)).toNat : Int) := by
  rw [b8_toNat]
  show ((z : Int) / 256) % 256 = _
  omega
theorem lit2 (z : Nat) : (#[Value.int .u8 (IntKind.u8.wrap ((z : Int) / 256)), Value.int .u8 (IntKind.u8.wrap (z : Int))] : Array Value).toList = bytesV [b8 (z / 256), b8 z] := by
  simp only [bytesV, List.map, b8_toNat]
  show [Value.int .u8 (((z : Int) / 256) % 256), Value.int .u8 ((z : Int) % 256)] = _
  rw [show ((z : Int) / 256) % 256 = ((z / 256 % 256 : Nat) : Int) by omega, show (z : Int) % 256 = ((z % 256 : Nat) : Int) by omega]
/-- What was written in a new block changes nothing old. -/
theorem keep_lay {W w w' : World} {v : Value} {l : List UInt8} {base : Nat} (h : Keep Nil2 W w) (hown : OwnB w base v l) (hk : Keep (fun k _ => v.ownBlock = some k) w w') (hb : W.heap.size ≤ base := by omega) : Keep Nil2 W w' :=
  h.then hk (fun _ _ _ e => e) fun i o hi e => absurd (hown.block_ge i e).1 (by omega)
theorem litTwoD (V : World) (x y : UInt8) : BytesAt ((V.alloc (.cells #[.int .u8 (x.toNat : Int), .int .u8 (y.toNat : Int)] 5)).drew) V.heap.size 0 [x, y] := by
  have h := ownB_lit V [x, y] #[.int .u8 (x.toNat : Int), .int .u8 (y.toNat : Int)] 2 rfl rfl (by omega)
  obtain ⟨g, cap, e, _, _, _, hb, _⟩ := h.slice (by simp)
  injection e with e
  injection e with e
  injection e with e
  subst e
  exact hb.keep ((Keep.refl Nil2 _).drew) fun _ _ e => e
theorem wrap257 (u : Nat) (h : u < 256) : ((257 * u : Nat) : Int) = IntKind.i64.wrap (257 * IntKind.i64.wrap (u : Int)) := by
  rw [IntWalk.i64_in (u : Int) (by omega), IntWalk.i64_in _ (by omega)]; omega
theorem cellBoxed (w : World) (v : Value) (t : TypeId) (x : Obj) : ((w.alloc (.cells #[v] t)).alloc x).cell? ⟨w.heap.size, 0, none⟩ = some v := by
  refine ((Keep.refl Nil2 (w.alloc (.cells #[v] t))).alloc x).get ?_ fun e => e
  rw [cell_of_row _ _ _ _ _ _ (heap_alloc_new w _)]
  rfl
theorem ownNew (w : World) : OwnB (w.alloc (.cells #[] 5)) w.heap.size (.slice (some ⟨w.heap.size, 0, none⟩) 0 0) [] := ownB_lit w [] #[] 0 rfl rfl (by omega)

set_option maxHeartbeats 8000000 in
set_option maxRecDepth 100000 in
theorem specPixel {w : World} (k b o n c : Nat) (opq : Bool) (hk : 1 ≤ k ∧ k ≤ 7) (l : List UInt8) (hb : BytesAt w b o l) (hn : n = l.length) (hl : pixN k ≤ l.length) (hnc : n ≤ c) :
    Calls Tryz.prog 31 #[.int .i64 (k : Int), .slice (some ⟨b, o, none⟩) n c, .bool opq] w (PixPost w k opq b l) := by
  have hmf : ∀ (fn : Fn) (first cap : Array Value) (w : World), (Instr.makeFunc fn first cap).run Tryz.prog w = .ok (.func fn first cap) w := fun _ _ _ _ => rfl
  have hp := fun w => specPixelBytes w k hk
  have HN := Lib.hid hn
  have hn8 : pixN k ≤ n := by omega
  clear hn
  have HBW := Lib.hid (hb.lt (by have := hl; unfold pixN at this; split at this; omega; split at this; omega; split at this <;> omega))
  rcases kind7 hk with rfl | rfl | rfl | rfl | rfl | rfl | rfl
  · have e0 : (1 : Int) ≤ c := by simp [pixN] at hn8; omega
    go_enter Tryz.func31, Tryz.ntmps31
    go_wp2
    go_ret
    exact PixPost.cut 1 rfl hl hb ((Keep.refl Nil2 w).alloc _) (fun _ => rfl)
  · have e0 : (2 : Int) ≤ c := by simp [pixN] at hn8; omega
    go_enter Tryz.func31, Tryz.ntmps31
    go_wp2
    go_ret
    exact PixPost.cut 2 rfl hl hb ((Keep.refl Nil2 w).alloc _) (fun e => by omega)
  · have e0 : (3 : Int) ≤ c := by simp [pixN] at hn8; omega
    have e1 : (6 : Int) ≤ c ∨ 4 = 4 := by simp [pixN] at hn8; omega
    cases opq
    · have hl4 : 4 ≤ l.length := hl
      have hn4 : 4 ≤ n := hn8
      have e5 : (4 : Int) ≤ c := by omega
      have l3 : (3 : Int) < n := by omega
      have hb1 := hb.keep ((Keep.refl Nil2 w).alloc (.cells #[.slice (some ⟨b, o, none⟩) n c] 23)) fun _ _ e => e
      have c3 := hb1 3 (by omega)
      have hu3 := u8_lt l[3]
      generalize l[3].toNat = u3 at c3 hu3
      by_cases h3 : u3 = 255
      · have q3 : ((u3 : Int) == 255) = true := by simp; omega
        go_enter Tryz.func31, Tryz.ntmps31
        go_wp2
        go_ret
        exact PixPost.cut 4 rfl hl hb ((Keep.refl Nil2 w).alloc _) (fun e => by omega)
      · have q3 : ((u3 : Int) == 255) = false := by simp; omega
        go_enter Tryz.func31, Tryz.ntmps31
        go_wp2
        have H1 := Lib.hid hb1
        have HK1 := Lib.hid (((Keep.refl Nil2 w).alloc (.cells #[.slice (some ⟨b, o, none⟩) n c] 23)).alloc (.cells #[] 5))
        have HB1 := Lib.hid (hb1.keep ((Keep.refl Nil2 _).alloc (.cells #[] 5)) fun _ _ e => e)
        have HC1 := Lib.hid (cellBoxed w (.slice (some ⟨b, o, none⟩) n c) 23 (.cells #[] 5))
        have HO1 := Lib.hid (ownNew (w.alloc (.cells #[.slice (some ⟨b, o, none⟩) n c] 23)))
        have hbb : w.heap.size + 1 = (w.alloc (.cells #[.slice (some ⟨b, o, none⟩) n c] 23)).heap.size := by simp
        clear hb1 c3
        go_loopg [8, 9, 57] 3 (fun G v8 v9 v57 wr => ∃ j g lst, g = G ∧ j + g = 3 ∧ v57 = .int .i64 (j : Int) ∧ OwnB wr (w.heap.size + 1) v8 lst ∧ lst.length = j ∧ wr.cell? ⟨w.heap.size, 0, none⟩ = some (.slice (some ⟨b, o, none⟩) n c) ∧ BytesAt wr b o l ∧ Keep Nil2 w wr)
        case atStart => exact ⟨0, 3, [], rfl, by omega, rfl, by rw [hbb]; exact HO1.out, rfl, HC1.out, HB1.out, HK1.out⟩
        case round =>
          clear hbb
          obtain ⟨j, g, lst, hG, hjg, rfl, hO, hlen, hC, hB, hK⟩ := hrel
          have HG := Lib.hid hG
          have HLEN := Lib.hid hlen
          have hsz : w.heap.size + 1 ≤ wr.heap.size := World.block_lt_of_cell? wr ⟨w.heap.size, 0, none⟩ hC
          have hbw : b < w.heap.size := HBW.out
          clear hG hlen
          by_cases hj : j < 3
          · have d1 : decide ((j : Int) < 3) = true := by simp; omega
            have cj := hB j (by omega)
            have c3 := hB 3 (by omega)
            have huj := u8_lt l[j]
            have hu3 := u8_lt l[3]
            generalize l[j].toNat = uj at cj huj
            generalize l[3].toNat = u3 at c3 hu3
            have lj : (j : Int) < n := by omega
            have ap := fun V => specApart V (257 * uj) (257 * u3) (by omega) (by omega)
            rw [wrap257 uj huj, wrap257 u3 hu3] at ap
            have AP := Lib.hid ap
            clear ap
            have KS := Lib.hid (pixS_keep w.heap.size b o n c l wr j uj 3 u3 u8 lst)
            have KO := Lib.hid (fun V (h : PixS w.heap.size b o n c l wr j uj 3 u3 u8 lst V) => h.2.2.2.1)
            have KH := Lib.hid (fun V (h : PixS w.heap.size b o n c l wr j uj 3 u3 u8 lst V) => (pixS_base h hsz))
            have KA := Lib.hid (fun V V' (h : PixS w.heap.size b o n c l wr j uj 3 u3 u8 lst V) (hk : Keep (fun k _ => u8.ownBlock = some k) V V') (ho : OwnB V' (w.heap.size + 1) u8 lst) => pixS_app h hk ho hbw)
            have hs0 : PixS w.heap.size b o n c l wr j uj 3 u3 u8 lst wr := ⟨hC, cj, c3, hO, hB, Keep.refl _ _⟩
            go_wp2
            go_region_held3 (fun w' => w'.cell? ⟨w.heap.size, 0, none⟩ = some (.slice (some ⟨b, o, none⟩) n c) ∧ w'.cell? ⟨b, o + j, none⟩ = some (.int .u8 (uj : Int)) ∧ w'.cell? ⟨b, o + 3, none⟩ = some (.int .u8 (u3 : Int)) ∧ OwnB w' (w.heap.size + 1) u8 lst ∧ BytesAt w' b o l ∧ Keep (fun k _ => u8.ownBlock = some k) wr w')
              (first | assumption | exact KA.out _ _ (by assumption) h2 h3 | exact KS.out _ _ (by assumption) ((Keep.refl Nil2 _).drew) | exact KS.out _ _ (by assumption) ((Keep.refl Nil2 _).alloc _))
              (first | (go_at_call 46; refine (AP.out _).mono ?_; rintro e w2 ⟨z, rfl, hz, rfl⟩) | (refine step_append_bytes rfl (.tmp 60) (.tmp 75) rfl (w.heap.size + 1) u8 lst rfl (KO.out _ (by assumption)) _ _ 1 1 [b8 (z / 256)] rfl rfl (litOneD _ _ _ (wrapDiv z hz)) (by have := HLEN.out; simp; omega) (KH.out _ (by assumption)) ?_; intro v' w' h1 h2 h3))
            have hS2 : PixS w.heap.size b o n c l wr j uj 3 u3 u8 lst w' := by assumption
            have HF := Lib.hid (And.intro h1 (And.intro hS2.1 (And.intro hS2.2.2.2.2.1 (keep_lay hK hO hS2.2.2.2.2.2))))
            clear h1 h2 h3 hS2 hs0 hO hC hB hK cj c3
            go_wp2
            go_roundg (g - 1)
            case measure => have := HG.out; omega
            case rel => exact ⟨j + 1, g - 1, _, rfl, by omega, by go_num, HF.out.1, by have := HLEN.out; simp; omega, HF.out.2.1, HF.out.2.2.1, HF.out.2.2.2⟩
          · obtain rfl : j = 3 := by omega
            have d1 : decide (((3 : Nat) : Int) < 3) = false := by decide
            have c3 := hB 3 (by omega)
            have hu3 := u8_lt l[3]
            have HX := Lib.hid (show l[3].toNat = l[3].toNat from rfl)
            have H3 := Lib.hid (And.intro hO (And.intro hB hK))
            clear hO hB hK
            go_wp2_with (at_builtin; refine wpList_append_bytes rfl (.tmp 78) (.tmp 82) rfl (w.heap.size + 1) u8 lst rfl (H3.out.1.alloc _) _ [l[3]] rfl (Src.of rfl (litOne wr _ _ rfl)) (by have := HLEN.out; simp; omega) (by simp; omega) ?_)
            intro v' w' h1 h2 hv'
            have HF := Lib.hid (And.intro h1 (keep_lay (H3.out.2.2.alloc _) (H3.out.1.alloc _) h2))
            clear h1 h2 hv'
            go_wp2
            go_ret
            exact PixPost.own (HF.out.1.lower (by omega)) (by have := HLEN.out; simp [pixLen]; omega) (by simp) HF.out.2 (by omega)
    · go_enter Tryz.func31, Tryz.ntmps31
      go_wp2_with (go_at_call 10; fail)
      refine (hp _).mono ?_
      rintro e w1 ⟨rfl, rfl⟩
      go_wp2
      go_ret
      exact PixPost.cut 3 rfl (by simp [pixN] at hl; omega) hb ((Keep.refl Nil2 w).alloc _) (fun e => by omega)
  · have e0 : (3 : Int) ≤ c := by simp [pixN] at hn8; omega
    have e1 : (6 : Int) ≤ c ∨ 8 = 4 := by simp [pixN] at hn8; omega
    cases opq
    · have hl8 : 8 ≤ l.length := hl
      have e5 : (8 : Int) ≤ c := by simp [pixN] at hn8; omega
      have hb1 := hb.keep ((Keep.refl Nil2 w).alloc (.cells #[.slice (some ⟨b, o, none⟩) n c] 23)) fun _ _ e => e
      have hc1 : (w.alloc (.cells #[.slice (some ⟨b, o, none⟩) n c] 23)).cell? ⟨w.heap.size, 0, none⟩ = some (.slice (some ⟨b, o, none⟩) n c) := by
        rw [cell_of_row _ _ _ _ _ _ (heap_alloc_new w _)]; rfl
      have hk1 := (Keep.refl Nil2 w).alloc (.cells #[.slice (some ⟨b, o, none⟩) n c] 23)
      have hsz1 : w.heap.size < (w.alloc (.cells #[.slice (some ⟨b, o, none⟩) n c] 23)).heap.size := by simp
      have TWO := Lib.hid (fun V (h1 : V.cell? ⟨w.heap.size, 0, none⟩ = some (.slice (some ⟨b, o, none⟩) n c)) (h2 : BytesAt V b o l) (k : Nat) (hk : k + 1 < 8) => specTwo h1 h2 HN.out k (by omega) (by omega))
      have H1 := Lib.hid (And.intro hc1 (And.intro hb1 hk1))
      have HBW := Lib.hid (hb.lt (by omega))
      clear hb1 hc1 hk1
      go_enter Tryz.func31, Tryz.ntmps31
      go_wp2_with (go_at_call 45; fail)
      refine (TWO.out _ H1.out.1 H1.out.2.1 6 (by omega)).mono ?_
      rintro e w1 ⟨z, hz, rfl, q, hw1⟩
      have HW1 := Lib.hid hw1
      have H2 := Lib.hid (show w1.cell? ⟨w.heap.size, 0, none⟩ = some (.slice (some ⟨b, o, none⟩) n c) ∧ BytesAt w1 b o l ∧ Keep Nil2 w w1 by
        rw [hw1]
        have hd := (Keep.refl Nil2 (w.alloc (.cells #[.slice (some ⟨b, o, none⟩) n c] 23))).drewN q
        exact ⟨hd.get H1.out.1 (fun e => e), H1.out.2.1.keep hd (fun _ _ e => e), H1.out.2.2.trans hd⟩)
      clear hw1
      by_cases h65 : z = 65535
      · have q3 : ((z : Int) == 65535) = true := by simp; omega
        have hcb := H2.out.1
        go_wp2
        go_ret
        exact PixPost.cut 8 rfl hl hb H2.out.2.2 (fun e => by omega)
      · have q3 : ((z : Int) == 65535) = false := by simp; omega
        go_wp2
        have H3 := Lib.hid (And.intro (ownNew w1) (And.intro (((Keep.refl Nil2 w1).alloc (.cells #[] 5)).get H2.out.1 fun e => e) (And.intro (H2.out.2.1.keep ((Keep.refl Nil2 w1).alloc (.cells #[] 5)) fun _ _ e => e) (H2.out.2.2.alloc (.cells #[] 5)))))
        have hsw : w.heap.size + 1 ≤ w1.heap.size := World.block_lt_of_cell? w1 ⟨w.heap.size, 0, none⟩ H2.out.1
        go_loopg [10, 11, 12, 90] 3 (fun G v10 v11 v12 v90 wr => ∃ j g lst, g = G ∧ j + g = 3 ∧ v90 = .int .i64 (j : Int) ∧ OwnB wr (w.heap.size + 1) v10 lst ∧ lst.length = 2 * j ∧ wr.cell? ⟨w.heap.size, 0, none⟩ = some (.slice (some ⟨b, o, none⟩) n c) ∧ BytesAt wr b o l ∧ Keep Nil2 w wr)
        case atStart => exact ⟨0, 3, [], rfl, by omega, rfl, H3.out.1.lower hsw, rfl, H3.out.2.1, H3.out.2.2.1, H3.out.2.2.2⟩
        case round =>
          obtain ⟨j, g, lst, hG, hjg, rfl, hO, hlen, hC, hB, hK⟩ := hrel
          have HG := Lib.hid hG
          have HLEN := Lib.hid hlen
          have hsz : w.heap.size + 1 ≤ wr.heap.size := World.block_lt_of_cell? wr ⟨w.heap.size, 0, none⟩ hC
          have hlo : lst.length ≤ 6 := by omega
          clear hG hlen
          have H4 := Lib.hid (And.intro hO (And.intro hC (And.intro hB hK)))
          by_cases hj : j < 3
          · have d1 : decide ((j : Int) < 3) = true := by simp; omega
            have tj : ((2 * j : Nat) : Int) = 2 * (j : Int) := by omega
            have T1 := TWO.out wr hC hB (2 * j) (by omega)
            rw [tj] at T1
            have HT1 := Lib.hid T1
            clear T1 tj hO hC hB hK
            go_wp2_with (go_at_call 45; fail)
            refine HT1.out.mono ?_
            rintro e w2 ⟨z1, hz1, rfl, q1, hw2⟩
            have hk2 : Keep Nil2 wr w2 := by rw [hw2]; exact (Keep.refl Nil2 wr).drewN q1
            have H5 := Lib.hid (And.intro (hk2.get H4.out.2.1 fun e => e) (And.intro (H4.out.2.2.1.keep hk2 fun _ _ e => e) hk2))
            clear hw2 hk2
            go_wp2_with (go_at_call 45; fail)
            refine (TWO.out w2 H5.out.1 H5.out.2.1 6 (by omega)).mono ?_
            rintro e w3 ⟨z2, hz2, rfl, q2, hw3⟩
            have hk3 : Keep Nil2 w2 w3 := by rw [hw3]; exact (Keep.refl Nil2 w2).drewN q2
            have H6 := Lib.hid (H5.out.2.2.trans hk3)
            clear hw3 hk3
            go_wp2_with (go_at_call 46; fail)
            refine (specApart w3 z1 z2 hz1 hz2).mono ?_
            rintro e w4 ⟨z3, rfl, hz3, rfl⟩
            have hs6 := H6.out.size
            go_wp2_with (at_builtin; refine wpList_append_bytes rfl (.tmp 100) (.tmp 106) rfl (w.heap.size + 1) u10 lst rfl ((H4.out.1.keep H6.out fun _ _ _ e => e).alloc _) _ [b8 (z3 / 256), b8 z3] rfl (Src.lit w4 _ 2 _ (lit2 z3) rfl (by omega)) (by simp; omega) (by simp; omega) ?_)
            intro v' w' h1 h2 hv'
            have hkk := H6.out.alloc (.cells #[.int .u8 (IntKind.u8.wrap ((z3 : Int) / 256)), .int .u8 (IntKind.u8.wrap (z3 : Int))] 5)
            have HF := Lib.hid (And.intro h1 (And.intro hkk h2))
            clear h1 h2 hv' hkk
            go_wp2
            go_roundg (g - 1)
            case measure => have := HG.out; omega
            case rel => exact ⟨j + 1, g - 1, _, rfl, by omega, by go_num, HF.out.1, by have := HLEN.out; simp; omega, HF.out.2.2.get (HF.out.2.1.get H4.out.2.1 fun e => e) (fun e => by have := (H4.out.1.block_ge _ e).1; omega), (H4.out.2.2.1.keep HF.out.2.1 fun _ _ e => e).keep HF.out.2.2 (fun _ _ e => by have := (H4.out.1.block_ge _ e).1; have := HBW.out; omega),
              keep_lay (H4.out.2.2.2.trans HF.out.2.1) (H4.out.1.keep HF.out.2.1 fun _ _ _ e => e) HF.out.2.2⟩
          · obtain rfl : j = 3 := by omega
            have d1 : decide (((3 : Nat) : Int) < 3) = false := by decide
            have c6 := hB 6 (by omega)
            have c7 := hB 7 (by omega)
            have l6 : (6 : Int) < n := by have h8 : 8 ≤ n := hn8; omega
            have l7 : (7 : Int) < n := by have h8 : 8 ≤ n := hn8; omega
            have hbw : b < w.heap.size := HBW.out
            obtain ⟨x6, hx6⟩ : ∃ x, x = l[6] := ⟨_, rfl⟩
            obtain ⟨x7, hx7⟩ : ∃ x, x = l[7] := ⟨_, rfl⟩
            rw [← hx6] at c6
            rw [← hx7] at c7
            clear hx6 hx7
            have KS := Lib.hid (pixS_keep w.heap.size b o n c l wr 6 x6.toNat 7 x7.toNat u10 lst)
            have KO := Lib.hid (fun V (h : PixS w.heap.size b o n c l wr 6 x6.toNat 7 x7.toNat u10 lst V) => h.2.2.2.1)
            have KH := Lib.hid (fun V (h : PixS w.heap.size b o n c l wr 6 x6.toNat 7 x7.toNat u10 lst V) => (pixS_base h hsz))
            have KA := Lib.hid (fun V V' (h : PixS w.heap.size b o n c l wr 6 x6.toNat 7 x7.toNat u10 lst V) (hk : Keep (fun k _ => u10.ownBlock = some k) V V') (ho : OwnB V' (w.heap.size + 1) u10 lst) => pixS_app h hk ho hbw)
            have hs0 : PixS w.heap.size b o n c l wr 6 x6.toNat 7 x7.toNat u10 lst wr := ⟨hC, c6, c7, hO, hB, Keep.refl _ _⟩
            go_wp2
            go_region_held3 (fun w' => w'.cell? ⟨w.heap.size, 0, none⟩ = some (.slice (some ⟨b, o, none⟩) n c) ∧ w'.cell? ⟨b, o + 6, none⟩ = some (.int .u8 (x6.toNat : Int)) ∧ w'.cell? ⟨b, o + 7, none⟩ = some (.int .u8 (x7.toNat : Int)) ∧ OwnB w' (w.heap.size + 1) u10 lst ∧ BytesAt w' b o l ∧ Keep (fun k _ => u10.ownBlock = some k) wr w')
              (first | assumption | exact KA.out _ _ (by assumption) h2 h3 | exact KS.out _ _ (by assumption) ((Keep.refl Nil2 _).drew) | exact KS.out _ _ (by assumption) ((Keep.refl Nil2 _).alloc _))
              (first | (refine step_append_bytes rfl (.tmp 109) (.tmp 116) rfl (w.heap.size + 1) u10 lst rfl (KO.out _ (by assumption)) _ _ 2 2 [x6, x7] rfl rfl (litTwoD _ x6 x7) (by simp; omega) (KH.out _ (by assumption)) ?_; intro v' w' h1 h2 h3))
            have hS2 : PixS w.heap.size b o n c l wr 6 x6.toNat 7 x7.toNat u10 lst w' := by assumption
            have HF := Lib.hid (And.intro h1 (keep_lay hK hO hS2.2.2.2.2.2))
            clear h1 h2 h3 hS2 hs0 hO hC hB hK
            go_wp2
            go_ret
            exact PixPost.own (HF.out.1.lower (by omega)) (by have := HLEN.out; simp [pixLen]; omega) (by simp) HF.out.2 (by omega)
    · go_enter Tryz.func31, Tryz.ntmps31
      go_wp2_with (go_at_call 10; fail)
      refine (hp _).mono ?_
      rintro e w1 ⟨rfl, rfl⟩
      go_wp2
      go_ret
      exact PixPost.cut 6 rfl (by simp [pixN] at hl; omega) hb ((Keep.refl Nil2 w).alloc _) (fun e => by omega)
  · have e0 : (3 : Int) ≤ c := by simp [pixN] at hn8; omega
    have e1 : (6 : Int) ≤ c ∨ 4 = 4 := by simp [pixN] at hn8; omega
    cases opq
    · have e5 : (4 : Int) ≤ c := by simp [pixN] at hn8; omega
      go_enter Tryz.func31, Tryz.ntmps31
      go_wp2
      go_ret
      exact PixPost.cut 4 rfl hl hb ((Keep.refl Nil2 w).alloc _) (fun e => by omega)
    · go_enter Tryz.func31, Tryz.ntmps31
      go_wp2_with (go_at_call 10; fail)
      refine (hp _).mono ?_
      rintro e w1 ⟨rfl, rfl⟩
      go_wp2
      go_ret
      exact PixPost.cut 3 rfl (by simp [pixN] at hl; omega) hb ((Keep.refl Nil2 w).alloc _) (fun e => by omega)
  · have e0 : (3 : Int) ≤ c := by simp [pixN] at hn8; omega
    have e1 : (6 : Int) ≤ c ∨ 8 = 4 := by simp [pixN] at hn8; omega
    cases opq
    · have e5 : (8 : Int) ≤ c := by simp [pixN] at hn8; omega
      go_enter Tryz.func31, Tryz.ntmps31
      go_wp2
      go_ret
      exact PixPost.cut 8 rfl hl hb ((Keep.refl Nil2 w).alloc _) (fun e => by omega)
    · go_enter Tryz.func31, Tryz.ntmps31
      go_wp2_with (go_at_call 10; fail)
      refine (hp _).mono ?_
      rintro e w1 ⟨rfl, rfl⟩
      go_wp2
      go_ret
      exact PixPost.cut 6 rfl (by simp [pixN] at hl; omega) hb ((Keep.refl Nil2 w).alloc _) (fun e => by omega)
  · have e0 : (1 : Int) ≤ c := by simp [pixN] at hn8; omega
    go_enter Tryz.func31, Tryz.ntmps31
    go_wp2
    go_ret
    exact PixPost.cut 1 rfl hl hb ((Keep.refl Nil2 w).alloc _) (fun _ => rfl)
end Go.Proofs.YtnbbppjgamdfeaaGreatDoor
end

/- slices.Clone, bytes.NewReader. -/
section
set_option linter.unusedVariables false
set_option linter.unusedSimpArgs false
namespace Go.Proofs.YtnbbppjgamdfeaaGreatDoor
open Go Go.RowKit

set_option maxHeartbeats 1000000 in
set_option maxRecDepth 100000 in
theorem slicesClone {w : World} (l : List UInt8) (b o n c : Nat) (hn : n = l.length) (hb : BytesAt w b o l) (hl : l.length ≤ 536870912) :
    Calls Tryz.prog 18 #[.slice (some ⟨b, o, none⟩) n c] w fun e w' => ∃ v, e = .returned v ∧ MadeB w w' v l := by
  have HN := Lib.hid hn
  clear hn
  have hnl : ∀ w, (binOp BinOp.eql 23 (.slice (some ⟨b, o, none⟩) n c) (.slice none 0 0)).run Tryz.prog w = .ok (.bool false) w := fun w => by kernel_rfl
  go_enter Tryz.func18, Tryz.ntmps18
  go_wp2_with (at_builtin; refine wpList_append_bytes rfl (.tmp 5) (.tmp 6) rfl w.heap.size _ [] rfl (ownNew w) _ l rfl (Src.of HN.out (hb.keep ((Keep.refl Nil2 w).alloc _) fun _ _ e => e)) (by simp; omega) (by simp) ?_)
  intro v' w' h1 h2 h3
  have HF := Lib.hid (And.intro h1 (keep_lay ((Keep.refl Nil2 w).alloc _) (ownNew w) h2))
  clear h1 h2 h3
  go_wp2
  go_ret
  exact ⟨v', rfl, HF.out.1, HF.out.2⟩

set_option maxHeartbeats 1000000 in
theorem newReader {w : World} (D : List UInt8) (db cap : Nat) (hb : BytesAt w db 0 D) (hD0 : 0 < D.length) (hD : D.length ≤ 1073741824) (hc : D.length ≤ cap) :
    Calls Tryz.prog 17 #[.slice (some ⟨db, 0, none⟩) D.length cap] w fun e w' => e = .returned (.pointer (some ⟨w.heap.size, 0, none⟩)) ∧ BR w' w.heap.size db cap D 0 ∧ Keep Nil2 w w' := by
  go_enter Tryz.func17, Tryz.ntmps17
  go_wp2
  go_ret
  have hh := heap_alloc_new w (.cells #[.slice (some ⟨db, 0, none⟩) D.length cap, .int .i64 0, .int .i64 (-1)] 78)
  have hk : Keep Nil2 w (w.alloc (.cells #[.slice (some ⟨db, 0, none⟩) D.length cap, .int .i64 0, .int .i64 (-1)] 78)) := (Keep.refl Nil2 w).alloc _
  have hlt := hb.lt hD0
  exact ⟨rfl, ⟨cell_of_row _ _ _ _ _ _ hh, cell_of_row _ _ _ _ _ _ hh, ⟨-1, cell_of_row _ _ _ _ _ _ hh⟩, fun j => frozen_of_row _ _ _ _ _ hh, hb.keep hk fun _ _ e => e, by omega, by omega, hc, hD⟩, hk⟩

end Go.Proofs.YtnbbppjgamdfeaaGreatDoor
end
