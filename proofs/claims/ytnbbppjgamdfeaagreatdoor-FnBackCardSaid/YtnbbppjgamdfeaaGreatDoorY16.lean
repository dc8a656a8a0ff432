/- laws.FnBack, part 16 of 54: U2. -/
import Derived.Test.YtnbbppjgamdfeaaGreatDoorY15
import Derived.Test.YtnbbppjgamdfeaaGreatDoorY05

/- The reference's Rows. -/
section
set_option linter.unusedVariables false
set_option linter.unusedSimpArgs false
namespace Go.Proofs.YtnbbppjgamdfeaaGreatDoor
open Go Go.RowKit

/-- The depth and the colour type of the rows of a picture of a kind. -/
def RowsKind (kind : Nat) (opq : Bool) (colors depth colour : Nat) : Prop :=
  (kind = 1 ∧ depth = 8 ∧ colour = 0) ∨ (kind = 2 ∧ depth = 16 ∧ colour = 0) ∨ ((kind = 3 ∨ kind = 5) ∧ depth = 8 ∧ colour = if opq then 2 else 6) ∨ ((kind = 4 ∨ kind = 6) ∧ depth = 16 ∧ colour = if opq then 2 else 6) ∨
    (kind = 7 ∧ colour = 3 ∧ (depth = 1 ∨ depth = 2 ∨ depth = 4 ∨ depth = 8) ∧ colors ≤ 2 ^ depth)

theorem pixN_pos (k : Nat) : 0 < pixN k := by unfold pixN; split; omega; split; omega; split <;> omega
theorem pixLen_le (k : Nat) (q : Bool) : pixLen k q ≤ 8 := by unfold pixLen; cases q <;> simp <;> split <;> (try omega) <;> split <;> (try omega) <;> split <;> omega
theorem rowsKind_7 {kind : Nat} {opq : Bool} {colors depth colour : Nat} (h : RowsKind kind opq colors depth colour) (h3 : colour = 3) : kind = 7 := by
  rcases h with ⟨_, _, h⟩ | ⟨_, _, h⟩ | ⟨_, _, h⟩ | ⟨_, _, h⟩ | ⟨h, _⟩
  · omega
  · omega
  · cases opq <;> simp at h <;> omega
  · cases opq <;> simp at h <;> omega
  · exact h
theorem rowsKind_pal {kind : Nat} {opq : Bool} {colors depth colour : Nat} (h : RowsKind kind opq colors depth colour) (h3 : colour = 3) : depth = 1 ∨ depth = 2 ∨ depth = 4 ∨ depth = 8 := by
  have h7 := rowsKind_7 h h3
  unfold RowsKind at h
  omega
theorem rowsKind_len {kind : Nat} {opq : Bool} {colors depth colour wide : Nat} (h : RowsKind kind opq colors depth colour) (h8 : kind = 7 → depth = 8) : wide * pixLen kind opq = rowB wide depth colour := by
  rcases h with ⟨rfl, rfl, rfl⟩ | ⟨rfl, rfl, rfl⟩ | ⟨rfl | rfl, rfl, rfl⟩ | ⟨rfl | rfl, rfl, rfl⟩ | ⟨rfl, rfl, _, _⟩
  · simp [pixLen, rowB, chan]; omega
  · simp [pixLen, rowB, chan]; omega
  · cases opq <;> simp [pixLen, rowB, chan] <;> omega
  · cases opq <;> simp [pixLen, rowB, chan] <;> omega
  · cases opq <;> simp [pixLen, rowB, chan] <;> omega
  · cases opq <;> simp [pixLen, rowB, chan] <;> omega
  · obtain rfl := h8 rfl
    simp [pixLen, rowB, chan]; omega
theorem rowsKind_ok {kind : Nat} {opq : Bool} {colors depth colour wide high : Nat} {R : List UInt8} (h : RowsKind kind opq colors depth colour) (hR : RowsUp wide depth colour colors high R) (hw : 1 ≤ wide ∧ wide ≤ 60) (hh : 1 ≤ high ∧ high ≤ 60) (hc : kind = 7 → 1 ≤ colors) : RowsOk wide high depth colour colors R where
  kind := by
    rcases h with ⟨_, rfl, rfl⟩ | ⟨_, rfl, rfl⟩ | ⟨_, rfl, rfl⟩ | ⟨_, rfl, rfl⟩ | ⟨_, rfl, h, _⟩
    · simp
    · simp
    · cases opq <;> simp
    · cases opq <;> simp
    · exact .inr (.inr (.inr ⟨rfl, h⟩))
  w0 := hw.1
  h0 := hh.1
  w60 := hw.2
  h60 := hh.2
  len := hR.len
  ft := hR.ft
  cnt := fun h3 => by
    have h7 := rowsKind_7 h h3
    have h1 := hc h7
    rcases h with h | h | h | h | h
    · omega
    · omega
    · omega
    · omega
    · exact ⟨h1, h.2.2.2⟩
  pal := hR.pal
theorem rowsKind_packed {opq : Bool} {colors depth colour : Nat} (h : RowsKind 7 opq colors depth colour) (h8 : ¬ depth = 8) : (depth = 1 ∨ depth = 2 ∨ depth = 4) ∧ colors ≤ 2 ^ depth ∧ colour = 3 := by
  unfold RowsKind at h
  omega
/-- The last byte of a row of the call's own may be set. -/
theorem OwnB.setLast {w : World} {base : Nat} {v : Value} {l : List UInt8} {a : UInt8} (h : OwnB w base v (l ++ [a])) :
    ∃ g cap, v = .slice (some ⟨g, 0, none⟩) (l.length + 1) cap ∧ base ≤ g ∧ w.cell? ⟨g, l.length, none⟩ = some (.int .u8 (a.toNat : Int)) ∧ w.frozen? ⟨g, l.length, none⟩ = false ∧ ∀ x : UInt8, OwnB (w.setCell ⟨g, l.length, none⟩ (.int .u8 (x.toNat : Int))) base v (l ++ [x]) := by
  obtain ⟨g, cap, hv, hg, _, _, hb, hf, _⟩ := h.slice (by simp)
  have hv' : v = .slice (some ⟨g, 0, none⟩) (l.length + 1) cap := by rw [hv]; simp
  refine ⟨g, cap, hv', hg, ?_, hf _, fun x => ?_⟩
  · have := hb.at_ l.length a (by simp)
    rwa [Nat.zero_add] at this
  · rw [hv'] at h ⊢
    have h1 : w.ownsRow base 5 1 (.slice (some ⟨g, 0, none⟩) (l.length + 1) cap) (l.length + 1) (bytesV (l ++ [a])) := by
      have h2 : w.ownsRow base 5 1 (.slice (some ⟨g, 0, none⟩) (l.length + 1) cap) (l ++ [a]).length (bytesV (l ++ [a])) := h
      rwa [List.length_append] at h2
    have h2 := (World.ownsRow.stored h1 l.length (.int .u8 (x.toNat : Int))).1
    have e : (bytesV (l ++ [a])).set l.length (.int .u8 (x.toNat : Int)) = bytesV (l ++ [x]) := by
      rw [bytesV_append, bytesV_append, List.set_append_right _ _ (by rw [length_bytesV]; omega), length_bytesV, Nat.sub_self]
      rfl
    rw [e] at h2
    show World.ownsRow _ base 5 1 _ (l ++ [x]).length _
    rw [List.length_append]
    exact h2
/-- There is room for a sample in the byte a: left bits of it are free. -/
def Roomy (depth count x left : Nat) (r : List UInt8) (a : UInt8) : Prop := (left = 8 ∧ a = 0 ∧ PackUp depth count x 0 r) ∨ (left < 8 ∧ depth ≤ left ∧ PackUp depth count x left (r ++ [a]))
theorem Roomy.put {depth count x left : Nat} {r : List UInt8} {a : UInt8} (h : Roomy depth count x left r a) (hd : depth = 1 ∨ depth = 2 ∨ depth = 4) (v : Nat) (hv : v < count) (hc : count ≤ 2 ^ depth) :
    a.toNat + v * 2 ^ (left - depth) < 256 ∧ a.toNat % 2 ^ left = 0 ∧ v * 2 ^ (left - depth) < 2 ^ left ∧ depth ≤ left ∧ left ≤ 8 ∧ ∀ b : UInt8, b.toNat = a.toNat + v * 2 ^ (left - depth) → PackUp depth count (x + 1) (left - depth) (r ++ [b]) := by
  have key : ∀ m, depth ≤ m → v * 2 ^ (m - depth) < 2 ^ m := fun m hm => by
    have h1 : v * 2 ^ (m - depth) < 2 ^ depth * 2 ^ (m - depth) := Nat.mul_lt_mul_of_pos_right (by omega) (Nat.two_pow_pos _)
    rwa [← Nat.pow_add, show depth + (m - depth) = m by omega] at h1
  rcases h with ⟨rfl, rfl, h⟩ | ⟨hl, hle, h⟩
  · have h8 := key 8 (by omega)
    refine ⟨by simpa using h8, by simp, h8, by omega, by omega, fun b hb => h.fresh hd v hv hc b (by simpa using hb)⟩
  · have hk := key left hle
    have hf := h.free
    have e : (r ++ [a]).length - 1 = r.length + 0 := by simp
    rw [e, getD_right] at hf
    have hf' : a.toNat % 2 ^ left = 0 := hf
    have ha := a.toNat_lt
    refine ⟨?_, hf', hk, hle, by omega, fun b hb => ?_⟩
    · obtain ⟨j, hj⟩ := Nat.dvd_of_mod_eq_zero hf'
      have e8 : 2 ^ 8 = 2 ^ left * 2 ^ (8 - left) := by rw [← Nat.pow_add, show left + (8 - left) = 8 by omega]
      rw [hj, e8] at ha
      have hj2 : j < 2 ^ (8 - left) := Nat.lt_of_mul_lt_mul_left ha
      have : 2 ^ left * (j + 1) ≤ 2 ^ left * 2 ^ (8 - left) := Nat.mul_le_mul_left _ hj2
      rw [Nat.mul_add, ← e8] at this
      rw [hj]
      omega
    · have h' : PackUp depth count x (left - depth + depth) (r ++ [a]) := by rw [Nat.sub_add_cancel hle]; exact h
      exact h'.put hd v hv hc hb
theorem exists_last (l : List UInt8) (h : 0 < l.length) : ∃ r a, l = r ++ [a] := by
  induction l with
  | nil => simp at h
  | cons x l ih =>
    cases l with
    | nil => exact ⟨[], x, rfl⟩
    | cons y l =>
      obtain ⟨r, a, e⟩ := ih (by simp)
      exact ⟨x :: r, a, by rw [e]; rfl⟩
/-- The sample is laid into the byte's free bits. -/
theorem orByte (a : UInt8) (q L n : Nat) (hL : L ≤ 8) (h2 : a.toNat % 2 ^ n = 0) (h1 : a.toNat + q * 2 ^ L < 256) (h3 : q * 2 ^ L < 2 ^ n) :
    bits BinOp.or IntKind.u8 (a.toNat : Int) ((q : Int) * 2 ^ L % 256) = ((b8 (a.toNat + q * 2 ^ L)).toNat : Int) := by
  rw [b8_toNat, Nat.mod_eq_of_lt h1]
  have e : (q : Int) * 2 ^ L % 256 = ((q * 2 ^ L : Nat) : Int) := by
    have e1 : (q : Int) * 2 ^ L = ((q * 2 ^ L : Nat) : Int) := by simp
    rw [e1]
    generalize q * 2 ^ L = z at h1
    omega
  rw [e, u8_or_nat _ _ (u8_lt a) (by omega), or_add _ _ n h2 h3]
theorem Keep.setNew {W w : World} {g j : Nat} (h : Keep Nil2 W w) (hg : W.heap.size ≤ g) (v : Value) : Keep Nil2 W (w.setCell ⟨g, j, none⟩ v) :=
  h.then (keep_setCell w g j v) (fun _ _ _ e => e) fun k _ hk e => absurd e.1 (by omega)
theorem rowsKind_rb {kind : Nat} {opq : Bool} {colors depth colour wide : Nat} (h : RowsKind kind opq colors depth colour) (hw : wide ≤ 60) : rowB wide depth colour ≤ 480 := by
  have : chan colour * depth ≤ 64 := by
    rcases h with ⟨_, rfl, rfl⟩ | ⟨_, rfl, rfl⟩ | ⟨_, rfl, rfl⟩ | ⟨_, rfl, rfl⟩ | ⟨_, rfl, rfl | rfl | rfl | rfl, _⟩
    · decide
    · decide
    · cases opq <;> decide
    · cases opq <;> decide
    all_goals decide
  have h2 : wide * (chan colour * depth) ≤ 60 * 64 := Nat.mul_le_mul hw this
  rw [← Nat.mul_assoc] at h2
  unfold rowB
  omega

set_option maxHeartbeats 8000000 in
set_option maxRecDepth 100000 in
theorem specRows {w : World} (kind wide high stride b o n c colors : Nat) (hk : 1 ≤ kind ∧ kind ≤ 7) (l : List UInt8) (hb : BytesAt w b o l) (hn : n = l.length) (hl : l.length = stride * high) (hs : wide * pixN kind ≤ stride) (hw : 1 ≤ wide ∧ wide ≤ 60) (hh : 1 ≤ high ∧ high ≤ 60) (hst : stride ≤ 1000) (hnc : n ≤ c)
    (hcol : colors ≤ 200) (hpal : kind = 7 → 1 ≤ colors ∧ ∀ x ∈ l, x.toNat < colors) :
    Calls Tryz.prog 19 #[.int .i64 (kind : Int), .int .i64 (wide : Int), .int .i64 (high : Int), .int .i64 (stride : Int), .slice (some ⟨b, o, none⟩) n c, .int .i64 (colors : Int)] w fun e w' =>
      ∃ (v : Value) (depth colour : Nat) (R : List UInt8), e = .returned (.tuple #[v, .int .u8 (depth : Int), .int .u8 (colour : Int)]) ∧ MadeB w w' v R ∧ RowsOk wide high depth colour colors R ∧ (colour = 3 ↔ kind = 7) := by
  have HWHOLE := Lib.hid (fun V (h : BytesAt V b o l) => specWhole kind wide high stride b o n c hk l h hn hl hs hw.2 hh.2 hst hnc)
  have HN := Lib.hid hn
  have HL := Lib.hid hl
  clear hn hl
  go_enter Tryz.func19, Tryz.ntmps19
  go_wp2_with (go_at_call 30; fail)
  refine (HWHOLE.out _ hb).mono ?_
  rintro e w1 ⟨⟨opq, rfl⟩, rfl⟩
  go_upto_if 30 with fail
  go_cut [17] (fun v17 wx => v17 = .int .u8 ((if opq then 2 else 6 : Nat) : Int) ∧ wx = w1)
  case first =>
    cases opq
    all_goals
      go_wp2_with fail
      go_meet
      case rel => exact ⟨rfl, rfl⟩
  case rest =>
    obtain ⟨rfl, rfl⟩ := hcut
    obtain ⟨c0, hc0⟩ : ∃ c0 : Nat, c0 = if opq then 2 else 6 := ⟨_, rfl⟩
    rw [← hc0]
    go_upto_block 0 with fail
    go_cut [16, 17] (fun v16 v17 wx => ∃ depth colour : Nat, v16 = .int .u8 (depth : Int) ∧ v17 = .int .u8 (colour : Int) ∧ RowsKind kind opq colors depth colour ∧ wx = wc)
    case first =>
      have hc0' : c0 = if opq then 2 else 6 := hc0
      have HC0 := Lib.hid hc0
      clear hc0 hc0'
      rcases kind7 hk with rfl | rfl | rfl | rfl | rfl | rfl | rfl
      · go_wp2_with fail
        go_meet
        case rel => exact ⟨8, 0, rfl, rfl, by have := HC0.out; unfold RowsKind; omega, rfl⟩
      · go_wp2_with fail
        go_meet
        case rel => exact ⟨16, 0, rfl, rfl, by have := HC0.out; unfold RowsKind; omega, rfl⟩
      · go_wp2_with fail
        go_meet
        case rel => exact ⟨8, c0, rfl, rfl, by have := HC0.out; unfold RowsKind; omega, rfl⟩
      · go_wp2_with fail
        go_meet
        case rel => exact ⟨16, c0, rfl, rfl, by have := HC0.out; unfold RowsKind; omega, rfl⟩
      · go_wp2_with fail
        go_meet
        case rel => exact ⟨8, c0, rfl, rfl, by have := HC0.out; unfold RowsKind; omega, rfl⟩
      · go_wp2_with fail
        go_meet
        case rel => exact ⟨16, c0, rfl, rfl, by have := HC0.out; unfold RowsKind; omega, rfl⟩
      · obtain ⟨hp1, hp2⟩ := hpal rfl
        go_wp2_with fail
        go_loop [16] (fun v16 => ∃ d : Nat, (d = 1 ∨ d = 2 ∨ d = 4 ∨ d = 8) ∧ v16 = .int .u8 (d : Int)) (fun v => 8 - (intOf v).toNat)
        case atStart => exact ⟨1, .inl rfl, rfl⟩
        case round =>
          obtain ⟨d, hd, rfl⟩ := hrel
          rcases hd with rfl | rfl | rfl | rfl
          · by_cases hc : 2 < colors
            · have d1 : decide ((2 : Int) < (colors : Int)) = true := by simp; omega
              go_wp2_with fail
              go_round
              case rel => exact ⟨2, by omega, rfl⟩
              case measure => simp [intOf]
            · have d1 : decide ((2 : Int) < (colors : Int)) = false := by simp; omega
              go_wp2_with fail
              go_meet
              case rel => exact ⟨1, 3, rfl, rfl, by unfold RowsKind; omega, rfl⟩
          · by_cases hc : 4 < colors
            · have d1 : decide ((4 : Int) < (colors : Int)) = true := by simp; omega
              go_wp2_with fail
              go_round
              case rel => exact ⟨4, by omega, rfl⟩
              case measure => simp [intOf]
            · have d1 : decide ((4 : Int) < (colors : Int)) = false := by simp; omega
              go_wp2_with fail
              go_meet
              case rel => exact ⟨2, 3, rfl, rfl, by unfold RowsKind; omega, rfl⟩
          · by_cases hc : 16 < colors
            · have d1 : decide ((16 : Int) < (colors : Int)) = true := by simp; omega
              go_wp2_with fail
              go_round
              case rel => exact ⟨8, by omega, rfl⟩
              case measure => simp [intOf]
            · have d1 : decide ((16 : Int) < (colors : Int)) = false := by simp; omega
              go_wp2_with fail
              go_meet
              case rel => exact ⟨4, 3, rfl, rfl, by unfold RowsKind; omega, rfl⟩
          · have d1 : decide ((256 : Int) < (colors : Int)) = false := by simp; omega
            go_wp2_with fail
            go_meet
            case rel => exact ⟨8, 3, rfl, rfl, by unfold RowsKind; omega, rfl⟩
    case rest =>
      obtain ⟨depth, colour, rfl, rfl, hRK, rfl⟩ := hcut
      have HRK := Lib.hid hRK
      have HB := Lib.hid hb
      have HBW := Lib.hid (hb.lt (by have := HL.out; have : 0 < stride * high := Nat.mul_pos (by have := Nat.mul_pos (show 0 < wide by omega) (pixN_pos kind); omega) (by omega); omega))
      clear hc0 hRK hb
      go_wp2_with (go_at_call 10; fail)
      refine (specPixelBytes _ kind hk).mono ?_
      rintro e w1 ⟨rfl, rfl⟩
      obtain ⟨p, hp⟩ : ∃ p, p = pixN kind := ⟨_, rfl⟩
      rw [← hp] at hs ⊢
      have HP := Lib.hid hp
      have H0 := Lib.hid (And.intro (ownNew wc) ((Keep.refl Nil2 wc).alloc (.cells #[] 5)))
      clear hp
      go_wp2
      go_loopg [18, 20, 21, 22, 23, 51] high (fun G v18 v20 v21 v22 v23 v51 wr => ∃ y g lst, g = G ∧ y + g = high ∧ v51 = .int .i64 (y : Int) ∧ OwnB wr wc.heap.size v18 lst ∧ RowsUp wide depth colour colors y lst ∧ Keep Nil2 wc wr)
      case atStart => exact ⟨0, high, [], rfl, by omega, rfl, H0.out.1, RowsUp.zero _ _ _ _, H0.out.2⟩
      case round =>
        obtain ⟨y, g, lst, hG, hyg, rfl, hO, hR, hK⟩ := hrel
        have HG := Lib.hid hG
        have HR := Lib.hid hR
        clear hG hR
        by_cases hy : y < high
        · have d1 : decide ((y : Int) < (high : Int)) = true := by simp; omega
          have hlo : lst.length ≤ 60 * 500 := by
            have h1 := HR.out.len
            have h2 := rowsKind_rb HRK.out hw.2
            rw [h1]
            exact Nat.mul_le_mul (by omega) (by omega)
          go_wp2_with (at_builtin; refine wpList_append_bytes rfl (.tmp 54) (.tmp 55) rfl wc.heap.size u18 lst rfl (hO.alloc _) _ [0] rfl (Src.lit wr _ 1 _ rfl rfl (by omega)) (by simp; omega) (by have := hK.size; simp; omega) ?_)
          intro v2 w2 h2 hk2 hv2
          have H2 := Lib.hid (And.intro h2 (keep_lay (hK.alloc _) (hO.alloc _) hk2))
          clear h2 hk2 hv2 hO hK
          by_cases h7 : kind = 7
          · by_cases h8 : depth = 8
            · subst h7 h8
              have q7 : (((7 : Nat) : Int) == 7) = true := by decide
              have q8 : (((8 : Nat) : Int) == 8) = true := by decide
              obtain ⟨pl, hpl⟩ : ∃ pl, pl = pixLen 7 opq := ⟨_, rfl⟩
              have HPL := Lib.hid hpl
              have hpl8 : pl ≤ 8 := by rw [hpl]; exact pixLen_le 7 opq
              clear hpl
              go_wp2
              go_loopg [18, 21, 22, 23, 58] wide (fun G v18 v21 v22 v23 v58 wr => ∃ x g row, g = G ∧ x + g = wide ∧ v58 = .int .i64 (x : Int) ∧ OwnB wr wc.heap.size v18 (lst ++ [0] ++ row) ∧ row.length = x * pl ∧ (7 = 7 → ∀ k, k < x → (row.getD k 0).toNat < colors) ∧ Keep Nil2 wc wr)
              case atStart => exact ⟨0, wide, [], rfl, by omega, rfl, by simpa using H2.out.1, by simp, fun _ k hk => by omega, H2.out.2⟩
              case round =>
                obtain ⟨x, g2, row, hG2, hxg, rfl, hO2, hrl, hrp, hK2⟩ := hrel
                have HG2 := Lib.hid hG2
                have HRL := Lib.hid hrl
                have HRP := Lib.hid hrp
                have hrl2 : row.length ≤ 60 * 8 := by rw [hrl]; exact Nat.mul_le_mul (by omega) hpl8
                have HK2 := Lib.hid hK2
                clear hG2 hrl hrp
                by_cases hx2 : x < wide
                · have d2 : decide ((x : Int) < (wide : Int)) = true := by simp; omega
                  obtain ⟨a, ha⟩ : ∃ a, a = y * stride := ⟨_, rfl⟩
                  obtain ⟨f, hf⟩ : ∃ f, f = x * p := ⟨_, rfl⟩
                  have ha1 : a + stride ≤ stride * high := by
                    have : (y + 1) * stride ≤ high * stride := Nat.mul_le_mul_right _ hy
                    rw [Nat.add_mul, Nat.mul_comm high] at this
                    omega
                  have hf1 : f + p ≤ stride := by
                    have : (x + 1) * p ≤ wide * p := Nat.mul_le_mul_right _ hx2
                    rw [Nat.add_mul] at this
                    omega
                  have hal : a ≤ 60 * 1000 := by rw [ha]; exact Nat.mul_le_mul (by omega) hst
                  have e0 : IntKind.i64.wrap ((y : Int) * (stride : Int)) = (a : Int) := by rw [ha, IntWalk.i64_in _ (by rw [← Int.natCast_mul, ← ha]; omega)]; simp
                  have e1 : IntKind.i64.wrap ((x : Int) * (p : Int)) = (f : Int) := by rw [hf, IntWalk.i64_in _ (by rw [← Int.natCast_mul, ← hf]; omega)]; simp
                  have e2 : IntKind.i64.wrap ((a : Int) + (f : Int)) = ((a + f : Nat) : Int) := by rw [IntWalk.i64_in _ (by omega)]; omega
                  have hab : a + f + p ≤ n := by have := HN.out; have := HL.out; omega
                  have hpos : 0 < p := by rw [HP.out]; exact pixN_pos 7
                  have e3 : ((a + f : Nat) : Int) ≤ n := by omega
                  have e4 : ¬ c = a + f := by omega
                  have e5 : ((a + f : Nat) : Int) ≤ c := by omega
                  have hdl : (l.drop (a + f)).length = n - (a + f) := by rw [List.length_drop, HN.out]
                  have HPX := Lib.hid (fun V (h : BytesAt V b o l) => specPixel 7 b (o + (a + f)) (n - (a + f)) (c - (a + f)) opq hk (l.drop (a + f)) (h.drop (a + f)) hdl.symm (by rw [hdl, ← HP.out]; omega) (by omega))
                  have hafl : a + f < l.length := by have := HN.out; omega
                  clear ha hf hdl
                  go_wp2_with (go_at_call 31; fail)
                  refine (HPX.out _ (HB.out.keep HK2.out fun _ _ e => e)).mono ?_
                  rintro e w3 ⟨b', o', n', c', m, rfl, hn', hm, hml, hm7, hk3⟩
                  have hm8 : m.length = pl := by rw [HPL.out]; exact hml
                  have hO3 := hO2.keep hk3 fun _ _ _ e => e
                  have HM := Lib.hid (And.intro hn' (And.intro hm (And.intro hm8 (And.intro hm7 (HK2.out.trans hk3)))))
                  have hsz3 : wc.heap.size ≤ w3.heap.size := HM.out.2.2.2.2.size
                  clear hn' hm hml hm7 hk3 hO2 hm8 hK2
                  go_wp2_with (at_builtin; refine wpList_append_bytes rfl (.tmp 79) (.tmp 80) rfl wc.heap.size u18 (lst ++ [0] ++ row) rfl hO3 _ m rfl (Src.of HM.out.1 HM.out.2.1) (by have := HM.out.2.2.1; simp; omega) hsz3 ?_)
                  intro v4 w4 h4 hk4 hv4
                  have H4 := Lib.hid (And.intro h4 (keep_lay HM.out.2.2.2.2 hO3 hk4))
                  clear h4 hk4 hv4 hO3
                  go_wp2
                  go_roundg (g2 - 1)
                  case measure => have := HG2.out; omega
                  case rel =>
                    refine ⟨x + 1, g2 - 1, row ++ m, rfl, by omega, by go_num, by simpa using H4.out.1, by rw [List.length_append, HRL.out, HM.out.2.2.1, Nat.add_mul, Nat.one_mul], fun h7 k hk => ?_, H4.out.2⟩
                    have hpl1 : pl = 1 := by rw [HPL.out]; simp [pixLen]
                    have hm1 := (HM.out.2.2.2.1 (.inr h7)).1
                    have hrx : row.length = x := by rw [HRL.out, hpl1, Nat.mul_one]
                    by_cases e : k = x
                    · subst e
                      rw [show k = row.length + 0 by omega, getD_right, hm1]
                      have hmem := (hpal h7).2 (l[a + f]'hafl) (List.getElem_mem _)
                      rw [List.drop_eq_getElem_cons hafl]
                      exact hmem
                    · rw [getD_left _ _ _ (by omega)]
                      exact HRP.out h7 k (by omega)
                · obtain rfl : x = wide := by omega
                  have d2 : decide ((x : Int) < (x : Int)) = false := by simp
                  have hrow : row.length = rowB x 8 colour := by rw [HRL.out, HPL.out]; exact rowsKind_len HRK.out (fun _ => rfl)
                  have HX := Lib.hid (And.intro hO2 (And.intro (HR.out.next (row := row) hrow (fun h3 => rowsKind_pal HRK.out h3) (fun h3 k hk => by
                    have h8 : 8 = 8 := rfl
                    unfold pk8
                    rw [if_pos h8]
                    exact HRP.out rfl k hk)) HK2.out))
                  clear hO2 hK2 hrow
                  go_wp2
                  go_roundg (g - 1)
                  case measure => have := HG.out; omega
                  case rel => exact ⟨y + 1, g - 1, _, rfl, by omega, by go_num, by have := HX.out.1; simpa using this, HX.out.2.1, HX.out.2.2⟩
            · subst h7
              have q7 : (((7 : Nat) : Int) == 7) = true := by decide
              have q8 : ((depth : Int) == 8) = false := by simp; omega
              have HD := Lib.hid (rowsKind_packed HRK.out h8)
              have hd4 : depth ≤ 4 ∧ 0 < depth := by have := HD.out.1; omega
              go_wp2
              go_loopg [18, 21, 22, 23, 58] wide (fun G v18 v21 v22 v23 v58 wr => ∃ x g left row, g = G ∧ x + g = wide ∧ v58 = .int .i64 (x : Int) ∧ v21 = .int .u8 ((left : Nat) : Int) ∧ OwnB wr wc.heap.size v18 (lst ++ [0] ++ row) ∧ PackUp depth colors x left row ∧ Keep Nil2 wc wr)
              case atStart => exact ⟨0, wide, 0, [], rfl, by omega, rfl, rfl, by simpa using H2.out.1, PackUp.zero _ _, H2.out.2⟩
              case round =>
                obtain ⟨x, g2, left, row, hG2, hxg, rfl, rfl, hO2, hPk, hK2⟩ := hrel
                have HG2 := Lib.hid hG2
                have hl8 := hPk.lt
                have HPK := Lib.hid hPk
                have HK2 := Lib.hid hK2
                clear hG2 hPk
                by_cases hx2 : x < wide
                · have d2 : decide ((x : Int) < (wide : Int)) = true := by simp; omega
                  obtain ⟨a, ha⟩ : ∃ a, a = y * stride := ⟨_, rfl⟩
                  obtain ⟨f, hf⟩ : ∃ f, f = x * p := ⟨_, rfl⟩
                  have ha1 : a + stride ≤ stride * high := by
                    have : (y + 1) * stride ≤ high * stride := Nat.mul_le_mul_right _ hy
                    rw [Nat.add_mul, Nat.mul_comm high] at this
                    omega
                  have hf1 : f + p ≤ stride := by
                    have : (x + 1) * p ≤ wide * p := Nat.mul_le_mul_right _ hx2
                    rw [Nat.add_mul] at this
                    omega
                  have hal : a ≤ 60 * 1000 := by rw [ha]; exact Nat.mul_le_mul (by omega) hst
                  have e0 : IntKind.i64.wrap ((y : Int) * (stride : Int)) = (a : Int) := by rw [ha, IntWalk.i64_in _ (by rw [← Int.natCast_mul, ← ha]; omega)]; simp
                  have e1 : IntKind.i64.wrap ((x : Int) * (p : Int)) = (f : Int) := by rw [hf, IntWalk.i64_in _ (by rw [← Int.natCast_mul, ← hf]; omega)]; simp
                  have e2 : IntKind.i64.wrap ((a : Int) + (f : Int)) = ((a + f : Nat) : Int) := by rw [IntWalk.i64_in _ (by omega)]; omega
                  have hab : a + f + p ≤ n := by have := HN.out; have := HL.out; omega
                  have hpos : 0 < p := by rw [HP.out]; exact pixN_pos 7
                  have e3 : ((a + f : Nat) : Int) ≤ n := by omega
                  have e4 : ¬ c = a + f := by omega
                  have e5 : ((a + f : Nat) : Int) ≤ c := by omega
                  have hdl : (l.drop (a + f)).length = n - (a + f) := by rw [List.length_drop, HN.out]
                  have HPX := Lib.hid (fun V (h : BytesAt V b o l) => specPixel 7 b (o + (a + f)) (n - (a + f)) (c - (a + f)) opq hk (l.drop (a + f)) (h.drop (a + f)) hdl.symm (by rw [hdl, ← HP.out]; omega) (by omega))
                  have hafl : a + f < l.length := by have := HN.out; omega
                  clear ha hf hdl
                  go_wp2_with (go_at_call 31; fail)
                  refine (HPX.out _ (HB.out.keep HK2.out fun _ _ e => e)).mono ?_
                  rintro e w3 ⟨b', o', n', c', m, rfl, hn', hm, hml, hm7, hk3⟩
                  have hml1 : m.length = 1 := hml
                  have hbb : b = b' := ((hm7 (.inr rfl)).2).symm
                  subst hbb
                  have hq0 : (m[0]'(by omega)).toNat < colors := by
                    have hm1 := (hm7 (.inr rfl)).1
                    have hmem := (hpal (by first | rfl | trivial)).2 (l[a + f]'hafl) (List.getElem_mem _)
                    subst hm1
                    rw [List.getElem_take, List.getElem_drop]
                    exact hmem
                  have hcq := hm 0 (by omega)
                  rw [Nat.add_zero] at hcq
                  obtain ⟨q, hq⟩ : ∃ q, q = (m[0]'(by omega)).toNat := ⟨_, rfl⟩
                  rw [← hq] at hcq hq0
                  rw [hml1] at hn'
                  subst hn'
                  have hO3 := hO2.keep hk3 fun _ _ _ e => e
                  have HM := Lib.hid (HK2.out.trans hk3)
                  have hsz3 : wc.heap.size ≤ w3.heap.size := HM.out.size
                  clear hm hml hm7 hk3 hO2 hK2 hq hml1
                  have hpc : w3.cell? ⟨b, o', none⟩ = some (.int .u8 (q : Int)) := hcq
                  have hb'n : ∀ k, u18.ownBlock = some k → b ≠ k := fun k e => by have h1 := (hO3.block_ge k e).1; have h2 := HBW.out; omega
                  have hb'w := hsz3
                  go_upto_if 83 with fail
                  go_cut [18, 21] (fun v18 v21 wx => ∃ r a' L, v21 = .int .u8 ((L : Nat) : Int) ∧ OwnB wx wc.heap.size v18 (lst ++ [0] ++ (r ++ [a'])) ∧ Roomy depth colors x L r a' ∧ r.length ≤ 40 ∧ wx.cell? ⟨b, o', none⟩ = some (.int .u8 (q : Int)) ∧ BytesAt wx b o l ∧ Keep Nil2 wc wx)
                  case first =>
                    have hlen := HPK.out.len
                    have hrow40 : row.length ≤ 40 := by
                      have : x * depth ≤ 60 * 4 := Nat.mul_le_mul (by omega) hd4.1
                      omega
                    by_cases h0 : left = 0
                    · subst h0
                      have q0 : (((0 : Nat) : Int) == 0) = true := by decide
                      have H3 := Lib.hid (And.intro hO3 (And.intro hcq (HB.out.keep HM.out fun _ _ e => e)))
                      clear hO3 hcq hpc hlen
                      go_wp2_with (at_builtin; refine wpList_append_bytes rfl (.tmp 84) (.tmp 85) rfl wc.heap.size u18 (lst ++ [0] ++ row) rfl (H3.out.1.alloc _) _ [0] rfl (Src.lit w3 _ 1 _ rfl rfl (by omega)) (by simp; omega) (by simp; omega) ?_)
                      intro v4 w4 h4 hk4 hv4
                      have hbe := fun k e => ((H3.out.1.alloc (.cells #[.int .u8 0] 5)).block_ge k e)
                      have HF := Lib.hid (And.intro h4 (And.intro (hk4.get (((Keep.refl Nil2 w3).alloc (.cells #[.int .u8 0] 5)).get H3.out.2.1 fun e => e) fun e => hb'n _ e rfl) (keep_lay (HM.out.alloc _) (H3.out.1.alloc _) hk4)))
                      clear h4 hk4 hv4 hbe
                      go_wp2
                      go_meet
                      case rel => exact ⟨row, 0, 8, rfl, by simpa using HF.out.1, .inl ⟨rfl, rfl, HPK.out⟩, hrow40, HF.out.2.1, HB.out.keep HF.out.2.2 fun _ _ e => e, HF.out.2.2⟩
                    · have q0 : ((left : Int) == 0) = false := by simp; omega
                      have hle : depth ≤ left := by
                        rcases HD.out.1 with e | e | e <;> rw [e] at hlen ⊢ <;> omega
                      obtain ⟨r, a', hra⟩ := exists_last row (by omega)
                      have H3 := Lib.hid (And.intro hO3 (And.intro hcq (And.intro (HB.out.keep HM.out fun _ _ e => e) hra)))
                      clear hO3 hcq hpc hlen hra
                      go_wp2
                      go_meet
                      case rel => exact ⟨r, a', left, rfl, by rw [← H3.out.2.2.2]; exact H3.out.1, .inr ⟨hl8, hle, by rw [← H3.out.2.2.2]; exact HPK.out⟩, by have := congrArg List.length H3.out.2.2.2; simp at this; omega, H3.out.2.1, H3.out.2.2.1, HM.out⟩
                  case rest =>
                    obtain ⟨r, a', L, rfl, hO5, hRm, hr40, hcq5, hB5, hK5⟩ := hcut
                    obtain ⟨ha1, ha2, ha3, ha4, ha5, hput⟩ := hRm.put HD.out.1 q hq0 HD.out.2.1
                    obtain ⟨L', hL'⟩ : ∃ L', L' = L - depth := ⟨_, rfl⟩
                    have hL : L' + depth = L := by omega
                    have hL8 : L' ≤ 8 := by omega
                    rw [← hL'] at ha1 ha3 hput
                    have e6 : IntKind.u8.wrap ((L : Int) - (depth : Int)) = (L' : Int) := by
                      show ((L : Int) - (depth : Int)) % 256 = _
                      omega
                    rw [← List.append_assoc] at hO5
                    obtain ⟨g', cap', hv, hgb, hca, hfa, hset⟩ := hO5.setLast
                    obtain ⟨M, hM⟩ : ∃ M, M = (lst ++ [0] ++ r).length := ⟨_, rfl⟩
                    have hM3 : M ≤ 30100 := by rw [hM]; simp; omega
                    rw [← hM] at hca hfa hset hv
                    have e7 : IntKind.i64.wrap (((M + 1 : Nat) : Int) - 1) = (M : Int) := by rw [IntWalk.i64_in _ (by omega)]; omega
                    have HV := Lib.hid hv
                    have HS := Lib.hid (And.intro hput (And.intro hset (And.intro hK5 (And.intro True.intro hL))))
                    clear hL' hM hput hset hRm hO5 hL
                    rw [HV.out]
                    go_wp2
                    go_region
                    obtain ⟨wn, hwn⟩ : ∃ wn, wn = (wc.setCell ⟨g', M, none⟩ (.int .u8 ((b8 (a'.toNat + q * 2 ^ L')).toNat : Int))).drew := ⟨_, rfl⟩
                    rw [orByte a' q L' L (by omega) ha2 ha1 ha3, ← hwn]
                    have h6a := (HS.out.2.1 (b8 (a'.toNat + q * 2 ^ L'))).keep ((Keep.refl Nil2 _).drew) fun _ _ _ e => e
                    have h6b := HS.out.1 (b8 (a'.toNat + q * 2 ^ L')) (by rw [b8_toNat, Nat.mod_eq_of_lt ha1])
                    have h6c := (HS.out.2.2.1.setNew (j := M) hgb (.int .u8 ((b8 (a'.toNat + q * 2 ^ L')).toNat : Int))).drew
                    rw [← hwn] at h6a h6c
                    have HF := Lib.hid (And.intro h6a (And.intro h6b h6c))
                    clear h6a h6b h6c
                    clear hwn
                    go_wp2
                    go_roundg (g2 - 1)
                    case measure => have := HG2.out; omega
                    case rel =>
                      refine ⟨x + 1, g2 - 1, L', r ++ [b8 (a'.toNat + q * 2 ^ L')], rfl, by omega, by go_num, rfl, ?_, HF.out.2.1, HF.out.2.2⟩
                      rw [← HV.out]
                      simpa using HF.out.1
                · obtain rfl : x = wide := by omega
                  have d2 : decide ((x : Int) < (x : Int)) = false := by simp
                  have hrow : row.length = rowB x depth colour := by
                    have hlen := HPK.out.len
                    rw [HD.out.2.2]
                    simp only [rowB, chan]
                    simp
                    omega
                  have HX := Lib.hid (And.intro hO2 (And.intro (HR.out.next (row := row) hrow (fun h3 => rowsKind_pal HRK.out h3) (fun h3 k hk => by
                    unfold pk8
                    rw [if_neg h8]
                    exact HPK.out.pal k hk)) HK2.out))
                  clear hO2 hK2 hrow
                  go_wp2
                  go_roundg (g - 1)
                  case measure => have := HG.out; omega
                  case rel => exact ⟨y + 1, g - 1, _, rfl, by omega, by go_num, by have := HX.out.1; simpa using this, HX.out.2.1, HX.out.2.2⟩
          · have h7n := h7
            have q7 : ((kind : Int) == 7) = false := by simp; omega
            obtain ⟨pl, hpl⟩ : ∃ pl, pl = pixLen kind opq := ⟨_, rfl⟩
            have HPL := Lib.hid hpl
            have hpl8 : pl ≤ 8 := by rw [hpl]; exact pixLen_le kind opq
            clear hpl
            go_wp2
            go_loopg [18, 21, 22, 23, 58] wide (fun G v18 v21 v22 v23 v58 wr => ∃ x g row, g = G ∧ x + g = wide ∧ v58 = .int .i64 (x : Int) ∧ OwnB wr wc.heap.size v18 (lst ++ [0] ++ row) ∧ row.length = x * pl ∧ (kind = 7 → ∀ k, k < x → (row.getD k 0).toNat < colors) ∧ Keep Nil2 wc wr)
            case atStart => exact ⟨0, wide, [], rfl, by omega, rfl, by simpa using H2.out.1, by simp, fun _ k hk => by omega, H2.out.2⟩
            case round =>
              obtain ⟨x, g2, row, hG2, hxg, rfl, hO2, hrl, hrp, hK2⟩ := hrel
              have HG2 := Lib.hid hG2
              have HRL := Lib.hid hrl
              have HRP := Lib.hid hrp
              have hrl2 : row.length ≤ 60 * 8 := by rw [hrl]; exact Nat.mul_le_mul (by omega) hpl8
              have HK2 := Lib.hid hK2
              clear hG2 hrl hrp
              by_cases hx2 : x < wide
              · have d2 : decide ((x : Int) < (wide : Int)) = true := by simp; omega
                obtain ⟨a, ha⟩ : ∃ a, a = y * stride := ⟨_, rfl⟩
                obtain ⟨f, hf⟩ : ∃ f, f = x * p := ⟨_, rfl⟩
                have ha1 : a + stride ≤ stride * high := by
                  have : (y + 1) * stride ≤ high * stride := Nat.mul_le_mul_right _ hy
                  rw [Nat.add_mul, Nat.mul_comm high] at this
                  omega
                have hf1 : f + p ≤ stride := by
                  have : (x + 1) * p ≤ wide * p := Nat.mul_le_mul_right _ hx2
                  rw [Nat.add_mul] at this
                  omega
                have hal : a ≤ 60 * 1000 := by rw [ha]; exact Nat.mul_le_mul (by omega) hst
                have e0 : IntKind.i64.wrap ((y : Int) * (stride : Int)) = (a : Int) := by rw [ha, IntWalk.i64_in _ (by rw [← Int.natCast_mul, ← ha]; omega)]; simp
                have e1 : IntKind.i64.wrap ((x : Int) * (p : Int)) = (f : Int) := by rw [hf, IntWalk.i64_in _ (by rw [← Int.natCast_mul, ← hf]; omega)]; simp
                have e2 : IntKind.i64.wrap ((a : Int) + (f : Int)) = ((a + f : Nat) : Int) := by rw [IntWalk.i64_in _ (by omega)]; omega
                have hab : a + f + p ≤ n := by have := HN.out; have := HL.out; omega
                have hpos : 0 < p := by rw [HP.out]; exact pixN_pos kind
                have e3 : ((a + f : Nat) : Int) ≤ n := by omega
                have e4 : ¬ c = a + f := by omega
                have e5 : ((a + f : Nat) : Int) ≤ c := by omega
                have hdl : (l.drop (a + f)).length = n - (a + f) := by rw [List.length_drop, HN.out]
                have HPX := Lib.hid (fun V (h : BytesAt V b o l) => specPixel kind b (o + (a + f)) (n - (a + f)) (c - (a + f)) opq hk (l.drop (a + f)) (h.drop (a + f)) hdl.symm (by rw [hdl, ← HP.out]; omega) (by omega))
                have hafl : a + f < l.length := by have := HN.out; omega
                clear ha hf hdl
                go_wp2_with (go_at_call 31; fail)
                refine (HPX.out _ (HB.out.keep HK2.out fun _ _ e => e)).mono ?_
                rintro e w3 ⟨b', o', n', c', m, rfl, hn', hm, hml, hm7, hk3⟩
                have hm8 : m.length = pl := by rw [HPL.out]; exact hml
                have hO3 := hO2.keep hk3 fun _ _ _ e => e
                have HM := Lib.hid (And.intro hn' (And.intro hm (And.intro hm8 (And.intro hm7 (HK2.out.trans hk3)))))
                have hsz3 : wc.heap.size ≤ w3.heap.size := HM.out.2.2.2.2.size
                clear hn' hm hml hm7 hk3 hO2 hm8 hK2
                go_wp2_with (at_builtin; refine wpList_append_bytes rfl (.tmp 79) (.tmp 80) rfl wc.heap.size u18 (lst ++ [0] ++ row) rfl hO3 _ m rfl (Src.of HM.out.1 HM.out.2.1) (by have := HM.out.2.2.1; simp; omega) hsz3 ?_)
                intro v4 w4 h4 hk4 hv4
                have H4 := Lib.hid (And.intro h4 (keep_lay HM.out.2.2.2.2 hO3 hk4))
                clear h4 hk4 hv4 hO3
                go_wp2
                go_roundg (g2 - 1)
                case measure => have := HG2.out; omega
                case rel =>
                  refine ⟨x + 1, g2 - 1, row ++ m, rfl, by omega, by go_num, by simpa using H4.out.1, by rw [List.length_append, HRL.out, HM.out.2.2.1, Nat.add_mul, Nat.one_mul], fun h7 k hk => ?_, H4.out.2⟩
                  exact absurd h7 h7n
              · obtain rfl : x = wide := by omega
                have d2 : decide ((x : Int) < (x : Int)) = false := by simp
                have hrow : row.length = rowB x depth colour := by rw [HRL.out, HPL.out]; exact rowsKind_len HRK.out (by omega)
                have HX := Lib.hid (And.intro hO2 (And.intro (HR.out.next (row := row) hrow (fun h3 => rowsKind_pal HRK.out h3) (fun h3 k hk => by
                  exact absurd (rowsKind_7 HRK.out h3) h7n)) HK2.out))
                clear hO2 hK2 hrow
                go_wp2
                go_roundg (g - 1)
                case measure => have := HG.out; omega
                case rel => exact ⟨y + 1, g - 1, _, rfl, by omega, by go_num, by have := HX.out.1; simpa using this, HX.out.2.1, HX.out.2.2⟩
        · have d1 : decide ((y : Int) < (high : Int)) = false := by simp; omega
          go_wp2
          obtain rfl : y = high := by omega
          go_ret3
          refine ⟨u18, depth, colour, lst, rfl, ⟨hO, hK⟩, rowsKind_ok HRK.out HR.out hw hh (fun h => (hpal h).1), ⟨fun h => rowsKind_7 HRK.out h, fun h => ?_⟩⟩
          have := HRK.out
          unfold RowsKind at this
          omega
end Go.Proofs.YtnbbppjgamdfeaaGreatDoor
end
