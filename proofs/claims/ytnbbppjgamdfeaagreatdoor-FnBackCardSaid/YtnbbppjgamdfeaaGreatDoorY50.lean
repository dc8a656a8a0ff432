/- laws.FnBack, part 50 of 54: X2. -/
import Derived.Test.YtnbbppjgamdfeaaGreatDoorY49
import Derived.Test.YtnbbppjgamdfeaaGreatDoorY48
import Derived.Test.YtnbbppjgamdfeaaGreatDoorY17

/- laws: pictureOf. -/
section
set_option linter.unusedVariables false
set_option linter.unusedSimpArgs false
namespace Go.Proofs.YtnbbppjgamdfeaaGreatDoor
open Go Go.RowKit

/-- What lawExact asks of a picture. -/
def LawPic (w w' : World) (v : Value) : Prop := ∃ (kind wide high stride g n cap np pc : Nat) (ao : Option Addr) (l : List UInt8) (pal : List Shade4), v = picV kind wide high stride g n cap (.slice ao np pc) ∧ (1 ≤ kind ∧ kind ≤ 7) ∧ BytesAt w' g 0 l ∧ n = l.length ∧ l.length = stride * high ∧ wide * pixN kind ≤ stride ∧ (1 ≤ wide ∧ wide ≤ 60) ∧ (1 ≤ high ∧ high ≤ 60) ∧ stride ≤ 1000 ∧ n ≤ cap ∧
  np = pal.length ∧ (np = 0 ∨ ∃ pg, ao = some ⟨pg, 0, none⟩ ∧ CellsAt w' pg 0 (shadeCells pal) ∧ w.heap.size ≤ pg) ∧ np ≤ 200 ∧ (kind = 7 → 1 ≤ np ∧ ∀ x ∈ l, x.toNat < np) ∧ w.heap.size ≤ g
/-- A picture's fields while the law fills them. -/
def PcL (w2 : World) (pb kd wide high stride : Nat) (s6 s7 : Value) (wx : World) : Prop := CellsAt wx pb 0 [.int .i64 (kd : Int), .int .i64 0, .int .i64 0, .int .i64 (wide : Int), .int .i64 (high : Int), .int .i64 (stride : Int), s6, s7] ∧ (∀ j, wx.frozen? ⟨pb, j, none⟩ = false) ∧ Keep (fun x _ => x = pb) w2 wx ∧ pb < wx.heap.size
theorem PcL.cells {w2 : World} {pb kd wide high stride : Nat} {s6 s7 : Value} {wx : World} (h : PcL w2 pb kd wide high stride s6 s7 wx) : wx.cell? ⟨pb, 0, none⟩ = some (.int .i64 (kd : Int)) ∧ wx.cell? ⟨pb, 1, none⟩ = some (.int .i64 0) ∧ wx.cell? ⟨pb, 2, none⟩ = some (.int .i64 0) ∧ wx.cell? ⟨pb, 3, none⟩ = some (.int .i64 (wide : Int)) ∧ wx.cell? ⟨pb, 4, none⟩ = some (.int .i64 (high : Int)) ∧ wx.cell? ⟨pb, 5, none⟩ = some (.int .i64 (stride : Int)) ∧ wx.cell? ⟨pb, 6, none⟩ = some s6 ∧ wx.cell? ⟨pb, 7, none⟩ = some s7 :=
  ⟨h.1 0 _ rfl, h.1 1 _ rfl, h.1 2 _ rfl, h.1 3 _ rfl, h.1 4 _ rfl, h.1 5 _ rfl, h.1 6 _ rfl, h.1 7 _ rfl⟩
theorem PcL.keepF {F : Nat → Nat → Prop} {w2 : World} {pb kd wide high stride : Nat} {s6 s7 : Value} {wx wy : World} (h : PcL w2 pb kd wide high stride s6 s7 wx) (hk : Keep F wx wy) (hF : ∀ j, ¬ F pb j) (hF2 : ∀ i j, i < w2.heap.size → ¬ F i j) : PcL w2 pb kd wide high stride s6 s7 wy :=
  ⟨h.1.keep hk fun _ _ => hF _, fun j => hk.froz h.2.2.2 (h.2.1 j) (hF j), h.2.2.1.then hk (fun _ _ _ e => e) (fun i j hi e => absurd e (hF2 i j hi)), Nat.lt_of_lt_of_le h.2.2.2 hk.size⟩
theorem PcL.keep {w2 : World} {pb kd wide high stride : Nat} {s6 s7 : Value} {wx wy : World} (h : PcL w2 pb kd wide high stride s6 s7 wx) (hk : Keep Nil2 wx wy) : PcL w2 pb kd wide high stride s6 s7 wy := h.keepF hk (fun _ e => e) fun _ _ _ e => e
theorem PcL.set7 {w2 : World} {pb kd wide high stride : Nat} {s6 s7 : Value} {wx : World} (h : PcL w2 pb kd wide high stride s6 s7 wx) (s : Value) : PcL w2 pb kd wide high stride s6 s (wx.setCell ⟨pb, 7, none⟩ s) := by
  have hk := keep_setCell wx pb 7 s
  obtain ⟨c0, c1, c2, c3, c4, c5, c6, c7⟩ := h.cells
  exact ⟨cells8 (hk.get c0 (by omega)) (hk.get c1 (by omega)) (hk.get c2 (by omega)) (hk.get c3 (by omega)) (hk.get c4 (by omega)) (hk.get c5 (by omega)) (hk.get c6 (by omega)) (World.cell?_setCell_same _ _ _ c7), fun j => by rw [World.frozen?_setCell]; exact h.2.1 j, h.2.2.1.setCell s fun _ => rfl, by simpa using h.2.2.2⟩
theorem PcL.set6 {w2 : World} {pb kd wide high stride : Nat} {s6 s7 : Value} {wx : World} (h : PcL w2 pb kd wide high stride s6 s7 wx) (s : Value) : PcL w2 pb kd wide high stride s s7 (wx.setCell ⟨pb, 6, none⟩ s) := by
  have hk := keep_setCell wx pb 6 s
  obtain ⟨c0, c1, c2, c3, c4, c5, c6, c7⟩ := h.cells
  exact ⟨cells8 (hk.get c0 (by omega)) (hk.get c1 (by omega)) (hk.get c2 (by omega)) (hk.get c3 (by omega)) (hk.get c4 (by omega)) (hk.get c5 (by omega)) (World.cell?_setCell_same _ _ _ c6) (hk.get c7 (by omega)), fun j => by rw [World.frozen?_setCell]; exact h.2.1 j, h.2.2.1.setCell s fun _ => rfl, by simpa using h.2.2.2⟩
theorem PcL.set5 {w2 : World} {pb kd wide high stride : Nat} {s6 s7 : Value} {wx : World} (h : PcL w2 pb kd wide high stride s6 s7 wx) (st : Nat) : PcL w2 pb kd wide high st s6 s7 (wx.setCell ⟨pb, 5, none⟩ (.int .i64 (st : Int))) := by
  have hk := keep_setCell wx pb 5 (.int .i64 (st : Int))
  obtain ⟨c0, c1, c2, c3, c4, c5, c6, c7⟩ := h.cells
  exact ⟨cells8 (hk.get c0 (by omega)) (hk.get c1 (by omega)) (hk.get c2 (by omega)) (hk.get c3 (by omega)) (hk.get c4 (by omega)) (World.cell?_setCell_same _ _ _ c5) (hk.get c6 (by omega)) (hk.get c7 (by omega)), fun j => by rw [World.frozen?_setCell]; exact h.2.1 j, h.2.2.1.setCell _ fun _ => rfl, by simpa using h.2.2.2⟩
theorem shadeK (k al : Nat) (hk : k ≤ 200) (a : Int) (ha : a = ((al % 256 : Nat) : Int)) : [Value.int .u8 ((k : Int) * 3 % 256), .int .u8 ((k : Int) * 7 % 256), .int .u8 (255 - (k : Int)), .int .u8 a] = shadeCell (b8 (k * 3), b8 (k * 7), b8 (255 - k), b8 al) := by
  have h : ((255 - k : Nat) : Int) % 256 = 255 - (k : Int) := by omega
  simp only [shadeCell, b8_toNat, ha]
  simp [h]
theorem shadeCells_snoc (pal : List Shade4) (s : Shade4) : shadeCells (pal ++ [s]) = shadeCells pal ++ shadeCell s := by simp [shadeCells]
theorem byteV1 (b : Nat) (h : b < 256) : [Value.int .u8 (b : Int)] = bytesV [b8 b] := by simp [bytesV, b8_toNat, Nat.mod_eq_of_lt h]
theorem pixN_le (k : Nat) : 1 ≤ pixN k ∧ pixN k ≤ 8 := by unfold pixN; split <;> (try split) <;> (try split) <;> omega
set_option maxHeartbeats 4000000 in
set_option maxRecDepth 100000 in
theorem lawPictureOf {w : World} (x : Nat) (hx : x < 4294967296) (ao : Option Addr) (m c : Nat) (l0 : List UInt8) (hl : m = l0.length) (hm : m ≤ 5000) (hb : m = 0 ∨ ∃ b o, ao = some ⟨b, o, none⟩ ∧ BytesAt w b o l0) (cl : Bool) :
    Calls Tryz.prog 4 #[.int .u32 (x : Int), .slice ao m c, .bool cl] w fun e w' => ∃ v, e = .returned v ∧ LawPic w w' v ∧ Keep Nil2 w w' := by
  have HB := Lib.hid (And.intro hl hb)
  clear hl hb
  go_enter Tryz.func4, Tryz.ntmps4
  go_wp2_with (go_at_call 10; fail)
  obtain ⟨kd, hkd⟩ : ∃ kd, kd = 1 + x % 7 := ⟨_, rfl⟩
  obtain ⟨wide, hwide⟩ : ∃ wide, wide = 1 + x / 8 % 60 := ⟨_, rfl⟩
  obtain ⟨high, hhigh⟩ : ∃ high, high = 1 + x / 512 % 60 := ⟨_, rfl⟩
  have e1 : 1 + (x : Int) % 7 = (kd : Int) := by omega
  have e2 : 1 + (x : Int) / 8 % 60 = (wide : Int) := by omega
  have e3 : 1 + (x : Int) / 512 % 60 = (high : Int) := by omega
  rw [e1, e2, e3]
  have k1 : 1 ≤ kd ∧ kd ≤ 7 := by omega
  have k2 : 1 ≤ wide ∧ wide ≤ 60 := by omega
  have k3 : 1 ≤ high ∧ high ≤ 60 := by omega
  clear e1 e2 e3 hkd hwide hhigh
  obtain ⟨tb, htb⟩ : ∃ tb, tb = w.heap.size := ⟨_, rfl⟩
  obtain ⟨wa, hwa⟩ : ∃ wa, wa = w.alloc (.cells #[.int .i64 0, .int .i64 0, .int .i64 0, .int .i64 0, .int .i64 0, .int .i64 0, .slice none 0 0, .slice none 0 0] 26) := ⟨_, rfl⟩
  have hka : Keep Nil2 w wa := by rw [hwa]; exact (Keep.refl Nil2 w).alloc _
  have hNa : HasN w.heap.size 8 wa := by rw [hwa]; exact hasN_alloc w _ 26 8 rfl
  have hsa : wa.heap.size = w.heap.size + 1 := by rw [hwa]; simp
  rw [← hwa, ← htb]
  rw [← htb] at hNa hsa
  obtain ⟨pb, hpb⟩ : ∃ pb, pb = wa.heap.size := ⟨_, rfl⟩
  obtain ⟨w1, hw1⟩ : ∃ w1, w1 = wa.alloc (.cells #[.int .i64 (kd : Int), .int .i64 0, .int .i64 0, .int .i64 (wide : Int), .int .i64 (high : Int), .int .i64 0, .slice none 0 0, .slice none 0 0] 26) := ⟨_, rfl⟩
  have hP1 : PcL wa pb kd wide high 0 (.slice none 0 0) (.slice none 0 0) w1 := by
    rw [hw1, hpb]
    exact ⟨CellsAt.lit wa _ 26, (hasN_alloc wa _ 26 8 rfl).2, (Keep.refl _ wa).alloc _, by simp⟩
  rw [← hw1]
  have HA := Lib.hid (And.intro hka (And.intro hNa (And.intro hsa (And.intro htb hpb))))
  have hpt : pb ≠ tb := by omega
  have hpb1 : pb = tb + 1 := by omega
  clear hka hNa hsa htb hpb hwa hw1
  refine (specPixelBytes _ kd k1).mono ?_
  rintro e w1' ⟨rfl, rfl⟩
  obtain ⟨pn, hpn⟩ : ∃ pn, pn = pixN kd := ⟨_, rfl⟩
  rw [← hpn]
  have hpn8 := pixN_le kd
  rw [← hpn] at hpn8
  obtain ⟨q, hq⟩ : ∃ q, q = wide * pn := ⟨_, rfl⟩
  have hq1 : q ≤ 480 := by rw [hq]; exact Nat.le_trans (Nat.mul_le_mul k2.2 hpn8.2) (by decide)
  have f1 : IntKind.i64.wrap ((wide : Int) * (pn : Int)) = (q : Int) := by rw [← Int.natCast_mul, ← hq]; exact IntWalk.i64_in _ (by omega)
  have HQ := Lib.hid (And.intro hpn hq)
  obtain ⟨stride, hst⟩ : ∃ stride, stride = q + x / 32768 % 5 := ⟨_, rfl⟩
  obtain ⟨np, hnp⟩ : ∃ np, np = 1 + x / 131072 % 200 := ⟨_, rfl⟩
  obtain ⟨c0, c1, c2, c3, c4, c5, c6, c7⟩ := hP1.cells
  have hfz := hP1.2.1
  clear hpn hq
  subst hpb1
  go_upto_if 50 with fail
  have e4 : (q : Int) + (x : Int) / 32768 % 5 = (stride : Int) := by omega
  have e5 : 1 + (x : Int) / 131072 % 200 = (np : Int) := by omega
  rw [e4, e5]
  have hP2 := hP1.set5 stride
  have hst1 : stride ≤ 1000 := by omega
  have hst2 : q ≤ stride := by omega
  have hnp1 : 1 ≤ np ∧ np ≤ 200 := by omega
  obtain ⟨w2, hw2⟩ : ∃ w2, w2 = w1'.setCell ⟨tb + 1, 5, none⟩ (.int .i64 (stride : Int)) := ⟨_, rfl⟩
  rw [← hw2] at hP2
  rw [← hw2]
  clear e4 e5 hw2 hP1 c0 c1 c2 c3 c4 c5 c6 c7 hfz f1 hst hnp
  obtain ⟨pb, hpb⟩ : ∃ pb, pb = tb + 1 := ⟨_, rfl⟩
  rw [← hpb] at hP2
  rw [← hpb]
  have hpt : pb ≠ tb := by omega
  have HPB := Lib.hid hpb
  clear hpb
  go_cut [10] (fun v10 wx => ∃ (pal : List Shade4) (ao7 : Option Addr) (n7 c7 : Nat), PcL wa pb kd wide high stride (.slice none 0 0) (.slice ao7 n7 c7) wx ∧ n7 = pal.length ∧ n7 ≤ 200 ∧ (n7 = 0 ∨ ∃ pg, ao7 = some ⟨pg, 0, none⟩ ∧ CellsAt wx pg 0 (shadeCells pal) ∧ pb < pg ∧ pg < wx.heap.size) ∧ (kd = 7 → n7 = np))
  case first =>
    by_cases hk7 : kd = 7
    · subst hk7
      cases cl
      · skip
        have HP2 := Lib.hid hP2
        clear hP2
        go_wp2
        go_loopg [10, 11, 52] np (fun G v10 v11 v52 wr => ∃ (k g : Nat) (pal : List Shade4) (ao7 : Option Addr) (c7 : Nat), g = G ∧ k + g = np ∧ v52 = .int .i64 (k : Int) ∧ pal.length = k ∧ PcL wa pb 7 wide high stride (.slice none 0 0) (.slice ao7 k c7) wr ∧ OwnV 39 4 wr (pb + 1) (.slice ao7 k c7) k (shadeCells pal))
        case atStart => exact ⟨0, np, [], none, 0, rfl, by omega, rfl, rfl, HP2.out, OwnV.nil 39 4 w2 _⟩
        case round =>
          obtain ⟨k, g, pal, ao7, c7, hG, hkg, rfl, hpl, hP, hO⟩ := hrel
          have HG := Lib.hid (And.intro hG hpl)
          clear hG hpl
          by_cases hk : k < np
          · have d1 : decide ((k : Int) < (np : Int)) = true := by simp; omega
            have hkI : (k : Int) < np := by omega
            have HP := Lib.hid (And.intro hP hO)
            clear hP hO
            obtain ⟨z0, z1, z2, z3, z4, z5, z6, z7⟩ := HP.out.1.cells
            have zf := HP.out.1.2.1
            go_wp2_with (at_builtin; refine goalStop ?_)
            · refine ⟨?_⟩
              refine wpList_append_vals rfl (.tmp 65) (.tmp 77) 24 39 rfl _ 4 4 Tryz.underlying24 info39 rfl (by decide) (by decide) (pb + 1) (.slice ao7 k c7) k (shadeCells pal) rfl (HP.out.2.alloc _) _ 1 (shadeCell (b8 (k * 3), b8 (k * 7), b8 (255 - k), b8 (255))) rfl (SrcV.litAt' wr #[.int .u8 ((k : Int) * 3 % 256), .int .u8 ((k : Int) * 7 % 256), .int .u8 (255 - (k : Int)), .int .u8 (255)] 39 1 _ (shadeK k (255) (by omega) _ (by omega)) rfl) rfl (shadeCell_one _) (by omega) (by have := HP.out.1.2.2.2; simp; omega) ?_
              intro v4 w4 h4 hk4 hv4
              obtain ⟨g5, cap5, rfl, hb5, _⟩ := h4.out (by omega)
              have hge := fun j e => (HP.out.2.block_ge j e).1
              have hPa := (HP.out.1.keep ((Keep.refl Nil2 wr).alloc (.cells #[.int .u8 ((k : Int) * 3 % 256), .int .u8 ((k : Int) * 7 % 256), .int .u8 (255 - (k : Int)), .int .u8 (255)] 39))).keepF hk4 (fun j e => by have := hge _ e; omega) (fun i j hi e => by have := hge _ e; have := HA.out.2.2.2.2; have := HPB.out; omega)
              have HF := Lib.hid (And.intro (hPa.set7 (.slice (some ⟨g5, 0, none⟩) (k + 1) cap5)) (show OwnV 39 4 (w4.setCell ⟨pb, 7, none⟩ (.slice (some ⟨g5, 0, none⟩) (k + 1) cap5)) (pb + 1) (.slice (some ⟨g5, 0, none⟩) (k + 1) cap5) (k + 1) (shadeCells (pal ++ [(b8 (k * 3), b8 (k * 7), b8 (255 - k), b8 (255))])) by rw [shadeCells_snoc]; exact h4.keep (keep_setCell _ _ _ _) fun _ _ hl e => by omega))
              obtain ⟨y0, y1, y2, y3, y4, y5, y6, y7⟩ := hPa.cells
              have yf := hPa.2.1
              clear h4 hk4 hv4 hge hPa hb5 z0 z1 z2 z3 z4 z5 z6 z7 zf
              go_wp2
              go_roundg (g - 1)
              case measure => have := HG.out.1; omega
              case rel => exact ⟨k + 1, g - 1, pal ++ [(b8 (k * 3), b8 (k * 7), b8 (255 - k), b8 (255))], some ⟨g5, 0, none⟩, cap5, rfl, by omega, by go_num, by simp [HG.out.2], HF.out.1, HF.out.2⟩
          · obtain rfl : k = np := by omega
            have d1 : decide ((k : Int) < (k : Int)) = false := by simp
            have HP := Lib.hid (And.intro hP hO)
            clear hP hO
            go_wp2
            go_meet
            case rel =>
              refine ⟨pal, ao7, k, c7, HP.out.1, HG.out.2.symm, by omega, ?_, fun _ => rfl⟩
              rcases HP.out.2.slice with ⟨h, h0, _⟩ | ⟨g4, cap4, h, hb4, _, hlt, hc, _⟩
              · exact .inl h0
              · exact .inr ⟨g4, by injection h with h1, hc, by omega, hlt⟩
      · skip
        have HP2 := Lib.hid hP2
        clear hP2
        go_wp2
        go_loopg [10, 11, 52] np (fun G v10 v11 v52 wr => ∃ (k g : Nat) (pal : List Shade4) (ao7 : Option Addr) (c7 : Nat), g = G ∧ k + g = np ∧ v52 = .int .i64 (k : Int) ∧ pal.length = k ∧ PcL wa pb 7 wide high stride (.slice none 0 0) (.slice ao7 k c7) wr ∧ OwnV 39 4 wr (pb + 1) (.slice ao7 k c7) k (shadeCells pal))
        case atStart => exact ⟨0, np, [], none, 0, rfl, by omega, rfl, rfl, HP2.out, OwnV.nil 39 4 w2 _⟩
        case round =>
          obtain ⟨k, g, pal, ao7, c7, hG, hkg, rfl, hpl, hP, hO⟩ := hrel
          have HG := Lib.hid (And.intro hG hpl)
          clear hG hpl
          by_cases hk : k < np
          · have d1 : decide ((k : Int) < (np : Int)) = true := by simp; omega
            have hkI : (k : Int) < np := by omega
            have HP := Lib.hid (And.intro hP hO)
            clear hP hO
            obtain ⟨z0, z1, z2, z3, z4, z5, z6, z7⟩ := HP.out.1.cells
            have zf := HP.out.1.2.1
            go_wp2_with (at_builtin; refine goalStop ?_)
            · refine ⟨?_⟩
              refine wpList_append_vals rfl (.tmp 65) (.tmp 77) 24 39 rfl _ 4 4 Tryz.underlying24 info39 rfl (by decide) (by decide) (pb + 1) (.slice ao7 k c7) k (shadeCells pal) rfl (HP.out.2.alloc _) _ 1 (shadeCell (b8 (k * 3), b8 (k * 7), b8 (255 - k), b8 (k * 5))) rfl (SrcV.litAt' wr #[.int .u8 ((k : Int) * 3 % 256), .int .u8 ((k : Int) * 7 % 256), .int .u8 (255 - (k : Int)), .int .u8 ((k : Int) * 5 % 256)] 39 1 _ (shadeK k (k * 5) (by omega) _ (by omega)) rfl) rfl (shadeCell_one _) (by omega) (by have := HP.out.1.2.2.2; simp; omega) ?_
              intro v4 w4 h4 hk4 hv4
              obtain ⟨g5, cap5, rfl, hb5, _⟩ := h4.out (by omega)
              have hge := fun j e => (HP.out.2.block_ge j e).1
              have hPa := (HP.out.1.keep ((Keep.refl Nil2 wr).alloc (.cells #[.int .u8 ((k : Int) * 3 % 256), .int .u8 ((k : Int) * 7 % 256), .int .u8 (255 - (k : Int)), .int .u8 ((k : Int) * 5 % 256)] 39))).keepF hk4 (fun j e => by have := hge _ e; omega) (fun i j hi e => by have := hge _ e; have := HA.out.2.2.2.2; have := HPB.out; omega)
              have HF := Lib.hid (And.intro (hPa.set7 (.slice (some ⟨g5, 0, none⟩) (k + 1) cap5)) (show OwnV 39 4 (w4.setCell ⟨pb, 7, none⟩ (.slice (some ⟨g5, 0, none⟩) (k + 1) cap5)) (pb + 1) (.slice (some ⟨g5, 0, none⟩) (k + 1) cap5) (k + 1) (shadeCells (pal ++ [(b8 (k * 3), b8 (k * 7), b8 (255 - k), b8 (k * 5))])) by rw [shadeCells_snoc]; exact h4.keep (keep_setCell _ _ _ _) fun _ _ hl e => by omega))
              obtain ⟨y0, y1, y2, y3, y4, y5, y6, y7⟩ := hPa.cells
              have yf := hPa.2.1
              clear h4 hk4 hv4 hge hPa hb5 z0 z1 z2 z3 z4 z5 z6 z7 zf
              go_wp2
              go_roundg (g - 1)
              case measure => have := HG.out.1; omega
              case rel => exact ⟨k + 1, g - 1, pal ++ [(b8 (k * 3), b8 (k * 7), b8 (255 - k), b8 (k * 5))], some ⟨g5, 0, none⟩, cap5, rfl, by omega, by go_num, by simp [HG.out.2], HF.out.1, HF.out.2⟩
            · refine ⟨?_⟩
              refine wpList_append_vals rfl (.tmp 65) (.tmp 77) 24 39 rfl _ 4 4 Tryz.underlying24 info39 rfl (by decide) (by decide) (pb + 1) (.slice ao7 k c7) k (shadeCells pal) rfl (HP.out.2.alloc _) _ 1 (shadeCell (b8 (k * 3), b8 (k * 7), b8 (255 - k), b8 (255))) rfl (SrcV.litAt' wr #[.int .u8 ((k : Int) * 3 % 256), .int .u8 ((k : Int) * 7 % 256), .int .u8 (255 - (k : Int)), .int .u8 (255)] 39 1 _ (shadeK k (255) (by omega) _ (by omega)) rfl) rfl (shadeCell_one _) (by omega) (by have := HP.out.1.2.2.2; simp; omega) ?_
              intro v4 w4 h4 hk4 hv4
              obtain ⟨g5, cap5, rfl, hb5, _⟩ := h4.out (by omega)
              have hge := fun j e => (HP.out.2.block_ge j e).1
              have hPa := (HP.out.1.keep ((Keep.refl Nil2 wr).alloc (.cells #[.int .u8 ((k : Int) * 3 % 256), .int .u8 ((k : Int) * 7 % 256), .int .u8 (255 - (k : Int)), .int .u8 (255)] 39))).keepF hk4 (fun j e => by have := hge _ e; omega) (fun i j hi e => by have := hge _ e; have := HA.out.2.2.2.2; have := HPB.out; omega)
              have HF := Lib.hid (And.intro (hPa.set7 (.slice (some ⟨g5, 0, none⟩) (k + 1) cap5)) (show OwnV 39 4 (w4.setCell ⟨pb, 7, none⟩ (.slice (some ⟨g5, 0, none⟩) (k + 1) cap5)) (pb + 1) (.slice (some ⟨g5, 0, none⟩) (k + 1) cap5) (k + 1) (shadeCells (pal ++ [(b8 (k * 3), b8 (k * 7), b8 (255 - k), b8 (255))])) by rw [shadeCells_snoc]; exact h4.keep (keep_setCell _ _ _ _) fun _ _ hl e => by omega))
              obtain ⟨y0, y1, y2, y3, y4, y5, y6, y7⟩ := hPa.cells
              have yf := hPa.2.1
              clear h4 hk4 hv4 hge hPa hb5 z0 z1 z2 z3 z4 z5 z6 z7 zf
              go_wp2
              go_roundg (g - 1)
              case measure => have := HG.out.1; omega
              case rel => exact ⟨k + 1, g - 1, pal ++ [(b8 (k * 3), b8 (k * 7), b8 (255 - k), b8 (255))], some ⟨g5, 0, none⟩, cap5, rfl, by omega, by go_num, by simp [HG.out.2], HF.out.1, HF.out.2⟩
          · obtain rfl : k = np := by omega
            have d1 : decide ((k : Int) < (k : Int)) = false := by simp
            have HP := Lib.hid (And.intro hP hO)
            clear hP hO
            go_wp2
            go_meet
            case rel =>
              refine ⟨pal, ao7, k, c7, HP.out.1, HG.out.2.symm, by omega, ?_, fun _ => rfl⟩
              rcases HP.out.2.slice with ⟨h, h0, _⟩ | ⟨g4, cap4, h, hb4, _, hlt, hc, _⟩
              · exact .inl h0
              · exact .inr ⟨g4, by injection h with h1, hc, by omega, hlt⟩
    · have q0 : ((kd : Int) == 7) = false := by simp; omega
      have HP2 := Lib.hid hP2
      clear hP2
      go_wp2
      go_meet
      case rel => exact ⟨[], none, 0, 0, HP2.out, rfl, by omega, .inl rfl, fun h => absurd h hk7⟩
  case rest =>
    obtain ⟨wo, hwo⟩ : ∃ wo, wo = wc := ⟨_, rfl⟩
    subst hwo
    obtain ⟨pal, ao7, n7, c7, hP, hn7, hn72, hps, hk7⟩ := hcut
    obtain ⟨z0, z1, z2, z3, z4, z5, z6, z7⟩ := hP.cells
    have zf := hP.2.1
    obtain ⟨n, hn⟩ : ∃ n, n = stride * high := ⟨_, rfl⟩
    have hn1 : n ≤ 60000 := by rw [hn]; exact Nat.le_trans (Nat.mul_le_mul hst1 k3.2) (by decide)
    have f1 : IntKind.i64.wrap ((stride : Int) * (high : Int)) = (n : Int) := by rw [← Int.natCast_mul, ← hn]; exact IntWalk.i64_in _ (by omega)
    have HR := Lib.hid (And.intro hP (And.intro hn7 (And.intro hps (And.intro hk7 hn))))
    have hpbc := hP.2.2.2
    clear hP hn7 hps hk7 hn
    go_wp2
    clear z0 z1 z2 z3 z4 z5 z6 z7 zf f1
    go_loopg [12, 13, 14, 86, 115, 122, 132] n (fun G v12 v13 v14 v86 v115 v122 v132 wr => ∃ (i g : Nat) (l : List UInt8) (ao6 : Option Addr) (c6 : Nat), g = G ∧ i + g = n ∧ v86 = .int .i64 (i : Int) ∧ l.length = i ∧ PcL wa pb kd wide high stride (.slice ao6 i c6) (.slice ao7 n7 c7) wr ∧ OwnB wr wo.heap.size (.slice ao6 i c6) l ∧ (kd = 7 → ∀ y ∈ l, y.toNat < np) ∧ Keep (fun x _ => x = pb) wo wr)
    case atStart => exact ⟨0, n, [], none, 0, rfl, by omega, rfl, rfl, HR.out.1, OwnB.nil wo _, (fun _ y hy => by cases hy), Keep.refl _ _⟩
    case round =>
      obtain ⟨i, g, l, ao6, c6, hG, hig, rfl, hll, hP, hO, h7, hK⟩ := hrel
      have HG := Lib.hid (And.intro hG (And.intro hll (And.intro h7 hK)))
      clear hG hll h7 hK
      by_cases hi : i < n
      · have d1 : decide ((i : Int) < (n : Int)) = true := by simp; omega
        obtain ⟨z0, z1, z2, z3, z4, z5, z6, z7⟩ := hP.cells
        have zf := hP.2.1
        have HP := Lib.hid (And.intro hP hO)
        clear hP hO
        go_upto_if 94 with fail
        go_cut [13] (fun v13 wx => ∃ b : Nat, b < 256 ∧ v13 = .int .u8 (b : Int) ∧ Keep Nil2 wr wx)
        case first =>
          by_cases hm0 : m = 0
          · have q1 : ¬ 0 < m := by omega
            clear hm0
            go_wp2
            go_meet
            case rel => exact ⟨(i * 37) % 256, by omega, by go_num, Keep.refl _ _⟩
          · have q1 : 0 < m := by omega
            have q2 : ¬ m = 0 := hm0
            obtain ⟨b0, o0, hao, hb0⟩ : ∃ b o, ao = some ⟨b, o, none⟩ ∧ BytesAt w b o l0 := by
              rcases HB.out.2 with h | h
              · omega
              · exact h
            obtain ⟨r, hr⟩ : ∃ r, r = i % m := ⟨_, rfl⟩
            have hrm : r < m := by rw [hr]; exact Nat.mod_lt _ q1
            obtain ⟨dq, hdq⟩ : ∃ dq, dq = i / m := ⟨_, rfl⟩
            have hdq1 : dq ≤ 60000 := by rw [hdq]; exact Nat.le_trans (Nat.div_le_self _ _) (by omega)
            have er : (i : Int).tmod (m : Int) = (r : Int) := by rw [hr]; exact (Int.ofNat_tmod i m).symm
            have ed : (i : Int).tdiv (m : Int) = (dq : Int) := by rw [hdq]; exact (Int.ofNat_tdiv i m).symm
            have er2 : (i : Int) % (m : Int) = (r : Int) := by rw [hr]; exact (Int.natCast_emod i m).symm
            have ed2 : (i : Int) / (m : Int) = (dq : Int) := by rw [hdq]; exact (Int.natCast_ediv i m).symm
            have hbr : wr.cell? ⟨b0, o0 + r, none⟩ = some (.int .u8 ((l0[r]'(by have := HB.out.1; omega)).toNat : Int)) := HG.out.2.2.2.get (HR.out.1.2.2.1.get (HA.out.1.get (hb0.at_ r _ (List.getElem?_eq_getElem (by have := HB.out.1; omega))) fun e => e) (by have := hb0.lt (by have := HB.out.1; omega); have := HPB.out; have := HA.out.2.2.2.1; omega)) (by have := hb0.lt (by have := HB.out.1; omega); have := HPB.out; have := HA.out.2.2.2.1; omega)
            obtain ⟨b1, hb1⟩ : ∃ b1, b1 = (l0[r]'(by have := HB.out.1; omega)).toNat := ⟨_, rfl⟩
            rw [← hb1] at hbr
            have hb1l : b1 < 256 := by rw [hb1]; exact UInt8.toNat_lt _
            obtain ⟨d13, hd13⟩ : ∃ d13, d13 = dq * 13 := ⟨_, rfl⟩
            have e13 : IntKind.i64.wrap ((dq : Int) * 13) = (d13 : Int) := by rw [IntWalk.i64_in _ (by omega)]; omega
            obtain ⟨d8, hd8⟩ : ∃ d8, d8 = d13 % 256 := ⟨_, rfl⟩
            have e8 : IntKind.u8.wrap (d13 : Int) = (d8 : Int) := by rw [IntKind.wrap_u8]; omega
            obtain ⟨b2, hb2⟩ : ∃ b2, b2 = (b1 + d8) % 256 := ⟨_, rfl⟩
            have eb : IntKind.u8.wrap ((b1 : Int) + (d8 : Int)) = (b2 : Int) := by rw [IntKind.wrap_u8]; omega
            have hb2l : b2 < 256 := by omega
            have hrI : (r : Int) < m := by omega
            have HB2 := Lib.hid hb2l
            subst hao
            clear hm0 hr hdq hb1 hd13 hd8 hb2 hb0 hb2l
            go_wp2_with fail
            go_quiet (fail)
            go_wp2
            go_meet
            case rel => exact ⟨b2, HB2.out, rfl, (Keep.refl Nil2 wr).drewN _⟩
        case rest =>
          obtain ⟨b, hb, rfl, hkw⟩ := hcut
          have HG2 := Lib.hid (And.intro HG.out.1 (And.intro HG.out.2.1 (And.intro HG.out.2.2.1 (HG.out.2.2.2.then hkw (fun _ _ _ e => e) fun _ _ _ e => e.elim))))
          have HP2 := Lib.hid (And.intro (HP.out.1.keep hkw) (HP.out.2.keep hkw fun _ _ _ e => e))
          clear z0 z1 z2 z3 z4 z5 z6 z7 zf HG HP hkw
          obtain ⟨z0, z1, z2, z3, z4, z5, z6, z7⟩ := HP2.out.1.cells
          have zf := HP2.out.1.2.1
          obtain ⟨ws, hws⟩ : ∃ ws, ws = wc := ⟨_, rfl⟩
          subst hws
          have hs0 : 0 < stride := by
            have h1 : 0 < wide * pn := Nat.mul_pos (by omega) (by omega)
            have h2 := HQ.out.2
            omega
          have hs1 : ¬ stride = 0 := by omega
          obtain ⟨rs, hrs⟩ : ∃ rs, rs = i % stride := ⟨_, rfl⟩
          have hrs1 : rs < stride := by rw [hrs]; exact Nat.mod_lt _ hs0
          have ers : (i : Int).tmod (stride : Int) = (rs : Int) := by rw [hrs]; exact (Int.ofNat_tmod i stride).symm
          have ers2 : (i : Int) % (stride : Int) = (rs : Int) := by rw [hrs]; exact (Int.natCast_emod i stride).symm
          clear hrs
          go_upto_block 4 with fail
          go_cut [13] (fun v13 wx => ∃ b' : Nat, b' < 256 ∧ v13 = .int .u8 (b' : Int) ∧ (kd = 7 → b' < np) ∧ wx = ws)
          case first =>
            rcases kind7 k1 with rfl | rfl | rfl | rfl | rfl | rfl | rfl
            iterate 6 (· cases cl <;> (go_wp2; all_goals (go_meet; case rel => first | exact ⟨b, hb, rfl, fun e => by omega, rfl⟩ | exact ⟨255, by omega, rfl, fun e => by omega, rfl⟩)))
            obtain ⟨bp, hbp⟩ : ∃ bp, bp = b % np := ⟨_, rfl⟩
            have hbp1 : bp < np := by rw [hbp]; exact Nat.mod_lt _ (by omega)
            have ebp : (b : Int).tmod (np : Int) = (bp : Int) := by rw [hbp]; exact (Int.ofNat_tmod b np).symm
            have ebp2 : (b : Int) % (np : Int) = (bp : Int) := by rw [hbp]; exact (Int.natCast_emod b np).symm
            have hnp0 : ¬ np = 0 := by omega
            clear hbp
            go_wp2
            go_meet
            case rel => exact ⟨bp, by omega, by go_num, fun _ => hbp1, rfl⟩
          case rest =>
            obtain ⟨b', hb', rfl, hb7, hw⟩ := hcut
            have hw' := hw.symm
            clear hw
            subst hw'
            have HB7 := Lib.hid (And.intro hb7 hb')
            clear hb7
            go_wp2_with (at_builtin; refine wpList_append_bytes rfl (.tmp 143) (.tmp 145) rfl wo.heap.size (.slice ao6 i c6) l rfl ((HP2.out.2).alloc _) _ [b8 b'] rfl (Src.lit ws #[.int .u8 (b' : Int)] 1 _ (byteV1 b' hb') rfl (by omega)) (by have := HG2.out.2.1; simp; omega) (by have := HG2.out.2.2.2.size; simp; omega) ?_)
            intro v4 w4 h4 hk4 hv4
            obtain ⟨g5, cap5, h5, hb5, _, _, _, _, _, _⟩ := h4.slice (by simp)
            rw [show (l ++ [b8 b']).length = i + 1 by simp [HG2.out.2.1]] at h5
            subst h5
            have hge := fun j e => (HP2.out.2.block_ge j e).1
            have hPa := (HP2.out.1.keep ((Keep.refl Nil2 ws).alloc (.cells #[.int .u8 (b' : Int)] 5))).keepF hk4 (fun j e => by have := hge _ e; omega) (fun i j hi e => by have := hge _ e; have := HA.out.2.2.2.2; have := HPB.out; omega)
            have HF := Lib.hid (And.intro (hPa.set6 (.slice (some ⟨g5, 0, none⟩) (i + 1) cap5)) (And.intro (show OwnB (w4.setCell ⟨pb, 6, none⟩ (.slice (some ⟨g5, 0, none⟩) (i + 1) cap5)) wo.heap.size (.slice (some ⟨g5, 0, none⟩) (i + 1) cap5) (l ++ [b8 b']) from h4.keep (keep_setCell _ _ _ _) fun _ _ hl e => by omega) (show Keep (fun x _ => x = pb) wo (w4.setCell ⟨pb, 6, none⟩ (.slice (some ⟨g5, 0, none⟩) (i + 1) cap5)) from ((HG2.out.2.2.2.alloc _).then hk4 (fun _ _ _ e => e) (fun x _ hx e => by have := hge _ e; omega)).setCell _ fun _ => rfl)))
            obtain ⟨y0, y1, y2, y3, y4, y5, y6, y7⟩ := hPa.cells
            have yf := hPa.2.1
            clear h4 hk4 hv4 hge hPa hb5 z0 z1 z2 z3 z4 z5 z6 z7 zf
            go_wp2
            go_roundg (g - 1)
            case measure => have := HG2.out.1; omega
            case rel => exact ⟨i + 1, g - 1, l ++ [b8 b'], some ⟨g5, 0, none⟩, cap5, rfl, by omega, by go_num, by simp [HG2.out.2.1], HF.out.1, HF.out.2.1, fun e y hy => (List.mem_append.1 hy).elim (HG2.out.2.2.1 e y) fun h => by
              rw [List.mem_singleton.1 h, b8_toNat, Nat.mod_eq_of_lt HB7.out.2]
              exact HB7.out.1 e, HF.out.2.2⟩
      · obtain rfl : i = n := by omega
        have d1 : decide ((i : Int) < (i : Int)) = false := by simp
        have hl0 : 0 < l.length := by
          have h1 := HG.out.2.1
          have h2 := HR.out.2.2.2.2
          have h3 : 0 < stride * high := Nat.mul_pos (by
            have h1 : 0 < wide * pn := Nat.mul_pos (by omega) (by omega)
            have h2 := HQ.out.2
            omega) (by omega)
          omega
        obtain ⟨g6, cap6, h6, hb6, hc6, _, hby, _, _, _⟩ := hO.slice hl0
        rw [HG.out.2.1] at h6 hc6
        have ea : ao6 = some ⟨g6, 0, none⟩ := by injection h6
        have ec : c6 = cap6 := by injection h6
        clear h6
        subst ea ec
        have hNt : HasN tb 8 wr := HA.out.2.1.keepF (by omega) hP.2.2.1 fun _ e => by omega
        obtain ⟨v0, v1, v2, v3, v4, v5, v6, v7, t0, t1, t2, t3, t4, t5, t6, t7⟩ := hNt.eight
        have htf := hNt.2
        obtain ⟨z0, z1, z2, z3, z4, z5, z6, z7⟩ := hP.cells
        have zf := hP.2.1
        have HP := Lib.hid (And.intro hP (And.intro hNt (And.intro hby (And.intro hb6 hc6))))
        clear hP hO hNt hby hb6 hc6
        go_wp2
        obtain ⟨wf, hwf⟩ : ∃ wf, wf = ((((((((wr.setCell ⟨tb, 0, none⟩ (.int .i64 (kd : Int))).setCell ⟨tb, 1, none⟩ (.int .i64 0)).setCell ⟨tb, 2, none⟩ (.int .i64 0)).setCell ⟨tb, 3, none⟩ (.int .i64 (wide : Int))).setCell ⟨tb, 4, none⟩ (.int .i64 (high : Int))).setCell ⟨tb, 5, none⟩ (.int .i64 (stride : Int))).setCell ⟨tb, 6, none⟩ (.slice (some ⟨g6, 0, none⟩) i c6)).setCell ⟨tb, 7, none⟩ (.slice ao7 n7 c7)) := ⟨_, rfl⟩
        obtain ⟨y0, y1, y2, y3, y4, y5, y6, y7, hkf⟩ := eightSet HP.out.2.1 _ _ _ _ _ _ _ _ hwf
        rw [← hwf]
        have HF := Lib.hid hkf
        clear hwf hkf t0 t1 t2 t3 t4 t5 t6 t7 htf z0 z1 z2 z3 z4 z5 z6 z7 zf
        refine bodyPost_ret (v := picV kd wide high stride g6 i c6 (.slice ao7 n7 c7)) ?_ rfl ?_
        · unfold picV
          simp only [results, Tryz.f4]
          go_simp
        · obtain ⟨hP, hNt, hby, hb6, hc6⟩ := HP.out
          obtain ⟨_, hn7, hps, hk7, hnn⟩ := HR.out
          have htb := HA.out.2.2.2.1
          have hpb := HPB.out
          have hpa := HA.out.2.2.2.2
          have hgt : g6 ≠ tb := by omega
          refine ⟨_, rfl, ⟨kd, wide, high, stride, g6, i, c6, n7, c7, ao7, l, pal, rfl, k1, hby.keep HF.out fun _ _ e => hgt e, HG.out.2.1.symm, by rw [HG.out.2.1, hnn], by rw [← HQ.out.1, ← HQ.out.2]; exact hst2, k2, k3, hst1, hc6, hn7, ?_, hn72, ?_, by omega⟩, ?_⟩
          · rcases hps with h | ⟨pg, h1, h2, h3, h4⟩
            · exact .inl h
            · exact .inr ⟨pg, h1, (h2.keep HG.out.2.2.2 fun _ _ e => by omega).keep HF.out fun _ _ e => by omega, by omega⟩
          · intro e
            rw [hk7 e]
            exact ⟨hnp1.1, HG.out.2.2.1 e⟩
          · exact (HA.out.1.then hP.2.2.1 (fun _ _ _ e => e) fun x _ hx e => by omega).then HF.out (fun _ _ _ e => e) fun x _ hx e => by omega
end Go.Proofs.YtnbbppjgamdfeaaGreatDoor
end
