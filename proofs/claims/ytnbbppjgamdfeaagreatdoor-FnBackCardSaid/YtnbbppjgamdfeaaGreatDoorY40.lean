/- laws.FnBack, part 40 of 54: P1 P2 P3 P4. -/
import Derived.Test.YtnbbppjgamdfeaaGreatDoorY39
import Derived.Test.YtnbbppjgamdfeaaGreatDoorY33
import Derived.Test.YtnbbppjgamdfeaaGreatDoorY35

/- The reference's fixed. -/
section
set_option linter.unusedVariables false
set_option linter.unusedSimpArgs false
namespace Go.Proofs.YtnbbppjgamdfeaaGreatDoor
open Go Go.RowKit

theorem dstAll : (pfxList dstLens 15).length = 32 := by decide +kernel
theorem dstLens_length : dstLens.length = 32 := by decide +kernel
theorem rep_snoc (k x : Nat) : intsV (List.replicate (k + 1) x) = intsV (List.replicate k x) ++ [.int .i64 (x : Int)] := by
  rw [List.replicate_succ', intsV_append]; rfl

/-- The two places of the results. -/
structure RsA (w wr : World) (ra rb : Nat) : Prop where
  a0 : wr.cell? ⟨ra, 0, none⟩ = some (.slice none 0 0)
  a1 : wr.cell? ⟨ra, 1, none⟩ = some (.slice none 0 0)
  afz : ∀ j, wr.frozen? ⟨ra, j, none⟩ = false
  b0 : wr.cell? ⟨rb, 0, none⟩ = some (.slice none 0 0)
  b1 : wr.cell? ⟨rb, 1, none⟩ = some (.slice none 0 0)
  bfz : ∀ j, wr.frozen? ⟨rb, j, none⟩ = false
  keep : Keep Nil2 w wr
theorem RsA.kept {w wr w' : World} {ra rb : Nat} (h : RsA w wr ra rb) (hk : Keep Nil2 wr w') : RsA w w' ra rb :=
  ⟨hk.get h.a0 fun e => e, hk.get h.a1 fun e => e, fun j => hk.froz (World.block_lt_of_cell? wr _ h.a0) (h.afz j) fun e => e, hk.get h.b0 fun e => e, hk.get h.b1 fun e => e, fun j => hk.froz (World.block_lt_of_cell? wr _ h.b0) (h.bfz j) fun e => e, h.keep.trans hk⟩

/-- The results are laid. -/
theorem rsSet {w wr : World} {ra rb : Nat} (h : RsA w wr ra rb) (hne : ra ≠ rb) (_hb : w.heap.size ≤ wr.heap.size) (a b c d : Value) :
    ((((wr.setCell ⟨ra, 0, none⟩ a).setCell ⟨ra, 1, none⟩ b).setCell ⟨rb, 0, none⟩ c).setCell ⟨rb, 1, none⟩ d).drew.cell? ⟨ra, 0, none⟩ = some a ∧ ((((wr.setCell ⟨ra, 0, none⟩ a).setCell ⟨ra, 1, none⟩ b).setCell ⟨rb, 0, none⟩ c).setCell ⟨rb, 1, none⟩ d).drew.cell? ⟨ra, 1, none⟩ = some b ∧
    ((((wr.setCell ⟨ra, 0, none⟩ a).setCell ⟨ra, 1, none⟩ b).setCell ⟨rb, 0, none⟩ c).setCell ⟨rb, 1, none⟩ d).drew.cell? ⟨rb, 0, none⟩ = some c ∧ ((((wr.setCell ⟨ra, 0, none⟩ a).setCell ⟨ra, 1, none⟩ b).setCell ⟨rb, 0, none⟩ c).setCell ⟨rb, 1, none⟩ d).drew.cell? ⟨rb, 1, none⟩ = some d ∧
    Keep (fun x _ => x = ra ∨ x = rb) wr ((((wr.setCell ⟨ra, 0, none⟩ a).setCell ⟨ra, 1, none⟩ b).setCell ⟨rb, 0, none⟩ c).setCell ⟨rb, 1, none⟩ d).drew := by
  have k1 := keep_setCell wr ra 0 a
  have k2 := keep_setCell (wr.setCell ⟨ra, 0, none⟩ a) ra 1 b
  have k3 := keep_setCell ((wr.setCell ⟨ra, 0, none⟩ a).setCell ⟨ra, 1, none⟩ b) rb 0 c
  have k4 := keep_setCell (((wr.setCell ⟨ra, 0, none⟩ a).setCell ⟨ra, 1, none⟩ b).setCell ⟨rb, 0, none⟩ c) rb 1 d
  have k5 : Keep Nil2 ((((wr.setCell ⟨ra, 0, none⟩ a).setCell ⟨ra, 1, none⟩ b).setCell ⟨rb, 0, none⟩ c).setCell ⟨rb, 1, none⟩ d) ((((wr.setCell ⟨ra, 0, none⟩ a).setCell ⟨ra, 1, none⟩ b).setCell ⟨rb, 0, none⟩ c).setCell ⟨rb, 1, none⟩ d).drew := (Keep.refl Nil2 _).drew
  have a0 : (wr.setCell ⟨ra, 0, none⟩ a).cell? ⟨ra, 0, none⟩ = some a := World.cell?_setCell_same _ _ _ h.a0
  have a1 : (wr.setCell ⟨ra, 0, none⟩ a).cell? ⟨ra, 1, none⟩ = some (.slice none 0 0) := setF h.a1 (by decide)
  have b0 := k2.get (k1.get h.b0 fun e => hne e.1.symm) fun e => hne e.1.symm
  have b1 := k2.get (k1.get h.b1 fun e => hne e.1.symm) fun e => hne e.1.symm
  refine ⟨?_, ?_, ?_, ?_, ?_⟩
  · exact k5.get (k4.get (k3.get (setF a0 (by decide)) fun e => hne e.1) fun e => hne e.1) fun e => e
  · exact k5.get (k4.get (k3.get (World.cell?_setCell_same _ _ _ a1) fun e => hne e.1) fun e => hne e.1) fun e => e
  · exact k5.get (setF (World.cell?_setCell_same _ _ _ b0) (by decide)) fun e => e
  · exact k5.get (World.cell?_setCell_same _ _ _ (setF b1 (by decide))) fun e => e
  · refine (((((Keep.refl _ wr).setCell a fun _ => .inl rfl).setCell b fun _ => .inl rfl).setCell c fun _ => .inr rfl).setCell d fun _ => .inr rfl).drew

set_option maxHeartbeats 8000000 in
set_option maxRecDepth 100000 in
theorem specFixed (w : World) : Calls Tryz.prog 72 #[] w fun e w' => ∃ kb lb ln lc db eb dn dc, e = .returned (.tuple #[.agg #[.slice (some ⟨kb, 0, none⟩) 16 16, .slice (some ⟨lb, 0, none⟩) ln lc], .agg #[.slice (some ⟨db, 0, none⟩) 16 16, .slice (some ⟨eb, 0, none⟩) dn dc]]) ∧
    LitCode w' kb lb ln ∧ w.heap.size ≤ kb ∧ w.heap.size ≤ lb ∧ Keep Nil2 w w' := by
  go_enter Tryz.func72, Tryz.ntmps72
  go_wp2
  obtain ⟨ra, hra⟩ : ∃ ra, ra = w.heap.size := ⟨_, rfl⟩
  obtain ⟨rb, hrb⟩ : ∃ rb, rb = w.heap.size + 1 := ⟨_, rfl⟩
  obtain ⟨w1, hw1⟩ : ∃ w1, w1 = (w.alloc (.cells #[.slice none 0 0, .slice none 0 0] 169)).alloc (.cells #[.slice none 0 0, .slice none 0 0] 169) := ⟨_, rfl⟩
  obtain ⟨bs, hbs⟩ : ∃ bs, bs = w.heap.size + 1 + 1 := ⟨_, rfl⟩
  rw [← hw1, ← hbs, ← hrb, ← hra]
  have hs1 : w1.heap.size = bs := by rw [hw1, hbs]; simp
  have hI := OwnV.lit (e := 3) (size := 1) w1 #[] 0 [] rfl rfl (by omega)
  rw [hs1] at hI
  have k01 : Keep Nil2 w w1 := by rw [hw1]; exact ((Keep.refl Nil2 w).alloc _).alloc _
  have H1 := Lib.hid (show RsA w w1 ra rb by
    have ha := heap_alloc_new w (.cells #[.slice none 0 0, .slice none 0 0] 169)
    have hb := heap_alloc_new (w.alloc (.cells #[.slice none 0 0, .slice none 0 0] 169)) (.cells #[.slice none 0 0, .slice none 0 0] 169)
    have s1 : (w.alloc (.cells #[.slice none 0 0, .slice none 0 0] 169)).heap.size = rb := by rw [hrb]; simp
    rw [s1, ← hw1] at hb
    rw [← hra] at ha
    have k2 : Keep Nil2 (w.alloc (.cells #[.slice none 0 0, .slice none 0 0] 169)) w1 := by rw [hw1]; exact (Keep.refl Nil2 _).alloc _
    exact ⟨k2.get (cell_of_row _ _ _ _ _ _ ha) fun e => e, k2.get (cell_of_row _ _ _ _ _ _ ha) fun e => e, fun j => k2.froz (by rw [s1]; omega) (frozen_of_row _ _ _ _ _ ha) fun e => e, cell_of_row _ _ _ _ _ _ hb, cell_of_row _ _ _ _ _ _ hb, fun j => frozen_of_row _ _ _ _ _ hb, k01⟩)
  have HI := Lib.hid (And.intro hI ((Keep.refl Nil2 w1).alloc (.cells #[] 3)))
  have hord : ra < rb ∧ rb < bs ∧ w.heap.size ≤ ra := by omega
  have HS1 := Lib.hid hs1
  clear hra hrb hw1 hs1 hI k01 hbs
  go_loopg [2, 3, 9] 288 (fun G v2 v3 v9 wr => ∃ s g : Nat, g = G ∧ s + g = 288 ∧ v9 = .int .i64 (s : Int) ∧ OwnV 3 1 wr bs v2 s (intsV ((List.range s).map litLen)) ∧ Keep Nil2 w1 wr)
  case atStart => exact ⟨0, 288, rfl, by omega, rfl, HI.out.1, HI.out.2⟩
  case round =>
    obtain ⟨s, g, hG, hsg, rfl, hO, hK⟩ := hrel
    have HG := Lib.hid hG
    clear hG
    by_cases hs : s < 288
    · have d1 : decide ((s : Int) < 288) = true := by simp; omega
      have HO := Lib.hid (And.intro hO hK)
      clear hO hK
      by_cases h1 : s < 144
      · have q144 : decide ((s : Int) < 144) = true := by simp; omega
        have HX := Lib.hid (show litLen s = 8 by unfold litLen; rw [if_pos h1])
        go_wp2_with (at_builtin; refine goalStop ?_)
        refine ⟨?_⟩
        refine wpList_append_vals rfl (.tmp 18) (.tmp 19) 32 3 rfl _ 1 8 Tryz.underlying32 info3 rfl (by decide) (by decide) bs u2 s (intsV ((List.range s).map litLen)) rfl (HO.out.1.alloc _) _ 1 [.int .i64 8] rfl (SrcV.litAt' _ _ 3 1 _ rfl (by simp)) rfl (by intro u hu; simp at hu; subst hu; rfl) (by omega) (by have := HO.out.2.size; have := HS1.out; simp; omega) ?_
        intro v4 w4 h4 hk4 hv4
        have HF := Lib.hid (And.intro h4 (keep_layV' (HO.out.2.alloc _) (HO.out.1.alloc _) hk4 (by have := HS1.out; omega)))
        clear h4 hk4 hv4
        go_wp2
        go_roundg (g - 1)
        case measure => have := HG.out; omega
        case rel => exact ⟨s + 1, g - 1, rfl, by omega, by go_num, by rw [range_snoc, HX.out]; exact HF.out.1, HF.out.2⟩
      · by_cases h2 : s < 256
        · have q144 : decide ((s : Int) < 144) = false := by simp; omega
          have q256 : decide ((s : Int) < 256) = true := by simp; omega
          have HX := Lib.hid (show litLen s = 9 by unfold litLen; rw [if_neg h1, if_pos h2])
          go_wp2_with (at_builtin; refine goalStop ?_)
          refine ⟨?_⟩
          refine wpList_append_vals rfl (.tmp 24) (.tmp 25) 32 3 rfl _ 1 8 Tryz.underlying32 info3 rfl (by decide) (by decide) bs u2 s (intsV ((List.range s).map litLen)) rfl (HO.out.1.alloc _) _ 1 [.int .i64 9] rfl (SrcV.litAt' _ _ 3 1 _ rfl (by simp)) rfl (by intro u hu; simp at hu; subst hu; rfl) (by omega) (by have := HO.out.2.size; have := HS1.out; simp; omega) ?_
          intro v4 w4 h4 hk4 hv4
          have HF := Lib.hid (And.intro h4 (keep_layV' (HO.out.2.alloc _) (HO.out.1.alloc _) hk4 (by have := HS1.out; omega)))
          clear h4 hk4 hv4
          go_wp2
          go_roundg (g - 1)
          case measure => have := HG.out; omega
          case rel => exact ⟨s + 1, g - 1, rfl, by omega, by go_num, by rw [range_snoc, HX.out]; exact HF.out.1, HF.out.2⟩
        · by_cases h3 : s < 280
          · have q144 : decide ((s : Int) < 144) = false := by simp; omega
            have q256 : decide ((s : Int) < 256) = false := by simp; omega
            have q280 : decide ((s : Int) < 280) = true := by simp; omega
            have HX := Lib.hid (show litLen s = 7 by unfold litLen; rw [if_neg h1, if_neg h2, if_pos h3])
            go_wp2_with (at_builtin; refine goalStop ?_)
            refine ⟨?_⟩
            refine wpList_append_vals rfl (.tmp 30) (.tmp 31) 32 3 rfl _ 1 8 Tryz.underlying32 info3 rfl (by decide) (by decide) bs u2 s (intsV ((List.range s).map litLen)) rfl (HO.out.1.alloc _) _ 1 [.int .i64 7] rfl (SrcV.litAt' _ _ 3 1 _ rfl (by simp)) rfl (by intro u hu; simp at hu; subst hu; rfl) (by omega) (by have := HO.out.2.size; have := HS1.out; simp; omega) ?_
            intro v4 w4 h4 hk4 hv4
            have HF := Lib.hid (And.intro h4 (keep_layV' (HO.out.2.alloc _) (HO.out.1.alloc _) hk4 (by have := HS1.out; omega)))
            clear h4 hk4 hv4
            go_wp2
            go_roundg (g - 1)
            case measure => have := HG.out; omega
            case rel => exact ⟨s + 1, g - 1, rfl, by omega, by go_num, by rw [range_snoc, HX.out]; exact HF.out.1, HF.out.2⟩
          · have q144 : decide ((s : Int) < 144) = false := by simp; omega
            have q256 : decide ((s : Int) < 256) = false := by simp; omega
            have q280 : decide ((s : Int) < 280) = false := by simp; omega
            have HX := Lib.hid (show litLen s = 8 by unfold litLen; rw [if_neg h1, if_neg h2, if_neg h3])
            go_wp2_with (at_builtin; refine goalStop ?_)
            refine ⟨?_⟩
            refine wpList_append_vals rfl (.tmp 12) (.tmp 13) 32 3 rfl _ 1 8 Tryz.underlying32 info3 rfl (by decide) (by decide) bs u2 s (intsV ((List.range s).map litLen)) rfl (HO.out.1.alloc _) _ 1 [.int .i64 8] rfl (SrcV.litAt' _ _ 3 1 _ rfl (by simp)) rfl (by intro u hu; simp at hu; subst hu; rfl) (by omega) (by have := HO.out.2.size; have := HS1.out; simp; omega) ?_
            intro v4 w4 h4 hk4 hv4
            have HF := Lib.hid (And.intro h4 (keep_layV' (HO.out.2.alloc _) (HO.out.1.alloc _) hk4 (by have := HS1.out; omega)))
            clear h4 hk4 hv4
            go_wp2
            go_roundg (g - 1)
            case measure => have := HG.out; omega
            case rel => exact ⟨s + 1, g - 1, rfl, by omega, by go_num, by rw [range_snoc, HX.out]; exact HF.out.1, HF.out.2⟩
    · obtain rfl : s = 288 := by omega
      have d1 : decide (((288 : Nat) : Int) < 288) = false := by decide
      rw [← litLens_eq] at hO
      obtain ⟨lb0, lc0, rfl, _, _, _, hcl, _⟩ := hO.out (by omega)
      have HO := Lib.hid hK
      clear hO hK
      go_wp2_with (go_at_call 86; fail)
      refine (prefixOfL (L := litLens) lb0 0 lc0 288 litLens_length.symm hcl litLens_le (by omega) (by rw [litAll]; omega) litLeft).mono ?_
      rintro e w2 ⟨kb, lv, rfl, hcnt, hlv, hkb, hk2⟩
      rw [litAll] at hlv
      obtain ⟨lb, lc, rfl, hlb, _, _, hcv, _⟩ := hlv.out (by omega)
      have H2 := Lib.hid (show LitCode w2 kb lb 288 ∧ w1.heap.size ≤ kb ∧ w1.heap.size ≤ lb ∧ Keep Nil2 w1 w2 by
        have hc := litCount
        have h1 := HO.out.size
        refine ⟨⟨fun n h1 h7 => ?_, ?_, ?_, by omega⟩, by omega, by omega, HO.out.trans hk2⟩
        · rw [hcnt n h1 (by omega)]
          rcases (show n = 1 ∨ n = 2 ∨ n = 3 ∨ n = 4 ∨ n = 5 ∨ n = 6 by omega) with rfl | rfl | rfl | rfl | rfl | rfl
          · rw [hc.1]; rfl
          · rw [hc.2.1]; rfl
          · rw [hc.2.2.1]; rfl
          · rw [hc.2.2.2.1]; rfl
          · rw [hc.2.2.2.2.1]; rfl
          · rw [hc.2.2.2.2.2.1]; rfl
        · rw [hcnt 7 (by omega) (by omega), hc.2.2.2.2.2.2]; rfl
        · have := hcv.int 0 256 litHead
          exact this)
      clear hcnt hlv hkb hlb hcv hk2 hcl
      go_wp2
      obtain ⟨ta, hta⟩ : ∃ ta, ta = w2.heap.size := ⟨_, rfl⟩
      obtain ⟨bt, hbt⟩ : ∃ bt, bt = w2.heap.size + 1 := ⟨_, rfl⟩
      obtain ⟨w3, hw3⟩ : ∃ w3, w3 = w2.alloc (.cells #[.slice (some ⟨kb, 0, none⟩) 16 16, .slice (some ⟨lb, 0, none⟩) 288 lc] 169) := ⟨_, rfl⟩
      rw [← hw3, ← hbt, ← hta]
      have hs3 : w3.heap.size = bt := by rw [hw3, hbt]; simp
      have hI2 := OwnV.lit (e := 3) (size := 1) w3 #[] 0 [] rfl rfl (by omega)
      rw [hs3] at hI2
      have H3 := Lib.hid (show w3.cell? ⟨ta, 0, none⟩ = some (.slice (some ⟨kb, 0, none⟩) 16 16) ∧ w3.cell? ⟨ta, 1, none⟩ = some (.slice (some ⟨lb, 0, none⟩) 288 lc) ∧ Keep Nil2 w2 w3 ∧ ta < w3.heap.size ∧ w1.heap.size ≤ ta by
        have ha := heap_alloc_new w2 (.cells #[.slice (some ⟨kb, 0, none⟩) 16 16, .slice (some ⟨lb, 0, none⟩) 288 lc] 169)
        rw [← hta, ← hw3] at ha
        exact ⟨cell_of_row _ _ _ _ _ _ ha, cell_of_row _ _ _ _ _ _ ha, by rw [hw3]; exact (Keep.refl Nil2 w2).alloc _, by omega, by rw [hta]; exact H2.out.2.2.2.size⟩)
      have HI2 := Lib.hid (And.intro hI2 (And.intro ((Keep.refl Nil2 w3).alloc (.cells #[] 3)) hs3))
      clear hta hbt hw3 hs3 hI2
      go_loopg [2, 40] 32 (fun G v2 v40 wr => ∃ s g : Nat, g = G ∧ s + g = 32 ∧ v40 = .int .i64 (s : Int) ∧ OwnV 3 1 wr bt v2 s (intsV (List.replicate s 5)) ∧ Keep Nil2 w3 wr)
      case atStart => exact ⟨0, 32, rfl, by omega, rfl, HI2.out.1, HI2.out.2.1⟩
      case round =>
        obtain ⟨s, g, hG, hsg, rfl, hO, hK⟩ := hrel
        have HG := Lib.hid hG
        clear hG
        by_cases hs : s < 32
        · have d1 : decide ((s : Int) < 32) = true := by simp; omega
          have HO2 := Lib.hid (And.intro hO hK)
          clear hO hK
          go_wp2_with (at_builtin; refine goalStop ?_)
          refine ⟨?_⟩
          refine wpList_append_vals rfl (.tmp 42) (.tmp 43) 32 3 rfl _ 1 8 Tryz.underlying32 info3 rfl (by decide) (by decide) bt u2 s (intsV (List.replicate s 5)) rfl (HO2.out.1.alloc _) _ 1 [.int .i64 5] rfl (SrcV.litAt' _ _ 3 1 _ rfl (by simp)) rfl (by intro u hu; simp at hu; subst hu; rfl) (by omega) (by have := HO2.out.2.size; have := HI2.out.2.2; simp; omega) ?_
          intro v4 w4 h4 hk4 hv4
          have HF := Lib.hid (And.intro h4 (keep_layV' (HO2.out.2.alloc _) (HO2.out.1.alloc _) hk4 (by have := HI2.out.2.2; omega)))
          clear h4 hk4 hv4
          go_wp2
          go_roundg (g - 1)
          case measure => have := HG.out; omega
          case rel => exact ⟨s + 1, g - 1, rfl, by omega, by go_num, by rw [rep_snoc]; exact HF.out.1, HF.out.2⟩
        · obtain rfl : s = 32 := by omega
          have d1 : decide (((32 : Nat) : Int) < 32) = false := by decide
          obtain ⟨db0, dc0, rfl, _, _, _, hcl, _⟩ := hO.out (by omega)
          have HO2 := Lib.hid hK
          clear hO hK
          go_wp2_with (go_at_call 86; fail)
          refine (prefixOfL (L := dstLens) db0 0 dc0 32 dstLens_length.symm hcl dstLens_le (by omega) (by rw [dstAll]; omega) dstLeft).mono ?_
          rintro e w5 ⟨db, dv, rfl, _, hdv, _, hk5⟩
          rw [dstAll] at hdv
          obtain ⟨eb, ec, rfl, _, _, _, _, _⟩ := hdv.out (by omega)
          have hk15 : Keep Nil2 w1 w5 := ((H2.out.2.2.2.trans H3.out.2.2.1).trans HO2.out).trans hk5
          have hk25 : Keep Nil2 w2 w5 := (H3.out.2.2.1.trans HO2.out).trans hk5
          have hk35 : Keep Nil2 w3 w5 := HO2.out.trans hk5
          have ka := (Keep.refl Nil2 w5).alloc (.cells #[.slice (some ⟨db, 0, none⟩) 16 16, .slice (some ⟨eb, 0, none⟩) 32 ec] 169)
          have hR := H1.out.kept (hk15.trans ka)
          have ra0 := hR.a0
          have ra1 := hR.a1
          have raf := hR.afz
          have rb0 := hR.b0
          have rb1 := hR.b1
          have rbf := hR.bfz
          have t0 := (hk35.trans ka).get H3.out.1 (fun e => e)
          have t1 := (hk35.trans ka).get H3.out.2.1 (fun e => e)
          have hh := heap_alloc_new w5 (.cells #[.slice (some ⟨db, 0, none⟩) 16 16, .slice (some ⟨eb, 0, none⟩) 32 ec] 169)
          have s0 := cell_of_row _ _ 0 _ _ _ hh
          have s1 := cell_of_row _ _ 1 _ _ _ hh
          have hne1 : ra ≠ rb := by omega
          have hne2 : ra ≠ ta := by have := H3.out.2.2.2.2; have := HS1.out; omega
          have hne3 : rb ≠ ta := by have := H3.out.2.2.2.2; have := HS1.out; omega
          have hwr5 : rb < w5.heap.size := by have := hk15.size; have := HS1.out; omega
          have HFIN := Lib.hid (And.intro (H2.out.1.keep (hk25.trans ka) (fun _ e => e) fun _ e => e) (And.intro H2.out.2 hR))
          clear hR hk15 hk25 hk35 ka hh hdv hcl hk5
          go_wp2
          go_region
          have HE := Lib.hid (rsSet HFIN.out.2.2 (by omega) HFIN.out.2.2.keep.size (.slice (some ⟨kb, 0, none⟩) 16 16) (.slice (some ⟨lb, 0, none⟩) 288 lc) (.slice (some ⟨db, 0, none⟩) 16 16) (.slice (some ⟨eb, 0, none⟩) 32 ec))
          obtain ⟨e0, e1, e2, e3, hke⟩ := HE.out
          have HKE := Lib.hid (And.intro (HFIN.out.1.keep hke (fun _ e => by have := HFIN.out.2.1.1; have := HS1.out; rcases e with e | e <;> omega) fun _ e => by have := HFIN.out.2.1.2.1; have := HS1.out; rcases e with e | e <;> omega) (HFIN.out.2.2.keep.then (F := Nil2) hke (fun _ _ _ e => e) fun i _ hi e => by rcases e with e | e <;> omega))
          clear hke t0 t1 s0 s1 ra0 ra1 raf rb0 rb1 rbf
          go_wp2
          refine bodyPost_ret (v := .tuple #[.agg #[.slice (some ⟨kb, 0, none⟩) 16 16, .slice (some ⟨lb, 0, none⟩) 288 lc], .agg #[.slice (some ⟨db, 0, none⟩) 16 16, .slice (some ⟨eb, 0, none⟩) 32 ec]]) ?_ rfl ?_
          · simp only [results, Tryz.f72]
            go_simp
          · exact ⟨kb, lb, 288, lc, db, eb, 32, ec, rfl, HKE.out.1, by have := HFIN.out.2.1.1; have := HS1.out; omega, by have := HFIN.out.2.1.2.1; have := HS1.out; omega, HKE.out.2⟩
end Go.Proofs.YtnbbppjgamdfeaaGreatDoor
end

/- The reference's symbols: the empty block. -/
section
set_option linter.unusedVariables false
set_option linter.unusedSimpArgs false
namespace Go.Proofs.YtnbbppjgamdfeaaGreatDoor
open Go Go.RowKit

set_option maxHeartbeats 4000000 in
set_option maxRecDepth 100000 in
theorem specSymbols {w : World} {xb b o c i kb lb ln lc db eb dn dc ob oo on oc window most : Nat} {l : List UInt8} (h : BitsAt w xb b o c l i) (hC : LitCode w kb lb ln) (hi : i + 7 ≤ 8 * l.length) (hz : ∀ k, k < 7 → bitAt l (i + k) = 0) (hk : kb ≠ xb) (hl : lb ≠ xb) (hon : on ≤ most) :
    Calls Tryz.prog 73 #[.pointer (some ⟨xb, 0, none⟩), .slice (some ⟨ob, oo, none⟩) on oc, .agg #[.slice (some ⟨kb, 0, none⟩) 16 16, .slice (some ⟨lb, 0, none⟩) ln lc], .agg #[.slice (some ⟨db, 0, none⟩) 16 16, .slice (some ⟨eb, 0, none⟩) dn dc], .int .i64 (window : Int), .int .i64 (most : Int)] w fun e w' =>
      e = .returned (.tuple #[.slice (some ⟨ob, oo, none⟩) on oc, .int .i64 0]) ∧ BitsAt w' xb b o c l (i + 7) ∧ Keep (fun x _ => x = xb) w w' := by
  have hxlt : xb < w.heap.size := World.block_lt_of_cell? w _ h.x0
  have H0 := Lib.hid (And.intro h hC)
  clear h hC
  go_enter Tryz.func73, Tryz.ntmps73
  go_wp2
  obtain ⟨pb, hpb⟩ : ∃ pb, pb = w.heap.size := ⟨_, rfl⟩
  obtain ⟨w1, hw1⟩ : ∃ w1, w1 = (w.alloc (.cells #[.slice (some ⟨kb, 0, none⟩) 16 16, .slice (some ⟨lb, 0, none⟩) ln lc] 169)).alloc (.cells #[.slice (some ⟨db, 0, none⟩) 16 16, .slice (some ⟨eb, 0, none⟩) dn dc] 169) := ⟨_, rfl⟩
  rw [← hw1, ← hpb]
  have hp : w1.cell? ⟨pb, 0, none⟩ = some (.slice (some ⟨kb, 0, none⟩) 16 16) ∧ w1.cell? ⟨pb, 1, none⟩ = some (.slice (some ⟨lb, 0, none⟩) ln lc) ∧ Keep Nil2 w w1 := by
    rw [hw1, hpb]
    have hh := heap_alloc_new w (.cells #[.slice (some ⟨kb, 0, none⟩) 16 16, .slice (some ⟨lb, 0, none⟩) ln lc] 169)
    have k := (Keep.refl Nil2 (w.alloc (.cells #[.slice (some ⟨kb, 0, none⟩) 16 16, .slice (some ⟨lb, 0, none⟩) ln lc] 169))).alloc (.cells #[.slice (some ⟨db, 0, none⟩) 16 16, .slice (some ⟨eb, 0, none⟩) dn dc] 169)
    exact ⟨k.get (cell_of_row _ _ _ _ _ _ hh) fun e => e, k.get (cell_of_row _ _ _ _ _ _ hh) fun e => e, ((Keep.refl Nil2 w).alloc _).alloc _⟩
  obtain ⟨p0, p1, hk1⟩ := hp
  have H1 := Lib.hid (And.intro (H0.out.1.keep0 hk1) (And.intro (H0.out.2.keep hk1 (fun _ e => e) fun _ e => e) hk1))
  clear hw1 hk1 hpb
  refine wp_loop_rounds 1 ?_
  rw [rounds_succ]
  go_wp2_with (go_at_call 87; fail)
  refine (prefixRead H1.out.1 H1.out.2.1 hi hz hk hl).mono ?_
  rintro e w2 ⟨rfl, h2, hk2⟩
  have H2 := Lib.hid (And.intro h2 ((H1.out.2.2.mono fun _ _ _ e => e.elim).trans hk2))
  clear h2 hk2 p0 p1
  go_wp2_with (go_at_call 85; fail)
  refine (bitsShort H2.out.1 (by omega)).mono ?_
  rintro e w3 ⟨rfl, q, rfl⟩
  go_wp2
  go_ret2
  exact ⟨rfl, H2.out.1.keep0 ((Keep.refl Nil2 _).drewN _), H2.out.2.drewN _⟩
end Go.Proofs.YtnbbppjgamdfeaaGreatDoor
end

/- The reference's Inflate over the kept stream. -/
section
set_option linter.unusedVariables false
set_option linter.unusedSimpArgs false
namespace Go.Proofs.YtnbbppjgamdfeaaGreatDoor
open Go Go.RowKit

set_option maxHeartbeats 8000000 in
set_option maxRecDepth 100000 in
theorem specInflate {w : World} {R : List UInt8} (b o c n N window : Nat) (hn : n = R.length) (hN : N = n + 11) (hb : BytesAt w b o (keptBody R)) (hc : N ≤ c) (hR0 : 0 < n) (hR : n ≤ 65535) :
    Calls Tryz.prog 47 #[.slice (some ⟨b, o, none⟩) N c, .int .i64 (window : Int), .int .i64 (n : Int)] w fun e w' => ∃ g cap, e = .returned (.tuple #[.slice (some ⟨g, 0, none⟩) n cap, .int .i64 ((n + 7 : Nat) : Int), .int .i64 0]) ∧ OwnB w' w.heap.size (.slice (some ⟨g, 0, none⟩) n cap) R ∧ Keep Nil2 w w' := by
  have hNl : (keptBody R).length = N := by rw [keptBody_length, ← hn, hN]
  obtain ⟨hz0, hz1⟩ := keptBody_bits0 R
  obtain ⟨m, hm⟩ : ∃ m, m = 5 + R.length := ⟨_, rfl⟩
  obtain ⟨ho0, ho1, ho2⟩ := keptBody_bits1 R hm
  have hsn := keptBody_n R (by omega)
  have hst := keptBody_t R (by omega)
  have hsR := keptBody_R R
  have hbw : b < w.heap.size := hb.lt (by omega)
  obtain ⟨l, hl⟩ : ∃ l, l = keptBody R := ⟨_, rfl⟩
  rw [← hl] at hNl hz0 hz1 ho0 ho1 ho2 hsn hst hsR hb
  have H0 := Lib.hid (And.intro hn (And.intro hN (And.intro hNl (And.intro hm hb))))
  have HZ := Lib.hid (And.intro hz0 (And.intro hz1 (And.intro ho0 (And.intro ho1 (And.intro ho2 (And.intro hsn (And.intro hst hsR)))))))
  clear hn hN hNl hm hb hl hz0 hz1 ho0 ho1 ho2 hsn hst hsR
  go_enter Tryz.func47, Tryz.ntmps47
  go_wp2
  obtain ⟨xb, hxb⟩ : ∃ xb, xb = w.heap.size := ⟨_, rfl⟩
  obtain ⟨ob, hob⟩ : ∃ ob, ob = w.heap.size + 1 := ⟨_, rfl⟩
  obtain ⟨w1, hw1⟩ : ∃ w1, w1 = (w.alloc (.cells #[.slice (some ⟨b, o, none⟩) N c, .int .i64 0] 165)).alloc (.cells #[] 5) := ⟨_, rfl⟩
  rw [← hw1, ← hob, ← hxb]
  have H1 := Lib.hid (show BitsAt w1 xb b o c l 0 ∧ OwnB w1 (xb + 1) (.slice (some ⟨ob, 0, none⟩) 0 0) [] ∧ Keep Nil2 w w1 ∧ xb + 1 ≤ w1.heap.size by
    have hh := heap_alloc_new w (.cells #[.slice (some ⟨b, o, none⟩) N c, .int .i64 0] 165)
    have hs : (w.alloc (.cells #[.slice (some ⟨b, o, none⟩) N c, .int .i64 0] 165)).heap.size = ob := by rw [hob]; simp
    have k2 : Keep Nil2 (w.alloc (.cells #[.slice (some ⟨b, o, none⟩) N c, .int .i64 0] 165)) w1 := by rw [hw1]; exact (Keep.refl Nil2 _).alloc _
    have k1 : Keep Nil2 w w1 := ((Keep.refl Nil2 w).alloc _).trans k2
    rw [← hxb] at hh
    refine ⟨⟨k2.get (by rw [cell_of_row _ _ _ _ _ _ hh, H0.out.2.2.1]; rfl) fun e => e, k2.get (by rw [cell_of_row _ _ _ _ _ _ hh]; rfl) fun e => e, fun j => k2.froz (by omega) (frozen_of_row _ _ _ _ _ hh) fun e => e, H0.out.2.2.2.2.keep k1 fun _ _ e => e, by omega, by rw [H0.out.2.2.1]; have := H0.out.2.1; omega⟩, ?_, k1, by rw [hw1]; simp; omega⟩
    have ho := ownNew (w.alloc (.cells #[.slice (some ⟨b, o, none⟩) N c, .int .i64 0] 165))
    rw [hs, ← hw1] at ho
    exact ho.lower (by omega))
  have hbx : b < xb + 1 := by omega
  have HX := Lib.hid hxb
  clear hw1 hob hxb
  have hL : N = n + 11 := H0.out.2.1
  refine wp_loop_rounds 3 ?_
  rw [rounds_succ]
  go_wp2_with (go_at_call 69; fail)
  refine (bitsOne H1.out.1 (by rw [H0.out.2.2.1]; omega)).mono ?_
  rintro e w2 ⟨rfl, h2, hk2⟩
  rw [HZ.out.1]
  have H2 := Lib.hid (And.intro h2 (And.intro (H1.out.2.1.keep hk2 fun x _ hx e => by omega) hk2))
  clear h2 hk2 hL
  go_wp2_with (go_at_call 70; fail)
  refine (bitsMany (n := 2) H2.out.1 (by have := H0.out.2.1; rw [H0.out.2.2.1]; omega) (by omega)).mono ?_
  rintro e w3 ⟨rfl, h3, hk3⟩
  rw [HZ.out.2.1]
  have H3 := Lib.hid (And.intro h3 (And.intro (H2.out.2.1.keep hk3 fun x _ hx e => by omega) (H2.out.2.2.trans hk3)))
  clear h3 hk3
  go_wp2_with (go_at_call 71; fail)
  refine (specStored (j := 1) (base := xb + 1) (R := R) (r0 := []) H3.out.1 (by omega) (by have := H0.out; omega) (by rw [H0.out.2.2.1]; exact hc) (by have := H0.out.1; omega) HZ.out.2.2.2.2.2.1 HZ.out.2.2.2.2.2.2.1 HZ.out.2.2.2.2.2.2.2 H3.out.2.1 (by simp) (by have := H1.out.2.2.2; have := H3.out.2.2.size; omega) (by omega) hbx).mono ?_
  rintro e w4 ⟨v4, rfl, hO4, hB4, hk4⟩
  rw [List.nil_append] at hO4
  obtain ⟨g, cap, e4, hg, hcap, _, _, _, hglt, _⟩ := hO4.slice (by have := H0.out.1; omega)
  rw [← H0.out.1] at e4 hcap
  subst e4
  have hmm : 8 * (1 + 4 + R.length) = 8 * m := by have := H0.out.2.2.2.1; omega
  rw [hmm] at hB4
  have H4 := Lib.hid (show BitsAt w4 xb b o c l (8 * m) ∧ OwnB w4 (xb + 1) (.slice (some ⟨g, 0, none⟩) n cap) R ∧ Keep (fun x _ => x = xb ∨ xb + 1 ≤ x) w1 w4 from
    ⟨hB4, hO4, (H3.out.2.2.mono fun _ _ _ e => .inl e).trans hk4⟩)
  clear hO4 hB4 hk4 hmm hcap hglt
  have hmL : 8 * m + 10 ≤ 8 * l.length := by have := H0.out; omega
  have HML := Lib.hid hmL
  clear hmL
  go_wp2
  rw [rounds_succ]
  go_wp2_with (go_at_call 69; fail)
  refine (bitsOne H4.out.1 (by have := HML.out; omega)).mono ?_
  rintro e w5 ⟨rfl, h5, hk5⟩
  rw [HZ.out.2.2.1]
  have H5 := Lib.hid (And.intro h5 (And.intro (H4.out.2.1.keep hk5 fun x _ hx e => by omega) (H4.out.2.2.trans (hk5.mono fun _ _ _ e => .inl e))))
  clear h5 hk5
  go_wp2_with (go_at_call 70; fail)
  refine (bitsMany (n := 2) H5.out.1 (by have := HML.out; omega) (by omega)).mono ?_
  rintro e w6 ⟨rfl, h6, hk6⟩
  rw [HZ.out.2.2.2.1]
  have H6 := Lib.hid (And.intro h6 (And.intro (H5.out.2.1.keep hk6 fun x _ hx e => by omega) (H5.out.2.2.trans (hk6.mono fun _ _ _ e => .inl e))))
  clear h6 hk6
  go_wp2_with (go_at_call 72; fail)
  refine (specFixed w6).mono ?_
  rintro e w7 ⟨kb, lb, ln, lc, db, eb, dn, dc, rfl, hLC, hkb, hlb, hk7⟩
  have hsz6 : xb + 1 ≤ w6.heap.size := by have := H1.out.2.2.2; have := H6.out.2.2.size; omega
  have ka := ((Keep.refl Nil2 w7).alloc (.cells #[.slice (some ⟨kb, 0, none⟩) 16 16, .slice (some ⟨lb, 0, none⟩) ln lc] 169)).alloc (.cells #[.slice (some ⟨db, 0, none⟩) 16 16, .slice (some ⟨eb, 0, none⟩) dn dc] 169)
  have k78 := hk7.trans ka
  have H7 := Lib.hid (And.intro (H6.out.1.keep0 k78) (And.intro (H6.out.2.1.keep k78 fun _ _ _ e => e) (And.intro (H6.out.2.2.trans (k78.mono fun _ _ _ e => e.elim)) (And.intro (hLC.keep ka (fun _ e => e) fun _ e => e) (And.intro (show kb ≠ xb by omega) (show lb ≠ xb by omega))))))
  clear hLC hkb hlb hk7 ka k78 hsz6
  go_wp2_with (go_at_call 73; fail)
  refine (specSymbols (i := 8 * m + 1 + 2) H7.out.1 H7.out.2.2.2.1 (by have := HML.out; omega) (fun k hk => HZ.out.2.2.2.2.1 k hk) H7.out.2.2.2.2.1 H7.out.2.2.2.2.2 (Nat.le_refl _)).mono ?_
  rintro e w9 ⟨rfl, h9, hk9⟩
  have H9 := Lib.hid (And.intro h9 (And.intro (H7.out.2.1.keep hk9 fun x _ hx e => by omega) (H7.out.2.2.1.trans (hk9.mono fun _ _ _ e => .inl e))))
  have x1 := h9.x1
  clear h9 hk9
  obtain ⟨i9, hi9⟩ : ∃ i9, i9 = 8 * m + 1 + 2 + 7 := ⟨_, rfl⟩
  rw [← hi9] at x1
  obtain ⟨i10, hi10⟩ : ∃ i10, i10 = i9 + 7 := ⟨_, rfl⟩
  obtain ⟨n7, hn7⟩ : ∃ n7, n7 = n + 7 := ⟨_, rfl⟩
  have hm5 : m = 5 + n := by have := H0.out; omega
  have e1 : IntKind.i64.wrap ((i9 : Int) + 7) = (i10 : Int) := by rw [IntWalk.i64_in _ (by omega)]; omega
  have e2 : Int.tdiv (i10 : Int) 8 = (n7 : Int) := by rw [Int.tdiv_eq_ediv_of_nonneg (by omega)]; omega
  have e2' : (i10 : Int) / 8 = (n7 : Int) := by omega
  have e3 : IntKind.i64.wrap (n7 : Int) = (n7 : Int) := IntWalk.i64_in _ (by omega)
  have HN7 := Lib.hid hn7
  clear hi9 hi10 hn7 hm5
  go_wp2
  rw [rounds_succ]
  go_wp2
  go_quiet (fail)
  go_wp2
  go_ret3
  have hd := (Keep.refl Nil2 w9).drewN nq
  exact ⟨g, cap, by rw [← HN7.out]; rfl, (H9.out.2.1.keep hd fun _ _ _ e => e).lower (by have := HX.out; omega), (H1.out.2.2.1.then (F := Nil2) H9.out.2.2 (fun _ _ _ e => e) fun x _ hx e => by have := HX.out; rcases e with e | e <;> omega).trans hd⟩
end Go.Proofs.YtnbbppjgamdfeaaGreatDoor
end

/- The reference's Unpack over the kept stream. -/
section
set_option linter.unusedVariables false
set_option linter.unusedSimpArgs false
namespace Go.Proofs.YtnbbppjgamdfeaaGreatDoor
open Go Go.RowKit

def UpS (w : World) (b o : Nat) (w' : World) : Prop := w'.cell? ⟨b, o, none⟩ = some (.int .u8 120) ∧ Keep Nil2 w w'
theorem upS_keep {w : World} {b o : Nat} {V V' : World} (h : UpS w b o V) (hk : Keep Nil2 V V') : UpS w b o V' := ⟨hk.get h.1 fun e => e, h.2.trans hk⟩

set_option maxHeartbeats 8000000 in
set_option maxRecDepth 100000 in
theorem specUnpack {w : World} {R : List UInt8} (b o c n N : Nat) (hn : n = R.length) (hN : N = n + 13) (hb : BytesAt w b o (keptB R)) (hc : N ≤ c) (hR0 : 0 < n) (hR : n ≤ 65535) :
    Calls Tryz.prog 34 #[.slice (some ⟨b, o, none⟩) N c, .int .i64 (n : Int)] w fun e w' => ∃ g cap, e = .returned (.tuple #[.slice (some ⟨g, 0, none⟩) n cap, .int .i64 0]) ∧ OwnB w' w.heap.size (.slice (some ⟨g, 0, none⟩) n cap) R ∧ Keep Nil2 w w' := by
  have c0 : w.cell? ⟨b, o, none⟩ = some (.int .u8 120) := by
    have := hb.at_ 0 0x78 (by rw [keptB_body]; rfl)
    exact this
  have c1 : w.cell? ⟨b, o + 1, none⟩ = some (.int .u8 1) := by
    have := hb.at_ 1 1 (by rw [keptB_body]; rfl)
    exact this
  have hbw : b < w.heap.size := World.block_lt_of_cell? w _ c0
  have f1 : bits BinOp.and IntKind.u8 120 15 = 8 := by decide +kernel
  have f2 : bits BinOp.and IntKind.u8 1 32 = 0 := by decide +kernel
  have i0n : 0 < N := by omega
  have i0 : (0 : Int) < N := by omega
  have i1 : (1 : Int) < N := by omega
  have i2 : (2 : Int) ≤ N := by omega
  have i3 : ¬ c = 2 := by omega
  have i4 : ¬ N < 2 := by omega
  have i4' : ¬ (N : Int) < 2 := by omega
  have i5 : decide ((N : Int) < 2) = false := by simp; omega
  have HINF := Lib.hid (fun V (h : UpS w b o V) => (specInflate (w := V) (R := R) b (o + 2) (c - 2) n (N - 2) 32768 hn (by omega) (by
      have := (hb.keep h.2 fun _ _ e => e).drop 2
      rwa [keptB_drop] at this) (by omega) hR0 hR).mono (fun e w' (h2 : ∃ g cap, e = .returned (.tuple #[.slice (some ⟨g, 0, none⟩) n cap, .int .i64 ((n + 7 : Nat) : Int), .int .i64 0]) ∧ OwnB w' V.heap.size (.slice (some ⟨g, 0, none⟩) n cap) R ∧ Keep Nil2 V w') => show ∃ g cap, e = .returned (.tuple #[.slice (some ⟨g, 0, none⟩) n cap, .int .i64 ((n + 7 : Nat) : Int), .int .i64 0]) ∧ OwnB w' w.heap.size (.slice (some ⟨g, 0, none⟩) n cap) R ∧ UpS w b o w' by
      obtain ⟨g, cap, h3, h4, h5⟩ := h2
      exact ⟨g, cap, h3, h4.lower h.2.size, upS_keep h h5⟩))
  have HB := Lib.hid (And.intro hn (And.intro hN hb))
  obtain ⟨n7, hn7⟩ : ∃ n7, n7 = n + 7 := ⟨_, rfl⟩
  rw [← hn7] at HINF
  have HN7 := Lib.hid hn7
  have e1 : IntKind.i64.wrap ((n7 : Int) + 6) = (N : Int) := by rw [IntWalk.i64_in _ (by omega)]; omega
  obtain ⟨n9, hn9⟩ : ∃ n9, n9 = n + 9 := ⟨_, rfl⟩
  have e2 : IntKind.i64.wrap ((n7 : Int) + 2) = (n9 : Int) := by rw [IntWalk.i64_in _ (by omega)]; omega
  have HN9 := Lib.hid hn9
  clear hn hN hb hn7 hn9
  go_enter Tryz.func34, Tryz.ntmps34
  go_wp2
  go_quiet (fail)
  go_wp2
  have hs0 : UpS w b o (w.drewN nq) := ⟨((Keep.refl Nil2 w).drewN nq).get c0 (fun e => e), (Keep.refl Nil2 w).drewN nq⟩
  have KS := Lib.hid (fun V V' (h : UpS w b o V) (hk : Keep Nil2 V V') => upS_keep h hk)
  go_region_held3 (fun w' => w'.cell? ⟨b, o, none⟩ = some (.int .u8 120) ∧ Keep Nil2 w w')
    (first | assumption | exact KS.out _ _ (by assumption) ((Keep.refl Nil2 _).drew))
    (first | (go_at_call 47; refine (HINF.out _ (by assumption)).mono ?_; rintro e w2 ⟨g, cap, rfl, hO, hsR⟩))
  have hS2 : UpS w b o w2 := by assumption
  have hgs : ∃ g' cap', (.slice (some ⟨g, 0, none⟩) n cap : Value) = .slice (some ⟨g', 0, none⟩) R.length cap' ∧ BytesAt w2 g' 0 R := by
    obtain ⟨g', cap', e, _, _, _, hb, _⟩ := hO.slice (by have := HB.out.1; omega)
    exact ⟨g', cap', e, hb⟩
  obtain ⟨g', cap', eg, hbR⟩ := hgs
  have egg : g = g' := by injection eg with e; injection e with e; injection e
  clear eg
  subst egg
  have H2 := Lib.hid (And.intro hO (And.intro hS2.2 (And.intro hbR (HB.out.2.2.keep hS2.2 fun _ _ e => e))))
  clear hO hsR hS2 hbR hs0 c0 c1
  go_wp2_with (go_at_call 13; fail)
  have had : adOf R < 4294967296 := by have := adM_lt (1, 0) R; unfold adOf adNum; omega
  refine (specfour (x0 := b8 (adOf R / 16777216)) (x1 := b8 (adOf R / 65536)) (x2 := b8 (adOf R / 256)) (x3 := b8 (adOf R)) b o N c n9 (by have := HN9.out; have := HB.out.2.1; omega) (by have := HB.out.2.1; omega) (by
    have h1 := H2.out.2.2.2.drop n9
    have h2 := keptB_sum R
    rw [← HB.out.1, show n + 7 + 2 = n9 by have := HN9.out; omega] at h2
    rw [h2] at h1
    exact h1)).mono ?_
  rintro e w3 ⟨rfl, q, rfl⟩
  rw [be4_four _ had]
  go_wp2_with (go_at_call 33; fail)
  refine (specAdler R g 0 n cap HB.out.1 ((H2.out.2.2.1).drewN q) (by have := HB.out.1; omega)).mono ?_
  rintro e w4 ⟨rfl, rfl⟩
  have d9 : ((adOf R : Int) == (adOf R : Int)) = true := by simp
  go_wp2
  go_ret2
  have hd := (Keep.refl Nil2 w2).drewN q
  exact ⟨g, cap, rfl, H2.out.1.keep hd fun _ _ _ e => e, H2.out.2.1.trans hd⟩
end Go.Proofs.YtnbbppjgamdfeaaGreatDoor
end
