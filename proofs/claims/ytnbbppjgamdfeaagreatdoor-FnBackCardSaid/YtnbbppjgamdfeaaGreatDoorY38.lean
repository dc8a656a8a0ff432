/- laws.FnBack, part 38 of 54: N8. -/
import Derived.Test.YtnbbppjgamdfeaaGreatDoorY37
import Derived.Test.YtnbbppjgamdfeaaGreatDoorY17
import Derived.Test.YtnbbppjgamdfeaaGreatDoorY33

/- The reference's Dots. -/
section
set_option linter.unusedVariables false
set_option linter.unusedSimpArgs false
namespace Go.Proofs.YtnbbppjgamdfeaaGreatDoor
open Go Go.RowKit

theorem info41 : (Tryz.prog.info? 41).map (fun i => (i.zero, i.size, i.bytes)) = some (some (.agg #[.int .i64 0, .int .i64 0, .int .i64 0, .int .i64 0]), 4, 32) := by kernel_rfl
/-- The sample, of 16 bits. -/
def scl (R : List UInt8) (wd depth colour k j : Nat) : Nat := smpI R wd depth colour (k + j) * 65535 / (2 ^ depth - 1)
theorem scl_8 (R : List UInt8) (wd colour k j : Nat) : scl R wd 8 colour k j = scale 8 (smpI R wd 8 colour (k + j)) := by
  unfold scl scale
  rw [if_neg (by decide), show 2 ^ 8 - 1 = 255 from rfl]
  omega
theorem scl_16 (R : List UInt8) (wd colour k j : Nat) : scl R wd 16 colour k j = scale 16 (smpI R wd 16 colour (k + j)) := by
  unfold scl scale
  rw [if_pos rfl, show 2 ^ 16 - 1 = 65535 from rfl]
  omega
theorem scl_dot {wd ht depth colour count : Nat} {R : List UInt8} (ok : RowsOk wd ht depth colour count R) (hc : colour ≠ 3) (k j : Nat) : scl R wd depth colour k j = scale depth (smpI R wd depth colour (k + j)) := by
  have hd : depth = 8 ∨ depth = 16 := by have := ok.kind; omega
  rcases hd with rfl | rfl
  · exact scl_8 ..
  · exact scl_16 ..
theorem smpI_lt {wd ht depth colour count : Nat} {R : List UInt8} (ok : RowsOk wd ht depth colour count R) (k : Nat) : smpI R wd depth colour k < 2 ^ depth := smp_lt ok _ _ _
theorem smpRows_get (R : List UInt8) (wd depth colour y k : Nat) (h : k < y * (wd * chan colour)) : (smpRows R wd depth colour y)[k]? = some (smpI R wd depth colour k) := by
  unfold smpRows
  rw [List.getElem?_map, List.getElem?_range h]
  rfl

theorem dotsV_snoc (l : List Dot4) (d : Dot4) : dotsV (l ++ [d]) = dotsV l ++ dotCell d := by rw [dotsV_append]; simp [dotsV]
theorem dotCell_one (d : Dot4) : ∀ u ∈ dotCell d, u.oneCell' = true := fun u hu => dotsV_one [d] u (by simpa [dotsV] using hu)
section
variable {wd ht depth colour count : Nat} {R : List UInt8} (ok : RowsOk wd ht depth colour count R) (pal : List Shade4) (i ki : Nat)
include ok
theorem dot_gray (hc : colour = 0) (hk : i * chan colour = ki) : dotI R wd depth colour pal i = (scl R wd depth colour ki 0, scl R wd depth colour ki 0, scl R wd depth colour ki 0, 65535) := by
  subst hk
  rw [← dotOf_eq ok pal i, scl_dot ok (by omega)]
  subst hc
  rfl
theorem dot_tc (hc : colour = 2) (hk : i * chan colour = ki) : dotI R wd depth colour pal i = (scl R wd depth colour ki 0, scl R wd depth colour ki 1, scl R wd depth colour ki 2, 65535) := by
  subst hk
  rw [← dotOf_eq ok pal i, scl_dot ok (by omega), scl_dot ok (by omega), scl_dot ok (by omega)]
  subst hc
  rfl
theorem dot_tca (hc : colour = 6) (hk : i * chan colour = ki) : dotI R wd depth colour pal i = (scl R wd depth colour ki 0, scl R wd depth colour ki 1, scl R wd depth colour ki 2, scl R wd depth colour ki 3) := by
  subst hk
  rw [← dotOf_eq ok pal i, scl_dot ok (by omega), scl_dot ok (by omega), scl_dot ok (by omega), scl_dot ok (by omega)]
  subst hc
  rfl
theorem dot_pal (hc : colour = 3) (hk : i * chan colour = ki) : dotI R wd depth colour pal i = palDot (pal.getD (smpI R wd depth colour ki) (0, 0, 0, 0)) := by
  subst hk
  rw [← dotOf_eq ok pal i]
  subst hc
  rfl
theorem smpI_pal (hc : colour = 3) (hi : ki < ht * wd) : smpI R wd depth colour ki < count := by
  have hw := ok.w0
  subst hc
  unfold smpI
  rw [show wd * chan 3 = wd by simp [chan]]
  exact ok.pal rfl _ _ (Nat.div_lt_of_lt_mul (by rw [Nat.mul_comm]; exact hi)) (Nat.mod_lt _ hw)
end
/-- A new pixel's cells. -/
theorem dotNew {w wn : World} {db : Nat} {a b c e : Value} (h : wn = (w.alloc (.cells #[a, b, c, e] 41)).drew) (hd : db = w.heap.size) : wn.cell? ⟨db, 0, none⟩ = some a ∧ wn.cell? ⟨db, 1, none⟩ = some b ∧ wn.cell? ⟨db, 2, none⟩ = some c ∧ wn.cell? ⟨db, 3, none⟩ = some e ∧ Keep Nil2 w wn := by
  subst h hd
  have hh := heap_alloc_new w (.cells #[a, b, c, e] 41)
  have hk : Keep Nil2 (w.alloc (.cells #[a, b, c, e] 41)) (w.alloc (.cells #[a, b, c, e] 41)).drew := (Keep.refl Nil2 _).drew
  exact ⟨hk.get (cell_of_row _ _ _ _ _ _ hh) fun e => e, hk.get (cell_of_row _ _ _ _ _ _ hh) fun e => e, hk.get (cell_of_row _ _ _ _ _ _ hh) fun e => e, hk.get (cell_of_row _ _ _ _ _ _ hh) fun e => e, ((Keep.refl Nil2 w).alloc _).drew⟩
theorem dotNew' {w wn : World} {db : Nat} {a b c e : Value} (h : wn = w.alloc (.cells #[a, b, c, e] 41)) (hd : db = w.heap.size) : wn.cell? ⟨db, 0, none⟩ = some a ∧ wn.cell? ⟨db, 1, none⟩ = some b ∧ wn.cell? ⟨db, 2, none⟩ = some c ∧ wn.cell? ⟨db, 3, none⟩ = some e ∧ Keep Nil2 w wn := by
  subst h hd
  have hh := heap_alloc_new w (.cells #[a, b, c, e] 41)
  exact ⟨cell_of_row _ _ _ _ _ _ hh, cell_of_row _ _ _ _ _ _ hh, cell_of_row _ _ _ _ _ _ hh, cell_of_row _ _ _ _ _ _ hh, (Keep.refl Nil2 w).alloc _⟩

set_option maxHeartbeats 8000000 in
set_option maxRecDepth 100000 in
theorem specDots {w : World} {R : List UInt8} {wd ht depth colour : Nat} {pal : List Shade4} (ok : RowsOk wd ht depth colour pal.length R) (sb so sc : Nat) (hs : CellsAt w sb so (intsV (smpRows R wd depth colour ht))) (pv : Value)
    (hpv : colour = 3 → ∃ plb plo pc, pv = .slice (some ⟨plb, plo, none⟩) pal.length pc ∧ CellsAt w plb plo (dotsV (pal.map palDot))) :
    Calls Tryz.prog 37 #[shapeV wd ht depth colour, .slice (some ⟨sb, so, none⟩) (ht * (wd * chan colour)) sc, pv, .slice none 0 0] w fun e w' => ∃ v, e = .returned (.tuple #[v, .int .i64 0]) ∧ OwnV 41 4 w' w.heap.size v (ht * wd) (dotsV (dotsUp R wd depth colour pal (ht * wd))) ∧ Keep Nil2 w w' := by
  have hk : KindOk colour depth := ok.kind
  have hw := ok.w60
  have hw0 := ok.w0
  have hh := ok.h60
  have hh0 := ok.h0
  have hc4 := chan_pos colour
  have hCH := fun V => specChannels V colour hk.c
  have hget := smpRows_get R wd depth colour ht
  have hlt := smpI_lt ok
  have hd16 : 1 ≤ depth ∧ depth ≤ 16 := by have := hk.d; omega
  obtain ⟨ch, hch⟩ : ∃ ch, ch = chan colour := ⟨_, rfl⟩
  obtain ⟨p, hp⟩ : ∃ p, p = ht * wd := ⟨_, rfl⟩
  obtain ⟨n, hn⟩ : ∃ n, n = ht * (wd * chan colour) := ⟨_, rfl⟩
  have hp2 : p ≤ 3600 := by rw [hp]; exact Nat.le_trans (Nat.mul_le_mul hh hw) (by decide)
  have hpn : n = p * ch := by rw [hn, hp, hch, Nat.mul_assoc]
  rw [← hn] at hget
  rw [← hp, ← hn]
  rw [← hch] at hc4 hCH
  have hn2 : n ≤ 14400 := by rw [hpn]; exact Nat.le_trans (Nat.mul_le_mul hp2 hc4.2) (by decide)
  obtain ⟨t, ht'⟩ : ∃ t, t = 2 ^ depth := ⟨_, rfl⟩
  have ht2 : 2 ≤ t ∧ t ≤ 65536 := by
    rw [ht']
    have h1 : 2 ^ 1 ≤ 2 ^ depth := Nat.pow_le_pow_right (by omega) hd16.1
    have h2 : 2 ^ depth ≤ 2 ^ 16 := Nat.pow_le_pow_right (by omega) hd16.2
    omega
  rw [← ht'] at hlt
  obtain ⟨tp, htp⟩ : ∃ tp, tp = t - 1 := ⟨_, rfl⟩
  have hd64 : min depth 64 = depth := by omega
  have e10 : (2 : Int) ^ depth = (t : Int) := by rw [ht']; simp
  have e11 : IntKind.i64.wrap (t : Int) = (t : Int) := IntWalk.i64_in _ (by omega)
  have e12 : IntKind.i64.wrap ((t : Int) - 1) = (tp : Int) := by rw [IntWalk.i64_in _ (by omega)]; omega
  have hscl : ∀ k j, scl R wd depth colour k j = smpI R wd depth colour (k + j) * 65535 / tp := fun k j => by unfold scl; rw [htp, ht']
  have htp0 : 0 < tp := by omega
  have htp2 : tp ≤ 65535 := by omega
  have hbs : ∀ (a b c e : Int) (w : World), (Instr.buildSlice 31 1 #[(0, .agg #[.int .i64 a, .int .i64 b, .int .i64 c, .int .i64 e])]).run Tryz.prog w = .ok (.slice (some ⟨w.heap.size, 0, none⟩) 1 1) (w.alloc (.cells #[.int .i64 a, .int .i64 b, .int .i64 c, .int .i64 e] 41)) := fun a b c e w => by kernel_rfl
  have H0 := Lib.hid (And.intro ok (And.intro hk (And.intro hch (And.intro hpn (And.intro hget (And.intro hlt hscl))))))
  have HCH := Lib.hid hCH
  have HP := Lib.hid hp
  have HPV := Lib.hid hpv
  clear ok hk hch hp hn hpn hget hlt hCH ht' htp hscl hpv
  unfold shapeV
  go_enter Tryz.func37, Tryz.ntmps37
  go_wp2
  obtain ⟨pb, hpb⟩ : ∃ pb, pb = w.heap.size := ⟨_, rfl⟩
  rw [← hpb]
  obtain ⟨w1, hw1⟩ : ∃ w1, w1 = w.alloc (.cells #[.int .i64 (wd : Int), .int .i64 (ht : Int), .int .i64 (depth : Int), .int .i64 (colour : Int), .bool false] 30) := ⟨_, rfl⟩
  rw [← hw1]
  have hs0 : ShS w pb wd ht depth colour w1 := by
    rw [hw1, hpb]
    have hh := heap_alloc_new w (.cells #[.int .i64 (wd : Int), .int .i64 (ht : Int), .int .i64 (depth : Int), .int .i64 (colour : Int), .bool false] 30)
    exact ⟨cell_of_row _ _ _ _ _ _ hh, cell_of_row _ _ _ _ _ _ hh, cell_of_row _ _ _ _ _ _ hh, cell_of_row _ _ _ _ _ _ hh, cell_of_row _ _ _ _ _ _ hh, (Keep.refl Nil2 w).alloc _⟩
  have HPB := Lib.hid hpb
  have HS1 := Lib.hid hs0
  clear hw1 hpb
  obtain ⟨c0, c1, c2, c3, c4, -⟩ := hs0
  go_quiet ((go_at_call 39; exact Calls.quiet_of_same ((HCH.out _).mono fun _ _ ⟨a, b⟩ => ⟨a, b.symm⟩)))
  obtain ⟨w2, hw2⟩ : ∃ w2, w2 = w1.drewN nq := ⟨_, rfl⟩
  rw [← hw2]
  have hs2 : ShS w pb wd ht depth colour w2 := shS_keep HS1.out (by rw [hw2]; exact (Keep.refl Nil2 w1).drewN _)
  have hlt2 : pb < w2.heap.size := World.block_lt_of_cell? w2 _ hs2.1
  have HS2 := Lib.hid hs2
  clear c0 c1 c2 c3 c4 hw2 hs2
  have HI := Lib.hid (And.intro (OwnV.lit (e := 41) (size := 4) w2 #[] 0 [] rfl rfl (by omega)) ((Keep.refl Nil2 w2).alloc (.cells #[] 41)))
  go_wp2
  have hz1 : ((tp : Int) == 0) = false := by simp; omega
  have hz2 : ¬ (tp : Int) = 0 := by omega
  have hz3 : ¬ tp = 0 := by omega
  go_loopg [12, 13, 14, 15, 16, 17] p (fun G v12 v13 v14 v15 v16 v17 wr => ∃ (i g ki : Nat), g = G ∧ i + g = p ∧ v13 = .int .i64 (ki : Int) ∧ i * ch = ki ∧ OwnV 41 4 wr (pb + 1) v12 i (dotsV (dotsUp R wd depth colour pal i)) ∧ ShS w pb wd ht depth colour wr)
  case atStart => exact ⟨0, p, 0, rfl, by omega, rfl, by simp, HI.out.1.lower (by omega), shS_keep HS2.out HI.out.2⟩
  case round =>
    obtain ⟨i, g, ki, hG, hig, rfl, hki, hO, hSh⟩ := hrel
    obtain ⟨wo, hwo⟩ : ∃ wo : World, wo = wr := ⟨_, rfl⟩
    subst hwo
    have HG := Lib.hid hG
    clear hG
    obtain ⟨k2, hk2⟩ : ∃ k2, k2 = ki + ch := ⟨_, rfl⟩
    have hkn : ki ≤ n := by rw [← hki, H0.out.2.2.2.1]; exact Nat.mul_le_mul_right _ (by omega)
    have e1 : IntKind.i64.wrap ((ki : Int) + (ch : Int)) = (k2 : Int) := by rw [IntWalk.i64_in _ (by omega)]; omega
    have hltr : pb < wo.heap.size := World.block_lt_of_cell? wo _ hSh.1
    by_cases hi : i < p
    · have hk2n : k2 ≤ n := by
        have h1 : (i + 1) * ch ≤ p * ch := Nat.mul_le_mul_right _ hi
        rw [Nat.add_mul, Nat.one_mul, hki, ← H0.out.2.2.2.1] at h1
        omega
      have HO := Lib.hid (And.intro hO (And.intro hSh (And.intro hki hk2)))
      have hkc : ki + ch ≤ n := by omega
      have HI2 := Lib.hid (And.intro (OwnV.lit (e := 3) (size := 1) wo #[] 0 [] rfl rfl (by omega)) ((Keep.refl Nil2 wo).alloc (.cells #[] 3)))
      clear hO hSh hki hk2
      go_wp2
      go_loopg [14, 15, 16, 40] ch (fun G v14 v15 v16 v40 wi => ∃ j m, m = G ∧ j + m = ch ∧ v40 = .int .i64 (j : Int) ∧ v15 = .bool false ∧ OwnV 3 1 wi wo.heap.size v14 j (intsV ((List.range j).map (scl R wd depth colour ki))) ∧ Keep Nil2 wo wi)
      case atStart => exact ⟨0, ch, rfl, by omega, rfl, rfl, HI2.out.1, HI2.out.2⟩
      case round =>
        obtain ⟨j, m, hG2, hjm, rfl, rfl, hO2, hK2⟩ := hrel
        have HG2 := Lib.hid hG2
        clear hG2
        by_cases hj : j < ch
        · have d1 : decide ((j : Int) < (ch : Int)) = true := by simp; omega
          obtain ⟨kj, hkj⟩ : ∃ kj, kj = ki + j := ⟨_, rfl⟩
          have hkjn : kj < n := by omega
          have hkjI : (kj : Int) < n := by omega
          have f1 : IntKind.i64.wrap ((ki : Int) + (j : Int)) = (kj : Int) := by rw [IntWalk.i64_in _ (by omega)]; omega
          obtain ⟨s, hs'⟩ : ∃ s, s = smpI R wd depth colour kj := ⟨_, rfl⟩
          have hst : s < t := by rw [hs']; exact H0.out.2.2.2.2.2.1 kj
          have cs := (hs.keep (HO.out.2.1.2.2.2.2.2.trans hK2) fun _ _ e => e).int kj s (by rw [hs']; exact H0.out.2.2.2.2.1 kj hkjn)
          obtain ⟨sm, hsm⟩ : ∃ sm, sm = s * 65535 := ⟨_, rfl⟩
          have hsm2 : sm ≤ 65536 * 65535 := by rw [hsm]; exact Nat.mul_le_mul_right _ (by omega)
          have f2 : IntKind.i64.wrap ((s : Int) * 65535) = (sm : Int) := by rw [hsm, IntWalk.i64_in _ (by omega)]; simp
          obtain ⟨q, hq⟩ : ∃ q, q = sm / tp := ⟨_, rfl⟩
          have hqs : q ≤ sm := by rw [hq]; exact Nat.div_le_self _ _
          have f3 : Int.tdiv (sm : Int) (tp : Int) = (q : Int) := by rw [Int.tdiv_eq_ediv_of_nonneg (by omega), hq]; simp
          have f3' : (sm : Int) / (tp : Int) = (q : Int) := by rw [hq]; simp
          have f4 : IntKind.i64.wrap (q : Int) = (q : Int) := IntWalk.i64_in _ (by omega)
          have HX := Lib.hid (show scl R wd depth colour ki j = q by rw [H0.out.2.2.2.2.2.2, ← hkj, ← hs', ← hsm, ← hq])
          have HO2 := Lib.hid (And.intro hO2 hK2)
          clear hO2 hK2 hkj hs' hsm hq
          go_wp2_with (at_builtin; refine wpList_append_vals rfl (.tmp 43) (.tmp 53) 32 3 rfl _ 1 8 Tryz.underlying32 info3 rfl (by decide) (by decide) wo.heap.size u14 j (intsV ((List.range j).map (scl R wd depth colour ki))) rfl (HO2.out.1.alloc _) _ 1 [.int .i64 (q : Int)] rfl (SrcV.litAt' _ _ 3 1 _ rfl (by simp)) rfl (by intro u hu; simp at hu; subst hu; rfl) (by omega) (by have := HO2.out.2.size; simp; omega) ?_)
          intro v4 w4 h4 hk4 hv4
          have HF := Lib.hid (And.intro h4 (keep_layV' (HO2.out.2.alloc _) (HO2.out.1.alloc _) hk4))
          clear h4 hk4 hv4 cs
          go_wp2
          go_quiet (fail)
          go_wp2
          go_roundg (m - 1)
          case measure => have := HG2.out; omega
          case rel => exact ⟨j + 1, m - 1, rfl, by omega, by go_num, rfl, by rw [range_snoc, HX.out]; exact HF.out.1.keep0 ((Keep.refl Nil2 _).drewN _), HF.out.2.drewN _⟩
        · obtain rfl : j = ch := by omega
          have d1 : decide ((j : Int) < (j : Int)) = false := by simp
          obtain ⟨vb, vc, rfl, hvb, _, hvlt, hcv, _⟩ := hO2.out hc4.1
          have ka := (Keep.refl Nil2 wr).alloc (.cells #[.int .i64 0, .int .i64 0, .int .i64 0, .int .i64 65535] 41)
          have hcv4 := hcv.keep ka fun _ _ e => e
          have hsh4 := shS_keep (HO.out.2.1) (hK2.trans ka)
          have hd4 := heap_alloc_new wr (.cells #[.int .i64 0, .int .i64 0, .int .i64 0, .int .i64 65535] 41)
          have d0 := cell_of_row _ _ 0 _ _ _ hd4
          have d1' := cell_of_row _ _ 1 _ _ _ hd4
          have d2' := cell_of_row _ _ 2 _ _ _ hd4
          have d3' := cell_of_row _ _ 3 _ _ _ hd4
          have df := fun j => frozen_of_row _ _ j _ _ hd4
          have c3 := hsh4.2.2.2.1
          have HO2 := Lib.hid (And.intro hO2 hK2)
          clear hO2 hK2 hcv hsh4 hd4 ka
          have hcol := H0.out.2.1.c
          rcases hcol with rfl | rfl | rfl | rfl
          · have hjc : j = chan 0 := H0.out.2.2.1
            have hj1 : (0 : Int) < (j : Int) := by omega
            clear hjc
            have x0 := hcv4.int 0 (scl R wd depth 0 ki 0) (by have := H0.out.2.2.1; subst this; rfl)
            clear hcv4
            go_wp2
            go_region
            obtain ⟨wn, hwn⟩ : ∃ wn, wn = (wr.alloc (.cells #[.int .i64 (scl R wd depth 0 ki 0 : Int), .int .i64 (scl R wd depth 0 ki 0 : Int), .int .i64 (scl R wd depth 0 ki 0 : Int), .int .i64 65535] 41)).drew := ⟨_, rfl⟩
            obtain ⟨db, hdb⟩ : ∃ db, db = wr.heap.size := ⟨_, rfl⟩
            rw [← hwn, ← hdb]
            obtain ⟨n0, n1, n2, n3, hkn2⟩ := dotNew hwn hdb
            have HOd := Lib.hid (And.intro (HO.out.1.keep0 (HO2.out.2.trans hkn2)) (shS_keep HO.out.2.1 (HO2.out.2.trans hkn2)))
            have HX := Lib.hid (dot_gray H0.out.1 pal i ki rfl (by have := HO.out.2.2.1; have h3 := H0.out.2.2.1; rw [← h3]; exact this))
            clear d0 d1' d2' d3' df hwn hdb hkn2
            go_wp2_with (at_builtin; refine goalStop ?_)
            refine ⟨?_⟩
            refine wpList_append_vals rfl (.tmp 161) (.tmp 163) 31 41 rfl _ 4 32 Tryz.underlying31 info41 rfl (by decide) (by decide) (pb + 1) u12 i (dotsV (dotsUp R wd depth 0 pal i)) rfl (HOd.out.1.alloc _) _ 1 (dotCell (dotI R wd depth 0 pal i)) rfl (SrcV.litAt' _ _ 41 1 _ (by rw [HX.out]; rfl) (by simp)) rfl (dotCell_one _) (by omega) (by have h8 : pb < wn.heap.size := World.block_lt_of_cell? wn _ HOd.out.2.1; simp; omega) ?_
            intro v4 w4 h4 hk4 hv4
            have hge := fun k e => (HOd.out.1.block_ge k e).1
            have hsa := shS_keep HOd.out.2 ((Keep.refl Nil2 wn).alloc (.cells ((dotCell (dotI R wd depth 0 pal i)).toArray) 41))
            have HF := Lib.hid (show OwnV 41 4 w4 (pb + 1) v4 (i + 1) (dotsV (dotsUp R wd depth 0 pal (i + 1))) ∧ ShS w pb wd ht depth 0 w4 by
              refine ⟨by rw [dotsUp_succ, dotsV_snoc]; exact h4, ?_⟩
              have hs := HOd.out.2
              have hka : Keep (fun k _ => u12.ownBlock = some k) wn w4 := ((Keep.refl _ wn).alloc _).trans hk4
              exact ⟨hka.get hs.1 fun e => by have := hge _ e; omega, hka.get hs.2.1 fun e => by have := hge _ e; omega, hka.get hs.2.2.1 fun e => by have := hge _ e; omega, hka.get hs.2.2.2.1 fun e => by have := hge _ e; omega, hka.get hs.2.2.2.2.1 fun e => by have := hge _ e; omega, keep_layV' hs.2.2.2.2.2 HOd.out.1 hka (by have := HPB.out; omega)⟩)
            clear h4 hk4 hv4 hge hsa n0 n1 n2 n3
            go_wp2
            go_roundg (g - 1)
            case measure => have := HG.out; omega
            case rel => exact ⟨i + 1, g - 1, k2, rfl, by omega, by first | rfl | go_num, by rw [Nat.add_mul, Nat.one_mul, HO.out.2.2.1]; exact HO.out.2.2.2.symm, HF.out.1, HF.out.2⟩
          · have hjc : j = chan 2 := H0.out.2.2.1
            have hj3 : j = 3 := hjc
            have hj1 : (0 : Int) < (j : Int) := by omega
            have hj2 : (1 : Int) < (j : Int) := by omega
            have hj4 : (2 : Int) < (j : Int) := by omega
            clear hj3
            clear hjc
            have x0 := hcv4.int 0 (scl R wd depth 2 ki 0) (by have := H0.out.2.2.1; subst this; rfl)
            have x1 := hcv4.int 1 (scl R wd depth 2 ki 1) (by have := H0.out.2.2.1; subst this; rfl)
            have x2 := hcv4.int 2 (scl R wd depth 2 ki 2) (by have := H0.out.2.2.1; subst this; rfl)
            clear hcv4
            go_wp2
            go_region
            obtain ⟨wn, hwn⟩ : ∃ wn, wn = (wr.alloc (.cells #[.int .i64 (scl R wd depth 2 ki 0 : Int), .int .i64 (scl R wd depth 2 ki 1 : Int), .int .i64 (scl R wd depth 2 ki 2 : Int), .int .i64 65535] 41)).drew := ⟨_, rfl⟩
            obtain ⟨db, hdb⟩ : ∃ db, db = wr.heap.size := ⟨_, rfl⟩
            rw [← hwn, ← hdb]
            obtain ⟨n0, n1, n2, n3, hkn2⟩ := dotNew hwn hdb
            have HOd := Lib.hid (And.intro (HO.out.1.keep0 (HO2.out.2.trans hkn2)) (shS_keep HO.out.2.1 (HO2.out.2.trans hkn2)))
            have HX := Lib.hid (dot_tc H0.out.1 pal i ki rfl (by have := HO.out.2.2.1; have h3 := H0.out.2.2.1; rw [← h3]; exact this))
            clear d0 d1' d2' d3' df hwn hdb hkn2
            go_wp2_with (at_builtin; refine goalStop ?_)
            refine ⟨?_⟩
            refine wpList_append_vals rfl (.tmp 161) (.tmp 163) 31 41 rfl _ 4 32 Tryz.underlying31 info41 rfl (by decide) (by decide) (pb + 1) u12 i (dotsV (dotsUp R wd depth 2 pal i)) rfl (HOd.out.1.alloc _) _ 1 (dotCell (dotI R wd depth 2 pal i)) rfl (SrcV.litAt' _ _ 41 1 _ (by rw [HX.out]; rfl) (by simp)) rfl (dotCell_one _) (by omega) (by have h8 : pb < wn.heap.size := World.block_lt_of_cell? wn _ HOd.out.2.1; simp; omega) ?_
            intro v4 w4 h4 hk4 hv4
            have hge := fun k e => (HOd.out.1.block_ge k e).1
            have hsa := shS_keep HOd.out.2 ((Keep.refl Nil2 wn).alloc (.cells ((dotCell (dotI R wd depth 2 pal i)).toArray) 41))
            have HF := Lib.hid (show OwnV 41 4 w4 (pb + 1) v4 (i + 1) (dotsV (dotsUp R wd depth 2 pal (i + 1))) ∧ ShS w pb wd ht depth 2 w4 by
              refine ⟨by rw [dotsUp_succ, dotsV_snoc]; exact h4, ?_⟩
              have hs := HOd.out.2
              have hka : Keep (fun k _ => u12.ownBlock = some k) wn w4 := ((Keep.refl _ wn).alloc _).trans hk4
              exact ⟨hka.get hs.1 fun e => by have := hge _ e; omega, hka.get hs.2.1 fun e => by have := hge _ e; omega, hka.get hs.2.2.1 fun e => by have := hge _ e; omega, hka.get hs.2.2.2.1 fun e => by have := hge _ e; omega, hka.get hs.2.2.2.2.1 fun e => by have := hge _ e; omega, keep_layV' hs.2.2.2.2.2 HOd.out.1 hka (by have := HPB.out; omega)⟩)
            clear h4 hk4 hv4 hge hsa n0 n1 n2 n3
            go_wp2
            go_roundg (g - 1)
            case measure => have := HG.out; omega
            case rel => exact ⟨i + 1, g - 1, k2, rfl, by omega, by first | rfl | go_num, by rw [Nat.add_mul, Nat.one_mul, HO.out.2.2.1]; exact HO.out.2.2.2.symm, HF.out.1, HF.out.2⟩
          · have hjc : j = chan 6 := H0.out.2.2.1
            have hj3 : j = 4 := hjc
            have hj1 : (0 : Int) < (j : Int) := by omega
            have hj2 : (1 : Int) < (j : Int) := by omega
            have hj4 : (2 : Int) < (j : Int) := by omega
            have hj5 : (3 : Int) < (j : Int) := by omega
            clear hj3
            clear hjc
            have x0 := hcv4.int 0 (scl R wd depth 6 ki 0) (by have := H0.out.2.2.1; subst this; rfl)
            have x1 := hcv4.int 1 (scl R wd depth 6 ki 1) (by have := H0.out.2.2.1; subst this; rfl)
            have x2 := hcv4.int 2 (scl R wd depth 6 ki 2) (by have := H0.out.2.2.1; subst this; rfl)
            have x3 := hcv4.int 3 (scl R wd depth 6 ki 3) (by have := H0.out.2.2.1; subst this; rfl)
            clear hcv4
            go_wp2
            go_region
            obtain ⟨wn, hwn⟩ : ∃ wn, wn = (wr.alloc (.cells #[.int .i64 (scl R wd depth 6 ki 0 : Int), .int .i64 (scl R wd depth 6 ki 1 : Int), .int .i64 (scl R wd depth 6 ki 2 : Int), .int .i64 (scl R wd depth 6 ki 3 : Int)] 41)).drew := ⟨_, rfl⟩
            obtain ⟨db, hdb⟩ : ∃ db, db = wr.heap.size := ⟨_, rfl⟩
            rw [← hwn, ← hdb]
            obtain ⟨n0, n1, n2, n3, hkn2⟩ := dotNew hwn hdb
            have HOd := Lib.hid (And.intro (HO.out.1.keep0 (HO2.out.2.trans hkn2)) (shS_keep HO.out.2.1 (HO2.out.2.trans hkn2)))
            have HX := Lib.hid (dot_tca H0.out.1 pal i ki rfl (by have := HO.out.2.2.1; have h3 := H0.out.2.2.1; rw [← h3]; exact this))
            clear d0 d1' d2' d3' df hwn hdb hkn2
            go_wp2_with (at_builtin; refine goalStop ?_)
            refine ⟨?_⟩
            refine wpList_append_vals rfl (.tmp 161) (.tmp 163) 31 41 rfl _ 4 32 Tryz.underlying31 info41 rfl (by decide) (by decide) (pb + 1) u12 i (dotsV (dotsUp R wd depth 6 pal i)) rfl (HOd.out.1.alloc _) _ 1 (dotCell (dotI R wd depth 6 pal i)) rfl (SrcV.litAt' _ _ 41 1 _ (by rw [HX.out]; rfl) (by simp)) rfl (dotCell_one _) (by omega) (by have h8 : pb < wn.heap.size := World.block_lt_of_cell? wn _ HOd.out.2.1; simp; omega) ?_
            intro v4 w4 h4 hk4 hv4
            have hge := fun k e => (HOd.out.1.block_ge k e).1
            have hsa := shS_keep HOd.out.2 ((Keep.refl Nil2 wn).alloc (.cells ((dotCell (dotI R wd depth 6 pal i)).toArray) 41))
            have HF := Lib.hid (show OwnV 41 4 w4 (pb + 1) v4 (i + 1) (dotsV (dotsUp R wd depth 6 pal (i + 1))) ∧ ShS w pb wd ht depth 6 w4 by
              refine ⟨by rw [dotsUp_succ, dotsV_snoc]; exact h4, ?_⟩
              have hs := HOd.out.2
              have hka : Keep (fun k _ => u12.ownBlock = some k) wn w4 := ((Keep.refl _ wn).alloc _).trans hk4
              exact ⟨hka.get hs.1 fun e => by have := hge _ e; omega, hka.get hs.2.1 fun e => by have := hge _ e; omega, hka.get hs.2.2.1 fun e => by have := hge _ e; omega, hka.get hs.2.2.2.1 fun e => by have := hge _ e; omega, hka.get hs.2.2.2.2.1 fun e => by have := hge _ e; omega, keep_layV' hs.2.2.2.2.2 HOd.out.1 hka (by have := HPB.out; omega)⟩)
            clear h4 hk4 hv4 hge hsa n0 n1 n2 n3
            go_wp2
            go_roundg (g - 1)
            case measure => have := HG.out; omega
            case rel => exact ⟨i + 1, g - 1, k2, rfl, by omega, by first | rfl | go_num, by rw [Nat.add_mul, Nat.one_mul, HO.out.2.2.1]; exact HO.out.2.2.2.symm, HF.out.1, HF.out.2⟩
          · obtain ⟨s, hs'⟩ : ∃ s, s = smpI R wd depth 3 ki := ⟨_, rfl⟩
            have hsp : s < pal.length := by rw [hs']; exact smpI_pal H0.out.1 ki rfl (by have := HP.out; have h3 := H0.out.2.2.1; have h4 : j = 1 := h3; have h5 := HO.out.2.2.1; rw [h4, Nat.mul_one] at h5; omega)
            obtain ⟨np, hnp⟩ : ∃ np, np = pal.length := ⟨_, rfl⟩
            obtain ⟨dd, hdd⟩ : ∃ dd, dd = palDot (pal.getD s (0, 0, 0, 0)) := ⟨_, rfl⟩
            obtain ⟨plb, plo, pc, hpv, hpl⟩ := HPV.out rfl
            have hkw : Keep Nil2 w (wr.alloc (.cells #[.int .i64 0, .int .i64 0, .int .i64 0, .int .i64 65535] 41)) := (HO.out.2.1.2.2.2.2.2.trans HO2.out.2).alloc _
            obtain ⟨q0, q1, q2, q3⟩ := (hpl.keep hkw fun _ _ e => e).dot s dd (by rw [List.getElem?_map, List.getElem?_eq_getElem hsp, hdd, List.getD_eq_getElem?_getD, List.getElem?_eq_getElem hsp]; rfl)
            have cs := (hs.keep hkw fun _ _ e => e).int ki s (by rw [hs']; exact H0.out.2.2.2.2.1 ki (by omega))
            have hkI : (ki : Int) < n := by omega
            have HX := Lib.hid (show dotI R wd depth 3 pal i = dd by rw [hdd, hs']; exact dot_pal H0.out.1 pal i ki rfl (by have := HO.out.2.2.1; have h3 := H0.out.2.2.1; rw [← h3]; exact this))
            rw [← hnp] at hpv hsp
            have hnps : ¬ np ≤ s := by omega
            have hspI : (s : Int) < np := by omega
            have hp3 : pv = .slice (some ⟨plb, plo, none⟩) np pc := hpv
            subst hp3
            clear hcv4 hs' hdd hpl hkw hpv hnp
            go_wp2_with (at_builtin; refine goalStop ?_)
            refine ⟨?_⟩
            obtain ⟨wn, hwn⟩ : ∃ wn, wn = wr.alloc (.cells #[.int .i64 (dd.1 : Int), .int .i64 (dd.2.1 : Int), .int .i64 (dd.2.2.1 : Int), .int .i64 (dd.2.2.2 : Int)] 41) := ⟨_, rfl⟩
            obtain ⟨db, hdb⟩ : ∃ db, db = wr.heap.size := ⟨_, rfl⟩
            rw [← hwn]
            have hszn : wn.heap.size = wr.heap.size + 1 := by rw [hwn]; simp
            obtain ⟨n0, n1, n2, n3, hkn2⟩ := dotNew' hwn hdb
            have HOd := Lib.hid (And.intro (HO.out.1.keep0 (HO2.out.2.trans hkn2)) (shS_keep HO.out.2.1 (HO2.out.2.trans hkn2)))

            clear d0 d1' d2' d3' df hwn hdb hkn2 q0 q1 q2 q3 cs
            refine wpList_append_vals rfl (.tmp 161) (.tmp 163) 31 41 rfl _ 4 32 Tryz.underlying31 info41 rfl (by decide) (by decide) (pb + 1) u12 i (dotsV (dotsUp R wd depth 3 pal i)) rfl (HOd.out.1.alloc _) _ 1 (dotCell (dotI R wd depth 3 pal i)) rfl (SrcV.litAt' _ _ 41 1 _ (by rw [HX.out]; rfl) hszn) rfl (dotCell_one _) (by omega) (by have h8 : pb < wn.heap.size := World.block_lt_of_cell? wn _ HOd.out.2.1; simp; omega) ?_
            intro v4 w4 h4 hk4 hv4
            have hge := fun k e => (HOd.out.1.block_ge k e).1
            have hsa := shS_keep HOd.out.2 ((Keep.refl Nil2 wn).alloc (.cells ((dotCell (dotI R wd depth 3 pal i)).toArray) 41))
            have HF := Lib.hid (show OwnV 41 4 w4 (pb + 1) v4 (i + 1) (dotsV (dotsUp R wd depth 3 pal (i + 1))) ∧ ShS w pb wd ht depth 3 w4 by
              refine ⟨by rw [dotsUp_succ, dotsV_snoc]; exact h4, ?_⟩
              have hs := HOd.out.2
              have hka : Keep (fun k _ => u12.ownBlock = some k) wn w4 := ((Keep.refl _ wn).alloc _).trans hk4
              exact ⟨hka.get hs.1 fun e => by have := hge _ e; omega, hka.get hs.2.1 fun e => by have := hge _ e; omega, hka.get hs.2.2.1 fun e => by have := hge _ e; omega, hka.get hs.2.2.2.1 fun e => by have := hge _ e; omega, hka.get hs.2.2.2.2.1 fun e => by have := hge _ e; omega, keep_layV' hs.2.2.2.2.2 HOd.out.1 hka (by have := HPB.out; omega)⟩)
            clear h4 hk4 hv4 hge hsa n0 n1 n2 n3
            go_wp2
            go_roundg (g - 1)
            case measure => have := HG.out; omega
            case rel => exact ⟨i + 1, g - 1, k2, rfl, by omega, by first | rfl | go_num, by rw [Nat.add_mul, Nat.one_mul, HO.out.2.2.1]; exact HO.out.2.2.2.symm, HF.out.1, HF.out.2⟩
    · obtain rfl : i = p := by omega
      have hk2n : ¬ k2 ≤ n := by
        rw [H0.out.2.2.2.1, hk2, hki]
        omega
      have HO := Lib.hid (And.intro hO (And.intro hSh (And.intro hki hk2)))
      have hkc : ¬ ki + ch ≤ n := by omega
      clear hO hSh hki hk2
      go_wp2
      go_ret2
      exact ⟨_, rfl, HO.out.1.lower (by have := HPB.out; omega), HO.out.2.1.2.2.2.2.2⟩
end Go.Proofs.YtnbbppjgamdfeaaGreatDoor
end
