/- laws.FnBack, part 51 of 54: X3. -/
import Derived.Test.YtnbbppjgamdfeaaGreatDoorY49
import Derived.Test.YtnbbppjgamdfeaaGreatDoorY50
import Derived.Test.YtnbbppjgamdfeaaGreatDoorY45
import Derived.Test.YtnbbppjgamdfeaaGreatDoorY44
import Derived.Test.YtnbbppjgamdfeaaGreatDoorY17

/- laws: FnBack. -/
section
set_option linter.unusedVariables false
set_option linter.unusedSimpArgs false
namespace Go.Proofs.YtnbbppjgamdfeaaGreatDoor
open Go Go.RowKit

theorem fileB_len {wd ht depth colour : Nat} {R : List UInt8} {pal : List Shade4} (ok : RowsOk wd ht depth colour pal.length R) (hp : pal.length ≤ 200) : 0 < (fileB wd ht depth colour R pal).length ∧ (fileB wd ht depth colour R pal).length ≤ 1000000 := by
  have hR : R.length ≤ 60 * 481 := by
    rw [ok.len]
    exact Nat.mul_le_mul ok.h60 (by have := ok.rb_le.1; omega)
  have h3 : (if colour = 3 then chunkB nPLTE (shadesB pal) ++ (if 0 < lastClear pal pal.length then chunkB ntRNS ((clearsB pal).take (lastClear pal pal.length)) else []) else []).length ≤ 2000 := by
    have hc : (clearsB pal).length ≤ 200 := by simp only [clearsB, List.length_map]; exact hp
    split
    · rw [List.length_append, chunkB_length _ _ rfl, shadesB_length]
      split
      · rw [chunkB_length _ _ rfl, List.length_take]
        omega
      · simp only [List.length_nil]; omega
    · simp
  unfold fileB
  rw [List.length_append, List.length_append, List.length_append, List.length_append, chunkB_length _ _ rfl, chunkB_length _ _ rfl, chunkB_length _ _ rfl, keptB_length, headB_length]
  have hs : sigB.length = 8 := rfl
  simp only [List.length_nil]
  omega
set_option maxHeartbeats 4000000 in
set_option maxRecDepth 100000 in
theorem fnBack {w : World} {eb : Nat} (x : Nat) (hx : x < 4294967296) (ao : Option Addr) (m c : Nat) (l0 : List UInt8) (hl : m = l0.length) (hb : m = 0 ∨ ∃ b o, ao = some ⟨b, o, none⟩ ∧ BytesAt w b o l0) (cl : Bool) (htab : TabOk w) (heof : w.cell? ⟨0, 0, none⟩ = some (eofV eb)) :
    Calls Tryz.prog 3 #[.int .u32 (x : Int), .slice ao m c, .bool cl] w fun e w' => e = .returned (.bool true) ∧ Keep Nil2 w w' := by
  by_cases h0 : m > 2147483647
  · have q1 : 2147483647 < m := h0
    clear hb htab heof hl
    go_enter Tryz.func3, Tryz.ntmps3
    go_wp2
    refine bodyPost_ret (v := .bool true) ?_ rfl ⟨rfl, Keep.refl _ _⟩
    simp only [results, Tryz.f3]
    go_simp
  by_cases h1 : m > 5000
  · have q0 : ¬ 2147483647 < m := by omega
    have q1 : 5000 < m := h1
    clear hb htab heof hl
    go_enter Tryz.func3, Tryz.ntmps3
    go_wp2
    refine bodyPost_ret (v := .bool true) ?_ rfl ⟨rfl, Keep.refl _ _⟩
    simp only [results, Tryz.f3]
    go_simp
  have q0 : ¬ 2147483647 < m := by omega
  have q1 : ¬ 5000 < m := by omega
  have KP := Lib.hid (lawPictureOf (w := w) x hx ao m c l0 hl (by omega) hb cl)
  have HT := Lib.hid (And.intro htab heof)
  clear hb htab heof hl h0 h1
  go_enter Tryz.func3, Tryz.ntmps3
  go_wp2_with (go_at_call 4; fail)
  refine KP.out.mono ?_
  rintro e w1 ⟨v, rfl, ⟨kd, wd, ht, st, g, n, cap, np, pc, ao7, l, pal, rfl, hkd, hby, hn, hlst, hws, hwd, hht, hst, hnc, hnp, hps, hnp2, hp7, hg⟩, hk1⟩
  unfold picV
  have H1 := Lib.hid (And.intro hby (And.intro hn (And.intro hlst (And.intro hws (And.intro hst (And.intro hnc (And.intro hnp (And.intro hps (And.intro hnp2 (And.intro hp7 hk1))))))))))
  clear hby hn hlst hws hst hnc hnp hps hnp2 hp7 hk1 hg q0 q1
  go_wp2_with (go_at_call 5; fail)
  obtain ⟨w2, hw2⟩ : ∃ w2, w2 = w1.alloc (.cells #[.int .i64 (kd : Int), .int .i64 0, .int .i64 0, .int .i64 (wd : Int), .int .i64 (ht : Int), .int .i64 (st : Int), .slice (some ⟨g, 0, none⟩) n cap, .slice ao7 np pc] 26) := ⟨_, rfl⟩
  have hk2 : Keep Nil2 w1 w2 := by rw [hw2]; exact (Keep.refl Nil2 w1).alloc _
  have hC2 : CellsAt w2 w1.heap.size 0 [.int .i64 (kd : Int), .int .i64 0, .int .i64 0, .int .i64 (wd : Int), .int .i64 (ht : Int), .int .i64 (st : Int), .slice (some ⟨g, 0, none⟩) n cap, .slice ao7 np pc] := by rw [hw2]; exact CellsAt.lit w1 _ 26
  rw [← hw2]
  obtain ⟨b7, hb7⟩ : ∃ b7, b7 = w1.heap.size := ⟨_, rfl⟩
  rw [← hb7] at hC2
  rw [← hb7]
  have H2 := Lib.hid (And.intro hk2 (And.intro hC2 hb7))
  clear hw2 hk2 hC2 hb7
  have KE := lawExact (w := w2) kd wd ht st g n cap hkd l (H1.out.1.keep H2.out.1 fun _ _ e => e) H1.out.2.1 H1.out.2.2.1 H1.out.2.2.2.1 hwd hht H1.out.2.2.2.2.1 H1.out.2.2.2.2.2.1 pal np H1.out.2.2.2.2.2.2.1 ao7 pc (H1.out.2.2.2.2.2.2.2.1.imp id fun ⟨pg, h1, h2, _⟩ => ⟨pg, h1, h2.keep H2.out.1 fun _ _ e => e⟩) H1.out.2.2.2.2.2.2.2.2.1 H1.out.2.2.2.2.2.2.2.2.2.1
  unfold picV at KE
  refine KE.mono ?_
  clear KE
  rintro e w3 ⟨v, depth, colour, R, rfl, hO3, hok, hc7, hk3⟩
  obtain ⟨D, hD⟩ : ∃ D, D = fileB wd ht depth colour R pal := ⟨_, rfl⟩
  rw [← hD] at hO3
  obtain ⟨hD0, hD1⟩ := fileB_len hok (by rw [← H1.out.2.2.2.2.2.2.1]; exact H1.out.2.2.2.2.2.2.2.2.1)
  rw [← hD] at hD0 hD1
  obtain ⟨db, dc, rfl, hdb, hdc, _, hdB, _, hdlt, _⟩ := hO3.slice hD0
  obtain ⟨dn, hdn⟩ : ∃ dn, dn = D.length := ⟨_, rfl⟩
  rw [← hdn] at hD0 hD1 hdc
  rw [← hdn]
  have hpal : colour = 3 → pal.length ≤ 200 := fun _ => by rw [← H1.out.2.2.2.2.2.2.1]; exact H1.out.2.2.2.2.2.2.2.2.1
  have hk03 : Keep Nil2 w w3 := (H1.out.2.2.2.2.2.2.2.2.2.2.trans H2.out.1).trans hk3
  have H3 := Lib.hid (And.intro hdB (And.intro hD (And.intro hok (And.intro hc7 (And.intro hk3 hk03)))))
  have KR := Lib.hid (fun V (hk : Keep Nil2 w3 V) => specRead (w := V) db dc dn (H3.out.1.keep hk fun _ _ e => e) hD hdn hdc hD1 hok hpal)
  have KI := Lib.hid (fun V (hk : Keep Nil2 w3 V) => implDecode (w := V) db 0 dn dc (H3.out.1.keep hk fun _ _ e => e) hdn (HT.out.1.keep (hk03.trans hk) fun _ e => e) ((hk03.trans hk).get HT.out.2 fun e => e) hD hD0 hD1 hok hpal)
  have KD := Lib.hid (fun V => specPictureDots (w := V) hok)
  clear hO3 hD hdB hok hc7 hk3 hk03 hdn hpal
  go_wp2_with (go_at_call 6; fail)
  refine (KR.out _ (Keep.refl _ _)).mono ?_
  rintro e w4 ⟨g4, dcap, used, ao4, pn4, pc4, rfl, hc4, hg4, hk4⟩
  obtain ⟨hw, hhw⟩ : ∃ hw, hw = ht * wd := ⟨_, rfl⟩
  rw [← hhw] at hc4
  rw [← hhw]
  have H4 := Lib.hid (And.intro hc4 (And.intro hg4 hk4))
  have HHW := Lib.hid hhw
  clear hc4 hg4 hk4 hhw
  go_wp2_with (go_at_call 7; fail)
  obtain ⟨w5, hw5⟩ : ∃ w5, w5 = w4.alloc (.cells #[.int .i64 (wd : Int), .int .i64 (ht : Int), .int .i64 (depth : Int), .int .i64 (colour : Int), .bool false, .slice (some ⟨g4, 0, none⟩) hw dcap, .slice ao4 pn4 pc4, .slice none 0 0, .int .i64 used, .int .i64 0] 34) := ⟨_, rfl⟩
  have hk5 : Keep Nil2 w4 w5 := by rw [hw5]; exact (Keep.refl Nil2 w4).alloc _
  have hC5 : CellsAt w5 w4.heap.size 0 [.int .i64 (wd : Int), .int .i64 (ht : Int), .int .i64 (depth : Int), .int .i64 (colour : Int), .bool false, .slice (some ⟨g4, 0, none⟩) hw dcap, .slice ao4 pn4 pc4, .slice none 0 0, .int .i64 used, .int .i64 0] := by rw [hw5]; exact CellsAt.lit w4 _ 34
  rw [← hw5]
  obtain ⟨b9, hb9⟩ : ∃ b9, b9 = w4.heap.size := ⟨_, rfl⟩
  rw [← hb9] at hC5
  rw [← hb9]
  have H5 := Lib.hid (And.intro hk5 hC5)
  clear hw5 hk5 hC5 hb9
  refine (KI.out w5 (H4.out.2.2.trans H5.out.1)).mono ?_
  rintro e w6 ⟨v, rfl, ⟨g6, cap6, ao6, pn6, pc6, st6, n6, kd6, hst6, hn6, hkd6, rfl, hby6, hg6, hnc6, hpo6⟩, hk6⟩
  unfold picV
  have H6 := Lib.hid (And.intro hby6 (And.intro hg6 (And.intro hnc6 (And.intro hpo6 (And.intro hk6 (And.intro hst6 (And.intro hn6 hkd6)))))))
  clear hby6 hg6 hnc6 hpo6 hk6 hst6 hn6 hkd6
  go_wp2
  obtain ⟨wz, hwz⟩ : ∃ wz, wz = w6.alloc (.cells #[.int .i64 (kd6 : Int), .int .i64 0, .int .i64 0, .int .i64 (wd : Int), .int .i64 (ht : Int), .int .i64 (st6 : Int), .slice (some ⟨g6, 0, none⟩) n6 cap6, .slice ao6 pn6 pc6] 26) := ⟨_, rfl⟩
  have hkz : Keep Nil2 w6 wz := by rw [hwz]; exact (Keep.refl Nil2 w6).alloc _
  have hCz : CellsAt wz w6.heap.size 0 [.int .i64 (kd6 : Int), .int .i64 0, .int .i64 0, .int .i64 (wd : Int), .int .i64 (ht : Int), .int .i64 (st6 : Int), .slice (some ⟨g6, 0, none⟩) n6 cap6, .slice ao6 pn6 pc6] := by rw [hwz]; exact CellsAt.lit w6 _ 26
  have hsz : wz.heap.size = w6.heap.size + 1 := by rw [hwz]; simp
  rw [← hwz, ← hsz]
  obtain ⟨bt, hbt⟩ : ∃ bt, bt = w6.heap.size := ⟨_, rfl⟩
  rw [← hbt] at hCz
  rw [← hbt]
  obtain ⟨wy, hwy⟩ : ∃ wy, wy = wz.alloc (.cells #[] 41) := ⟨_, rfl⟩
  have HY := Lib.hid (show OwnV 41 4 wy wz.heap.size (.slice (some ⟨wz.heap.size, 0, none⟩) 0 0) 0 [] ∧ Keep Nil2 wz wy by
    rw [hwy]; exact ⟨OwnV.lit wz #[] 0 [] rfl rfl (by omega), (Keep.refl Nil2 wz).alloc _⟩)
  rw [← hwy]
  have HZ := Lib.hid (And.intro hkz hCz)
  have hpn6 : pn6 ≤ 200 := by
    rcases H6.out.2.2.2.1 with ⟨_, _, h⟩ | ⟨_, h, _⟩
    · omega
    · rw [h, ← H1.out.2.2.2.2.2.2.1]; exact H1.out.2.2.2.2.2.2.2.2.1
  have hbs : ∀ (a b c e : Int) (w : World), (Instr.buildSlice 31 1 #[(0, .agg #[.int .i64 a, .int .i64 b, .int .i64 c, .int .i64 e])]).run Tryz.prog w = .ok (.slice (some ⟨w.heap.size, 0, none⟩) 1 1) (w.alloc (.cells #[.int .i64 a, .int .i64 b, .int .i64 c, .int .i64 e] 41)) := fun a b c e w => by kernel_rfl
  clear hwz hkz hCz hsz hbt hwy
  go_loopg [12, 14, 40] pn6 (fun G v12 v14 v40 wr => ∃ (k g' cap3 g3 : Nat), g' = G ∧ k + g' = pn6 ∧ v40 = .int .i64 (k : Int) ∧ v12 = .slice (some ⟨g3, 0, none⟩) k cap3 ∧ OwnV 41 4 wr wz.heap.size v12 k (dotsV ((pal.take k).map palDot)) ∧ Keep Nil2 wz wr)
  case atStart => exact ⟨0, pn6, 0, wz.heap.size, rfl, by omega, rfl, rfl, HY.out.1, HY.out.2⟩
  case round =>
    obtain ⟨k, g', cap3, g3, hG, hkg, rfl, rfl, hO, hK⟩ := hrel
    have HG := Lib.hid hG
    clear hG
    by_cases hk : k < pn6
    · have d1 : decide ((k : Int) < (pn6 : Int)) = true := by simp; omega
      have hkI : (k : Int) < pn6 := by omega
      obtain ⟨sg, hao, hsl, hpn, hpc⟩ : ∃ sg, ao6 = some ⟨sg, 0, none⟩ ∧ w5.heap.size ≤ sg ∧ pn6 = pal.length ∧ CellsAt w6 sg 0 (shadeCells pal) := by
        rcases H6.out.2.2.2.1 with ⟨_, _, h⟩ | ⟨_, h, sg, h1, h2, h3⟩
        · omega
        · exact ⟨sg, h1, h2, h, h3⟩
      obtain ⟨s, hs⟩ : ∃ s, pal[k]? = some s := ⟨pal[k]'(by omega), List.getElem?_eq_getElem _⟩
      obtain ⟨x0, x1, x2, x3⟩ := (hpc.keep (HZ.out.1.trans hK) fun _ _ e => e).shade k s hs
      rw [Nat.zero_add] at x0 x1 x2 x3
      have HS := Lib.hid (show (pal.take (k + 1)).map palDot = (pal.take k).map palDot ++ [palDot s] by rw [List.take_add_one, hs, List.map_append]; rfl)
      obtain ⟨r, hr⟩ : ∃ r, r = s.1.toNat := ⟨_, rfl⟩
      obtain ⟨gg, hgg⟩ : ∃ gg, gg = s.2.1.toNat := ⟨_, rfl⟩
      obtain ⟨bb, hbb⟩ : ∃ bb, bb = s.2.2.1.toNat := ⟨_, rfl⟩
      obtain ⟨aa, haa⟩ : ∃ aa, aa = s.2.2.2.toNat := ⟨_, rfl⟩
      rw [← hr] at x0
      rw [← hgg] at x1
      rw [← hbb] at x2
      rw [← haa] at x3
      have u0 : r < 256 := by rw [hr]; exact UInt8.toNat_lt _
      have u1 : gg < 256 := by rw [hgg]; exact UInt8.toNat_lt _
      have u2 : bb < 256 := by rw [hbb]; exact UInt8.toNat_lt _
      have u3 : aa < 256 := by rw [haa]; exact UInt8.toNat_lt _
      have HD := Lib.hid (show palDot s = (257 * r, 257 * gg, 257 * bb, 257 * aa) by rw [hr, hgg, hbb, haa]; rfl)
      subst hao
      have HO := Lib.hid (And.intro hO hK)
      have HK := Lib.hid ((Keep.refl Nil2 wr).alloc (.cells #[.int .u8 (r : Int), .int .u8 (gg : Int), .int .u8 (bb : Int), .int .u8 (aa : Int)] 39))
      clear hs hO hK hpc hpn hsl hr hgg hbb haa
      have hdc : [Value.int .i64 (257 * (r : Int)), .int .i64 (257 * (gg : Int)), .int .i64 (257 * (bb : Int)), .int .i64 (257 * (aa : Int))] = dotCell (palDot s) := by rw [HD.out]; simp [dotCell]
      have HDC := Lib.hid hdc
      clear hdc
      go_wp2_with (at_builtin; refine wpList_append_vals rfl (.tmp 44) (.tmp 62) 31 41 rfl _ 4 32 Tryz.underlying31 info41 rfl (by decide) (by decide) wz.heap.size (.slice (some ⟨g3, 0, none⟩) k cap3) k (dotsV ((pal.take k).map palDot)) rfl ((HO.out.1.keep0 HK.out).alloc _) _ 1 (dotCell (palDot s)) rfl (SrcV.litAt' _ _ 41 1 _ HDC.out (by simp)) rfl (dotCell_one _) (by omega) (by have := HO.out.2.size; simp; omega) ?_)
      intro v4 w8 h4 hk4 hv4
      have HF := Lib.hid (And.intro h4 (keep_layV' ((HO.out.2.trans HK.out).alloc _) ((HO.out.1.keep0 HK.out).alloc _) hk4))
      clear h4 hk4 hv4
      go_wp2
      go_roundg (g' - 1)
      case measure => have := HG.out; omega
      case rel =>
        obtain ⟨g5, cap5, h5, _⟩ := HF.out.1.out (by omega)
        exact ⟨k + 1, g' - 1, cap5, g5, rfl, by omega, by go_num, h5, by rw [HS.out, dotsV_snoc, List.map_take]; exact HF.out.1, HF.out.2⟩
    · obtain rfl : k = pn6 := by omega
      have d1 : decide ((k : Int) < (k : Int)) = false := by simp
      have HO := Lib.hid (And.intro hO hK)
      clear hO hK
      obtain ⟨q0, q1, q2, q3, q4, q5, q6, q7⟩ : wr.cell? ⟨bt, 0, none⟩ = some (.int .i64 (kd6 : Int)) ∧ wr.cell? ⟨bt, 1, none⟩ = some (.int .i64 0) ∧ wr.cell? ⟨bt, 2, none⟩ = some (.int .i64 0) ∧ wr.cell? ⟨bt, 3, none⟩ = some (.int .i64 (wd : Int)) ∧ wr.cell? ⟨bt, 4, none⟩ = some (.int .i64 (ht : Int)) ∧ wr.cell? ⟨bt, 5, none⟩ = some (.int .i64 (st6 : Int)) ∧ wr.cell? ⟨bt, 6, none⟩ = some (.slice (some ⟨g6, 0, none⟩) n6 cap6) ∧ wr.cell? ⟨bt, 7, none⟩ = some (.slice ao6 k pc6) := by
        have h := HZ.out.2.keep HO.out.2 fun _ _ e => e
        exact ⟨h 0 _ rfl, h 1 _ rfl, h 2 _ rfl, h 3 _ rfl, h 4 _ rfl, h 5 _ rfl, h 6 _ rfl, h 7 _ rfl⟩
      have k6r : Keep Nil2 w6 wr := HZ.out.1.trans HO.out.2
      have k5r : Keep Nil2 w5 wr := H6.out.2.2.2.2.1.trans k6r
      have k4r : Keep Nil2 w4 wr := H5.out.1.trans k5r
      have k3r : Keep Nil2 w3 wr := H4.out.2.2.trans k4r
      have KK := Lib.hid (And.intro k6r (And.intro k5r (And.intro k4r k3r)))
      have hpv : colour = 3 → ∃ plb plo pc', (Value.slice (some ⟨g3, 0, none⟩) k cap3) = .slice (some ⟨plb, plo, none⟩) pal.length pc' ∧ CellsAt wr plb plo (dotsV (pal.map palDot)) := by
        intro hc
        rcases H6.out.2.2.2.1 with ⟨h, _, _⟩ | ⟨_, h, _⟩
        · exact absurd hc h
        · refine ⟨g3, 0, cap3, by rw [h], ?_⟩
          rcases HO.out.1.slice with ⟨h', _⟩ | ⟨g4', cap4', h', _, _, _, hc', _⟩
          · cases h'
          · have eg : g3 = g4' := by injection h' with h1; injection h1 with h1; injection h1
            rw [eg]
            rw [List.take_of_length_le (by omega)] at hc'
            exact hc'
      have KPD := KD.out wr g6 0 cap6 n6 (by rw [H6.out.2.2.2.2.2.2.1, H6.out.2.2.2.2.2.1]) (H6.out.1.keep k6r fun _ _ e => e) H6.out.2.2.1 _ hpv
      rw [← H6.out.2.2.2.2.2.1, ← H6.out.2.2.2.2.2.2.2] at KPD
      have KPH := Lib.hid KPD
      clear k6r k5r k4r k3r hpv KPD
      go_wp2_with (go_at_call 8; fail)
      refine KPH.out.mono ?_
      rintro e w9 ⟨v9, rfl, hO9, hk9⟩
      rw [← HHW.out] at hO9
      have hw0 : 0 < hw := by rw [HHW.out]; exact Nat.mul_pos (by omega) (by omega)
      have hw1 : hw ≤ 100000 := by rw [HHW.out]; exact Nat.le_trans (Nat.mul_le_mul hht.2 hwd.2) (by decide)
      obtain ⟨g9, cap9, rfl, _, _, _, hc9, _⟩ := hO9.out hw0
      have k49 : Keep Nil2 w4 w9 := KK.out.2.2.1.trans hk9
      have KS9 := Lib.hid (specSame (w := w9) (dotsUp R wd depth colour pal hw) g9 0 cap9 g4 0 dcap hw (by simp [dotsUp]) hc9 (H4.out.1.keep k49 fun _ _ e => e) hw1)
      have h9 := H5.out.2.keep (KK.out.2.1.trans hk9) fun _ _ e => e
      have a5 : w9.cell? ⟨b9, 5, none⟩ = some (.slice (some ⟨g4, 0, none⟩) hw dcap) := h9 5 _ rfl
      have a9 : w9.cell? ⟨b9, 9, none⟩ = some (.int .i64 0) := h9 9 _ rfl
      have t3 := hk9.get q3 fun e => e
      have t4 := hk9.get q4 fun e => e
      have h7 := (H2.out.2.1.keep (H3.out.2.2.2.2.1) fun _ _ e => e).keep (KK.out.2.2.2.trans hk9) fun _ _ e => e
      have s3 : w9.cell? ⟨b7, 3, none⟩ = some (.int .i64 (wd : Int)) := h7 3 _ rfl
      have s4 : w9.cell? ⟨b7, 4, none⟩ = some (.int .i64 (ht : Int)) := h7 4 _ rfl
      have HW := Lib.hid (show Keep Nil2 w w9 from H3.out.2.2.2.2.2.trans (KK.out.2.2.2.trans hk9))
      clear hO9 hc9 k49 h9 h7 hk9 q0 q1 q2 q3 q4 q5 q6 q7
      go_wp2_with (go_at_call 9; fail)
      refine KS9.out.mono ?_
      rintro e w10 ⟨rfl, hk10⟩
      have HX := Lib.hid (HW.out.trans hk10)
      clear hk10
      go_wp2
      refine bodyPost_ret (v := .bool true) ?_ rfl ⟨rfl, HX.out⟩
      simp only [results, Tryz.f3]
      go_simp
end Go.Proofs.YtnbbppjgamdfeaaGreatDoor
end
