/- laws.FnBack, part 49 of 54: X0 X1. -/
import Derived.Test.YtnbbppjgamdfeaaGreatDoorY46
import Derived.Test.YtnbbppjgamdfeaaGreatDoorY47
import Derived.Test.YtnbbppjgamdfeaaGreatDoorY32
import Derived.Test.YtnbbppjgamdfeaaGreatDoorY31
import Derived.Test.YtnbbppjgamdfeaaGreatDoorY15

/- impl: pictureOf of whatever was decoded. -/
section
set_option linter.unusedVariables false
set_option linter.unusedSimpArgs false
namespace Go.Proofs.YtnbbppjgamdfeaaGreatDoor
open Go Go.RowKit

/-- A picture's palette slice. -/
def PalOut (w' : World) (base : Nat) (colour : Nat) (pal : List Shade4) (ao : Option Addr) (pn : Nat) : Prop := (colour ≠ 3 ∧ ao = none ∧ pn = 0) ∨ (colour = 3 ∧ pn = pal.length ∧ ∃ sg, ao = some ⟨sg, 0, none⟩ ∧ base ≤ sg ∧ CellsAt w' sg 0 (shadeCells pal))
theorem PalOut.keep {F : Nat → Nat → Prop} {w w' : World} {base : Nat} {colour : Nat} {pal : List Shade4} {ao : Option Addr} {pn : Nat} (h : PalOut w base colour pal ao pn) (hk : Keep F w w') (hF : ∀ x y, base ≤ x → ¬ F x y) : PalOut w' base colour pal ao pn := by
  rcases h with h | ⟨h, hn, sg, h1, h3, h2⟩
  · exact .inl h
  · exact .inr ⟨h, hn, sg, h1, h3, h2.keep hk fun _ _ => hF _ _ h3⟩
theorem PalOut.lower {w : World} {base base' : Nat} {colour : Nat} {pal : List Shade4} {ao : Option Addr} {pn : Nat} (h : PalOut w base colour pal ao pn) (hb : base' ≤ base) : PalOut w base' colour pal ao pn := by
  rcases h with h | ⟨h, hn, sg, h1, h3, h2⟩
  · exact .inl h
  · exact .inr ⟨h, hn, sg, h1, by omega, h2⟩
/-- The picture handed out. -/
def PicOut (w' : World) (base : Nat) (R : List UInt8) (wd ht depth colour : Nat) (pal : List Shade4) (v : Value) : Prop := ∃ g cap ao pn pc st n kd, st = kN colour depth * wd ∧ n = st * ht ∧ kd = kKind colour depth ∧ v = picV kd wd ht st g n cap (.slice ao pn pc) ∧ BytesAt w' g 0 (pixL R wd ht depth colour) ∧ base ≤ g ∧ n ≤ cap ∧ PalOut w' base colour pal ao pn

theorem implPictureOf {w0 w : World} {iv : Value} {R : List UInt8} {wd ht depth colour : Nat} {pal : List Shade4} (ok : RowsOk wd ht depth colour pal.length R) (hD : Decoded w0 w iv R wd ht depth colour pal) (hp : colour = 3 → pal.length ≤ 200) :
    Calls Tryz.prog 29 #[iv] w fun e w' => ∃ v, e = .returned v ∧ PicOut w' w.heap.size R wd ht depth colour pal v ∧ Keep Nil2 w w' := by
  obtain ⟨palv, ⟨ib, pb, rfl, hI, hP, h6, _, _⟩, h3⟩ := hD
  have hb := pixRows_bytes ok hP
  have hl := pixL_length R wd ht depth colour
  have hwh1 : wd * ht ≤ 3600 := Nat.le_trans (Nat.mul_le_mul ok.w60 ok.h60) (by decide)
  have hwh0 : 0 < wd * ht := Nat.mul_pos ok.w0 ok.h0
  have hn0 : 0 < kN colour depth * wd * ht := by rw [Nat.mul_assoc]; exact Nat.mul_pos (kN_pos _ _).1 hwh0
  have hk8 : kN colour depth ≤ 8 := by
    rcases ok.kind with ⟨rfl, rfl | rfl⟩ | ⟨rfl, rfl | rfl⟩ | ⟨rfl, rfl | rfl⟩ | ⟨rfl, rfl | rfl | rfl | rfl⟩ <;> decide
  have hn2 : kN colour depth * wd * ht ≤ 100000 := by rw [Nat.mul_assoc]; exact Nat.le_trans (Nat.mul_le_mul hk8 hwh1) (by decide)
  have six : ∀ k, (∃ t, kIf colour depth = t ∧ Calls Tryz.prog 29 #[.iface t (.pointer (some ⟨ib, 0, none⟩))] w fun e w' => ∃ g cap, e = .returned (picV k wd ht (kN colour depth * wd) g (kN colour depth * wd * ht) cap (.slice none 0 0)) ∧ BytesAt w' g 0 (pixL R wd ht depth colour) ∧ w.heap.size ≤ g ∧ kN colour depth * wd * ht ≤ cap ∧ Keep Nil2 w w') → k = kKind colour depth → colour ≠ 3 →
      Calls Tryz.prog 29 #[.iface (kIf colour depth) (.pointer (some ⟨ib, 0, none⟩))] w fun e w' => ∃ v, e = .returned v ∧ PicOut w' w.heap.size R wd ht depth colour pal v ∧ Keep Nil2 w w' := by
    rintro k ⟨t, ht, h⟩ hk hc
    rw [ht]
    refine h.mono ?_
    rintro e w' ⟨g, cap, rfl, hb', hg, hcap, hkk⟩
    exact ⟨_, rfl, ⟨g, cap, _, _, _, _, _, k, rfl, rfl, hk, rfl, hb', hg, hcap, .inl ⟨hc, rfl, rfl⟩⟩, hkk⟩
  have sev : colour = 3 → Calls Tryz.prog 29 #[.iface (kIf colour depth) (.pointer (some ⟨ib, 0, none⟩))] w fun e w' => ∃ v, e = .returned v ∧ PicOut w' w.heap.size R wd ht depth colour pal v ∧ Keep Nil2 w w' := by
    intro hc
    obtain ⟨plb, rfl, hPal, _⟩ := h3 hc
    have ht : kIf colour depth = 125 := by rw [hc]; rfl
    rw [ht]
    refine (implPic7 hI hb hl.symm hn0 hn2 (h6 hc) hPal ⟨(ok.cnt hc).1, hp hc⟩).mono ?_
    rintro e w' ⟨g, cap, sg, sc, rfl, hb', hs, hg, hcap, hsg, hkk⟩
    exact ⟨_, rfl, ⟨g, cap, _, _, _, _, _, 7, rfl, rfl, by rw [hc]; rfl, rfl, hb', hg, hcap, .inr ⟨hc, rfl, sg, rfl, hsg, hs⟩⟩, hkk⟩
  rcases ok.kind with ⟨rfl, rfl | rfl⟩ | ⟨rfl, rfl | rfl⟩ | ⟨rfl, rfl | rfl⟩ | ⟨hc, _⟩
  · exact six 1 ⟨107, rfl, implPic1 hI hb hl.symm hn0 hn2⟩ rfl (by decide)
  · exact six 2 ⟨115, rfl, implPic2 hI hb hl.symm hn0 hn2⟩ rfl (by decide)
  · exact six 3 ⟨117, rfl, implPic3 hI hb hl.symm hn0 hn2⟩ rfl (by decide)
  · exact six 4 ⟨119, rfl, implPic4 hI hb hl.symm hn0 hn2⟩ rfl (by decide)
  · exact six 5 ⟨121, rfl, implPic5 hI hb hl.symm hn0 hn2⟩ rfl (by decide)
  · exact six 6 ⟨123, rfl, implPic6 hI hb hl.symm hn0 hn2⟩ rfl (by decide)
  · exact sev hc

/-- Cells that a keeping does not touch are still there. -/
theorem HasN.keepF {F : Nat → Nat → Prop} {pb n : Nat} {w w' : World} (h : HasN pb n w) (hn : 0 < n) (hk : Keep F w w') (hF : ∀ j, ¬ F pb j) : HasN pb n w' := by
  obtain ⟨v, hv⟩ := h.1 0 hn
  exact ⟨fun j hj => by obtain ⟨u, hu⟩ := h.1 j hj; exact ⟨u, hk.get hu (hF j)⟩, fun j => hk.froz (World.block_lt_of_cell? w _ hv) (h.2 j) (hF j)⟩

set_option maxHeartbeats 2000000 in
set_option maxRecDepth 100000 in
theorem implDecoded {w : World} {rb db cap eb wd ht depth colour : Nat} {D R : List UInt8} {pal : List Shade4} (hbr : BR w rb db cap D 0) (htab : TabOk w) (heof : w.cell? ⟨0, 0, none⟩ = some (eofV eb)) (hn : rb ≠ 3 ∧ rb ≠ 0 ∧ db ≠ 0 ∧ db ≠ 3)
    (hD : D = fileB wd ht depth colour R pal) (hDl : D.length ≤ 1073741824) (ok : RowsOk wd ht depth colour pal.length R) (hp : colour = 3 → pal.length ≤ 200) :
    Calls Tryz.prog 16 #[.iface 59 (.pointer (some ⟨rb, 0, none⟩))] w fun e w' => ∃ v, e = .returned (.tuple #[v, .int .i64 0]) ∧ PicOut w' w.heap.size R wd ht depth colour pal v ∧ Keep (fun x _ => x = rb) w w' := by
  have hrb : rb < w.heap.size := World.block_lt_of_cell? w _ hbr.cs
  have KD := Lib.hid (fun V (hk : Keep Nil2 w V) => pngDecode (w := V) (hbr.keep hk (fun _ e => e) fun _ e => e) (htab.keep hk fun _ e => e) (hk.get heof fun e => e) hn hD hDl ok hp)
  have KP := Lib.hid (fun V0 V iv h => implPictureOf (w0 := V0) (w := V) (iv := iv) ok h hp)
  clear hbr htab heof hD ok
  go_enter Tryz.func16, Tryz.ntmps16
  go_wp2_with (go_at_call 27; fail)
  obtain ⟨w1, hw1⟩ : ∃ w1, w1 = w.alloc (.cells #[.int .i64 0, .int .i64 0, .int .i64 0, .int .i64 0, .int .i64 0, .int .i64 0, .slice none 0 0, .slice none 0 0] 26) := ⟨_, rfl⟩
  have hk1 : Keep Nil2 w w1 := by rw [hw1]; exact (Keep.refl Nil2 w).alloc _
  have hN1 : HasN w.heap.size 8 w1 := by rw [hw1]; exact hasN_alloc w _ 26 8 rfl
  have hs1 : w1.heap.size = w.heap.size + 1 := by rw [hw1]; simp
  rw [← hw1]
  obtain ⟨tb, htb⟩ : ∃ tb, tb = w.heap.size := ⟨_, rfl⟩
  rw [← htb] at hN1 hs1 hrb
  rw [← htb]
  have H1 := Lib.hid (And.intro hk1 (And.intro hN1 (And.intro hs1 htb)))
  clear hw1 hN1 hs1 htb
  refine (KD.out w1 hk1).mono ?_
  rintro e w2 ⟨iv, rfl, hDec, hk2⟩
  have H2 := Lib.hid (And.intro hDec hk2)
  clear hDec hk2 hk1
  go_wp2_with (go_at_call 29; fail)
  refine (KP.out _ _ _ H2.out.1).mono ?_
  rintro e w3 ⟨v, rfl, ⟨g, cap', ao, pn, pc, st, n, kd, hst, hnn, hkd, rfl, hbg, hgb, hcap, hpo⟩, hk3⟩
  have hN3 : HasN tb 8 w3 := (H1.out.2.1.keepF (by omega) H2.out.2 fun _ e => by omega).keep (by omega) hk3
  obtain ⟨v0, v1, v2, v3, v4, v5, v6, v7, t0, t1, t2, t3, t4, t5, t6, t7⟩ := hN3.eight
  have htf := hN3.2
  have H3 := Lib.hid (And.intro hN3 (And.intro hbg (And.intro (And.intro hgb hcap) (And.intro hpo (And.intro hk3 (And.intro hst (And.intro hnn hkd)))))))
  clear hN3 hbg hgb hcap hpo hk3 hst hnn hkd
  unfold picV
  go_wp2
  obtain ⟨wf, hwf⟩ : ∃ wf, wf = ((((((((w3.setCell ⟨tb, 0, none⟩ (.int .i64 (kd : Int))).setCell ⟨tb, 1, none⟩ (.int .i64 0)).setCell ⟨tb, 2, none⟩ (.int .i64 0)).setCell ⟨tb, 3, none⟩ (.int .i64 (wd : Int))).setCell ⟨tb, 4, none⟩ (.int .i64 (ht : Int))).setCell ⟨tb, 5, none⟩ (.int .i64 (st : Int))).setCell ⟨tb, 6, none⟩ (.slice (some ⟨g, 0, none⟩) n cap')).setCell ⟨tb, 7, none⟩ (.slice ao pn pc)) := ⟨_, rfl⟩
  obtain ⟨y0, y1, y2, y3, y4, y5, y6, y7, hkf⟩ := eightSet H3.out.1 _ _ _ _ _ _ _ _ hwf
  rw [← hwf]
  have HF := Lib.hid hkf
  clear hwf hkf t0 t1 t2 t3 t4 t5 t6 t7 htf
  refine bodyPost_ret (v := .tuple #[picV kd wd ht st g n cap' (.slice ao pn pc), .int .i64 0]) ?_ rfl ?_
  · unfold picV
    simp only [results, Tryz.f16]
    go_simp
  · obtain ⟨hN3, hbg, ⟨hgb, hcap⟩, hpo, hk3, hst, hnn, hkd⟩ := H3.out
    obtain ⟨hk1, hN1, hs1, htb⟩ := H1.out
    obtain ⟨hDec, hk2⟩ := H2.out
    have hz := hk2.size
    have htg : tb ≠ g := by omega
    refine ⟨_, rfl, ⟨g, cap', ao, pn, pc, st, n, kd, hst, hnn, hkd, rfl, hbg.keep HF.out fun _ _ e => htg e.symm, by omega, hcap, ?_⟩, ?_⟩
    · exact (hpo.keep HF.out fun x _ hx e => by omega).lower (by omega)
    · exact ((hk1.then hk2 (fun _ _ _ e => e.elim) fun _ _ _ e => e).then hk3 (fun _ _ _ e => e) fun _ _ _ e => e.elim).then HF.out (fun _ _ _ e => e) fun i _ hi e => by omega
end Go.Proofs.YtnbbppjgamdfeaaGreatDoor
end

/- impl: Decode. -/
section
set_option linter.unusedVariables false
set_option linter.unusedSimpArgs false
namespace Go.Proofs.YtnbbppjgamdfeaaGreatDoor
open Go Go.RowKit

set_option maxHeartbeats 2000000 in
set_option maxRecDepth 100000 in
theorem implDecode {w : World} {eb wd ht depth colour : Nat} {D R : List UInt8} {pal : List Shade4} (b o n c : Nat) (hb : BytesAt w b o D) (hn : n = D.length) (htab : TabOk w) (heof : w.cell? ⟨0, 0, none⟩ = some (eofV eb))
    (hD : D = fileB wd ht depth colour R pal) (hD0 : 0 < n) (hDl : n ≤ 1000000) (ok : RowsOk wd ht depth colour pal.length R) (hp : colour = 3 → pal.length ≤ 200) :
    Calls Tryz.prog 7 #[.slice (some ⟨b, o, none⟩) n c] w fun e w' => ∃ v, e = .returned (.tuple #[v, .int .i64 0]) ∧ PicOut w' w.heap.size R wd ht depth colour pal v ∧ Keep Nil2 w w' := by
  have h3 : 3 < w.heap.size := World.block_lt_of_cell? w _ (htab 0 (by omega))
  have KC := Lib.hid (fun V (hk : Keep Nil2 w V) => slicesClone (w := V) D b o n c hn (hb.keep hk fun _ _ e => e) (by omega))
  have KD := Lib.hid (fun V rb db cap (hbr : BR V rb db cap D 0) (hk : Keep Nil2 w V) (hn : rb ≠ 3 ∧ rb ≠ 0 ∧ db ≠ 0 ∧ db ≠ 3) => implDecoded (w := V) hbr (htab.keep hk fun _ e => e) (hk.get heof fun e => e) hn hD (by omega) ok hp)
  have HN := Lib.hid hn
  clear hb htab heof hD ok hn
  go_enter Tryz.func7, Tryz.ntmps7
  go_wp2_with (go_at_call 18; fail)
  obtain ⟨w1, hw1⟩ : ∃ w1, w1 = w.alloc (.cells #[.int .i64 0, .int .i64 0, .int .i64 0, .int .i64 0, .int .i64 0, .int .i64 0, .slice none 0 0, .slice none 0 0] 26) := ⟨_, rfl⟩
  have hk1 : Keep Nil2 w w1 := by rw [hw1]; exact (Keep.refl Nil2 w).alloc _
  have hN1 : HasN w.heap.size 8 w1 := by rw [hw1]; exact hasN_alloc w _ 26 8 rfl
  have hs1 : w1.heap.size = w.heap.size + 1 := by rw [hw1]; simp
  rw [← hw1]
  obtain ⟨tb, htb⟩ : ∃ tb, tb = w.heap.size := ⟨_, rfl⟩
  rw [← htb] at hN1 hs1 h3
  rw [← htb]
  have H1 := Lib.hid (And.intro hk1 (And.intro hN1 (And.intro hs1 htb)))
  clear hw1 hN1 htb
  refine (KC.out w1 hk1).mono ?_
  rintro e w2 ⟨v2, rfl, hO2, hk2⟩
  obtain ⟨db, cap, rfl, hd1, hd2, _, hd5, _, hd6, _⟩ := hO2.slice (by rw [← HN.out]; exact hD0)
  have H2 := Lib.hid (And.intro hk2 (And.intro hd5 (And.intro hd2 hd6)))
  clear hO2 hk2 hk1 hd5 hd2 hd6
  go_wp2_with (go_at_call 17; fail)
  refine (newReader D db cap H2.out.2.1 (by rw [← HN.out]; exact hD0) (by rw [← HN.out]; omega) H2.out.2.2.1).mono ?_
  rintro e w3 ⟨rfl, hbr, hk3⟩
  obtain ⟨rb, hrb⟩ : ∃ rb, rb = w2.heap.size := ⟨_, rfl⟩
  rw [← hrb] at hbr
  rw [← hrb]
  have hsz2 := H2.out.1.size
  have hr1 : w1.heap.size ≤ rb := by omega
  have H3 := Lib.hid (And.intro hbr hk3)
  clear hbr hk3 hrb hsz2
  go_wp2_with (go_at_call 16; fail)
  refine (KD.out w3 rb db cap H3.out.1 ((H1.out.1.trans H2.out.1).trans H3.out.2) ⟨by omega, by omega, by omega, by omega⟩).mono ?_
  rintro e w4 ⟨v, rfl, ⟨g, cap', ao, pn, pc, st, n', kd, hst, hnn, hkd, rfl, hbg, hgb, hcap, hpo⟩, hk4⟩
  have hN4 : HasN tb 8 w4 := ((H1.out.2.1.keep (by omega) H2.out.1).keep (by omega) H3.out.2).keepF (by omega) hk4 fun _ e => by omega
  obtain ⟨v0, v1, v2, v3, v4, v5, v6, v7, t0, t1, t2, t3, t4, t5, t6, t7⟩ := hN4.eight
  have htf := hN4.2
  have H4 := Lib.hid (And.intro hN4 (And.intro hbg (And.intro (And.intro hgb hcap) (And.intro hpo (And.intro hk4 (And.intro hst (And.intro hnn hkd)))))))
  clear hN4 hbg hgb hcap hpo hk4 hst hnn hkd
  unfold picV
  go_wp2
  obtain ⟨wf, hwf⟩ : ∃ wf, wf = ((((((((w4.setCell ⟨tb, 0, none⟩ (.int .i64 (kd : Int))).setCell ⟨tb, 1, none⟩ (.int .i64 0)).setCell ⟨tb, 2, none⟩ (.int .i64 0)).setCell ⟨tb, 3, none⟩ (.int .i64 (wd : Int))).setCell ⟨tb, 4, none⟩ (.int .i64 (ht : Int))).setCell ⟨tb, 5, none⟩ (.int .i64 (st : Int))).setCell ⟨tb, 6, none⟩ (.slice (some ⟨g, 0, none⟩) n' cap')).setCell ⟨tb, 7, none⟩ (.slice ao pn pc)) := ⟨_, rfl⟩
  obtain ⟨y0, y1, y2, y3, y4, y5, y6, y7, hkf⟩ := eightSet H4.out.1 _ _ _ _ _ _ _ _ hwf
  rw [← hwf]
  have HF := Lib.hid hkf
  clear hwf hkf t0 t1 t2 t3 t4 t5 t6 t7 htf
  refine bodyPost_ret (v := .tuple #[picV kd wd ht st g n' cap' (.slice ao pn pc), .int .i64 0]) ?_ rfl ?_
  · unfold picV
    simp only [results, Tryz.f7]
    go_simp
  · obtain ⟨hN4, hbg, ⟨hgb, hcap⟩, hpo, hk4, hst, hnn, hkd⟩ := H4.out
    obtain ⟨hk1, hN1, hs1, htb⟩ := H1.out
    have z2 := H2.out.1.size
    have z3 := H3.out.2.size
    have htg : tb ≠ g := by omega
    have k3 : Keep Nil2 w w3 := (hk1.trans H2.out.1).trans H3.out.2
    refine ⟨_, rfl, ⟨g, cap', ao, pn, pc, st, n', kd, hst, hnn, hkd, rfl, hbg.keep HF.out fun _ _ e => htg e.symm, by omega, hcap, ?_⟩, ?_⟩
    · exact (hpo.keep HF.out fun x _ hx e => by omega).lower (by omega)
    · exact (k3.then hk4 (fun _ _ _ e => e) fun i _ hi e => by omega).then HF.out (fun _ _ _ e => e) fun i _ hi e => by omega
end Go.Proofs.YtnbbppjgamdfeaaGreatDoor
end
