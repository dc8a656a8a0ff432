/- laws.FnBack, part 30 of 54: G9. -/
import Derived.Test.YtnbbppjgamdfeaaGreatDoorY29

/- The decoder of package png: parseChunk, chunk by chunk (printed by gen_g9.py). -/
section
set_option linter.unusedVariables false
set_option linter.unusedSimpArgs false
namespace Go.Proofs.YtnbbppjgamdfeaaGreatDoor
open Go Go.RowKit

theorem kCb_not {wd ht depth colour count : Nat} {R : List UInt8} (ok : RowsOk wd ht depth colour count R) (hc : colour ≠ 3) : (kCb colour depth : Int) = 4 ∨ (kCb colour depth : Int) = 12 ∨ (kCb colour depth : Int) = 6 ∨ (kCb colour depth : Int) = 14 ∨ (kCb colour depth : Int) = 11 ∨ (kCb colour depth : Int) = 15 := by
  rcases ok.kind with ⟨rfl, rfl | rfl⟩ | ⟨rfl, rfl | rfl⟩ | ⟨rfl, rfl | rfl⟩ | ⟨rfl, _⟩
  all_goals first | (exfalso; exact hc rfl) | decide
/-- The sum over a chunk's name. -/
def nameRun (n : List UInt8) : Nat := crcRun 4294967295 n
theorem chunk_sum {D : List UInt8} {i : Nat} {n dt : List UInt8} {cs : List Chunk2} (h : ChunkAt D i n dt cs) :
    ∃ x0 x1 x2 x3, (D.drop (i + 8 + dt.length)).take 4 = [x0, x1, x2, x3] ∧ be4 x0 x1 x2 x3 = 4294967295 - crcRun (nameRun n) dt :=
  ⟨_, _, _, _, h.sum, by rw [be4_four _ (crcOf_lt _)]; unfold crcOf nameRun; rw [crcRun_append]⟩
theorem chunk_head {D : List UInt8} {i : Nat} {n dt : List UInt8} {cs : List Chunk2} (h : ChunkAt D i n dt cs) : (D.drop i).take 8 = four dt.length ++ n := by
  have := h.le
  rw [show 8 = 4 + 4 from rfl, List.take_add, h.size, List.drop_drop, h.name]

set_option maxHeartbeats 8000000 in
set_option maxRecDepth 100000 in
theorem pcIHDR {w : World} {bd rb cb db cap : Nat} {D : List UInt8} {d : Dv} {i c : Nat} {cs : List Chunk2} {wide high depth colour : Nat} (h : Png w bd rb cb db cap D d i c) (hst : d.stage = 0) (hch : ChunkAt D i nIHDR (headB wide high depth colour) cs) (hD : D.length ≤ 1073741824) (hw : 0 < wide ∧ wide ≤ 60) (hh2 : 0 < high ∧ high ≤ 60)
    (hk : (colour = 0 ∧ (depth = 8 ∨ depth = 16)) ∨ (colour = 2 ∧ (depth = 8 ∨ depth = 16)) ∨ (colour = 6 ∧ (depth = 8 ∨ depth = 16)) ∨ (colour = 3 ∧ (depth = 1 ∨ depth = 2 ∨ depth = 4 ∨ depth = 8))) :
    Calls Tryz.prog 41 #[.pointer (some ⟨bd, 0, none⟩), .bool false] w fun e w' => e = .returned .nilIface ∧ Png w' bd rb cb db cap D { d with width := (wide : Int), height := (high : Int), depth := (depth : Int), cb := (kCb' colour depth : Int), lace := 0, stage := 1 } (i + 25) (crcRun (nameRun nIHDR) (headB wide high depth colour)) ∧ Keep (Fp bd rb cb) w w' := by
  have hle := hch.le
  have hh := chunk_head hch
  obtain ⟨x0, x1, x2, x3, hx, hs⟩ := chunk_sum hch
  obtain ⟨L, hL⟩ : ∃ L, L = (headB wide high depth colour).length := ⟨_, rfl⟩
  have hLl : L ≤ 1073741824 := by omega
  rw [← hL] at hle hh hx
  have hdt := hch.data
  rw [← hL] at hdt
  have HX := Lib.hid (And.intro hx (And.intro hs hdt))
  have HL := Lib.hid hL
  clear hx hs hL hdt
  have hc0 := h.dec.f0
  go_enter Tryz.func41, Tryz.ntmps41
  go_wp2
  go_region_with (refine (readTmp (h.drewN 1) 8 768 (by omega) (by omega) (by omega)).mono ?_; rintro e w1 ⟨rfl, h1, hb1, hk1⟩)
  rw [hh] at hb1
  have hc2 := h1.dec.f2
  have HK1 := Lib.hid (show Keep (Fp bd rb cb) w w1 from (Keep.refl _ _).drew.trans hk1)
  have HB1 := Lib.hid hb1
  clear hk1 hc0
  go_wp2_with (go_at_call 54; fail)
  refine (beUint32 (x0 := b8 (L / 16777216)) (x1 := b8 (L / 65536)) (x2 := b8 (L / 256)) (x3 := b8 L) bd 10 4 768 (by omega) (hb1.take 4)).mono ?_
  rintro e w2 ⟨rfl, k2, hw2⟩
  rw [be4_four L (by omega)]
  have H2 := Lib.hid (show Png w2 bd rb cb db cap D d (i + 8) c ∧ BytesAt w2 bd 10 (four L ++ nIHDR) ∧ Keep (Fp bd rb cb) w w2 by
    rw [hw2]; exact ⟨h1.drewN k2, hb1.drewN k2, HK1.out.drewN k2⟩)
  have g2 := H2.out.1.dec.f2
  clear hw2 h1 hb1 hc2 hh
  go_wp2_with (go_at_call 55; fail)
  refine (crcReset H2.out.1.crc).mono ?_
  rintro e w3 ⟨rfl, hcs3, hk3⟩
  have h3 := H2.out.1.ofCrc hcs3 hk3
  have hb3 := H2.out.2.1.keep hk3 fun _ _ e => h3.a2 e.1
  have HK3 := Lib.hid (H2.out.2.2.trans (hk3.mono fun _ _ _ e => .inr (.inr e.1)))
  have q2 := h3.dec.f2
  have hwr := crcWrite (h3.drewN 1).crc (h3.drewN 1).tab nIHDR bd 14 4 764 rfl ((hb3.drop 4).drewN 1) (by decide) h3.a8
  have HB3 := Lib.hid hb3
  clear hcs3 hk3 g2
  go_wp2
  go_region_with (refine hwr.mono ?_; rintro e w4 ⟨rfl, hcs4, hk4⟩)
  have h4 := (h3.drewN 1).ofCrc hcs4 hk4
  have hb4 : BytesAt w4 bd 14 nIHDR := ((HB3.out.drop 4).drewN 1).keep hk4 fun _ _ e => h4.a2 e.1
  have hstr := strOf 9 Tryz.underlying9 (c := 764) hb4 (n := 4) rfl
  have f8 := h4.dec.f8
  have f7 := h4.dec.f7
  have fz := h4.dec.fz
  simp only [hst] at f8
  have H4 := Lib.hid (show Png w4 bd rb cb db cap D d (i + 8) (nameRun nIHDR) ∧ Keep (Fp bd rb cb) w w4 from ⟨h4, (HK3.out.drewN 1).trans (hk4.mono fun _ _ _ e => .inr (.inr e.1))⟩)
  have HST := Lib.hid hst
  clear hwr hcs4 hk4 h3 hb3 q2 h4 hb4 hst h
  have hL0 : L = 13 := HL.out
  have hL0I : (L : Int) = 13 := by omega
  have hse : strB nIHDR = { data := #[73, 72, 68, 82] } := rfl
  rw [hse] at hstr
  go_wp2_with (go_at_call 57; fail)
  have H5 := Lib.hid (And.intro (H4.out.1.set (H4.out.1.dec.set8 1)) (H4.out.2.setCell (o := 8) (.int .i64 1) fun _ => .inl rfl))
  have hL13 : L = 13 := HL.out
  subst hL13
  refine (parseIHDR H5.out.1 (by omega) hw hh2 hk HX.out.2.2 HX.out.1 HX.out.2.1).mono ?_
  rintro e w6 ⟨rfl, h6, hk6⟩
  have H6 := Lib.hid (And.intro h6 (H5.out.2.trans hk6))
  clear h6 hk6
  go_wp2
  go_ret
  exact ⟨rfl, H6.out.1, H6.out.2⟩
set_option maxHeartbeats 400000 in
theorem cbPal (w : World) (q : Int) (hq : q = 7 ∨ q = 8 ∨ q = 9 ∨ q = 10) : Calls Tryz.prog 59 #[.int .i64 q] w fun e w' => e = .returned (.bool true) ∧ w = w' := by
  rcases hq with rfl | rfl | rfl | rfl
  all_goals
    go_enter Tryz.func59, Tryz.ntmps59
    go_wp2
    go_ret
    exact ⟨rfl, rfl⟩
set_option maxHeartbeats 400000 in
theorem cbNotPal (w : World) (q : Int) (hq : q = 4 ∨ q = 12 ∨ q = 6 ∨ q = 14 ∨ q = 11 ∨ q = 15) : Calls Tryz.prog 59 #[.int .i64 q] w fun e w' => e = .returned (.bool false) ∧ w = w' := by
  rcases hq with rfl | rfl | rfl | rfl | rfl | rfl
  all_goals
    go_enter Tryz.func59, Tryz.ntmps59
    go_wp2
    go_ret
    exact ⟨rfl, rfl⟩

set_option maxHeartbeats 8000000 in
set_option maxRecDepth 100000 in
theorem pcPLTE {w : World} {bd rb cb db cap : Nat} {D : List UInt8} {d : Dv} {i c : Nat} {cs : List Chunk2} {np depth : Nat} {pal : List Shade4} (h : Png w bd rb cb db cap D d i c) (hst : d.stage = 1) (hch : ChunkAt D i nPLTE (shadesB pal) cs) (hD : D.length ≤ 1073741824) (hnp : np = pal.length) (hp : 0 < np ∧ np ≤ 200) (hdd : d.depth = (depth : Int)) (hdep : (depth = 1 ∨ depth = 2 ∨ depth = 4 ∨ depth = 8) ∧ np ≤ 2 ^ depth) (hcb : d.cb = 7 ∨ d.cb = 8 ∨ d.cb = 9 ∨ d.cb = 10) :
    Calls Tryz.prog 41 #[.pointer (some ⟨bd, 0, none⟩), .bool false] w fun e w' => e = .returned .nilIface ∧ ∃ pb, Png w' bd rb cb db cap D { d with pal := .slice (some ⟨pb, 0, none⟩) np 256, stage := 2 } (i + 8 + 3 * np + 4) (crcRun (nameRun nPLTE) (shadesB pal)) ∧ PalAt w' pb pal 0 ∧ w.heap.size ≤ pb ∧ Keep (Fp bd rb cb) w w' := by
  have hle := hch.le
  have hh := chunk_head hch
  obtain ⟨x0, x1, x2, x3, hx, hs⟩ := chunk_sum hch
  obtain ⟨L, hL⟩ : ∃ L, L = (shadesB pal).length := ⟨_, rfl⟩
  have hLl : L ≤ 1073741824 := by omega
  rw [← hL] at hle hh hx
  have hdt := hch.data
  rw [← hL] at hdt
  have HX := Lib.hid (And.intro hx (And.intro hs hdt))
  have HL := Lib.hid hL
  clear hx hs hL hdt
  have hc0 := h.dec.f0
  go_enter Tryz.func41, Tryz.ntmps41
  go_wp2
  go_region_with (refine (readTmp (h.drewN 1) 8 768 (by omega) (by omega) (by omega)).mono ?_; rintro e w1 ⟨rfl, h1, hb1, hk1⟩)
  rw [hh] at hb1
  have hc2 := h1.dec.f2
  have HK1 := Lib.hid (show Keep (Fp bd rb cb) w w1 from (Keep.refl _ _).drew.trans hk1)
  have HB1 := Lib.hid hb1
  clear hk1 hc0
  go_wp2_with (go_at_call 54; fail)
  refine (beUint32 (x0 := b8 (L / 16777216)) (x1 := b8 (L / 65536)) (x2 := b8 (L / 256)) (x3 := b8 L) bd 10 4 768 (by omega) (hb1.take 4)).mono ?_
  rintro e w2 ⟨rfl, k2, hw2⟩
  rw [be4_four L (by omega)]
  have H2 := Lib.hid (show Png w2 bd rb cb db cap D d (i + 8) c ∧ BytesAt w2 bd 10 (four L ++ nPLTE) ∧ Keep (Fp bd rb cb) w w2 by
    rw [hw2]; exact ⟨h1.drewN k2, hb1.drewN k2, HK1.out.drewN k2⟩)
  have g2 := H2.out.1.dec.f2
  clear hw2 h1 hb1 hc2 hh
  go_wp2_with (go_at_call 55; fail)
  refine (crcReset H2.out.1.crc).mono ?_
  rintro e w3 ⟨rfl, hcs3, hk3⟩
  have h3 := H2.out.1.ofCrc hcs3 hk3
  have hb3 := H2.out.2.1.keep hk3 fun _ _ e => h3.a2 e.1
  have HK3 := Lib.hid (H2.out.2.2.trans (hk3.mono fun _ _ _ e => .inr (.inr e.1)))
  have q2 := h3.dec.f2
  have hwr := crcWrite (h3.drewN 1).crc (h3.drewN 1).tab nPLTE bd 14 4 764 rfl ((hb3.drop 4).drewN 1) (by decide) h3.a8
  have HB3 := Lib.hid hb3
  clear hcs3 hk3 g2
  go_wp2
  go_region_with (refine hwr.mono ?_; rintro e w4 ⟨rfl, hcs4, hk4⟩)
  have h4 := (h3.drewN 1).ofCrc hcs4 hk4
  have hb4 : BytesAt w4 bd 14 nPLTE := ((HB3.out.drop 4).drewN 1).keep hk4 fun _ _ e => h4.a2 e.1
  have hstr := strOf 9 Tryz.underlying9 (c := 764) hb4 (n := 4) rfl
  have f8 := h4.dec.f8
  have f7 := h4.dec.f7
  have fz := h4.dec.fz
  simp only [hst] at f8
  have H4 := Lib.hid (show Png w4 bd rb cb db cap D d (i + 8) (nameRun nPLTE) ∧ Keep (Fp bd rb cb) w w4 from ⟨h4, (HK3.out.drewN 1).trans (hk4.mono fun _ _ _ e => .inr (.inr e.1))⟩)
  have HST := Lib.hid hst
  clear hwr hcs4 hk4 h3 hb3 q2 h4 hb4 hst h
  have hLb : L ≤ 600 := by rw [HL.out, shadesB_length]; omega
  have hse : strB nPLTE = { data := #[80, 76, 84, 69] } := rfl
  rw [hse] at hstr
  go_wp2_with (go_at_call 58; fail)
  have H5 := Lib.hid (And.intro (H4.out.1.set (H4.out.1.dec.set8 2)) (H4.out.2.setCell (o := 8) (.int .i64 2) fun _ => .inl rfl))
  have hL3 : L = 3 * np := by rw [HL.out, shadesB_length, hnp]
  subst hL3
  refine (parsePLTE (depth := depth) H5.out.1 hnp (by omega) hp hdd hdep hcb HX.out.2.2 HX.out.1 HX.out.2.1).mono ?_
  rintro e w6 ⟨rfl, pb, h6, hpa, hpb, hk6⟩
  have H6 := Lib.hid (And.intro h6 (And.intro hpa (And.intro (Nat.le_trans H5.out.2.size hpb) (H5.out.2.trans hk6))))
  clear h6 hk6 hpa hpb
  go_wp2
  go_ret
  exact ⟨rfl, pb, H6.out.1, H6.out.2.1, H6.out.2.2.1, H6.out.2.2.2⟩
set_option maxHeartbeats 8000000 in
set_option maxRecDepth 100000 in
theorem pctRNS {w : World} {bd rb cb db cap : Nat} {D : List UInt8} {d : Dv} {i c : Nat} {cs : List Chunk2} {np m pb : Nat} {pal : List Shade4} (h : Png w bd rb cb db cap D d i c) (hst : d.stage = 2) (hch : ChunkAt D i ntRNS ((clearsB pal).take m) cs) (hD : D.length ≤ 1073741824) (hnp : np = pal.length) (hm : 0 < m ∧ m ≤ np) (hp : np ≤ 200) (hcb : d.cb = 7 ∨ d.cb = 8 ∨ d.cb = 9 ∨ d.cb = 10) (hpl : d.pal = .slice (some ⟨pb, 0, none⟩) np 256) (hP : PalAt w pb pal 0) (hne : PalNe bd rb cb db pb) :
    Calls Tryz.prog 41 #[.pointer (some ⟨bd, 0, none⟩), .bool false] w fun e w' => e = .returned .nilIface ∧ Png w' bd rb cb db cap D { d with stage := 3 } (i + 8 + m + 4) (crcRun (nameRun ntRNS) ((clearsB pal).take m)) ∧ PalAt w' pb pal m ∧ Keep (fun x y => Fp bd rb cb x y ∨ x = pb) w w' := by
  have hle := hch.le
  have hh := chunk_head hch
  obtain ⟨x0, x1, x2, x3, hx, hs⟩ := chunk_sum hch
  obtain ⟨L, hL⟩ : ∃ L, L = ((clearsB pal).take m).length := ⟨_, rfl⟩
  have hLl : L ≤ 1073741824 := by omega
  rw [← hL] at hle hh hx
  have hdt := hch.data
  rw [← hL] at hdt
  have HX := Lib.hid (And.intro hx (And.intro hs hdt))
  have HL := Lib.hid hL
  clear hx hs hL hdt
  have hc0 := h.dec.f0
  go_enter Tryz.func41, Tryz.ntmps41
  go_wp2
  go_region_with (refine (readTmp (h.drewN 1) 8 768 (by omega) (by omega) (by omega)).mono ?_; rintro e w1 ⟨rfl, h1, hb1, hk1⟩)
  rw [hh] at hb1
  have hc2 := h1.dec.f2
  have HK1 := Lib.hid (show Keep (Fp bd rb cb) w w1 from (Keep.refl _ _).drew.trans hk1)
  have HB1 := Lib.hid hb1
  clear hk1 hc0
  go_wp2_with (go_at_call 54; fail)
  refine (beUint32 (x0 := b8 (L / 16777216)) (x1 := b8 (L / 65536)) (x2 := b8 (L / 256)) (x3 := b8 L) bd 10 4 768 (by omega) (hb1.take 4)).mono ?_
  rintro e w2 ⟨rfl, k2, hw2⟩
  rw [be4_four L (by omega)]
  have H2 := Lib.hid (show Png w2 bd rb cb db cap D d (i + 8) c ∧ BytesAt w2 bd 10 (four L ++ ntRNS) ∧ Keep (Fp bd rb cb) w w2 by
    rw [hw2]; exact ⟨h1.drewN k2, hb1.drewN k2, HK1.out.drewN k2⟩)
  have g2 := H2.out.1.dec.f2
  clear hw2 h1 hb1 hc2 hh
  go_wp2_with (go_at_call 55; fail)
  refine (crcReset H2.out.1.crc).mono ?_
  rintro e w3 ⟨rfl, hcs3, hk3⟩
  have h3 := H2.out.1.ofCrc hcs3 hk3
  have hb3 := H2.out.2.1.keep hk3 fun _ _ e => h3.a2 e.1
  have HK3 := Lib.hid (H2.out.2.2.trans (hk3.mono fun _ _ _ e => .inr (.inr e.1)))
  have q2 := h3.dec.f2
  have hwr := crcWrite (h3.drewN 1).crc (h3.drewN 1).tab ntRNS bd 14 4 764 rfl ((hb3.drop 4).drewN 1) (by decide) h3.a8
  have HB3 := Lib.hid hb3
  clear hcs3 hk3 g2
  go_wp2
  go_region_with (refine hwr.mono ?_; rintro e w4 ⟨rfl, hcs4, hk4⟩)
  have h4 := (h3.drewN 1).ofCrc hcs4 hk4
  have hb4 : BytesAt w4 bd 14 ntRNS := ((HB3.out.drop 4).drewN 1).keep hk4 fun _ _ e => h4.a2 e.1
  have hstr := strOf 9 Tryz.underlying9 (c := 764) hb4 (n := 4) rfl
  have f8 := h4.dec.f8
  have f7 := h4.dec.f7
  have fz := h4.dec.fz
  simp only [hst] at f8
  have H4 := Lib.hid (show Png w4 bd rb cb db cap D d (i + 8) (nameRun ntRNS) ∧ Keep (Fp bd rb cb) w w4 from ⟨h4, (HK3.out.drewN 1).trans (hk4.mono fun _ _ _ e => .inr (.inr e.1))⟩)
  have HST := Lib.hid hst
  clear hwr hcs4 hk4 h3 hb3 q2 h4 hb4 hst h
  have HCB := Lib.hid hcb
  have hLm0 : L = m := by rw [HL.out, List.length_take]; simp [clearsB]; omega
  clear hLm0
  have hse : strB ntRNS = { data := #[116, 82, 78, 83] } := rfl
  rw [hse] at hstr
  go_wp2_with (go_at_call 59; fail)
  refine (cbPal _ _ HCB.out).mono ?_
  rintro e w5 ⟨rfl, rfl⟩
  go_wp2_with (go_at_call 61; fail)
  have H5 := Lib.hid (And.intro (H4.out.1.set (H4.out.1.dec.set8 3)) (H4.out.2.setCell (o := 8) (.int .i64 3) fun _ => .inl rfl))
  have hLm : L = m := by rw [HL.out, List.length_take]; simp [clearsB]; omega
  subst hLm
  have hk45 : Keep (Fp bd rb cb) w (w4.setCell ⟨bd, 8, none⟩ (.int .i64 3)) := H5.out.2
  refine (parsetRNS (cl := (clearsB pal).take L) H5.out.1 hnp (by omega) hm hp rfl HCB.out hpl (hP.keep hk45 fun j e => e.elim hne.n1 fun e => e.elim hne.n2 hne.n3) hne HX.out.2.2 HX.out.1 HX.out.2.1).mono ?_
  rintro e w6 ⟨rfl, h6, hpa, hk6⟩
  have H6 := Lib.hid (And.intro h6 (And.intro hpa ((hk45.mono fun _ _ _ e => Or.inl e).trans hk6)))
  clear h6 hk6 hpa
  go_wp2
  go_ret
  exact ⟨rfl, H6.out.1, H6.out.2.1, H6.out.2.2⟩
set_option maxHeartbeats 8000000 in
set_option maxRecDepth 100000 in
theorem pcIDAT1 {w : World} {bd rb cb db cap : Nat} {D : List UInt8} {d : Dv} {i c : Nat} {cs : List Chunk2} {R : List UInt8} {eb wd ht depth colour count : Nat} (h : Png w bd rb cb db cap D d i c) (hst : d.stage = 1) (hch : ChunkAt D i nIDAT (keptB R) cs) (hD : D.length ≤ 1073741824) (ok : RowsOk wd ht depth colour count R) (hdw : d.width = (wd : Int)) (hdh : d.height = (ht : Int)) (hcb : d.cb = (kCb colour depth : Int)) (hdep : d.depth = (depth : Int)) (hlc : d.lace = 0) (hut : d.useT = false)
    (palv : Value) (hpal : colour = 3 → d.pal = palv ∧ ∃ plb pc, palv = .slice (some ⟨plb, 0, none⟩) count pc ∧ count < 256) (heof : w.cell? ⟨0, 0, none⟩ = some (eofV eb)) (h0 : ¬ Fp bd rb cb 0 0 ∧ 0 ≠ db) (hc3 : colour ≠ 3) :
    Calls Tryz.prog 41 #[.pointer (some ⟨bd, 0, none⟩), .bool false] w fun e w' => e = .returned .nilIface ∧ ∃ iv, Pict w' w.heap.size iv R wd ht depth colour palv ∧ Png w' bd rb cb db cap D { d with idat := 0, img := iv, stage := 4 } (i + 8 + (R.length + 13) + 4) (crcRun (nameRun nIDAT) (keptB R)) ∧ Keep (Fp bd rb cb) w w' := by
  have hle := hch.le
  have hh := chunk_head hch
  obtain ⟨x0, x1, x2, x3, hx, hs⟩ := chunk_sum hch
  obtain ⟨L, hL⟩ : ∃ L, L = (keptB R).length := ⟨_, rfl⟩
  have hLl : L ≤ 1073741824 := by omega
  rw [← hL] at hle hh hx
  have hdt := hch.data
  rw [← hL] at hdt
  have HX := Lib.hid (And.intro hx (And.intro hs hdt))
  have HL := Lib.hid hL
  clear hx hs hL hdt
  have hc0 := h.dec.f0
  go_enter Tryz.func41, Tryz.ntmps41
  go_wp2
  go_region_with (refine (readTmp (h.drewN 1) 8 768 (by omega) (by omega) (by omega)).mono ?_; rintro e w1 ⟨rfl, h1, hb1, hk1⟩)
  rw [hh] at hb1
  have hc2 := h1.dec.f2
  have HK1 := Lib.hid (show Keep (Fp bd rb cb) w w1 from (Keep.refl _ _).drew.trans hk1)
  have HB1 := Lib.hid hb1
  clear hk1 hc0
  go_wp2_with (go_at_call 54; fail)
  refine (beUint32 (x0 := b8 (L / 16777216)) (x1 := b8 (L / 65536)) (x2 := b8 (L / 256)) (x3 := b8 L) bd 10 4 768 (by omega) (hb1.take 4)).mono ?_
  rintro e w2 ⟨rfl, k2, hw2⟩
  rw [be4_four L (by omega)]
  have H2 := Lib.hid (show Png w2 bd rb cb db cap D d (i + 8) c ∧ BytesAt w2 bd 10 (four L ++ nIDAT) ∧ Keep (Fp bd rb cb) w w2 by
    rw [hw2]; exact ⟨h1.drewN k2, hb1.drewN k2, HK1.out.drewN k2⟩)
  have g2 := H2.out.1.dec.f2
  clear hw2 h1 hb1 hc2 hh
  go_wp2_with (go_at_call 55; fail)
  refine (crcReset H2.out.1.crc).mono ?_
  rintro e w3 ⟨rfl, hcs3, hk3⟩
  have h3 := H2.out.1.ofCrc hcs3 hk3
  have hb3 := H2.out.2.1.keep hk3 fun _ _ e => h3.a2 e.1
  have HK3 := Lib.hid (H2.out.2.2.trans (hk3.mono fun _ _ _ e => .inr (.inr e.1)))
  have q2 := h3.dec.f2
  have hwr := crcWrite (h3.drewN 1).crc (h3.drewN 1).tab nIDAT bd 14 4 764 rfl ((hb3.drop 4).drewN 1) (by decide) h3.a8
  have HB3 := Lib.hid hb3
  clear hcs3 hk3 g2
  go_wp2
  go_region_with (refine hwr.mono ?_; rintro e w4 ⟨rfl, hcs4, hk4⟩)
  have h4 := (h3.drewN 1).ofCrc hcs4 hk4
  have hb4 : BytesAt w4 bd 14 nIDAT := ((HB3.out.drop 4).drewN 1).keep hk4 fun _ _ e => h4.a2 e.1
  have hstr := strOf 9 Tryz.underlying9 (c := 764) hb4 (n := 4) rfl
  have f8 := h4.dec.f8
  have f7 := h4.dec.f7
  have fz := h4.dec.fz
  simp only [hst] at f8
  have H4 := Lib.hid (show Png w4 bd rb cb db cap D d (i + 8) (nameRun nIDAT) ∧ Keep (Fp bd rb cb) w w4 from ⟨h4, (HK3.out.drewN 1).trans (hk4.mono fun _ _ _ e => .inr (.inr e.1))⟩)
  have HST := Lib.hid hst
  clear hwr hcs4 hk4 h3 hb3 q2 h4 hb4 hst h
  have HI := Lib.hid (And.intro ok (And.intro hdw (And.intro hdh (And.intro hcb (And.intro hdep (And.intro hlc (And.intro hut hpal)))))))
  clear hdw hdh hcb hdep hlc hut hpal
  have hse : strB nIDAT = { data := #[73, 68, 65, 84] } := rfl
  rw [hse] at hstr
  simp only [HI.out.2.2.2.1] at f7
  have HNP := Lib.hid (fun V => cbNotPal V (kCb colour depth : Int) (kCb_not HI.out.1 hc3))
  obtain ⟨qc, hqc⟩ : ∃ qc : Int, qc = (kCb colour depth : Int) := ⟨_, rfl⟩
  rw [← hqc] at f7 HNP
  clear hqc
  go_wp2_with (go_at_call 59; fail)
  refine (HNP.out _).mono ?_
  rintro e w5 ⟨rfl, rfl⟩
  go_wp2_with (go_at_call 62; fail)
  have H5 := Lib.hid (And.intro (H4.out.1.set (H4.out.1.dec.set8 4)) (H4.out.2.setCell (o := 8) (.int .i64 4) fun _ => .inl rfl))
  refine (parseIDAT H5.out.1 hD (by omega) HX.out.2.2 HI.out.1 HI.out.2.1 HI.out.2.2.1 HI.out.2.2.2.1 HI.out.2.2.2.2.1 HI.out.2.2.2.2.2.1 HI.out.2.2.2.2.2.2.1 palv HI.out.2.2.2.2.2.2.2 (H5.out.2.get heof h0.1) h0 HX.out.1 HX.out.2.1).mono ?_
  rintro e w6 ⟨rfl, iv, hP, h6, hk6⟩
  have hszz := H5.out.2.size
  have H6 := Lib.hid (And.intro (hP.lower hszz) (And.intro h6 (H5.out.2.trans hk6)))
  clear h6 hk6 hP
  go_wp2
  go_ret
  refine ⟨rfl, iv, H6.out.1, ?_, H6.out.2.2⟩
  have := H6.out.2.1
  rw [HL.out, keptB_length] at this
  exact this
set_option maxHeartbeats 8000000 in
set_option maxRecDepth 100000 in
theorem pcIDAT2 {w : World} {bd rb cb db cap : Nat} {D : List UInt8} {d : Dv} {i c : Nat} {cs : List Chunk2} {R : List UInt8} {eb wd ht depth colour count : Nat} (h : Png w bd rb cb db cap D d i c) (hst : d.stage = 2) (hch : ChunkAt D i nIDAT (keptB R) cs) (hD : D.length ≤ 1073741824) (ok : RowsOk wd ht depth colour count R) (hdw : d.width = (wd : Int)) (hdh : d.height = (ht : Int)) (hcb : d.cb = (kCb colour depth : Int)) (hdep : d.depth = (depth : Int)) (hlc : d.lace = 0) (hut : d.useT = false)
    (palv : Value) (hpal : colour = 3 → d.pal = palv ∧ ∃ plb pc, palv = .slice (some ⟨plb, 0, none⟩) count pc ∧ count < 256) (heof : w.cell? ⟨0, 0, none⟩ = some (eofV eb)) (h0 : ¬ Fp bd rb cb 0 0 ∧ 0 ≠ db) :
    Calls Tryz.prog 41 #[.pointer (some ⟨bd, 0, none⟩), .bool false] w fun e w' => e = .returned .nilIface ∧ ∃ iv, Pict w' w.heap.size iv R wd ht depth colour palv ∧ Png w' bd rb cb db cap D { d with idat := 0, img := iv, stage := 4 } (i + 8 + (R.length + 13) + 4) (crcRun (nameRun nIDAT) (keptB R)) ∧ Keep (Fp bd rb cb) w w' := by
  have hle := hch.le
  have hh := chunk_head hch
  obtain ⟨x0, x1, x2, x3, hx, hs⟩ := chunk_sum hch
  obtain ⟨L, hL⟩ : ∃ L, L = (keptB R).length := ⟨_, rfl⟩
  have hLl : L ≤ 1073741824 := by omega
  rw [← hL] at hle hh hx
  have hdt := hch.data
  rw [← hL] at hdt
  have HX := Lib.hid (And.intro hx (And.intro hs hdt))
  have HL := Lib.hid hL
  clear hx hs hL hdt
  have hc0 := h.dec.f0
  go_enter Tryz.func41, Tryz.ntmps41
  go_wp2
  go_region_with (refine (readTmp (h.drewN 1) 8 768 (by omega) (by omega) (by omega)).mono ?_; rintro e w1 ⟨rfl, h1, hb1, hk1⟩)
  rw [hh] at hb1
  have hc2 := h1.dec.f2
  have HK1 := Lib.hid (show Keep (Fp bd rb cb) w w1 from (Keep.refl _ _).drew.trans hk1)
  have HB1 := Lib.hid hb1
  clear hk1 hc0
  go_wp2_with (go_at_call 54; fail)
  refine (beUint32 (x0 := b8 (L / 16777216)) (x1 := b8 (L / 65536)) (x2 := b8 (L / 256)) (x3 := b8 L) bd 10 4 768 (by omega) (hb1.take 4)).mono ?_
  rintro e w2 ⟨rfl, k2, hw2⟩
  rw [be4_four L (by omega)]
  have H2 := Lib.hid (show Png w2 bd rb cb db cap D d (i + 8) c ∧ BytesAt w2 bd 10 (four L ++ nIDAT) ∧ Keep (Fp bd rb cb) w w2 by
    rw [hw2]; exact ⟨h1.drewN k2, hb1.drewN k2, HK1.out.drewN k2⟩)
  have g2 := H2.out.1.dec.f2
  clear hw2 h1 hb1 hc2 hh
  go_wp2_with (go_at_call 55; fail)
  refine (crcReset H2.out.1.crc).mono ?_
  rintro e w3 ⟨rfl, hcs3, hk3⟩
  have h3 := H2.out.1.ofCrc hcs3 hk3
  have hb3 := H2.out.2.1.keep hk3 fun _ _ e => h3.a2 e.1
  have HK3 := Lib.hid (H2.out.2.2.trans (hk3.mono fun _ _ _ e => .inr (.inr e.1)))
  have q2 := h3.dec.f2
  have hwr := crcWrite (h3.drewN 1).crc (h3.drewN 1).tab nIDAT bd 14 4 764 rfl ((hb3.drop 4).drewN 1) (by decide) h3.a8
  have HB3 := Lib.hid hb3
  clear hcs3 hk3 g2
  go_wp2
  go_region_with (refine hwr.mono ?_; rintro e w4 ⟨rfl, hcs4, hk4⟩)
  have h4 := (h3.drewN 1).ofCrc hcs4 hk4
  have hb4 : BytesAt w4 bd 14 nIDAT := ((HB3.out.drop 4).drewN 1).keep hk4 fun _ _ e => h4.a2 e.1
  have hstr := strOf 9 Tryz.underlying9 (c := 764) hb4 (n := 4) rfl
  have f8 := h4.dec.f8
  have f7 := h4.dec.f7
  have fz := h4.dec.fz
  simp only [hst] at f8
  have H4 := Lib.hid (show Png w4 bd rb cb db cap D d (i + 8) (nameRun nIDAT) ∧ Keep (Fp bd rb cb) w w4 from ⟨h4, (HK3.out.drewN 1).trans (hk4.mono fun _ _ _ e => .inr (.inr e.1))⟩)
  have HST := Lib.hid hst
  clear hwr hcs4 hk4 h3 hb3 q2 h4 hb4 hst h
  have HI := Lib.hid (And.intro ok (And.intro hdw (And.intro hdh (And.intro hcb (And.intro hdep (And.intro hlc (And.intro hut hpal)))))))
  clear hdw hdh hcb hdep hlc hut hpal
  have hse : strB nIDAT = { data := #[73, 68, 65, 84] } := rfl
  rw [hse] at hstr
  go_wp2_with (go_at_call 62; fail)
  have H5 := Lib.hid (And.intro (H4.out.1.set (H4.out.1.dec.set8 4)) (H4.out.2.setCell (o := 8) (.int .i64 4) fun _ => .inl rfl))
  refine (parseIDAT H5.out.1 hD (by omega) HX.out.2.2 HI.out.1 HI.out.2.1 HI.out.2.2.1 HI.out.2.2.2.1 HI.out.2.2.2.2.1 HI.out.2.2.2.2.2.1 HI.out.2.2.2.2.2.2.1 palv HI.out.2.2.2.2.2.2.2 (H5.out.2.get heof h0.1) h0 HX.out.1 HX.out.2.1).mono ?_
  rintro e w6 ⟨rfl, iv, hP, h6, hk6⟩
  have hszz := H5.out.2.size
  have H6 := Lib.hid (And.intro (hP.lower hszz) (And.intro h6 (H5.out.2.trans hk6)))
  clear h6 hk6 hP
  go_wp2
  go_ret
  refine ⟨rfl, iv, H6.out.1, ?_, H6.out.2.2⟩
  have := H6.out.2.1
  rw [HL.out, keptB_length] at this
  exact this
set_option maxHeartbeats 8000000 in
set_option maxRecDepth 100000 in
theorem pcIDAT3 {w : World} {bd rb cb db cap : Nat} {D : List UInt8} {d : Dv} {i c : Nat} {cs : List Chunk2} {R : List UInt8} {eb wd ht depth colour count : Nat} (h : Png w bd rb cb db cap D d i c) (hst : d.stage = 3) (hch : ChunkAt D i nIDAT (keptB R) cs) (hD : D.length ≤ 1073741824) (ok : RowsOk wd ht depth colour count R) (hdw : d.width = (wd : Int)) (hdh : d.height = (ht : Int)) (hcb : d.cb = (kCb colour depth : Int)) (hdep : d.depth = (depth : Int)) (hlc : d.lace = 0) (hut : d.useT = false)
    (palv : Value) (hpal : colour = 3 → d.pal = palv ∧ ∃ plb pc, palv = .slice (some ⟨plb, 0, none⟩) count pc ∧ count < 256) (heof : w.cell? ⟨0, 0, none⟩ = some (eofV eb)) (h0 : ¬ Fp bd rb cb 0 0 ∧ 0 ≠ db) :
    Calls Tryz.prog 41 #[.pointer (some ⟨bd, 0, none⟩), .bool false] w fun e w' => e = .returned .nilIface ∧ ∃ iv, Pict w' w.heap.size iv R wd ht depth colour palv ∧ Png w' bd rb cb db cap D { d with idat := 0, img := iv, stage := 4 } (i + 8 + (R.length + 13) + 4) (crcRun (nameRun nIDAT) (keptB R)) ∧ Keep (Fp bd rb cb) w w' := by
  have hle := hch.le
  have hh := chunk_head hch
  obtain ⟨x0, x1, x2, x3, hx, hs⟩ := chunk_sum hch
  obtain ⟨L, hL⟩ : ∃ L, L = (keptB R).length := ⟨_, rfl⟩
  have hLl : L ≤ 1073741824 := by omega
  rw [← hL] at hle hh hx
  have hdt := hch.data
  rw [← hL] at hdt
  have HX := Lib.hid (And.intro hx (And.intro hs hdt))
  have HL := Lib.hid hL
  clear hx hs hL hdt
  have hc0 := h.dec.f0
  go_enter Tryz.func41, Tryz.ntmps41
  go_wp2
  go_region_with (refine (readTmp (h.drewN 1) 8 768 (by omega) (by omega) (by omega)).mono ?_; rintro e w1 ⟨rfl, h1, hb1, hk1⟩)
  rw [hh] at hb1
  have hc2 := h1.dec.f2
  have HK1 := Lib.hid (show Keep (Fp bd rb cb) w w1 from (Keep.refl _ _).drew.trans hk1)
  have HB1 := Lib.hid hb1
  clear hk1 hc0
  go_wp2_with (go_at_call 54; fail)
  refine (beUint32 (x0 := b8 (L / 16777216)) (x1 := b8 (L / 65536)) (x2 := b8 (L / 256)) (x3 := b8 L) bd 10 4 768 (by omega) (hb1.take 4)).mono ?_
  rintro e w2 ⟨rfl, k2, hw2⟩
  rw [be4_four L (by omega)]
  have H2 := Lib.hid (show Png w2 bd rb cb db cap D d (i + 8) c ∧ BytesAt w2 bd 10 (four L ++ nIDAT) ∧ Keep (Fp bd rb cb) w w2 by
    rw [hw2]; exact ⟨h1.drewN k2, hb1.drewN k2, HK1.out.drewN k2⟩)
  have g2 := H2.out.1.dec.f2
  clear hw2 h1 hb1 hc2 hh
  go_wp2_with (go_at_call 55; fail)
  refine (crcReset H2.out.1.crc).mono ?_
  rintro e w3 ⟨rfl, hcs3, hk3⟩
  have h3 := H2.out.1.ofCrc hcs3 hk3
  have hb3 := H2.out.2.1.keep hk3 fun _ _ e => h3.a2 e.1
  have HK3 := Lib.hid (H2.out.2.2.trans (hk3.mono fun _ _ _ e => .inr (.inr e.1)))
  have q2 := h3.dec.f2
  have hwr := crcWrite (h3.drewN 1).crc (h3.drewN 1).tab nIDAT bd 14 4 764 rfl ((hb3.drop 4).drewN 1) (by decide) h3.a8
  have HB3 := Lib.hid hb3
  clear hcs3 hk3 g2
  go_wp2
  go_region_with (refine hwr.mono ?_; rintro e w4 ⟨rfl, hcs4, hk4⟩)
  have h4 := (h3.drewN 1).ofCrc hcs4 hk4
  have hb4 : BytesAt w4 bd 14 nIDAT := ((HB3.out.drop 4).drewN 1).keep hk4 fun _ _ e => h4.a2 e.1
  have hstr := strOf 9 Tryz.underlying9 (c := 764) hb4 (n := 4) rfl
  have f8 := h4.dec.f8
  have f7 := h4.dec.f7
  have fz := h4.dec.fz
  simp only [hst] at f8
  have H4 := Lib.hid (show Png w4 bd rb cb db cap D d (i + 8) (nameRun nIDAT) ∧ Keep (Fp bd rb cb) w w4 from ⟨h4, (HK3.out.drewN 1).trans (hk4.mono fun _ _ _ e => .inr (.inr e.1))⟩)
  have HST := Lib.hid hst
  clear hwr hcs4 hk4 h3 hb3 q2 h4 hb4 hst h
  have HI := Lib.hid (And.intro ok (And.intro hdw (And.intro hdh (And.intro hcb (And.intro hdep (And.intro hlc (And.intro hut hpal)))))))
  clear hdw hdh hcb hdep hlc hut hpal
  have hse : strB nIDAT = { data := #[73, 68, 65, 84] } := rfl
  rw [hse] at hstr
  go_wp2_with (go_at_call 62; fail)
  have H5 := Lib.hid (And.intro (H4.out.1.set (H4.out.1.dec.set8 4)) (H4.out.2.setCell (o := 8) (.int .i64 4) fun _ => .inl rfl))
  refine (parseIDAT H5.out.1 hD (by omega) HX.out.2.2 HI.out.1 HI.out.2.1 HI.out.2.2.1 HI.out.2.2.2.1 HI.out.2.2.2.2.1 HI.out.2.2.2.2.2.1 HI.out.2.2.2.2.2.2.1 palv HI.out.2.2.2.2.2.2.2 (H5.out.2.get heof h0.1) h0 HX.out.1 HX.out.2.1).mono ?_
  rintro e w6 ⟨rfl, iv, hP, h6, hk6⟩
  have hszz := H5.out.2.size
  have H6 := Lib.hid (And.intro (hP.lower hszz) (And.intro h6 (H5.out.2.trans hk6)))
  clear h6 hk6 hP
  go_wp2
  go_ret
  refine ⟨rfl, iv, H6.out.1, ?_, H6.out.2.2⟩
  have := H6.out.2.1
  rw [HL.out, keptB_length] at this
  exact this
set_option maxHeartbeats 8000000 in
set_option maxRecDepth 100000 in
theorem pcIEND {w : World} {bd rb cb db cap : Nat} {D : List UInt8} {d : Dv} {i c : Nat} {cs : List Chunk2}  (h : Png w bd rb cb db cap D d i c) (hst : d.stage = 4) (hch : ChunkAt D i nIEND ([]) cs) (hD : D.length ≤ 1073741824) :
    Calls Tryz.prog 41 #[.pointer (some ⟨bd, 0, none⟩), .bool false] w fun e w' => e = .returned .nilIface ∧ Png w' bd rb cb db cap D { d with stage := 5 } (i + 8 + 4) (nameRun nIEND) ∧ Keep (Fp bd rb cb) w w' := by
  have hle := hch.le
  have hh := chunk_head hch
  obtain ⟨x0, x1, x2, x3, hx, hs⟩ := chunk_sum hch
  obtain ⟨L, hL⟩ : ∃ L, L = ([]).length := ⟨_, rfl⟩
  have hLl : L ≤ 1073741824 := by omega
  rw [← hL] at hle hh hx
  have hdt := hch.data
  rw [← hL] at hdt
  have HX := Lib.hid (And.intro hx (And.intro hs hdt))
  have HL := Lib.hid hL
  clear hx hs hL hdt
  have hc0 := h.dec.f0
  go_enter Tryz.func41, Tryz.ntmps41
  go_wp2
  go_region_with (refine (readTmp (h.drewN 1) 8 768 (by omega) (by omega) (by omega)).mono ?_; rintro e w1 ⟨rfl, h1, hb1, hk1⟩)
  rw [hh] at hb1
  have hc2 := h1.dec.f2
  have HK1 := Lib.hid (show Keep (Fp bd rb cb) w w1 from (Keep.refl _ _).drew.trans hk1)
  have HB1 := Lib.hid hb1
  clear hk1 hc0
  go_wp2_with (go_at_call 54; fail)
  refine (beUint32 (x0 := b8 (L / 16777216)) (x1 := b8 (L / 65536)) (x2 := b8 (L / 256)) (x3 := b8 L) bd 10 4 768 (by omega) (hb1.take 4)).mono ?_
  rintro e w2 ⟨rfl, k2, hw2⟩
  rw [be4_four L (by omega)]
  have H2 := Lib.hid (show Png w2 bd rb cb db cap D d (i + 8) c ∧ BytesAt w2 bd 10 (four L ++ nIEND) ∧ Keep (Fp bd rb cb) w w2 by
    rw [hw2]; exact ⟨h1.drewN k2, hb1.drewN k2, HK1.out.drewN k2⟩)
  have g2 := H2.out.1.dec.f2
  clear hw2 h1 hb1 hc2 hh
  go_wp2_with (go_at_call 55; fail)
  refine (crcReset H2.out.1.crc).mono ?_
  rintro e w3 ⟨rfl, hcs3, hk3⟩
  have h3 := H2.out.1.ofCrc hcs3 hk3
  have hb3 := H2.out.2.1.keep hk3 fun _ _ e => h3.a2 e.1
  have HK3 := Lib.hid (H2.out.2.2.trans (hk3.mono fun _ _ _ e => .inr (.inr e.1)))
  have q2 := h3.dec.f2
  have hwr := crcWrite (h3.drewN 1).crc (h3.drewN 1).tab nIEND bd 14 4 764 rfl ((hb3.drop 4).drewN 1) (by decide) h3.a8
  have HB3 := Lib.hid hb3
  clear hcs3 hk3 g2
  go_wp2
  go_region_with (refine hwr.mono ?_; rintro e w4 ⟨rfl, hcs4, hk4⟩)
  have h4 := (h3.drewN 1).ofCrc hcs4 hk4
  have hb4 : BytesAt w4 bd 14 nIEND := ((HB3.out.drop 4).drewN 1).keep hk4 fun _ _ e => h4.a2 e.1
  have hstr := strOf 9 Tryz.underlying9 (c := 764) hb4 (n := 4) rfl
  have f8 := h4.dec.f8
  have f7 := h4.dec.f7
  have fz := h4.dec.fz
  simp only [hst] at f8
  have H4 := Lib.hid (show Png w4 bd rb cb db cap D d (i + 8) (nameRun nIEND) ∧ Keep (Fp bd rb cb) w w4 from ⟨h4, (HK3.out.drewN 1).trans (hk4.mono fun _ _ _ e => .inr (.inr e.1))⟩)
  have HST := Lib.hid hst
  clear hwr hcs4 hk4 h3 hb3 q2 h4 hb4 hst h
  have hse : strB nIEND = { data := #[73, 69, 78, 68] } := rfl
  rw [hse] at hstr
  go_wp2_with (go_at_call 63; fail)
  have H5 := Lib.hid (And.intro (H4.out.1.set (H4.out.1.dec.set8 5)) (H4.out.2.setCell (o := 8) (.int .i64 5) fun _ => .inl rfl))
  have hL0 : L = 0 := HL.out
  subst hL0
  refine (parseIEND H5.out.1 (by omega) HX.out.1 HX.out.2.1).mono ?_
  rintro e w6 ⟨rfl, h6, hk6⟩
  have H6 := Lib.hid (And.intro h6 (H5.out.2.trans hk6))
  clear h6 hk6
  go_wp2
  go_ret
  exact ⟨rfl, H6.out.1, H6.out.2⟩
end Go.Proofs.YtnbbppjgamdfeaaGreatDoor
end
