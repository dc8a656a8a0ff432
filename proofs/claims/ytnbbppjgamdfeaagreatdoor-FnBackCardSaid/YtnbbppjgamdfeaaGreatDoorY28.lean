/- laws.FnBack, part 28 of 54: G5 G6. -/
import Derived.Test.YtnbbppjgamdfeaaGreatDoorY27
import Derived.Test.YtnbbppjgamdfeaaGreatDoorY05

/- The decoder of package png: parsePLTE. -/
section
set_option linter.unusedVariables false
set_option linter.unusedSimpArgs false
namespace Go.Proofs.YtnbbppjgamdfeaaGreatDoor
open Go Go.RowKit

/-- A colour of a palette in memory: the first m ones have an alpha of their own. -/
def ShadeV (m k : Nat) (s : Shade4) : Value :=
  if k < m then .iface 161 (.agg #[.int .u8 (s.1.toNat : Int), .int .u8 (s.2.1.toNat : Int), .int .u8 (s.2.2.1.toNat : Int), .int .u8 (s.2.2.2.toNat : Int)])
  else .iface 162 (.agg #[.int .u8 (s.1.toNat : Int), .int .u8 (s.2.1.toNat : Int), .int .u8 (s.2.2.1.toNat : Int), .int .u8 255])
/-- Cells that may be written. -/
structure RoomV (w : World) (pb n : Nat) : Prop where
  cell : ∀ j, j < n → ∃ v, w.cell? ⟨pb, j, none⟩ = some v
  fz : ∀ j, w.frozen? ⟨pb, j, none⟩ = false
theorem RoomV.lt {w : World} {pb n : Nat} (h : RoomV w pb n) (hn : 0 < n) : pb < w.heap.size := by
  obtain ⟨v, hv⟩ := h.cell 0 hn
  exact World.block_lt_of_cell? w _ hv
theorem RoomV.keep {F : Nat → Nat → Prop} {w w' : World} {pb n : Nat} (h : RoomV w pb n) (hn : 0 < n) (hk : Keep F w w') (hF : ∀ j, ¬ F pb j) : RoomV w' pb n :=
  ⟨fun j hj => by obtain ⟨v, hv⟩ := h.cell j hj; exact ⟨v, hk.get hv (hF j)⟩, fun j => hk.froz (h.lt hn) (h.fz j) (hF j)⟩
theorem RoomV.set {w : World} {pb n : Nat} (h : RoomV w pb n) (k : Nat) (v : Value) : RoomV (w.setCell ⟨pb, k, none⟩ v) pb n := by
  refine ⟨fun j hj => ?_, fun j => by rw [World.frozen?_setCell]; exact h.fz j⟩
  obtain ⟨u, hu⟩ := h.cell j hj
  by_cases e : j = k
  · subst e; exact ⟨v, World.cell?_setCell_same _ _ _ hu⟩
  · exact ⟨u, (World.cell?_setCell_other _ _ _ _ fun e' => e (by injection e' with _ e'; exact e'.symm)).trans hu⟩
/-- A palette in memory. -/
structure PalAt (w : World) (pb : Nat) (pal : List Shade4) (m : Nat) : Prop where
  cell : ∀ k s, pal[k]? = some s → w.cell? ⟨pb, k, none⟩ = some (ShadeV m k s)
  room : RoomV w pb 256
theorem PalAt.keep {F : Nat → Nat → Prop} {w w' : World} {pb : Nat} {pal : List Shade4} {m : Nat} (h : PalAt w pb pal m) (hk : Keep F w w') (hF : ∀ j, ¬ F pb j) : PalAt w' pb pal m :=
  ⟨fun k s hs => hk.get (h.cell k s hs) (hF k), h.room.keep (by omega) hk hF⟩
/-- The first k colours of a palette. -/
def PalUp (w : World) (pb : Nat) (pal : List Shade4) (k : Nat) : Prop := ∀ j s, pal[j]? = some s → j < k → w.cell? ⟨pb, j, none⟩ = some (ShadeV 0 j s)

theorem makePal (w : World) : (Instr.makeSlice 95 (.int .i64 256) (.int .i64 256)).run Tryz.prog w = .ok (.slice (some ⟨w.heap.size, 0, none⟩) 256 256) (w.alloc (.cells (madeCells #[.nilIface] 256) 160)) := by
  obtain ⟨i, hi, hz, hsz, hby⟩ := info_of (P := Tryz.prog) (e := 160) (z := .nilIface) (size := 1) (bytes := 16) (by kernel_rfl)
  have := run_make (P := Tryz.prog) w 95 160 i .nilIface Tryz.underlying95 hi hz .i64 .i64 256 256 (by omega) (by omega) (by rw [hby]; omega) (by omega)
  rw [this, hsz]; rfl
theorem madePal (w : World) : RoomV (w.alloc (.cells (madeCells #[.nilIface] 256) 160)) w.heap.size 256 := by
  have hh := heap_alloc_new w (.cells (madeCells #[.nilIface] 256) 160)
  refine ⟨fun j hj => ⟨.nilIface, ?_⟩, fun j => frozen_of_row _ _ _ _ _ hh⟩
  rw [cell_of_row _ _ _ _ _ _ hh]
  unfold madeCells
  simp [hj, Nat.mod_one]

/-- The palette's block was made, and its slice stored. -/
theorem palMade {w w' : World} {bd rb cb db cap pb : Nat} {D : List UInt8} {d : Dv} {i c : Nat} {l : List UInt8} (h : Png w bd rb cb db cap D d i c) (hB : BytesAt w bd 10 l) (hl : l.length ≤ 768) (hpb : pb = w.heap.size)
    (hw : w' = (w.setCell ⟨bd, 6, none⟩ (.slice (some ⟨w.heap.size, 0, none⟩) 256 256)).alloc (.cells (madeCells #[.nilIface] 256) 160)) :
    Png w' bd rb cb db cap D { d with pal := .slice (some ⟨pb, 0, none⟩) 256 256 } i c ∧ BytesAt w' bd 10 l ∧ RoomV w' pb 256 ∧ Keep (Fp bd rb cb) w w' := by
  subst hw
  subst hpb
  have h1 := h.set (h.dec.set6 (.slice (some ⟨w.heap.size, 0, none⟩) 256 256))
  have hka := (Keep.refl Nil2 (w.setCell ⟨bd, 6, none⟩ (.slice (some ⟨w.heap.size, 0, none⟩) 256 256))).alloc (.cells (madeCells #[.nilIface] 256) 160)
  refine ⟨h1.keep0 hka (fun _ e => e) (fun _ e => e) (fun _ e => e) (fun _ e => e) (fun _ e => e), (hB.keep (keep_setCell _ _ _ _) fun j hj e => by omega).keep hka fun _ _ e => e, ?_, ((Keep.refl _ w).setCell (o := 6) _ fun _ => .inl rfl).alloc _⟩
  have := madePal (w.setCell ⟨bd, 6, none⟩ (.slice (some ⟨w.heap.size, 0, none⟩) 256 256))
  simpa using this

theorem palUpSet {w3 wr wn : World} {pb k : Nat} {pal : List Shade4} {s : Shade4} {v : Value} (hU : PalUp wr pb pal k) (hR : RoomV wr pb 256) (hK : Keep (fun x _ => x = pb) w3 wr) (hk : k < 256) (hs : pal[k]? = some s) (hv : v = ShadeV 0 k s)
    (hw : wn = (wr.setCell ⟨pb, k, none⟩ v).drew) : PalUp wn pb pal (k + 1) ∧ RoomV wn pb 256 ∧ Keep (fun x _ => x = pb) w3 wn := by
  subst hw
  have hd : Keep Nil2 (wr.setCell ⟨pb, k, none⟩ v) (wr.setCell ⟨pb, k, none⟩ v).drew := (Keep.refl Nil2 _).drew
  refine ⟨fun j t ht hj => hd.get ?_ fun e => e, (hR.set k v).keep (by omega) hd fun _ e => e, (hK.setCell v fun _ => rfl).drew⟩
  by_cases e : j = k
  · subst e
    rw [hs] at ht
    injection ht with ht
    subst ht
    obtain ⟨u, hu⟩ := hR.cell j hk
    rw [← hv]
    exact World.cell?_setCell_same _ _ _ hu
  · exact (World.cell?_setCell_other _ _ _ _ fun e' => e (by injection e' with _ e'; exact e'.symm)).trans (hU j t ht (by omega))
theorem palKeep {w3 wr : World} {pb k j : Nat} {pal : List Shade4} (hU : PalUp wr pb pal k) (hR : RoomV wr pb 256) (hK : Keep (fun x _ => x = pb) w3 wr) (hj : k ≤ j) (v : Value) :
    PalUp (wr.setCell ⟨pb, j, none⟩ v) pb pal k ∧ RoomV (wr.setCell ⟨pb, j, none⟩ v) pb 256 ∧ Keep (fun x _ => x = pb) w3 (wr.setCell ⟨pb, j, none⟩ v) :=
  ⟨fun x t ht hx => (World.cell?_setCell_other _ _ _ _ fun e' => by injection e' with _ e'; omega).trans (hU x t ht hx), hR.set j v, hK.setCell v fun _ => rfl⟩
theorem palDone {w : World} {pb k : Nat} {pal : List Shade4} (hU : PalUp w pb pal k) (hR : RoomV w pb 256) (hk : pal.length ≤ k) : PalAt w pb pal 0 :=
  ⟨fun j s hs => hU j s hs (by have := (List.getElem?_eq_some_iff.1 hs).1; omega), hR⟩

set_option maxHeartbeats 8000000 in
set_option maxRecDepth 100000 in
theorem parsePLTE {w : World} {bd rb cb db cap : Nat} {D : List UInt8} {d : Dv} {i c np depth : Nat} {pal : List Shade4} (h : Png w bd rb cb db cap D d i c) {x0 x1 x2 x3 : UInt8} (hnp : np = pal.length) (hn : i + 3 * np + 4 ≤ D.length)
    (hp : 0 < np ∧ np ≤ 200) (hdd : d.depth = (depth : Int)) (hdep : (depth = 1 ∨ depth = 2 ∨ depth = 4 ∨ depth = 8) ∧ np ≤ 2 ^ depth) (hcb : d.cb = 7 ∨ d.cb = 8 ∨ d.cb = 9 ∨ d.cb = 10)
    (hd : (D.drop i).take (3 * np) = shadesB pal) (hx : (D.drop (i + 3 * np)).take 4 = [x0, x1, x2, x3]) (hs : be4 x0 x1 x2 x3 = 4294967295 - crcRun c (shadesB pal)) :
    Calls Tryz.prog 58 #[.pointer (some ⟨bd, 0, none⟩), .int .u32 ((3 * np : Nat) : Int)] w fun e w' => e = .returned .nilIface ∧ ∃ pb,
      Png w' bd rb cb db cap D { d with pal := .slice (some ⟨pb, 0, none⟩) np 256 } (i + 3 * np + 4) (crcRun c (shadesB pal)) ∧ PalAt w' pb pal 0 ∧ w.heap.size ≤ pb ∧ Keep (Fp bd rb cb) w w' := by
  have hc0 := h.dec.f0
  have hc5 := h.dec.f5
  simp only [hdd] at hc5
  obtain ⟨L, hL⟩ : ∃ L, L = 3 * np := ⟨_, rfl⟩
  have hLs : (shadesB pal).length = L := by rw [shadesB_length, hL, hnp]
  rw [← hL] at hn hd hx ⊢
  have e1 : (L : Int) / 3 = (np : Int) := by omega
  have e2 : (L : Int) % 3 = 0 := by omega
  have e3 : decide ((np : Int) ≤ 0) = false := by simp; omega
  have e4 : decide ((256 : Int) < (np : Int)) = false := by simp; omega
  have e5 : IntKind.i64.wrap (3 * (np : Int)) = (L : Int) := by rw [IntWalk.i64_in _ (by omega)]; omega
  have hL7 : (L : Int) ≤ 768 := by omega
  have hmp := makePal
  have HN := Lib.hid (And.intro hnp (And.intro hL hLs))
  clear hnp hL
  go_enter Tryz.func58, Tryz.ntmps58
  have hd8 : depth ≤ 8 ∧ 0 < depth := by omega
  obtain ⟨P, hP⟩ : ∃ P, P = 2 ^ depth := ⟨_, rfl⟩
  have hP2 : P ≤ 256 ∧ np ≤ P := by
    rw [hP]
    refine ⟨?_, hdep.2⟩
    rcases hdep.1 with e | e | e | e <;> rw [e] <;> decide
  have e6 : (2 : Int) ^ depth = (P : Int) := by rw [hP]; simp
  have e7 : decide ((P : Int) < (np : Int)) = false := by simp; omega
  clear hP hdep
  go_wp2
  go_region_with (refine (readTmp (h.drewN 1) L 768 (by omega) (by omega) (by omega)).mono ?_; rintro e w1 ⟨rfl, h1, hb1, hk1⟩)
  rw [hd] at hb1
  have hc2 := h1.dec.f2
  have hwr := crcWrite (h1.drewN 1).crc (h1.drewN 1).tab (shadesB pal) bd 10 L 768 HN.out.2.2.symm (hb1.drewN 1) (by have := HN.out.2.2; omega) h.a8
  rw [HN.out.2.2] at hwr
  go_wp2
  go_region_with (refine hwr.mono ?_; rintro e w2 ⟨rfl, hcs, hk2⟩)
  have h2 := (h1.drewN 1).ofCrc hcs hk2
  have hB2 : BytesAt w2 bd 10 (shadesB pal) := (hb1.drewN 1).keep hk2 fun _ _ e => h.a2 e.1
  have hk02 : Keep (Fp bd rb cb) w w2 := (((Keep.refl _ _).drew.trans hk1).drewN 1).trans (hk2.mono fun _ _ _ e => .inr (.inr e.1))
  have H2 := Lib.hid (And.intro h2 (And.intro hB2 hk02))
  have f7 := h2.dec.f7
  have f6 := h2.dec.f6
  have fz := h2.dec.fz
  have hbd2 := h2.dec.lt
  clear hwr hcs hk2 hk1 h1 h2 hb1 hB2 hk02 hc0 hc2 hc5 h
  rcases hcb with q | q | q | q
  all_goals
    simp only [q] at f7
    have Q := Lib.hid q
    clear q
    go_wp2
    obtain ⟨w3, hw3⟩ : ∃ w3, w3 = (w2.setCell ⟨bd, 6, none⟩ (.slice (some ⟨w2.heap.size, 0, none⟩) 256 256)).alloc (.cells (madeCells #[.nilIface] 256) 160) := ⟨_, rfl⟩
    rw [← hw3]
    obtain ⟨pb, hpb⟩ : ∃ pb, pb = w2.heap.size := ⟨_, rfl⟩
    have H3 := Lib.hid (palMade H2.out.1 H2.out.2.1 (by have := HN.out.2.2; omega) hpb hw3)
    have hne : pb ≠ bd := by omega
    have hpr : pb ≠ rb := by have := World.block_lt_of_cell? w2 _ H2.out.1.br.cs; have e : rb < w2.heap.size := this; omega
    have hpc : pb ≠ cb := by have := World.block_lt_of_cell? w2 _ H2.out.1.crc.cell; have e : cb < w2.heap.size := this; omega
    have hpd : pb ≠ db := by have := H2.out.1.br.data.lt (by omega); omega
    have hp3 : pb ≠ 3 := by have := World.block_lt_of_cell? w2 _ (H2.out.1.tab 0 (by omega)); have e : 3 < w2.heap.size := this; omega
    have hszw : w.heap.size ≤ pb := by rw [hpb]; exact H2.out.2.2.size
    rw [← hpb]
    clear hw3 f6 f7 fz hbd2 hpb
    go_loopg [8] np (fun G v8 wr => ∃ k g, g = G ∧ k + g = np ∧ v8 = .int .i64 (k : Int) ∧ PalUp wr pb pal k ∧ RoomV wr pb 256 ∧ Keep (fun x _ => x = pb) w3 wr)
    case atStart => exact ⟨0, np, rfl, by omega, rfl, fun j s _ hj => by omega, H3.out.2.2.1, Keep.refl _ _⟩
    case round =>
      obtain ⟨k, g, hG, hkg, rfl, hU, hR, hK⟩ := hrel
      have HG := Lib.hid hG
      clear hG
      have f6 := hK.get H3.out.1.dec.f6 (fun e => hne e.symm)
      by_cases hk : k < np
      · have d1 : decide ((k : Int) < (np : Int)) = true := by simp; omega
        obtain ⟨s, hs⟩ : ∃ s, pal[k]? = some s := ⟨pal[k]'(by have := HN.out.1; omega), List.getElem?_eq_getElem _⟩
        obtain ⟨g0, g1, g2⟩ := shadesB_get pal k s hs
        have hB := H3.out.2.1.keep hK fun _ _ e => hne e.symm
        have c0 := hB.at_ _ _ g0
        have c1 := hB.at_ _ _ g1
        have c2 := hB.at_ _ _ g2
        obtain ⟨u, hu⟩ := hR.cell k (by omega)
        have hz := hR.fz k
        have i0 : IntKind.i64.wrap (3 * (k : Int)) = ((3 * k : Nat) : Int) := by rw [IntWalk.i64_in _ (by omega)]; omega
        have i1 : IntKind.i64.wrap (((3 * k : Nat) : Int) + 1) = ((3 * k + 1 : Nat) : Int) := by rw [IntWalk.i64_in _ (by omega)]; omega
        have i2 : IntKind.i64.wrap (((3 * k : Nat) : Int) + 2) = ((3 * k + 2 : Nat) : Int) := by rw [IntWalk.i64_in _ (by omega)]; omega
        have b0 : ((3 * k : Nat) : Int) < 768 := by omega
        have b1 : ((3 * k + 1 : Nat) : Int) < 768 := by omega
        have b2 : ((3 * k + 2 : Nat) : Int) < 768 := by omega
        have b3 : (k : Int) < 256 := by omega
        have HR := Lib.hid (And.intro hU (And.intro hR hK))
        clear hU hR hK g0 g1 g2 hB
        go_wp2
        go_region
        obtain ⟨wn, hwn⟩ : ∃ wn, wn = (wr.setCell ⟨pb, k, none⟩ (.iface 162 (.agg #[.int .u8 (s.1.toNat : Int), .int .u8 (s.2.1.toNat : Int), .int .u8 (s.2.2.1.toNat : Int), .int .u8 255]))).drew := ⟨_, rfl⟩
        rw [← hwn]
        have HF := Lib.hid (palUpSet HR.out.1 HR.out.2.1 HR.out.2.2 (by omega) hs (by simp [ShadeV]) hwn)
        clear hwn hz hu c0 c1 c2 hs
        go_wp2
        go_roundg (g - 1)
        case measure => have := HG.out; omega
        case rel => exact ⟨k + 1, g - 1, rfl, by omega, by go_num, HF.out.1, HF.out.2.1, HF.out.2.2⟩
      · obtain rfl : k = np := by omega
        have d1 : decide ((k : Int) < (k : Int)) = false := by simp
        have HR := Lib.hid (And.intro hU (And.intro hR hK))
        clear hU hR hK f6
        go_wp2
        go_loopg [9] (256 - k) (fun G v9 wr => ∃ j g, g = G ∧ j + g = 256 ∧ v9 = .int .i64 (j : Int) ∧ k ≤ j ∧ PalUp wr pb pal k ∧ RoomV wr pb 256 ∧ Keep (fun x _ => x = pb) w3 wr)
        case atStart => exact ⟨k, 256 - k, rfl, by omega, rfl, Nat.le_refl _, HR.out.1, HR.out.2.1, HR.out.2.2⟩
        case round =>
          obtain ⟨j, g, hG, hjg, rfl, hkj, hU, hR, hK⟩ := hrel
          have HG := Lib.hid hG
          clear hG
          have f6 := hK.get H3.out.1.dec.f6 (fun e => hne e.symm)
          by_cases hj : j < 256
          · have d2 : decide ((j : Int) < 256) = true := by simp; omega
            have b3 : (j : Int) < 256 := by omega
            obtain ⟨u, hu⟩ := hR.cell j hj
            have hz := hR.fz j
            have HF := Lib.hid (palKeep hU hR hK hkj (.iface 162 (.agg #[.int .u8 0, .int .u8 0, .int .u8 0, .int .u8 255])))
            clear hU hR hK
            go_wp2
            go_roundg (g - 1)
            case measure => have := HG.out; omega
            case rel => exact ⟨j + 1, g - 1, rfl, by omega, by go_num, by omega, HF.out.1, HF.out.2.1, HF.out.2.2⟩
          · obtain rfl : j = 256 := by omega
            have d2 : decide (((256 : Nat) : Int) < 256) = false := by decide
            have hPn := H3.out.1.keep0 hK (fun _ e => hne e.symm) (fun _ e => hpr e.symm) (fun _ e => hpc e.symm) (fun _ e => hpd e.symm) (fun _ e => hp3 e.symm)
            have H4 := Lib.hid (And.intro hPn (And.intro (palDone hU hR (by have := HN.out.1; omega)) hK))
            have fz := hPn.dec.fz
            have b3 : (k : Int) ≤ 256 := by omega
            clear hU hR hK hPn
            go_wp2_with (go_at_call 64; fail)
            have H5 := Lib.hid (And.intro (H4.out.1.set (H4.out.1.dec.set6 (.slice (some ⟨pb, 0, none⟩) k 256))) (H4.out.2.1.keep (keep_setCell wr bd 6 (.slice (some ⟨pb, 0, none⟩) k 256)) fun j e => hne e.1))
            refine (verifyChecksum H5.out.1 (by omega) hx hs).mono ?_
            rintro e w6 ⟨rfl, h6, hk6⟩
            have H6 := Lib.hid (And.intro h6 (And.intro (H5.out.2.keep hk6 fun j e => e.elim hne fun e => e.elim hpr hpc) (((H2.out.2.2.trans H3.out.2.2.2).then (H4.out.2.2) (fun _ _ _ e => e) (fun x _ hx e => by omega)).setCell (o := 6) (.slice (some ⟨pb, 0, none⟩) k 256) (fun _ => .inl rfl) |>.trans hk6)))
            clear h6 hk6
            go_wp2
            go_ret
            exact ⟨rfl, pb, H6.out.1, H6.out.2.1, hszw, H6.out.2.2⟩
end Go.Proofs.YtnbbppjgamdfeaaGreatDoor
end

/- The decoder of package png: parsetRNS. -/
section
set_option linter.unusedVariables false
set_option linter.unusedSimpArgs false
namespace Go.Proofs.YtnbbppjgamdfeaaGreatDoor
open Go Go.RowKit

/-- The palette's block is none of the decoder's own. -/
structure PalNe (bd rb cb db pb : Nat) : Prop where
  n1 : pb ≠ bd
  n2 : pb ≠ rb
  n3 : pb ≠ cb
  n4 : pb ≠ db
  n5 : pb ≠ 3

theorem palClear {w3 wr wn : World} {pb k : Nat} {pal : List Shade4} {s : Shade4} {v : Value} (hP : PalAt wr pb pal k) (hK : Keep (fun x _ => x = pb) w3 wr) (hpb : pb < w3.heap.size) (x : Obj) (hk : k < 256) (hs : pal[k]? = some s) (hv : v = ShadeV (k + 1) k s)
    (hw : wn = ((wr.alloc x).setCell ⟨pb, k, none⟩ v).drew) : PalAt wn pb pal (k + 1) ∧ Keep (fun x _ => x = pb) w3 wn := by
  subst hw
  have hka : Keep Nil2 wr (wr.alloc x) := (Keep.refl Nil2 wr).alloc x
  have hPa := hP.keep hka fun _ e => e
  have hd : Keep Nil2 ((wr.alloc x).setCell ⟨pb, k, none⟩ v) ((wr.alloc x).setCell ⟨pb, k, none⟩ v).drew := (Keep.refl Nil2 _).drew
  refine ⟨⟨fun j t ht => hd.get ?_ fun e => e, (hPa.room.set k v).keep (by omega) hd fun _ e => e⟩, (((hK.alloc x).setCell v fun _ => rfl).drew)⟩
  by_cases e : j = k
  · subst e
    rw [hs] at ht
    injection ht with ht
    subst ht
    rw [← hv]
    exact World.cell?_setCell_same _ _ _ (hPa.cell j s hs)
  · refine ((World.cell?_setCell_other _ _ _ _ fun e' => e (by injection e' with _ e'; exact e'.symm)).trans (hPa.cell j t ht)).trans ?_
    congr 1
    unfold ShadeV
    by_cases h1 : j < k
    · rw [if_pos h1, if_pos (by omega)]
    · rw [if_neg h1, if_neg (by omega)]

set_option maxHeartbeats 8000000 in
set_option maxRecDepth 100000 in
theorem parsetRNS {w : World} {bd rb cb db cap pb : Nat} {D : List UInt8} {d : Dv} {i c np m : Nat} {pal : List Shade4} {cl : List UInt8} (h : Png w bd rb cb db cap D d i c) {x0 x1 x2 x3 : UInt8} (hnp : np = pal.length) (hn : i + m + 4 ≤ D.length)
    (hm : 0 < m ∧ m ≤ np) (hp : np ≤ 200) (hcl : cl = (clearsB pal).take m) (hcb : d.cb = 7 ∨ d.cb = 8 ∨ d.cb = 9 ∨ d.cb = 10) (hpl : d.pal = .slice (some ⟨pb, 0, none⟩) np 256) (hP : PalAt w pb pal 0) (hne : PalNe bd rb cb db pb)
    (hd : (D.drop i).take m = cl) (hx : (D.drop (i + m)).take 4 = [x0, x1, x2, x3]) (hs : be4 x0 x1 x2 x3 = 4294967295 - crcRun c cl) :
    Calls Tryz.prog 61 #[.pointer (some ⟨bd, 0, none⟩), .int .u32 (m : Int)] w fun e w' => e = .returned .nilIface ∧
      Png w' bd rb cb db cap D d (i + m + 4) (crcRun c cl) ∧ PalAt w' pb pal m ∧ Keep (fun x y => Fp bd rb cb x y ∨ x = pb) w w' := by
  have hta : ∀ (v : Value) (w : World), (Instr.typeAssert (.iface 162 v) 160 162 false).run Tryz.prog w = .ok v w := fun v w => by kernel_rfl
  have hc0 := h.dec.f0
  have hc7 := h.dec.f7
  have hcll : cl.length = m := by rw [hcl, List.length_take]; simp [clearsB]; omega
  have e4 : decide ((256 : Int) < (m : Int)) = false := by simp; omega
  have hm7 : (m : Int) ≤ 768 := by omega
  have HN := Lib.hid (And.intro hnp (And.intro hcll hcl))
  have HP0 := Lib.hid hP
  have HPL := Lib.hid hpl
  clear hnp hcll hcl hP hpl
  rcases hcb with q | q | q | q
  all_goals
    simp only [q] at hc7
    have Q := Lib.hid q
    clear q
    go_enter Tryz.func61, Tryz.ntmps61
    go_wp2
    go_region_with (refine (readTmp (h.drewN 1) m 768 (by omega) (by omega) (by omega)).mono ?_; rintro e w1 ⟨rfl, h1, hb1, hk1⟩)
    rw [hd] at hb1
    have hc2 := h1.dec.f2
    have hwr := crcWrite (h1.drewN 1).crc (h1.drewN 1).tab cl bd 10 m 768 HN.out.2.1.symm (hb1.drewN 1) (by have := HN.out.2.1; omega) h.a8
    rw [HN.out.2.1] at hwr
    go_wp2
    go_region_with (refine hwr.mono ?_; rintro e w2 ⟨rfl, hcs, hk2⟩)
    have h2 := (h1.drewN 1).ofCrc hcs hk2
    have hB2 : BytesAt w2 bd 10 cl := (hb1.drewN 1).keep hk2 fun _ _ e => h.a2 e.1
    have hk02 : Keep (Fp bd rb cb) w w2 := (((Keep.refl _ _).drew.trans hk1).drewN 1).trans (hk2.mono fun _ _ _ e => .inr (.inr e.1))
    have hP2 := HP0.out.keep hk02 fun j e => e.elim hne.n1 fun e => e.elim hne.n2 hne.n3
    have H2 := Lib.hid (And.intro h2 (And.intro hB2 (And.intro hk02 hP2)))
    have f6 := h2.dec.f6
    rw [HPL.out] at f6
    have e5 : decide ((np : Int) < (m : Int)) = false := by simp; omega
    clear hwr hcs hk2 hk1 h1 h2 hb1 hB2 hk02 hc0 hc2 hc7 h hP2
    go_wp2
    go_loopg [11, 12] m (fun G v11 v12 wr => ∃ k g, g = G ∧ k + g = m ∧ v11 = .int .i64 (k : Int) ∧ PalAt wr pb pal k ∧ Keep (fun x _ => x = pb) w2 wr)
    case atStart => exact ⟨0, m, rfl, by omega, rfl, H2.out.2.2.2, Keep.refl _ _⟩
    case round =>
      obtain ⟨k, g, hG, hkg, rfl, hPk, hK⟩ := hrel
      have HG := Lib.hid hG
      clear hG f6
      have f6 := hK.get H2.out.1.dec.f6 (fun e => hne.n1 e.symm)
      rw [HPL.out] at f6
      by_cases hk : k < m
      · have d1 : decide ((k : Int) < (m : Int)) = true := by simp; omega
        obtain ⟨s, hs⟩ : ∃ s, pal[k]? = some s := ⟨pal[k]'(by have := HN.out.1; omega), List.getElem?_eq_getElem _⟩
        have ck := hPk.cell k s hs
        rw [show ShadeV k k s = .iface 162 (.agg #[.int .u8 (s.1.toNat : Int), .int .u8 (s.2.1.toNat : Int), .int .u8 (s.2.2.1.toNat : Int), .int .u8 255]) by simp [ShadeV]] at ck
        have hB := H2.out.2.1.keep hK fun _ _ e => hne.n1 e.symm
        have cm := hB.at_ k s.2.2.2 (by rw [HN.out.2.2, List.getElem?_take, if_pos hk]; exact clearsB_get pal k s hs)
        have hz := hPk.room.fz k
        have b3 : (k : Int) < np := by omega
        have b4 : (k : Int) < 768 := by omega
        have HR := Lib.hid (And.intro hPk hK)
        have hka := (Keep.refl Nil2 wr).alloc (.cells #[.int .u8 (s.1.toNat : Int), .int .u8 (s.2.1.toNat : Int), .int .u8 (s.2.2.1.toNat : Int), .int .u8 255] 162)
        have f6a := hka.get f6 (fun e => e)
        have cma := hka.get cm (fun e => e)
        have cka := hka.get ck (fun e => e)
        have hza := hka.froz (hPk.room.lt (by omega)) hz (fun e => e)
        clear hPk hK hB hka
        go_wp2
        go_region
        obtain ⟨wn, hwn⟩ : ∃ wn, wn = ((wr.alloc (.cells #[.int .u8 (s.1.toNat : Int), .int .u8 (s.2.1.toNat : Int), .int .u8 (s.2.2.1.toNat : Int), .int .u8 255] 162)).setCell ⟨pb, k, none⟩ (.iface 161 (.agg #[.int .u8 (s.1.toNat : Int), .int .u8 (s.2.1.toNat : Int), .int .u8 (s.2.2.1.toNat : Int), .int .u8 (s.2.2.2.toNat : Int)]))).drew := ⟨_, rfl⟩
        rw [← hwn]
        have HF := Lib.hid (palClear HR.out.1 HR.out.2 (H2.out.2.2.2.room.lt (by omega)) _ (by omega) hs (by simp [ShadeV]) hwn)
        clear hwn hz f6a cma cka hza f6 cm ck hs
        go_wp2
        go_roundg (g - 1)
        case measure => have := HG.out; omega
        case rel => exact ⟨k + 1, g - 1, rfl, by omega, by go_num, HF.out.1, HF.out.2⟩
      · obtain rfl : k = m := by omega
        have d1 : decide ((k : Int) < (k : Int)) = false := by simp
        have hPn := H2.out.1.keep0 hK (fun _ e => hne.n1 e.symm) (fun _ e => hne.n2 e.symm) (fun _ e => hne.n3 e.symm) (fun _ e => hne.n4 e.symm) (fun _ e => hne.n5 e.symm)
        have H4 := Lib.hid (And.intro hPn (And.intro hPk hK))
        clear hPk hK hPn f6
        go_wp2_with (go_at_call 64; fail)
        refine (verifyChecksum H4.out.1 (by omega) hx hs).mono ?_
        rintro e w6 ⟨rfl, h6, hk6⟩
        have H6 := Lib.hid (And.intro h6 (And.intro (H4.out.2.1.keep hk6 fun j e => e.elim hne.n1 fun e => e.elim hne.n2 hne.n3) ((H2.out.2.2.1.mono fun _ _ _ e => Or.inl e).trans ((H4.out.2.2.mono fun _ _ _ e => Or.inr e).trans (hk6.mono fun _ _ _ e => Or.inl e)))))
        clear h6 hk6
        go_wp2
        go_ret
        exact ⟨rfl, H6.out.1, H6.out.2.1, H6.out.2.2⟩
end Go.Proofs.YtnbbppjgamdfeaaGreatDoor
end
