/- laws.FnBack, part 41 of 54: Q1 R1 R2. -/
import Derived.Test.YtnbbppjgamdfeaaGreatDoorY35
import Derived.Test.YtnbbppjgamdfeaaGreatDoorY38
import Derived.Test.YtnbbppjgamdfeaaGreatDoorY40
import Derived.Test.YtnbbppjgamdfeaaGreatDoorY15
import Derived.Test.YtnbbppjgamdfeaaGreatDoorY32

/- The reference's pixels. -/
section
set_option linter.unusedVariables false
set_option linter.unusedSimpArgs false
namespace Go.Proofs.YtnbbppjgamdfeaaGreatDoor
open Go Go.RowKit

/-- The palette of a reading: the pixels of pal. -/
def PalD (w : World) (fb : Nat) (pv : Value) (l : List Dot4) : Prop := ∃ plb plo pc, pv = .slice (some ⟨plb, plo, none⟩) l.length pc ∧ CellsAt w plb plo (dotsV l) ∧ plb ≠ fb
/-- There is a cell that may be written. -/
def HasC (fb j : Nat) (w : World) : Prop := ∃ v, w.cell? ⟨fb, j, none⟩ = some v ∧ w.frozen? ⟨fb, j, none⟩ = false
/-- What stands of the world while the pixels are laid. -/
def PxS (w : World) (fb wd ht depth colour : Nat) (pv : Value) (w' : World) : Prop :=
  w'.cell? ⟨fb, 0, none⟩ = some (.int .i64 (wd : Int)) ∧ w'.cell? ⟨fb, 1, none⟩ = some (.int .i64 (ht : Int)) ∧ w'.cell? ⟨fb, 2, none⟩ = some (.int .i64 (depth : Int)) ∧ w'.cell? ⟨fb, 3, none⟩ = some (.int .i64 (colour : Int)) ∧ w'.cell? ⟨fb, 4, none⟩ = some (.bool false) ∧
    w'.cell? ⟨fb, 6, none⟩ = some pv ∧ w'.cell? ⟨fb, 7, none⟩ = some (.slice none 0 0) ∧ HasC fb 5 w' ∧ Keep (fun x y => x = fb ∧ y = 5) w w'
theorem pxS_keep {w : World} {fb wd ht depth colour : Nat} {pv : Value} {V V' : World} (h : PxS w fb wd ht depth colour pv V) (hk : Keep Nil2 V V') : PxS w fb wd ht depth colour pv V' := by
  obtain ⟨v, h5, hf⟩ := h.2.2.2.2.2.2.2.1
  exact ⟨hk.get h.1 fun e => e, hk.get h.2.1 fun e => e, hk.get h.2.2.1 fun e => e, hk.get h.2.2.2.1 fun e => e, hk.get h.2.2.2.2.1 fun e => e, hk.get h.2.2.2.2.2.1 fun e => e, hk.get h.2.2.2.2.2.2.1 fun e => e, ⟨v, hk.get h5 fun e => e, hk.froz (World.block_lt_of_cell? V _ h5) hf fun e => e⟩, h.2.2.2.2.2.2.2.2.trans (hk.mono fun _ _ _ e => e.elim)⟩
theorem pxS_store {w : World} {fb wd ht depth colour : Nat} {pv : Value} {V : World} (h : PxS w fb wd ht depth colour pv V) (v : Value) : PxS w fb wd ht depth colour pv (V.setCell ⟨fb, 5, none⟩ v) := by
  obtain ⟨u, h5, hf⟩ := h.2.2.2.2.2.2.2.1
  exact ⟨setF h.1 (by decide), setF h.2.1 (by decide), setF h.2.2.1 (by decide), setF h.2.2.2.1 (by decide), setF h.2.2.2.2.1 (by decide), setF h.2.2.2.2.2.1 (by decide), setF h.2.2.2.2.2.2.1 (by decide), ⟨v, World.cell?_setCell_same _ _ _ h5, by rw [World.frozen?_setCell]; exact hf⟩, h.2.2.2.2.2.2.2.2.setCell v fun _ => ⟨rfl, rfl⟩⟩
theorem RdF.dots' {w w' : World} {fb : Nat} {d : Fd} (h : RdF w fb d) (hk : Keep (fun x y => x = fb ∧ y = 5) w w') (h5 : HasC fb 5 w') (v : Value) : RdF (w'.setCell ⟨fb, 5, none⟩ v) fb { d with dots := v } := by
  obtain ⟨u, hu, hf⟩ := h5
  refine ⟨setF (hk.get h.c0 (by omega)) (by decide), setF (hk.get h.c1 (by omega)) (by decide), setF (hk.get h.c2 (by omega)) (by decide), setF (hk.get h.c3 (by omega)) (by decide), setF (hk.get h.c4 (by omega)) (by decide), World.cell?_setCell_same _ _ _ hu, setF (hk.get h.c6 (by omega)) (by decide), setF (hk.get h.c7 (by omega)) (by decide), setF (hk.get h.c8 (by omega)) (by decide), setF (hk.get h.c9 (by omega)) (by decide), setF (hk.get h.c10 (by omega)) (by decide), setF (hk.get h.c11 (by omega)) (by decide), fun j => ?_⟩
  rw [World.frozen?_setCell]
  by_cases e : j = 5
  · subst e; exact hf
  · exact hk.froz h.lt (h.fz j) fun e' => e e'.2

set_option maxHeartbeats 8000000 in
set_option maxRecDepth 100000 in
theorem specPixels {w : World} {fb : Nat} {d : Fd} {R : List UInt8} {wd ht depth colour : Nat} {pal : List Shade4} (h : RdF w fb d) (hdv : d = { d with wd := wd, ht := ht, depth := depth, colour := colour, clear := .slice none 0 0 })
    (ok : RowsOk wd ht depth colour pal.length R) (b o c n N : Nat) (hn : n = R.length) (hN : N = n + 13) (hb : BytesAt w b o (keptB R)) (hc : N ≤ c) (hpv : colour = 3 → PalD w fb d.pal (pal.map palDot)) (hp0 : ∃ ao pn pc, d.pal = .slice ao pn pc) (hu0 : d.dots = .slice none 0 0) :
    Calls Tryz.prog 23 #[.pointer (some ⟨fb, 0, none⟩), .slice (some ⟨b, o, none⟩) N c] w fun e w' => ∃ g cap, e = .returned (.int .i64 0) ∧ RdF w' fb { d with dots := .slice (some ⟨g, 0, none⟩) (ht * wd) cap } ∧
      CellsAt w' g 0 (dotsV (dotsUp R wd depth colour pal (ht * wd))) ∧ w.heap.size ≤ g ∧ g < w'.heap.size ∧ Keep (fun x _ => x = fb) w w' := by
  have hk : KindOk colour depth := ok.kind
  have hRl := ok.len_le
  have hlt := h.lt
  obtain ⟨dd, hdd⟩ : ∃ dd, dd = d := ⟨_, rfl⟩
  have h0 := h
  rw [hdv] at h0
  have c0 := h0.c0
  have c1 := h0.c1
  have c2 := h0.c2
  have c3 := h0.c3
  have c4 := h0.c4
  have c5 := h.c5
  have c6 := h.c6
  have c7 := h0.c7
  have fz := h.fz
  simp only at c0 c1 c2 c3 c7
  obtain ⟨pao, pn, pc, hpe⟩ := hp0
  rw [hpe] at c6
  rw [hu0] at c5
  have hneed := fun V => specNeed V wd ht depth colour hk ⟨ok.w0, ok.w60⟩ ⟨ok.h0, ok.h60⟩
  rw [← ok.len, ← hn] at hneed
  have HNEED := Lib.hid hneed
  have HSM := Lib.hid (fun V g cap (hb : BytesAt V g 0 R) (hc : n ≤ cap) => (show Calls Tryz.prog 36 #[shapeV wd ht depth colour, .slice (some ⟨g, 0, none⟩) n cap] V fun e w' => ∃ v, e = .returned (.tuple #[v, .int .i64 0]) ∧ OwnV 3 1 w' V.heap.size v (ht * (wd * chan colour)) (intsV (smpRows R wd depth colour ht)) ∧ Keep Nil2 V w' from by
    have := specSamples (w := V) ok g 0 cap hb (by rw [← hn]; exact hc)
    rwa [← hn] at this))
  have H := Lib.hid (And.intro h (And.intro ok (And.intro hn (And.intro hN (And.intro hb (And.intro hpv hpe))))))
  have hR0 : 0 < n := by omega
  have hR1 : n ≤ 65535 := by omega
  obtain ⟨p, hp⟩ : ∃ p, p = ht * wd := ⟨_, rfl⟩
  have hpp : 0 < p := by rw [hp]; exact Nat.mul_pos ok.h0 ok.w0
  rw [← hp]
  have HP := Lib.hid hp
  clear hdd h h0 hneed hdv hu0 hpe hn hN hb hpv ok hk hp
  unfold shapeV at HNEED HSM
  go_enter Tryz.func23, Tryz.ntmps23
  go_wp2_with (go_at_call 35; fail)
  refine (HNEED.out _).mono ?_
  rintro e w1 ⟨rfl, hk1⟩
  have d0 := hk1.get c0 (fun e => e)
  have d1 := hk1.get c1 (fun e => e)
  have d2 := hk1.get c2 (fun e => e)
  have d3 := hk1.get c3 (fun e => e)
  have d4 := hk1.get c4 (fun e => e)
  have HK1 := Lib.hid hk1
  go_wp2_with (go_at_call 34; fail)
  refine (specUnpack (R := R) b o c n N H.out.2.2.1 H.out.2.2.2.1 (H.out.2.2.2.2.1.keep HK1.out fun _ _ e => e) hc hR0 hR1).mono ?_
  rintro e w2 ⟨g2, cap2, rfl, hO2, hk2⟩
  have hk02 := HK1.out.trans hk2
  have d0 := hk02.get c0 (fun e => e)
  have d1 := hk02.get c1 (fun e => e)
  have d2 := hk02.get c2 (fun e => e)
  have d3 := hk02.get c3 (fun e => e)
  have d4 := hk02.get c4 (fun e => e)
  have HK2 := Lib.hid hk02
  have hRn : n = R.length := H.out.2.2.1
  obtain ⟨g2', cap2', eg, _, hcap2, _, hbR, _⟩ := hO2.slice (by omega)
  have hgg : g2 = g2' ∧ cap2 = cap2' := by injection eg with e1 e2 e3; injection e1 with e1; injection e1 with e1; exact ⟨e1, e3⟩
  clear eg hRn
  obtain ⟨rfl, rfl⟩ := hgg
  have HR2 := Lib.hid (And.intro hbR hcap2)
  clear hO2 hbR hcap2 hk2 hk02 hk1
  go_wp2_with (go_at_call 36; fail)
  refine (HSM.out w2 g2 cap2 HR2.out.1 (by have := HR2.out.2; have := H.out.2.2.1; omega)).mono ?_
  rintro e w3 ⟨v3, rfl, hO3, hk3⟩
  obtain ⟨m, hm⟩ : ∃ m, m = ht * (wd * chan colour) := ⟨_, rfl⟩
  have hm0 : 0 < m := by rw [hm]; exact Nat.mul_pos H.out.2.1.h0 (Nat.mul_pos H.out.2.1.w0 (chan_pos colour).1)
  rw [← hm] at hO3
  obtain ⟨lb, lc, rfl, hlb, _, hlb3, hcl, _⟩ := hO3.out hm0
  have hk03 := HK2.out.trans hk3
  have e0 := hk03.get c0 (fun e => e)
  have e1 := hk03.get c1 (fun e => e)
  have e2 := hk03.get c2 (fun e => e)
  have e3 := hk03.get c3 (fun e => e)
  have e4 := hk03.get c4 (fun e => e)
  have e5 := hk03.get c5 (fun e => e)
  have e6 := hk03.get c6 (fun e => e)
  have e7 := hk03.get c7 (fun e => e)
  have ez : ∀ j, w3.frozen? ⟨fb, j, none⟩ = false := fun j => hk03.froz hlt (fz j) fun e => e
  have hlbf : lb ≠ fb := by have := HK2.out.size; omega
  have hs0 : PxS w3 fb wd ht depth colour (.slice pao pn pc) w3 := ⟨e0, e1, e2, e3, e4, e6, e7, ⟨_, e5, ez 5⟩, Keep.refl _ _⟩
  have H3 := Lib.hid (And.intro hcl (And.intro hk03 hm))
  clear hO3 hk3 hcl hlb hm
  have KS := Lib.hid (fun V V' (h : PxS w3 fb wd ht depth colour (.slice pao pn pc) V) (hk : Keep Nil2 V V') => pxS_keep h hk)
  have KT := Lib.hid (fun V v (h : PxS w3 fb wd ht depth colour (.slice pao pn pc) V) => pxS_store h v)
  have K37 : Hid (∀ V, PxS w3 fb wd ht depth colour (.slice pao pn pc) V → Calls Tryz.prog 37 #[.agg #[.int .i64 (wd : Int), .int .i64 (ht : Int), .int .i64 (depth : Int), .int .i64 (colour : Int), .bool false], .slice (some ⟨lb, 0, none⟩) m lc, .slice pao pn pc, .slice none 0 0] V fun e w' => ∃ g cap v5, e = .returned (.tuple #[.slice (some ⟨g, 0, none⟩) p cap, .int .i64 0]) ∧ w'.cell? ⟨fb, 5, none⟩ = some v5 ∧ w'.frozen? ⟨fb, 5, none⟩ = false ∧ (CellsAt w' g 0 (dotsV (dotsUp R wd depth colour pal p)) ∧ w3.heap.size ≤ g ∧ g < w'.heap.size) ∧ PxS w3 fb wd ht depth colour (.slice pao pn pc) w') := Lib.hid (fun V hV => by
    have hkV := hV.2.2.2.2.2.2.2.2
    have h1 := specDots (w := V) H.out.2.1 lb 0 lc (H3.out.1.keep hkV fun _ _ e => hlbf e.1) (.slice pao pn pc) (fun hc3 => by
      obtain ⟨plb, plo, pc', q1, q2, q3⟩ := H.out.2.2.2.2.2.1 hc3
      rw [H.out.2.2.2.2.2.2] at q1
      rw [List.length_map] at q1
      exact ⟨plb, plo, pc', q1, (q2.keep H3.out.2.1 fun _ _ e => e).keep hkV fun _ _ e => q3 e.1⟩)
    rw [← H3.out.2.2, ← HP.out] at h1
    refine h1.mono ?_
    rintro e w' ⟨v, rfl, hO, hk⟩
    obtain ⟨g, cap, rfl, hg, _, hglt, hcg, _⟩ := hO.out hpp
    have hS := pxS_keep hV hk
    obtain ⟨v5, h5, hf5⟩ := hS.2.2.2.2.2.2.2.1
    exact ⟨g, cap, v5, rfl, h5, hf5, ⟨hcg, Nat.le_trans hkV.size hg, hglt⟩, hS⟩)
  go_wp2
  go_region_held3 (fun w' => w'.cell? ⟨fb, 0, none⟩ = some (.int .i64 (wd : Int)) ∧ w'.cell? ⟨fb, 1, none⟩ = some (.int .i64 (ht : Int)) ∧ w'.cell? ⟨fb, 2, none⟩ = some (.int .i64 (depth : Int)) ∧ w'.cell? ⟨fb, 3, none⟩ = some (.int .i64 (colour : Int)) ∧ w'.cell? ⟨fb, 4, none⟩ = some (.bool false) ∧ w'.cell? ⟨fb, 6, none⟩ = some (.slice pao pn pc) ∧ w'.cell? ⟨fb, 7, none⟩ = some (.slice none 0 0) ∧ HasC fb 5 w' ∧ Keep (fun x y => x = fb ∧ y = 5) w3 w')
    ((show PxS w3 fb wd ht depth colour (.slice pao pn pc) _; first | with_reducible assumption | with_reducible exact KS.out _ _ (by assumption) ((Keep.refl Nil2 _).drew) | with_reducible exact KT.out _ _ (by assumption)))
    (first | (go_at_call 37; refine (K37.out _ (by assumption)).mono ?_; rintro e w4 ⟨g, cap, v5, rfl, h5, hf5, hcg, hsR⟩))
  have hkw := hsR.2.2.2.2.2.2.2.2
  have hR := (H.out.1.keep0 H3.out.2.1).dots' hkw ⟨v5, h5, hf5⟩ (.slice (some ⟨g, 0, none⟩) p cap)
  have hgf : g ≠ fb := by have := H3.out.2.1.size; omega
  have HF := Lib.hid (And.intro hR (And.intro (hcg.1.keep (keep_setCell w4 fb 5 (.slice (some ⟨g, 0, none⟩) p cap)) fun _ _ e => hgf e.1) (And.intro hcg.2 (((H3.out.2.1.mono (G := fun x _ => x = fb) fun _ _ _ e => e.elim).trans (hkw.mono fun _ _ _ e => e.1)).setCell (b := fb) (o := 5) (.slice (some ⟨g, 0, none⟩) p cap) fun _ => rfl))))
  have hsz3 := H3.out.2.1.size
  clear hR hkw hcg hsR h5 hf5 hs0 e0 e1 e2 e3 e4 e5 e6 e7
  go_wp2
  go_ret
  exact ⟨g, cap, rfl, HF.out.1, HF.out.2.1, by have := HF.out.2.2.1.1; omega, by have := HF.out.2.2.1.2; simpa using this, HF.out.2.2.2⟩
end Go.Proofs.YtnbbppjgamdfeaaGreatDoor
end

/- impl: picture. (Printed by tools/gen_r1.py.) -/
section
set_option linter.unusedVariables false
set_option linter.unusedSimpArgs false
namespace Go.Proofs.YtnbbppjgamdfeaaGreatDoor
open Go Go.RowKit

/-- A block of n cells that may be written. -/
def HasN (pb n : Nat) (w : World) : Prop := (∀ j, j < n → ∃ v, w.cell? ⟨pb, j, none⟩ = some v) ∧ ∀ j, w.frozen? ⟨pb, j, none⟩ = false
theorem HasN.keep {pb n : Nat} {w w' : World} (h : HasN pb n w) (hn : 0 < n) (hk : Keep Nil2 w w') : HasN pb n w' := by
  obtain ⟨v, hv⟩ := h.1 0 hn
  exact ⟨fun j hj => by obtain ⟨u, hu⟩ := h.1 j hj; exact ⟨u, hk.get hu fun e => e⟩, fun j => hk.froz (World.block_lt_of_cell? w _ hv) (h.2 j) fun e => e⟩
theorem HasN.set {pb n : Nat} {w : World} (h : HasN pb n w) (k : Nat) (v : Value) : HasN pb n (w.setCell ⟨pb, k, none⟩ v) := by
  refine ⟨fun j hj => ?_, fun j => by rw [World.frozen?_setCell]; exact h.2 j⟩
  obtain ⟨u, hu⟩ := h.1 j hj
  by_cases e : k = j
  · subst e; exact ⟨v, World.cell?_setCell_same _ _ _ hu⟩
  · exact ⟨u, setF hu e⟩
/-- What stands of the world while a picture's fields are read. -/
def PcS (w : World) (rb pb wd ht : Nat) (w' : World) : Prop := w'.cell? ⟨rb, 0, none⟩ = some (.int .i64 0) ∧ w'.cell? ⟨rb, 1, none⟩ = some (.int .i64 0) ∧ w'.cell? ⟨rb, 2, none⟩ = some (.int .i64 (wd : Int)) ∧ w'.cell? ⟨rb, 3, none⟩ = some (.int .i64 (ht : Int)) ∧ HasN pb 8 w' ∧ Keep (fun x _ => x = pb) w w'
theorem pcS_keep {w : World} {rb pb wd ht : Nat} {V V' : World} (h : PcS w rb pb wd ht V) (hk : Keep Nil2 V V') : PcS w rb pb wd ht V' :=
  ⟨hk.get h.1 fun e => e, hk.get h.2.1 fun e => e, hk.get h.2.2.1 fun e => e, hk.get h.2.2.2.1 fun e => e, h.2.2.2.2.1.keep (by omega) hk, h.2.2.2.2.2.trans (hk.mono fun _ _ _ e => e.elim)⟩
theorem pcS_set {w : World} {rb pb wd ht : Nat} {V : World} (h : PcS w rb pb wd ht V) (hne : rb ≠ pb) (k : Nat) (v : Value) : PcS w rb pb wd ht (V.setCell ⟨pb, k, none⟩ v) := by
  have hk := keep_setCell V pb k v
  exact ⟨hk.get h.1 fun e => hne e.1, hk.get h.2.1 fun e => hne e.1, hk.get h.2.2.1 fun e => hne e.1, hk.get h.2.2.2.1 fun e => hne e.1, h.2.2.2.2.1.set k v, h.2.2.2.2.2.setCell v fun _ => rfl⟩
theorem pcS_store {w : World} {rb pb wd ht : Nat} {V : World} (h : PcS w rb pb wd ht V) (hne : rb ≠ pb) (v0 v1 v2 v3 v4 v5 v6 v7 : Value) : PcS w rb pb wd ht ((((((((V.setCell ⟨pb, 0, none⟩ (v0)).setCell ⟨pb, 1, none⟩ (v1)).setCell ⟨pb, 2, none⟩ (v2)).setCell ⟨pb, 3, none⟩ (v3)).setCell ⟨pb, 4, none⟩ (v4)).setCell ⟨pb, 5, none⟩ (v5)).setCell ⟨pb, 6, none⟩ (v6)).setCell ⟨pb, 7, none⟩ (v7)) := by
  exact pcS_set (pcS_set (pcS_set (pcS_set (pcS_set (pcS_set (pcS_set (pcS_set h hne _ _) hne _ _) hne _ _) hne _ _) hne _ _) hne _ _) hne _ _) hne _ _
theorem HasN.eight {pb : Nat} {w : World} (h : HasN pb 8 w) : ∃ v0 v1 v2 v3 v4 v5 v6 v7, w.cell? ⟨pb, 0, none⟩ = some v0 ∧ w.cell? ⟨pb, 1, none⟩ = some v1 ∧ w.cell? ⟨pb, 2, none⟩ = some v2 ∧ w.cell? ⟨pb, 3, none⟩ = some v3 ∧ w.cell? ⟨pb, 4, none⟩ = some v4 ∧ w.cell? ⟨pb, 5, none⟩ = some v5 ∧ w.cell? ⟨pb, 6, none⟩ = some v6 ∧ w.cell? ⟨pb, 7, none⟩ = some v7 := by
  obtain ⟨v0, h0⟩ := h.1 0 (by omega)
  obtain ⟨v1, h1⟩ := h.1 1 (by omega)
  obtain ⟨v2, h2⟩ := h.1 2 (by omega)
  obtain ⟨v3, h3⟩ := h.1 3 (by omega)
  obtain ⟨v4, h4⟩ := h.1 4 (by omega)
  obtain ⟨v5, h5⟩ := h.1 5 (by omega)
  obtain ⟨v6, h6⟩ := h.1 6 (by omega)
  obtain ⟨v7, h7⟩ := h.1 7 (by omega)
  exact ⟨v0, v1, v2, v3, v4, v5, v6, v7, h0, h1, h2, h3, h4, h5, h6, h7⟩
/-- Eight cells were laid. -/
theorem eightSet {w wf : World} {pb : Nat} (h : HasN pb 8 w) (u0 u1 u2 u3 u4 u5 u6 u7 : Value) (hw : wf = ((((((((w.setCell ⟨pb, 0, none⟩ (u0)).setCell ⟨pb, 1, none⟩ (u1)).setCell ⟨pb, 2, none⟩ (u2)).setCell ⟨pb, 3, none⟩ (u3)).setCell ⟨pb, 4, none⟩ (u4)).setCell ⟨pb, 5, none⟩ (u5)).setCell ⟨pb, 6, none⟩ (u6)).setCell ⟨pb, 7, none⟩ (u7))) :
    wf.cell? ⟨pb, 0, none⟩ = some u0 ∧ wf.cell? ⟨pb, 1, none⟩ = some u1 ∧ wf.cell? ⟨pb, 2, none⟩ = some u2 ∧ wf.cell? ⟨pb, 3, none⟩ = some u3 ∧ wf.cell? ⟨pb, 4, none⟩ = some u4 ∧ wf.cell? ⟨pb, 5, none⟩ = some u5 ∧ wf.cell? ⟨pb, 6, none⟩ = some u6 ∧ wf.cell? ⟨pb, 7, none⟩ = some u7 ∧ Keep (fun x _ => x = pb) w wf := by
  have hk := keep_setCells pb [u0, u1, u2, u3, u4, u5, u6, u7] 0 w
  have hc := World.cell?_setCells_in pb [u0, u1, u2, u3, u4, u5, u6, u7] 0 w (fun j hj => by
    obtain ⟨v, hv⟩ := h.1 j hj
    rw [Nat.zero_add, hv]; rfl)
  rw [show w.setCells pb 0 [u0, u1, u2, u3, u4, u5, u6, u7] = wf from hw.symm] at hk hc
  have y0 := hc 0 (show 0 < 8 by decide)
  have y1 := hc 1 (show 1 < 8 by decide)
  have y2 := hc 2 (show 2 < 8 by decide)
  have y3 := hc 3 (show 3 < 8 by decide)
  have y4 := hc 4 (show 4 < 8 by decide)
  have y5 := hc 5 (show 5 < 8 by decide)
  have y6 := hc 6 (show 6 < 8 by decide)
  have y7 := hc 7 (show 7 < 8 by decide)
  simp only [Nat.zero_add, List.getElem_cons_zero, List.getElem_cons_succ] at y0 y1 y2 y3 y4 y5 y6 y7
  exact ⟨y0, y1, y2, y3, y4, y5, y6, y7, hk.mono fun _ _ _ e => e.1⟩
theorem hasN_alloc (w : World) (cs : Array Value) (e : TypeId) (n : Nat) (h : cs.size = n) : HasN w.heap.size n (w.alloc (.cells cs e)) := by
  have hh := heap_alloc_new w (.cells cs e)
  exact ⟨fun j hj => ⟨cs[j]'(by omega), by rw [cell_of_row _ _ _ _ _ _ hh, Array.getElem?_eq_getElem]⟩, fun j => frozen_of_row _ _ _ _ _ hh⟩

/-- A picture as plain data, its palette apart. -/
def picV (kind wd ht st g n cap : Nat) (pv : Value) : Value := .agg #[.int .i64 (kind : Int), .int .i64 0, .int .i64 0, .int .i64 (wd : Int), .int .i64 (ht : Int), .int .i64 (st : Int), .slice (some ⟨g, 0, none⟩) n cap, pv]

set_option maxHeartbeats 8000000 in
set_option maxRecDepth 100000 in
theorem implPicture {w : World} (kind wd ht st n : Nat) (l : List UInt8) (hl0 : 0 < n) (b o c : Nat) (hn : n = l.length) (hb : BytesAt w b o l) (hl : n ≤ 536870912) :
    Calls Tryz.prog 43 #[.int .i64 (kind : Int), rectV wd ht, .int .i64 (st : Int), .slice (some ⟨b, o, none⟩) n c] w fun e w' => ∃ g cap, e = .returned (picV kind wd ht st g n cap (.slice none 0 0)) ∧ BytesAt w' g 0 l ∧ w.heap.size ≤ g ∧ g < w'.heap.size ∧ n ≤ cap ∧ Keep Nil2 w w' := by
  have hbw : b < w.heap.size := hb.lt (by omega)
  have H := Lib.hid (And.intro hn hb)
  clear hn hb
  unfold rectV picV
  go_enter Tryz.func43, Tryz.ntmps43
  go_wp2
  obtain ⟨rb, hrb⟩ : ∃ rb, rb = w.heap.size := ⟨_, rfl⟩
  obtain ⟨pb, hpb⟩ : ∃ pb, pb = w.heap.size + 1 := ⟨_, rfl⟩
  rw [← hpb, ← hrb]
  obtain ⟨w1, hw1⟩ : ∃ w1, w1 = (w.alloc (.cells #[.int .i64 0, .int .i64 0, .int .i64 (wd : Int), .int .i64 (ht : Int)] 112)).alloc (.cells #[.int .i64 0, .int .i64 0, .int .i64 0, .int .i64 0, .int .i64 0, .int .i64 0, .slice none 0 0, .slice none 0 0] 26) := ⟨_, rfl⟩
  rw [← hw1]
  have hs0 : PcS w1 rb pb wd ht w1 ∧ Keep Nil2 w w1 ∧ pb < w1.heap.size := by
    have ha := heap_alloc_new w (.cells #[.int .i64 0, .int .i64 0, .int .i64 (wd : Int), .int .i64 (ht : Int)] 112)
    have hb := hasN_alloc (w.alloc (.cells #[.int .i64 0, .int .i64 0, .int .i64 (wd : Int), .int .i64 (ht : Int)] 112)) #[.int .i64 0, .int .i64 0, .int .i64 0, .int .i64 0, .int .i64 0, .int .i64 0, .slice none 0 0, .slice none 0 0] 26 8 rfl
    have s1 : (w.alloc (.cells #[.int .i64 0, .int .i64 0, .int .i64 (wd : Int), .int .i64 (ht : Int)] 112)).heap.size = pb := by rw [hpb]; simp
    rw [s1, ← hw1] at hb
    rw [← hrb] at ha
    have k2 : Keep Nil2 (w.alloc (.cells #[.int .i64 0, .int .i64 0, .int .i64 (wd : Int), .int .i64 (ht : Int)] 112)) w1 := by rw [hw1]; exact (Keep.refl Nil2 _).alloc _
    exact ⟨⟨k2.get (cell_of_row _ _ _ _ _ _ ha) fun e => e, k2.get (cell_of_row _ _ _ _ _ _ ha) fun e => e, k2.get (cell_of_row _ _ _ _ _ _ ha) fun e => e, k2.get (cell_of_row _ _ _ _ _ _ ha) fun e => e, hb, Keep.refl _ _⟩, ((Keep.refl Nil2 w).alloc _).trans k2, by rw [hw1]; simp; omega⟩
  obtain ⟨hs0, hk1, hpl⟩ := hs0
  have hne : rb ≠ pb := by omega
  have hpw : w.heap.size ≤ pb := by omega
  have HK1 := Lib.hid hk1
  have KS := Lib.hid (fun V V' (h : PcS w1 rb pb wd ht V) (hk : Keep Nil2 V V') => pcS_keep h hk)
  have KT := Lib.hid (fun V (v0 v1 v2 v3 v4 v5 v6 v7 : Value) (h : PcS w1 rb pb wd ht V) => pcS_store h hne v0 v1 v2 v3 v4 v5 v6 v7)
  have KC : Hid (∀ V, PcS w1 rb pb wd ht V → Calls Tryz.prog 18 #[.slice (some ⟨b, o, none⟩) n c] V fun e w' => ∃ g cap v0 v1 v2 v3 v4 v5 v6 v7, e = .returned (.slice (some ⟨g, 0, none⟩) n cap) ∧ w'.cell? ⟨pb, 0, none⟩ = some v0 ∧ w'.cell? ⟨pb, 1, none⟩ = some v1 ∧ w'.cell? ⟨pb, 2, none⟩ = some v2 ∧ w'.cell? ⟨pb, 3, none⟩ = some v3 ∧ w'.cell? ⟨pb, 4, none⟩ = some v4 ∧ w'.cell? ⟨pb, 5, none⟩ = some v5 ∧ w'.cell? ⟨pb, 6, none⟩ = some v6 ∧ w'.cell? ⟨pb, 7, none⟩ = some v7 ∧ (∀ j, w'.frozen? ⟨pb, j, none⟩ = false) ∧ (BytesAt w' g 0 l ∧ w1.heap.size ≤ g ∧ g < w'.heap.size ∧ n ≤ cap) ∧ PcS w1 rb pb wd ht w') := Lib.hid (fun V hV => by
    refine (slicesClone (w := V) l b o n c H.out.1 ((H.out.2.keep HK1.out fun _ _ e => e).keep hV.2.2.2.2.2 fun _ _ e => by omega) (by have := H.out.1; omega)).mono ?_
    rintro e w' ⟨v, rfl, hO, hk⟩
    obtain ⟨g, cap, rfl, hg, hcap, _, hbg, _, hglt, _⟩ := hO.slice (by have := H.out.1; omega)
    have hS := pcS_keep hV hk
    obtain ⟨v0, v1, v2, v3, v4, v5, v6, v7, h0, h1, h2, h3, h4, h5, h6, h7⟩ := hS.2.2.2.2.1.eight
    exact ⟨g, cap, v0, v1, v2, v3, v4, v5, v6, v7, by rw [H.out.1], h0, h1, h2, h3, h4, h5, h6, h7, hS.2.2.2.2.1.2, ⟨hbg, Nat.le_trans hV.2.2.2.2.2.size hg, hglt, by rw [H.out.1]; exact hcap⟩, hS⟩)
  clear hw1 hrb hpb hk1
  go_region_held3 (fun w' => w'.cell? ⟨rb, 0, none⟩ = some (.int .i64 0) ∧ w'.cell? ⟨rb, 1, none⟩ = some (.int .i64 0) ∧ w'.cell? ⟨rb, 2, none⟩ = some (.int .i64 (wd : Int)) ∧ w'.cell? ⟨rb, 3, none⟩ = some (.int .i64 (ht : Int)) ∧ HasN pb 8 w' ∧ Keep (fun x _ => x = pb) w1 w')
    ((show PcS w1 rb pb wd ht _; first | with_reducible assumption | with_reducible exact KT.out _ _ _ _ _ _ _ _ _ (by assumption) | with_reducible exact KS.out _ _ (by assumption) ((Keep.refl Nil2 _).drew)))
    (first | (go_at_call 18; refine (KC.out _ (by assumption)).mono ?_; rintro e w2 ⟨g, cap, v0, v1, v2, v3, v4, v5, v6, v7, rfl, h0, h1, h2, h3, h4, h5, h6, h7, hfz, hbg, hsR⟩))
  obtain ⟨wf, hwf⟩ : ∃ wf, wf = ((((((((w2.setCell ⟨pb, 0, none⟩ (.int .i64 (kind : Int))).setCell ⟨pb, 1, none⟩ (.int .i64 0)).setCell ⟨pb, 2, none⟩ (.int .i64 0)).setCell ⟨pb, 3, none⟩ (.int .i64 (wd : Int))).setCell ⟨pb, 4, none⟩ (.int .i64 (ht : Int))).setCell ⟨pb, 5, none⟩ (.int .i64 (st : Int))).setCell ⟨pb, 6, none⟩ (.slice (some ⟨g, 0, none⟩) n cap)).setCell ⟨pb, 7, none⟩ (.slice none 0 0)) := ⟨_, rfl⟩
  rw [← hwf]
  obtain ⟨y0, y1, y2, y3, y4, y5, y6, y7, hkf⟩ := eightSet hsR.2.2.2.2.1 _ _ _ _ _ _ _ _ hwf
  have HF := Lib.hid (And.intro hbg (And.intro hsR.2.2.2.2.2 hkf))
  clear hwf hkf hsR hbg h0 h1 h2 h3 h4 h5 h6 h7 hfz hs0
  go_wp2
  refine bodyPost_ret (v := .agg #[.int .i64 (kind : Int), .int .i64 0, .int .i64 0, .int .i64 (wd : Int), .int .i64 (ht : Int), .int .i64 (st : Int), .slice (some ⟨g, 0, none⟩) n cap, .slice none 0 0]) ?_ rfl ?_
  · simp only [results, Tryz.f43]
    go_simp
  · have hgp : g ≠ pb := by have := HF.out.1.2.1; omega
    exact ⟨g, cap, rfl, HF.out.1.1.keep HF.out.2.2 fun _ _ e => hgp e, by have := HF.out.1.2.1; have := HK1.out.size; omega, Nat.lt_of_lt_of_le HF.out.1.2.2.1 HF.out.2.2.size, HF.out.1.2.2.2, (HK1.out.then (F := Nil2) HF.out.2.1 (fun _ _ _ e => e) fun x _ hx e => by omega).then (F := Nil2) HF.out.2.2 (fun _ _ _ e => e) fun x _ hx e => by omega⟩
end Go.Proofs.YtnbbppjgamdfeaaGreatDoor
end

/- impl: pictureOf, kind by kind. (Printed by tools/gen_r2.py.) -/
section
set_option linter.unusedVariables false
set_option linter.unusedSimpArgs false
namespace Go.Proofs.YtnbbppjgamdfeaaGreatDoor
open Go Go.RowKit

/-- What stands of the world while an image's fields are read. -/
def IpS (w : World) (ib pb tb n st wd ht : Nat) (w' : World) : Prop := w'.cell? ⟨ib, 0, none⟩ = some (.slice (some ⟨pb, 0, none⟩) n n) ∧ w'.cell? ⟨ib, 1, none⟩ = some (.int .i64 (st : Int)) ∧ w'.cell? ⟨ib, 2, none⟩ = some (.int .i64 0) ∧ w'.cell? ⟨ib, 3, none⟩ = some (.int .i64 0) ∧ w'.cell? ⟨ib, 4, none⟩ = some (.int .i64 (wd : Int)) ∧ w'.cell? ⟨ib, 5, none⟩ = some (.int .i64 (ht : Int)) ∧ HasN tb 8 w' ∧ Keep (fun x _ => x = tb) w w'
theorem ipS_keep {w : World} {ib pb tb n st wd ht : Nat} {V V' : World} (h : IpS w ib pb tb n st wd ht V) (hk : Keep Nil2 V V') : IpS w ib pb tb n st wd ht V' :=
  ⟨hk.get h.1 fun e => e, hk.get h.2.1 fun e => e, hk.get h.2.2.1 fun e => e, hk.get h.2.2.2.1 fun e => e, hk.get h.2.2.2.2.1 fun e => e, hk.get h.2.2.2.2.2.1 fun e => e, h.2.2.2.2.2.2.1.keep (by omega) hk, h.2.2.2.2.2.2.2.trans (hk.mono fun _ _ _ e => e.elim)⟩
theorem ipS_set {w : World} {ib pb tb n st wd ht : Nat} {V : World} (h : IpS w ib pb tb n st wd ht V) (hne : ib ≠ tb) (k : Nat) (v : Value) : IpS w ib pb tb n st wd ht (V.setCell ⟨tb, k, none⟩ v) := by
  have hk := keep_setCell V tb k v
  exact ⟨hk.get h.1 fun e => hne e.1, hk.get h.2.1 fun e => hne e.1, hk.get h.2.2.1 fun e => hne e.1, hk.get h.2.2.2.1 fun e => hne e.1, hk.get h.2.2.2.2.1 fun e => hne e.1, hk.get h.2.2.2.2.2.1 fun e => hne e.1, h.2.2.2.2.2.2.1.set k v, h.2.2.2.2.2.2.2.setCell v fun _ => rfl⟩
theorem ipS_store {w : World} {ib pb tb n st wd ht : Nat} {V : World} (h : IpS w ib pb tb n st wd ht V) (hne : ib ≠ tb) (v0 v1 v2 v3 v4 v5 v6 v7 : Value) : IpS w ib pb tb n st wd ht ((((((((V.setCell ⟨tb, 0, none⟩ (v0)).setCell ⟨tb, 1, none⟩ (v1)).setCell ⟨tb, 2, none⟩ (v2)).setCell ⟨tb, 3, none⟩ (v3)).setCell ⟨tb, 4, none⟩ (v4)).setCell ⟨tb, 5, none⟩ (v5)).setCell ⟨tb, 6, none⟩ (v6)).setCell ⟨tb, 7, none⟩ (v7)) := by
  exact ipS_set (ipS_set (ipS_set (ipS_set (ipS_set (ipS_set (ipS_set (ipS_set h hne _ _) hne _ _) hne _ _) hne _ _) hne _ _) hne _ _) hne _ _) hne _ _
/-- A new block of a picture's fields. -/
theorem ipS_start {w w1 : World} {ib pb n st wd ht : Nat} (hI : ImgAt w ib pb n st wd ht) (hw : w1 = w.alloc (.cells #[.int .i64 0, .int .i64 0, .int .i64 0, .int .i64 0, .int .i64 0, .int .i64 0, .slice none 0 0, .slice none 0 0] 26)) : IpS w1 ib pb w.heap.size n st wd ht w1 ∧ Keep Nil2 w w1 ∧ ib ≠ w.heap.size ∧ w.heap.size < w1.heap.size := by
  subst hw
  have k : Keep Nil2 w (w.alloc (.cells #[.int .i64 0, .int .i64 0, .int .i64 0, .int .i64 0, .int .i64 0, .int .i64 0, .slice none 0 0, .slice none 0 0] 26)) := (Keep.refl Nil2 w).alloc _
  have hlt : ib < w.heap.size := World.block_lt_of_cell? w _ hI.i0
  exact ⟨⟨k.get hI.i0 fun e => e, k.get hI.i1 fun e => e, k.get hI.i2 fun e => e, k.get hI.i3 fun e => e, k.get hI.i4 fun e => e, k.get hI.i5 fun e => e, hasN_alloc w _ 26 8 rfl, Keep.refl _ _⟩, k, by omega, by simp⟩
/-- picture over an image's fields. -/
theorem ipCall {w w1 : World} {ib pb tb n st wd ht : Nat} {l : List UInt8} (kind : Nat) (hb : BytesAt w pb 0 l) (hn : n = l.length) (hn0 : 0 < n) (hn2 : n ≤ 100000) (hk1 : Keep Nil2 w w1) (hpt : pb ≠ tb) (V : World) (hV : IpS w1 ib pb tb n st wd ht V) :
    Calls Tryz.prog 43 #[.int .i64 (kind : Int), .agg #[.int .i64 0, .int .i64 0, .int .i64 (wd : Int), .int .i64 (ht : Int)], .int .i64 (st : Int), .slice (some ⟨pb, 0, none⟩) n n] V fun e w' => ∃ g cap v0 v1 v2 v3 v4 v5 v6 v7, e = .returned (.agg #[.int .i64 (kind : Int), .int .i64 0, .int .i64 0, .int .i64 (wd : Int), .int .i64 (ht : Int), .int .i64 (st : Int), .slice (some ⟨g, 0, none⟩) n cap, .slice none 0 0]) ∧
      w'.cell? ⟨tb, 0, none⟩ = some v0 ∧ w'.cell? ⟨tb, 1, none⟩ = some v1 ∧ w'.cell? ⟨tb, 2, none⟩ = some v2 ∧ w'.cell? ⟨tb, 3, none⟩ = some v3 ∧ w'.cell? ⟨tb, 4, none⟩ = some v4 ∧ w'.cell? ⟨tb, 5, none⟩ = some v5 ∧ w'.cell? ⟨tb, 6, none⟩ = some v6 ∧ w'.cell? ⟨tb, 7, none⟩ = some v7 ∧ (∀ j, w'.frozen? ⟨tb, j, none⟩ = false) ∧ (BytesAt w' g 0 l ∧ w1.heap.size ≤ g ∧ g < w'.heap.size ∧ n ≤ cap) ∧ IpS w1 ib pb tb n st wd ht w' := by
  refine (implPicture (w := V) kind wd ht st n l hn0 pb 0 n hn ((hb.keep hk1 fun _ _ e => e).keep hV.2.2.2.2.2.2.2 fun _ _ e => hpt e) (by omega)).mono ?_
  rintro e w' ⟨g, cap, rfl, hbg, hg, hglt, hcap, hk⟩
  have hS := ipS_keep hV hk
  obtain ⟨v0, v1, v2, v3, v4, v5, v6, v7, h0, h1, h2, h3, h4, h5, h6, h7⟩ := hS.2.2.2.2.2.2.1.eight
  exact ⟨g, cap, v0, v1, v2, v3, v4, v5, v6, v7, rfl, h0, h1, h2, h3, h4, h5, h6, h7, hS.2.2.2.2.2.2.1.2, ⟨hbg, Nat.le_trans hV.2.2.2.2.2.2.2.size hg, hglt, hcap⟩, hS⟩
end Go.Proofs.YtnbbppjgamdfeaaGreatDoor
end
