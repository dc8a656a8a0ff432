/- laws.FnBack, part 44 of 54: Q6. -/
import Derived.Test.YtnbbppjgamdfeaaGreatDoorY43

/- The reference's Read over the whole file. -/
section
set_option linter.unusedVariables false
set_option linter.unusedSimpArgs false
namespace Go.Proofs.YtnbbppjgamdfeaaGreatDoor
open Go Go.RowKit

theorem RdSt.c8 {w : World} {fb base wd ht depth colour : Nat} {R : List UInt8} {pal : List Shade4} {cs : List Chunk2} (h : RdSt w fb base wd ht depth colour R pal cs) : ∃ u, w.cell? ⟨fb, 8, none⟩ = some u ∧ ∀ j, w.frozen? ⟨fb, j, none⟩ = false := by
  obtain ⟨d, h1, _⟩ := h
  exact ⟨_, h1.c8, h1.fz⟩
theorem RdSt.name {w : World} {fb base wd ht depth colour : Nat} {R : List UInt8} {pal : List Shade4} {n dt : List UInt8} {cs : List Chunk2} (h : RdSt w fb base wd ht depth colour R pal ((n, dt) :: cs)) : n.length = 4 := by
  have tl : ∀ l : List Chunk2, (∀ x ∈ l, x.1.length = 4) → ∀ x ∈ l ++ tailC R, x.1.length = 4 := fun l hl x hx => by
    rcases List.mem_append.1 hx with hx | hx
    · exact hl x hx
    · unfold tailC at hx
      simp only [List.mem_cons, List.not_mem_nil, or_false] at hx
      rcases hx with rfl | rfl <;> rfl
  have cl : ∀ x ∈ clrC pal, x.1.length = 4 := fun x hx => by
    unfold clrC at hx
    split at hx
    · simp only [List.mem_cons, List.not_mem_nil, or_false] at hx
      subst hx; rfl
    · simp at hx
  have ml : ∀ x ∈ midC colour pal, x.1.length = 4 := fun x hx => by
    unfold midC at hx
    split at hx
    · rcases List.mem_cons.1 hx with rfl | hx
      · rfl
      · exact cl x hx
    · simp at hx
  have key : ∀ l : List Chunk2, (∀ x ∈ l, x.1.length = 4) → (n, dt) :: cs = l → n.length = 4 := fun l hl e => hl (n, dt) (by rw [← e]; exact List.mem_cons_self)
  obtain ⟨d, _, _, h3⟩ := h
  rcases h3 with h3 | ⟨_, h3 | h3 | h3 | h3 | h3⟩
  · have := h3.1
    rw [chunksB_eq] at this
    injection this with e
    injection e with e
    rw [e]; rfl
  · exact key _ (tl _ ml) h3.1
  · exact key _ (tl _ cl) h3.2.1
  · exact key _ (tl [] (by simp)) h3.2.1
  · have := h3.1
    injection this with e
    injection e with e
    rw [e]; rfl
  · cases h3.1
theorem cells_cons {w : World} {b k : Nat} {D : List UInt8} {x0 x1 x2 x3 : UInt8} (h : BytesAt w b 0 D) (hx : (D.drop k).take 4 = [x0, x1, x2, x3]) : BytesAt w b (0 + k) [x0, x1, x2, x3] := by
  have := (h.drop k).take 4
  rwa [hx] at this

set_option maxHeartbeats 8000000 in
set_option maxRecDepth 100000 in
theorem specRead {w : World} {D R : List UInt8} {wd ht depth colour : Nat} {pal : List Shade4} (db cap n : Nat) (hb : BytesAt w db 0 D) (hD : D = fileB wd ht depth colour R pal) (hn : n = D.length) (hcap : n ≤ cap) (hDl : n ≤ 1000000) (ok : RowsOk wd ht depth colour pal.length R) (hp : colour = 3 → pal.length ≤ 200) :
    Calls Tryz.prog 6 #[.slice (some ⟨db, 0, none⟩) n cap] w fun e w' => ∃ g dcap used ao pn pc, e = .returned (.agg #[.int .i64 (wd : Int), .int .i64 (ht : Int), .int .i64 (depth : Int), .int .i64 (colour : Int), .bool false, .slice (some ⟨g, 0, none⟩) (ht * wd) dcap, .slice ao pn pc, .slice none 0 0, .int .i64 used, .int .i64 0]) ∧
      CellsAt w' g 0 (dotsV (dotsUp R wd depth colour pal (ht * wd))) ∧ w.heap.size ≤ g ∧ Keep Nil2 w w' := by
  rw [fileB_flat] at hD
  have h8 : D.drop 8 = flatC (chunksB wd ht depth colour R pal) := by rw [hD]; exact List.drop_left' rfl
  have h88 : D.take 8 = sigB := by rw [hD]; exact List.take_left' rfl
  have hl8 : 8 ≤ n := by rw [hn, hD, List.length_append]; exact Nat.le_add_right _ _
  have hdb : db < w.heap.size := hb.lt (by omega)
  have H0 := Lib.hid (And.intro hb (And.intro hn (And.intro h8 (And.intro h88 (And.intro ok hp)))))
  clear hb hD hn h8 h88 ok hp
  go_enter Tryz.func6, Tryz.ntmps6
  go_wp2_with (go_at_call 12; fail)
  obtain ⟨rb, hrb⟩ : ∃ rb, rb = w.heap.size := ⟨_, rfl⟩
  obtain ⟨fb, hfb⟩ : ∃ fb, fb = w.heap.size + 1 := ⟨_, rfl⟩
  obtain ⟨w1, hw1⟩ : ∃ w1, w1 = (w.alloc (.cells #[.int .i64 0, .int .i64 0, .int .i64 0, .int .i64 0, .bool false, .slice none 0 0, .slice none 0 0, .slice none 0 0, .int .i64 0, .int .i64 0] 34)).alloc (.cells #[.int .i64 0, .int .i64 0, .int .i64 0, .int .i64 0, .bool false, .slice none 0 0, .slice none 0 0, .slice none 0 0, .int .i64 0, .int .i64 0, .int .i64 0, .slice none 0 0] 53) := ⟨_, rfl⟩
  rw [← hw1, ← hfb, ← hrb]
  obtain ⟨base, hbs⟩ : ∃ base, base = fb + 1 := ⟨_, rfl⟩
  have H1 := Lib.hid (show RdSt w1 fb base wd ht depth colour R pal (chunksB wd ht depth colour R pal) ∧ Keep Nil2 w w1 ∧ base ≤ w1.heap.size ∧ (∀ j, w1.frozen? ⟨rb, j, none⟩ = false) ∧
      w1.cell? ⟨rb, 0, none⟩ = some (.int .i64 0) ∧ w1.cell? ⟨rb, 1, none⟩ = some (.int .i64 0) ∧ w1.cell? ⟨rb, 2, none⟩ = some (.int .i64 0) ∧ w1.cell? ⟨rb, 3, none⟩ = some (.int .i64 0) ∧ w1.cell? ⟨rb, 4, none⟩ = some (.bool false) ∧ w1.cell? ⟨rb, 5, none⟩ = some (.slice none 0 0) ∧ w1.cell? ⟨rb, 6, none⟩ = some (.slice none 0 0) ∧ w1.cell? ⟨rb, 7, none⟩ = some (.slice none 0 0) ∧ w1.cell? ⟨rb, 8, none⟩ = some (.int .i64 0) ∧ w1.cell? ⟨rb, 9, none⟩ = some (.int .i64 0) by
    have ha := heap_alloc_new w (.cells #[.int .i64 0, .int .i64 0, .int .i64 0, .int .i64 0, .bool false, .slice none 0 0, .slice none 0 0, .slice none 0 0, .int .i64 0, .int .i64 0] 34)
    have hb := heap_alloc_new (w.alloc (.cells #[.int .i64 0, .int .i64 0, .int .i64 0, .int .i64 0, .bool false, .slice none 0 0, .slice none 0 0, .slice none 0 0, .int .i64 0, .int .i64 0] 34)) (.cells #[.int .i64 0, .int .i64 0, .int .i64 0, .int .i64 0, .bool false, .slice none 0 0, .slice none 0 0, .slice none 0 0, .int .i64 0, .int .i64 0, .int .i64 0, .slice none 0 0] 53)
    have s1 : (w.alloc (.cells #[.int .i64 0, .int .i64 0, .int .i64 0, .int .i64 0, .bool false, .slice none 0 0, .slice none 0 0, .slice none 0 0, .int .i64 0, .int .i64 0] 34)).heap.size = fb := by rw [hfb]; simp
    rw [s1, ← hw1] at hb
    rw [← hrb] at ha
    have k2 : Keep Nil2 (w.alloc (.cells #[.int .i64 0, .int .i64 0, .int .i64 0, .int .i64 0, .bool false, .slice none 0 0, .slice none 0 0, .slice none 0 0, .int .i64 0, .int .i64 0] 34)) w1 := by rw [hw1]; exact (Keep.refl Nil2 _).alloc _
    have gr : ∀ j v, (#[Value.int .i64 0, .int .i64 0, .int .i64 0, .int .i64 0, .bool false, .slice none 0 0, .slice none 0 0, .slice none 0 0, .int .i64 0, .int .i64 0] : Array Value)[j]? = some v → w1.cell? ⟨rb, j, none⟩ = some v := fun j v hv => k2.get ((cell_of_row _ _ _ _ _ _ ha).trans hv) fun e => e
    have gf : ∀ j v, (#[Value.int .i64 0, .int .i64 0, .int .i64 0, .int .i64 0, .bool false, .slice none 0 0, .slice none 0 0, .slice none 0 0, .int .i64 0, .int .i64 0, .int .i64 0, .slice none 0 0] : Array Value)[j]? = some v → w1.cell? ⟨fb, j, none⟩ = some v := fun j v hv => (cell_of_row _ _ _ _ _ _ hb).trans hv
    refine ⟨⟨⟨0, 0, 0, 0, NilS, NilS, NilS, 0, 0, NilS⟩, ⟨gf 0 _ rfl, gf 1 _ rfl, gf 2 _ rfl, gf 3 _ rfl, gf 4 _ rfl, gf 5 _ rfl, gf 6 _ rfl, gf 7 _ rfl, gf 8 _ rfl, gf 9 _ rfl, gf 10 _ rfl, gf 11 _ rfl, fun j => frozen_of_row _ _ _ _ _ hb⟩, rfl, .inl ⟨rfl, rfl, rfl, rfl, rfl, rfl⟩⟩, ((Keep.refl Nil2 w).alloc _).trans k2, by rw [hw1]; simp; omega, fun j => k2.froz (by rw [s1]; omega) (frozen_of_row _ _ _ _ _ ha) fun e => e, gr 0 _ rfl, gr 1 _ rfl, gr 2 _ rfl, gr 3 _ rfl, gr 4 _ rfl, gr 5 _ rfl, gr 6 _ rfl, gr 7 _ rfl, gr 8 _ rfl, gr 9 _ rfl⟩)
  have hord : rb < fb ∧ fb < base ∧ db < rb ∧ w.heap.size ≤ rb := by omega
  have HRB := Lib.hid hrb
  clear hw1 hrb hfb hbs
  refine (specSig w1).mono ?_
  rintro e w2 ⟨sg, rfl, hsg, hk2⟩
  obtain ⟨sg', cap', e, _, _, _, hsb, _⟩ := hsg.slice (by decide)
  have eg : sg = sg' := by injection e with e; injection e with e; injection e
  clear e
  subst eg
  have H2 := Lib.hid (And.intro hsb hk2)
  clear hsg hsb hk2
  go_wp2
  go_loopg [4, 5, 13] 8 (fun G v4 v5 v13 wr => ∃ k g : Nat, g = G ∧ k + g = 8 ∧ v13 = .int .i64 (k : Int) ∧ Keep Nil2 w2 wr)
  case atStart => exact ⟨0, 8, rfl, by omega, rfl, Keep.refl _ _⟩
  case round =>
    obtain ⟨k, g, hG, hkg, rfl, hK⟩ := hrel
    have HG := Lib.hid hG
    clear hG
    by_cases hk : k < 8
    · have d1 : decide ((k : Int) < 8) = true := by simp; omega
      have hk8 : (k : Int) < 8 := by omega
      have hkn : (k : Int) < n := by omega
      have hkn2 : ¬ n ≤ k := by omega
      obtain ⟨x, hx⟩ : ∃ x, sigB[k]? = some x := ⟨sigB[k]'(by simpa [sigB] using hk), List.getElem?_eq_getElem _⟩
      have hDx : D[k]? = some x := by
        have := H0.out.2.2.2.1
        rw [← this, List.getElem?_take_of_lt hk] at hx
        exact hx
      have cs := (H2.out.1.keep hK fun _ _ e => e).at_ k x hx
      have cd := (H0.out.1.keep ((H1.out.2.1.trans H2.out.2).trans hK) fun _ _ e => e).at_ k x hDx
      rw [Nat.zero_add] at cs cd
      have HK := Lib.hid hK
      clear hx hDx hK
      go_wp2
      go_roundg (g - 1)
      case measure => have := HG.out; omega
      case rel => exact ⟨k + 1, g - 1, rfl, by omega, by go_num, HK.out⟩
    · obtain rfl : k = 8 := by omega
      have d1 : decide (((8 : Nat) : Int) < 8) = false := by decide
      have HK := Lib.hid hK
      clear hK
      go_wp2
      have hk12 : Keep Nil2 w1 wr := H2.out.2.trans HK.out
      have H3 := Lib.hid (And.intro (H1.out.1.keep hk12) (hk12.mono (G := fun x _ => x = fb ∨ base ≤ x) fun _ _ _ e => e.elim))
      clear hk12
      go_loopg [6, 7, 8] (chunksB wd ht depth colour R pal).length (fun G v6 v7 v8 wr => ∃ (cs : List Chunk2) (g pos : Nat), g = G ∧ cs.length = g ∧ v6 = .int .i64 (pos : Int) ∧ D.drop pos = flatC cs ∧ RdSt wr fb base wd ht depth colour R pal cs ∧ Keep (fun x _ => x = fb ∨ base ≤ x) w1 wr)
      case atStart => exact ⟨_, _, 8, rfl, rfl, rfl, H0.out.2.2.1, H3.out.1, H3.out.2⟩
      case round =>
        obtain ⟨cs, g, pos, hG, hgl, rfl, hdp, hS, hK⟩ := hrel
        have HG := Lib.hid (And.intro hG hgl)
        clear hG hgl
        cases cs with
        | nil =>
          obtain ⟨d, ao, pn, pc, dg, dc, hR, q1, q2, q3, q4, q5, q6, q7, q8, q9, q10, q11⟩ := hS.end_
          have c10 := hR.c10
          rw [q5] at c10
          have f0 := hR.c0
          have f1 := hR.c1
          have f2 := hR.c2
          have f3 := hR.c3
          have f4 := hR.c4
          have f5 := hR.c5
          have f6 := hR.c6
          have f7 := hR.c7
          have f8 := hR.c8
          have f9 := hR.c9
          rw [q1] at f0
          rw [q2] at f1
          rw [q3] at f2
          rw [q4] at f3
          rw [q8] at f5
          rw [q7] at f6
          rw [q6] at f7
          unfold NilS at f7
          have hrx : ∀ y, ¬ (fun (x _ : Nat) => x = fb ∨ base ≤ x) rb y := fun y e => by rcases e with e | e <;> omega
          have g0 := hK.get H1.out.2.2.2.2.1 (hrx 0)
          have g1 := hK.get H1.out.2.2.2.2.2.1 (hrx 1)
          have g2 := hK.get H1.out.2.2.2.2.2.2.1 (hrx 2)
          have g3 := hK.get H1.out.2.2.2.2.2.2.2.1 (hrx 3)
          have g4 := hK.get H1.out.2.2.2.2.2.2.2.2.1 (hrx 4)
          have g5 := hK.get H1.out.2.2.2.2.2.2.2.2.2.1 (hrx 5)
          have g6 := hK.get H1.out.2.2.2.2.2.2.2.2.2.2.1 (hrx 6)
          have g7 := hK.get H1.out.2.2.2.2.2.2.2.2.2.2.2.1 (hrx 7)
          have g8 := hK.get H1.out.2.2.2.2.2.2.2.2.2.2.2.2.1 (hrx 8)
          have g9 := hK.get H1.out.2.2.2.2.2.2.2.2.2.2.2.2.2 (hrx 9)
          have gz : ∀ j, wr.frozen? ⟨rb, j, none⟩ = false := fun j => hK.froz (World.block_lt_of_cell? w1 _ H1.out.2.2.2.2.1) (H1.out.2.2.2.1 j) (hrx j)
          obtain ⟨us, hus⟩ : ∃ us, us = d.used := ⟨_, rfl⟩
          rw [← hus] at f8
          obtain ⟨ms, hms⟩ : ∃ ms, ms = ht * wd := ⟨_, rfl⟩
          rw [← hms] at f5
          have HX := Lib.hid (And.intro q11 (And.intro hK (And.intro hms q9)))
          have hdg : dg ≠ rb := by omega
          clear hS hR q1 q2 q3 q4 q5 q6 q7 q8 q9 q10 q11 hK hus hms hdp hrx
          go_wp2
          obtain ⟨wf, hwf⟩ : ∃ wf, wf = ((((((((((wr.setCell ⟨rb, 0, none⟩ (.int .i64 (wd : Int))).setCell ⟨rb, 1, none⟩ (.int .i64 (ht : Int))).setCell ⟨rb, 2, none⟩ (.int .i64 (depth : Int))).setCell ⟨rb, 3, none⟩ (.int .i64 (colour : Int))).setCell ⟨rb, 4, none⟩ (.bool false)).setCell ⟨rb, 5, none⟩ (.slice (some ⟨dg, 0, none⟩) ms dc)).setCell ⟨rb, 6, none⟩ (.slice ao pn pc)).setCell ⟨rb, 7, none⟩ (.slice none 0 0)).setCell ⟨rb, 8, none⟩ (.int .i64 (us : Int))).setCell ⟨rb, 9, none⟩ (.int .i64 0)) := ⟨_, rfl⟩
          rw [← hwf]
          have hk10 := keep_setCells rb [.int .i64 (wd : Int), .int .i64 (ht : Int), .int .i64 (depth : Int), .int .i64 (colour : Int), .bool false, .slice (some ⟨dg, 0, none⟩) ms dc, .slice ao pn pc, .slice none 0 0, .int .i64 (us : Int), .int .i64 0] 0 wr
          have hc10 := World.cell?_setCells_in rb [.int .i64 (wd : Int), .int .i64 (ht : Int), .int .i64 (depth : Int), .int .i64 (colour : Int), .bool false, .slice (some ⟨dg, 0, none⟩) ms dc, .slice ao pn pc, .slice none 0 0, .int .i64 (us : Int), .int .i64 0] 0 wr (fun j hj => by
            have hj' : j < 10 := hj
            rw [Nat.zero_add]
            rcases (show j = 0 ∨ j = 1 ∨ j = 2 ∨ j = 3 ∨ j = 4 ∨ j = 5 ∨ j = 6 ∨ j = 7 ∨ j = 8 ∨ j = 9 by omega) with rfl | rfl | rfl | rfl | rfl | rfl | rfl | rfl | rfl | rfl
            · rw [g0]; rfl
            · rw [g1]; rfl
            · rw [g2]; rfl
            · rw [g3]; rfl
            · rw [g4]; rfl
            · rw [g5]; rfl
            · rw [g6]; rfl
            · rw [g7]; rfl
            · rw [g8]; rfl
            · rw [g9]; rfl)
          rw [show wr.setCells rb 0 [.int .i64 (wd : Int), .int .i64 (ht : Int), .int .i64 (depth : Int), .int .i64 (colour : Int), .bool false, .slice (some ⟨dg, 0, none⟩) ms dc, .slice ao pn pc, .slice none 0 0, .int .i64 (us : Int), .int .i64 0] = wf from hwf.symm] at hk10 hc10
          have y0 := hc10 0 (show 0 < 10 by decide)
          have y1 := hc10 1 (show 1 < 10 by decide)
          have y2 := hc10 2 (show 2 < 10 by decide)
          have y3 := hc10 3 (show 3 < 10 by decide)
          have y4 := hc10 4 (show 4 < 10 by decide)
          have y5 := hc10 5 (show 5 < 10 by decide)
          have y6 := hc10 6 (show 6 < 10 by decide)
          have y7 := hc10 7 (show 7 < 10 by decide)
          have y8 := hc10 8 (show 8 < 10 by decide)
          have y9 := hc10 9 (show 9 < 10 by decide)
          simp only [Nat.zero_add, List.getElem_cons_zero, List.getElem_cons_succ] at y0 y1 y2 y3 y4 y5 y6 y7 y8 y9
          have HW := Lib.hid (hk10.mono (G := fun x _ => x = rb) fun _ _ _ e => e.1)
          clear hwf hk10 hc10 g0 g1 g2 g3 g4 g5 g6 g7 g8 g9 gz f0 f1 f2 f3 f4 f5 f6 f7 f8 f9 c10
          refine bodyPost_ret (v := .agg #[.int .i64 (wd : Int), .int .i64 (ht : Int), .int .i64 (depth : Int), .int .i64 (colour : Int), .bool false, .slice (some ⟨dg, 0, none⟩) ms dc, .slice ao pn pc, .slice none 0 0, .int .i64 (us : Int), .int .i64 0]) ?_ rfl ?_
          · simp only [results, Tryz.f6]
            go_simp
          · exact ⟨dg, dc, us, ao, pn, pc, by rw [HX.out.2.2.1], HX.out.1.keep HW.out fun _ _ e => hdg e, by have := HX.out.2.2.2; omega, (H1.out.2.1.then (F := Nil2) HX.out.2.1 (fun _ _ _ e => e) fun x _ hx e => by rcases e with e | e <;> omega).then (F := Nil2) HW.out (fun _ _ _ e => e) fun x _ hx e => by omega⟩
        | cons ch cs =>
          obtain ⟨nm, dt⟩ := ch
          have hnm := hS.name
          have hch := chunkAt hdp hnm
          obtain ⟨st, c10, hst6, fz⟩ := hS.stage
          have hle := hch.le
          rw [← H0.out.2.1] at hle
          obtain ⟨L, hL⟩ : ∃ L, L = dt.length := ⟨_, rfl⟩
          rw [← hL] at hle
          have hbr := H0.out.1.keep (Keep.then (F := fun x _ => x = fb ∨ base ≤ x) H1.out.2.1 hK (fun _ _ _ e => e.elim) fun _ _ _ e => e) fun _ _ e => by rcases e with e | e <;> omega
          have z1 : ((st : Int) == 6) = false := by simp; omega
          obtain ⟨p4, hp4⟩ : ∃ p4, p4 = pos + 4 := ⟨_, rfl⟩
          obtain ⟨p8, hp8⟩ : ∃ p8, p8 = pos + 8 := ⟨_, rfl⟩
          obtain ⟨p12, hp12⟩ : ∃ p12, p12 = pos + 12 := ⟨_, rfl⟩
          obtain ⟨pL, hpL⟩ : ∃ pL, pL = pos + 8 + L := ⟨_, rfl⟩
          obtain ⟨nx, hnx⟩ : ∃ nx, nx = pos + 12 + L := ⟨_, rfl⟩
          obtain ⟨l12, hl12⟩ : ∃ l12, l12 = 12 + L := ⟨_, rfl⟩
          obtain ⟨r1, hr1⟩ : ∃ r1, r1 = n - pos := ⟨_, rfl⟩
          obtain ⟨r2, hr2⟩ : ∃ r2, r2 = r1 - 12 := ⟨_, rfl⟩
          have e1 : IntKind.i64.wrap ((pos : Int) + 12) = (p12 : Int) := by rw [IntWalk.i64_in _ (by omega)]; omega
          have e2 : IntKind.i64.wrap ((pos : Int) + 8) = (p8 : Int) := by rw [IntWalk.i64_in _ (by omega)]; omega
          have e3 : IntKind.i64.wrap ((pos : Int) + 4) = (p4 : Int) := by rw [IntWalk.i64_in _ (by omega)]; omega
          have e4 : IntKind.i64.wrap ((p8 : Int) + (L : Int)) = (pL : Int) := by rw [IntWalk.i64_in _ (by omega)]; omega
          have e5 : IntKind.i64.wrap (12 + (L : Int)) = (l12 : Int) := by rw [IntWalk.i64_in _ (by omega)]; omega
          have e6 : IntKind.i64.wrap ((pos : Int) + (l12 : Int)) = (nx : Int) := by rw [IntWalk.i64_in _ (by omega)]; omega
          have e7 : IntKind.i64.wrap ((n : Int) - (pos : Int)) = (r1 : Int) := by rw [IntWalk.i64_in _ (by omega)]; omega
          have e8 : IntKind.i64.wrap ((r1 : Int) - 12) = (r2 : Int) := by rw [IntWalk.i64_in _ (by omega)]; omega
          have e9 : IntKind.i64.wrap (L : Int) = (L : Int) := IntWalk.i64_in _ (by omega)
          have z2 : ¬ n < p12 := by omega
          have z3 : ¬ r2 < L := by omega
          have z4 : (p4 : Int) ≤ (pL : Int) := by omega
          have z5 : (pL : Int) ≤ cap := by omega
          have z6 : (p4 : Int) ≤ (p8 : Int) := by omega
          have z7 : (p8 : Int) ≤ cap := by omega
          have z8 : (p8 : Int) ≤ (pL : Int) := by omega
          have z9 : ¬ cap = p4 := by omega
          have z10 : ¬ cap = p8 := by omega
          have HE := Lib.hid (And.intro hp4 (And.intro hp8 (And.intro hp12 (And.intro hpL (And.intro hnx (And.intro hl12 (And.intro hr1 (And.intro hr2 (And.intro hle hst6)))))))))
          have hsz := cells_cons hbr hch.size
          have hsm := cells_cons hbr hch.sum
          rw [← hL, ← hpL] at hsm
          have hnmB : BytesAt wr db (0 + p4) nm := by
            have := (hbr.drop (pos + 4)).take 4
            rw [hch.name, ← hp4] at this
            exact this
          have hboB : BytesAt wr db (0 + p4) (nm ++ dt) := by
            have := (hbr.drop (pos + 4)).take (4 + dt.length)
            rw [hch.both, ← hp4] at this
            exact this
          have hdtB : BytesAt wr db (0 + p8) dt := by
            have := (hbr.drop (pos + 8)).take dt.length
            rw [hch.data, ← hp8] at this
            exact this
          rw [← hL] at hsz
          have HC := Lib.hid (And.intro hS (And.intro hK (And.intro hsz (And.intro hsm (And.intro hnmB (And.intro hboB (And.intro hdtB (And.intro hL (And.intro hnm (show D.drop nx = flatC cs by rw [hnx, hL]; exact hch.next))))))))))
          clear hS hK hsz hsm hnmB hboB hdtB hdp hch hbr hL hnm hp4 hp8 hp12 hpL hnx hl12 hr1 hr2 hle hst6
          have hLle : L ≤ 1000000 := by have := HE.out; omega
          have hposle : pos + 12 ≤ n := by have := HE.out; omega
          go_wp2_with (go_at_call 13; fail)
          refine (specfour (x0 := b8 (L / 16777216)) (x1 := b8 (L / 65536)) (x2 := b8 (L / 256)) (x3 := b8 L) db 0 n cap pos (by omega) (by omega) HC.out.2.2.1).mono ?_
          rintro e w3 ⟨rfl, qa, rfl⟩
          rw [be4_four L (by omega)]
          go_wp2_with (go_at_call 13; fail)
          refine (specfour (x0 := b8 (L / 16777216)) (x1 := b8 (L / 65536)) (x2 := b8 (L / 256)) (x3 := b8 L) db 0 n cap pos (by omega) (by omega) (HC.out.2.2.1.drewN qa)).mono ?_
          rintro e w3 ⟨rfl, qb, rfl⟩
          rw [be4_four L (by omega)]
          go_wp2
          obtain ⟨w3, hw3⟩ : ∃ w3, w3 = (wr.drewN qa).drewN qb := ⟨_, rfl⟩
          have k3 : Keep Nil2 wr w3 := by rw [hw3]; exact ((Keep.refl Nil2 wr).drewN _).drewN _
          have hw3' : w3 = wr.drewN (qa + qb) := by rw [hw3, World.drewN_drewN]
          first | rw [← hw3] | rw [← hw3']
          have H3b := Lib.hid k3
          have hcl := crcOf_lt (nm ++ dt)
          have KA := Lib.hid (fun q => (show Calls Tryz.prog 13 #[.slice (some ⟨db, 0, none⟩) n cap, .int .i64 (pL : Int)] (w3.drewN q) fun e w' => e = .returned (.int .u32 (crcOf (nm ++ dt) : Int)) ∧ ∃ m, w' = (w3.drewN q).drewN m from by
            have h1 := specfour (w := w3.drewN q) (x0 := b8 (crcOf (nm ++ dt) / 16777216)) (x1 := b8 (crcOf (nm ++ dt) / 65536)) (x2 := b8 (crcOf (nm ++ dt) / 256)) (x3 := b8 (crcOf (nm ++ dt))) db 0 n cap pL (by have := HE.out; omega) (by omega) ((HC.out.2.2.2.1.keep k3 fun _ _ e => e).drewN q)
            rwa [be4_four _ hcl] at h1))
          have KB := Lib.hid (fun q => (show Calls Tryz.prog 14 #[.slice (some ⟨db, 0 + p4, none⟩) (pL - p4) (cap - p4)] (w3.drewN q) fun e w' => e = .returned (.int .u32 (crcOf (nm ++ dt) : Int)) ∧ w' = w3.drewN q from
            specCrc (nm ++ dt) db (0 + p4) (pL - p4) (cap - p4) (by have := HE.out; have := HC.out; rw [List.length_append]; omega) ((HC.out.2.2.2.2.2.1.keep k3 fun _ _ e => e).drewN q) (by have := HE.out; have := HC.out; rw [List.length_append]; omega)))
          obtain ⟨cr, hcr⟩ : ∃ cr, cr = crcOf (nm ++ dt) := ⟨_, rfl⟩
          rw [← hcr] at KA KB
          rw [Nat.zero_add] at KB
          clear hw3 hw3' k3 c10 fz hcr hcl
          go_quiet (first | ((go_at_call 13; exact Calls.quiet_of (KA.out _))) | ((go_at_call 14; exact Calls.quiet_of_same (KB.out _))))
          have d13 : ((cr : Int) == (cr : Int)) = true := by simp
          go_wp2
          obtain ⟨w4, hw4⟩ : ∃ w4, w4 = w3.drewN nq := ⟨_, rfl⟩
          rw [← hw4]
          have k4 : Keep Nil2 wr w4 := by rw [hw4]; exact H3b.out.drewN _
          have k4d : Keep Nil2 wr w4.drew := k4.drew
          have hsl : p8 - p4 = nm.length := by have := HE.out; have := HC.out.2.2.2.2.2.2.2.2.1; omega
          have hstr := strOf 9 Tryz.underlying9 (c := cap - p4) (HC.out.2.2.2.2.1.keep k4d fun _ _ e => e) (n := p8 - p4) hsl
          rw [Nat.zero_add] at hstr
          have KC : Hid (Calls Tryz.prog 15 #[.pointer (some ⟨fb, 0, none⟩), .string (strB nm), .slice (some ⟨db, p8, none⟩) (pL - p8) (cap - p8)] w4.drew fun e w' => e = .returned (.int .i64 0) ∧ RdSt w' fb base wd ht depth colour R pal cs ∧ Keep (fun x _ => x = fb ∨ base ≤ x) w4.drew w') := Lib.hid (by
            have hb8 := HC.out.2.2.2.2.2.2.1.keep k4d fun _ _ e => e
            rw [Nat.zero_add] at hb8
            have h1 := chunkStep (HC.out.1.keep k4d) H0.out.2.2.2.2.1 H0.out.2.2.2.2.2 db p8 (cap - p8) hb8 (by omega) (by omega) (by omega) (by have := H1.out.2.2.1; have := HC.out.2.1.size; have := k4d.size; omega)
            have e1 : dt.length = pL - p8 := by have := HE.out; have := HC.out.2.2.2.2.2.2.2.1; omega
            rwa [e1] at h1)
          have HK4 := Lib.hid k4d
          clear hw4 k4 k4d hsl
          go_region_with (go_at_call 15; refine KC.out.mono ?_; rintro e w5 ⟨rfl, h5, hk5⟩)
          obtain ⟨u8, c8, fz⟩ := h5.c8
          have HF := Lib.hid (And.intro (h5.used (by omega) nx) ((((HC.out.2.1.trans (HK4.out.mono fun _ _ _ e => e.elim)).trans hk5)).setCell (b := fb) (o := 8) (.int .i64 (nx : Int)) fun _ => .inl rfl))
          clear h5 hk5 hstr
          go_wp2
          go_roundg (g - 1)
          case measure => have := HG.out; have h1 : cs.length + 1 = g := this.2; omega
          case rel => exact ⟨cs, g - 1, nx, rfl, by have := HG.out; have h1 : cs.length + 1 = g := this.2; omega, rfl, HC.out.2.2.2.2.2.2.2.2.2, HF.out.1, HF.out.2⟩
end Go.Proofs.YtnbbppjgamdfeaaGreatDoor
end
