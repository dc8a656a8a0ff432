/- laws.FnBack, part 39 of 54: P0. -/
import Derived.Test.YtnbbppjgamdfeaaGreatDoorY36
import Derived.Test.YtnbbppjgamdfeaaGreatDoorY37
import Derived.Test.YtnbbppjgamdfeaaGreatDoorY33
import Derived.Test.YtnbbppjgamdfeaaGreatDoorY16

/- The reference's prefixOf. -/
section
set_option linter.unusedVariables false
set_option linter.unusedSimpArgs false
namespace Go.Proofs.YtnbbppjgamdfeaaGreatDoor
open Go Go.RowKit

/-- The code that is being built: its counts in block cb, itself in block tb; the result's place rb. -/
structure PfA (w wr : World) (rb cb tb : Nat) (f : Nat → Nat) (lv : Value) : Prop where
  cnt : ∀ n, n < 16 → wr.cell? ⟨cb, n, none⟩ = some (.int .i64 (f n : Int))
  cfz : ∀ j, wr.frozen? ⟨cb, j, none⟩ = false
  t0 : wr.cell? ⟨tb, 0, none⟩ = some (.slice (some ⟨cb, 0, none⟩) 16 16)
  t1 : wr.cell? ⟨tb, 1, none⟩ = some lv
  tfz : ∀ j, wr.frozen? ⟨tb, j, none⟩ = false
  r0 : wr.cell? ⟨rb, 0, none⟩ = some (.slice none 0 0)
  r1 : wr.cell? ⟨rb, 1, none⟩ = some (.slice none 0 0)
  rfz : ∀ j, wr.frozen? ⟨rb, j, none⟩ = false
  keep : Keep Nil2 w wr
section
variable {w wr : World} {rb cb tb : Nat} {f : Nat → Nat} {lv : Value} (h : PfA w wr rb cb tb f lv)
include h
theorem PfA.kept {F : Nat → Nat → Prop} {w' : World} (hk : Keep F wr w') (hc : ∀ j, ¬ F cb j) (ht : ∀ j, ¬ F tb j) (hr : ∀ j, ¬ F rb j) (hw : Keep Nil2 w w') : PfA w w' rb cb tb f lv :=
  ⟨fun n hn => hk.get (h.cnt n hn) (hc _), fun j => hk.froz (World.block_lt_of_cell? wr _ (h.cnt 0 (by omega))) (h.cfz j) (hc j), hk.get h.t0 (ht _), hk.get h.t1 (ht _), fun j => hk.froz (World.block_lt_of_cell? wr _ h.t0) (h.tfz j) (ht j), hk.get h.r0 (hr _), hk.get h.r1 (hr _), fun j => hk.froz (World.block_lt_of_cell? wr _ h.r0) (h.rfz j) (hr j), hw⟩
/-- One word more. -/
theorem PfA.count (hct : cb ≠ tb) (hcr : cb ≠ rb) (hcw : w.heap.size ≤ cb) (x y : Nat) (hx : x < 16) {g : Nat → Nat} (hg : ∀ n, n < 16 → g n = if n = x then y else f n) : PfA w (wr.setCell ⟨cb, x, none⟩ (.int .i64 (y : Int))) rb cb tb g lv := by
  have hk := keep_setCell wr cb x (.int .i64 (y : Int))
  refine ⟨fun n hn => ?_, fun j => by rw [World.frozen?_setCell]; exact h.cfz j, hk.get h.t0 fun e => hct e.1.symm, hk.get h.t1 fun e => hct e.1.symm, fun j => by rw [World.frozen?_setCell]; exact h.tfz j, hk.get h.r0 fun e => hcr e.1.symm, hk.get h.r1 fun e => hcr e.1.symm, fun j => by rw [World.frozen?_setCell]; exact h.rfz j, h.keep.setNew hcw _⟩
  rw [hg n hn]
  by_cases e : n = x
  · subst e
    rw [if_pos rfl]
    exact World.cell?_setCell_same _ _ _ (h.cnt n hn)
  · rw [if_neg e]
    exact setF (h.cnt n hn) (fun e' => e e'.symm)
/-- The list's new value is laid. -/
theorem PfA.list (hct : cb ≠ tb) (htr : tb ≠ rb) (htw : w.heap.size ≤ tb) (v : Value) : PfA w (wr.setCell ⟨tb, 1, none⟩ v) rb cb tb f v := by
  have hk := keep_setCell wr tb 1 v
  exact ⟨fun n hn => hk.get (h.cnt n hn) fun e => hct e.1, fun j => by rw [World.frozen?_setCell]; exact h.cfz j, setF h.t0 (by decide), World.cell?_setCell_same _ _ _ h.t1, fun j => by rw [World.frozen?_setCell]; exact h.tfz j, hk.get h.r0 fun e => htr e.1.symm, hk.get h.r1 fun e => htr e.1.symm, fun j => by rw [World.frozen?_setCell]; exact h.rfz j, h.keep.setNew htw _⟩
end

set_option maxHeartbeats 8000000 in
set_option maxRecDepth 100000 in
theorem prefixOfL {w : World} {L : List Nat} (b o c n : Nat) (hn : n = L.length) (hL : CellsAt w b o (intsV L)) (hx : ∀ x ∈ L, x ≤ 15) (hlen : n ≤ 288) (hpos : 0 < (pfxList L 15).length) (hleft : ∀ n, n ≤ 15 → 0 ≤ pfxLeft L n ∧ pfxLeft L n ≤ 256) :
    Calls Tryz.prog 86 #[.slice (some ⟨b, o, none⟩) n c] w fun e w' => ∃ cb lv, e = .returned (.tuple #[.agg #[.slice (some ⟨cb, 0, none⟩) 16 16, lv], .int .i64 (pfxLeft L 15)]) ∧ (∀ n, 1 ≤ n → n < 16 → w'.cell? ⟨cb, n, none⟩ = some (.int .i64 (L.count n : Int))) ∧
      OwnV 3 1 w' w.heap.size lv (pfxList L 15).length (intsV (pfxList L 15)) ∧ w.heap.size ≤ cb ∧ Keep Nil2 w w' := by
  have HN := Lib.hid (And.intro hn (And.intro hx hleft))
  clear hn hx hleft
  go_enter Tryz.func86, Tryz.ntmps86
  obtain ⟨cs, hmk, hcs⟩ := makeInts (w.alloc (.cells #[.slice none 0 0, .slice none 0 0] 169)) .i64 .i64 16 (by omega)
  have hmk' : (Instr.makeSlice 32 (.int .i64 16) (.int .i64 16)).run Tryz.prog (w.alloc (.cells #[.slice none 0 0, .slice none 0 0] 169)) = .ok (.slice (some ⟨(w.alloc (.cells #[.slice none 0 0, .slice none 0 0] 169)).heap.size, 0, none⟩) 16 16) ((w.alloc (.cells #[.slice none 0 0, .slice none 0 0] 169)).alloc (.cells cs 3)) := hmk
  clear hmk
  go_wp2
  obtain ⟨rb, hrb⟩ : ∃ rb, rb = w.heap.size := ⟨_, rfl⟩
  obtain ⟨cb, hcb⟩ : ∃ cb, cb = w.heap.size + 1 := ⟨_, rfl⟩
  obtain ⟨tb, htb⟩ : ∃ tb, tb = w.heap.size + 1 + 1 := ⟨_, rfl⟩
  rw [← htb, ← hcb, ← hrb]
  obtain ⟨w1, hw1⟩ : ∃ w1, w1 = ((w.alloc (.cells #[.slice none 0 0, .slice none 0 0] 169)).alloc (.cells cs 3)).alloc (.cells #[.slice (some ⟨cb, 0, none⟩) 16 16, .slice none 0 0] 169) := ⟨_, rfl⟩
  rw [← hw1]
  have H1 := Lib.hid (show PfA w w1 rb cb tb (cntUp L 0) (.slice none 0 0) ∧ tb < w1.heap.size ∧ rb < cb ∧ cb < tb ∧ w.heap.size ≤ rb by
    have ha := heap_alloc_new w (.cells #[.slice none 0 0, .slice none 0 0] 169)
    have hb := heap_alloc_new (w.alloc (.cells #[.slice none 0 0, .slice none 0 0] 169)) (.cells cs 3)
    have hc := heap_alloc_new ((w.alloc (.cells #[.slice none 0 0, .slice none 0 0] 169)).alloc (.cells cs 3)) (.cells #[.slice (some ⟨cb, 0, none⟩) 16 16, .slice none 0 0] 169)
    have s1 : (w.alloc (.cells #[.slice none 0 0, .slice none 0 0] 169)).heap.size = cb := by rw [hcb]; simp
    have s2 : ((w.alloc (.cells #[.slice none 0 0, .slice none 0 0] 169)).alloc (.cells cs 3)).heap.size = tb := by rw [htb]; simp
    rw [s1] at hb
    rw [s2] at hc
    rw [← hrb] at ha
    have k3 : Keep Nil2 ((w.alloc (.cells #[.slice none 0 0, .slice none 0 0] 169)).alloc (.cells cs 3)) w1 := by rw [hw1]; exact (Keep.refl Nil2 _).alloc _
    have k2 : Keep Nil2 (w.alloc (.cells #[.slice none 0 0, .slice none 0 0] 169)) w1 := ((Keep.refl Nil2 _).alloc _).trans k3
    have k1 : Keep Nil2 w w1 := ((Keep.refl Nil2 _).alloc _).trans k2
    rw [← hw1] at hc
    have hlc : cs.toList.length = 16 := by rw [hcs]; simp [intsV]
    refine ⟨⟨fun n hn => k3.get ?_ fun e => e, fun j => k3.froz (by rw [s2]; omega) (frozen_of_row _ _ _ _ _ hb) fun e => e, cell_of_row _ _ _ _ _ _ hc, cell_of_row _ _ _ _ _ _ hc, fun j => frozen_of_row _ _ _ _ _ hc, k2.get (cell_of_row _ _ _ _ _ _ ha) fun e => e, k2.get (cell_of_row _ _ _ _ _ _ ha) fun e => e, fun j => k2.froz (by rw [s1]; omega) (frozen_of_row _ _ _ _ _ ha) fun e => e, k1⟩, ?_, by omega, by omega, by omega⟩
    · rw [cell_of_row _ _ _ _ _ _ hb, ← Array.getElem?_toList, hcs, cntUp_zero]
      rw [intsV_get (List.replicate 16 0) n 0 (by rw [List.getElem?_replicate, if_pos hn])]
    · rw [hw1]; simp; omega)
  have hord := H1.out.2
  clear hw1 hmk' hcs hrb hcb htb
  go_loopg [6, 15] n (fun G v6 v15 wr => ∃ k g, g = G ∧ k + g = n ∧ v15 = .int .i64 (k : Int) ∧ PfA w wr rb cb tb (cntUp L k) (.slice none 0 0))
  case atStart => exact ⟨0, n, rfl, by omega, rfl, H1.out.1⟩
  case round =>
    obtain ⟨k, g, hG, hkg, rfl, hA⟩ := hrel
    have HG := Lib.hid hG
    clear hG
    by_cases hk : k < n
    · have d1 : decide ((k : Int) < (n : Int)) = true := by simp; omega
      have hkI : (k : Int) < n := by omega
      obtain ⟨x, hx⟩ : ∃ x, L[k]? = some x := ⟨L[k]'(by rw [← HN.out.1]; exact hk), List.getElem?_eq_getElem _⟩
      have hx15 : x ≤ 15 := HN.out.2.1 x (List.mem_of_getElem? hx)
      have cl := (hL.keep hA.keep fun _ _ e => e).int k x hx
      have hcu := fun n => cntUp_succ L k x n hx
      have HX := Lib.hid hcu
      clear hx hcu
      by_cases hx0 : 0 < x
      · have d2 : decide ((0 : Int) < (x : Int)) = true := by simp; omega
        have hxI : (x : Int) < 16 := by omega
        have t0 := hA.t0
        have cx := hA.cnt x (by omega)
        have fx := hA.cfz x
        have hcl := cntUp_le L k x
        obtain ⟨y, hy⟩ : ∃ y, y = cntUp L k x := ⟨_, rfl⟩
        rw [← hy] at cx hcl
        have e1 : IntKind.i64.wrap ((y : Int) + 1) = ((y + 1 : Nat) : Int) := by rw [IntWalk.i64_in _ (by omega)]; omega
        have HA := Lib.hid (hA.count (by omega) (by omega) (by omega) x (y + 1) (by omega) (g := cntUp L (k + 1)) fun m hm => by
          rw [HX.out m]
          by_cases e : m = x
          · subst e; rw [if_pos ⟨rfl, by omega⟩, if_pos rfl, hy]
          · rw [if_neg (fun e' => e e'.1.symm), if_neg e]; rfl)
        clear hA hy
        go_wp2
        go_roundg (g - 1)
        case measure => have := HG.out; omega
        case rel => exact ⟨k + 1, g - 1, rfl, by omega, by go_num, by first | exact HA.out | (have := HA.out; simpa using this)⟩
      · have hx00 : x = 0 := by omega
        subst hx00
        have HA := Lib.hid (show PfA w wr rb cb tb (cntUp L (k + 1)) (.slice none 0 0) from
          ⟨fun m hm => by rw [HX.out m, if_neg (fun e => e.2 e.1.symm)]; exact hA.cnt m hm, hA.cfz, hA.t0, hA.t1, hA.tfz, hA.r0, hA.r1, hA.rfz, hA.keep⟩)
        clear hA
        go_wp2
        go_roundg (g - 1)
        case measure => have := HG.out; omega
        case rel => exact ⟨k + 1, g - 1, rfl, by omega, by go_num, HA.out⟩
    · obtain rfl : k = n := by omega
      have d1 : decide ((k : Int) < (k : Int)) = false := by simp
      have HA := Lib.hid hA
      have hlt : tb < wr.heap.size := World.block_lt_of_cell? wr _ hA.t0
      clear hA
      go_wp2
      go_loopg [7, 8, 9, 10, 46] 16 (fun G v7 v8 v9 v10 v46 wr => ∃ (q g an : Nat) (lv : Value), g = G ∧ q + g = 17 ∧ 0 < g ∧ 1 ≤ q ∧ v8 = .int .i64 (q : Int) ∧ v7 = .int .i64 (an : Int) ∧ pfxLeft L (q - 1) = (an : Int) ∧ PfA w wr rb cb tb (cntUp L k) lv ∧ OwnV 3 1 wr (tb + 1) lv (pfxList L (q - 1)).length (intsV (pfxList L (q - 1))))
      case atStart => exact ⟨1, 16, 1, .slice none 0 0, rfl, by omega, by omega, by omega, rfl, rfl, rfl, HA.out, OwnV.nil 3 1 _ _⟩
      case round =>
        obtain ⟨q, g, an, lv, hG, hmg, hg0, hq1, rfl, rfl, han, hA, hO⟩ := hrel
        have HG := Lib.hid hG
        clear hG
        by_cases hm : q < 16
        · have d1 : decide ((q : Int) < 16) = true := by simp; omega
          have hqI : (q : Int) < 16 := by omega
          have t0 := hA.t0
          have cq := hA.cnt q hm
          obtain ⟨cq', hcq'⟩ : ∃ cq', cq' = cntUp L k q := ⟨_, rfl⟩
          rw [← hcq'] at cq
          have hcq2 : cq' = L.count q := by rw [hcq']; exact cntUp_all L k q (by rw [HN.out.1]; exact Nat.le_refl _) (by omega)
          have hcle : cq' ≤ k := by rw [hcq']; exact cntUp_le _ _ _
          have hlb := HN.out.2.2 q (by omega)
          have hla := HN.out.2.2 (q - 1) (by omega)
          have hstep : pfxLeft L q = pfxLeft L (q - 1) * 2 - (L.count q : Int) := by
            have := pfxLeft_succ L (q - 1)
            rwa [show q - 1 + 1 = q by omega] at this
          rw [han, ← hcq2] at hstep
          rw [han] at hla
          obtain ⟨bn, hbn⟩ : ∃ bn : Nat, pfxLeft L q = (bn : Int) := ⟨(pfxLeft L q).toNat, by omega⟩
          rw [hbn] at hstep hlb
          obtain ⟨a2, ha2⟩ : ∃ a2, a2 = an * 2 := ⟨_, rfl⟩
          have e1 : IntKind.i64.wrap ((an : Int) * 2) = (a2 : Int) := by rw [IntWalk.i64_in _ (by omega)]; omega
          have e2 : IntKind.i64.wrap ((a2 : Int) - (cq' : Int)) = (bn : Int) := by rw [IntWalk.i64_in _ (by omega)]; omega
          have d3 : decide ((bn : Int) < 0) = false := by simp
          have HB := Lib.hid (And.intro hA (And.intro hO (And.intro hbn (show pfxList L q = pfxList L (q - 1) ++ placesFrom q 0 L by
            have := pfxList_succ L (q - 1)
            rwa [show q - 1 + 1 = q by omega] at this))))
          clear hA hO han hcq' hcq2 hlb hla hstep hbn ha2
          go_wp2
          go_loopg [9, 10, 46] k (fun G v9 v10 v46 wr => ∃ (s g nl : Nat) (lv' : Value), g = G ∧ s + g = k ∧ v46 = .int .i64 (s : Int) ∧ (pfxList L (q - 1) ++ placesFrom q 0 (L.take s)).length = nl ∧ PfA w wr rb cb tb (cntUp L k) lv' ∧ OwnV 3 1 wr (tb + 1) lv' nl (intsV (pfxList L (q - 1) ++ placesFrom q 0 (L.take s))))
          case atStart => exact ⟨0, k, (pfxList L (q - 1)).length, lv, rfl, by omega, rfl, by rw [List.take_zero, placesFrom_zero, List.append_nil], HB.out.1, by rw [List.take_zero, placesFrom_zero, List.append_nil]; exact HB.out.2.1⟩
          case round =>
            obtain ⟨s, g2, nl, lv', hG2, hsg, rfl, hnl, hA, hO⟩ := hrel
            have HG2 := Lib.hid hG2
            have HNL := Lib.hid hnl
            clear hG2
            by_cases hs : s < k
            · have d2 : decide ((s : Int) < (k : Int)) = true := by simp; omega
              have hsI : (s : Int) < k := by omega
              obtain ⟨x, hx⟩ : ∃ x, L[s]? = some x := ⟨L[s]'(by rw [← HN.out.1]; exact hs), List.getElem?_eq_getElem _⟩
              have cl := (hL.keep hA.keep fun _ _ e => e).int s x hx
              have HP := Lib.hid (placesFrom_take q L s x hx)
              have hll : nl ≤ 16 * 288 := by
                rw [← hnl, List.length_append]
                have h1 := pfxList_le L (q - 1)
                have h2 := placesFrom_length q 0 (L.take s)
                have h3 : (L.take s).length ≤ k := by rw [List.length_take, HN.out.1]; omega
                have h4 : (q - 1) * L.length ≤ 15 * 288 := Nat.mul_le_mul (by omega) (by rw [← HN.out.1]; exact hlen)
                omega
              have hltb : tb < wr.heap.size := World.block_lt_of_cell? wr _ hA.t0
              clear hx hnl
              by_cases hxq : x = q
              · subst hxq
                have d4 : ((x : Int) == (x : Int)) = true := by simp
                have t1 := hA.t1
                have HA := Lib.hid (And.intro hA hO)
                clear hA hO
                go_wp2_with (at_builtin; refine goalStop ?_)
                refine ⟨?_⟩
                have kal := (Keep.refl Nil2 wr).alloc (.cells #[.int .i64 (s : Int)] 3)
                have hO1 := HA.out.2.keep0 kal
                have hge := fun j e => (hO1.block_ge j e).1
                have hA1 := HA.out.1.kept kal (fun _ e => e) (fun _ e => e) (fun _ e => e) (HA.out.1.keep.trans kal)
                refine wpList_append_vals rfl (.tmp 55) (.tmp 57) 32 3 rfl _ 1 8 Tryz.underlying32 info3 rfl (by decide) (by decide) (tb + 1) lv' _ _ rfl hO1 _ 1 [.int .i64 (s : Int)] rfl (SrcV.litAt' _ _ 3 1 _ rfl (by simp)) rfl (by intro u hu; simp at hu; subst hu; rfl) (by omega) (by have := kal.size; omega) ?_
                intro v4 w4 h4 hk4 hv4
                have hA4 := hA1.kept hk4 (fun _ e => by have := hge _ e; omega) (fun _ e => by have := hge _ e; omega) (fun _ e => by have := hge _ e; omega) (keep_layV' hA1.keep hO1 hk4)
                have t4 := hA4.t1
                have f4 := hA4.tfz 1
                obtain ⟨g4, cp4, hv4', -⟩ := h4.out (by omega)
                subst hv4'
                have e1 : intsV (pfxList L (x - 1) ++ placesFrom x 0 (L.take (s + 1))) = intsV (pfxList L (x - 1) ++ placesFrom x 0 (L.take s)) ++ [.int .i64 (s : Int)] := by
                  rw [HP.out, if_pos trivial, ← List.append_assoc, intsV_append]; rfl
                have e2 : (pfxList L (x - 1) ++ placesFrom x 0 (L.take (s + 1))).length = nl + 1 := by
                  rw [HP.out, if_pos trivial, ← List.append_assoc, List.length_append, HNL.out]; rfl
                have HF := Lib.hid (show PfA w (w4.setCell ⟨tb, 1, none⟩ (.slice (some ⟨g4, 0, none⟩) (nl + 1) cp4)) rb cb tb (cntUp L k) (.slice (some ⟨g4, 0, none⟩) (nl + 1) cp4) ∧ OwnV 3 1 (w4.setCell ⟨tb, 1, none⟩ (.slice (some ⟨g4, 0, none⟩) (nl + 1) cp4)) (tb + 1) (.slice (some ⟨g4, 0, none⟩) (nl + 1) cp4) (nl + 1) (intsV (pfxList L (x - 1) ++ placesFrom x 0 (L.take (s + 1)))) by
                  refine ⟨hA4.list (by omega) (by omega) (by omega) _, ?_⟩
                  rw [e1]
                  exact h4.keep (keep_setCell w4 tb 1 _) fun i _ hi e => by omega)
                have HE2 := Lib.hid e2
                clear e1 e2
                clear h4 hk4 hv4 hA4 hA1 hO1 hge kal cl t1
                go_wp2
                go_roundg (g2 - 1)
                case measure => have := HG2.out; omega
                case rel => exact ⟨s + 1, g2 - 1, nl + 1, _, rfl, by omega, by go_num, HE2.out, HF.out.1, HF.out.2⟩
              · have d4 : ((x : Int) == (q : Int)) = false := by simp; omega
                have HA := Lib.hid (show (pfxList L (q - 1) ++ placesFrom q 0 (L.take (s + 1))).length = nl ∧ PfA w wr rb cb tb (cntUp L k) lv' ∧ OwnV 3 1 wr (tb + 1) lv' nl (intsV (pfxList L (q - 1) ++ placesFrom q 0 (L.take (s + 1)))) by
                  rw [HP.out, if_neg hxq, List.append_nil]
                  exact ⟨HNL.out, hA, hO⟩)
                clear hA hO
                go_wp2
                go_roundg (g2 - 1)
                case measure => have := HG2.out; omega
                case rel => exact ⟨s + 1, g2 - 1, nl, lv', rfl, by omega, by go_num, HA.out.1, HA.out.2.1, HA.out.2.2⟩
            · obtain rfl : s = k := by omega
              have d2 : decide ((s : Int) < (s : Int)) = false := by simp
              have HA := Lib.hid (And.intro hA (show OwnV 3 1 wr (tb + 1) lv' (pfxList L q).length (intsV (pfxList L q)) by
                rw [List.take_of_length_le (by rw [HN.out.1]; exact Nat.le_refl _)] at hO hnl
                rw [HB.out.2.2.2, hnl]
                exact hO))
              clear hA hO hnl
              go_wp2
              go_roundg (g - 1)
              case measure => have := HG.out; omega
              case rel => exact ⟨q + 1, g - 1, bn, lv', rfl, by omega, by omega, by omega, by go_num, rfl, HB.out.2.2.1, HA.out.1, HA.out.2⟩
        · obtain rfl : q = 16 := by omega
          have d1 : decide (((16 : Nat) : Int) < 16) = false := by decide
          have t0 := hA.t0
          have t1 := hA.t1
          have r0 := hA.r0
          have r1 := hA.r1
          have rf := hA.rfz
          obtain ⟨lg, lc, hlv, -⟩ := hO.out hpos
          subst hlv
          have HA := Lib.hid (And.intro hA (And.intro hO han))
          clear hA hO han
          go_wp2
          refine bodyPost_ret (v := .tuple #[.agg #[.slice (some ⟨cb, 0, none⟩) 16 16, .slice (some ⟨lg, 0, none⟩) (pfxList L 15).length lc], .int .i64 (an : Int)]) ?_ rfl ?_
          · simp only [results, Tryz.f86]
            go_simp
          · have hkk := ((keep_setCell wr rb 0 (.slice (some ⟨cb, 0, none⟩) 16 16)).mono (G := fun x _ => x = rb) fun _ _ _ e => e.1).trans ((keep_setCell (wr.setCell ⟨rb, 0, none⟩ (.slice (some ⟨cb, 0, none⟩) 16 16)) rb 1 (.slice (some ⟨lg, 0, none⟩) (pfxList L 15).length lc)).mono (G := fun x _ => x = rb) fun _ _ _ e => e.1)
            refine ⟨cb, _, by rw [HA.out.2.2], fun m h1 h2 => ?_, (HA.out.2.1.keep hkk fun x _ hx e => by omega).lower (by omega), by omega, (HA.out.1.keep.setNew (by omega) _).setNew (by omega) _⟩
            rw [← cntUp_all L k m (by rw [HN.out.1]; exact Nat.le_refl _) (by omega)]
            exact hkk.get (HA.out.1.cnt m h2) fun e => by omega
end Go.Proofs.YtnbbppjgamdfeaaGreatDoor
end
