/- laws.FnBack, part 31 of 54: H0. -/
import Derived.Test.YtnbbppjgamdfeaaGreatDoorY30

/- package png: Decode over the file. -/
section
set_option linter.unusedVariables false
set_option linter.unusedSimpArgs false
namespace Go.Proofs.YtnbbppjgamdfeaaGreatDoor
open Go Go.RowKit

/-- A decoder that is new. -/
def dv0 : Dv := ⟨.nilIface, 0, 0, 0, .slice none 0 0, 0, 0, 0, 0, false⟩
/-- The world with a new decoder. -/
def DecW (w : World) (rb : Nat) (w2 : World) : Prop := w2 = (w.alloc (.cells #[.int .u32 0] 93)).alloc (.cells ((Tryz.zeroCells99.setIfInBounds 0 (.iface 59 (.pointer (some ⟨rb, 0, none⟩)))).setIfInBounds 2 (.pointer (some ⟨w.heap.size, 0, none⟩))) 99)
theorem z99s : Tryz.zeroCells99.size = 786 := by kernel_rfl
theorem decW_keep {w w2 : World} {rb : Nat} (h : DecW w rb w2) : Keep Nil2 w w2 := by rw [h]; exact ((Keep.refl Nil2 w).alloc _).alloc _
theorem decW_dec {w w2 : World} {rb : Nat} (h : DecW w rb w2) : Dec w2 (w.heap.size + 1) rb w.heap.size dv0 := by
  unfold DecW at h
  subst h
  have hs : (w.alloc (.cells #[.int .u32 0] 93)).heap.size = w.heap.size + 1 := by simp
  have hh := heap_alloc_new (w.alloc (.cells #[.int .u32 0] 93)) (.cells ((Tryz.zeroCells99.setIfInBounds 0 (.iface 59 (.pointer (some ⟨rb, 0, none⟩)))).setIfInBounds 2 (.pointer (some ⟨w.heap.size, 0, none⟩))) 99)
  rw [hs] at hh
  have hc : ∀ j, ((w.alloc (.cells #[.int .u32 0] 93)).alloc (.cells ((Tryz.zeroCells99.setIfInBounds 0 (.iface 59 (.pointer (some ⟨rb, 0, none⟩)))).setIfInBounds 2 (.pointer (some ⟨w.heap.size, 0, none⟩))) 99)).cell? ⟨w.heap.size + 1, j, none⟩ = ((Tryz.zeroCells99.setIfInBounds 0 (.iface 59 (.pointer (some ⟨rb, 0, none⟩)))).setIfInBounds 2 (.pointer (some ⟨w.heap.size, 0, none⟩)))[j]? := fun j => cell_of_row _ _ _ _ _ _ hh
  have hf : ∀ j, ((w.alloc (.cells #[.int .u32 0] 93)).alloc (.cells ((Tryz.zeroCells99.setIfInBounds 0 (.iface 59 (.pointer (some ⟨rb, 0, none⟩)))).setIfInBounds 2 (.pointer (some ⟨w.heap.size, 0, none⟩))) 99)).frozen? ⟨w.heap.size + 1, j, none⟩ = false := fun j => frozen_of_row _ _ _ _ _ hh
  have hz := z99s
  have hg : ∀ j v, j ≠ 0 → j ≠ 2 → Tryz.zeroCells99[j]? = some v → ((w.alloc (.cells #[.int .u32 0] 93)).alloc (.cells ((Tryz.zeroCells99.setIfInBounds 0 (.iface 59 (.pointer (some ⟨rb, 0, none⟩)))).setIfInBounds 2 (.pointer (some ⟨w.heap.size, 0, none⟩))) 99)).cell? ⟨w.heap.size + 1, j, none⟩ = some v := fun j v h0 h2 hv => by
    rw [hc, Array.getElem?_setIfInBounds_ne (by omega), Array.getElem?_setIfInBounds_ne (by omega), hv]
  refine ⟨?_, hg 1 _ (by omega) (by omega) (by kernel_rfl), ?_, hg 3 _ (by omega) (by omega) (by kernel_rfl), hg 4 _ (by omega) (by omega) (by kernel_rfl), hg 5 _ (by omega) (by omega) (by kernel_rfl), hg 6 _ (by omega) (by omega) (by kernel_rfl), hg 7 _ (by omega) (by omega) (by kernel_rfl), hg 8 _ (by omega) (by omega) (by kernel_rfl), hg 9 _ (by omega) (by omega) (by kernel_rfl), fun j hj => ⟨⟨_, hg (10 + j) _ (by omega) (by omega) (Array.getElem?_eq_getElem (by omega))⟩, hf _⟩, hg 778 _ (by omega) (by omega) (by kernel_rfl), hg 779 _ (by omega) (by omega) (by kernel_rfl), hf⟩
  · rw [hc, Array.getElem?_setIfInBounds_ne (by omega), Array.getElem?_setIfInBounds_self_of_lt (by omega)]
  · rw [hc, Array.getElem?_setIfInBounds_self_of_lt (by simp only [Array.size_setIfInBounds]; omega)]
theorem decW_crc {w w2 : World} {rb : Nat} (h : DecW w rb w2) : CrcSt w2 w.heap.size 4294967295 := by
  unfold DecW at h
  subst h
  have hh := heap_alloc_new w (.cells #[.int .u32 0] 93)
  have hk : Keep Nil2 (w.alloc (.cells #[.int .u32 0] 93)) ((w.alloc (.cells #[.int .u32 0] 93)).alloc (.cells ((Tryz.zeroCells99.setIfInBounds 0 (.iface 59 (.pointer (some ⟨rb, 0, none⟩)))).setIfInBounds 2 (.pointer (some ⟨w.heap.size, 0, none⟩))) 99)) := (Keep.refl Nil2 _).alloc _
  have hlt : w.heap.size < (w.alloc (.cells #[.int .u32 0] 93)).heap.size := by simp
  have h1 : (w.alloc (.cells #[.int .u32 0] 93)).cell? ⟨w.heap.size, 0, none⟩ = some (.int .u32 0) := by rw [cell_of_row _ _ _ _ _ _ hh]; rfl
  have h2 : (w.alloc (.cells #[.int .u32 0] 93)).frozen? ⟨w.heap.size, 0, none⟩ = false := frozen_of_row _ _ _ _ _ hh
  refine ⟨hk.get h1 fun e => e, hk.froz hlt h2 fun e => e, by omega⟩

/-- What Decode hands back: the picture, its palette. -/
def Decoded (w w' : World) (iv : Value) (R : List UInt8) (wd ht depth colour : Nat) (pal : List Shade4) : Prop :=
  ∃ palv, Pict w' w.heap.size iv R wd ht depth colour palv ∧ (colour = 3 → ∃ pb, palv = .slice (some ⟨pb, 0, none⟩) pal.length 256 ∧ PalAt w' pb pal (lastClear pal pal.length) ∧ w.heap.size ≤ pb)

theorem kCb_eq (c d : Nat) : kCb' c d = kCb c d := rfl
theorem kCb_pal {depth : Nat} (h : depth = 1 ∨ depth = 2 ∨ depth = 4 ∨ depth = 8) : (kCb 3 depth : Int) = 7 ∨ (kCb 3 depth : Int) = 8 ∨ (kCb 3 depth : Int) = 9 ∨ (kCb 3 depth : Int) = 10 := by
  rcases h with rfl | rfl | rfl | rfl <;> decide

set_option maxHeartbeats 8000000 in
set_option maxRecDepth 100000 in
theorem pngDecode {w : World} {rb db cap eb wd ht depth colour : Nat} {D R : List UInt8} {pal : List Shade4} (hbr : BR w rb db cap D 0) (htab : TabOk w) (heof : w.cell? ⟨0, 0, none⟩ = some (eofV eb)) (hn : rb ≠ 3 ∧ rb ≠ 0 ∧ db ≠ 0 ∧ db ≠ 3)
    (hD : D = fileB wd ht depth colour R pal) (hDl : D.length ≤ 1073741824) (ok : RowsOk wd ht depth colour pal.length R) (hp : colour = 3 → pal.length ≤ 200) :
    Calls Tryz.prog 27 #[.iface 59 (.pointer (some ⟨rb, 0, none⟩))] w fun e w' => ∃ iv, e = .returned (.tuple #[iv, .nilIface]) ∧ Decoded w w' iv R wd ht depth colour pal ∧ Keep (fun x _ => x = rb) w w' := by
  rw [fileB_flat] at hD
  have h8 : D.drop 8 = flatC (chunksB wd ht depth colour R pal) := by rw [hD]; exact List.drop_left' rfl
  have h88 : D.take 8 = sigB := by rw [hD]; exact List.take_left' rfl
  have hl8 : 8 ≤ D.length := by rw [hD, List.length_append]; exact Nat.le_add_right _ _
  have hrb : rb < w.heap.size := World.block_lt_of_cell? w _ hbr.cs
  have hdb : db < w.heap.size := hbr.data.lt (by omega)
  have h3 : 3 < w.heap.size := World.block_lt_of_cell? w _ (htab 0 (by omega))
  have h0 : 0 < w.heap.size := World.block_lt_of_cell? w _ heof
  unfold chunksB at h8
  have hcH := chunkAt h8 rfl
  have HF := Lib.hid (And.intro h8 (And.intro h88 hcH))
  clear h8 h88 hD hcH
  go_enter Tryz.func27, Tryz.ntmps27
  go_wp2_with (go_at_call 40; fail)
  obtain ⟨w2, hw2⟩ : ∃ w2, DecW w rb w2 := ⟨_, rfl⟩
  have hw2' := hw2
  unfold DecW at hw2'
  rw [← hw2']
  clear hw2'
  have hkw := decW_keep hw2
  have hP0 : Png w2 (w.heap.size + 1) rb w.heap.size db cap D dv0 0 4294967295 :=
    ⟨decW_dec hw2, hbr.keep hkw (fun _ e => e) (fun _ e => e), decW_crc hw2, htab.keep hkw fun _ e => e, by omega, by omega, by omega, by omega, by omega, by omega, hn.1, by omega⟩
  have hsz2 : w2.heap.size = w.heap.size + 2 := by unfold DecW at hw2; rw [hw2]; simp
  obtain ⟨bd, hbd⟩ : ∃ bd, bd = w.heap.size + 1 := ⟨_, rfl⟩
  obtain ⟨cb, hcb⟩ : ∃ cb, cb = w.heap.size := ⟨_, rfl⟩
  rw [← hbd, ← hcb] at hP0
  rw [← hbd]
  have HK0 := Lib.hid (And.intro hkw (And.intro (hkw.get heof fun e => e) (And.intro hbd (And.intro hcb hsz2))))
  have h00 : ¬ Fp bd rb cb 0 0 ∧ 0 ≠ db := ⟨fun e => by rcases e with e | e | e <;> omega, by omega⟩
  have HB := Lib.hid (And.intro hbr htab)
  clear hw2 hkw hbr htab heof hbd hcb hsz2
  refine (checkHeader hP0 hl8 HF.out.2.1).mono ?_
  rintro e w3 ⟨rfl, g3, hk3⟩
  clear hP0
  have f8 := g3.dec.f8
  have HE := fun V (hk : Keep (Fp bd rb cb) w2 V) => hk.get HK0.out.2.1 h00.1
  have HEO := Lib.hid HE
  clear HE
  have q5 : ((0 : Int) == 5) = false := by decide
  have HOK := Lib.hid (And.intro ok hp)
  clear ok hp
  by_cases hc : colour = 3
  · subst hc
    have HNP := Lib.hid (show (0 < pal.length ∧ pal.length ≤ 200) ∧ ((depth = 1 ∨ depth = 2 ∨ depth = 4 ∨ depth = 8) ∧ pal.length ≤ 2 ^ depth) ∧ ((kCb' 3 depth : Int) = 7 ∨ (kCb' 3 depth : Int) = 8 ∨ (kCb' 3 depth : Int) = 9 ∨ (kCb' 3 depth : Int) = 10) by
      have hk : depth = 1 ∨ depth = 2 ∨ depth = 4 ∨ depth = 8 := by
        rcases HOK.out.1.kind with h | h | h | h
        · omega
        · omega
        · omega
        · exact h.2
      exact ⟨⟨(HOK.out.1.cnt rfl).1, HOK.out.2 rfl⟩, ⟨hk, (HOK.out.1.cnt rfl).2⟩, kCb_pal hk⟩)
    have hcs := HF.out.2.2
    rw [if_pos rfl] at hcs
    have hcP := chunkAt hcs.next rfl
    have hnx0 := hcP.next
    rw [shadesB_length, show 8 + 12 + (headB wd ht depth 3).length + 12 + 3 * pal.length = 45 + 3 * pal.length by have := headB_length wd ht depth 3; omega] at hnx0
    by_cases hlc : 0 < lastClear pal pal.length
    · rw [if_pos hlc] at hnx0 hcs hcP
      have hnx : D.drop (45 + 3 * pal.length) = flatC ((ntRNS, (clearsB pal).take (lastClear pal pal.length)) :: [(nIDAT, keptB R), (nIEND, [])]) := hnx0
      clear hnx0
      have hcT := chunkAt hnx rfl
      have hll := lastClear_le pal pal.length
      have hct : ((clearsB pal).take (lastClear pal pal.length)).length = lastClear pal pal.length := by rw [List.length_take]; simp [clearsB]; omega
      have hnx2 : D.drop (57 + 3 * pal.length + lastClear pal pal.length) = flatC ((nIDAT, keptB R) :: [(nIEND, [])]) := by
        have h1 := hcT.next
        rw [hct, show 45 + 3 * pal.length + 12 + lastClear pal pal.length = 57 + 3 * pal.length + lastClear pal pal.length by omega] at h1
        exact h1
      have hcI := chunkAt (cs := [(nIEND, [])]) hnx2 rfl
      have hcE := chunkAt (cs := []) hcI.next rfl
      have HC := Lib.hid (And.intro hcs (And.intro hcP (And.intro hcT (And.intro hcI hcE))))
      clear hcs hcP hcT hcI hcE hnx hnx2 hct
      go_wp2
      refine wp_loop_rounds 6 ?_
      rw [rounds_succ]
      go_wp2_with (go_at_call 41; fail)
      refine (pcIHDR g3 rfl HC.out.1 hDl ⟨HOK.out.1.w0, HOK.out.1.w60⟩ ⟨HOK.out.1.h0, HOK.out.1.h60⟩ HOK.out.1.kind).mono ?_
      rintro e w4 ⟨rfl, g4, hk4⟩
      have k4 := hk3.trans hk4
      have f8' := g4.dec.f8
      have hsz4 := k4.size
      clear f8 g3 hk3 hk4
      go_wp2
      rw [rounds_succ]
      go_wp2_with (go_at_call 41; fail)
      refine (pcPLTE (depth := depth) g4 rfl HC.out.2.1 hDl rfl HNP.out.1 rfl HNP.out.2.1 HNP.out.2.2).mono ?_
      rintro e w5 ⟨rfl, pb, g5, hPA, hpb, hk5⟩
      have k5 : Keep (fun x y => Fp bd rb cb x y ∨ w2.heap.size ≤ x) w2 w5 := (k4.trans hk5).mono fun _ _ _ e => .inl e
      have k5' := k4.trans hk5
      have f85 := g5.dec.f8
      have g5' := g5
      rw [show 8 + 25 + 8 + 3 * pal.length + 4 = 45 + 3 * pal.length by omega] at g5'
      clear f8' g4 k4 hk5 g5
      go_wp2
      rw [rounds_succ]
      go_wp2_with (go_at_call 41; fail)
      have hne : PalNe bd rb cb db pb := by have hK2 := HK0.out.2.2; exact ⟨by omega, by omega, by omega, by omega, by omega⟩
      refine (pctRNS (np := pal.length) (m := lastClear pal pal.length) (pb := pb) g5' rfl HC.out.2.2.1 hDl rfl ⟨hlc, hll⟩ HNP.out.1.2 HNP.out.2.2 rfl hPA hne).mono ?_
      rintro e w6 ⟨rfl, g6, hPA6, hk6⟩
      have k6 : Keep (fun x y => Fp bd rb cb x y ∨ w2.heap.size ≤ x) w2 w6 := k5.trans (hk6.mono fun x y _ (e : Fp bd rb cb x y ∨ x = pb) => show Fp bd rb cb x y ∨ w2.heap.size ≤ x from e.elim .inl fun e => .inr (by omega))
      have he6 := k6.get HK0.out.2.1 (fun e => by have h2 := HK0.out.2.2; rcases e with e | e; exact h00.1 e; omega)
      have f86 := g6.dec.f8
      have g6' := g6
      rw [show 45 + 3 * pal.length + 8 + lastClear pal pal.length + 4 = 57 + 3 * pal.length + lastClear pal pal.length by omega] at g6'
      clear f85 g5' k5 k5' hk6 g6 hPA
      go_wp2
      rw [rounds_succ]
      go_wp2_with (go_at_call 41; fail)
      refine (pcIDAT3 g6' rfl HC.out.2.2.2.1 hDl HOK.out.1 rfl rfl rfl rfl rfl rfl _ (fun _ => ⟨rfl, pb, 256, rfl, by have := HNP.out.1; omega⟩) he6 h00).mono ?_
      rintro e w8 ⟨rfl, iv, hPi, g8, hk8⟩
      have k8 := k6.then hk8 (fun _ _ _ e => e) (fun _ _ _ e => .inl e)
      have f88 := g8.dec.f8
      have hsz5 := k6.size
      have hP8 := hPA6.keep hk8 fun j e => by have hK2 := HK0.out.2.2; rcases e with e | e | e <;> omega
      have HPI := Lib.hid (And.intro hPi (And.intro hsz5 hP8))
      have g8' := g8
      rw [show 57 + 3 * pal.length + lastClear pal pal.length + 8 + (R.length + 13) + 4 = 57 + 3 * pal.length + lastClear pal pal.length + 12 + (keptB R).length by rw [keptB_length]; omega] at g8'
      clear hPi hP8
      go_wp2
      rw [rounds_succ]
      go_wp2_with (go_at_call 41; fail)
      refine (pcIEND g8' rfl HC.out.2.2.2.2 hDl).mono ?_
      rintro e w9 ⟨rfl, g9, hk9⟩
      have k9 := k8.then hk9 (fun _ _ _ e => e) fun _ _ _ e => .inl e
      have f89 := g9.dec.f8
      have f19 := g9.dec.f1
      have HPE := Lib.hid (And.intro (HPI.out.1.keep hk9 fun x y hx e => by have := HK0.out.2.2; have := HPI.out.2.1; rcases e with e | e | e <;> omega) (HPI.out.2.2.keep hk9 fun j e => by have hK2 := HK0.out.2.2; rcases e with e | e | e <;> omega))
      clear f86 g6' k6 f88 g8 g8' g9 k8 hk8 hk9
      have HK9 := Lib.hid k9
      clear k9
      go_wp2
      rw [rounds_succ]
      go_wp2
      go_ret2
      refine ⟨iv, rfl, ⟨_, HPE.out.1.lower (by have := HK0.out.2.2; have := HPI.out.2.1; omega), fun _ => ⟨pb, rfl, HPE.out.2, by have := HK0.out.2.2; omega⟩⟩, HK0.out.1.then HK9.out (fun _ _ _ e => e.elim) fun x y hx e => ?_⟩
      have := HK0.out.2.2
      rcases e with (e | e | e) | e
      · omega
      · exact e
      · omega
      · omega
    · rw [if_neg hlc] at hnx0 hcs hcP
      have hnx : D.drop (45 + 3 * pal.length) = flatC ((nIDAT, keptB R) :: [(nIEND, [])]) := hnx0
      clear hnx0
      have hcI := chunkAt (cs := [(nIEND, [])]) hnx rfl
      have hcE := chunkAt (cs := []) hcI.next rfl
      have HC := Lib.hid (And.intro hcs (And.intro hcP (And.intro hcI hcE)))
      clear hcs hcP hcI hcE hnx
      have hl0 : lastClear pal pal.length = 0 := by omega
      have HL0 := Lib.hid hl0
      clear hl0
      go_wp2
      refine wp_loop_rounds 5 ?_
      rw [rounds_succ]
      go_wp2_with (go_at_call 41; fail)
      refine (pcIHDR g3 rfl HC.out.1 hDl ⟨HOK.out.1.w0, HOK.out.1.w60⟩ ⟨HOK.out.1.h0, HOK.out.1.h60⟩ HOK.out.1.kind).mono ?_
      rintro e w4 ⟨rfl, g4, hk4⟩
      have k4 := hk3.trans hk4
      have f8' := g4.dec.f8
      have hsz4 := k4.size
      clear f8 g3 hk3 hk4
      go_wp2
      rw [rounds_succ]
      go_wp2_with (go_at_call 41; fail)
      refine (pcPLTE (depth := depth) g4 rfl HC.out.2.1 hDl rfl HNP.out.1 rfl HNP.out.2.1 HNP.out.2.2).mono ?_
      rintro e w5 ⟨rfl, pb, g5, hPA, hpb, hk5⟩
      have k5 : Keep (fun x y => Fp bd rb cb x y ∨ w2.heap.size ≤ x) w2 w5 := (k4.trans hk5).mono fun _ _ _ e => .inl e
      have k5' := k4.trans hk5
      have f85 := g5.dec.f8
      have g5' := g5
      rw [show 8 + 25 + 8 + 3 * pal.length + 4 = 45 + 3 * pal.length by omega] at g5'
      clear f8' g4 k4 hk5 g5
      go_wp2
      rw [rounds_succ]
      go_wp2_with (go_at_call 41; fail)
      refine (pcIDAT2 g5' rfl HC.out.2.2.1 hDl HOK.out.1 rfl rfl rfl rfl rfl rfl _ (fun _ => ⟨rfl, pb, 256, rfl, by have := HNP.out.1; omega⟩) (HEO.out _ k5') h00).mono ?_
      rintro e w8 ⟨rfl, iv, hPi, g8, hk8⟩
      have k8 := k5.then hk8 (fun _ _ _ e => e) (fun _ _ _ e => .inl e)
      have f88 := g8.dec.f8
      have hsz5 := k5.size
      have hP8 := hPA.keep hk8 fun j e => by have hK2 := HK0.out.2.2; rcases e with e | e | e <;> omega
      have HPI := Lib.hid (And.intro hPi (And.intro hsz5 hP8))
      have g8' := g8
      rw [show 45 + 3 * pal.length + 8 + (R.length + 13) + 4 = 45 + 3 * pal.length + 12 + (keptB R).length by rw [keptB_length]; omega] at g8'
      clear hPi hP8
      go_wp2
      rw [rounds_succ]
      go_wp2_with (go_at_call 41; fail)
      refine (pcIEND g8' rfl HC.out.2.2.2 hDl).mono ?_
      rintro e w9 ⟨rfl, g9, hk9⟩
      have k9 := k8.then hk9 (fun _ _ _ e => e) fun _ _ _ e => .inl e
      have f89 := g9.dec.f8
      have f19 := g9.dec.f1
      have HPE := Lib.hid (And.intro (HPI.out.1.keep hk9 fun x y hx e => by have := HK0.out.2.2; have := HPI.out.2.1; rcases e with e | e | e <;> omega) (HPI.out.2.2.keep hk9 fun j e => by have hK2 := HK0.out.2.2; rcases e with e | e | e <;> omega))
      clear f85 g5' k5 k5' f88 g8 g8' g9 k8 hk8 hk9
      have HK9 := Lib.hid k9
      clear k9
      go_wp2
      rw [rounds_succ]
      go_wp2
      go_ret2
      refine ⟨iv, rfl, ⟨_, HPE.out.1.lower (by have := HK0.out.2.2; have := HPI.out.2.1; omega), fun _ => ⟨pb, rfl, by rw [HL0.out]; exact HPE.out.2, by have := HK0.out.2.2; omega⟩⟩, HK0.out.1.then HK9.out (fun _ _ _ e => e.elim) fun x y hx e => ?_⟩
      have := HK0.out.2.2
      rcases e with (e | e | e) | e
      · omega
      · exact e
      · omega
      · omega
  · have hcs := HF.out.2.2
    rw [if_neg hc] at hcs
    have hcI := chunkAt (cs := [(nIEND, [])]) hcs.next rfl
    have hcE := chunkAt (cs := []) hcI.next rfl
    have HC := Lib.hid (And.intro hcs (And.intro hcI hcE))
    clear hcs hcI hcE
    go_wp2
    refine wp_loop_rounds 4 ?_
    rw [rounds_succ]
    go_wp2_with (go_at_call 41; fail)
    refine (pcIHDR g3 rfl HC.out.1 hDl ⟨HOK.out.1.w0, HOK.out.1.w60⟩ ⟨HOK.out.1.h0, HOK.out.1.h60⟩ HOK.out.1.kind).mono ?_
    rintro e w4 ⟨rfl, g4, hk4⟩
    have k4 := hk3.trans hk4
    have f8' := g4.dec.f8
    clear f8 g3 hk3 hk4
    go_wp2
    rw [rounds_succ]
    go_wp2_with (go_at_call 41; fail)
    refine (pcIDAT1 g4 rfl HC.out.2.1 hDl HOK.out.1 rfl rfl rfl rfl rfl rfl .nilIface (fun e => absurd e hc) (HEO.out _ k4) h00 hc).mono ?_
    rintro e w8 ⟨rfl, iv, hPi, g8, hk8⟩
    have k8 := k4.trans hk8
    have f88 := g8.dec.f8
    have HPI := Lib.hid (And.intro hPi (k4.size))
    clear f8' g4 hPi
    go_wp2
    rw [rounds_succ]
    go_wp2_with (go_at_call 41; fail)
    have g8' := g8
    rw [show 8 + 25 + 8 + (R.length + 13) + 4 = 8 + 12 + 13 + 12 + (keptB R).length by rw [keptB_length]; omega] at g8'
    refine (pcIEND g8' rfl HC.out.2.2 hDl).mono ?_
    rintro e w9 ⟨rfl, g9, hk9⟩
    have k9 := k8.trans hk9
    have f89 := g9.dec.f8
    have f19 := g9.dec.f1
    have HPE := Lib.hid (HPI.out.1.keep hk9 fun x y hx e => by have := HK0.out.2.2; have := HPI.out.2; rcases e with e | e | e <;> omega)
    clear f88 g8 g8' g9 k8 hk8 hk9
    have HK9 := Lib.hid k9
    clear k9
    go_wp2
    rw [rounds_succ]
    go_wp2
    go_ret2
    refine ⟨iv, rfl, ⟨.nilIface, HPE.out.lower (by have := HK0.out.2.2; have := HPI.out.2; omega), fun e => absurd e hc⟩, HK0.out.1.then HK9.out (fun _ _ _ e => e.elim) fun x y hx e => ?_⟩
    have := HK0.out.2.2
    rcases e with e | e | e
    · omega
    · exact e
    · omega
end Go.Proofs.YtnbbppjgamdfeaaGreatDoor
end
