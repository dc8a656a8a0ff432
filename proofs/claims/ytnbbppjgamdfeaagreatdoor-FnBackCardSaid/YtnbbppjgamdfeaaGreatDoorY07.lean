/- laws.FnBack, part 7 of 54: C4 M2 C5 C6. -/
import Derived.Test.YtnbbppjgamdfeaaGreatDoorY06
import Derived.Lib.Tables

/- bits.Reverse16. -/
section
set_option linter.unusedVariables false
set_option linter.unusedSimpArgs false
namespace Go.Proofs.YtnbbppjgamdfeaaGreatDoor
open Go Go.RowKit

/-- The table of bytes turned round, as the dump writes it, behind its name. -/
theorem fold_rev8 : ({ data := (([0, 128, 64, 192, 32, 160, 96, 224, 16, 144, 80, 208, 48, 176, 112, 240, 8, 136, 72, 200, 40, 168, 104, 232, 24, 152, 88, 216, 56, 184, 120, 248, 4, 132, 68, 196, 36, 164, 100, 228, 20, 148, 84, 212, 52, 180, 116, 244, 12, 140, 76, 204, 44, 172, 108, 236, 28, 156, 92, 220, 60, 188, 124, 252].append [2, 130, 66, 194, 34, 162, 98, 226, 18, 146, 82, 210, 50, 178, 114, 242, 10, 138, 74, 202, 42, 170, 106, 234, 26, 154, 90, 218, 58, 186, 122, 250, 6, 134, 70, 198, 38, 166, 102, 230, 22, 150, 86, 214, 54, 182, 118, 246, 14, 142, 78, 206, 46, 174, 110, 238, 30, 158, 94, 222, 62, 190, 126, 254]).append ([1, 129, 65, 193, 33, 161, 97, 225, 17, 145, 81, 209, 49, 177, 113, 241, 9, 137, 73, 201, 41, 169, 105, 233, 25, 153, 89, 217, 57, 185, 121, 249, 5, 133, 69, 197, 37, 165, 101, 229, 21, 149, 85, 213, 53, 181, 117, 245, 13, 141, 77, 205, 45, 173, 109, 237, 29, 157, 93, 221, 61, 189, 125, 253].append [3, 131, 67, 195, 35, 163, 99, 227, 19, 147, 83, 211, 51, 179, 115, 243, 11, 139, 75, 203, 43, 171, 107, 235, 27, 155, 91, 219, 59, 187, 123, 251, 7, 135, 71, 199, 39, 167, 103, 231, 23, 151, 87, 215, 55, 183, 119, 247, 15, 143, 79, 207, 47, 175, 111, 239, 31, 159, 95, 223, 63, 191, 127, 255])).toArray } : ByteArray) = Lib.rev8tab := by decide +kernel

/-- Sixteen bits turned round (of a number below 512). -/
def rev16 (c : Nat) : Int := bits BinOp.or IntKind.u16 (IntKind.u16.wrap (Lib.rev8 ((c / 256 : Nat) : Int))) (IntKind.u16.wrap (IntKind.u16.wrap (Lib.rev8 ((c % 256 : Nat) : Int)) * 256))
/-- The code 0 alone turned round is 0. -/
theorem rev16_ok : ∀ c, c < 512 → 0 ≤ rev16 c ∧ rev16 c < 65536 ∧ (c < 128 → c ≠ 0 → 0 < rev16 c / 512) ∧ (c < 256 → c ≠ 0 → 0 < rev16 c / 256) ∧ (c ≠ 0 → 0 < rev16 c / 128) := by decide +kernel
theorem rev16_zero : rev16 0 = 0 := by decide +kernel

set_option maxHeartbeats 1000000 in
set_option maxRecDepth 100000 in
theorem reverse16 {w : World} (c : Nat) (hc : c < 512) :
    Calls Tryz.prog 162 #[.int .u16 (c : Int)] w fun e w' => e = .returned (.int .u16 (rev16 c)) ∧ ∃ n, w' = w.drewN n := by
  obtain ⟨a, hA⟩ : ∃ a, a = c / 256 := ⟨_, rfl⟩
  obtain ⟨b, hB⟩ : ∃ b, b = c % 256 := ⟨_, rfl⟩
  have h8 : (c : Int) / 256 = (a : Int) := by omega
  have ha : bits BinOp.and IntKind.u16 (c : Int) 255 = (b : Int) := by
    rw [show (255 : Int) = ((255 : Nat) : Int) from rfl, u16_and_nat _ _ (by omega) (by decide), Nat.and_two_pow_sub_one_eq_mod _ 8, hB]
  unfold rev16
  rw [← hA, ← hB]
  have ha2 : a < 256 := by omega
  have hb2 : b < 256 := by omega
  clear hA hB
  go_enter Tryz.func162, Tryz.ntmps162
  rw [fold_rev8]
  go_wp2
  obtain ⟨L, hL⟩ : ∃ L, L = Lib.rev8tab := ⟨_, rfl⟩
  have hidx : ∀ (k : IntKind) (i : Nat) (w : World), i < 256 → (Instr.index 9 (.string L) (.int k (i : Int))).run Tryz.prog w = .ok (.int .u8 (Lib.rev8 (i : Int))) w := fun k i w hi => by
    rw [hL]; exact Lib.run_index_rev8tab w 9 k i (by kernel_rfl) (by omega) (by omega)
  have i1 := fun k w => hidx k a w ha2
  have i2 := fun k w => hidx k b w hb2
  rw [← hL]
  clear hL hidx
  go_quiet (fail)
  go_wp2
  go_ret
  exact ⟨rfl, _, rfl⟩
end Go.Proofs.YtnbbppjgamdfeaaGreatDoor
end

/- The fixed code of flate, plain: the lengths, how many of each, each symbol's code. -/
section
set_option linter.unusedVariables false
set_option linter.unusedSimpArgs false
namespace Go.Proofs.YtnbbppjgamdfeaaGreatDoor
open Go Go.RowKit

/-- The length of symbol i's code. -/
def fxLen (i : Nat) : Nat := if i < 144 then 8 else if i < 256 then 9 else if i < 280 then 7 else 8
/-- How many of the first i symbols have length n. -/
def fxCnt (n : Nat) : Nat → Nat
  | 0 => 0
  | i + 1 => fxCnt n i + if fxLen i = n then 1 else 0
/-- The first code of length n. -/
def fxFirst (n : Nat) : Nat := if n = 7 then 0 else if n = 8 then 48 else 400
def fxCode (i : Nat) : Nat := fxFirst (fxLen i) + fxCnt (fxLen i) i
theorem fxCnt_all : fxCnt 7 288 = 24 ∧ fxCnt 8 288 = 152 ∧ fxCnt 9 288 = 112 := by decide +kernel
theorem fxCode_ok : ∀ i, i < 288 → fxCode i < 2 ^ fxLen i ∧ (i ≠ 256 → fxCode i ≠ 0) ∧ (fxLen i = 7 ∨ fxLen i = 8 ∨ fxLen i = 9) := by decide +kernel
theorem fxCode_eob : fxCode 256 = 0 ∧ fxLen 256 = 7 := by decide +kernel
theorem fxCnt_le : ∀ n i, fxCnt n i ≤ i := by
  intro n i
  induction i with
  | zero => exact Nat.le_refl _
  | succ i ih => show fxCnt n i + _ ≤ _; split <;> omega
end Go.Proofs.YtnbbppjgamdfeaaGreatDoor
end

/- flate: huffmanDecoder.init on the fixed lengths. -/
section
set_option linter.unusedVariables false
set_option linter.unusedSimpArgs false
namespace Go.Proofs.YtnbbppjgamdfeaaGreatDoor
open Go Go.RowKit

/-- n ints from place o on. -/
structure IntsAt (w : World) (b o n : Nat) (f : Nat → Nat) : Prop where
  cell : ∀ j, j < n → w.cell? ⟨b, o + j, none⟩ = some (.int .i64 (f j : Int))
  fz : ∀ j, j < n → w.frozen? ⟨b, o + j, none⟩ = false
theorem IntsAt.lt {w : World} {b o n : Nat} {f : Nat → Nat} (h : IntsAt w b o n f) (hn : 0 < n) : b < w.heap.size := World.block_lt_of_cell? w _ (h.cell 0 hn)
theorem IntsAt.keep {F : Nat → Nat → Prop} {w w' : World} {b o n : Nat} {f : Nat → Nat} (h : IntsAt w b o n f) (hk : Keep F w w') (hF : ∀ j, j < n → ¬ F b (o + j)) : IntsAt w' b o n f :=
  ⟨fun j hj => hk.get (h.cell j hj) (hF j hj), fun j hj => hk.froz (h.lt (by omega)) (h.fz j hj) (hF j hj)⟩
theorem IntsAt.set {w : World} {b o n : Nat} {f : Nat → Nat} (h : IntsAt w b o n f) (k : Nat) (hk : k < n) (v : Nat) : IntsAt (w.setCell ⟨b, o + k, none⟩ (.int .i64 (v : Int))) b o n (fun j => if j = k then v else f j) := by
  refine ⟨fun j hj => ?_, fun j hj => by rw [World.frozen?_setCell]; exact h.fz j hj⟩
  by_cases e : j = k
  · subst e
    simp only [if_true]
    exact World.cell?_setCell_same _ _ _ (h.cell j hj)
  · simp only [if_neg e]
    exact (World.cell?_setCell_other _ _ _ _ fun q => e (by injection q with q1 q2; omega)).trans (h.cell j hj)

def fxMin (k : Nat) : Nat := if k = 0 then 0 else if k ≤ 256 then 8 else 7
def fxMax (k : Nat) : Nat := if k = 0 then 0 else if k ≤ 144 then 8 else 9

theorem fxMin_step : ∀ k, k < 288 → (if fxMin k = 0 ∨ fxLen k < fxMin k then fxLen k else fxMin k) = fxMin (k + 1) := by decide +kernel
theorem fxMax_step : ∀ k, k < 288 → (if fxMax k < fxLen k then fxLen k else fxMax k) = fxMax (k + 1) := by decide +kernel

/-- A huffmanDecoder at block hb, nothing in it: 512 chunks, no links. -/
structure HufZero (w : World) (hb : Nat) : Prop where
  mn : w.cell? ⟨hb, 0, none⟩ = some (.int .i64 0)
  chunks : ∀ j, j < 512 → ∃ q : Int, w.cell? ⟨hb, 1 + j, none⟩ = some (.int .u32 q)
  fz : ∀ j, w.frozen? ⟨hb, j, none⟩ = false

/-- What stands at the head of the last loop: k symbols are laid. -/
structure HufInv (hb nb : Nat) (k : Nat) (w : World) : Prop where
  mn : w.cell? ⟨hb, 0, none⟩ = some (.int .i64 7)
  n7 : w.cell? ⟨nb, 7, none⟩ = some (.int .i64 ((0 + fxCnt 7 k : Nat) : Int))
  n8 : w.cell? ⟨nb, 8, none⟩ = some (.int .i64 ((48 + fxCnt 8 k : Nat) : Int))
  n9 : w.cell? ⟨nb, 9, none⟩ = some (.int .i64 ((400 + fxCnt 9 k : Nat) : Int))
  chunks : ∀ j, j < 512 → ∃ q : Int, w.cell? ⟨hb, 1 + j, none⟩ = some (.int .u32 q)
  eob : 256 < k → w.cell? ⟨hb, 1, none⟩ = some (.int .u32 4103)
  fzh : ∀ j, w.frozen? ⟨hb, j, none⟩ = false
  fzn : ∀ j, j < 16 → w.frozen? ⟨nb, j, none⟩ = false

/-- What stands at the head of the loop that lays symbol k's chunks: next at place x. -/
structure HufIn (hb nb : Nat) (k x : Nat) (w : World) : Prop where
  mn : w.cell? ⟨hb, 0, none⟩ = some (.int .i64 7)
  n7 : w.cell? ⟨nb, 7, none⟩ = some (.int .i64 ((0 + fxCnt 7 (k + 1) : Nat) : Int))
  n8 : w.cell? ⟨nb, 8, none⟩ = some (.int .i64 ((48 + fxCnt 8 (k + 1) : Nat) : Int))
  n9 : w.cell? ⟨nb, 9, none⟩ = some (.int .i64 ((400 + fxCnt 9 (k + 1) : Nat) : Int))
  chunks : ∀ j, j < 512 → ∃ q : Int, w.cell? ⟨hb, 1 + j, none⟩ = some (.int .u32 q)
  eob : 256 < k ∨ (k = 256 ∧ 0 < x) → w.cell? ⟨hb, 1, none⟩ = some (.int .u32 4103)
  x0 : k ≠ 256 → 0 < x
  fzh : ∀ j, w.frozen? ⟨hb, j, none⟩ = false
  fzn : ∀ j, j < 16 → w.frozen? ⟨nb, j, none⟩ = false
theorem HufIn.out {hb nb k x : Nat} {w : World} (h : HufIn hb nb k x w) (hx : 512 ≤ x) : HufInv hb nb (k + 1) w :=
  ⟨h.mn, h.n7, h.n8, h.n9, h.chunks, fun hk => h.eob (by omega), h.fzh, h.fzn⟩
/-- One chunk is laid. -/
theorem HufIn.step {hb nb k x S : Nat} {w : World} (h : HufIn hb nb k x w) (hne : hb ≠ nb) (hx : x < 512) (hS : 0 < S) (v : Int) (hv : k = 256 → v = 4103) : HufIn hb nb k (x + S) (w.setCell ⟨hb, 1 + x, none⟩ (.int .u32 v)) := by
  have o : ∀ b j u, ¬ (b = hb ∧ j = 1 + x) → w.cell? ⟨b, j, none⟩ = some u → (w.setCell ⟨hb, 1 + x, none⟩ (.int .u32 v)).cell? ⟨b, j, none⟩ = some u := fun b j u hn hc => (World.cell?_setCell_other _ _ _ _ fun e => hn (by injection e with e1 e2; exact ⟨e1.symm, e2.symm⟩)).trans hc
  obtain ⟨q, hq⟩ := h.chunks x hx
  refine ⟨o _ _ _ (by omega) h.mn, o _ _ _ (by omega) h.n7, o _ _ _ (by omega) h.n8, o _ _ _ (by omega) h.n9, fun j hj => ?_, fun he => ?_, fun hk => by omega, fun j => by rw [World.frozen?_setCell]; exact h.fzh j, fun j hj => by rw [World.frozen?_setCell]; exact h.fzn j hj⟩
  · by_cases e : j = x
    · subst e; exact ⟨v, World.cell?_setCell_same _ _ _ hq⟩
    · obtain ⟨q', hq'⟩ := h.chunks j hj
      exact ⟨q', o _ _ _ (by omega) hq'⟩
  · by_cases e : x = 0
    · subst e
      have hk : k = 256 := by
        by_cases hk : k = 256
        · exact hk
        · have := h.x0 hk; omega
      rw [hv hk]
      exact World.cell?_setCell_same _ _ _ hq
    · exact o _ _ _ (by omega) (h.eob (by omega))

theorem HufIn.drewN {hb nb k x : Nat} {w : World} (h : HufIn hb nb k x w) (n : Nat) : HufIn hb nb k x (w.drewN n) := ⟨h.mn, h.n7, h.n8, h.n9, h.chunks, h.eob, h.x0, h.fzh, h.fzn⟩

set_option maxHeartbeats 8000000 in
set_option maxRecDepth 100000 in
theorem huffInit {w : World} {hb bb : Nat} (h : HufZero w hb) (hl : IntsAt w bb 0 288 fxLen) (hne : hb ≠ bb) :
    Calls Tryz.prog 151 #[.pointer (some ⟨hb, 0, none⟩), .slice (some ⟨bb, 0, none⟩) 288 288] w fun e w' => e = .returned (.bool true) ∧ w'.cell? ⟨hb, 0, none⟩ = some (.int .i64 7) ∧ w'.cell? ⟨hb, 1, none⟩ = some (.int .u32 4103) ∧
      Keep (fun x y => x = hb) w w' := by
  have h0 := h.mn
  go_enter Tryz.func151, Tryz.ntmps151
  go_wp2
  obtain ⟨w1, hw1⟩ : ∃ w1, w1 = w.alloc (.cells (Array.replicate 16 (.int .i64 0)) 303) := ⟨_, rfl⟩
  have hw1' : w1 = w.alloc (.cells #[.int .i64 0, .int .i64 0, .int .i64 0, .int .i64 0, .int .i64 0, .int .i64 0, .int .i64 0, .int .i64 0, .int .i64 0, .int .i64 0, .int .i64 0, .int .i64 0, .int .i64 0, .int .i64 0, .int .i64 0, .int .i64 0] 303) := hw1
  rw [← hw1']
  have hcnt : IntsAt w1 w.heap.size 0 16 (fun j => fxCnt j 0) := by
    refine ⟨fun j hj => ?_, fun j hj => ?_⟩
    · rw [hw1]; show _ = some (Value.int .i64 0)
      go_simp
    · rw [hw1]; go_simp
  have hk1 : Keep Nil2 w w1 := by rw [hw1]; exact (Keep.refl Nil2 w).alloc _
  obtain ⟨cb, hcb⟩ : ∃ cb, cb = w.heap.size := ⟨_, rfl⟩
  rw [← hcb] at hcnt ⊢
  have HCB := Lib.hid hcb
  have hbcb : hb ≠ cb := by have := World.block_lt_of_cell? w _ h0; simp at this; omega
  have hbbc : bb ≠ cb := by have := hl.lt (by omega); omega
  have hl1 : IntsAt w1 bb 0 288 fxLen := hl.keep hk1 fun _ _ e => e
  have h01 := hk1.get h0 (fun e => e)
  clear hw1 hw1' hcb
  go_loopg [6, 7, 44] 288 (fun G v6 v7 v44 wr => ∃ k g, g = G ∧ k + g = 288 ∧ v6 = .int .i64 (fxMin k : Int) ∧ v7 = .int .i64 (fxMax k : Int) ∧ v44 = .int .i64 (k : Int) ∧ IntsAt wr cb 0 16 (fun j => fxCnt j k) ∧ Keep (fun x _ => x = cb) w1 wr)
  case atStart => exact ⟨0, 288, rfl, by omega, rfl, rfl, rfl, hcnt, Keep.refl _ _⟩
  case round =>
    obtain ⟨k, g, hG, hkg, rfl, rfl, rfl, hc, hkk⟩ := hrel
    have HG := Lib.hid hG
    clear hG
    by_cases hk : k < 288
    · have hlk := (hl1.keep hkk fun _ _ e => hbbc e).cell k hk
      have hmin := fxMin_step k hk
      have hmax := fxMax_step k hk
      have hn := (fxCode_ok k hk).2.2
      have hcn := hc.cell (fxLen k) (by omega)
      have hcz := hc.fz (fxLen k) (by omega)
      have hset := hc.set (fxLen k) (by omega) (fxCnt (fxLen k) k + 1)
      have hcle := fxCnt_le (fxLen k) k
      have hfun : (fun j => if j = fxLen k then fxCnt (fxLen k) k + 1 else fxCnt j k) = fun j => fxCnt j (k + 1) := by
        funext j
        show _ = fxCnt j k + if fxLen k = j then 1 else 0
        by_cases e : j = fxLen k
        · subst e; simp
        · rw [if_neg e, if_neg (fun q => e q.symm)]; omega
      rw [hfun] at hset
      generalize fxCnt (fxLen k) k = q at hcn hset hcle
      generalize fxLen k = n at hlk hmin hmax hn hcn hcz hset
      generalize fxMin k = m at hmin ⊢
      generalize fxMax k = M at hmax ⊢
      rw [Nat.zero_add] at hlk hcn hcz hset
      have hkI : (k : Int) < 288 := by omega
      have hnI : (n : Int) < 16 := by omega
      have hn0 : ((n : Int) == 0) = false := by simp; omega
      have hqw : IntKind.i64.wrap ((q : Int) + 1) = ((q + 1 : Nat) : Int) := by rw [IntWalk.i64_in _ (by omega)]; omega
      have hdec : decide ((k : Int) < 288) = true := by simp; omega
      have HMIN := Lib.hid hmin
      have HMAX := Lib.hid hmax
      have HS := Lib.hid hset
      clear hmin hmax hset hfun hc
      by_cases hM : M < n
      · have hMI : decide ((M : Int) < (n : Int)) = true := by simp; omega
        by_cases hm0 : m = 0
        · subst hm0
          go_wp2
          go_roundg (g - 1)
          case measure => have := HG.out; omega
          case rel => exact ⟨k + 1, g - 1, rfl, by omega, by rw [← HMIN.out]; simp, by rw [← HMAX.out]; simp [hM], by go_num, by have := HS.out; rw [show ((q + 1 : Nat) : Int) = (q : Int) + 1 by omega] at this; exact this, hkk.trans ((keep_setCell _ _ _ _).mono fun _ _ _ e => e.1)⟩
        · have hm0I : ((m : Int) == 0) = false := by simp; omega
          by_cases hlt : n < m
          · have hltI : decide ((n : Int) < (m : Int)) = true := by simp; omega
            go_wp2
            go_roundg (g - 1)
            case measure => have := HG.out; omega
            case rel => exact ⟨k + 1, g - 1, rfl, by omega, by rw [← HMIN.out]; simp [hm0, hlt], by rw [← HMAX.out]; simp [hM], by go_num, by have := HS.out; rw [show ((q + 1 : Nat) : Int) = (q : Int) + 1 by omega] at this; exact this, hkk.trans ((keep_setCell _ _ _ _).mono fun _ _ _ e => e.1)⟩
          · have hltI : decide ((n : Int) < (m : Int)) = false := by simp; omega
            go_wp2
            go_roundg (g - 1)
            case measure => have := HG.out; omega
            case rel => exact ⟨k + 1, g - 1, rfl, by omega, by rw [← HMIN.out]; simp [hm0, hlt], by rw [← HMAX.out]; simp [hM], by go_num, by have := HS.out; rw [show ((q + 1 : Nat) : Int) = (q : Int) + 1 by omega] at this; exact this, hkk.trans ((keep_setCell _ _ _ _).mono fun _ _ _ e => e.1)⟩
      · have hMI : decide ((M : Int) < (n : Int)) = false := by simp; omega
        by_cases hm0 : m = 0
        · subst hm0
          go_wp2
          go_roundg (g - 1)
          case measure => have := HG.out; omega
          case rel => exact ⟨k + 1, g - 1, rfl, by omega, by rw [← HMIN.out]; simp, by rw [← HMAX.out]; simp [hM], by go_num, by have := HS.out; rw [show ((q + 1 : Nat) : Int) = (q : Int) + 1 by omega] at this; exact this, hkk.trans ((keep_setCell _ _ _ _).mono fun _ _ _ e => e.1)⟩
        · have hm0I : ((m : Int) == 0) = false := by simp; omega
          by_cases hlt : n < m
          · have hltI : decide ((n : Int) < (m : Int)) = true := by simp; omega
            go_wp2
            go_roundg (g - 1)
            case measure => have := HG.out; omega
            case rel => exact ⟨k + 1, g - 1, rfl, by omega, by rw [← HMIN.out]; simp [hm0, hlt], by rw [← HMAX.out]; simp [hM], by go_num, by have := HS.out; rw [show ((q + 1 : Nat) : Int) = (q : Int) + 1 by omega] at this; exact this, hkk.trans ((keep_setCell _ _ _ _).mono fun _ _ _ e => e.1)⟩
          · have hltI : decide ((n : Int) < (m : Int)) = false := by simp; omega
            go_wp2
            go_roundg (g - 1)
            case measure => have := HG.out; omega
            case rel => exact ⟨k + 1, g - 1, rfl, by omega, by rw [← HMIN.out]; simp [hm0, hlt], by rw [← HMAX.out]; simp [hM], by go_num, by have := HS.out; rw [show ((q + 1 : Nat) : Int) = (q : Int) + 1 by omega] at this; exact this, hkk.trans ((keep_setCell _ _ _ _).mono fun _ _ _ e => e.1)⟩
    · have hk9 : k = 288 := by omega
      subst hk9
      have e7 := hc.cell 7 (by omega)
      have e8 := hc.cell 8 (by omega)
      have e9 := hc.cell 9 (by omega)
      simp only [fxCnt_all.1, fxCnt_all.2.1, fxCnt_all.2.2, Nat.zero_add] at e7 e8 e9
      have em : fxMin 288 = 7 := by decide
      have eM : fxMax 288 = 9 := by decide
      rw [em, eM]
      go_wp2
      obtain ⟨w2, hw2⟩ : ∃ w2, w2 = wr.alloc (.cells #[.int .i64 0, .int .i64 0, .int .i64 0, .int .i64 0, .int .i64 0, .int .i64 0, .int .i64 0, .int .i64 0, .int .i64 0, .int .i64 0, .int .i64 0, .int .i64 0, .int .i64 0, .int .i64 0, .int .i64 0, .int .i64 0] 303) := ⟨_, rfl⟩
      have hnx : IntsAt w2 wr.heap.size 0 16 (fun j => 0) := by
        have hw2' : w2 = wr.alloc (.cells (Array.replicate 16 (.int .i64 0)) 303) := hw2
        refine ⟨fun j hj => ?_, fun j hj => ?_⟩
        · rw [hw2']; show _ = some (Value.int .i64 0)
          go_simp
        · rw [hw2']; go_simp
      have hk2 : Keep Nil2 wr w2 := by rw [hw2]; exact (Keep.refl Nil2 wr).alloc _
      rw [← hw2]
      obtain ⟨nb, hnb⟩ : ∃ nb, nb = wr.heap.size := ⟨_, rfl⟩
      rw [← hnb] at hnx ⊢
      have hcnb : ¬ cb = nb := by have := hc.lt (by omega); omega
      have g7 := hk2.get e7 (fun e => e)
      have g8 := hk2.get e8 (fun e => e)
      have g9 := hk2.get e9 (fun e => e)
      have n7 := hnx.cell 7 (by omega)
      have n8 := hnx.cell 8 (by omega)
      have n9 := hnx.cell 9 (by omega)
      have z7 := hnx.fz 7 (by omega)
      have z8 := hnx.fz 8 (by omega)
      have z9 := hnx.fz 9 (by omega)
      simp only [Nat.zero_add] at n7 n8 n9 z7 z8 z9
      have hh2 : Keep (fun x _ => x = cb) w w2 := ((hk1.mono fun _ _ _ e => e.elim).trans hkk).trans (hk2.mono fun _ _ _ e => e.elim)
      have h02 := hh2.get h0 (fun e => hbcb e)
      have hz2 : ∀ j, w2.frozen? ⟨hb, j, none⟩ = false := fun j => hh2.froz (World.block_lt_of_cell? w _ h0) (h.fz j) hbcb
      have hbnb : ¬ hb = nb := by have := World.block_lt_of_cell? wr _ (hkk.get h01 (fun e => hbcb e)); simp at this; omega
      have HNB := Lib.hid hnb
      clear hw2 hnb
      refine wp_loop_rounds 4 ?_
      rw [rounds_succ]
      go_wp2
      rw [rounds_succ]
      go_wp2
      rw [rounds_succ]
      go_wp2
      rw [rounds_succ]
      go_wp2
      obtain ⟨w5, hw5⟩ : ∃ w5, w5 = (((w2.setCell ⟨nb, 7, none⟩ (.int .i64 0)).setCell ⟨nb, 8, none⟩ (.int .i64 48)).setCell ⟨nb, 9, none⟩ (.int .i64 400)).setCell ⟨hb, 0, none⟩ (.int .i64 7) := ⟨_, rfl⟩
      rw [← hw5]
      have hk5 : Keep (fun x _ => x = nb ∨ x = hb) w2 w5 := by
        rw [hw5]
        exact ((((Keep.refl (fun x _ => x = nb ∨ x = hb) w2).setCell _ fun _ => .inl rfl).setCell _ fun _ => .inl rfl).setCell _ fun _ => .inl rfl).setCell _ fun _ => .inr rfl
      have hhb : ∀ j, j ≠ 0 → ∀ v, w2.cell? ⟨hb, j, none⟩ = some v → w5.cell? ⟨hb, j, none⟩ = some v := fun j hj v hv => by
        rw [hw5]
        have o1 : ∀ (u : World) (x : Nat) (y : Value), u.cell? ⟨hb, j, none⟩ = some v → (u.setCell ⟨nb, x, none⟩ y).cell? ⟨hb, j, none⟩ = some v := fun u x y hu => (World.cell?_setCell_other _ _ _ _ fun e => hbnb (by injection e with e1 e2; exact e1.symm)).trans hu
        exact (World.cell?_setCell_other _ _ _ _ fun e => hj (by injection e with e1 e2; exact e2.symm)).trans (o1 _ _ _ (o1 _ _ _ (o1 _ _ _ hv)))
      have hI : HufInv hb nb 0 w5 := by
        refine ⟨?_, ?_, ?_, ?_, fun j hj => ?_, fun h => by omega, fun j => ?_, fun j hj => ?_⟩
        · rw [hw5]; go_simp
        · rw [hw5]; show _ = some (Value.int .i64 0); go_simp
        · rw [hw5]; show _ = some (Value.int .i64 48); go_simp
        · rw [hw5]; show _ = some (Value.int .i64 400); go_simp
        · obtain ⟨q, hq⟩ := h.chunks j hj
          exact ⟨q, hhb (1 + j) (by omega) _ (hh2.get hq fun e => hbcb e)⟩
        · rw [hw5]; simp [hz2 j]
        · have := hnx.fz j hj
          rw [Nat.zero_add] at this
          rw [hw5]; simp [this]
      have hk05 : Keep (fun x _ => x = hb ∨ x = cb ∨ x = nb) w w5 := (hh2.mono fun _ _ _ e => .inr (.inl e)).trans (hk5.mono fun _ _ _ e => e.elim (fun e => .inr (.inr e)) .inl)
      have hbnb5 : bb ≠ nb := by have := (hl1.keep hkk fun _ _ e => hbbc e).lt (by omega); have := HNB.out; omega
      have hl5 : IntsAt w5 bb 0 288 fxLen := hl.keep hk05 fun _ _ e => e.elim (fun e => hne e.symm) fun e => e.elim hbbc hbnb5
      have hcbw : w.heap.size ≤ cb := by have := HCB.out; omega
      have hnbw : w.heap.size ≤ nb := by have := HNB.out; have := hkk.size; have := hk1.size; omega
      have hcd := fxCode_ok
      clear hw5 hhb
      go_loopg [170] 288 (fun G v170 wr => ∃ k g, g = G ∧ k + g = 288 ∧ v170 = .int .i64 (k : Int) ∧ HufInv hb nb k wr ∧ Keep (fun x _ => x = nb ∨ x = hb) w5 wr)
      case atStart => exact ⟨0, 288, rfl, by omega, rfl, hI, Keep.refl _ _⟩
      case round =>
        obtain ⟨k, g, hG, hkg, rfl, inv, hkk5⟩ := hrel
        have HG := Lib.hid hG
        clear hG
        by_cases hk : k < 288
        · have hlk := (hl5.keep hkk5 fun _ _ e => e.elim (fun e => hbnb5 e) fun e => hne e.symm).cell k hk
          obtain ⟨hc1, hc2, hnn⟩ := hcd k hk
          rcases hnn with hnk | hnk | hnk
          · have hfc : fxCode k = 0 + fxCnt 7 k := by unfold fxCode; rw [hnk]; rfl
            rw [hfc, hnk] at hc1
            have hcn := inv.n7
            rw [hnk] at hlk
            have hsn : fxCnt 7 (k + 1) = fxCnt 7 k + 1 := by show fxCnt 7 k + (if fxLen k = 7 then 1 else 0) = _; rw [hnk]; rfl
            have hso1 : fxCnt 8 (k + 1) = fxCnt 8 k := by show fxCnt 8 k + (if fxLen k = 8 then 1 else 0) = _; rw [hnk]; rfl
            have hso2 : fxCnt 9 (k + 1) = fxCnt 9 k := by show fxCnt 9 k + (if fxLen k = 9 then 1 else 0) = _; rw [hnk]; rfl
            have hcw0 : (0 + fxCnt 7 (k + 1) : Nat) = (0 + fxCnt 7 k) + 1 := by rw [hsn]; omega
            have inv1 : ∀ v : Int, v = ((0 + fxCnt 7 (k + 1) : Nat) : Int) → HufIn hb nb k (if k = 256 then 0 else 1) ((wr.setCell ⟨nb, 7, none⟩ (.int .i64 v))) → True := fun _ _ _ => trivial
            obtain ⟨c, hcdef⟩ : ∃ c, c = 0 + fxCnt 7 k := ⟨_, rfl⟩
            rw [← hcdef] at hcn hc1 hcw0 hfc
            have hc2' : k ≠ 256 → c ≠ 0 := fun e => by have := hc2 e; rw [hfc] at this; exact this
            have hc3 : k = 256 → c = 0 := fun e => by subst e; rw [← hfc]; exact fxCode_eob.1
            have hcz := inv.fzn 7 (by omega)
            have hmn := inv.mn
            obtain ⟨hr0, hr1, hr7, hr8, hr9⟩ := rev16_ok c (by omega)
            have hrz := rev16_zero
            have hstep : HufInv hb nb k wr ∧ True := ⟨inv, trivial⟩
            have hin : ∀ (x : Nat) (wx : World), wx = wr.setCell ⟨nb, 7, none⟩ (.int .i64 ((c + 1 : Nat) : Int)) → (k ≠ 256 → 0 < x) → (k = 256 → x = 0) → HufIn hb nb k x wx := by
              intro x wx hwx hx1 hx2
              subst hwx
              have o : ∀ b j u, ¬ (b = nb ∧ j = 7) → wr.cell? ⟨b, j, none⟩ = some u → (wr.setCell ⟨nb, 7, none⟩ (.int .i64 ((c + 1 : Nat) : Int))).cell? ⟨b, j, none⟩ = some u := fun b j u hn hc => (World.cell?_setCell_other _ _ _ _ fun e => hn (by injection e with e1 e2; exact ⟨e1.symm, e2.symm⟩)).trans hc
              refine ⟨o _ _ _ (fun e => hbnb e.1) inv.mn, ?_, ?_, ?_, fun j hj => ?_, fun he => ?_, hx1, fun j => by rw [World.frozen?_setCell]; exact inv.fzh j, fun j hj => by rw [World.frozen?_setCell]; exact inv.fzn j hj⟩
              · rw [hcw0]; exact World.cell?_setCell_same _ _ _ inv.n7
              · rw [hso1]; exact o _ _ _ (by omega) inv.n8
              · rw [hso2]; exact o _ _ _ (by omega) inv.n9
              · obtain ⟨q, hq⟩ := inv.chunks j hj
                exact ⟨q, o _ _ _ (fun e => hbnb e.1) hq⟩
              · exact o _ _ _ (fun e => hbnb e.1) (inv.eob (by rcases he with he | ⟨he, hx⟩; exact he; have := hx2 he; omega))
            have hkI : (k : Int) < 288 := by omega
            have hdec : decide ((k : Int) < 288) = true := by simp; omega
            have hcw : IntKind.i64.wrap ((c : Int) + 1) = ((c + 1 : Nat) : Int) := by rw [IntWalk.i64_in _ (by omega)]; omega
            have hcu : IntKind.u16.wrap (c : Int) = (c : Int) := IntWalk.u16_in _ (by omega)
            clear inv1 hstep
            obtain ⟨cv, hcv⟩ : ∃ cv : Int, cv = bits BinOp.or IntKind.i64 ((k : Int) * 16) 7 % 4294967296 := ⟨_, rfl⟩
            have hcve : k = 256 → cv = 4103 := fun e => by rw [hcv, e]; decide
            have HIN := Lib.hid hin
            have HC1 := Lib.hid hc1
            have HC2 := Lib.hid hc2'
            have HC3 := Lib.hid hc3
            have HR := Lib.hid (And.intro hr0 (And.intro hr1 (And.intro hr7 (And.intro hr8 hr9))))
            have HINV := Lib.hid inv
            have HCV := Lib.hid hcv
            have HCVE := Lib.hid hcve
            clear hin hc1 hc2 hc2' hc3 hcdef hsn hso1 hso2 hcw0 hfc hnk hcd hr0 hr1 hr7 hr8 hr9 hrz inv hcv hcve
            rw [Nat.zero_add] at hlk
            go_wp2_with (go_at_call 162; fail)
            have hcc : c < 512 := by have := HC1.out; omega
            refine (reverse16 c hcc).mono ?_
            rintro e w7 ⟨rfl, n7, rfl⟩
            rw [← HCV.out]
            obtain ⟨r, hrr⟩ : ∃ r : Nat, rev16 c = (r : Int) := ⟨(rev16 c).toNat, by have := HR.out.1; omega⟩
            rw [hrr]
            obtain ⟨x0, hx0⟩ : ∃ x0 : Nat, x0 = r / 512 := ⟨_, rfl⟩
            have hx0I : (r : Int) / 512 = (x0 : Int) := by omega
            have hx0l : x0 < 512 := by have := HR.out.2.1; omega
            have hr6 : r < 65536 := by have := HR.out.2.1; omega
            have hrw : IntKind.i64.wrap (r : Int) = (r : Int) := IntWalk.i64_in _ (by omega)
            have hxA : k ≠ 256 → 0 < x0 := fun e => by
              have h1 := HR.out
              have h2 := HC2.out e
              have h3 := HC1.out
              rw [hrr] at h1
              have h4 := h1.2.2
              have := h4.1 (by omega) h2
              omega
            have hxB : k = 256 → x0 = 0 := fun e => by
              have h1 := HC3.out e
              rw [h1, rev16_zero] at hrr
              have : r = 0 := by omega
              subst this; subst hx0; rfl
            have HI := Lib.hid ((HIN.out x0 _ rfl hxA hxB).drewN n7)
            have HK := Lib.hid ((hkk5.trans ((keep_setCell wr nb 7 (.int .i64 ((c + 1 : Nat) : Int))).mono fun _ _ _ e => Or.inl e.1)).drewN n7)
            obtain ⟨w8, hw8⟩ : ∃ w8, w8 = (wr.setCell ⟨nb, 7, none⟩ (.int .i64 ((c + 1 : Nat) : Int))).drewN n7 := ⟨_, rfl⟩
            rw [show ((c : Int) + 1) = ((c + 1 : Nat) : Int) by omega]
            rw [← hw8] at HI HK ⊢
            have HXA := Lib.hid hxA
            have HX0L := Lib.hid hx0l
            have HXB := Lib.hid hxB
            clear hw8 hxA hxB hrr hx0 hcn hlk hmn hcz
            go_wp2
            go_loopg [23] 1024 (fun G v23 wq => ∃ x g', g' = G ∧ x + g' = x0 + 1024 ∧ x ≤ 1024 ∧ v23 = .int .i64 (x : Int) ∧ HufIn hb nb k x wq ∧ Keep (fun x _ => x = nb ∨ x = hb) w5 wq)
            case atStart =>
              have := HX0L.out
              exact ⟨x0, 1024, rfl, by omega, by omega, rfl, HI.out, HK.out⟩
            case round =>
              obtain ⟨x, g', hG', hxg, hx1, rfl, hxi, hkx⟩ := hrel
              have HG' := Lib.hid hG'
              clear hG'
              by_cases hx5 : x < 512
              · have hxI : (x : Int) < 512 := by omega
                have hdx : decide ((x : Int) < 512) = true := by simp; omega
                have hzz := hxi.fzh
                have hxw : IntKind.i64.wrap ((x : Int) + 128) = ((x + 128 : Nat) : Int) := by rw [IntWalk.i64_in _ (by omega)]; omega
                have HSTEP := Lib.hid (hxi.step (S := 128) hbnb hx5 (by omega) cv HCVE.out)
                obtain ⟨q, hq⟩ := hxi.chunks x hx5
                have HXI := Lib.hid hxi
                clear hxi
                go_wp2
                go_roundg (g' - 128)
                case measure => have := HG'.out; omega
                case rel => have := HX0L.out; exact ⟨x + 128, g' - 128, rfl, by omega, by omega, by go_num, HSTEP.out, hkx.trans ((keep_setCell _ _ _ _).mono fun _ _ _ e => Or.inr e.1)⟩
              · have hdx : decide ((x : Int) < 512) = false := by simp; omega
                have HO := Lib.hid (hxi.out (by omega))
                clear hxi
                go_wp2
                go_roundg (g - 1)
                case measure => have := HG.out; omega
                case rel => exact ⟨k + 1, g - 1, rfl, by omega, by go_num, HO.out, hkx⟩
          · have hfc : fxCode k = 48 + fxCnt 8 k := by unfold fxCode; rw [hnk]; rfl
            rw [hfc, hnk] at hc1
            have hcn := inv.n8
            rw [hnk] at hlk
            have hsn : fxCnt 8 (k + 1) = fxCnt 8 k + 1 := by show fxCnt 8 k + (if fxLen k = 8 then 1 else 0) = _; rw [hnk]; rfl
            have hso1 : fxCnt 7 (k + 1) = fxCnt 7 k := by show fxCnt 7 k + (if fxLen k = 7 then 1 else 0) = _; rw [hnk]; rfl
            have hso2 : fxCnt 9 (k + 1) = fxCnt 9 k := by show fxCnt 9 k + (if fxLen k = 9 then 1 else 0) = _; rw [hnk]; rfl
            have hcw0 : (48 + fxCnt 8 (k + 1) : Nat) = (48 + fxCnt 8 k) + 1 := by rw [hsn]; omega
            have inv1 : ∀ v : Int, v = ((48 + fxCnt 8 (k + 1) : Nat) : Int) → HufIn hb nb k (if k = 256 then 0 else 1) ((wr.setCell ⟨nb, 8, none⟩ (.int .i64 v))) → True := fun _ _ _ => trivial
            obtain ⟨c, hcdef⟩ : ∃ c, c = 48 + fxCnt 8 k := ⟨_, rfl⟩
            rw [← hcdef] at hcn hc1 hcw0 hfc
            have hc2' : k ≠ 256 → c ≠ 0 := fun e => by have := hc2 e; rw [hfc] at this; exact this
            have hc3 : k = 256 → c = 0 := fun e => by subst e; rw [← hfc]; exact fxCode_eob.1
            have hcz := inv.fzn 8 (by omega)
            have hmn := inv.mn
            obtain ⟨hr0, hr1, hr7, hr8, hr9⟩ := rev16_ok c (by omega)
            have hrz := rev16_zero
            have hstep : HufInv hb nb k wr ∧ True := ⟨inv, trivial⟩
            have hin : ∀ (x : Nat) (wx : World), wx = wr.setCell ⟨nb, 8, none⟩ (.int .i64 ((c + 1 : Nat) : Int)) → (k ≠ 256 → 0 < x) → (k = 256 → x = 0) → HufIn hb nb k x wx := by
              intro x wx hwx hx1 hx2
              subst hwx
              have o : ∀ b j u, ¬ (b = nb ∧ j = 8) → wr.cell? ⟨b, j, none⟩ = some u → (wr.setCell ⟨nb, 8, none⟩ (.int .i64 ((c + 1 : Nat) : Int))).cell? ⟨b, j, none⟩ = some u := fun b j u hn hc => (World.cell?_setCell_other _ _ _ _ fun e => hn (by injection e with e1 e2; exact ⟨e1.symm, e2.symm⟩)).trans hc
              refine ⟨o _ _ _ (fun e => hbnb e.1) inv.mn, ?_, ?_, ?_, fun j hj => ?_, fun he => ?_, hx1, fun j => by rw [World.frozen?_setCell]; exact inv.fzh j, fun j hj => by rw [World.frozen?_setCell]; exact inv.fzn j hj⟩
              · rw [hso1]; exact o _ _ _ (by omega) inv.n7
              · rw [hcw0]; exact World.cell?_setCell_same _ _ _ inv.n8
              · rw [hso2]; exact o _ _ _ (by omega) inv.n9
              · obtain ⟨q, hq⟩ := inv.chunks j hj
                exact ⟨q, o _ _ _ (fun e => hbnb e.1) hq⟩
              · exact o _ _ _ (fun e => hbnb e.1) (inv.eob (by rcases he with he | ⟨he, hx⟩; exact he; have := hx2 he; omega))
            have hkI : (k : Int) < 288 := by omega
            have hdec : decide ((k : Int) < 288) = true := by simp; omega
            have hcw : IntKind.i64.wrap ((c : Int) + 1) = ((c + 1 : Nat) : Int) := by rw [IntWalk.i64_in _ (by omega)]; omega
            have hcu : IntKind.u16.wrap (c : Int) = (c : Int) := IntWalk.u16_in _ (by omega)
            clear inv1 hstep
            obtain ⟨cv, hcv⟩ : ∃ cv : Int, cv = bits BinOp.or IntKind.i64 ((k : Int) * 16) 8 % 4294967296 := ⟨_, rfl⟩
            have hcve : k = 256 → cv = 4103 := fun e => by rw [e] at hnk; exact absurd hnk (by decide)
            have HIN := Lib.hid hin
            have HC1 := Lib.hid hc1
            have HC2 := Lib.hid hc2'
            have HC3 := Lib.hid hc3
            have HR := Lib.hid (And.intro hr0 (And.intro hr1 (And.intro hr7 (And.intro hr8 hr9))))
            have HINV := Lib.hid inv
            have HCV := Lib.hid hcv
            have HCVE := Lib.hid hcve
            clear hin hc1 hc2 hc2' hc3 hcdef hsn hso1 hso2 hcw0 hfc hnk hcd hr0 hr1 hr7 hr8 hr9 hrz inv hcv hcve
            rw [Nat.zero_add] at hlk
            go_wp2_with (go_at_call 162; fail)
            have hcc : c < 512 := by have := HC1.out; omega
            refine (reverse16 c hcc).mono ?_
            rintro e w7 ⟨rfl, n7, rfl⟩
            rw [← HCV.out]
            obtain ⟨r, hrr⟩ : ∃ r : Nat, rev16 c = (r : Int) := ⟨(rev16 c).toNat, by have := HR.out.1; omega⟩
            rw [hrr]
            obtain ⟨x0, hx0⟩ : ∃ x0 : Nat, x0 = r / 256 := ⟨_, rfl⟩
            have hx0I : (r : Int) / 256 = (x0 : Int) := by omega
            have hx0l : x0 < 512 := by have := HR.out.2.1; omega
            have hr6 : r < 65536 := by have := HR.out.2.1; omega
            have hrw : IntKind.i64.wrap (r : Int) = (r : Int) := IntWalk.i64_in _ (by omega)
            have hxA : k ≠ 256 → 0 < x0 := fun e => by
              have h1 := HR.out
              have h2 := HC2.out e
              have h3 := HC1.out
              rw [hrr] at h1
              have h4 := h1.2.2
              have := h4.2.1 (by omega) h2
              omega
            have hxB : k = 256 → x0 = 0 := fun e => by
              have h1 := HC3.out e
              rw [h1, rev16_zero] at hrr
              have : r = 0 := by omega
              subst this; subst hx0; rfl
            have HI := Lib.hid ((HIN.out x0 _ rfl hxA hxB).drewN n7)
            have HK := Lib.hid ((hkk5.trans ((keep_setCell wr nb 8 (.int .i64 ((c + 1 : Nat) : Int))).mono fun _ _ _ e => Or.inl e.1)).drewN n7)
            obtain ⟨w8, hw8⟩ : ∃ w8, w8 = (wr.setCell ⟨nb, 8, none⟩ (.int .i64 ((c + 1 : Nat) : Int))).drewN n7 := ⟨_, rfl⟩
            rw [show ((c : Int) + 1) = ((c + 1 : Nat) : Int) by omega]
            rw [← hw8] at HI HK ⊢
            have HXA := Lib.hid hxA
            have HX0L := Lib.hid hx0l
            have HXB := Lib.hid hxB
            clear hw8 hxA hxB hrr hx0 hcn hlk hmn hcz
            go_wp2
            go_loopg [23] 1024 (fun G v23 wq => ∃ x g', g' = G ∧ x + g' = x0 + 1024 ∧ x ≤ 1024 ∧ v23 = .int .i64 (x : Int) ∧ HufIn hb nb k x wq ∧ Keep (fun x _ => x = nb ∨ x = hb) w5 wq)
            case atStart =>
              have := HX0L.out
              exact ⟨x0, 1024, rfl, by omega, by omega, rfl, HI.out, HK.out⟩
            case round =>
              obtain ⟨x, g', hG', hxg, hx1, rfl, hxi, hkx⟩ := hrel
              have HG' := Lib.hid hG'
              clear hG'
              by_cases hx5 : x < 512
              · have hxI : (x : Int) < 512 := by omega
                have hdx : decide ((x : Int) < 512) = true := by simp; omega
                have hzz := hxi.fzh
                have hxw : IntKind.i64.wrap ((x : Int) + 256) = ((x + 256 : Nat) : Int) := by rw [IntWalk.i64_in _ (by omega)]; omega
                have HSTEP := Lib.hid (hxi.step (S := 256) hbnb hx5 (by omega) cv HCVE.out)
                obtain ⟨q, hq⟩ := hxi.chunks x hx5
                have HXI := Lib.hid hxi
                clear hxi
                go_wp2
                go_roundg (g' - 256)
                case measure => have := HG'.out; omega
                case rel => have := HX0L.out; exact ⟨x + 256, g' - 256, rfl, by omega, by omega, by go_num, HSTEP.out, hkx.trans ((keep_setCell _ _ _ _).mono fun _ _ _ e => Or.inr e.1)⟩
              · have hdx : decide ((x : Int) < 512) = false := by simp; omega
                have HO := Lib.hid (hxi.out (by omega))
                clear hxi
                go_wp2
                go_roundg (g - 1)
                case measure => have := HG.out; omega
                case rel => exact ⟨k + 1, g - 1, rfl, by omega, by go_num, HO.out, hkx⟩
          · have hfc : fxCode k = 400 + fxCnt 9 k := by unfold fxCode; rw [hnk]; rfl
            rw [hfc, hnk] at hc1
            have hcn := inv.n9
            rw [hnk] at hlk
            have hsn : fxCnt 9 (k + 1) = fxCnt 9 k + 1 := by show fxCnt 9 k + (if fxLen k = 9 then 1 else 0) = _; rw [hnk]; rfl
            have hso1 : fxCnt 7 (k + 1) = fxCnt 7 k := by show fxCnt 7 k + (if fxLen k = 7 then 1 else 0) = _; rw [hnk]; rfl
            have hso2 : fxCnt 8 (k + 1) = fxCnt 8 k := by show fxCnt 8 k + (if fxLen k = 8 then 1 else 0) = _; rw [hnk]; rfl
            have hcw0 : (400 + fxCnt 9 (k + 1) : Nat) = (400 + fxCnt 9 k) + 1 := by rw [hsn]; omega
            have inv1 : ∀ v : Int, v = ((400 + fxCnt 9 (k + 1) : Nat) : Int) → HufIn hb nb k (if k = 256 then 0 else 1) ((wr.setCell ⟨nb, 9, none⟩ (.int .i64 v))) → True := fun _ _ _ => trivial
            obtain ⟨c, hcdef⟩ : ∃ c, c = 400 + fxCnt 9 k := ⟨_, rfl⟩
            rw [← hcdef] at hcn hc1 hcw0 hfc
            have hc2' : k ≠ 256 → c ≠ 0 := fun e => by have := hc2 e; rw [hfc] at this; exact this
            have hc3 : k = 256 → c = 0 := fun e => by subst e; rw [← hfc]; exact fxCode_eob.1
            have hcz := inv.fzn 9 (by omega)
            have hmn := inv.mn
            obtain ⟨hr0, hr1, hr7, hr8, hr9⟩ := rev16_ok c (by omega)
            have hrz := rev16_zero
            have hstep : HufInv hb nb k wr ∧ True := ⟨inv, trivial⟩
            have hin : ∀ (x : Nat) (wx : World), wx = wr.setCell ⟨nb, 9, none⟩ (.int .i64 ((c + 1 : Nat) : Int)) → (k ≠ 256 → 0 < x) → (k = 256 → x = 0) → HufIn hb nb k x wx := by
              intro x wx hwx hx1 hx2
              subst hwx
              have o : ∀ b j u, ¬ (b = nb ∧ j = 9) → wr.cell? ⟨b, j, none⟩ = some u → (wr.setCell ⟨nb, 9, none⟩ (.int .i64 ((c + 1 : Nat) : Int))).cell? ⟨b, j, none⟩ = some u := fun b j u hn hc => (World.cell?_setCell_other _ _ _ _ fun e => hn (by injection e with e1 e2; exact ⟨e1.symm, e2.symm⟩)).trans hc
              refine ⟨o _ _ _ (fun e => hbnb e.1) inv.mn, ?_, ?_, ?_, fun j hj => ?_, fun he => ?_, hx1, fun j => by rw [World.frozen?_setCell]; exact inv.fzh j, fun j hj => by rw [World.frozen?_setCell]; exact inv.fzn j hj⟩
              · rw [hso1]; exact o _ _ _ (by omega) inv.n7
              · rw [hso2]; exact o _ _ _ (by omega) inv.n8
              · rw [hcw0]; exact World.cell?_setCell_same _ _ _ inv.n9
              · obtain ⟨q, hq⟩ := inv.chunks j hj
                exact ⟨q, o _ _ _ (fun e => hbnb e.1) hq⟩
              · exact o _ _ _ (fun e => hbnb e.1) (inv.eob (by rcases he with he | ⟨he, hx⟩; exact he; have := hx2 he; omega))
            have hkI : (k : Int) < 288 := by omega
            have hdec : decide ((k : Int) < 288) = true := by simp; omega
            have hcw : IntKind.i64.wrap ((c : Int) + 1) = ((c + 1 : Nat) : Int) := by rw [IntWalk.i64_in _ (by omega)]; omega
            have hcu : IntKind.u16.wrap (c : Int) = (c : Int) := IntWalk.u16_in _ (by omega)
            clear inv1 hstep
            obtain ⟨cv, hcv⟩ : ∃ cv : Int, cv = bits BinOp.or IntKind.i64 ((k : Int) * 16) 9 % 4294967296 := ⟨_, rfl⟩
            have hcve : k = 256 → cv = 4103 := fun e => by rw [e] at hnk; exact absurd hnk (by decide)
            have HIN := Lib.hid hin
            have HC1 := Lib.hid hc1
            have HC2 := Lib.hid hc2'
            have HC3 := Lib.hid hc3
            have HR := Lib.hid (And.intro hr0 (And.intro hr1 (And.intro hr7 (And.intro hr8 hr9))))
            have HINV := Lib.hid inv
            have HCV := Lib.hid hcv
            have HCVE := Lib.hid hcve
            clear hin hc1 hc2 hc2' hc3 hcdef hsn hso1 hso2 hcw0 hfc hnk hcd hr0 hr1 hr7 hr8 hr9 hrz inv hcv hcve
            rw [Nat.zero_add] at hlk
            go_wp2_with (go_at_call 162; fail)
            have hcc : c < 512 := by have := HC1.out; omega
            refine (reverse16 c hcc).mono ?_
            rintro e w7 ⟨rfl, n7, rfl⟩
            rw [← HCV.out]
            obtain ⟨r, hrr⟩ : ∃ r : Nat, rev16 c = (r : Int) := ⟨(rev16 c).toNat, by have := HR.out.1; omega⟩
            rw [hrr]
            obtain ⟨x0, hx0⟩ : ∃ x0 : Nat, x0 = r / 128 := ⟨_, rfl⟩
            have hx0I : (r : Int) / 128 = (x0 : Int) := by omega
            have hx0l : x0 < 512 := by have := HR.out.2.1; omega
            have hr6 : r < 65536 := by have := HR.out.2.1; omega
            have hrw : IntKind.i64.wrap (r : Int) = (r : Int) := IntWalk.i64_in _ (by omega)
            have hxA : k ≠ 256 → 0 < x0 := fun e => by
              have h1 := HR.out
              have h2 := HC2.out e
              have h3 := HC1.out
              rw [hrr] at h1
              have h4 := h1.2.2
              have := h4.2.2 h2
              omega
            have hxB : k = 256 → x0 = 0 := fun e => by
              have h1 := HC3.out e
              rw [h1, rev16_zero] at hrr
              have : r = 0 := by omega
              subst this; subst hx0; rfl
            have HI := Lib.hid ((HIN.out x0 _ rfl hxA hxB).drewN n7)
            have HK := Lib.hid ((hkk5.trans ((keep_setCell wr nb 9 (.int .i64 ((c + 1 : Nat) : Int))).mono fun _ _ _ e => Or.inl e.1)).drewN n7)
            obtain ⟨w8, hw8⟩ : ∃ w8, w8 = (wr.setCell ⟨nb, 9, none⟩ (.int .i64 ((c + 1 : Nat) : Int))).drewN n7 := ⟨_, rfl⟩
            rw [show ((c : Int) + 1) = ((c + 1 : Nat) : Int) by omega]
            rw [← hw8] at HI HK ⊢
            have HXA := Lib.hid hxA
            have HX0L := Lib.hid hx0l
            have HXB := Lib.hid hxB
            clear hw8 hxA hxB hrr hx0 hcn hlk hmn hcz
            go_wp2
            go_loopg [23] 1024 (fun G v23 wq => ∃ x g', g' = G ∧ x + g' = x0 + 1024 ∧ x ≤ 1024 ∧ v23 = .int .i64 (x : Int) ∧ HufIn hb nb k x wq ∧ Keep (fun x _ => x = nb ∨ x = hb) w5 wq)
            case atStart =>
              have := HX0L.out
              exact ⟨x0, 1024, rfl, by omega, by omega, rfl, HI.out, HK.out⟩
            case round =>
              obtain ⟨x, g', hG', hxg, hx1, rfl, hxi, hkx⟩ := hrel
              have HG' := Lib.hid hG'
              clear hG'
              by_cases hx5 : x < 512
              · have hxI : (x : Int) < 512 := by omega
                have hdx : decide ((x : Int) < 512) = true := by simp; omega
                have hzz := hxi.fzh
                have hxw : IntKind.i64.wrap ((x : Int) + 512) = ((x + 512 : Nat) : Int) := by rw [IntWalk.i64_in _ (by omega)]; omega
                have HSTEP := Lib.hid (hxi.step (S := 512) hbnb hx5 (by omega) cv HCVE.out)
                obtain ⟨q, hq⟩ := hxi.chunks x hx5
                have HXI := Lib.hid hxi
                clear hxi
                go_wp2
                go_roundg (g' - 512)
                case measure => have := HG'.out; omega
                case rel => have := HX0L.out; exact ⟨x + 512, g' - 512, rfl, by omega, by omega, by go_num, HSTEP.out, hkx.trans ((keep_setCell _ _ _ _).mono fun _ _ _ e => Or.inr e.1)⟩
              · have hdx : decide ((x : Int) < 512) = false := by simp; omega
                have HO := Lib.hid (hxi.out (by omega))
                clear hxi
                go_wp2
                go_roundg (g - 1)
                case measure => have := HG.out; omega
                case rel => exact ⟨k + 1, g - 1, rfl, by omega, by go_num, HO.out, hkx⟩
        · have hk9 : k = 288 := by omega
          subst hk9
          have hm := inv.mn
          have he := inv.eob (by omega)
          have hdec : decide (((288 : Nat) : Int) < 288) = false := by decide
          have HM := Lib.hid hm
          have HE := Lib.hid he
          go_wp2
          go_ret
          refine ⟨rfl, HM.out, HE.out, hk05.then hkk5 (fun x _ hx e => e.elim id fun e => e.elim (fun e => absurd hx (by omega)) fun e => absurd hx (by omega)) fun x _ hx e => e.elim (fun e => absurd hx (by omega)) id⟩
end Go.Proofs.YtnbbppjgamdfeaaGreatDoor
end

/- flate: a symbol of the fixed code out of a byte of noughts; the fixed code. -/
section
set_option linter.unusedVariables false
set_option linter.unusedSimpArgs false
namespace Go.Proofs.YtnbbppjgamdfeaaGreatDoor
open Go Go.RowKit

set_option maxHeartbeats 2000000 in
set_option maxRecDepth 100000 in
/-- huffSym where 5 bits of nought are held and the next byte is 0: the end of the block. -/
theorem huffSym {N : Nums} {D : List UInt8} {d : Dv} {s E c0 : Nat} {w : World} {R : List UInt8} {fb hb gb : Nat} {f : Fv} (hS : SI N D d s E c0 w (0 :: R)) (h : Flt w fb N.ub hb f) (h1 : OkS N fb) (h2 : OkS N hb) (h3 : OkS N gb) (hgf : gb ≠ fb) (hb0 : f.b = 0) (hn0 : f.nb = 5)
    (g0 : w.cell? ⟨gb, 0, none⟩ = some (.int .i64 7)) (g1 : w.cell? ⟨gb, 1, none⟩ = some (.int .u32 4103)) :
    Calls Tryz.prog 152 #[.pointer (some ⟨fb, 0, none⟩), .pointer (some ⟨gb, 0, none⟩)] w fun e w' => e = .returned (.tuple #[.int .i64 256, .nilIface]) ∧ SI N D d s E c0 w' R ∧ (∃ q, Flt w' fb N.ub hb { f with roff := q, b := 0, nb := 6 }) ∧ Keep (fun a y => Fs N a y ∨ a = fb) w w' := by
  have hr := h.x_r
  have hb' := h.c_b
  have hn' := h.c_nb
  rw [hb0] at hb'
  rw [hn0] at hn'
  obtain ⟨i, r, v, U, hs⟩ := hS
  go_enter Tryz.func152, Tryz.ntmps152
  go_wp2
  go_quiet (fail)
  go_wp2
  have h' := h.drewN nq
  have hs' : Strm N D d s E c0 (w.drewN nq) (0 :: R) i r v U := hs.keep ((Keep.refl Nil2 w).drewN nq) fun _ _ e => e.elim
  refine wp_loop_rounds 1 ?_
  rw [rounds_succ]
  go_wp2
  refine wp_loop_rounds 2 ?_
  rw [rounds_succ]
  go_wp2_with (go_at_call 242; fail)
  refine (readByte hs').mono ?_
  rintro e w1 ⟨rfl, hS1, hk1⟩
  have hf1 := h'.keep0 hk1 h1.ok h2.ok
  have hq := hf1.c_roff
  have hbb := hf1.c_b
  have hnn := hf1.c_nb
  rw [hb0] at hbb
  rw [hn0] at hnn
  have hz := hf1.fz
  have G0 := hk1.get (w := w.drewN nq) g0 (h3.ok 0)
  have G1 := hk1.get (w := w.drewN nq) g1 (h3.ok 1)
  have HS := Lib.hid hS1
  have HK := Lib.hid hk1
  have hbf : ¬ gb = fb := hgf
  have a31 : bits BinOp.and IntKind.u64 5 31 = 5 := by decide
  have o0 : bits BinOp.or IntKind.u32 0 0 = 0 := by decide
  have a511 : bits BinOp.and IntKind.u32 0 511 = 0 := by decide
  have a15 : bits BinOp.and IntKind.u32 4103 15 = 7 := by decide
  have a7 : bits BinOp.and IntKind.u64 7 31 = 7 := by decide
  clear hs hs' hS1 hk1 g0 g1 hr hb' hn'
  go_wp2
  rw [rounds_succ]
  go_wp2
  go_ret2
  have hk2 : ∀ q, Keep (fun a _ => a = fb) w1 (((w1.setCell ⟨fb, 2, none⟩ (.int .i64 q)).setCell ⟨fb, 3, none⟩ (.int .u32 0)).setCell ⟨fb, 4, none⟩ (.int .u64 6)) := fun q =>
    ((((Keep.refl (fun a _ => a = fb) w1).setCell _ fun _ => rfl).setCell _ fun _ => rfl).setCell _ fun _ => rfl)
  refine ⟨rfl, SI.keep HS.out (hk2 _) fun a _ e => e ▸ h1, ⟨_, ((hf1.set_roff _).set_b 0).set_nb 6⟩, ?_⟩
  exact (((Keep.refl _ w).drewN nq).trans (HK.out.mono fun _ _ _ e => .inl e)).trans ((hk2 _).mono fun _ _ _ e => .inr e)

theorem Nil2.to {F : Nat → Nat → Prop} : ∀ k o : Nat, Nil2 k o → F k o := fun _ _ e => e.elim

set_option maxHeartbeats 4000000 in
set_option maxRecDepth 100000 in
theorem fixedHuffman (w : World) :
    Calls Tryz.prog 144 #[] w fun e w' => ∃ g, e = .returned (.pointer (some ⟨g, 0, none⟩)) ∧ w.heap.size ≤ g ∧ w'.cell? ⟨g, 0, none⟩ = some (.int .i64 7) ∧ w'.cell? ⟨g, 1, none⟩ = some (.int .u32 4103) ∧ Keep Nil2 w w' := by
  obtain ⟨bb, hbb⟩ : ∃ bb, bb = w.heap.size := ⟨_, rfl⟩
  have hi0 : IntsAt (w.alloc (.cells (Array.replicate 288 (.int .i64 0)) 296)) bb 0 288 (fun j => if j < 0 then fxLen j else 0) := by
    refine ⟨fun j hj => ?_, fun j hj => ?_⟩
    · show _ = some (Value.int .i64 0)
      rw [hbb]; go_simp
    · rw [hbb]; go_simp
  have HI := Lib.hid hi0
  have HK := Lib.hid ((Keep.refl Nil2 w).alloc (.cells (Array.replicate 288 (.int .i64 0)) 296))
  clear hi0
  have e296 : Tryz.zeroCells296 = Array.replicate 288 (.int .i64 0) := by kernel_rfl
  go_enter Tryz.func144, Tryz.ntmps144
  go_wp2
  rw [← hbb]
  clear e296
  have hbw : w.heap.size ≤ bb := by omega
  clear hbb
  go_loopg [2] 144 (fun G v wr => ∃ k g, g = G ∧ k + g = 144 ∧ 0 ≤ k ∧ v = .int .i64 (k : Int) ∧ IntsAt wr bb 0 288 (fun j => if j < k then fxLen j else 0) ∧ Keep Nil2 w wr)
  case atStart => exact ⟨0, 144, rfl, by omega, by omega, rfl, HI.out, HK.out⟩
  case round =>
    obtain ⟨k, g, hG, hkg, hlo, rfl, hI, hK⟩ := hrel
    have HG := Lib.hid hG
    clear hG
    by_cases hk : k < 144
    · have hz := hI.fz k (by omega)
      have hc := hI.cell k (by omega)
      have hs := hI.set k (by omega) 8
      have hfun : (fun j => if j = k then 8 else if j < k then fxLen j else 0) = fun j => if j < k + 1 then fxLen j else 0 := by
        funext j
        by_cases e : j = k
        · subst e
          rw [if_pos rfl, if_pos (by omega)]
          unfold fxLen
          rw [if_pos (by omega)]
        · rw [if_neg e]
          by_cases e2 : j < k
          · rw [if_pos e2, if_pos (by omega)]
          · rw [if_neg e2, if_neg (by omega)]
      rw [hfun] at hs
      have hkI : (k : Int) < 288 := by omega
      have hdec : decide ((k : Int) < 144) = true := by simp; omega
      rw [if_neg (by omega)] at hc
      rw [Nat.zero_add] at hz hc hs
      have HS := Lib.hid hs
      have HKR := Lib.hid (hK.then (keep_setCell wr bb k (.int .i64 8)) (fun _ _ _ e => e) fun x _ hx e => absurd e.1 (by omega))
      clear hs hfun hI hK
      go_wp2
      go_roundg (g - 1)
      case measure => have := HG.out; omega
      case rel => exact ⟨k + 1, g - 1, rfl, by omega, by omega, by go_num, HS.out, HKR.out⟩
    · obtain rfl : k = 144 := by omega
      have HI := Lib.hid hI
      have HK := Lib.hid hK
      have hdec : decide (((144 : Nat) : Int) < 144) = false := by decide
      clear hI hK
      go_wp2
      go_loopg [3] 112 (fun G v wr => ∃ k g, g = G ∧ k + g = 256 ∧ 144 ≤ k ∧ v = .int .i64 (k : Int) ∧ IntsAt wr bb 0 288 (fun j => if j < k then fxLen j else 0) ∧ Keep Nil2 w wr)
      case atStart => exact ⟨144, 112, rfl, by omega, by omega, rfl, HI.out, HK.out⟩
      case round =>
        obtain ⟨k, g, hG, hkg, hlo, rfl, hI, hK⟩ := hrel
        have HG := Lib.hid hG
        clear hG
        by_cases hk : k < 256
        · have hz := hI.fz k (by omega)
          have hc := hI.cell k (by omega)
          have hs := hI.set k (by omega) 9
          have hfun : (fun j => if j = k then 9 else if j < k then fxLen j else 0) = fun j => if j < k + 1 then fxLen j else 0 := by
            funext j
            by_cases e : j = k
            · subst e
              rw [if_pos rfl, if_pos (by omega)]
              unfold fxLen
              rw [if_neg (by omega), if_pos (by omega)]
            · rw [if_neg e]
              by_cases e2 : j < k
              · rw [if_pos e2, if_pos (by omega)]
              · rw [if_neg e2, if_neg (by omega)]
          rw [hfun] at hs
          have hkI : (k : Int) < 288 := by omega
          have hdec : decide ((k : Int) < 256) = true := by simp; omega
          rw [if_neg (by omega)] at hc
          rw [Nat.zero_add] at hz hc hs
          have HS := Lib.hid hs
          have HKR := Lib.hid (hK.then (keep_setCell wr bb k (.int .i64 9)) (fun _ _ _ e => e) fun x _ hx e => absurd e.1 (by omega))
          clear hs hfun hI hK
          go_wp2
          go_roundg (g - 1)
          case measure => have := HG.out; omega
          case rel => exact ⟨k + 1, g - 1, rfl, by omega, by omega, by go_num, HS.out, HKR.out⟩
        · obtain rfl : k = 256 := by omega
          have HI := Lib.hid hI
          have HK := Lib.hid hK
          have hdec : decide (((256 : Nat) : Int) < 256) = false := by decide
          clear hI hK
          go_wp2
          go_loopg [4] 24 (fun G v wr => ∃ k g, g = G ∧ k + g = 280 ∧ 256 ≤ k ∧ v = .int .i64 (k : Int) ∧ IntsAt wr bb 0 288 (fun j => if j < k then fxLen j else 0) ∧ Keep Nil2 w wr)
          case atStart => exact ⟨256, 24, rfl, by omega, by omega, rfl, HI.out, HK.out⟩
          case round =>
            obtain ⟨k, g, hG, hkg, hlo, rfl, hI, hK⟩ := hrel
            have HG := Lib.hid hG
            clear hG
            by_cases hk : k < 280
            · have hz := hI.fz k (by omega)
              have hc := hI.cell k (by omega)
              have hs := hI.set k (by omega) 7
              have hfun : (fun j => if j = k then 7 else if j < k then fxLen j else 0) = fun j => if j < k + 1 then fxLen j else 0 := by
                funext j
                by_cases e : j = k
                · subst e
                  rw [if_pos rfl, if_pos (by omega)]
                  unfold fxLen
                  rw [if_neg (by omega), if_neg (by omega), if_pos (by omega)]
                · rw [if_neg e]
                  by_cases e2 : j < k
                  · rw [if_pos e2, if_pos (by omega)]
                  · rw [if_neg e2, if_neg (by omega)]
              rw [hfun] at hs
              have hkI : (k : Int) < 288 := by omega
              have hdec : decide ((k : Int) < 280) = true := by simp; omega
              rw [if_neg (by omega)] at hc
              rw [Nat.zero_add] at hz hc hs
              have HS := Lib.hid hs
              have HKR := Lib.hid (hK.then (keep_setCell wr bb k (.int .i64 7)) (fun _ _ _ e => e) fun x _ hx e => absurd e.1 (by omega))
              clear hs hfun hI hK
              go_wp2
              go_roundg (g - 1)
              case measure => have := HG.out; omega
              case rel => exact ⟨k + 1, g - 1, rfl, by omega, by omega, by go_num, HS.out, HKR.out⟩
            · obtain rfl : k = 280 := by omega
              have HI := Lib.hid hI
              have HK := Lib.hid hK
              have hdec : decide (((280 : Nat) : Int) < 280) = false := by decide
              clear hI hK
              go_wp2
              go_loopg [5] 8 (fun G v wr => ∃ k g, g = G ∧ k + g = 288 ∧ 280 ≤ k ∧ v = .int .i64 (k : Int) ∧ IntsAt wr bb 0 288 (fun j => if j < k then fxLen j else 0) ∧ Keep Nil2 w wr)
              case atStart => exact ⟨280, 8, rfl, by omega, by omega, rfl, HI.out, HK.out⟩
              case round =>
                obtain ⟨k, g, hG, hkg, hlo, rfl, hI, hK⟩ := hrel
                have HG := Lib.hid hG
                clear hG
                by_cases hk : k < 288
                · have hz := hI.fz k (by omega)
                  have hc := hI.cell k (by omega)
                  have hs := hI.set k (by omega) 8
                  have hfun : (fun j => if j = k then 8 else if j < k then fxLen j else 0) = fun j => if j < k + 1 then fxLen j else 0 := by
                    funext j
                    by_cases e : j = k
                    · subst e
                      rw [if_pos rfl, if_pos (by omega)]
                      unfold fxLen
                      rw [if_neg (by omega), if_neg (by omega), if_neg (by omega)]
                    · rw [if_neg e]
                      by_cases e2 : j < k
                      · rw [if_pos e2, if_pos (by omega)]
                      · rw [if_neg e2, if_neg (by omega)]
                  rw [hfun] at hs
                  have hkI : (k : Int) < 288 := by omega
                  have hdec : decide ((k : Int) < 288) = true := by simp; omega
                  rw [if_neg (by omega)] at hc
                  rw [Nat.zero_add] at hz hc hs
                  have HS := Lib.hid hs
                  have HKR := Lib.hid (hK.then (keep_setCell wr bb k (.int .i64 8)) (fun _ _ _ e => e) fun x _ hx e => absurd e.1 (by omega))
                  clear hs hfun hI hK
                  go_wp2
                  go_roundg (g - 1)
                  case measure => have := HG.out; omega
                  case rel => exact ⟨k + 1, g - 1, rfl, by omega, by omega, by go_num, HS.out, HKR.out⟩
                · obtain rfl : k = 288 := by omega
                  have HI := Lib.hid hI
                  have HK := Lib.hid hK
                  have hdec : decide (((288 : Nat) : Int) < 288) = false := by decide
                  clear hI hK
                  have e268 : Tryz.zeroCells268 = #[.int .i64 0] ++ Array.replicate 512 (.int .u32 0) ++ #[.slice none 0 0, .int .u32 0] := by kernel_rfl
                  have HE := Lib.hid e268
                  clear e268
                  go_wp2_with (go_at_call 151; fail)
                  have hlen := HI.out.lt (by omega)
                  have hk5 : Keep Nil2 wr (wr.alloc (.cells Tryz.zeroCells268 268)) := (Keep.refl Nil2 wr).alloc _
                  have hi5 : IntsAt (wr.alloc (.cells Tryz.zeroCells268 268)) bb 0 288 fxLen := by
                    have h5 := HI.out.keep hk5 fun _ _ e => e
                    exact ⟨fun j hj => by have := h5.cell j hj; rwa [if_pos hj] at this, h5.fz⟩
                  have hz5 : HufZero (wr.alloc (.cells Tryz.zeroCells268 268)) wr.heap.size := by
                    rw [HE.out]
                    have hh := heap_alloc_new wr (.cells (#[.int .i64 0] ++ Array.replicate 512 (.int .u32 0) ++ #[.slice none 0 0, .int .u32 0]) 268)
                    refine ⟨?_, fun j hj => ⟨0, ?_⟩, fun j => ?_⟩
                    · rw [cell_of_row _ _ _ _ _ _ hh, Array.getElem?_append_left (by simp), Array.getElem?_append_left (by simp)]; rfl
                    · rw [cell_of_row _ _ _ _ _ _ hh, Array.getElem?_append_left (by rw [Array.size_append, Array.size_replicate]; show 1 + j < 1 + 512; omega), Array.getElem?_append_right (show 1 ≤ 1 + j by omega), Array.getElem?_replicate]
                      exact if_pos (show 1 + j - 1 < 512 by omega)
                    · exact frozen_of_row _ _ _ _ _ hh
                  refine (huffInit hz5 hi5 (by omega)).mono ?_
                  rintro e w6 ⟨rfl, h6a, h6b, hk6⟩
                  go_wp2
                  go_ret
                  exact ⟨_, rfl, by have := HK.out.size; omega, h6a, h6b, (HK.out.trans hk5).then hk6 (fun _ _ _ e => e) fun x _ hx e => absurd e (by have := HK.out.size; omega)⟩
end Go.Proofs.YtnbbppjgamdfeaaGreatDoor
end
