/- laws.FnBack, part 6 of 54: C1 C2 C3. -/
import Derived.Test.YtnbbppjgamdfeaaGreatDoorY03
import Derived.Laws.EntriesVeiled
import Derived.Laws.DeepNot64

/- flate's decompressor in memory (printed by gen_c1.py). -/
section
set_option linter.unusedVariables false
set_option linter.unusedSimpArgs false
namespace Go.Proofs.YtnbbppjgamdfeaaGreatDoor
open Go Go.RowKit

/-- What a flate.decompressor holds that changes. -/
structure Fv where
  roff : Int
  b : Int
  nb : Int
  wr : Int
  rd : Int
  step : Nat
  fin : Bool
  err : Value
  toR : Value
  hl : Value
  hd : Value
  cl : Int

/-- The decompressor at block fb over the buffered reader at ub, its window at block hb. -/
structure Flt (w : World) (fb ub hb : Nat) (d : Fv) : Prop where
  x_r : w.cell? ⟨fb, 0, none⟩ = some (.iface 252 (.pointer (some ⟨ub, 0, none⟩)))
  x_rBuf : w.cell? ⟨fb, 1, none⟩ = some (.pointer none)
  x_hist : w.cell? ⟨fb, 1037, none⟩ = some (.slice (some ⟨hb, 0, none⟩) 32768 32768)
  x_full : w.cell? ⟨fb, 1040, none⟩ = some (.bool false)
  x_sst : w.cell? ⟨fb, 1046, none⟩ = some (.int .i64 0)
  c_roff : w.cell? ⟨fb, 2, none⟩ = some (.int .i64 d.roff)
  c_b : w.cell? ⟨fb, 3, none⟩ = some (.int .u32 d.b)
  c_nb : w.cell? ⟨fb, 4, none⟩ = some (.int .u64 d.nb)
  c_wr : w.cell? ⟨fb, 1038, none⟩ = some (.int .i64 d.wr)
  c_rd : w.cell? ⟨fb, 1039, none⟩ = some (.int .i64 d.rd)
  c_step : w.cell? ⟨fb, 1045, none⟩ = some (.func (.func d.step) #[] #[])
  c_fin : w.cell? ⟨fb, 1047, none⟩ = some (.bool d.fin)
  c_err : w.cell? ⟨fb, 1048, none⟩ = some (d.err)
  c_toR : w.cell? ⟨fb, 1049, none⟩ = some (d.toR)
  c_hl : w.cell? ⟨fb, 1050, none⟩ = some (d.hl)
  c_hd : w.cell? ⟨fb, 1051, none⟩ = some (d.hd)
  c_cl : w.cell? ⟨fb, 1052, none⟩ = some (.int .i64 d.cl)
  buf : RoomAt w fb 1041 4
  room : RoomAt w hb 0 32768
  fz : ∀ j, w.frozen? ⟨fb, j, none⟩ = false
  ne : fb ≠ hb
theorem Flt.lt {w : World} {fb ub hb : Nat} {d : Fv} (h : Flt w fb ub hb d) : fb < w.heap.size := World.block_lt_of_cell? w _ h.x_r
/-- What leaves the fields alone; the buffer of four bytes and the window have room still. -/
theorem Flt.keep {w w' : World} {fb ub hb : Nat} {d : Fv} {G : Nat → Nat → Prop} (h : Flt w fb ub hb d) (hk : Keep G w w') (h1 : ∀ y, G fb y → 1041 ≤ y ∧ y < 1045) (h2 : RoomAt w' fb 1041 4) (h3 : RoomAt w' hb 0 32768) (h4 : ∀ j, w'.frozen? ⟨fb, j, none⟩ = false) : Flt w' fb ub hb d :=
  ⟨hk.get h.x_r (fun e => by have := h1 _ e; omega), hk.get h.x_rBuf (fun e => by have := h1 _ e; omega), hk.get h.x_hist (fun e => by have := h1 _ e; omega), hk.get h.x_full (fun e => by have := h1 _ e; omega), hk.get h.x_sst (fun e => by have := h1 _ e; omega), hk.get h.c_roff (fun e => by have := h1 _ e; omega), hk.get h.c_b (fun e => by have := h1 _ e; omega), hk.get h.c_nb (fun e => by have := h1 _ e; omega), hk.get h.c_wr (fun e => by have := h1 _ e; omega), hk.get h.c_rd (fun e => by have := h1 _ e; omega), hk.get h.c_step (fun e => by have := h1 _ e; omega), hk.get h.c_fin (fun e => by have := h1 _ e; omega), hk.get h.c_err (fun e => by have := h1 _ e; omega), hk.get h.c_toR (fun e => by have := h1 _ e; omega), hk.get h.c_hl (fun e => by have := h1 _ e; omega), hk.get h.c_hd (fun e => by have := h1 _ e; omega), hk.get h.c_cl (fun e => by have := h1 _ e; omega), h2, h3, h4, h.ne⟩
theorem Flt.keep0 {w w' : World} {fb ub hb : Nat} {d : Fv} {G : Nat → Nat → Prop} (h : Flt w fb ub hb d) (hk : Keep G w w') (h1 : ∀ y, ¬ G fb y) (h2 : ∀ y, ¬ G hb y) : Flt w' fb ub hb d :=
  h.keep hk (fun y e => (h1 y e).elim) (h.buf.keep hk fun _ _ => h1 _) (h.room.keep hk fun _ _ => h2 _) fun j => hk.froz h.lt (h.fz j) (h1 j)
theorem Flt.drewN {w : World} {fb ub hb : Nat} {d : Fv} (h : Flt w fb ub hb d) (n : Nat) : Flt (w.drewN n) fb ub hb d := h.keep0 ((Keep.refl Nil2 w).drewN n) (fun _ e => e) (fun _ e => e)
section
variable {w : World} {fb ub hb : Nat} {d : Fv} (h : Flt w fb ub hb d)
include h
theorem Flt.fzSet (k : Nat) (x : Value) : ∀ j, (w.setCell ⟨fb, k, none⟩ x).frozen? ⟨fb, j, none⟩ = false := fun j => by rw [World.frozen?_setCell]; exact h.fz j
theorem Flt.bSet (k : Nat) (x : Value) (hk : ¬ (1041 ≤ k ∧ k < 1045)) : RoomAt (w.setCell ⟨fb, k, none⟩ x) fb 1041 4 := h.buf.keep (keep_setCell _ _ _ _) fun _ _ e => by omega
theorem Flt.rSet (k : Nat) (x : Value) : RoomAt (w.setCell ⟨fb, k, none⟩ x) hb 0 32768 := h.room.keep (keep_setCell _ _ _ _) fun _ _ e => h.ne e.1.symm
theorem Flt.set_roff (x : Int) : Flt (w.setCell ⟨fb, 2, none⟩ (.int .i64 x)) fb ub hb { d with roff := x } :=
  ⟨setF h.x_r (by decide), setF h.x_rBuf (by decide), setF h.x_hist (by decide), setF h.x_full (by decide), setF h.x_sst (by decide), World.cell?_setCell_same _ _ _ h.c_roff, setF h.c_b (by decide), setF h.c_nb (by decide), setF h.c_wr (by decide), setF h.c_rd (by decide), setF h.c_step (by decide), setF h.c_fin (by decide), setF h.c_err (by decide), setF h.c_toR (by decide), setF h.c_hl (by decide), setF h.c_hd (by decide), setF h.c_cl (by decide), h.bSet _ _ (by decide), h.rSet _ _, h.fzSet _ _, h.ne⟩
theorem Flt.set_b (x : Int) : Flt (w.setCell ⟨fb, 3, none⟩ (.int .u32 x)) fb ub hb { d with b := x } :=
  ⟨setF h.x_r (by decide), setF h.x_rBuf (by decide), setF h.x_hist (by decide), setF h.x_full (by decide), setF h.x_sst (by decide), setF h.c_roff (by decide), World.cell?_setCell_same _ _ _ h.c_b, setF h.c_nb (by decide), setF h.c_wr (by decide), setF h.c_rd (by decide), setF h.c_step (by decide), setF h.c_fin (by decide), setF h.c_err (by decide), setF h.c_toR (by decide), setF h.c_hl (by decide), setF h.c_hd (by decide), setF h.c_cl (by decide), h.bSet _ _ (by decide), h.rSet _ _, h.fzSet _ _, h.ne⟩
theorem Flt.set_nb (x : Int) : Flt (w.setCell ⟨fb, 4, none⟩ (.int .u64 x)) fb ub hb { d with nb := x } :=
  ⟨setF h.x_r (by decide), setF h.x_rBuf (by decide), setF h.x_hist (by decide), setF h.x_full (by decide), setF h.x_sst (by decide), setF h.c_roff (by decide), setF h.c_b (by decide), World.cell?_setCell_same _ _ _ h.c_nb, setF h.c_wr (by decide), setF h.c_rd (by decide), setF h.c_step (by decide), setF h.c_fin (by decide), setF h.c_err (by decide), setF h.c_toR (by decide), setF h.c_hl (by decide), setF h.c_hd (by decide), setF h.c_cl (by decide), h.bSet _ _ (by decide), h.rSet _ _, h.fzSet _ _, h.ne⟩
theorem Flt.set_wr (x : Int) : Flt (w.setCell ⟨fb, 1038, none⟩ (.int .i64 x)) fb ub hb { d with wr := x } :=
  ⟨setF h.x_r (by decide), setF h.x_rBuf (by decide), setF h.x_hist (by decide), setF h.x_full (by decide), setF h.x_sst (by decide), setF h.c_roff (by decide), setF h.c_b (by decide), setF h.c_nb (by decide), World.cell?_setCell_same _ _ _ h.c_wr, setF h.c_rd (by decide), setF h.c_step (by decide), setF h.c_fin (by decide), setF h.c_err (by decide), setF h.c_toR (by decide), setF h.c_hl (by decide), setF h.c_hd (by decide), setF h.c_cl (by decide), h.bSet _ _ (by decide), h.rSet _ _, h.fzSet _ _, h.ne⟩
theorem Flt.set_rd (x : Int) : Flt (w.setCell ⟨fb, 1039, none⟩ (.int .i64 x)) fb ub hb { d with rd := x } :=
  ⟨setF h.x_r (by decide), setF h.x_rBuf (by decide), setF h.x_hist (by decide), setF h.x_full (by decide), setF h.x_sst (by decide), setF h.c_roff (by decide), setF h.c_b (by decide), setF h.c_nb (by decide), setF h.c_wr (by decide), World.cell?_setCell_same _ _ _ h.c_rd, setF h.c_step (by decide), setF h.c_fin (by decide), setF h.c_err (by decide), setF h.c_toR (by decide), setF h.c_hl (by decide), setF h.c_hd (by decide), setF h.c_cl (by decide), h.bSet _ _ (by decide), h.rSet _ _, h.fzSet _ _, h.ne⟩
theorem Flt.set_step (x : Nat) : Flt (w.setCell ⟨fb, 1045, none⟩ (.func (.func x) #[] #[])) fb ub hb { d with step := x } :=
  ⟨setF h.x_r (by decide), setF h.x_rBuf (by decide), setF h.x_hist (by decide), setF h.x_full (by decide), setF h.x_sst (by decide), setF h.c_roff (by decide), setF h.c_b (by decide), setF h.c_nb (by decide), setF h.c_wr (by decide), setF h.c_rd (by decide), World.cell?_setCell_same _ _ _ h.c_step, setF h.c_fin (by decide), setF h.c_err (by decide), setF h.c_toR (by decide), setF h.c_hl (by decide), setF h.c_hd (by decide), setF h.c_cl (by decide), h.bSet _ _ (by decide), h.rSet _ _, h.fzSet _ _, h.ne⟩
theorem Flt.set_fin (x : Bool) : Flt (w.setCell ⟨fb, 1047, none⟩ (.bool x)) fb ub hb { d with fin := x } :=
  ⟨setF h.x_r (by decide), setF h.x_rBuf (by decide), setF h.x_hist (by decide), setF h.x_full (by decide), setF h.x_sst (by decide), setF h.c_roff (by decide), setF h.c_b (by decide), setF h.c_nb (by decide), setF h.c_wr (by decide), setF h.c_rd (by decide), setF h.c_step (by decide), World.cell?_setCell_same _ _ _ h.c_fin, setF h.c_err (by decide), setF h.c_toR (by decide), setF h.c_hl (by decide), setF h.c_hd (by decide), setF h.c_cl (by decide), h.bSet _ _ (by decide), h.rSet _ _, h.fzSet _ _, h.ne⟩
theorem Flt.set_err (x : Value) : Flt (w.setCell ⟨fb, 1048, none⟩ (x)) fb ub hb { d with err := x } :=
  ⟨setF h.x_r (by decide), setF h.x_rBuf (by decide), setF h.x_hist (by decide), setF h.x_full (by decide), setF h.x_sst (by decide), setF h.c_roff (by decide), setF h.c_b (by decide), setF h.c_nb (by decide), setF h.c_wr (by decide), setF h.c_rd (by decide), setF h.c_step (by decide), setF h.c_fin (by decide), World.cell?_setCell_same _ _ _ h.c_err, setF h.c_toR (by decide), setF h.c_hl (by decide), setF h.c_hd (by decide), setF h.c_cl (by decide), h.bSet _ _ (by decide), h.rSet _ _, h.fzSet _ _, h.ne⟩
theorem Flt.set_toR (x : Value) : Flt (w.setCell ⟨fb, 1049, none⟩ (x)) fb ub hb { d with toR := x } :=
  ⟨setF h.x_r (by decide), setF h.x_rBuf (by decide), setF h.x_hist (by decide), setF h.x_full (by decide), setF h.x_sst (by decide), setF h.c_roff (by decide), setF h.c_b (by decide), setF h.c_nb (by decide), setF h.c_wr (by decide), setF h.c_rd (by decide), setF h.c_step (by decide), setF h.c_fin (by decide), setF h.c_err (by decide), World.cell?_setCell_same _ _ _ h.c_toR, setF h.c_hl (by decide), setF h.c_hd (by decide), setF h.c_cl (by decide), h.bSet _ _ (by decide), h.rSet _ _, h.fzSet _ _, h.ne⟩
theorem Flt.set_hl (x : Value) : Flt (w.setCell ⟨fb, 1050, none⟩ (x)) fb ub hb { d with hl := x } :=
  ⟨setF h.x_r (by decide), setF h.x_rBuf (by decide), setF h.x_hist (by decide), setF h.x_full (by decide), setF h.x_sst (by decide), setF h.c_roff (by decide), setF h.c_b (by decide), setF h.c_nb (by decide), setF h.c_wr (by decide), setF h.c_rd (by decide), setF h.c_step (by decide), setF h.c_fin (by decide), setF h.c_err (by decide), setF h.c_toR (by decide), World.cell?_setCell_same _ _ _ h.c_hl, setF h.c_hd (by decide), setF h.c_cl (by decide), h.bSet _ _ (by decide), h.rSet _ _, h.fzSet _ _, h.ne⟩
theorem Flt.set_hd (x : Value) : Flt (w.setCell ⟨fb, 1051, none⟩ (x)) fb ub hb { d with hd := x } :=
  ⟨setF h.x_r (by decide), setF h.x_rBuf (by decide), setF h.x_hist (by decide), setF h.x_full (by decide), setF h.x_sst (by decide), setF h.c_roff (by decide), setF h.c_b (by decide), setF h.c_nb (by decide), setF h.c_wr (by decide), setF h.c_rd (by decide), setF h.c_step (by decide), setF h.c_fin (by decide), setF h.c_err (by decide), setF h.c_toR (by decide), setF h.c_hl (by decide), World.cell?_setCell_same _ _ _ h.c_hd, setF h.c_cl (by decide), h.bSet _ _ (by decide), h.rSet _ _, h.fzSet _ _, h.ne⟩
theorem Flt.set_cl (x : Int) : Flt (w.setCell ⟨fb, 1052, none⟩ (.int .i64 x)) fb ub hb { d with cl := x } :=
  ⟨setF h.x_r (by decide), setF h.x_rBuf (by decide), setF h.x_hist (by decide), setF h.x_full (by decide), setF h.x_sst (by decide), setF h.c_roff (by decide), setF h.c_b (by decide), setF h.c_nb (by decide), setF h.c_wr (by decide), setF h.c_rd (by decide), setF h.c_step (by decide), setF h.c_fin (by decide), setF h.c_err (by decide), setF h.c_toR (by decide), setF h.c_hl (by decide), setF h.c_hd (by decide), World.cell?_setCell_same _ _ _ h.c_cl, h.bSet _ _ (by decide), h.rSet _ _, h.fzSet _ _, h.ne⟩
end
end Go.Proofs.YtnbbppjgamdfeaaGreatDoor
end

/- flate: the window (dictDecoder); moreBits; finishBlock. -/
section
set_option linter.unusedVariables false
set_option linter.unusedSimpArgs false
namespace Go.Proofs.YtnbbppjgamdfeaaGreatDoor
open Go Go.RowKit

set_option maxHeartbeats 400000 in
theorem availWrite {w : World} {fb ub hb : Nat} {d : Fv} (h : Flt w fb ub hb d) {k : Nat} (hk : d.wr = (k : Int)) (hk2 : k ≤ 32768) :
    Calls Tryz.prog 154 #[.pointer (some ⟨fb, 1037, none⟩)] w fun e w' => e = .returned (.int .i64 (32768 - (k : Int))) ∧ ∃ n, w' = w.drewN n := by
  have h1 := h.x_hist
  have h2 := h.c_wr
  rw [hk] at h2
  have hw : IntKind.i64.wrap (32768 - (k : Int)) = 32768 - (k : Int) := IntWalk.i64_in _ (by omega)
  go_enter Tryz.func154, Tryz.ntmps154
  go_wp2
  go_quiet (fail)
  go_wp2
  go_ret
  exact ⟨rfl, _, rfl⟩

set_option maxHeartbeats 400000 in
theorem availRead {w : World} {fb ub hb : Nat} {d : Fv} (h : Flt w fb ub hb d) {k m : Nat} (hk : d.wr = (k : Int)) (hm : d.rd = (m : Int)) (hk2 : k ≤ 32768) (hmk : m ≤ k) :
    Calls Tryz.prog 159 #[.pointer (some ⟨fb, 1037, none⟩)] w fun e w' => e = .returned (.int .i64 ((k : Int) - (m : Int))) ∧ ∃ n, w' = w.drewN n := by
  have h1 := h.c_rd
  have h2 := h.c_wr
  rw [hk] at h2
  rw [hm] at h1
  have hw : IntKind.i64.wrap ((k : Int) - (m : Int)) = (k : Int) - (m : Int) := IntWalk.i64_in _ (by omega)
  go_enter Tryz.func159, Tryz.ntmps159
  go_wp2
  go_quiet (fail)
  go_wp2
  go_ret
  exact ⟨rfl, _, rfl⟩

set_option maxHeartbeats 400000 in
theorem writeSlice {w : World} {fb ub hb : Nat} {d : Fv} (h : Flt w fb ub hb d) {k : Nat} (hk : d.wr = (k : Int)) (hk2 : k < 32768) :
    Calls Tryz.prog 160 #[.pointer (some ⟨fb, 1037, none⟩)] w fun e w' => e = .returned (.slice (some ⟨hb, k, none⟩) (32768 - k) (32768 - k)) ∧ ∃ n, w' = w.drewN n := by
  have h1 := h.x_hist
  have h2 := h.c_wr
  rw [hk] at h2
  have hkI : (k : Int) ≤ 32768 := by omega
  have hne : ¬ (32768 : Nat) = k := by omega
  go_enter Tryz.func160, Tryz.ntmps160
  go_wp2
  go_quiet (fail)
  go_wp2
  go_ret
  exact ⟨rfl, _, rfl⟩

set_option maxHeartbeats 400000 in
theorem writeMark {w : World} {fb ub hb : Nat} {d : Fv} (h : Flt w fb ub hb d) {k : Nat} (hk : d.wr = (k : Int)) (n : Nat) (hn : k + n ≤ 32768) :
    Calls Tryz.prog 161 #[.pointer (some ⟨fb, 1037, none⟩), .int .i64 (n : Int)] w fun e w' => e = .returned (.tuple #[]) ∧ Flt w' fb ub hb { d with wr := ((k + n : Nat) : Int) } ∧ Keep (fun x y => x = fb ∧ y = 1038) w w' := by
  have h2 := h.c_wr
  rw [hk] at h2
  have hz := h.fz
  have hw : IntKind.i64.wrap ((k : Int) + (n : Int)) = ((k + n : Nat) : Int) := by rw [IntWalk.i64_in _ (by omega)]; omega
  go_enter Tryz.func161, Tryz.ntmps161
  go_wp2
  go_end0
  have h3 := h.set_wr ((k + n : Nat) : Int)
  rw [show ((k + n : Nat) : Int) = (k : Int) + (n : Int) by omega] at h3 ⊢
  exact ⟨rfl, h3, keep_setCell _ _ _ _⟩

set_option maxHeartbeats 1000000 in
theorem readFlush {w : World} {fb ub hb : Nat} {d : Fv} (h : Flt w fb ub hb d) {k m : Nat} (hk : d.wr = (k : Int)) (hm : d.rd = (m : Int)) (hk2 : k < 32768) (hmk : m ≤ k) :
    Calls Tryz.prog 148 #[.pointer (some ⟨fb, 1037, none⟩)] w fun e w' => e = .returned (.slice (some ⟨hb, m, none⟩) (k - m) (32768 - m)) ∧ Flt w' fb ub hb { d with rd := (k : Int) } ∧ Keep (fun x y => x = fb ∧ y = 1039) w w' := by
  have h0 := h.x_hist
  have h1 := h.c_rd
  have h2 := h.c_wr
  rw [hk] at h2
  rw [hm] at h1
  have hz := h.fz
  have hkI : (k : Int) ≤ 32768 := by omega
  have hmkI : (m : Int) ≤ k := by omega
  have hne : ¬ (32768 : Nat) = m := by omega
  have hke : ((k : Int) == 32768) = false := by simp; omega
  go_enter Tryz.func148, Tryz.ntmps148
  go_wp2
  go_quiet (fail)
  go_wp2
  go_quiet (fail)
  go_wp2
  go_ret
  refine ⟨rfl, ?_, ?_⟩
  · exact ((h.drewN _).set_rd (k : Int)).drewN _
  · exact (((Keep.refl (fun x y => x = fb ∧ y = 1039) w).drewN _).setCell _ fun _ => ⟨rfl, rfl⟩).drewN _

set_option maxHeartbeats 1000000 in
theorem finishBlock {w : World} {fb ub hb : Nat} {d : Fv} (h : Flt w fb ub hb d) (hf : d.fin = false) :
    Calls Tryz.prog 149 #[.pointer (some ⟨fb, 0, none⟩)] w fun e w' => e = .returned (.tuple #[]) ∧ Flt w' fb ub hb { d with step := 136 } ∧ Keep (fun x y => x = fb) w w' := by
  have h0 := h.c_fin
  rw [hf] at h0
  have h1 := h.c_step
  have hz := h.fz
  go_enter Tryz.func149, Tryz.ntmps149
  go_wp2
  go_end0
  exact ⟨rfl, h.set_step 136, (keep_setCell _ _ _ _).mono fun _ _ _ e => e.1⟩

set_option maxHeartbeats 1000000 in
set_option maxRecDepth 100000 in
/-- finishBlock at the last block: what was written is to be read; the end stands. -/
theorem finishLast {w : World} {fb ub hb : Nat} {d : Fv} (h : Flt w fb ub hb d) (hf : d.fin = true) {k : Nat} (hk : d.wr = (k : Int)) (hm : d.rd = 0) (hk0 : 0 < k) (hk2 : k < 32768) {t : TypeId} {ev : Value} (he : w.cell? ⟨0, 0, none⟩ = some (.iface t ev)) (h0b : fb ≠ 0) :
    Calls Tryz.prog 149 #[.pointer (some ⟨fb, 0, none⟩)] w fun e w' => e = .returned (.tuple #[]) ∧ Flt w' fb ub hb { d with rd := (k : Int), toR := .slice (some ⟨hb, 0, none⟩) k 32768, err := .iface t ev, step := 136 } ∧ Keep (fun x y => x = fb) w w' := by
  have h0 := h.c_fin
  rw [hf] at h0
  go_enter Tryz.func149, Tryz.ntmps149
  go_wp2_with (go_at_call 159; fail)
  refine (availRead h hk (m := 0) hm (by omega) (by omega)).mono ?_
  rintro e w1 ⟨rfl, n, rfl⟩
  have hgt : decide ((0 : Int) < (k : Int) - ((0 : Nat) : Int)) = true := by simp; omega
  go_wp2_with (go_at_call 148; fail)
  refine (readFlush (h.drewN n) hk (m := 0) hm (by omega) (by omega)).mono ?_
  rintro e w2 ⟨rfl, h2, hk2⟩
  have he2 := hk2.get (F := fun x y => x = fb ∧ y = 1039) he (by omega)
  have hz2 := h2.fz
  have ht2 := h2.c_toR
  have hr2 := h2.c_err
  have hs2 := h2.c_step
  go_wp2
  go_end0
  refine ⟨rfl, ((h2.set_toR (.slice (some ⟨hb, 0, none⟩) k 32768)).set_err (.iface t ev)).set_step 136, ?_⟩
  exact ((((Keep.refl (fun x y => x = fb) w).drewN n).trans (hk2.mono fun _ _ _ e => e.1)).setCell _ (fun _ => rfl)).setCell _ (fun _ => rfl) |>.setCell _ fun _ => rfl
end Go.Proofs.YtnbbppjgamdfeaaGreatDoor
end

/- flate: moreBits, copyData, dataBlock. -/
section
set_option linter.unusedVariables false
set_option linter.unusedSimpArgs false
namespace Go.Proofs.YtnbbppjgamdfeaaGreatDoor
open Go Go.RowKit

theorem i64_or_nat (a b : Nat) (ha : a < 4294967296) (hb : b < 4294967296) : bits .or .i64 (a : Int) (b : Int) = ((a ||| b : Nat) : Int) := by
  show IntKind.i64.wrap ((BitVec.ofInt 64 (a : Int) ||| BitVec.ofInt 64 (b : Int)).toNat : Int) = _
  have hab : a ||| b < 4294967296 := Nat.or_lt_two_pow (n := 32) ha hb
  rw [BitVec.toNat_or, ofInt_u64 a (by omega), ofInt_u64 b (by omega)]
  exact IntWalk.i64_in _ (by omega)
/-- Two bytes as a number, the lowest first. -/
theorem le2_bits (a b : Nat) (ha : a < 256) (hb : b < 256) : bits BinOp.or IntKind.i64 (a : Int) ((b : Int) * 256) = ((a + 256 * b : Nat) : Int) := by
  rw [show (b : Int) * 256 = ((256 * b : Nat) : Int) by omega, i64_or_nat _ _ (by omega) (by omega), Nat.or_comm, or_add _ _ 8 (by omega) (by omega)]
  omega
theorem not_u16 (n : Nat) (hn : n < 65536) : IntKind.u16.wrap (bits BinOp.xor IntKind.i64 (if IntKind.i64.signed = true then -1 else 9223372036854775807) (n : Int)) = ((65535 - n : Nat) : Int) := by
  rw [show (if IntKind.i64.signed = true then (-1 : Int) else 9223372036854775807) = -1 from rfl, i64_not n (by omega)]
  simp [IntKind.wrap, IntKind.bits, IntKind.signed]
  omega

/-- The bytes R are still to come from the stream. -/
def SI (N : Nums) (D : List UInt8) (d : Dv) (s E c0 : Nat) (w : World) (R : List UInt8) : Prop := ∃ i r v U, Strm N D d s E c0 w R i r v U
theorem SI.keep {N : Nums} {D : List UInt8} {d : Dv} {s E c0 : Nat} {w w' : World} {R : List UInt8} {F : Nat → Nat → Prop} (h : SI N D d s E c0 w R) (hk : Keep F w w') (hF : ∀ x y, F x y → OkS N x) : SI N D d s E c0 w' R := by
  obtain ⟨i, r, v, U, h⟩ := h
  exact ⟨i, r, v, U, h.keep hk hF⟩
theorem SI.drewN {N : Nums} {D : List UInt8} {d : Dv} {s E c0 : Nat} {w : World} {R : List UInt8} (h : SI N D d s E c0 w R) (n : Nat) : SI N D d s E c0 (w.drewN n) R := h.keep ((Keep.refl Nil2 w).drewN n) (fun _ _ e => e.elim)
theorem OkS.ok {N : Nums} {b : Nat} (h : OkS N b) (y : Nat) : ¬ Fs N b y := fun e => by
  rcases e with e | e | e | e | e
  · exact h.1.1 (.inl e)
  · exact h.1.1 (.inr (.inl e))
  · exact h.1.1 (.inr (.inr e))
  · exact h.2.1 e
  · exact h.2.2 e

set_option maxHeartbeats 1000000 in
set_option maxRecDepth 100000 in
/-- moreBits where no bits are held. -/
theorem moreBits {N : Nums} {D : List UInt8} {d : Dv} {s E c0 : Nat} {w : World} {x : UInt8} {R : List UInt8} {fb hb : Nat} {f : Fv} (hS : SI N D d s E c0 w (x :: R)) (h : Flt w fb N.ub hb f) (h1 : OkS N fb) (h2 : OkS N hb) (hb0 : f.b = 0) (hn0 : f.nb = 0) :
    Calls Tryz.prog 142 #[.pointer (some ⟨fb, 0, none⟩)] w fun e w' => e = .returned .nilIface ∧ SI N D d s E c0 w' R ∧ (∃ q, Flt w' fb N.ub hb { f with roff := q, b := (x.toNat : Int), nb := 8 }) ∧ Keep (fun a y => Fs N a y ∨ a = fb) w w' := by
  have hr := h.x_r
  obtain ⟨i, r, v, U, hs⟩ := hS
  go_enter Tryz.func142, Tryz.ntmps142
  go_wp2_with (go_at_call 242; fail)
  refine (readByte hs).mono ?_
  rintro e w1 ⟨rfl, hS1, hk1⟩
  have hf1 := h.keep0 hk1 h1.ok h2.ok
  have hq := hf1.c_roff
  have hbb := hf1.c_b
  have hnn := hf1.c_nb
  rw [hb0] at hbb
  rw [hn0] at hnn
  have hz := hf1.fz
  have hx8 := x.toNat_lt
  have hor : bits BinOp.or IntKind.u32 0 (x.toNat : Int) = (x.toNat : Int) := by
    rw [show (0 : Int) = ((0 : Nat) : Int) from rfl, u32_or_nat _ _ (by omega) (by omega), Nat.zero_or]
  have HS := Lib.hid hS1
  have HK := Lib.hid hk1
  clear hs hS1 hk1
  go_wp2
  go_region
  go_wp2
  go_ret
  have hk2 : ∀ q, Keep (fun a _ => a = fb) w1 (((w1.setCell ⟨fb, 2, none⟩ (.int .i64 q)).setCell ⟨fb, 3, none⟩ (.int .u32 (x.toNat : Int))).setCell ⟨fb, 4, none⟩ (.int .u64 8)).drew := fun q =>
    ((((Keep.refl (fun a _ => a = fb) w1).setCell _ fun _ => rfl).setCell _ fun _ => rfl).setCell _ fun _ => rfl).drew
  exact ⟨rfl, HS.out.elim (fun i ⟨r, v, U, hs⟩ => ⟨i, r, v, U, hs.keep (hk2 _) fun a _ e => e ▸ h1⟩), ⟨_, (((hf1.set_roff _).set_b _).set_nb _).drewN 1⟩, (HK.out.mono fun _ _ _ e => .inl e).trans ((hk2 _).mono fun _ _ _ e => .inr e)⟩

set_option maxHeartbeats 4000000 in
set_option maxRecDepth 100000 in
/-- copyData: a whole block into the empty window. -/
theorem copyData {N : Nums} {D : List UInt8} {d : Dv} {s E c0 : Nat} {w : World} {l R : List UInt8} {fb hb : Nat} {f : Fv} (hS : SI N D d s E c0 w (l ++ R)) (h : Flt w fb N.ub hb f) (h1 : OkS N fb) (h2 : OkS N hb) (hD : D.length ≤ 1073741824)
    (hl0 : 0 < l.length) (hl : l.length < 32768) (hcl : f.cl = (l.length : Int)) (hwr : f.wr = 0) (hfin : f.fin = false) :
    Calls Tryz.prog 150 #[.pointer (some ⟨fb, 0, none⟩)] w fun e w' => e = .returned (.tuple #[]) ∧ SI N D d s E c0 w' R ∧ BytesAt w' hb 0 l ∧ (∃ q, Flt w' fb N.ub hb { f with roff := q, wr := (l.length : Int), cl := 0, step := 136 }) ∧
      Keep (fun a y => Fs N a y ∨ a = fb ∨ a = hb) w w' := by
  obtain ⟨n, hn⟩ : ∃ n, n = l.length := ⟨_, rfl⟩
  rw [← hn] at hl0 hl hcl ⊢
  have HN := Lib.hid hn
  clear hn
  have hne := h.ne
  go_enter Tryz.func150, Tryz.ntmps150
  go_wp2_with (go_at_call 160; fail)
  refine (writeSlice h (k := 0) hwr (by omega)).mono ?_
  rintro e w1 ⟨rfl, n1, rfl⟩
  have hf1 := h.drewN n1
  have hc1 := hf1.c_cl
  rw [hcl] at hc1
  have hr1 := hf1.x_r
  have hgt : decide ((n : Int) < 32768) = true := by simp; omega
  have hnI : (n : Int) ≤ 32768 := by omega
  go_wp2_with (go_at_call 53; fail)
  have hLR : n ≤ (l ++ R).length := by rw [List.length_append, HN.out]; omega
  refine (readFull (rdrBuf N D d s E c0 hD) (w.drewN n1) (l ++ R) hb 0 n 32768 (hS.drewN n1) hLR (by omega) (fun j hj => hf1.room j (by omega)) h2 (by omega)).mono ?_
  rintro e w2 ⟨rfl, hS2, hb2, hz2, hk2⟩
  rw [HN.out, List.drop_left] at hS2
  rw [HN.out, List.take_left] at hb2
  have hkf : ∀ y, ¬ (Fs N fb y ∨ (fb = hb ∧ 0 ≤ y ∧ y < 0 + n)) := fun y e => e.elim (h1.ok y) fun e => hne e.1
  have hf2 : Flt w2 fb N.ub hb f := hf1.keep hk2 (fun y e => (hkf y e).elim) (hf1.buf.keep hk2 fun _ _ => hkf _)
    (hf1.room.after (l := l) hk2 (fun y e => by rw [← HN.out]; exact e.elim (fun e => (h2.ok y e).elim) fun e => e.2) hb2 hz2) fun j => hk2.froz hf1.lt (hf1.fz j) (hkf j)
  have hq2 := hf2.c_roff
  have hc2 := hf2.c_cl
  rw [hcl] at hc2
  have hzf2 := hf2.fz
  have hsub : IntKind.i64.wrap ((n : Int) - (n : Int)) = 0 := by rw [Int.sub_self]; rfl
  have HS2 := Lib.hid hS2
  have HB2 := Lib.hid hb2
  have HK2 := Lib.hid hk2
  clear hS2 hb2 hk2 hz2 hkf hc1 hr1
  have hf2' := fun q => (hf2.set_roff q).set_cl 0
  have hwm := fun q => writeMark (hf2' q) (k := 0) hwr n (by omega)
  go_wp2_with (go_at_call 161; fail)
  refine (hwm _).mono ?_
  rintro e w3 ⟨rfl, hf3, hk3⟩
  rw [Nat.zero_add] at hf3
  have hc3 := hf3.c_cl
  have HK3 := Lib.hid hk3
  clear hk3 hwm hf2' hq2 hc2 hzf2
  go_wp2_with (go_at_call 154; fail)
  refine (availWrite hf3 (k := n) rfl (by omega)).mono ?_
  rintro e w4 ⟨rfl, n4, rfl⟩
  have hav : ((32768 : Int) - (n : Int) == 0) = false := by simp; omega
  have hf4 := hf3.drewN n4
  have hc4 := hf4.c_cl
  clear hc3
  go_wp2_with (go_at_call 149; fail)
  refine (finishBlock hf4 hfin).mono ?_
  rintro e w5 ⟨rfl, hf5, hk5⟩
  go_wp2
  go_end0
  have hkk : Keep (fun x _ => x = fb) w2 w5 := ((((Keep.refl (fun x _ => x = fb) w2).setCell _ fun _ => rfl).setCell _ fun _ => rfl).trans (HK3.out.mono fun _ _ _ e => e.1)).drewN n4 |>.trans hk5
  refine ⟨rfl, SI.keep HS2.out hkk fun x _ e => e ▸ h1, HB2.out.keep hkk fun _ _ e => hne e.symm, ⟨_, hf5⟩, ?_⟩
  exact (((Keep.refl _ w).drewN n1).trans (HK2.out.mono fun x y _ e => e.elim (fun e => Or.inl e) fun e => Or.inr (Or.inr e.1))).trans (hkk.mono fun _ _ _ e => Or.inr (Or.inl e))

set_option maxHeartbeats 4000000 in
set_option maxRecDepth 100000 in
/-- dataBlock: the length, its complement, the bytes. -/
theorem dataBlock {N : Nums} {D : List UInt8} {d : Dv} {s E c0 : Nat} {w : World} {x0 x1 y0 y1 : UInt8} {l R : List UInt8} {fb hb : Nat} {f : Fv} (hS : SI N D d s E c0 w (x0 :: x1 :: y0 :: y1 :: (l ++ R))) (h : Flt w fb N.ub hb f) (h1 : OkS N fb) (h2 : OkS N hb) (hD : D.length ≤ 1073741824)
    (hl0 : 0 < l.length) (hl : l.length < 32768) (hx : x0.toNat + 256 * x1.toNat = l.length) (hy0 : y0.toNat = 255 - x0.toNat) (hy1 : y1.toNat = 255 - x1.toNat) (hwr : f.wr = 0) (hfin : f.fin = false) :
    Calls Tryz.prog 143 #[.pointer (some ⟨fb, 0, none⟩)] w fun e w' => e = .returned (.tuple #[]) ∧ SI N D d s E c0 w' R ∧ BytesAt w' hb 0 l ∧ (∃ q, Flt w' fb N.ub hb { f with roff := q, b := 0, nb := 0, wr := (l.length : Int), cl := 0, step := 136 }) ∧
      Keep (fun a y => Fs N a y ∨ a = fb ∨ a = hb) w w' := by
  have hz := h.fz
  have hr := h.x_r
  have hc3 := h.c_b
  have hc4 := h.c_nb
  go_enter Tryz.func143, Tryz.ntmps143
  go_wp2
  have hf1 : Flt ((w.setCell ⟨fb, 4, none⟩ (.int .u64 0)).setCell ⟨fb, 3, none⟩ (.int .u32 0)) fb N.ub hb { f with nb := 0, b := 0 } := (h.set_nb 0).set_b 0
  have hk1 : Keep (fun a _ => a = fb) w ((w.setCell ⟨fb, 4, none⟩ (.int .u64 0)).setCell ⟨fb, 3, none⟩ (.int .u32 0)) := ((Keep.refl (fun a _ => a = fb) w).setCell _ fun _ => rfl).setCell _ fun _ => rfl
  obtain ⟨w1, hw1⟩ : ∃ w1, w1 = (w.setCell ⟨fb, 4, none⟩ (.int .u64 0)).setCell ⟨fb, 3, none⟩ (.int .u32 0) := ⟨_, rfl⟩
  rw [← hw1] at hf1 hk1 ⊢
  have hS1 : SI N D d s E c0 w1 (x0 :: x1 :: y0 :: y1 :: (l ++ R)) := hS.keep hk1 fun x _ e => e ▸ h1
  have hr1 := hf1.x_r
  clear hw1 hz hr hc3 hc4
  have hrd := readFull (rdrBuf N D d s E c0 hD) (w1.drewN 1) _ fb 1041 4 4 (hS1.drewN 1) (by simp) (by omega) (hf1.drewN 1).buf h1 (by omega)
  go_region_with (refine hrd.mono ?_; rintro e w2 ⟨rfl, hS2, hb2, hz2, hk2⟩)
  have hkf : ∀ y, (Fs N fb y ∨ (fb = fb ∧ 1041 ≤ y ∧ y < 1041 + 4)) → 1041 ≤ y ∧ y < 1045 := fun y e => e.elim (fun e => (h1.ok y e).elim) fun e => ⟨e.2.1, e.2.2⟩
  have hne := h.ne
  have hkh : ∀ y, ¬ (Fs N hb y ∨ (hb = fb ∧ 1041 ≤ y ∧ y < 1041 + 4)) := fun y e => e.elim (h2.ok y) fun e => hne e.1.symm
  have hf2 : Flt w2 fb N.ub hb { f with nb := 0, b := 0 } := (hf1.drewN 1).keep hk2 hkf ((hf1.drewN 1).buf.after (l := [x0, x1, y0, y1]) hk2 hkf hb2 hz2) ((hf1.drewN 1).room.keep hk2 fun _ _ => hkh _) fun j => by rw [hz2]; exact (hf1.drewN 1).fz j
  have hq2 := hf2.c_roff
  have hzf2 := hf2.fz
  have g0 := hb2 0 (by simp)
  have g1 := hb2 1 (by simp)
  have g2 := hb2 2 (by simp)
  have g3 := hb2 3 (by simp)
  simp only [List.take, List.getElem_cons_zero, List.getElem_cons_succ] at g0 g1 g2 g3
  have hX0 := x0.toNat_lt
  have hX1 := x1.toNat_lt
  rw [hy0] at g2
  rw [hy1] at g3
  generalize x0.toNat = a0 at *
  generalize x1.toNat = a1 at *
  obtain ⟨n, hn⟩ : ∃ n, n = l.length := ⟨_, rfl⟩
  rw [← hn] at hl0 hl hx
  have HN := Lib.hid hn
  clear hn
  have en : bits BinOp.or IntKind.i64 (a0 : Int) ((a1 : Int) * 256) = (n : Int) := by rw [le2_bits _ _ (by omega) (by omega), hx]
  have enn : bits BinOp.or IntKind.i64 ((255 - a0 : Nat) : Int) (((255 - a1 : Nat) : Int) * 256) = ((65535 - n : Nat) : Int) := by
    rw [le2_bits _ _ (by omega) (by omega)]; congr 1; omega
  have exor := not_u16 n (by omega)
  have enz : ((n : Int) == 0) = false := by simp; omega
  have HX := Lib.hid hx
  have HS2 := Lib.hid hS2
  have HK2 := Lib.hid hk2
  clear hx hS2 hk2 hb2 hz2 hkf hkh hy0 hy1 hrd
  go_wp2
  try simp only [Act.put, List.getElem_toArray, List.getElem_cons_succ, List.getElem_cons_zero, List.setIfInBounds_toArray, List.set_cons_succ, List.set_cons_zero]
  go_quiet (fail)
  go_wp2
  go_quiet (fail)
  have hcl2 := hf2.c_cl
  have hk4 : ∀ q m, Keep (fun a _ => a = fb) w2 (((w2.setCell ⟨fb, 2, none⟩ (.int .i64 q)).drewN m).setCell ⟨fb, 1052, none⟩ (.int .i64 (n : Int))) := fun q m => (((Keep.refl (fun a _ => a = fb) w2).setCell _ fun _ => rfl).drewN m).setCell _ fun _ => rfl
  have hcd := fun q m => copyData (SI.keep HS2.out (hk4 q m) fun x _ e => e ▸ h1) (((hf2.set_roff q).drewN m).set_cl (n : Int)) h1 h2 hD (by rw [← HN.out]; exact hl0) (by rw [← HN.out]; exact hl) (by rw [← HN.out]) hwr hfin
  have HCD := Lib.hid hcd
  clear hcd
  go_wp2_with (go_at_call 150; fail)
  refine (HCD.out _ _).mono ?_
  rintro e w5 ⟨rfl, hS5, hb5, ⟨q5, hf5⟩, hk5⟩
  go_wp2
  go_end0
  refine ⟨rfl, hS5, hb5, ⟨q5, hf5⟩, ?_⟩
  exact (((hk1.mono fun _ _ _ e => Or.inr (Or.inl e)).trans (((Keep.refl _ w1).drewN 1).trans (HK2.out.mono fun x y _ e => e.elim (fun e => Or.inl e) fun e => Or.inr (Or.inl e.1)))).trans ((hk4 _ _).mono fun _ _ _ e => Or.inr (Or.inl e))).trans hk5
end Go.Proofs.YtnbbppjgamdfeaaGreatDoor
end
