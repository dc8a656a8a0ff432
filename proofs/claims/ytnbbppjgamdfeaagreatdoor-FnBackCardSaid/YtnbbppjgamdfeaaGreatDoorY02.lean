/- laws.FnBack, part 2 of 54: B3 B4 B5 B6. -/
import Derived.Test.YtnbbppjgamdfeaaGreatDoorY01

/- The decoder of package png in memory; verifyChecksum. -/
section
set_option linter.unusedVariables false
set_option linter.unusedSimpArgs false
namespace Go.Proofs.YtnbbppjgamdfeaaGreatDoor
open Go Go.RowKit

/-- What a png.decoder holds, field by field (its buffer tmp apart). -/
structure Dv where
  img : Value
  width : Int
  height : Int
  depth : Int
  pal : Value
  cb : Int
  stage : Int
  idat : Nat
  lace : Int
  useT : Bool

/-- The decoder at block bd: its fields; room for tmp. -/
structure Dec (w : World) (bd rb cb : Nat) (d : Dv) : Prop where
  f0 : w.cell? ⟨bd, 0, none⟩ = some (.iface 59 (.pointer (some ⟨rb, 0, none⟩)))
  f1 : w.cell? ⟨bd, 1, none⟩ = some d.img
  f2 : w.cell? ⟨bd, 2, none⟩ = some (.pointer (some ⟨cb, 0, none⟩))
  f3 : w.cell? ⟨bd, 3, none⟩ = some (.int .i64 d.width)
  f4 : w.cell? ⟨bd, 4, none⟩ = some (.int .i64 d.height)
  f5 : w.cell? ⟨bd, 5, none⟩ = some (.int .i64 d.depth)
  f6 : w.cell? ⟨bd, 6, none⟩ = some d.pal
  f7 : w.cell? ⟨bd, 7, none⟩ = some (.int .i64 d.cb)
  f8 : w.cell? ⟨bd, 8, none⟩ = some (.int .i64 d.stage)
  f9 : w.cell? ⟨bd, 9, none⟩ = some (.int .u32 (d.idat : Int))
  tmp : RoomAt w bd 10 768
  fl : w.cell? ⟨bd, 778, none⟩ = some (.int .i64 d.lace)
  ft : w.cell? ⟨bd, 779, none⟩ = some (.bool d.useT)
  fz : ∀ j, w.frozen? ⟨bd, j, none⟩ = false

theorem Dec.keep {w w' : World} {bd rb cb : Nat} {d : Dv} {F : Nat → Nat → Prop} (h : Dec w bd rb cb d) (hk : Keep F w w') (hF : ∀ o, F bd o → 10 ≤ o ∧ o < 778) (ht : RoomAt w' bd 10 768) (hz : ∀ j, w'.frozen? ⟨bd, j, none⟩ = false) :
    Dec w' bd rb cb d :=
  ⟨hk.get h.f0 fun e => by have := hF _ e; omega, hk.get h.f1 fun e => by have := hF _ e; omega, hk.get h.f2 fun e => by have := hF _ e; omega, hk.get h.f3 fun e => by have := hF _ e; omega,
   hk.get h.f4 fun e => by have := hF _ e; omega, hk.get h.f5 fun e => by have := hF _ e; omega, hk.get h.f6 fun e => by have := hF _ e; omega, hk.get h.f7 fun e => by have := hF _ e; omega,
   hk.get h.f8 fun e => by have := hF _ e; omega, hk.get h.f9 fun e => by have := hF _ e; omega, ht, hk.get h.fl fun e => by have := hF _ e; omega, hk.get h.ft fun e => by have := hF _ e; omega, hz⟩
theorem Dec.lt {w : World} {bd rb cb : Nat} {d : Dv} (h : Dec w bd rb cb d) : bd < w.heap.size := World.block_lt_of_cell? w _ h.f0
theorem Dec.keep0 {w w' : World} {bd rb cb : Nat} {d : Dv} {F : Nat → Nat → Prop} (h : Dec w bd rb cb d) (hk : Keep F w w') (hF : ∀ o, ¬ F bd o) : Dec w' bd rb cb d :=
  h.keep hk (fun o e => absurd e (hF o)) (h.tmp.keep hk fun j _ => hF _) fun j => hk.froz h.lt (h.fz j) (hF j)
/-- Bytes were written into tmp. -/
theorem Dec.wrote {w w' : World} {bd rb cb : Nat} {d : Dv} {F : Nat → Nat → Prop} (h : Dec w bd rb cb d) (hk : Keep F w w') {o : Nat} {l : List UInt8} (ho : 10 ≤ o) (hl : o + l.length ≤ 778) (hF : ∀ y, F bd y → o ≤ y ∧ y < o + l.length)
    (hb : BytesAt w' bd o l) (hz : ∀ j, w'.frozen? ⟨bd, j, none⟩ = w.frozen? ⟨bd, j, none⟩) : Dec w' bd rb cb d :=
  h.keep hk (fun y e => by have := hF y e; omega) (h.tmp.after hk hF hb hz) fun j => (hz j).trans (h.fz j)

theorem Dec.o {w : World} {bd rb cb : Nat} {d : Dv} (_h : Dec w bd rb cb d) {k j : Nat} {u v : Value} (hc : w.cell? ⟨bd, j, none⟩ = some u) (hne : k ≠ j) : (w.setCell ⟨bd, k, none⟩ v).cell? ⟨bd, j, none⟩ = some u :=
  (World.cell?_setCell_other _ _ _ _ fun e => hne (by injection e)).trans hc
section
variable {w : World} {bd rb cb : Nat} {d : Dv} (h : Dec w bd rb cb d)
include h
theorem Dec.tmpSet (k : Nat) (v : Value) (hk : ¬ (10 ≤ k ∧ k < 778)) : RoomAt (w.setCell ⟨bd, k, none⟩ v) bd 10 768 :=
  h.tmp.keep (keep_setCell _ _ _ _) fun j hj e => by omega
theorem Dec.fzSet (k : Nat) (v : Value) : ∀ j, (w.setCell ⟨bd, k, none⟩ v).frozen? ⟨bd, j, none⟩ = false := fun j => by rw [World.frozen?_setCell]; exact h.fz j
theorem Dec.set1 (v : Value) : Dec (w.setCell ⟨bd, 1, none⟩ v) bd rb cb { d with img := v } :=
  ⟨h.o h.f0 (by decide), World.cell?_setCell_same _ _ _ h.f1, h.o h.f2 (by decide), h.o h.f3 (by decide), h.o h.f4 (by decide), h.o h.f5 (by decide), h.o h.f6 (by decide), h.o h.f7 (by decide), h.o h.f8 (by decide), h.o h.f9 (by decide), h.tmpSet _ _ (by omega), h.o h.fl (by decide), h.o h.ft (by decide), h.fzSet _ _⟩
theorem Dec.set3 (v : Int) : Dec (w.setCell ⟨bd, 3, none⟩ (.int .i64 v)) bd rb cb { d with width := v } :=
  ⟨h.o h.f0 (by decide), h.o h.f1 (by decide), h.o h.f2 (by decide), World.cell?_setCell_same _ _ _ h.f3, h.o h.f4 (by decide), h.o h.f5 (by decide), h.o h.f6 (by decide), h.o h.f7 (by decide), h.o h.f8 (by decide), h.o h.f9 (by decide), h.tmpSet _ _ (by omega), h.o h.fl (by decide), h.o h.ft (by decide), h.fzSet _ _⟩
theorem Dec.set4 (v : Int) : Dec (w.setCell ⟨bd, 4, none⟩ (.int .i64 v)) bd rb cb { d with height := v } :=
  ⟨h.o h.f0 (by decide), h.o h.f1 (by decide), h.o h.f2 (by decide), h.o h.f3 (by decide), World.cell?_setCell_same _ _ _ h.f4, h.o h.f5 (by decide), h.o h.f6 (by decide), h.o h.f7 (by decide), h.o h.f8 (by decide), h.o h.f9 (by decide), h.tmpSet _ _ (by omega), h.o h.fl (by decide), h.o h.ft (by decide), h.fzSet _ _⟩
theorem Dec.set5 (v : Int) : Dec (w.setCell ⟨bd, 5, none⟩ (.int .i64 v)) bd rb cb { d with depth := v } :=
  ⟨h.o h.f0 (by decide), h.o h.f1 (by decide), h.o h.f2 (by decide), h.o h.f3 (by decide), h.o h.f4 (by decide), World.cell?_setCell_same _ _ _ h.f5, h.o h.f6 (by decide), h.o h.f7 (by decide), h.o h.f8 (by decide), h.o h.f9 (by decide), h.tmpSet _ _ (by omega), h.o h.fl (by decide), h.o h.ft (by decide), h.fzSet _ _⟩
theorem Dec.set6 (v : Value) : Dec (w.setCell ⟨bd, 6, none⟩ v) bd rb cb { d with pal := v } :=
  ⟨h.o h.f0 (by decide), h.o h.f1 (by decide), h.o h.f2 (by decide), h.o h.f3 (by decide), h.o h.f4 (by decide), h.o h.f5 (by decide), World.cell?_setCell_same _ _ _ h.f6, h.o h.f7 (by decide), h.o h.f8 (by decide), h.o h.f9 (by decide), h.tmpSet _ _ (by omega), h.o h.fl (by decide), h.o h.ft (by decide), h.fzSet _ _⟩
theorem Dec.set7 (v : Int) : Dec (w.setCell ⟨bd, 7, none⟩ (.int .i64 v)) bd rb cb { d with cb := v } :=
  ⟨h.o h.f0 (by decide), h.o h.f1 (by decide), h.o h.f2 (by decide), h.o h.f3 (by decide), h.o h.f4 (by decide), h.o h.f5 (by decide), h.o h.f6 (by decide), World.cell?_setCell_same _ _ _ h.f7, h.o h.f8 (by decide), h.o h.f9 (by decide), h.tmpSet _ _ (by omega), h.o h.fl (by decide), h.o h.ft (by decide), h.fzSet _ _⟩
theorem Dec.set8 (v : Int) : Dec (w.setCell ⟨bd, 8, none⟩ (.int .i64 v)) bd rb cb { d with stage := v } :=
  ⟨h.o h.f0 (by decide), h.o h.f1 (by decide), h.o h.f2 (by decide), h.o h.f3 (by decide), h.o h.f4 (by decide), h.o h.f5 (by decide), h.o h.f6 (by decide), h.o h.f7 (by decide), World.cell?_setCell_same _ _ _ h.f8, h.o h.f9 (by decide), h.tmpSet _ _ (by omega), h.o h.fl (by decide), h.o h.ft (by decide), h.fzSet _ _⟩
theorem Dec.set9 (v : Nat) : Dec (w.setCell ⟨bd, 9, none⟩ (.int .u32 (v : Int))) bd rb cb { d with idat := v } :=
  ⟨h.o h.f0 (by decide), h.o h.f1 (by decide), h.o h.f2 (by decide), h.o h.f3 (by decide), h.o h.f4 (by decide), h.o h.f5 (by decide), h.o h.f6 (by decide), h.o h.f7 (by decide), h.o h.f8 (by decide), World.cell?_setCell_same _ _ _ h.f9, h.tmpSet _ _ (by omega), h.o h.fl (by decide), h.o h.ft (by decide), h.fzSet _ _⟩
theorem Dec.setl (v : Int) : Dec (w.setCell ⟨bd, 778, none⟩ (.int .i64 v)) bd rb cb { d with lace := v } :=
  ⟨h.o h.f0 (by decide), h.o h.f1 (by decide), h.o h.f2 (by decide), h.o h.f3 (by decide), h.o h.f4 (by decide), h.o h.f5 (by decide), h.o h.f6 (by decide), h.o h.f7 (by decide), h.o h.f8 (by decide), h.o h.f9 (by decide), h.tmpSet _ _ (by omega), World.cell?_setCell_same _ _ _ h.fl, h.o h.ft (by decide), h.fzSet _ _⟩
end

/-- The decoder, its reader over the file's bytes D at place i, its sum's running number c. -/
structure Png (w : World) (bd rb cb db cap : Nat) (D : List UInt8) (d : Dv) (i c : Nat) : Prop where
  dec : Dec w bd rb cb d
  br : BR w rb db cap D i
  crc : CrcSt w cb c
  tab : TabOk w
  a1 : bd ≠ rb
  a2 : bd ≠ cb
  a3 : bd ≠ db
  a4 : rb ≠ cb
  a5 : cb ≠ db
  a6 : bd ≠ 3
  a7 : rb ≠ 3
  a8 : cb ≠ 3
/-- The decoder's own blocks. -/
def Fp (bd rb cb : Nat) : Nat → Nat → Prop := fun x _ => x = bd ∨ x = rb ∨ x = cb

theorem BR.keep {F : Nat → Nat → Prop} {w w' : World} {rb db cap : Nat} {D : List UInt8} {i : Nat} (h : BR w rb db cap D i) (hk : Keep F w w') (h1 : ∀ o, ¬ F rb o) (h2 : ∀ o, ¬ F db o) : BR w' rb db cap D i := by
  obtain ⟨q, hq⟩ := h.cp
  exact ⟨hk.get h.cs (h1 _), hk.get h.ci (h1 _), ⟨q, hk.get hq (h1 _)⟩, fun j => hk.froz (World.block_lt_of_cell? w _ h.cs) (h.fz j) (h1 j), h.data.keep hk fun _ _ => h2 _, h.ne, h.hle, h.hcap, h.hlen⟩
theorem Png.keep0 {F : Nat → Nat → Prop} {w w' : World} {bd rb cb db cap : Nat} {D : List UInt8} {d : Dv} {i c : Nat} (h : Png w bd rb cb db cap D d i c) (hk : Keep F w w') (h1 : ∀ o, ¬ F bd o) (h2 : ∀ o, ¬ F rb o) (h3 : ∀ o, ¬ F cb o) (h4 : ∀ o, ¬ F db o) (h5 : ∀ o, ¬ F 3 o) :
    Png w' bd rb cb db cap D d i c :=
  ⟨h.dec.keep0 hk h1, h.br.keep hk h2 h4, h.crc.keep hk h3, h.tab.keep hk h5, h.a1, h.a2, h.a3, h.a4, h.a5, h.a6, h.a7, h.a8⟩
theorem Png.drewN {w : World} {bd rb cb db cap : Nat} {D : List UInt8} {d : Dv} {i c : Nat} (h : Png w bd rb cb db cap D d i c) (n : Nat) : Png (w.drewN n) bd rb cb db cap D d i c :=
  h.keep0 ((Keep.refl Nil2 w).drewN n) (fun _ e => e) (fun _ e => e) (fun _ e => e) (fun _ e => e) (fun _ e => e)
/-- A field was stored: the new decoder's fields are told by h'. -/
theorem Png.set {w : World} {bd rb cb db cap : Nat} {D : List UInt8} {d d' : Dv} {i c : Nat} (h : Png w bd rb cb db cap D d i c) {k : Nat} {v : Value} (h' : Dec (w.setCell ⟨bd, k, none⟩ v) bd rb cb d') :
    Png (w.setCell ⟨bd, k, none⟩ v) bd rb cb db cap D d' i c :=
  ⟨h', h.br.keep (keep_setCell _ _ _ _) (fun _ e => h.a1 e.1.symm) (fun _ e => h.a3 e.1.symm), h.crc.keep (keep_setCell _ _ _ _) (fun _ e => h.a2 e.1.symm), h.tab.keep (keep_setCell _ _ _ _) (fun _ e => h.a6 e.1.symm), h.a1, h.a2, h.a3, h.a4, h.a5, h.a6, h.a7, h.a8⟩

/-- The reader of the file's bytes, as ReadFull takes it. -/
theorem rdrBytes (rb db cap : Nat) (D : List UInt8) : Rdr 59 ⟨rb, 0, none⟩ 181 (fun w R => ∃ i, BR w rb db cap D i ∧ R = D.drop i) (fun x _ => x = rb) (fun b => b ≠ rb ∧ b ≠ db) where
  nilA := fun w => by kernel_rfl
  meth := fun w => by kernel_rfl
  call := fun args w => by kernel_rfl
  draw := fun w R n ⟨i, h, e⟩ => ⟨i, h.keep ((Keep.refl Nil2 w).drewN n) (fun _ e => e) (fun _ e => e), e⟩
  ok := fun b h y e => h.1 e
  read := fun w R b o n c ⟨i, h, e⟩ hn hl _ room hok => by
    subst e
    have hi : i < D.length := by simp at hl; omega
    refine (bytesRead h hi b o n c hn room hok.1 hok.2).mono ?_
    rintro e w' ⟨l, hl', rfl, hbr, hb, hf, hk⟩
    have hll : l.length = n := by rw [hl']; simp at hl ⊢; omega
    refine ⟨n, .nilIface, hn, Nat.le_refl _, .inl rfl, by rw [hll], ⟨_, hbr, by rw [hll, List.drop_drop]⟩, by rw [hl'] at hb; exact hb, hf, ?_⟩
    rw [hll] at hk
    exact hk

set_option maxHeartbeats 400000 in
/-- ReadFull into the decoder's tmp. -/
theorem readTmp {w : World} {bd rb cb db cap : Nat} {D : List UInt8} {d : Dv} {i c : Nat} (h : Png w bd rb cb db cap D d i c) (n q : Nat) (hn : i + n ≤ D.length) (hn2 : n ≤ 768) (hq : n ≤ q) :
    Calls Tryz.prog 53 #[.iface 59 (.pointer (some ⟨rb, 0, none⟩)), .slice (some ⟨bd, 10, none⟩) n q] w fun e w' => e = .returned (.tuple #[.int .i64 (n : Int), .nilIface]) ∧
      Png w' bd rb cb db cap D d (i + n) c ∧ BytesAt w' bd 10 ((D.drop i).take n) ∧ Keep (Fp bd rb cb) w w' := by
  refine (readFull (rdrBytes rb db cap D) w (D.drop i) bd 10 n q ⟨i, h.br, rfl⟩ (by simp; omega) (by omega) (fun j hj => h.dec.tmp j (by omega)) ⟨h.a1, h.a3⟩ hq).mono ?_
  rintro e w' ⟨rfl, ⟨i', hbr, hi'⟩, hb, hf, hk⟩
  have hi2 : i' = i + n := by
    rw [List.drop_drop] at hi'
    have := congrArg List.length hi'
    have h1 := hbr.hle
    simp at this
    omega
  subst hi2
  have hlen : ((D.drop i).take n).length = n := by simp; omega
  refine ⟨rfl, ⟨h.dec.wrote hk (o := 10) (l := (D.drop i).take n) (by omega) (by omega) (fun y e => ?_) hb hf, hbr, h.crc.keep hk (fun o e => ?_), h.tab.keep hk (fun o e => ?_), h.a1, h.a2, h.a3, h.a4, h.a5, h.a6, h.a7, h.a8⟩, hb, hk.mono fun x y _ e => ?_⟩
  · rcases e with e | e
    · exact absurd e h.a1
    · rw [hlen]; exact e.2
  · rcases e with e | e
    · exact h.a4 e.symm
    · exact h.a2 e.1.symm
  · rcases e with e | e
    · exact h.a7 e.symm
    · exact h.a6 e.1.symm
  · rcases e with e | e
    · exact .inr (.inl e)
    · exact .inl e.1
end Go.Proofs.YtnbbppjgamdfeaaGreatDoor
end

/- The decoder of package png: verifyChecksum, checkHeader, and its Read. -/
section
set_option linter.unusedVariables false
set_option linter.unusedSimpArgs false
namespace Go.Proofs.YtnbbppjgamdfeaaGreatDoor
open Go Go.RowKit
attribute [local go_sem] min2_min min_two'

set_option maxHeartbeats 1000000 in
set_option maxRecDepth 100000 in
/-- verifyChecksum where the next four bytes are the sum of what was read. -/
theorem verifyChecksum {w : World} {bd rb cb db cap : Nat} {D : List UInt8} {d : Dv} {i c : Nat} (h : Png w bd rb cb db cap D d i c) {x0 x1 x2 x3 : UInt8} (hn : i + 4 ≤ D.length)
    (hx : (D.drop i).take 4 = [x0, x1, x2, x3]) (hs : be4 x0 x1 x2 x3 = 4294967295 - c) :
    Calls Tryz.prog 64 #[.pointer (some ⟨bd, 0, none⟩)] w fun e w' => e = .returned .nilIface ∧ Png w' bd rb cb db cap D d (i + 4) c ∧ Keep (Fp bd rb cb) w w' := by
  have hc0 := h.dec.f0
  have hcl := h.crc.lt
  go_enter Tryz.func64, Tryz.ntmps64
  go_wp2
  go_region_with (refine (readTmp (h.drewN 1) 4 768 hn (by omega) (by omega)).mono ?_; rintro e w1 ⟨rfl, h1, hb1, hk1⟩)
  rw [hx] at hb1
  have hc2 := h1.dec.f2
  go_wp2
  have hbe : ∀ n : Nat, Calls Tryz.prog 54 #[.slice (some ⟨bd, 10, none⟩) 4 768] (w1.drewN n) fun e w' => e = .returned (.int .u32 (4294967295 - (c : Int))) ∧ ∃ k, w' = (w1.drewN n).drewN k := fun n => by
    refine (beUint32 bd 10 4 768 (by omega) (hb1.drewN n)).mono ?_
    rintro e w' ⟨rfl, hw⟩
    refine ⟨?_, hw⟩
    rw [hs, show ((4294967295 - c : Nat) : Int) = 4294967295 - (c : Int) by omega]
  have hsum : ∀ n : Nat, Calls Tryz.prog 81 #[.pointer (some ⟨cb, 0, none⟩)] (w1.drewN n) fun e w' => e = .returned (.int .u32 (4294967295 - (c : Int))) ∧ w' = w1.drewN n := fun n => (crcSum32 (h1.drewN n).crc).mono fun _ _ ⟨a, b⟩ => ⟨a, b.symm⟩
  go_quiet (first | ((go_at_call 54; exact Calls.quiet_of (hbe _))) | ((go_at_call 81; exact Calls.quiet_of_same (hsum _))))
  go_wp2
  go_ret
  exact ⟨rfl, h1.drewN _, ((Keep.refl _ _).drew.trans hk1).drewN _⟩

theorem Png.ofRead {w w1 : World} {bd rb cb db cap : Nat} {D : List UInt8} {d : Dv} {i c b o K j : Nat} (h : Png w bd rb cb db cap D d i c) (hbr : BR w1 rb db cap D j) (hk1 : Keep (fun k j => k = rb ∨ (k = b ∧ o ≤ j ∧ j < o + K)) w w1)
    (hb : ¬ Fp bd rb cb b 0 ∧ b ≠ db ∧ b ≠ 3) : Png w1 bd rb cb db cap D d j c :=
  ⟨h.dec.keep0 hk1 fun y e => e.elim (fun e => h.a1 e) fun e => hb.1 (.inl e.1.symm), hbr, h.crc.keep hk1 fun y e => e.elim (fun e => h.a4 e.symm) fun e => hb.1 (.inr (.inr e.1.symm)),
   h.tab.keep hk1 fun y e => e.elim (fun e => h.a7 e.symm) fun e => hb.2.2 e.1.symm, h.a1, h.a2, h.a3, h.a4, h.a5, h.a6, h.a7, h.a8⟩
theorem Png.ofCrc {w w1 : World} {bd rb cb db cap : Nat} {D : List UInt8} {d : Dv} {i c c' : Nat} (h : Png w bd rb cb db cap D d i c) (hc : CrcSt w1 cb c') (hk1 : Keep (fun x y => x = cb ∧ y = 0) w w1) : Png w1 bd rb cb db cap D d i c' :=
  ⟨h.dec.keep0 hk1 fun y e => h.a2 e.1, h.br.keep hk1 (fun _ e => h.a4 e.1) (fun _ e => h.a5 e.1.symm), hc, h.tab.keep hk1 fun y e => h.a8 e.1.symm, h.a1, h.a2, h.a3, h.a4, h.a5, h.a6, h.a7, h.a8⟩

set_option maxHeartbeats 8000000 in
set_option maxRecDepth 100000 in
/-- The decoder's Read where bytes of the chunk are still to come: as many as there is room for. -/
theorem decRead {w : World} {bd rb cb db cap : Nat} {D : List UInt8} {d : Dv} {i c : Nat} (h : Png w bd rb cb db cap D d i c) (b o n q : Nat) (hn : 0 < n) (hm : 0 < d.idat) (hD : i + d.idat ≤ D.length) (room : RoomAt w b o n) (hq : n ≤ q)
    (hb : ¬ Fp bd rb cb b 0 ∧ b ≠ db ∧ b ≠ 3) :
    Calls Tryz.prog 184 #[.pointer (some ⟨bd, 0, none⟩), .slice (some ⟨b, o, none⟩) n q] w fun e w' => ∃ k l, k = min n d.idat ∧ l = (D.drop i).take k ∧ l.length = k ∧ e = .returned (.tuple #[.int .i64 (k : Int), .nilIface]) ∧
      Png w' bd rb cb db cap D { d with idat := d.idat - k } (i + k) (crcRun c l) ∧ BytesAt w' b o l ∧ (∀ j, w'.frozen? ⟨b, j, none⟩ = w.frozen? ⟨b, j, none⟩) ∧ Keep (fun x y => Fp bd rb cb x y ∨ (x = b ∧ o ≤ y ∧ y < o + k)) w w' := by
  have hc0 := h.dec.f0
  have hc9 := h.dec.f9
  have hlen := h.br.hlen
  have hm0 : ((d.idat : Int) == 0) = false := by simp; omega
  have hn0 : ((n : Int) == 0) = false := by simp; omega
  have hm1 : (d.idat : Int) ≤ 1073741824 := by omega
  have hneg : decide ((d.idat : Int) < 0) = false := by simp
  go_enter Tryz.func184, Tryz.ntmps184
  go_wp2
  refine wp_loop_rounds 1 ?_
  rw [rounds_succ]
  go_wp2
  obtain ⟨K, hK⟩ : ∃ K, K = min n d.idat := ⟨_, rfl⟩
  have hK1 : K ≤ n := by omega
  have hK2 : K ≤ d.idat := by omega
  have hK0 : 0 < K := by omega
  have hKq : (K : Int) ≤ q := by omega
  have hmin : min (n : Int) (d.idat : Int) = (K : Int) := by omega
  have hw9 : IntKind.i64.wrap (d.idat : Int) = (d.idat : Int) := IntWalk.i64_in _ (by omega)
  have HK := Lib.hid hK
  clear hK
  have hq0 : ¬ q = 0 := by omega
  have hrd : Calls Tryz.prog 181 #[.pointer (some ⟨rb, 0, none⟩), .slice (some ⟨b, o, none⟩) K q] (w.drewN 1) fun e w' => ∃ l, l = (D.drop i).take K ∧ l.length = K ∧ e = .returned (.tuple #[.int .i64 (K : Int), .nilIface]) ∧
      BR w' rb db cap D (i + K) ∧ BytesAt w' b o l ∧ (∀ j, w'.frozen? ⟨b, j, none⟩ = w.frozen? ⟨b, j, none⟩) ∧ Keep (fun k j => k = rb ∨ (k = b ∧ o ≤ j ∧ j < o + K)) w w' := by
    refine (bytesRead (h.drewN 1).br (by omega) b o K q hK0 (fun j hj => room j (by omega)) (fun e => hb.1 (.inr (.inl e))) hb.2.1).mono ?_
    rintro e w1 ⟨l, hl, rfl, hbr, hb1, hf1, hk1⟩
    have hll : l.length = K := by rw [hl]; simp; omega
    rw [hll] at hbr hk1
    exact ⟨l, hl, hll, by rw [hll], hbr, hb1, hf1, ((Keep.refl _ _).drew).trans hk1⟩
  go_region_held3 (fun w' => w'.cell? ⟨bd, 0, none⟩ = some (.iface 59 (.pointer (some ⟨rb, 0, none⟩))) ∧ w'.cell? ⟨bd, 9, none⟩ = some (.int .u32 (d.idat : Int)))
    (first | go_keep | exact ⟨hk1.get hc0 (fun e => e.elim (fun e => h.a1 e) fun e => hb.1 (.inl e.1.symm)), hk1.get hc9 (fun e => e.elim (fun e => h.a1 e) fun e => hb.1 (.inl e.1.symm))⟩)
    (first | (go_at_call 181; refine hrd.mono ?_; rintro e w1 ⟨l, hl, hll, rfl, hbr, hb1, hf1, hk1⟩))
  all_goals
    have hp1 := h.ofRead hbr hk1 hb
    have hc2 := hp1.dec.f2
    have hc9' := hp1.dec.f9
    have hf9 := hp1.dec.fz
    have hwr := crcWrite (hp1.drewN 1).crc (hp1.drewN 1).tab l b o K q hll.symm hb1 (by omega) h.a8
    rw [hll] at hwr
    go_wp2
    try simp only [Act.put, List.getElem_toArray, List.getElem_cons_succ, List.getElem_cons_zero, List.setIfInBounds_toArray, List.set_cons_succ, List.set_cons_zero]
    go_region_with (refine hwr.mono ?_; rintro e w2 ⟨rfl, hcs, hk2⟩)
    have hp2 := (hp1.drewN 1).ofCrc hcs hk2
    have hc2' := hp2.dec.f2
    have hc92 := hp2.dec.f9
    have hf92 := hp2.dec.fz
    have hsub : (d.idat : Int) - (K : Int) = ((d.idat - K : Nat) : Int) := by omega
    have hwu : IntKind.u32.wrap (K : Int) = (K : Int) := IntWalk.u32_in _ (by omega)
    clear hmin hw9 hm0 hn0 hneg hwr
    go_wp2
    go_ret2
    have hp3 := hp2.set (hp2.dec.set9 (d.idat - K))
    have hk2' : Keep (fun x y => x = cb ∧ y = 0) w1 w2 := ((Keep.refl _ w1).drewN 1).trans hk2
    clear hk2
    refine ⟨K, l, HK.out, hl, hll, rfl, hp3, ?_, ?_, ?_⟩
    · exact (hb1.keep hk2' (fun _ _ e => hb.1 (.inr (.inr e.1)))).keep (keep_setCell _ _ _ _) (fun _ _ e => hb.1 (.inl e.1))
    · intro j
      rw [World.frozen?_setCell]
      by_cases hj : b < w1.heap.size
      · exact (hk2'.frozen b j hj (fun e => hb.1 (.inr (.inr e.1)))).trans (hf1 j)
      · have := hb1.lt (by omega); omega
    · refine (hk1.then (hk2'.then (keep_setCell _ _ _ _) (fun _ _ _ h => Or.inl h) (fun _ _ _ h => Or.inr h)) ?_ ?_)
      · rintro x y _ (e | e)
        · exact .inl (.inr (.inl e))
        · exact .inr e
      · rintro x y _ (e | e)
        · exact .inl (.inr (.inr e.1))
        · exact .inl (.inl e.1)
end Go.Proofs.YtnbbppjgamdfeaaGreatDoor
end

/- The buffered reader between package flate and the decoder: what it holds; the stream of packed bytes behind it. -/
section
set_option linter.unusedVariables false
set_option linter.unusedSimpArgs false
namespace Go.Proofs.YtnbbppjgamdfeaaGreatDoor
open Go Go.RowKit

/-- A bufio.Reader at block ub, its buffer of 4096 bytes at block kb, over the decoder at bd: the bytes U lie in the buffer from place r on, up to place v. -/
structure Bufio (w : World) (ub kb bd r v : Nat) (U : List UInt8) : Prop where
  u0 : w.cell? ⟨ub, 0, none⟩ = some (.slice (some ⟨kb, 0, none⟩) 4096 4096)
  u1 : w.cell? ⟨ub, 1, none⟩ = some (.iface 90 (.pointer (some ⟨bd, 0, none⟩)))
  u2 : w.cell? ⟨ub, 2, none⟩ = some (.int .i64 (r : Int))
  u3 : w.cell? ⟨ub, 3, none⟩ = some (.int .i64 (v : Int))
  u4 : w.cell? ⟨ub, 4, none⟩ = some .nilIface
  u5 : ∃ q : Int, w.cell? ⟨ub, 5, none⟩ = some (.int .i64 q)
  u6 : ∃ q : Int, w.cell? ⟨ub, 6, none⟩ = some (.int .i64 q)
  fz : ∀ j, w.frozen? ⟨ub, j, none⟩ = false
  data : BytesAt w kb r U
  room : RoomAt w kb 0 4096
  end_ : v = r + U.length
  le : v ≤ 4096
  ne : ub ≠ kb

theorem Bufio.lt {w : World} {ub kb bd r v : Nat} {U : List UInt8} (h : Bufio w ub kb bd r v U) : ub < w.heap.size := World.block_lt_of_cell? w _ h.u0
theorem Bufio.keep {w w' : World} {ub kb bd r v : Nat} {U : List UInt8} {F : Nat → Nat → Prop} (h : Bufio w ub kb bd r v U) (hk : Keep F w w') (h1 : ∀ y, ¬ F ub y) (h2 : ∀ y, ¬ F kb y) : Bufio w' ub kb bd r v U := by
  obtain ⟨q5, h5⟩ := h.u5
  obtain ⟨q6, h6⟩ := h.u6
  exact ⟨hk.get h.u0 (h1 _), hk.get h.u1 (h1 _), hk.get h.u2 (h1 _), hk.get h.u3 (h1 _), hk.get h.u4 (h1 _), ⟨q5, hk.get h5 (h1 _)⟩, ⟨q6, hk.get h6 (h1 _)⟩, fun j => hk.froz h.lt (h.fz j) (h1 j), h.data.keep hk fun _ _ => h2 _, h.room.keep hk fun _ _ => h2 _, h.end_, h.le, h.ne⟩

/-- A store into one of the buffered reader's fields: what lies in its buffer stays. -/
theorem setF {w : World} {ub k j : Nat} {u v : Value} (hc : w.cell? ⟨ub, j, none⟩ = some u) (hne : k ≠ j) : (w.setCell ⟨ub, k, none⟩ v).cell? ⟨ub, j, none⟩ = some u :=
  (World.cell?_setCell_other _ _ _ _ fun e => hne (by injection e)).trans hc

section
variable {w : World} {ub kb bd r v : Nat} {U : List UInt8} (h : Bufio w ub kb bd r v U)
include h
theorem Bufio.fzSet (k : Nat) (x : Value) : ∀ j, (w.setCell ⟨ub, k, none⟩ x).frozen? ⟨ub, j, none⟩ = false := fun j => by rw [World.frozen?_setCell]; exact h.fz j
theorem Bufio.dSet (k : Nat) (x : Value) : BytesAt (w.setCell ⟨ub, k, none⟩ x) kb r U := h.data.keep (keep_setCell _ _ _ _) fun _ _ e => h.ne e.1.symm
theorem Bufio.rSet (k : Nat) (x : Value) : RoomAt (w.setCell ⟨ub, k, none⟩ x) kb 0 4096 := h.room.keep (keep_setCell _ _ _ _) fun _ _ e => h.ne e.1.symm
/-- The read place moves on by n. -/
theorem Bufio.set2 (n : Nat) (hn : n ≤ U.length) : Bufio (w.setCell ⟨ub, 2, none⟩ (.int .i64 ((r + n : Nat) : Int))) ub kb bd (r + n) v (U.drop n) := by
  obtain ⟨q5, h5⟩ := h.u5
  obtain ⟨q6, h6⟩ := h.u6
  refine ⟨setF h.u0 (by decide), setF h.u1 (by decide), World.cell?_setCell_same _ _ _ h.u2, setF h.u3 (by decide), setF h.u4 (by decide), ⟨q5, setF h5 (by decide)⟩, ⟨q6, setF h6 (by decide)⟩, h.fzSet _ _, (h.dSet _ _).drop n, h.rSet _ _, ?_, h.le, h.ne⟩
  have := h.end_
  simp; omega
theorem Bufio.set4 : Bufio (w.setCell ⟨ub, 4, none⟩ .nilIface) ub kb bd r v U := by
  obtain ⟨q5, h5⟩ := h.u5
  obtain ⟨q6, h6⟩ := h.u6
  exact ⟨setF h.u0 (by decide), setF h.u1 (by decide), setF h.u2 (by decide), setF h.u3 (by decide), World.cell?_setCell_same _ _ _ h.u4, ⟨q5, setF h5 (by decide)⟩, ⟨q6, setF h6 (by decide)⟩, h.fzSet _ _, h.dSet _ _, h.rSet _ _, h.end_, h.le, h.ne⟩
theorem Bufio.set5 (q : Int) : Bufio (w.setCell ⟨ub, 5, none⟩ (.int .i64 q)) ub kb bd r v U := by
  obtain ⟨q5, h5⟩ := h.u5
  obtain ⟨q6, h6⟩ := h.u6
  exact ⟨setF h.u0 (by decide), setF h.u1 (by decide), setF h.u2 (by decide), setF h.u3 (by decide), setF h.u4 (by decide), ⟨q, World.cell?_setCell_same _ _ _ h5⟩, ⟨q6, setF h6 (by decide)⟩, h.fzSet _ _, h.dSet _ _, h.rSet _ _, h.end_, h.le, h.ne⟩
theorem Bufio.set6 (q : Int) : Bufio (w.setCell ⟨ub, 6, none⟩ (.int .i64 q)) ub kb bd r v U := by
  obtain ⟨q5, h5⟩ := h.u5
  obtain ⟨q6, h6⟩ := h.u6
  exact ⟨setF h.u0 (by decide), setF h.u1 (by decide), setF h.u2 (by decide), setF h.u3 (by decide), setF h.u4 (by decide), ⟨q5, setF h5 (by decide)⟩, ⟨q, World.cell?_setCell_same _ _ _ h6⟩, h.fzSet _ _, h.dSet _ _, h.rSet _ _, h.end_, h.le, h.ne⟩
end
/-- An empty buffer, its two places set to 0. -/
theorem Bufio.zero {w : World} {ub kb bd r v : Nat} (h : Bufio w ub kb bd r v []) : Bufio ((w.setCell ⟨ub, 2, none⟩ (.int .i64 0)).setCell ⟨ub, 3, none⟩ (.int .i64 0)) ub kb bd 0 0 [] := by
  obtain ⟨q5, h5⟩ := h.u5
  obtain ⟨q6, h6⟩ := h.u6
  refine ⟨setF (setF h.u0 (by decide)) (by decide), setF (setF h.u1 (by decide)) (by decide), setF (World.cell?_setCell_same _ _ _ h.u2) (by decide), World.cell?_setCell_same _ _ _ (setF h.u3 (by decide)), setF (setF h.u4 (by decide)) (by decide), ⟨q5, setF (setF h5 (by decide)) (by decide)⟩, ⟨q6, setF (setF h6 (by decide)) (by decide)⟩, fun j => by simp [h.fz j], fun i hi => by simp at hi, ?_, rfl, by omega, h.ne⟩
  exact (h.rSet 2 (.int .i64 0)).keep (keep_setCell _ _ _ _) fun _ _ e => h.ne e.1.symm
/-- The buffer was read into; its end is set. -/
theorem Bufio.filled {w w1 : World} {ub kb bd : Nat} {F : Nat → Nat → Prop} {l : List UInt8} (h : Bufio w ub kb bd 0 0 []) (hk : Keep F w w1) (h1 : ∀ y, ¬ F ub y) (h2 : ∀ y, F kb y → 0 ≤ y ∧ y < 0 + l.length) (hb : BytesAt w1 kb 0 l) (hf : ∀ j, w1.frozen? ⟨kb, j, none⟩ = w.frozen? ⟨kb, j, none⟩) (hl : l.length ≤ 4096) :
    Bufio (w1.setCell ⟨ub, 3, none⟩ (.int .i64 (l.length : Int))) ub kb bd 0 l.length l := by
  obtain ⟨q5, h5⟩ := h.u5
  obtain ⟨q6, h6⟩ := h.u6
  have hr : RoomAt w1 kb 0 4096 := h.room.after hk h2 hb hf
  refine ⟨setF (hk.get h.u0 (h1 _)) (by decide), setF (hk.get h.u1 (h1 _)) (by decide), setF (hk.get h.u2 (h1 _)) (by decide), World.cell?_setCell_same _ _ _ (hk.get h.u3 (h1 _)), setF (hk.get h.u4 (h1 _)) (by decide), ⟨q5, setF (hk.get h5 (h1 _)) (by decide)⟩, ⟨q6, setF (hk.get h6 (h1 _)) (by decide)⟩,
    fun j => by rw [World.frozen?_setCell]; exact hk.froz h.lt (h.fz j) (h1 j), hb.keep (keep_setCell _ _ _ _) fun _ _ e => h.ne e.1.symm, hr.keep (keep_setCell _ _ _ _) fun _ _ e => h.ne e.1.symm, by omega, hl, h.ne⟩

/-- The blocks' numbers: of the decoder, the file's reader, the sum, the file's bytes (cap: its capacity), the buffered reader, its buffer. -/
structure Nums where
  bd : Nat
  rb : Nat
  cb : Nat
  db : Nat
  cap : Nat
  ub : Nat
  kb : Nat

/-- The packed bytes still to come are R: those in the buffer, and those of the chunk (from place s of the file's bytes D up to place E) that were not yet read; the sum has run over what was read. -/
structure Strm (N : Nums) (D : List UInt8) (d : Dv) (s E c0 : Nat) (w : World) (R : List UInt8) (i r v : Nat) (U : List UInt8) : Prop where
  png : Png w N.bd N.rb N.cb N.db N.cap D { d with idat := E - i } i (crcRun c0 ((D.drop s).take (i - s)))
  buf : Bufio w N.ub N.kb N.bd r v U
  si : s ≤ i
  iE : i ≤ E
  ED : E ≤ D.length
  rest : R = U ++ (D.drop i).take (E - i)
  b1 : ¬ Fp N.bd N.rb N.cb N.ub 0 ∧ N.ub ≠ N.db ∧ N.ub ≠ 3
  b2 : ¬ Fp N.bd N.rb N.cb N.kb 0 ∧ N.kb ≠ N.db ∧ N.kb ≠ 3
/-- The stream's own blocks. -/
def Fs (N : Nums) : Nat → Nat → Prop := fun x _ => x = N.bd ∨ x = N.rb ∨ x = N.cb ∨ x = N.ub ∨ x = N.kb
/-- A block that the stream leaves alone. -/
def OkS (N : Nums) (b : Nat) : Prop := (¬ Fp N.bd N.rb N.cb b 0 ∧ b ≠ N.db ∧ b ≠ 3) ∧ b ≠ N.ub ∧ b ≠ N.kb

theorem Strm.keep {N : Nums} {D : List UInt8} {d : Dv} {s E c0 : Nat} {w w' : World} {R : List UInt8} {i r v : Nat} {U : List UInt8} {F : Nat → Nat → Prop} (h : Strm N D d s E c0 w R i r v U) (hk : Keep F w w')
    (hF : ∀ x y, F x y → OkS N x) : Strm N D d s E c0 w' R i r v U :=
  ⟨h.png.keep0 hk (fun _ e => (hF _ _ e).1.1 (.inl rfl)) (fun _ e => (hF _ _ e).1.1 (.inr (.inl rfl))) (fun _ e => (hF _ _ e).1.1 (.inr (.inr rfl))) (fun _ e => (hF _ _ e).1.2.1 rfl) (fun _ e => (hF _ _ e).1.2.2 rfl),
   h.buf.keep hk (fun _ e => (hF _ _ e).2.1 rfl) (fun _ e => (hF _ _ e).2.2 rfl), h.si, h.iE, h.ED, h.rest, h.b1, h.b2⟩
theorem take_run (D : List UInt8) (s i k : Nat) (h : s ≤ i) : (D.drop s).take (i + k - s) = (D.drop s).take (i - s) ++ (D.drop i).take k := by
  rw [show i + k - s = (i - s) + k by omega, List.take_add, List.drop_drop, show s + (i - s) = i by omega]
end Go.Proofs.YtnbbppjgamdfeaaGreatDoor
end

/- bufio: readErr, Read. -/
section
set_option linter.unusedVariables false
set_option linter.unusedSimpArgs false
namespace Go.Proofs.YtnbbppjgamdfeaaGreatDoor
open Go Go.RowKit
attribute [local go_sem] min2_min min_two'

theorem readErr {w : World} {ub : Nat} (h4 : w.cell? ⟨ub, 4, none⟩ = some .nilIface) (hfz : w.frozen? ⟨ub, 4, none⟩ = false) :
    Calls Tryz.prog 246 #[.pointer (some ⟨ub, 0, none⟩)] w fun e w' => e = .returned .nilIface ∧ w' = w.setCell ⟨ub, 4, none⟩ .nilIface := by
  go_enter Tryz.func246, Tryz.ntmps246
  go_wp2
  go_ret
  exact ⟨rfl, rfl⟩

theorem Bufio.drewN {w : World} {ub kb bd r v : Nat} {U : List UInt8} (h : Bufio w ub kb bd r v U) (n : Nat) : Bufio (w.drewN n) ub kb bd r v U := h.keep ((Keep.refl Nil2 w).drewN n) (fun _ e => e) (fun _ e => e)

/-- The copy out of the buffer, and what is noted after it: the walk's end, shared by two ways in. -/
def ReadDone (N : Nums) (b o : Nat) (w : World) (r v : Nat) (U : List UInt8) (n : Nat) (e : Ending) (w' : World) : Prop :=
  ∃ k, k = min n U.length ∧ e = .returned (.tuple #[.int .i64 (k : Int), .nilIface]) ∧ Bufio w' N.ub N.kb N.bd (r + k) v (U.drop k) ∧ BytesAt w' b o (U.take k) ∧ (∀ j, w'.frozen? ⟨b, j, none⟩ = w.frozen? ⟨b, j, none⟩) ∧
    Keep (fun x y => x = N.ub ∨ (x = b ∧ o ≤ y ∧ y < o + k)) w w'

set_option maxHeartbeats 4000000 in
set_option maxRecDepth 100000 in
theorem bufRead0 {N : Nums} {w : World} {r v : Nat} {U : List UInt8} (h : Bufio w N.ub N.kb N.bd r v U) (hU : 0 < U.length) (b o n c : Nat) (hn : 0 < n) (room : RoomAt w b o n) (hb1 : b ≠ N.ub) (hb2 : b ≠ N.kb) :
    Calls Tryz.prog 241 #[.pointer (some ⟨N.ub, 0, none⟩), .slice (some ⟨b, o, none⟩) n c] w (ReadDone N b o w r v U n) := by
  have h0 := h.u0
  have h2 := h.u2
  have h3 := h.u3
  have hfz := h.fz
  have he := h.end_
  have hle := h.le
  have hn0 : ((n : Int) == 0) = false := by simp; omega
  have hrv : ((r : Int) == (v : Int)) = false := by simp; omega
  have HE := Lib.hid he
  have h1r : r ≤ v := by omega
  have hlen : U.length ≤ 4096 := by omega
  clear he
  go_enter Tryz.func241, Tryz.ntmps241
  go_wp2
  go_quiet (fail)
  go_wp2
  obtain ⟨w1, hw1⟩ : ∃ w1, w1 = w.drewN nq := ⟨_, rfl⟩
  rw [← hw1]
  have hk1 : Keep Nil2 w w1 := by rw [hw1]; exact (Keep.refl _ w).drewN nq
  have h01 := hk1.get h0 (fun e => e)
  have h21 := hk1.get h2 (fun e => e)
  have h31 := hk1.get h3 (fun e => e)
  have hb' : Bufio w1 N.ub N.kb N.bd r v U := h.keep hk1 (fun _ e => e) (fun _ e => e)
  have room1 : RoomAt w1 b o n := room.keep hk1 (fun _ _ e => e)
  have hf1 : ∀ j, w1.frozen? ⟨b, j, none⟩ = w.frozen? ⟨b, j, none⟩ := fun j => by rw [hw1]; simp
  have hrv2 : (r : Int) ≤ (v : Int) := by omega
  have hv2 : (v : Int) ≤ 4096 := by omega
  have hne : ¬ (4096 : Nat) = r := by have := HE.out; omega
  clear hw1 h0 h2 h3 hfz
  go_still_tail 14, (by kernel_rfl)
  change wpList _ _ _ _ _ w1.drew
  have hl : (U.take n).length = Nat.min (v - r) n := by have := HE.out; simp [Nat.min_comm]; omega
  refine wpList_copy_bytes rfl (.tmp 109) (.tmp 122) 23 23 rfl 5 Tryz.underlying23 (by kernel_rfl) b o n c N.kb r (v - r) (4096 - r) rfl rfl (U.take n) hl ?c2 ?c3 ?_
  case c2 => exact hb'.data.take n
  case c3 => exact fun j hj => room1 j (by simp at hj; omega)
  intro w2 hk2 hb2' hf2
  have hkk : Keep (fun k j => k = b ∧ o ≤ j ∧ j < o + (U.take n).length) w1 w2 := (Keep.refl _ _).drew.trans hk2
  have hB2 : Bufio w2 N.ub N.kb N.bd r v U := hb'.keep hkk (fun _ e => hb1 e.1.symm) (fun _ e => hb2 e.1.symm)
  have HF2 := Lib.hid hf2
  clear hf2 h01 h21 h31
  obtain ⟨k, HK⟩ : ∃ k, k = (U.take n).length := ⟨_, rfl⟩
  rw [← HK] at hkk ⊢
  have hkU : k ≤ U.length := by rw [HK]; simp; omega
  have hk0 : 0 < k := by rw [HK]; simp; omega
  have hkm : k = min n U.length := by rw [HK]; simp
  have HKM := Lib.hid hkm
  have HKH := Lib.hid HK
  clear hkm HK hl
  have h22 := hB2.u2
  have hfz2 := hB2.fz
  go_wp2
  have hB3 := hB2.set2 k hkU
  rw [show ((r + k : Nat) : Int) = (r : Int) + (k : Int) by omega] at hB3
  have hd3 := hB2.dSet 2 (.int .i64 ((r : Int) + (k : Int)))
  obtain ⟨w3, hw3⟩ : ∃ w3, w3 = w2.setCell ⟨N.ub, 2, none⟩ (.int .i64 ((r : Int) + (k : Int))) := ⟨_, rfl⟩
  rw [← hw3] at hB3 hd3 ⊢
  have hk3 : Keep (fun x y => x = N.ub) w2 w3 := by rw [hw3]; exact (keep_setCell _ _ _ _).mono fun _ _ _ e => e.1
  have hf3 : ∀ j, w3.frozen? ⟨b, j, none⟩ = w2.frozen? ⟨b, j, none⟩ := fun j => by rw [hw3, World.frozen?_setCell]
  have h03 := hB3.u0
  have h23 := hB3.u2
  have hfz3 := hB3.fz
  obtain ⟨q5, h53⟩ := hB3.u5
  obtain ⟨q6, h63⟩ := hB3.u6
  have hx : ∃ x : UInt8, w3.cell? ⟨N.kb, r + k - 1, none⟩ = some (.int .u8 (x.toNat : Int)) := by
    have := hd3 (k - 1) (by omega)
    rw [show r + (k - 1) = r + k - 1 by omega] at this
    exact ⟨_, this⟩
  obtain ⟨x, hx⟩ := hx
  have HF3 := Lib.hid hf3
  clear hf3 hw3 h22 hfz2 hd3
  rw [show ((r + k : Nat) : Int) = (r : Int) + (k : Int) by omega] at h23
  have hw27 : IntKind.i64.wrap ((r : Int) + (k : Int) - 1) = ((r + k - 1 : Nat) : Int) := by rw [IntWalk.i64_in _ (by omega)]; omega
  have hltc : ((r + k - 1 : Nat) : Int) < 4096 := by have := HE.out; omega
  have hx8 := x.toNat_lt
  go_still_tail 15, (by kernel_rfl)
  change wpList _ _ _ _ _ w3.drew
  go_wp2
  go_ret2
  have hk5 : Keep (fun x y => x = N.ub) w3 ((w3.setCell ⟨N.ub, 5, none⟩ (.int .i64 (x.toNat : Int))).setCell ⟨N.ub, 6, none⟩ (.int .i64 (-1))).drew :=
    (((Keep.refl (fun x y => x = N.ub) w3).setCell _ fun _ => rfl).setCell _ fun _ => rfl).drew
  refine ⟨k, HKM.out, rfl, ((hB3.set5 _).set6 _).drewN 1, ?_, ?_, ?_⟩
  · have e : U.take k = U.take n := by rw [HKM.out]; exact (List.take_eq_take_iff.2 (by omega))
    rw [e]
    exact (hb2'.keep hk3 fun _ _ e => hb1 e).keep hk5 fun _ _ e => hb1 e
  · intro j
    rw [World.frozen?_drew, World.frozen?_setCell, World.frozen?_setCell, HF3.out, HF2.out, World.frozen?_drew, hf1]
  · exact ((hk1.then hkk (fun _ _ _ e => e.elim) fun _ _ _ e => Or.inr e).trans ((hk3.trans hk5).mono fun _ _ _ e => Or.inl e))
end Go.Proofs.YtnbbppjgamdfeaaGreatDoor
end
