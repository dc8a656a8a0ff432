/- laws.FnBack, part 8 of 54: C7 C8 C9. -/
import Derived.Test.YtnbbppjgamdfeaaGreatDoorY07
import Derived.WalkMore
import Derived.ScopeJumps
import Derived.Test.YtnbbppjgamdfeaaGreatDoorY01

/- flate: the last, empty block of the fixed code; the next block. -/
section
set_option linter.unusedVariables false
set_option linter.unusedSimpArgs false
namespace Go.Proofs.YtnbbppjgamdfeaaGreatDoor
open Go Go.RowKit

set_option maxHeartbeats 2000000 in
set_option maxRecDepth 100000 in
/-- huffmanBlock where the next symbol is the end: the last block is done. -/
theorem huffmanBlock {N : Nums} {D : List UInt8} {d : Dv} {s E c0 : Nat} {w : World} {R : List UInt8} {fb hb gb : Nat} {f : Fv} (hS : SI N D d s E c0 w (0 :: R)) (h : Flt w fb N.ub hb f) (h1 : OkS N fb) (h2 : OkS N hb) (h3 : OkS N gb) (hgf : gb ≠ fb) (hb0 : f.b = 0) (hn0 : f.nb = 5)
    (g0 : w.cell? ⟨gb, 0, none⟩ = some (.int .i64 7)) (g1 : w.cell? ⟨gb, 1, none⟩ = some (.int .u32 4103)) (hhl : f.hl = .pointer (some ⟨gb, 0, none⟩))
    (hf : f.fin = true) {k : Nat} (hk : f.wr = (k : Int)) (hm : f.rd = 0) (hk0 : 0 < k) (hk2 : k < 32768) {t : TypeId} {ev : Value} (he : w.cell? ⟨0, 0, none⟩ = some (.iface t ev)) (h0b : OkS N 0) (hf0 : fb ≠ 0) :
    Calls Tryz.prog 145 #[.pointer (some ⟨fb, 0, none⟩)] w fun e w' => e = .returned (.tuple #[]) ∧ SI N D d s E c0 w' R ∧
      (∃ q, Flt w' fb N.ub hb { f with roff := q, b := 0, nb := 6, rd := (k : Int), toR := .slice (some ⟨hb, 0, none⟩) k 32768, err := .iface t ev, step := 136 }) ∧ Keep (fun a y => Fs N a y ∨ a = fb) w w' := by
  have hst := h.x_sst
  have hhl' := h.c_hl
  rw [hhl] at hhl'
  go_enter Tryz.func145, Tryz.ntmps145
  go_wp2
  apply wp_scope_jumps 0 ((fun (A : Act) (a' : Act) (w' : World) => a' = A ∧ w' = w) _) (fun _ _ => 0) rfl
  · go_wp2
    go_step3
    exact ⟨rfl, rfl, rfl⟩
  rintro a w' ⟨rfl, rfl⟩
  go_wp2_with (go_at_call 152; fail)
  refine (huffSym hS h h1 h2 h3 hgf hb0 hn0 g0 g1).mono ?_
  rintro e w1 ⟨rfl, hS1, ⟨q, hf1⟩, hk1⟩
  have he1 := hk1.get he (fun e => e.elim (h0b.ok 0) fun e => hf0 e.symm)
  clear hst hhl'
  go_wp2_with (go_at_call 149; fail)
  refine (finishLast hf1 hf hk hm hk0 hk2 he1 hf0).mono ?_
  rintro e w2 ⟨rfl, hf2, hk2'⟩
  go_wp2
  show Exit.noGoto (bodyPost Tryz.prog Tryz.f145 _) Exit.ret _ _
  rw [Exit.noGoto_ret]
  refine bodyPost_ret (results_none rfl _ _ _) rfl ?_
  exact ⟨rfl, SI.keep hS1 hk2' fun a _ e => e ▸ h1, ⟨q, hf2⟩, hk1.trans (hk2'.mono fun _ _ _ e => .inr e)⟩

set_option maxHeartbeats 1000000 in
set_option maxRecDepth 100000 in
/-- nextBlock at a block that is stored as it is. -/
theorem nextStored {N : Nums} {D : List UInt8} {d : Dv} {s E c0 : Nat} {w : World} {x0 x1 y0 y1 : UInt8} {l R : List UInt8} {fb hb : Nat} {f : Fv} (hS : SI N D d s E c0 w (0 :: x0 :: x1 :: y0 :: y1 :: (l ++ R))) (h : Flt w fb N.ub hb f) (h1 : OkS N fb) (h2 : OkS N hb) (hD : D.length ≤ 1073741824)
    (hl0 : 0 < l.length) (hl : l.length < 32768) (hx : x0.toNat + 256 * x1.toNat = l.length) (hy0 : y0.toNat = 255 - x0.toNat) (hy1 : y1.toNat = 255 - x1.toNat) (hwr : f.wr = 0) (hb0 : f.b = 0) (hn0 : f.nb = 0) (her : f.err = .nilIface) :
    Calls Tryz.prog 136 #[.pointer (some ⟨fb, 0, none⟩)] w fun e w' => e = .returned (.tuple #[]) ∧ SI N D d s E c0 w' R ∧ BytesAt w' hb 0 l ∧ (∃ q, Flt w' fb N.ub hb { f with roff := q, b := 0, nb := 0, wr := (l.length : Int), cl := 0, step := 136, fin := false }) ∧
      Keep (fun a y => Fs N a y ∨ a = fb ∨ a = hb) w w' := by
  have hn' := h.c_nb
  rw [hn0] at hn'
  go_enter Tryz.func136, Tryz.ntmps136
  go_wp2
  refine wp_loop_rounds 2 ?_
  rw [rounds_succ]
  go_wp2_with (go_at_call 142; fail)
  refine (moreBits hS h h1 h2 hb0 hn0).mono ?_
  rintro e w1 ⟨rfl, hS1, ⟨q, hf1⟩, hk1⟩
  have he1 := hf1.c_err
  simp only [her] at he1
  have hb1 : w1.cell? ⟨fb, 3, none⟩ = some (.int .u32 0) := hf1.c_b
  have hn1 : w1.cell? ⟨fb, 4, none⟩ = some (.int .u64 8) := hf1.c_nb
  have hfi : w1.cell? ⟨fb, 1047, none⟩ = some (.bool f.fin) := hf1.c_fin
  have hz1 := hf1.fz
  have HF1 := Lib.hid hf1
  have HS1 := Lib.hid hS1
  have HK1 := Lib.hid hk1
  clear hf1 hS1 hk1 hS h
  have b1 : bits BinOp.and IntKind.u32 0 1 = 0 := by decide
  have b3 : bits BinOp.and IntKind.u32 0 3 = 0 := by decide
  clear hn'
  go_wp2
  rw [rounds_succ]
  go_wp2_with (go_at_call 143; fail)
  have hf2 := ((((HF1.out.set_err .nilIface).set_fin false).set_b 0).set_b 0).set_nb 5
  have hk2 : Keep (fun a _ => a = fb) w1 (((((w1.setCell ⟨fb, 1048, none⟩ .nilIface).setCell ⟨fb, 1047, none⟩ (.bool false)).setCell ⟨fb, 3, none⟩ (.int .u32 0)).setCell ⟨fb, 3, none⟩ (.int .u32 0)).setCell ⟨fb, 4, none⟩ (.int .u64 5)) :=
    (((((Keep.refl (fun a _ => a = fb) w1).setCell _ fun _ => rfl).setCell _ fun _ => rfl).setCell _ fun _ => rfl).setCell _ fun _ => rfl).setCell _ fun _ => rfl
  refine (dataBlock (SI.keep HS1.out hk2 fun a _ e => e ▸ h1) hf2 h1 h2 hD hl0 hl hx hy0 hy1 hwr rfl).mono ?_
  rintro e w3 ⟨rfl, hS3, hb3, ⟨q3, hf3⟩, hk3⟩
  go_wp2
  go_end0
  refine ⟨rfl, hS3, hb3, ⟨q3, ?_⟩, ((HK1.out.mono fun _ _ _ e => e.imp id Or.inl).trans (hk2.mono fun _ _ _ e => .inr (.inl e))).trans hk3⟩
  have := hf3
  rw [← her] at this
  exact this

theorem SI.new {N : Nums} {D : List UInt8} {d : Dv} {s E c0 : Nat} {w : World} {R : List UInt8} (h : SI N D d s E c0 w R) (hD : 0 < D.length) {g : Nat} (hg : w.heap.size ≤ g) : OkS N g := by
  obtain ⟨i, r, v, U, h⟩ := h
  have l1 := h.png.dec.lt
  have l2 := World.block_lt_of_cell? w _ h.png.br.cs
  have l3 := World.block_lt_of_cell? w _ h.png.crc.cell
  have l4 := h.png.br.data.lt hD
  have l5 := World.block_lt_of_cell? w _ (h.png.tab 0 (by decide))
  have l6 := h.buf.lt
  have l7 := h.buf.room.lt (by decide)
  simp only at l2 l3 l5
  exact ⟨⟨fun e => e.elim (fun e => by omega) fun e => e.elim (fun e => by omega) fun e => by omega, by omega, by omega⟩, by omega, by omega⟩

set_option maxHeartbeats 1000000 in
set_option maxRecDepth 100000 in
/-- nextBlock at the last, empty block of the fixed code. -/
theorem nextLast {N : Nums} {D : List UInt8} {d : Dv} {s E c0 : Nat} {w : World} {R : List UInt8} {fb hb : Nat} {f : Fv} (hS : SI N D d s E c0 w (3 :: 0 :: R)) (h : Flt w fb N.ub hb f) (h1 : OkS N fb) (h2 : OkS N hb) (hD0 : 0 < D.length)
    (hb0 : f.b = 0) (hn0 : f.nb = 0) (her : f.err = .nilIface)
    {k : Nat} (hk : f.wr = (k : Int)) (hm : f.rd = 0) (hk0 : 0 < k) (hk2 : k < 32768) {t : TypeId} {ev : Value} (he : w.cell? ⟨0, 0, none⟩ = some (.iface t ev)) (h0b : OkS N 0) (hf0 : fb ≠ 0) :
    Calls Tryz.prog 136 #[.pointer (some ⟨fb, 0, none⟩)] w fun e w' => e = .returned (.tuple #[]) ∧ SI N D d s E c0 w' R ∧ (∃ q b nb hl hd, Flt w' fb N.ub hb { f with roff := q, b := b, nb := nb, hl := hl, hd := hd, rd := (k : Int), toR := .slice (some ⟨hb, 0, none⟩) k 32768, err := .iface t ev, step := 136, fin := true }) ∧
      Keep (fun a y => Fs N a y ∨ a = fb) w w' := by
  have hn' := h.c_nb
  rw [hn0] at hn'
  go_enter Tryz.func136, Tryz.ntmps136
  go_wp2
  refine wp_loop_rounds 2 ?_
  rw [rounds_succ]
  go_wp2_with (go_at_call 142; fail)
  refine (moreBits hS h h1 h2 hb0 hn0).mono ?_
  rintro e w1 ⟨rfl, hS1, ⟨q, hf1⟩, hk1⟩
  have he1 := hf1.c_err
  simp only [her] at he1
  have hb1 : w1.cell? ⟨fb, 3, none⟩ = some (.int .u32 3) := hf1.c_b
  have hn1 : w1.cell? ⟨fb, 4, none⟩ = some (.int .u64 8) := hf1.c_nb
  have hfi : w1.cell? ⟨fb, 1047, none⟩ = some (.bool f.fin) := hf1.c_fin
  have hz1 := hf1.fz
  have HF1 := Lib.hid hf1
  have HS1 := Lib.hid hS1
  have HK1 := Lib.hid hk1
  have b1 : bits BinOp.and IntKind.u32 3 1 = 1 := by decide
  have b3 : bits BinOp.and IntKind.u32 1 3 = 1 := by decide
  clear hf1 hS1 hk1 hS hn'
  go_wp2
  rw [rounds_succ]
  go_wp2_with (go_at_call 144; fail)
  have hf2 := ((((HF1.out.set_err .nilIface).set_fin true).set_b 1).set_b 0).set_nb 5
  have hk2w : Keep (fun a _ => a = fb) w1 (((((w1.setCell ⟨fb, 1048, none⟩ .nilIface).setCell ⟨fb, 1047, none⟩ (.bool true)).setCell ⟨fb, 3, none⟩ (.int .u32 1)).setCell ⟨fb, 3, none⟩ (.int .u32 0)).setCell ⟨fb, 4, none⟩ (.int .u64 5)) :=
    (((((Keep.refl (fun a _ => a = fb) w1).setCell _ fun _ => rfl).setCell _ fun _ => rfl).setCell _ fun _ => rfl).setCell _ fun _ => rfl).setCell _ fun _ => rfl
  have hS2 := SI.keep HS1.out hk2w fun a _ e => e ▸ h1
  generalize (((((w1.setCell ⟨fb, 1048, none⟩ .nilIface).setCell ⟨fb, 1047, none⟩ (.bool true)).setCell ⟨fb, 3, none⟩ (.int .u32 1)).setCell ⟨fb, 3, none⟩ (.int .u32 0)).setCell ⟨fb, 4, none⟩ (.int .u64 5)) = w2 at hf2 hk2w hS2 ⊢
  refine (fixedHuffman w2).mono ?_
  rintro e w3 ⟨g, rfl, hg, g0, g1, hk3⟩
  have hf3 := hf2.keep0 hk3 (fun _ e => e) (fun _ e => e)
  have hS3 := SI.keep hS2 hk3 fun _ _ e => e.elim
  have hOg := SI.new hS2 hD0 hg
  have hgf : g ≠ fb := by have := hf2.lt; omega
  have hhl3 := hf3.c_hl
  have hhd3 := hf3.c_hd
  have hz3 := hf3.fz
  have HF3 := Lib.hid hf3
  have HS3 := Lib.hid hS3
  clear hf2 hz1 hb1 hn1 hfi he1 b1 b3 hS2 hf3 hS3
  go_wp2_with (go_at_call 145; fail)
  have hf4 := (HF3.out.set_hl (.pointer (some ⟨g, 0, none⟩))).set_hd (.pointer none)
  have hk4 : Keep (fun a _ => a = fb) w3 ((w3.setCell ⟨fb, 1050, none⟩ (.pointer (some ⟨g, 0, none⟩))).setCell ⟨fb, 1051, none⟩ (.pointer none)) :=
    ((Keep.refl (fun a _ => a = fb) w3).setCell _ fun _ => rfl).setCell _ fun _ => rfl
  have hS4 := SI.keep HS3.out hk4 fun a _ e => e ▸ h1
  have g0' := hk4.get g0 hgf
  have g1' := hk4.get g1 hgf
  have he4 := hk4.get (hk3.get (hk2w.get (HK1.out.get he (fun e => e.elim (h0b.ok 0) fun e => hf0 e.symm)) (fun e => hf0 e.symm)) (fun e => e)) (fun e => hf0 e.symm)
  refine (huffmanBlock hS4 hf4 h1 h2 hOg hgf rfl rfl g0' g1' rfl rfl hk hm hk0 hk2 he4 h0b hf0).mono ?_
  rintro e w5 ⟨rfl, hS5, ⟨q5, hf5⟩, hk5⟩
  go_wp2
  go_end0
  refine ⟨rfl, hS5, ⟨_, _, _, _, _, hf5⟩, ?_⟩
  exact (((HK1.out.trans (hk2w.mono fun _ _ _ e => .inr e)).trans (hk3.mono fun _ _ _ e => e.elim)).trans (hk4.mono fun _ _ _ e => .inr e)).trans hk5
end Go.Proofs.YtnbbppjgamdfeaaGreatDoor
end

/- flate: Read. -/
section
set_option linter.unusedVariables false
set_option linter.unusedSimpArgs false
namespace Go.Proofs.YtnbbppjgamdfeaaGreatDoor
open Go Go.RowKit

set_option maxHeartbeats 1000000 in
set_option maxRecDepth 100000 in
/-- Read where bytes wait in the window. -/
theorem fltRead1 {w : World} {fb ub hb m : Nat} {f : Fv} {rest : List UInt8} {t : TypeId} {ev : Value} (h : Flt w fb ub hb f) (ht : f.toR = .slice (some ⟨hb, m, none⟩) rest.length (32768 - m)) (he : f.err = .iface t ev) (hd : BytesAt w hb m rest) (hr : 0 < rest.length) (hm : m + rest.length < 32768)
    (b o n c : Nat) (hn : 0 < n) (hn2 : n ≤ 1073741824) (room : RoomAt w b o n) (hb1 : b ≠ fb) (hb2 : b ≠ hb) :
    Calls Tryz.prog 250 #[.pointer (some ⟨fb, 0, none⟩), .slice (some ⟨b, o, none⟩) n c] w fun e w' => ∃ k, k = min n rest.length ∧ e = .returned (.tuple #[.int .i64 (k : Int), if k = rest.length then .iface t ev else .nilIface]) ∧
      Flt w' fb ub hb { f with toR := .slice (some ⟨hb, m + k, none⟩) (rest.length - k) (32768 - (m + k)) } ∧ BytesAt w' b o (rest.take k) ∧ (∀ j, w'.frozen? ⟨b, j, none⟩ = w.frozen? ⟨b, j, none⟩) ∧ Keep (fun x y => x = fb ∨ (x = b ∧ o ≤ y ∧ y < o + k)) w w' := by
  have h1 := h.c_toR
  rw [ht] at h1
  have h2 := h.c_err
  rw [he] at h2
  have hz := h.fz
  obtain ⟨r, hrr⟩ : ∃ r, r = rest.length := ⟨_, rfl⟩
  obtain ⟨C, hC⟩ : ∃ C, C = 32768 - m := ⟨_, rfl⟩
  obtain ⟨k, hk⟩ : ∃ k, k = min n r := ⟨_, rfl⟩
  obtain ⟨L, hL⟩ : ∃ L, L = rest.take k := ⟨_, rfl⟩
  have hlen : L.length = k := by rw [hL, List.length_take, ← hrr, hk]; omega
  rw [← hrr] at h1 hr hm
  rw [← hC] at h1
  have hrI : decide ((0 : Int) < (r : Int)) = true := by simp; omega
  have HRR := Lib.hid hrr
  have HK := Lib.hid hk
  have HL := Lib.hid hL
  have HLEN := Lib.hid hlen
  have HC := Lib.hid hC
  clear hrr hk hC hL hlen
  go_enter Tryz.func250, Tryz.ntmps250
  go_wp2
  refine wp_loop_rounds 1 ?_
  rw [rounds_succ]
  go_wp2_with (with_reducible refine wpList_copy_bytes rfl (.tmp 13) (.tmp 17) 23 23 rfl 5 Tryz.underlying23 (by kernel_rfl) b o n c hb m r C rfl rfl L ?c1 ?c2 ?c3 ?_)
  case c1 => rw [HLEN.out, HK.out]; exact Nat.min_comm n r
  case c2 => rw [HL.out]; exact hd.take k
  case c3 => exact fun j hj => room j (by rw [HLEN.out, HK.out] at hj; omega)
  rw [HLEN.out]
  intro w2 hk2 hbw hfw
  have hf2 : Flt w2 fb ub hb f := h.keep0 hk2 (fun _ e => hb1 e.1.symm) (fun _ e => hb2 e.1.symm)
  have h12 := hf2.c_toR
  rw [ht, ← HRR.out, ← HC.out] at h12
  have h22 := hf2.c_err
  rw [he] at h22
  have hz2 := hf2.fz
  have hkr : k ≤ r := by have := HK.out; omega
  have hCk : ¬ C = k := by have := HC.out; omega
  have hkI : (k : Int) ≤ (r : Int) := by omega
  have hkC : (k : Int) ≤ (C : Int) := by have := HC.out; omega
  have HB := Lib.hid hbw
  have HFW := Lib.hid hfw
  have HK2 := Lib.hid hk2
  have HF2 := Lib.hid hf2
  clear hk2 hbw hfw hf2 h1 h2 hz
  have hCe : C - k = 32768 - (m + k) := by have := HC.out; omega
  have HCE := Lib.hid hCe
  clear hCe
  have hset := fun (x : Value) (q : Nat) => (HF2.out.set_toR x).drewN q
  have HSET := Lib.hid hset
  clear hset
  have hkp : ∀ (x : Value) (q : Nat), Keep (fun x y => x = fb ∨ (x = b ∧ o ≤ y ∧ y < o + k)) w ((w2.setCell ⟨fb, 1049, none⟩ x).drewN q) := fun x q =>
    ((HK2.out.mono fun _ _ _ e => .inr e).trans ((keep_setCell _ _ _ _).mono fun _ _ _ e => .inl e.1)).drewN q
  have hbt : ∀ (x : Value) (q : Nat), BytesAt ((w2.setCell ⟨fb, 1049, none⟩ x).drewN q) b o L := fun x q => HB.out.keep ((keep_setCell _ _ _ _).drewN q) fun _ _ e => hb1 e.1
  have hfw : ∀ (x : Value) (q : Nat) (j : Nat), ((w2.setCell ⟨fb, 1049, none⟩ x).drewN q).frozen? ⟨b, j, none⟩ = w.frozen? ⟨b, j, none⟩ := fun x q j => by
    show (w2.setCell ⟨fb, 1049, none⟩ x).frozen? ⟨b, j, none⟩ = _
    rw [World.frozen?_setCell]; exact HFW.out j
  have HKP := Lib.hid hkp
  have HBT := Lib.hid hbt
  have HFW2 := Lib.hid hfw
  clear hkp hbt hfw
  by_cases hkr0 : k = r
  · have HE := Lib.hid hkr0
    have hd0 : ((r : Int) - (k : Int) == 0) = true := by simp; omega
    have hrk : r - k = 0 := by omega
    have hrki : (r : Int) - (k : Int) = 0 := by omega
    clear hkr0
    go_wp2
    go_quiet (fail)
    go_wp2
    go_ret2
    refine ⟨k, by rw [← HRR.out]; exact HK.out, by rw [← HRR.out, if_pos HE.out]; rfl, ?_, ?_, HFW2.out _ _, HKP.out _ _⟩
    · have := HSET.out (.slice (some ⟨hb, m + k, none⟩) (r - k) (C - k)) nq
      rw [HCE.out, HRR.out] at this
      rw [← HRR.out, hrk, ← HCE.out]
      rw [← HRR.out, hrk, ← HCE.out] at this
      exact this
    · rw [← HL.out]; exact HBT.out _ _
  · have hsub : ((r : Int) - (k : Int) == 0) = false := by simp; omega
    have HE := Lib.hid hkr0
    clear hkr0
    go_wp2
    go_ret2
    refine ⟨k, by rw [← HRR.out]; exact HK.out, by rw [← HRR.out, if_neg HE.out]; rfl, ?_, ?_, HFW2.out _ 0, HKP.out _ 0⟩
    · have := HSET.out (.slice (some ⟨hb, m + k, none⟩) (r - k) (C - k)) 0
      rw [HCE.out, HRR.out] at this
      rw [← HRR.out, ← HCE.out]
      rw [← HRR.out, ← HCE.out] at this
      exact this
    · rw [← HL.out]; exact HBT.out _ 0

set_option maxHeartbeats 4000000 in
set_option maxRecDepth 100000 in
/-- Read at the stream's start: all is unpacked into the window; the first bytes are handed on. -/
theorem fltRead0 {N : Nums} {D : List UInt8} {d : Dv} {s E c0 : Nat} {w0 : World} {x0 x1 y0 y1 : UInt8} {l R : List UInt8} {fb hb : Nat} {f0 : Fv} (hS : SI N D d s E c0 w0 (0 :: x0 :: x1 :: y0 :: y1 :: (l ++ (3 :: 0 :: R)))) (h0 : Flt w0 fb N.ub hb f0) (h1 : OkS N fb) (h2 : OkS N hb) (hD : D.length ≤ 1073741824) (hD0 : 0 < D.length)
    (hl0 : 0 < l.length) (hl : l.length < 32768) (hx : x0.toNat + 256 * x1.toNat = l.length) (hy0 : y0.toNat = 255 - x0.toNat) (hy1 : y1.toNat = 255 - x1.toNat) (hwr : f0.wr = 0) (hrd : f0.rd = 0) (hb0 : f0.b = 0) (hn0 : f0.nb = 0) (her : f0.err = .nilIface) (htr : f0.toR = .slice none 0 0) (hst : f0.step = 136)
    {t : TypeId} {ev : Value} (he0 : w0.cell? ⟨0, 0, none⟩ = some (.iface t ev)) (h0b : OkS N 0) (hf0 : fb ≠ 0) (hh0 : hb ≠ 0)
    (b o n c : Nat) (hn : 0 < n) (hn2 : n ≤ 1073741824) (room0 : RoomAt w0 b o n) (hb1 : b ≠ fb) (hb2 : b ≠ hb) (hbO : OkS N b) :
    Calls Tryz.prog 250 #[.pointer (some ⟨fb, 0, none⟩), .slice (some ⟨b, o, none⟩) n c] w0 fun e w' => ∃ k, k = min n l.length ∧ e = .returned (.tuple #[.int .i64 (k : Int), if k = l.length then .iface t ev else .nilIface]) ∧ SI N D d s E c0 w' R ∧
      (∃ f' : Fv, Flt w' fb N.ub hb { f' with toR := .slice (some ⟨hb, k, none⟩) (l.length - k) (32768 - k) } ∧ f'.err = .iface t ev) ∧ BytesAt w' hb 0 l ∧ BytesAt w' b o (l.take k) ∧ (∀ j, w'.frozen? ⟨b, j, none⟩ = w0.frozen? ⟨b, j, none⟩) ∧ Keep (fun x y => Fs N x y ∨ x = fb ∨ x = hb ∨ (x = b ∧ o ≤ y ∧ y < o + k)) w0 w' := by
  have g1 := h0.c_toR
  rw [htr] at g1
  have g2 := h0.c_err
  rw [her] at g2
  have g3 := h0.c_step
  rw [hst] at g3
  go_enter Tryz.func250, Tryz.ntmps250
  go_wp2
  refine wp_loop_rounds 3 ?_
  rw [rounds_succ]
  go_wp2_with (go_at_call 136; fail)
  refine (nextStored hS h0 h1 h2 hD hl0 hl hx hy0 hy1 hwr hb0 hn0 her).mono ?_
  rintro e w1 ⟨rfl, hS1, hbw1, ⟨q1, hf1⟩, hk1⟩
  clear g1 g2 g3
  have g1 := hf1.c_toR
  simp only [htr] at g1
  have g2 := hf1.c_err
  simp only [her] at g2
  have g3 : w1.cell? ⟨fb, 1045, none⟩ = some (.func (.func 136) #[] #[]) := hf1.c_step
  have H1 := Lib.hid (And.intro hS1 (And.intro hbw1 (And.intro hf1 hk1)))
  clear hS1 hbw1 hf1 hk1 hS
  go_wp2
  rw [rounds_succ]
  go_wp2_with (go_at_call 136; fail)
  have hk1 := H1.out.2.2.2
  refine (nextLast H1.out.1 H1.out.2.2.1 h1 h2 hD0 rfl rfl her (k := l.length) rfl hrd hl0 hl (hk1.get he0 (fun e => e.elim (h0b.ok 0) fun e => e.elim (fun e => hf0 e.symm) fun e => hh0 e.symm)) h0b hf0).mono ?_
  rintro e w ⟨rfl, hS2, ⟨q2, bb2, nn2, hl2, hd2, h⟩, hk2⟩
  clear g1 g2 g3
  have hd : BytesAt w hb 0 l := H1.out.2.1.keep hk2 fun i _ e => e.elim (h2.ok _) fun e => h.ne e.symm
  have hkw : Keep (fun x y => Fs N x y ∨ x = fb ∨ x = hb) w0 w := hk1.trans (hk2.mono fun _ _ _ e => e.imp id Or.inl)
  have hnb : ∀ y, ¬ (Fs N b y ∨ b = fb ∨ b = hb) := fun y e => e.elim (hbO.ok _) fun e => e.elim hb1 hb2
  have room : RoomAt w b o n := room0.keep hkw fun j _ => hnb _
  have hfz : ∀ j, w.frozen? ⟨b, j, none⟩ = w0.frozen? ⟨b, j, none⟩ := fun j => hkw.frozen b j (room0.lt hn) (hnb _)
  have hO1 := h1
  clear hnb h1
  have h1 : w.cell? ⟨fb, 1049, none⟩ = some (.slice (some ⟨hb, 0, none⟩) l.length (32768 - 0)) := h.c_toR
  have h2 : w.cell? ⟨fb, 1048, none⟩ = some (.iface t ev) := h.c_err
  have hz := h.fz
  obtain ⟨f, hf⟩ : ∃ f : Fv, f = { f0 with roff := q2, b := bb2, nb := nn2, hl := hl2, hd := hd2, rd := (l.length : Int), toR := .slice (some ⟨hb, 0, none⟩) l.length 32768, err := .iface t ev, step := 136, fin := true, wr := (l.length : Int), cl := 0 } := ⟨_, rfl⟩
  have hff : Flt w fb N.ub hb f := by rw [hf]; exact h
  have he : f.err = .iface t ev := by rw [hf]
  have ht : f.toR = .slice (some ⟨hb, 0, none⟩) l.length (32768 - 0) := by rw [hf]
  clear h hf
  have h := hff
  have hr : 0 < l.length := hl0
  have hm : 0 + l.length < 32768 := by omega
  have HEF := Lib.hid he
  have HFZ := Lib.hid hfz
  have H2 := Lib.hid hS2
  have HKW := Lib.hid hkw
  have HD := Lib.hid hd
  clear hS2 hkw hk1 hk2 hff hfz
  obtain ⟨r, hrr⟩ : ∃ r, r = l.length := ⟨_, rfl⟩
  obtain ⟨C, hC⟩ : ∃ C, C = 32768 - 0 := ⟨_, rfl⟩
  obtain ⟨k, hk⟩ : ∃ k, k = min n r := ⟨_, rfl⟩
  obtain ⟨L, hL⟩ : ∃ L, L = l.take k := ⟨_, rfl⟩
  have hlen : L.length = k := by rw [hL, List.length_take, ← hrr, hk]; omega
  rw [← hrr] at h1 hr hm
  rw [← hC] at h1
  have hrI : decide ((0 : Int) < (r : Int)) = true := by simp; omega
  have HRR := Lib.hid hrr
  have HK := Lib.hid hk
  have HL := Lib.hid hL
  have HLEN := Lib.hid hlen
  have HC := Lib.hid hC
  clear hrr hk hC hL hlen
  go_wp2
  rw [rounds_succ]
  go_wp2_with (with_reducible refine wpList_copy_bytes rfl (.tmp 13) (.tmp 17) 23 23 rfl 5 Tryz.underlying23 (by kernel_rfl) b o n c hb 0 r C rfl rfl L ?c1 ?c2 ?c3 ?_)
  case c1 => rw [HLEN.out, HK.out]; exact Nat.min_comm n r
  case c2 => rw [HL.out]; exact hd.take k
  case c3 => exact fun j hj => room j (by rw [HLEN.out, HK.out] at hj; omega)
  rw [HLEN.out]
  intro w2 hk2 hbw hfw
  have hf2 : Flt w2 fb N.ub hb f := h.keep0 hk2 (fun _ e => hb1 e.1.symm) (fun _ e => hb2 e.1.symm)
  have h12 := hf2.c_toR
  rw [ht, ← HRR.out, ← HC.out] at h12
  have h22 := hf2.c_err
  rw [he] at h22
  have hz2 := hf2.fz
  have hkr : k ≤ r := by have := HK.out; omega
  have hCk : ¬ C = k := by have := HC.out; omega
  have hkI : (k : Int) ≤ (r : Int) := by omega
  have hkC : (k : Int) ≤ (C : Int) := by have := HC.out; omega
  have HB := Lib.hid hbw
  have HFW := Lib.hid hfw
  have HK2 := Lib.hid hk2
  have HF2 := Lib.hid hf2
  clear hk2 hbw hfw hf2 h1 h2 hz
  have hCe : C - k = 32768 - k := by have := HC.out; omega
  have HCE := Lib.hid hCe
  clear hCe
  have hset := fun (x : Value) (q : Nat) => (HF2.out.set_toR x).drewN q
  have HSET := Lib.hid hset
  clear hset
  have hkp : ∀ (x : Value) (q : Nat), Keep (fun x y => x = fb ∨ (x = b ∧ o ≤ y ∧ y < o + k)) w ((w2.setCell ⟨fb, 1049, none⟩ x).drewN q) := fun x q =>
    ((HK2.out.mono fun _ _ _ e => .inr e).trans ((keep_setCell _ _ _ _).mono fun _ _ _ e => .inl e.1)).drewN q
  have hbt : ∀ (x : Value) (q : Nat), BytesAt ((w2.setCell ⟨fb, 1049, none⟩ x).drewN q) b o L := fun x q => HB.out.keep ((keep_setCell _ _ _ _).drewN q) fun _ _ e => hb1 e.1
  have hfw : ∀ (x : Value) (q : Nat) (j : Nat), ((w2.setCell ⟨fb, 1049, none⟩ x).drewN q).frozen? ⟨b, j, none⟩ = w.frozen? ⟨b, j, none⟩ := fun x q j => by
    show (w2.setCell ⟨fb, 1049, none⟩ x).frozen? ⟨b, j, none⟩ = _
    rw [World.frozen?_setCell]; exact HFW.out j
  have HKP := Lib.hid hkp
  have HKK := Lib.hid (fun (x : Value) (q : Nat) => (hkp x q).mono (G := fun x _ => x = fb ∨ x = b) fun _ _ _ e => e.imp id fun e => e.1)
  have HALL := Lib.hid (fun (x : Value) (q : Nat) => (HKW.out.mono (fun x y _ e => e.imp id fun e => e.imp id Or.inl)).trans ((hkp x q).mono (G := fun x y => Fs N x y ∨ x = fb ∨ x = hb ∨ (x = b ∧ o ≤ y ∧ y < o + k)) fun _ _ _ e => .inr (e.imp id Or.inr)))
  have HBT := Lib.hid hbt
  have HFW2 := Lib.hid hfw
  clear hkp hbt hfw
  by_cases hkr0 : k = r
  · have HE := Lib.hid hkr0
    have hd0 : ((r : Int) - (k : Int) == 0) = true := by simp; omega
    have hrk : r - k = 0 := by omega
    have hrki : (r : Int) - (k : Int) = 0 := by omega
    clear hkr0
    go_wp2
    go_quiet (fail)
    go_wp2
    go_ret2
    refine ⟨k, by rw [← HRR.out]; exact HK.out, by rw [← HRR.out, if_pos HE.out]; rfl, SI.keep H2.out (HKK.out _ _) (fun x _ e => e.elim (fun e => e ▸ hO1) fun e => e ▸ hbO), ⟨f, ?_, HEF.out⟩, HD.out.keep (HKK.out _ _) (fun _ _ e => e.elim (fun e => h.ne e.symm) fun e => hb2 e.symm), ?_, fun j => (HFW2.out _ _ j).trans (HFZ.out j), HALL.out _ _⟩
    · have := HSET.out (.slice (some ⟨hb, k, none⟩) (r - k) (C - k)) nq
      rw [HCE.out, HRR.out] at this
      rw [← HRR.out, hrk, ← HCE.out]
      rw [← HRR.out, hrk, ← HCE.out] at this
      exact this
    · rw [← HL.out]; exact HBT.out _ _
  · have hsub : ((r : Int) - (k : Int) == 0) = false := by simp; omega
    have HE := Lib.hid hkr0
    clear hkr0
    go_wp2
    go_ret2
    refine ⟨k, by rw [← HRR.out]; exact HK.out, by rw [← HRR.out, if_neg HE.out]; rfl, SI.keep H2.out (HKK.out _ 0) (fun x _ e => e.elim (fun e => e ▸ hO1) fun e => e ▸ hbO), ⟨f, ?_, HEF.out⟩, HD.out.keep (HKK.out _ 0) (fun _ _ e => e.elim (fun e => h.ne e.symm) fun e => hb2 e.symm), ?_, fun j => (HFW2.out _ 0 j).trans (HFZ.out j), HALL.out _ 0⟩
    · have := HSET.out (.slice (some ⟨hb, k, none⟩) (r - k) (C - k)) 0
      rw [HCE.out, HRR.out] at this
      rw [← HRR.out, ← HCE.out]
      rw [← HRR.out, ← HCE.out] at this
      exact this
    · rw [← HL.out]; exact HBT.out _ 0

end Go.Proofs.YtnbbppjgamdfeaaGreatDoor
end

/- flate: NewReader. -/
section
set_option linter.unusedVariables false
set_option linter.unusedSimpArgs false
namespace Go.Proofs.YtnbbppjgamdfeaaGreatDoor
open Go Go.RowKit

/-- A decompressor's fields that its making leaves at nought. -/
structure FPre (w : World) (fb : Nat) : Prop where
  c2 : w.cell? ⟨fb, 2, none⟩ = some (.int .i64 0)
  c3 : w.cell? ⟨fb, 3, none⟩ = some (.int .u32 0)
  c4 : w.cell? ⟨fb, 4, none⟩ = some (.int .u64 0)
  c1046 : w.cell? ⟨fb, 1046, none⟩ = some (.int .i64 0)
  c1047 : w.cell? ⟨fb, 1047, none⟩ = some (.bool false)
  c1048 : w.cell? ⟨fb, 1048, none⟩ = some .nilIface
  c1049 : w.cell? ⟨fb, 1049, none⟩ = some (.slice none 0 0)
  c1050 : w.cell? ⟨fb, 1050, none⟩ = some (.pointer none)
  c1051 : w.cell? ⟨fb, 1051, none⟩ = some (.pointer none)
  c1052 : w.cell? ⟨fb, 1052, none⟩ = some (.int .i64 0)
  buf : RoomAt w fb 1041 4
  fz : ∀ j, w.frozen? ⟨fb, j, none⟩ = false
theorem FPre.lt {w : World} {fb : Nat} (h : FPre w fb) : fb < w.heap.size := World.block_lt_of_cell? w _ h.c2
theorem FPre.keep {w w' : World} {fb : Nat} {G : Nat → Nat → Prop} (h : FPre w fb) (hk : Keep G w w') (h1 : ∀ y, G fb y → y ≤ 1 ∨ (1035 ≤ y ∧ y ≤ 1040) ∨ y = 1045) (hz : ∀ j, w'.frozen? ⟨fb, j, none⟩ = false) : FPre w' fb :=
  ⟨hk.get h.c2 (fun e => by have := h1 _ e; omega), hk.get h.c3 (fun e => by have := h1 _ e; omega), hk.get h.c4 (fun e => by have := h1 _ e; omega), hk.get h.c1046 (fun e => by have := h1 _ e; omega), hk.get h.c1047 (fun e => by have := h1 _ e; omega),
   hk.get h.c1048 (fun e => by have := h1 _ e; omega), hk.get h.c1049 (fun e => by have := h1 _ e; omega), hk.get h.c1050 (fun e => by have := h1 _ e; omega), hk.get h.c1051 (fun e => by have := h1 _ e; omega), hk.get h.c1052 (fun e => by have := h1 _ e; omega),
   h.buf.keep hk fun j hj e => by have := h1 _ e; omega, hz⟩
theorem FPre.set {w : World} {fb : Nat} (h : FPre w fb) (k : Nat) (v : Value) (hk : k ≤ 1 ∨ (1035 ≤ k ∧ k ≤ 1040) ∨ k = 1045) : FPre (w.setCell ⟨fb, k, none⟩ v) fb :=
  h.keep (keep_setCell _ _ _ _) (fun y e => by have := e.2; omega) fun j => by rw [World.frozen?_setCell]; exact h.fz j
theorem FPre.far {w w' : World} {fb : Nat} {G : Nat → Nat → Prop} (h : FPre w fb) (hk : Keep G w w') (h1 : ∀ y, ¬ G fb y) : FPre w' fb :=
  h.keep hk (fun y e => (h1 y e).elim) fun j => hk.froz h.lt (h.fz j) (h1 j)

theorem z276 : Tryz.zeroCells276[0]? = some .nilIface ∧ Tryz.zeroCells276[1]? = some (.pointer none) ∧ Tryz.zeroCells276[2]? = some (.int .i64 0) ∧ Tryz.zeroCells276[3]? = some (.int .u32 0) ∧ Tryz.zeroCells276[4]? = some (.int .u64 0) ∧
    Tryz.zeroCells276[1046]? = some (.int .i64 0) ∧ Tryz.zeroCells276[1047]? = some (.bool false) ∧ Tryz.zeroCells276[1048]? = some .nilIface ∧ Tryz.zeroCells276[1049]? = some (.slice none 0 0) ∧ Tryz.zeroCells276[1050]? = some (.pointer none) ∧ Tryz.zeroCells276[1051]? = some (.pointer none) ∧ Tryz.zeroCells276[1052]? = some (.int .i64 0) ∧
    (Tryz.zeroCells276[1035]?).isSome = true ∧ (Tryz.zeroCells276[1036]?).isSome = true ∧ (Tryz.zeroCells276[1045]?).isSome = true ∧ Tryz.zeroCells276[1037]? = some (.slice none 0 0) ∧ Tryz.zeroCells276[1038]? = some (.int .i64 0) ∧ Tryz.zeroCells276[1039]? = some (.int .i64 0) ∧ Tryz.zeroCells276[1040]? = some (.bool false) := by
  refine ⟨?_, ?_, ?_, ?_, ?_, ?_, ?_, ?_, ?_, ?_, ?_, ?_, ?_, ?_, ?_, ?_, ?_, ?_, ?_⟩ <;> kernel_rfl
theorem z276b : (Tryz.zeroCells276[1041]?).isSome = true ∧ (Tryz.zeroCells276[1042]?).isSome = true ∧ (Tryz.zeroCells276[1043]?).isSome = true ∧ (Tryz.zeroCells276[1044]?).isSome = true := by
  refine ⟨?_, ?_, ?_, ?_⟩ <;> kernel_rfl

theorem FPre.new (w : World) : FPre (w.alloc (.cells Tryz.zeroCells276 276)) w.heap.size := by
  have hh := heap_alloc_new w (.cells Tryz.zeroCells276 276)
  have c : ∀ j, (w.alloc (.cells Tryz.zeroCells276 276)).cell? ⟨w.heap.size, j, none⟩ = Tryz.zeroCells276[j]? := fun j => cell_of_row _ _ _ _ _ _ hh
  have z := z276
  have f : ∀ j, (w.alloc (.cells Tryz.zeroCells276 276)).frozen? ⟨w.heap.size, j, none⟩ = false := fun j => frozen_of_row _ _ _ _ _ hh
  refine ⟨(c _).trans z.2.2.1, (c _).trans z.2.2.2.1, (c _).trans z.2.2.2.2.1, (c _).trans z.2.2.2.2.2.1, (c _).trans z.2.2.2.2.2.2.1, (c _).trans z.2.2.2.2.2.2.2.1, (c _).trans z.2.2.2.2.2.2.2.2.1, (c _).trans z.2.2.2.2.2.2.2.2.2.1, (c _).trans z.2.2.2.2.2.2.2.2.2.2.1, (c _).trans z.2.2.2.2.2.2.2.2.2.2.2.1, fun j hj => ⟨?_, f _⟩, f⟩
  rw [c]
  have zb := z276b
  match j, hj with
  | 0, _ => exact Option.isSome_iff_exists.mp zb.1
  | 1, _ => exact Option.isSome_iff_exists.mp zb.2.1
  | 2, _ => exact Option.isSome_iff_exists.mp zb.2.2.1
  | 3, _ => exact Option.isSome_iff_exists.mp zb.2.2.2

set_option maxHeartbeats 400000 in
set_option maxRecDepth 100000 in
theorem makeReader {w : World} {fb ub : Nat} (h0 : w.cell? ⟨fb, 0, none⟩ = some .nilIface) (h1 : w.cell? ⟨fb, 1, none⟩ = some (.pointer none)) (hz : ∀ j, w.frozen? ⟨fb, j, none⟩ = false) :
    Calls Tryz.prog 135 #[.pointer (some ⟨fb, 0, none⟩), .iface 252 (.pointer (some ⟨ub, 0, none⟩))] w fun e w' => e = .returned (.tuple #[]) ∧ w' = (w.setCell ⟨fb, 1, none⟩ (.pointer none)).setCell ⟨fb, 0, none⟩ (.iface 252 (.pointer (some ⟨ub, 0, none⟩))) := by
  have ha : (Instr.typeAssert (.iface 252 (.pointer (some ⟨ub, 0, none⟩))) 68 243 true).run Tryz.prog w = .ok (.tuple #[.iface 252 (.pointer (some ⟨ub, 0, none⟩)), .bool true]) w := by kernel_rfl
  go_enter Tryz.func135, Tryz.ntmps135
  go_wp2
  refine bodyPost_ret (results_none rfl _ _ _) rfl ?_
  exact ⟨rfl, rfl⟩

set_option maxHeartbeats 1000000 in
set_option maxRecDepth 100000 in
/-- dictDecoder.init with no dictionary: a new window. -/
theorem dictInit {w : World} {fb : Nat} (h0 : w.cell? ⟨fb, 1037, none⟩ = some (.slice none 0 0)) (h1 : w.cell? ⟨fb, 1038, none⟩ = some (.int .i64 0)) (h2 : w.cell? ⟨fb, 1039, none⟩ = some (.int .i64 0)) (h3 : w.cell? ⟨fb, 1040, none⟩ = some (.bool false)) (hz : ∀ j, w.frozen? ⟨fb, j, none⟩ = false) :
    Calls Tryz.prog 137 #[.pointer (some ⟨fb, 1037, none⟩), .int .i64 32768, .slice none 0 0] w fun e w' => e = .returned (.tuple #[]) ∧ ∃ hb, w.heap.size ≤ hb ∧ RoomAt w' hb 0 32768 ∧ w'.cell? ⟨fb, 1037, none⟩ = some (.slice (some ⟨hb, 0, none⟩) 32768 32768) ∧
      w'.cell? ⟨fb, 1038, none⟩ = some (.int .i64 0) ∧ w'.cell? ⟨fb, 1039, none⟩ = some (.int .i64 0) ∧ w'.cell? ⟨fb, 1040, none⟩ = some (.bool false) ∧ (∀ j, w'.frozen? ⟨fb, j, none⟩ = false) ∧ Keep (fun x y => x = fb ∧ 1037 ≤ y ∧ y ≤ 1040) w w' := by
  go_enter Tryz.func137, Tryz.ntmps137
  go_wp2
  obtain ⟨w1, hw1⟩ : ∃ w1, w1 = ((((w.setCell ⟨fb, 1037, none⟩ (.slice none 0 0)).setCell ⟨fb, 1038, none⟩ (.int .i64 0)).setCell ⟨fb, 1039, none⟩ (.int .i64 0)).setCell ⟨fb, 1040, none⟩ (.bool false)) := ⟨_, rfl⟩
  rw [← hw1]
  have e0 : w1.cell? ⟨fb, 1037, none⟩ = some (.slice none 0 0) := by rw [hw1]; go_simp
  have e1 : w1.cell? ⟨fb, 1038, none⟩ = some (.int .i64 0) := by rw [hw1]; go_simp
  have e2 : w1.cell? ⟨fb, 1039, none⟩ = some (.int .i64 0) := by rw [hw1]; go_simp
  have e3 : w1.cell? ⟨fb, 1040, none⟩ = some (.bool false) := by rw [hw1]; go_simp
  have ez : ∀ j, w1.frozen? ⟨fb, j, none⟩ = false := fun j => by rw [hw1]; simp [hz j]
  have hk1 : Keep (fun x y => x = fb ∧ 1037 ≤ y ∧ y ≤ 1040) w w1 := by
    rw [hw1]
    exact ((((Keep.refl (fun x y => x = fb ∧ 1037 ≤ y ∧ y ≤ 1040) w).setCell _ fun _ => ⟨rfl, by omega, by omega⟩).setCell _ fun _ => ⟨rfl, by omega, by omega⟩).setCell _ fun _ => ⟨rfl, by omega, by omega⟩).setCell _ fun _ => ⟨rfl, by omega, by omega⟩
  clear hw1 h0 h1 h2 h3 hz
  obtain ⟨cs, hm, hs, h0⟩ := makeBytes w1 .i64 .i64 32768 (by omega)
  have hfx := makeBytes_facts (w := w1) hs h0
  have HFX := Lib.hid hfx
  rw [show ((32768 : Nat) : Int) = 32768 from rfl] at hm
  have hlt := World.block_lt_of_cell? w1 _ e0
  have hk2 : Keep Nil2 w1 (w1.alloc (.cells cs 5)) := (Keep.refl Nil2 w1).alloc _
  have d0 := hk2.get e0 (fun e => e)
  have d1 := hk2.get e1 (fun e => e)
  have d2 := hk2.get e2 (fun e => e)
  have d3 := hk2.get e3 (fun e => e)
  have dz : ∀ j, (w1.alloc (.cells cs 5)).frozen? ⟨fb, j, none⟩ = false := fun j => hk2.froz hlt (ez j) (fun e => e)
  clear hfx hs h0 e0 e1 e2 e3 ez
  rw [hm]
  clear hm
  obtain ⟨w2, hw2⟩ : ∃ w2, w2 = w1.alloc (.cells cs 5) := ⟨_, rfl⟩
  obtain ⟨hb, hhb⟩ : ∃ hb, hb = w1.heap.size := ⟨_, rfl⟩
  rw [← hw2] at HFX hk2 d0 d1 d2 d3 dz ⊢
  rw [← hhb] at hlt HFX ⊢
  have hfh : ¬ fb = hb := by simp at hlt; omega
  have HW := Lib.hid hhb
  have hcp : ∀ w' : World, (Builtin.copy_ #[23, 23] 3 #[.slice (some ⟨hb, 0, none⟩) 32768 32768, .slice none 0 0]).run Tryz.prog w' = .ok (.int .i64 0) w' := fun w' => run_copy_none (P := Tryz.prog) w' 23 23 3 5 _ _ _ _ _ _ Tryz.underlying23 (by kernel_rfl) rfl
  clear hw2 hhb
  go_wp2
  go_quiet (fail)
  go_wp2
  go_end0
  have hk3 : ∀ q, Keep (fun x y => x = fb ∧ 1037 ≤ y ∧ y ≤ 1040) w2 (((((w2.setCell ⟨fb, 1037, none⟩ (.slice (some ⟨hb, 0, none⟩) 32768 32768)).setCell ⟨fb, 1037, none⟩ (.slice (some ⟨hb, 0, none⟩) 32768 32768)).setCell ⟨fb, 1038, none⟩ (.int .i64 0)).drewN q).setCell ⟨fb, 1039, none⟩ (.int .i64 0)) := fun q =>
    ((((((Keep.refl (fun x y => x = fb ∧ 1037 ≤ y ∧ y ≤ 1040) w2).setCell _ fun _ => ⟨rfl, by omega, by omega⟩).setCell _ fun _ => ⟨rfl, by omega, by omega⟩).setCell _ fun _ => ⟨rfl, by omega, by omega⟩)).drewN q).setCell _ fun _ => ⟨rfl, by omega, by omega⟩
  refine ⟨rfl, hb, by have := HW.out; have := hk1.size; omega, HFX.out.2.1.keep (hk3 _) fun _ _ e => hfh e.1.symm, ?_, ?_, ?_, ?_, fun j => ?_, (hk1.trans (hk2.mono fun _ _ _ e => e.elim)).trans (hk3 _)⟩
  · go_simp
  · go_simp
  · go_simp
  · go_simp
  · rw [World.frozen?_setCell]
    show (((w2.setCell _ _).setCell _ _).setCell _ _).frozen? _ = false
    simp [dz j]

def fv0 : Fv := { roff := 0, b := 0, nb := 0, wr := 0, rd := 0, step := 136, fin := false, err := .nilIface, toR := .slice none 0 0, hl := .pointer none, hd := .pointer none, cl := 0 }

set_option maxHeartbeats 1000000 in
set_option maxRecDepth 100000 in
/-- flate.NewReader over the buffered reader. -/
theorem fltNew (w : World) (ub : Nat) :
    Calls Tryz.prog 129 #[.iface 252 (.pointer (some ⟨ub, 0, none⟩))] w fun e w' => ∃ fb hb, e = .returned (.iface 280 (.pointer (some ⟨fb, 0, none⟩))) ∧ w.heap.size ≤ fb ∧ w.heap.size ≤ hb ∧ Flt w' fb ub hb fv0 ∧ Keep Nil2 w w' := by
  have hh := heap_alloc_new w (.cells Tryz.zeroCells276 276)
  have c : ∀ j, (w.alloc (.cells Tryz.zeroCells276 276)).cell? ⟨w.heap.size, j, none⟩ = Tryz.zeroCells276[j]? := fun j => cell_of_row _ _ _ _ _ _ hh
  have z := z276
  have a0 := (c 0).trans z.1
  have a1 := (c 1).trans z.2.1
  have s1035 := z.2.2.2.2.2.2.2.2.2.2.2.2.1
  have s1036 := z.2.2.2.2.2.2.2.2.2.2.2.2.2.1
  have s1045 := z.2.2.2.2.2.2.2.2.2.2.2.2.2.2.1
  rw [← c] at s1035 s1036 s1045
  have a1037 := (c 1037).trans z.2.2.2.2.2.2.2.2.2.2.2.2.2.2.2.1
  have a1038 := (c 1038).trans z.2.2.2.2.2.2.2.2.2.2.2.2.2.2.2.2.1
  have a1039 := (c 1039).trans z.2.2.2.2.2.2.2.2.2.2.2.2.2.2.2.2.2.1
  have a1040 := (c 1040).trans z.2.2.2.2.2.2.2.2.2.2.2.2.2.2.2.2.2.2
  have pre := FPre.new w
  have k0 : Keep Nil2 w (w.alloc (.cells Tryz.zeroCells276 276)) := (Keep.refl Nil2 w).alloc _
  have hsz : (w.alloc (.cells Tryz.zeroCells276 276)).heap.size = w.heap.size + 1 := by simp
  clear hh c z
  go_enter Tryz.func129, Tryz.ntmps129
  go_wp2_with (go_at_call 135; fail)
  obtain ⟨w1, hw1⟩ : ∃ w1, w1 = w.alloc (.cells Tryz.zeroCells276 276) := ⟨_, rfl⟩
  obtain ⟨fb, hfb⟩ : ∃ fb, fb = w.heap.size := ⟨_, rfl⟩
  rw [← hw1] at a0 a1 s1035 s1036 s1045 a1037 a1038 a1039 a1040 pre k0 hsz ⊢
  rw [← hfb] at a0 a1 s1035 s1036 s1045 a1037 a1038 a1039 a1040 pre hsz ⊢
  have HW := Lib.hid hfb
  clear hw1 hfb
  obtain ⟨v35, hv35⟩ := Option.isSome_iff_exists.mp s1035
  obtain ⟨v36, hv36⟩ := Option.isSome_iff_exists.mp s1036
  obtain ⟨v45, hv45⟩ := Option.isSome_iff_exists.mp s1045
  refine (makeReader a0 a1 pre.fz).mono ?_
  rintro e w2 ⟨rfl, hw2⟩
  have pre2 := (pre.set 1 (.pointer none) (by omega)).set 0 (.iface 252 (.pointer (some ⟨ub, 0, none⟩))) (by omega)
  have k2 : Keep (fun x y => x = fb ∧ y ≤ 1) w1 w2 := by rw [hw2]; exact ((Keep.refl (fun x y => x = fb ∧ y ≤ 1) w1).setCell _ fun _ => ⟨rfl, by omega⟩).setCell _ fun _ => ⟨rfl, by omega⟩
  have r0 : w2.cell? ⟨fb, 0, none⟩ = some (.iface 252 (.pointer (some ⟨ub, 0, none⟩))) := by rw [hw2]; exact World.cell?_setCell_same _ _ _ (setF a0 (by decide))
  have r1 : w2.cell? ⟨fb, 1, none⟩ = some (.pointer none) := by rw [hw2]; exact setF (World.cell?_setCell_same _ _ _ a1) (by decide)
  rw [← hw2] at pre2
  have q35 := k2.get hv35 (by omega)
  have q36 := k2.get hv36 (by omega)
  have q45 := k2.get hv45 (by omega)
  have q1037 := k2.get a1037 (by omega)
  have q1038 := k2.get a1038 (by omega)
  have q1039 := k2.get a1039 (by omega)
  have q1040 := k2.get a1040 (by omega)
  have K2 := Lib.hid (k0.then k2 (fun _ _ _ e => e) fun x _ hx e => absurd e.1 (by have := HW.out; omega))
  have hz2 := pre2.fz
  have hlt := pre2.lt
  clear hw2 a0 a1 s1035 s1036 s1045 hv35 hv36 hv45 a1037 a1038 a1039 a1040 pre k0 k2 hsz
  go_wp2_with (go_at_call 137; fail)
  obtain ⟨w3, hw3⟩ : ∃ w3, w3 = ((((w2.setCell ⟨fb, 1035, none⟩ (.pointer (some ⟨w2.heap.size, 0, none⟩))).setCell ⟨fb, 1036, none⟩ (.pointer (some ⟨w2.heap.size + 1, 0, none⟩))).setCell ⟨fb, 1045, none⟩ (.func (.func 136) #[] #[])).alloc (.cells Tryz.zeroCells278 278)).alloc (.cells #[.int .i64 0, .int .i64 0, .int .i64 0, .int .i64 0, .int .i64 0, .int .i64 0, .int .i64 0, .int .i64 0, .int .i64 0, .int .i64 0, .int .i64 0, .int .i64 0, .int .i64 0, .int .i64 0, .int .i64 0, .int .i64 0, .int .i64 0, .int .i64 0, .int .i64 0] 279) := ⟨_, rfl⟩
  rw [← hw3]
  have k3a : Keep (fun x y => x = fb ∧ (y = 1035 ∨ y = 1036 ∨ y = 1045)) w2 (((w2.setCell ⟨fb, 1035, none⟩ (.pointer (some ⟨w2.heap.size, 0, none⟩))).setCell ⟨fb, 1036, none⟩ (.pointer (some ⟨w2.heap.size + 1, 0, none⟩))).setCell ⟨fb, 1045, none⟩ (.func (.func 136) #[] #[])) :=
    (((Keep.refl (fun x y => x = fb ∧ (y = 1035 ∨ y = 1036 ∨ y = 1045)) w2).setCell _ fun _ => ⟨rfl, by omega⟩).setCell _ fun _ => ⟨rfl, by omega⟩).setCell _ fun _ => ⟨rfl, by omega⟩
  have k3b : Keep Nil2 (((w2.setCell ⟨fb, 1035, none⟩ (.pointer (some ⟨w2.heap.size, 0, none⟩))).setCell ⟨fb, 1036, none⟩ (.pointer (some ⟨w2.heap.size + 1, 0, none⟩))).setCell ⟨fb, 1045, none⟩ (.func (.func 136) #[] #[])) w3 := by
    rw [hw3]; exact ((Keep.refl Nil2 _).alloc _).alloc _
  have k3 := k3a.trans (k3b.mono fun _ _ _ e => e.elim)
  have t45 : w3.cell? ⟨fb, 1045, none⟩ = some (.func (.func 136) #[] #[]) := k3b.get (World.cell?_setCell_same _ _ _ (setF (setF q45 (by decide)) (by decide))) (fun e => e)
  have pre3 : FPre w3 fb := (((pre2.set 1035 (.pointer (some ⟨w2.heap.size, 0, none⟩)) (by omega)).set 1036 (.pointer (some ⟨w2.heap.size + 1, 0, none⟩)) (by omega)).set 1045 (.func (.func 136) #[] #[]) (by omega)).far k3b (fun _ e => e)
  have p0 := k3.get r0 (by omega)
  have p1 := k3.get r1 (by omega)
  refine (dictInit (k3.get q1037 (by omega)) (k3.get q1038 (by omega)) (k3.get q1039 (by omega)) (k3.get q1040 (by omega)) pre3.fz).mono ?_
  rintro e w4 ⟨rfl, hb, hhb, hroom, d1, d2, d3, d4, d5, k4⟩
  have hlt3 := pre3.lt
  have hsz3 := k3.size
  clear hw3 k3a k3b
  go_wp2
  go_ret
  have pre4 := pre3.keep k4 (fun y e => by have := e.2; omega) d5
  refine ⟨fb, hb, rfl, by have := HW.out; omega, by have := K2.out.size; omega, ?_, ?_⟩
  · exact { x_r := k4.get p0 (by omega), x_rBuf := k4.get p1 (by omega), x_hist := d1, x_full := d4, x_sst := pre4.c1046, c_roff := pre4.c2, c_b := pre4.c3, c_nb := pre4.c4, c_wr := d2, c_rd := d3, c_step := k4.get t45 (by omega), c_fin := pre4.c1047, c_err := pre4.c1048, c_toR := pre4.c1049, c_hl := pre4.c1050, c_hd := pre4.c1051, c_cl := pre4.c1052, buf := pre4.buf, room := hroom, fz := d5, ne := by omega }
  · exact (K2.out.then k3 (fun _ _ _ e => e) fun x _ hx e => absurd e.1 (by have := HW.out; omega)).then k4 (fun _ _ _ e => e) fun x _ hx e => absurd e.1 (by have := HW.out; omega)
end Go.Proofs.YtnbbppjgamdfeaaGreatDoor
end
