/- laws.FnBack, part 29 of 54: G7 G8. -/
import Derived.Test.YtnbbppjgamdfeaaGreatDoorY26
import Derived.Test.YtnbbppjgamdfeaaGreatDoorY10
import Derived.Defers
import Derived.Test.YtnbbppjgamdfeaaGreatDoorY28
import Derived.Test.YtnbbppjgamdfeaaGreatDoorY27

/- The decoder of package png: decode. -/
section
set_option linter.unusedVariables false
set_option linter.unusedSimpArgs false
namespace Go.Proofs.YtnbbppjgamdfeaaGreatDoor
open Go Go.RowKit

theorem ZI.done {N : Nums} {D : List UInt8} {d : Dv} {s E c0 : Nat} {z : ZN} {l : List UInt8} {w : World} (h : ZI N D d s E c0 z l w []) (hl : 0 < l.length) : ZDone N D d s E c0 z w := by
  rcases h with ⟨e, _⟩ | ⟨m, hm, e, _⟩ | ⟨_, a⟩
  · rw [← e] at hl; simp at hl
  · have := congrArg List.length e
    simp at this
    omega
  · exact a
/-- The stream is read to its end. -/
theorem ZDone.png {N : Nums} {D : List UInt8} {d : Dv} {s E c0 : Nat} {z : ZN} {w : World} (h : ZDone N D d s E c0 z w) : Png w N.bd N.rb N.cb N.db N.cap D { d with idat := 0 } E (crcRun c0 ((D.drop s).take (E - s))) := by
  obtain ⟨i, r, v, U, hS⟩ := h.si
  have h1 := hS.rest
  have h2 := congrArg List.length h1
  have h3 := hS.iE
  have h4 := hS.ED
  simp at h2
  have e : i = E := by omega
  subst e
  have := hS.png
  simpa using this

theorem ZDone.keep0 {N : Nums} {D : List UInt8} {d : Dv} {s E c0 : Nat} {z : ZN} {w w' : World} (h : ZDone N D d s E c0 z w) (hk : Keep Nil2 w w') : ZDone N D d s E c0 z w' := by
  obtain ⟨mm, hmm⟩ := h.fl
  exact ⟨h.si.keep hk fun _ _ e => e.elim, ⟨mm, hmm.keep hk (fun _ e => e) (fun _ e => e)⟩, h.zl.keep0 hk (fun _ e => e), hk.get h.eof fun e => e⟩

set_option maxHeartbeats 400000 in
theorem zlibClose_deferred {N : Nums} {D : List UInt8} {d : Dv} {s E c0 : Nat} {z : ZN} {w : World} (u : FrameMode) (h : ZDone N D d s E c0 z w) :
    CallsD Tryz.prog 239 #[.pointer (some ⟨z.zb, 0, none⟩)] u w fun e u' w' => u' = u ∧ (e = .returned .nilIface ∧ Keep (fun x _ => x = z.zb) w w') := by
  have h3 := h.zl.z3
  have h1 := h.zl.z1
  have hz := h.zl.fz
  have he := h.eof
  unfold eofV at h3 he
  have hq := eofNeqEof z.eb
  obtain ⟨m, hF⟩ := h.fl
  go_enter_d Tryz.func239, Tryz.ntmps239
  go_wp2
  go_region
  go_wp2_with (go_at_call 249; fail)
  have hd : Keep Nil2 w w.drew := (Keep.refl Nil2 w).drew
  refine (fltClose (hF.keep hd (fun _ e => e) (fun _ e => e)) (hd.get h.eof fun e => e)).mono ?_
  rintro e w1 ⟨rfl, hk1⟩
  have k1 := hd.trans hk1
  have g3 := k1.get h3 (fun e => e)
  have gz : ∀ j, w1.frozen? ⟨z.zb, j, none⟩ = false := fun j => k1.froz h.zl.lt (hz j) (fun e => e)
  clear hk1 h3 h1 hz he
  go_wp2
  go_ret
  exact ⟨rfl, (k1.mono fun _ _ _ e => e.elim).trans ((keep_setCell _ _ _ _).mono fun _ _ _ e => e.1)⟩

set_option maxHeartbeats 8000000 in
set_option maxRecDepth 100000 in
theorem pngDecodeData {w : World} {bd rb cb db cap : Nat} {D : List UInt8} {d : Dv} {s E c0 : Nat} {R : List UInt8} {eb wd ht depth colour count : Nat} (hp : Png w bd rb cb db cap D { d with idat := E - s } s c0) (hD : D.length ≤ 1073741824) (hD0 : 0 < D.length) (hsE : s ≤ E) (hED : E ≤ D.length)
    (hR : (D.drop s).take (E - s) = keptB R) (ok : RowsOk wd ht depth colour count R) (hdw : d.width = (wd : Int)) (hdh : d.height = (ht : Int)) (hcb : d.cb = (kCb colour depth : Int)) (hdep : d.depth = (depth : Int)) (hlc : d.lace = 0) (hut : d.useT = false)
    (palv : Value) (hpal : colour = 3 → d.pal = palv ∧ ∃ plb pc, palv = .slice (some ⟨plb, 0, none⟩) count pc ∧ count < 256) (heof : w.cell? ⟨0, 0, none⟩ = some (eofV eb)) (h0 : ¬ Fp bd rb cb 0 0 ∧ 0 ≠ db) :
    Calls Tryz.prog 80 #[.pointer (some ⟨bd, 0, none⟩)] w fun e w' => ∃ iv, e = .returned (.tuple #[iv, .nilIface]) ∧ Pict w' w.heap.size iv R wd ht depth colour palv ∧
      Png w' bd rb cb db cap D { d with idat := 0 } E (crcRun c0 (keptB R)) ∧ Keep (Fp bd rb cb) w w' := by
  have hRl := ok.len_le
  have HPAL := Lib.hid hpal
  have HW := Lib.hid (And.intro hdw (And.intro hdh (And.intro hcb (And.intro hdep (And.intro hlc hut)))))
  have HR := Lib.hid hR
  clear hpal hdw hdh hcb hdep hlc hut hR
  go_enter_defers Tryz.func80, Tryz.ntmps80
  go_wp2_with (go_at_call 92; fail)
  refine (zlibNew hp hD hD0 hsE hED HR.out (by omega) heof h0).mono ?_
  rintro e w1 ⟨z, ub, kb, rfl, hz1, hF, hok, hb1, hb2, hb3, hb4, hb5, hb6, hk1⟩
  have hr := ripRdZ hF hD hD0 hok (by omega) (by omega)
  have hnA := hr.rd.nilA
  obtain ⟨q, hdec⟩ := hr.dec w1 R (.inl ⟨rfl, hF⟩)
  have fl := hdec.fl
  simp only [HW.out.2.2.2.2.1] at fl
  have HA := Lib.hid (ripAny hr ok HW.out.1 HW.out.2.1 HW.out.2.2.1 HW.out.2.2.2.1 HW.out.2.2.2.2.1 HW.out.2.2.2.2.2 palv HPAL.out (.inl ⟨rfl, hF⟩))
  have HK1 := Lib.hid (And.intro hk1 (And.intro hb1 (And.intro hb2 (And.intro hb3 (And.intro hb4 (And.intro hb5 hb6))))))
  have hsz1 := hk1.size
  have hzb1 : z.zb < w1.heap.size := hF.zl.lt
  have HOK := Lib.hid hok
  have hz1' : z.eb = eb := hz1
  have HEB := Lib.hid hz1'
  clear hr hdec hk1 hF hp hok hz1 hz1' hb1 hb2 hb3 hb4 hb5 hb6
  go_wp2_with (go_at_call 93; fail)
  refine HA.out.mono ?_
  rintro e w2 ⟨iv, rfl, hPict, hZ2, hk2⟩
  have hdone := hZ2.done (by omega)
  have hpng := hdone.png
  have f9 := hpng.dec.f9
  have fl2 := hpng.dec.fl
  simp only [HW.out.2.2.2.2.1] at fl2
  have he := hdone.eof
  have hq1 := eofNeqEof z.eb
  have hq2 : ∀ w, (binOp .eql 72 (.iface 306 (.pointer (some (eofA z.eb)))) .nilIface).run Tryz.prog w = .ok (.bool false) w := fun w => by kernel_rfl
  have hq3 : ∀ w, (binOp .neq 72 (.iface 306 (.pointer (some (eofA z.eb)))) .nilIface).run Tryz.prog w = .ok (.bool true) w := fun w => by kernel_rfl
  have HD := Lib.hid (And.intro hPict (And.intro hdone (And.intro hpng hk2)))
  unfold eofV at he
  clear hPict hZ2 hdone hpng hk2 fl
  go_wp2
  have hmf : ∀ (first cap : Array Value) (w : World), (Instr.makeFunc (Fn.method "Read") first cap).run Tryz.prog w = .ok (.func (Fn.method "Read") first cap) w := fun _ _ _ => rfl
  refine wp_loop_rounds 2 ?_
  rw [rounds_succ]
  have HZE := Lib.hid (fun V (hs : Keep Nil2 w2 V) (v : Value) => (zlibEnd (HD.out.2.1.keep0 hs) v).mono (fun e w' (h : e = .returned (.tuple #[.int .i64 0, eofV z.eb]) ∧ Keep Nil2 V w') => And.intro h.1 (show Keep Nil2 w2 w' from hs.trans h.2)))
  go_wp2
  go_region_held3 (fun w' => Keep Nil2 w2 w')
    (first | assumption | exact (Keep.refl Nil2 w2) | exact (Keep.refl Nil2 w2).drew | exact ((Keep.refl Nil2 w2).drew).drew)
    (first | (go_at_call 240; refine (HZE.out _ (by assumption) _).mono ?_; rintro e w3 ⟨rfl, hsR⟩))
  unfold eofV
  have hk23 : Keep Nil2 w2 w3 := hsR
  have hdone3 := HD.out.2.1.keep0 hk23
  have hpng3 := hdone3.png
  have g9 := hpng3.dec.f9
  have ge := hdone3.eof
  unfold eofV at ge
  have H3 := Lib.hid (And.intro hdone3 (And.intro hpng3 hk23))
  clear f9 fl2 he hk23 hdone3 hpng3
  go_wp2
  rw [rounds_succ]
  go_wp2
  refine leaves_cons (f := 239) (args := #[.pointer (some ⟨z.zb, 0, none⟩)]) (by simp) ?inv ?_
  case inv => kernel_rfl
  refine (zlibClose_deferred .returning H3.out.1).mono ?_
  rintro e u' w4 ⟨rfl, rfl, hk4⟩
  have ho := HOK.out.o1
  have hpic : Pict w4 w1.heap.size iv R wd ht depth colour palv := (HD.out.1.keep H3.out.2.2 fun _ _ _ e => e).keep hk4 fun x _ hx e => by omega
  have hpn := H3.out.2.1.keep0 hk4 (fun _ e => ho.1.1 (.inl e.symm)) (fun _ e => ho.1.1 (.inr (.inl e.symm))) (fun _ e => ho.1.1 (.inr (.inr e.symm))) (fun _ e => ho.1.2.1 e.symm) (fun _ e => ho.1.2.2 e.symm)
  rw [HR.out] at hpn
  have hK := HK1.out
  have hk2 : Keep (Fp bd rb cb) w w2 := hK.1.then HD.out.2.2.2 (fun _ _ _ e => e) fun x y hx e => by
    rcases e with (e | e | e | e | e) | e | e | e | e
    · exact .inl e
    · exact .inr (.inl e)
    · exact .inr (.inr e)
    · simp only at e; omega
    · simp only at e; omega
    · omega
    · omega
    · omega
    · omega
  have hkk := (hk2.trans (H3.out.2.2.mono fun _ _ _ e => e.elim)).then hk4 (fun _ _ _ e => e) fun x y hx e => by omega
  exact ⟨_, results_tmp2 rfl _ _ _, iv, rfl, hpic.lower hsz1, hpn, hkk⟩
end Go.Proofs.YtnbbppjgamdfeaaGreatDoor
end

/- The decoder of package png: parseIDAT; the head of parseChunk. -/
section
set_option linter.unusedVariables false
set_option linter.unusedSimpArgs false
namespace Go.Proofs.YtnbbppjgamdfeaaGreatDoor
open Go Go.RowKit

set_option maxHeartbeats 4000000 in
set_option maxRecDepth 100000 in
theorem parseIDAT {w : World} {bd rb cb db cap : Nat} {D : List UInt8} {d : Dv} {s L c0 : Nat} {R : List UInt8} {eb wd ht depth colour count : Nat} (hp : Png w bd rb cb db cap D d s c0) (hD : D.length ≤ 1073741824) (hED : s + L + 4 ≤ D.length)
    (hR : (D.drop s).take L = keptB R) (ok : RowsOk wd ht depth colour count R) (hdw : d.width = (wd : Int)) (hdh : d.height = (ht : Int)) (hcb : d.cb = (kCb colour depth : Int)) (hdep : d.depth = (depth : Int)) (hlc : d.lace = 0) (hut : d.useT = false)
    (palv : Value) (hpal : colour = 3 → d.pal = palv ∧ ∃ plb pc, palv = .slice (some ⟨plb, 0, none⟩) count pc ∧ count < 256) (heof : w.cell? ⟨0, 0, none⟩ = some (eofV eb)) (h0 : ¬ Fp bd rb cb 0 0 ∧ 0 ≠ db)
    {x0 x1 x2 x3 : UInt8} (hx : (D.drop (s + L)).take 4 = [x0, x1, x2, x3]) (hs : be4 x0 x1 x2 x3 = 4294967295 - crcRun c0 (keptB R)) :
    Calls Tryz.prog 62 #[.pointer (some ⟨bd, 0, none⟩), .int .u32 (L : Int)] w fun e w' => e = .returned .nilIface ∧ ∃ iv, Pict w' w.heap.size iv R wd ht depth colour palv ∧
      Png w' bd rb cb db cap D { d with idat := 0, img := iv } (s + L + 4) (crcRun c0 (keptB R)) ∧ Keep (Fp bd rb cb) w w' := by
  have f9 := hp.dec.f9
  have fz := hp.dec.fz
  have h1 : Png (w.setCell ⟨bd, 9, none⟩ (.int .u32 (L : Int))) bd rb cb db cap D { d with idat := s + L - s } s c0 := by
    have := hp.set (hp.dec.set9 L)
    rw [show s + L - s = L by omega]
    exact this
  have hk1 : Keep (Fp bd rb cb) w (w.setCell ⟨bd, 9, none⟩ (.int .u32 (L : Int))) := (Keep.refl _ w).setCell (o := 9) _ fun _ => .inl rfl
  have hd := pngDecodeData h1 hD (by omega) (by omega) (by omega) (by rw [show s + L - s = L by omega]; exact hR) ok hdw hdh hcb hdep hlc hut palv hpal (hk1.get heof h0.1) h0
  have HD := Lib.hid hd
  have HK1 := Lib.hid hk1
  clear hd h1 hk1 hdw hdh hcb hdep hlc hut hpal hR
  go_enter Tryz.func62, Tryz.ntmps62
  go_wp2_with (go_at_call 80; fail)
  refine HD.out.mono ?_
  rintro e w2 ⟨iv, rfl, hP, hg, hk2⟩
  have hP' := hP
  obtain ⟨ib, pb, rfl, _⟩ := hP'
  obtain ⟨tv, htv⟩ : ∃ tv, tv = kIf colour depth := ⟨_, rfl⟩
  rw [← htv] at hP ⊢
  clear htv
  have f1 := hg.dec.f1
  have fz2 := hg.dec.fz
  have h3 := hg.set (hg.dec.set1 (.iface tv (.pointer (some ⟨ib, 0, none⟩))))
  have hsz := hP
  have hbl := World.block_lt_of_cell? w _ f9
  have H2 := Lib.hid (And.intro (hP.keep (keep_setCell w2 bd 1 (.iface tv (.pointer (some ⟨ib, 0, none⟩)))) fun x y hx e => by have e1 := e.1; have : bd < w.heap.size := hbl; simp at hx; omega) (And.intro h3 ((HK1.out.trans hk2).setCell (o := 1) (.iface tv (.pointer (some ⟨ib, 0, none⟩))) fun _ => .inl rfl)))
  clear hP hg hk2 h3 hsz
  go_wp2_with (go_at_call 64; fail)
  refine (verifyChecksum H2.out.2.1 (by omega) hx hs).mono ?_
  rintro e w3 ⟨rfl, h4, hk4⟩
  have H4 := Lib.hid (And.intro (H2.out.1.keep hk4 fun x y hx e => by
    have hb1 : bd < w.heap.size := hbl
    have hb2 : rb < w.heap.size := World.block_lt_of_cell? w _ hp.br.cs
    have hb3 : cb < w.heap.size := World.block_lt_of_cell? w _ hp.crc.cell
    simp at hx
    rcases e with e | e | e <;> omega) (And.intro h4 (H2.out.2.2.trans hk4)))
  clear h4 hk4
  go_wp2
  go_ret
  refine ⟨rfl, _, ?_, H4.out.2.1, H4.out.2.2⟩
  have := H4.out.1
  simpa using this
end Go.Proofs.YtnbbppjgamdfeaaGreatDoor
end
