/- laws.FnBack, part 27 of 54: G2 G3 G4. -/
import Derived.Test.YtnbbppjgamdfeaaGreatDoorY01
import Derived.Laws.IdiomStrings
import Derived.Laws.BytesArg
import Derived.Test.YtnbbppjgamdfeaaGreatDoorY02
import Derived.Test.YtnbbppjgamdfeaaGreatDoorY05

/- Strings of bytes in memory. -/
section
set_option linter.unusedVariables false
set_option linter.unusedSimpArgs false
namespace Go.Proofs.YtnbbppjgamdfeaaGreatDoor
open Go Go.RowKit

/-- The string of bytes. -/
def strB (l : List UInt8) : ByteArray := ⟨l.toArray⟩
theorem strOf {w : World} {b o n c : Nat} {l : List UInt8} (dst : TypeId) (hd : Tryz.prog.underlying dst = some .string) (hb : BytesAt w b o l) (hn : n = l.length) :
    (convert 23 dst (.slice (some ⟨b, o, none⟩) n c)).run Tryz.prog w = .ok (.string (strB l)) w := by
  subst hn
  exact run_convert_bytes_back w 23 dst 5 ⟨b, o, none⟩ c l Tryz.underlying23 Tryz.underlying5 hd fun j hj => by rw [addr_add]; exact hb j hj
end Go.Proofs.YtnbbppjgamdfeaaGreatDoor
end

/- The decoder of package png: checkHeader, parseIEND, parseIHDR. -/
section
set_option linter.unusedVariables false
set_option linter.unusedSimpArgs false
namespace Go.Proofs.YtnbbppjgamdfeaaGreatDoor
open Go Go.RowKit

set_option maxHeartbeats 1000000 in
set_option maxRecDepth 100000 in
theorem checkHeader {w : World} {bd rb cb db cap : Nat} {D : List UInt8} {d : Dv} {c : Nat} (h : Png w bd rb cb db cap D d 0 c) (hn : 8 ≤ D.length) (hx : D.take 8 = sigB) :
    Calls Tryz.prog 40 #[.pointer (some ⟨bd, 0, none⟩)] w fun e w' => e = .returned .nilIface ∧ Png w' bd rb cb db cap D d 8 c ∧ Keep (Fp bd rb cb) w w' := by
  have hc0 := h.dec.f0
  go_enter Tryz.func40, Tryz.ntmps40
  go_wp2
  go_region_with (refine (readTmp (h.drewN 1) 8 768 (by omega) (by omega) (by omega)).mono ?_; rintro e w1 ⟨rfl, h1, hb1, hk1⟩)
  rw [List.drop_zero, hx] at hb1
  have hst := strOf 9 Tryz.underlying9 (c := 768) hb1 (n := 8) rfl
  have hse : strB sigB = { data := #[137, 80, 78, 71, 13, 10, 26, 10] } := rfl
  rw [hse] at hst
  go_wp2
  go_ret
  exact ⟨rfl, h1, (Keep.refl _ _).drew.trans hk1⟩

set_option maxHeartbeats 1000000 in
set_option maxRecDepth 100000 in
theorem parseIEND {w : World} {bd rb cb db cap : Nat} {D : List UInt8} {d : Dv} {i c : Nat} (h : Png w bd rb cb db cap D d i c) {x0 x1 x2 x3 : UInt8} (hn : i + 4 ≤ D.length)
    (hx : (D.drop i).take 4 = [x0, x1, x2, x3]) (hs : be4 x0 x1 x2 x3 = 4294967295 - c) :
    Calls Tryz.prog 63 #[.pointer (some ⟨bd, 0, none⟩), .int .u32 0] w fun e w' => e = .returned .nilIface ∧ Png w' bd rb cb db cap D d (i + 4) c ∧ Keep (Fp bd rb cb) w w' := by
  go_enter Tryz.func63, Tryz.ntmps63
  go_wp2_with (go_at_call 64; fail)
  refine (verifyChecksum h hn hx hs).mono ?_
  rintro e w1 ⟨rfl, h1, hk1⟩
  go_wp2
  go_ret
  exact ⟨rfl, h1, hk1⟩
end Go.Proofs.YtnbbppjgamdfeaaGreatDoor
end

/- The decoder of package png: parseIHDR. -/
section
set_option linter.unusedVariables false
set_option linter.unusedSimpArgs false
namespace Go.Proofs.YtnbbppjgamdfeaaGreatDoor
open Go Go.RowKit

/-- The number of a kind of pixels in package png. -/
def kCb' (colour depth : Nat) : Nat := if colour = 0 then (if depth = 8 then 4 else 12) else if colour = 2 then (if depth = 8 then 6 else 14) else if colour = 3 then (if depth = 1 then 7 else if depth = 2 then 8 else if depth = 4 then 9 else 10) else (if depth = 8 then 11 else 15)

theorem ihdrSet {w : World} {bd rb cb db cap : Nat} {D : List UInt8} {d : Dv} {i c : Nat} (h : Png w bd rb cb db cap D { d with lace := 0 } i c) (dep k wd ht : Int) :
    Png (((((w.setCell ⟨bd, 7, none⟩ (.int .i64 0)).setCell ⟨bd, 5, none⟩ (.int .i64 dep)).setCell ⟨bd, 7, none⟩ (.int .i64 k)).setCell ⟨bd, 3, none⟩ (.int .i64 wd)).setCell ⟨bd, 4, none⟩ (.int .i64 ht)) bd rb cb db cap D { d with width := wd, height := ht, depth := dep, cb := k, lace := 0 } i c := by
  have h1 := h.set (h.dec.set7 0)
  have h2 := h1.set (h1.dec.set5 dep)
  have h3 := h2.set (h2.dec.set7 k)
  have h4 := h3.set (h3.dec.set3 wd)
  exact h4.set (h4.dec.set4 ht)

set_option maxHeartbeats 8000000 in
set_option maxRecDepth 100000 in
theorem parseIHDR {w : World} {bd rb cb db cap : Nat} {D : List UInt8} {d : Dv} {i c wide high depth colour : Nat} (h : Png w bd rb cb db cap D d i c) {x0 x1 x2 x3 : UInt8} (hn : i + 17 ≤ D.length)
    (hw : 0 < wide ∧ wide ≤ 60) (hh : 0 < high ∧ high ≤ 60)
    (hk : (colour = 0 ∧ (depth = 8 ∨ depth = 16)) ∨ (colour = 2 ∧ (depth = 8 ∨ depth = 16)) ∨ (colour = 6 ∧ (depth = 8 ∨ depth = 16)) ∨ (colour = 3 ∧ (depth = 1 ∨ depth = 2 ∨ depth = 4 ∨ depth = 8)))
    (hd : (D.drop i).take 13 = headB wide high depth colour) (hx : (D.drop (i + 13)).take 4 = [x0, x1, x2, x3]) (hs : be4 x0 x1 x2 x3 = 4294967295 - crcRun c (headB wide high depth colour)) :
    Calls Tryz.prog 57 #[.pointer (some ⟨bd, 0, none⟩), .int .u32 13] w fun e w' => e = .returned .nilIface ∧
      Png w' bd rb cb db cap D { d with width := (wide : Int), height := (high : Int), depth := (depth : Int), cb := (kCb' colour depth : Int), lace := 0 } (i + 17) (crcRun c (headB wide high depth colour)) ∧ Keep (Fp bd rb cb) w w' := by
  have hc0 := h.dec.f0
  go_enter Tryz.func57, Tryz.ntmps57
  go_wp2
  go_region_with (refine (readTmp (h.drewN 1) 13 768 (by omega) (by omega) (by omega)).mono ?_; rintro e w1 ⟨rfl, h1, hb1, hk1⟩)
  rw [hd] at hb1
  have hc2 := h1.dec.f2
  have hwr := crcWrite (h1.drewN 1).crc (h1.drewN 1).tab (headB wide high depth colour) bd 10 13 768 rfl (hb1.drewN 1) (by simp [headB_length]) h.a8
  go_wp2
  go_region_with (refine hwr.mono ?_; rintro e w2 ⟨rfl, hcs, hk2⟩)
  have h2 := (h1.drewN 1).ofCrc hcs hk2
  have hB2 : BytesAt w2 bd 10 (headB wide high depth colour) := (hb1.drewN 1).keep hk2 fun _ _ e => h.a2 e.1
  have hdep : depth < 256 := by omega
  have hcol : colour < 256 := by omega
  have c10 := hB2.at_ 10 0 rfl
  have c11 := hB2.at_ 11 0 rfl
  have c12 := hB2.at_ 12 0 rfl
  have c8 := hB2.at_ 8 (b8 depth) rfl
  have c9 := hB2.at_ 9 (b8 colour) rfl
  rw [b8_toNat, Nat.mod_eq_of_lt hdep] at c8
  rw [b8_toNat, Nat.mod_eq_of_lt hcol] at c9
  have hk02 : Keep (Fp bd rb cb) w w2 := (((Keep.refl _ _).drew.trans hk1).drewN 1).trans (hk2.mono fun _ _ _ e => .inr (.inr e.1))
  have H2 := Lib.hid (And.intro h2 (And.intro hB2 hk02))
  have f3 := h2.dec.f3
  have f4 := h2.dec.f4
  have f5 := h2.dec.f5
  have f7 := h2.dec.f7
  have fl := h2.dec.fl
  have fz := h2.dec.fz
  clear hwr hcs hk2 hk1 h1 h2 hb1 hB2 hk02 hc0 hc2
  go_wp2_with (go_at_call 54; fail)
  have H3 := Lib.hid (And.intro (H2.out.1.set (H2.out.1.dec.setl 0)) (And.intro (H2.out.2.1.keep (keep_setCell w2 bd 778 (.int .i64 0)) fun j hj e => by have : (headB wide high depth colour).length = 13 := rfl; omega) (H2.out.2.2.setCell (o := 778) (.int .i64 0) fun _ => .inl rfl)))
  refine (beUint32 (x0 := b8 (wide / 16777216)) (x1 := b8 (wide / 65536)) (x2 := b8 (wide / 256)) (x3 := b8 wide) bd 10 4 768 (by omega) (H3.out.2.1.take 4)).mono ?_
  rintro e w4 ⟨rfl, k4, hw4⟩
  have H4 := Lib.hid (show Png w4 bd rb cb db cap D { d with lace := 0 } (i + 13) (crcRun c (headB wide high depth colour)) ∧ BytesAt w4 bd 10 (headB wide high depth colour) ∧ Keep (Fp bd rb cb) w w4 by
    rw [hw4]; exact ⟨H3.out.1.drewN k4, H3.out.2.1.drewN k4, H3.out.2.2.drewN k4⟩)
  rw [be4_four wide (by omega)]
  clear hw4 f3 f4 f5 f7 fl fz c8 c9 c10 c11 c12
  go_wp2_with (go_at_call 54; fail)
  refine (beUint32 (x0 := b8 (high / 16777216)) (x1 := b8 (high / 65536)) (x2 := b8 (high / 256)) (x3 := b8 high) bd 14 4 764 (by omega) ((H4.out.2.1.drop 4).take 4)).mono ?_
  rintro e w5 ⟨rfl, k5, hw5⟩
  have H5 := Lib.hid (show Png w5 bd rb cb db cap D { d with lace := 0 } (i + 13) (crcRun c (headB wide high depth colour)) ∧ BytesAt w5 bd 10 (headB wide high depth colour) ∧ Keep (Fp bd rb cb) w w5 by
    rw [hw5]; exact ⟨H4.out.1.drewN k5, H4.out.2.1.drewN k5, H4.out.2.2.drewN k5⟩)
  rw [be4_four high (by omega)]
  clear hw5
  have c8 := H5.out.2.1.at_ 8 (b8 depth) rfl
  have c9 := H5.out.2.1.at_ 9 (b8 colour) rfl
  rw [b8_toNat, Nat.mod_eq_of_lt hdep] at c8
  rw [b8_toNat, Nat.mod_eq_of_lt hcol] at c9
  have f3 := H5.out.1.dec.f3
  have f4 := H5.out.1.dec.f4
  have f5 := H5.out.1.dec.f5
  have f7 := H5.out.1.dec.f7
  have fz := H5.out.1.dec.fz
  have a1 : IntKind.i32.wrap (wide : Int) = (wide : Int) := by rw [IntKind.wrap_i32]; omega
  have a2 : IntKind.i32.wrap (high : Int) = (high : Int) := by rw [IntKind.wrap_i32]; omega
  have a3 : decide ((wide : Int) ≤ 0) = false := by simp; omega
  have a4 : decide ((high : Int) ≤ 0) = false := by simp; omega
  obtain ⟨np, hnp⟩ : ∃ np, np = wide * high := ⟨_, rfl⟩
  have hnp2 : np ≤ 3600 := by rw [hnp]; exact Nat.mul_le_mul hw.2 hh.2
  have a5 : IntKind.i64.wrap ((wide : Int) * (high : Int)) = (np : Int) := by
    rw [← Int.natCast_mul, ← hnp]; exact IntWalk.i64_in _ (by omega)
  have a6 : (np : Int) * 8 / 8 = (np : Int) := by omega
  clear hnp
  rcases hk with ⟨rfl, rfl | rfl⟩ | ⟨rfl, rfl | rfl⟩ | ⟨rfl, rfl | rfl⟩ | ⟨rfl, rfl | rfl | rfl | rfl⟩
  all_goals
    go_wp2_with (go_at_call 64; fail)
    refine (verifyChecksum (ihdrSet H5.out.1 _ _ _ _) (by omega) hx hs).mono ?_
    rintro e w6 ⟨rfl, h6, hk6⟩
    have H6 := Lib.hid (And.intro h6 ((((((H5.out.2.2.setCell (o := 7) (.int .i64 0) fun _ => .inl rfl).setCell (o := 5) _ fun _ => .inl rfl).setCell (o := 7) _ fun _ => .inl rfl).setCell (o := 3) _ fun _ => .inl rfl).setCell (o := 4) _ fun _ => .inl rfl).trans hk6))
    clear h6 hk6
    go_wp2
    go_ret
    exact ⟨rfl, H6.out.1, H6.out.2⟩
end Go.Proofs.YtnbbppjgamdfeaaGreatDoor
end
