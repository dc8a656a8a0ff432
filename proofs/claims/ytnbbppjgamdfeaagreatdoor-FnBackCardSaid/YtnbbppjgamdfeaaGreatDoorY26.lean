/- laws.FnBack, part 26 of 54: G0. -/
import Derived.Test.YtnbbppjgamdfeaaGreatDoorY18
import Derived.Test.YtnbbppjgamdfeaaGreatDoorY19
import Derived.Test.YtnbbppjgamdfeaaGreatDoorY20
import Derived.Test.YtnbbppjgamdfeaaGreatDoorY21
import Derived.Test.YtnbbppjgamdfeaaGreatDoorY22
import Derived.Test.YtnbbppjgamdfeaaGreatDoorY23
import Derived.Test.YtnbbppjgamdfeaaGreatDoorY24
import Derived.Test.YtnbbppjgamdfeaaGreatDoorY25
import Derived.Test.YtnbbppjgamdfeaaGreatDoorY05

/- readImagePass: all kinds of pixels in one statement (printed by gen_g0.py). -/
section
set_option linter.unusedVariables false
set_option linter.unusedSimpArgs false
namespace Go.Proofs.YtnbbppjgamdfeaaGreatDoor
open Go Go.RowKit

/-- The number of a kind of pixels in package png. -/
def kCb (colour depth : Nat) : Nat := if colour = 0 then (if depth = 8 then 4 else 12) else if colour = 2 then (if depth = 8 then 6 else 14) else if colour = 3 then (if depth = 1 then 7 else if depth = 2 then 8 else if depth = 4 then 9 else 10) else (if depth = 8 then 11 else 15)
/-- The type of the picture. -/
def kIf (colour depth : Nat) : Nat := if colour = 0 then (if depth = 8 then 107 else 115) else if colour = 2 then (if depth = 8 then 117 else 119) else if colour = 3 then 125 else (if depth = 8 then 121 else 123)
theorem PixRows.congr {w : World} {pb st y : Nat} {g g' : Nat → Nat → Nat} (h : PixRows w pb st y g) (he : ∀ j k, j < y → k < st → g' j k = g j k) : PixRows w pb st y g' := fun j k hj hk => by rw [he j k hj hk]; exact h j k hj hk
/-- The decoded picture in memory, in blocks from base on. -/
def Pict (w : World) (base : Nat) (iv : Value) (R : List UInt8) (wd ht depth colour : Nat) (palv : Value) : Prop :=
  ∃ ib pb, iv = .iface (kIf colour depth) (.pointer (some ⟨ib, 0, none⟩)) ∧ ImgAt w ib pb (kN colour depth * wd * ht) (kN colour depth * wd) wd ht ∧ PixRows w pb (kN colour depth * wd) ht (kG R wd depth colour) ∧
    (colour = 3 → w.cell? ⟨ib, 6, none⟩ = some palv) ∧ base ≤ ib ∧ base ≤ pb
theorem Pict.keep {F : Nat → Nat → Prop} {w w' : World} {base : Nat} {iv : Value} {R : List UInt8} {wd ht depth colour : Nat} {palv : Value} (h : Pict w base iv R wd ht depth colour palv) (hk : Keep F w w') (hF : ∀ x y, base ≤ x → ¬ F x y) : Pict w' base iv R wd ht depth colour palv := by
  obtain ⟨ib, pb, h1, h2, h3, h4, h5, h6⟩ := h
  exact ⟨ib, pb, h1, h2.keep hk (fun _ => hF _ _ h5) (fun _ => hF _ _ h6), h3.keep hk fun _ _ _ _ => hF _ _ h6, fun e => hk.get (h4 e) (hF _ _ h5), h5, h6⟩
theorem Pict.lower {w : World} {base base' : Nat} {iv : Value} {R : List UInt8} {wd ht depth colour : Nat} {palv : Value} (h : Pict w base iv R wd ht depth colour palv) (hb : base' ≤ base) : Pict w base' iv R wd ht depth colour palv := by
  obtain ⟨ib, pb, h1, h2, h3, h4, h5, h6⟩ := h
  exact ⟨ib, pb, h1, h2, h3, h4, by omega, by omega⟩

section
variable {t : TypeId} {ra : Addr} {f : FuncId} {I : World → List UInt8 → Prop} {FR : Nat → Nat → Prop} {Ok : Nat → Prop} {bd rb cb : Nat} {d : Dv} {W : World} (hr : RipRd t ra f I FR Ok bd rb cb d W) {wd ht depth colour count : Nat} {R : List UInt8}
include hr
/-- A pass over the rows makes the picture. -/
theorem ripAny (ok : RowsOk wd ht depth colour count R) (hdw : d.width = (wd : Int)) (hdh : d.height = (ht : Int)) (hcb : d.cb = (kCb colour depth : Int)) (hdep : d.depth = (depth : Int)) (hlc : d.lace = 0) (hut : d.useT = false)
    (palv : Value) (hpal : colour = 3 → d.pal = palv ∧ ∃ plb pc, palv = .slice (some ⟨plb, 0, none⟩) count pc ∧ count < 256) (hI : I W R) :
    Calls Tryz.prog 93 #[.pointer (some ⟨bd, 0, none⟩), .iface t (.pointer (some ra)), .int .i64 0, .bool false] W fun e w' => ∃ iv, e = .returned (.tuple #[iv, .nilIface]) ∧ Pict w' W.heap.size iv R wd ht depth colour palv ∧ I w' [] ∧ Keep FR W w' := by
  have hw := ok.w60
  have hh := ok.h60
  have hw0 := ok.w0
  have hh0 := ok.h0
  have hlen := ok.len
  have hft := ok.ft
  have hcnt := ok.pal
  rcases ok.kind with ⟨rfl, rfl | rfl⟩ | ⟨rfl, rfl | rfl⟩ | ⟨rfl, rfl | rfl⟩ | ⟨rfl, rfl | rfl | rfl | rfl⟩
  · have e : rowB wd 8 0 = 1 * wd := by simp only [rowB, chan]; first | (simp; done) | (simp; omega)
    rw [e] at hlen hft
    refine (ripG8 hr wd ht hw hh hw0 hh0 hdw hdh hcb hdep hlc hut R hI hlen hft).mono ?_
    rintro _ w' ⟨ib, pb, rfl, h1, h2, h3, h4, h5, h6⟩
    exact ⟨_, rfl, ⟨ib, pb, rfl, h1, h2.congr fun y k _ _ => by simp [kG, e], fun e => by simp at e, h4, h5⟩, h3, h6⟩
  · have e : rowB wd 16 0 = 2 * wd := by simp only [rowB, chan]; first | (simp; done) | (simp; omega)
    rw [e] at hlen hft
    refine (ripG16 hr wd ht hw hh hw0 hh0 hdw hdh hcb hdep hlc hut R hI hlen hft).mono ?_
    rintro _ w' ⟨ib, pb, rfl, h1, h2, h3, h4, h5, h6⟩
    exact ⟨_, rfl, ⟨ib, pb, rfl, h1, h2.congr fun y k _ _ => by simp [kG, e], fun e => by simp at e, h4, h5⟩, h3, h6⟩
  · have e : rowB wd 8 2 = 3 * wd := by simp only [rowB, chan]; first | (simp; done) | (simp; omega)
    rw [e] at hlen hft
    refine (ripTC8 hr wd ht hw hh hw0 hh0 hdw hdh hcb hdep hlc hut R hI hlen hft).mono ?_
    rintro _ w' ⟨ib, pb, rfl, h1, h2, h3, h4, h5, h6⟩
    exact ⟨_, rfl, ⟨ib, pb, rfl, h1, h2.congr fun y k _ _ => by simp [kG, e], fun e => by simp at e, h4, h5⟩, h3, h6⟩
  · have e : rowB wd 16 2 = 6 * wd := by simp only [rowB, chan]; first | (simp; done) | (simp; omega)
    rw [e] at hlen hft
    refine (ripTC16 hr wd ht hw hh hw0 hh0 hdw hdh hcb hdep hlc hut R hI hlen hft).mono ?_
    rintro _ w' ⟨ib, pb, rfl, h1, h2, h3, h4, h5, h6⟩
    exact ⟨_, rfl, ⟨ib, pb, rfl, h1, h2.congr fun y k _ _ => by simp [kG, e], fun e => by simp at e, h4, h5⟩, h3, h6⟩
  · have e : rowB wd 8 6 = 4 * wd := by simp only [rowB, chan]; first | (simp; done) | (simp; omega)
    rw [e] at hlen hft
    refine (ripTCA8 hr wd ht hw hh hw0 hh0 hdw hdh hcb hdep hlc hut R hI hlen hft).mono ?_
    rintro _ w' ⟨ib, pb, rfl, h1, h2, h3, h4, h5, h6⟩
    exact ⟨_, rfl, ⟨ib, pb, rfl, h1, h2.congr fun y k _ _ => by simp [kG, e], fun e => by simp at e, h4, h5⟩, h3, h6⟩
  · have e : rowB wd 16 6 = 8 * wd := by simp only [rowB, chan]; first | (simp; done) | (simp; omega)
    rw [e] at hlen hft
    refine (ripTCA16 hr wd ht hw hh hw0 hh0 hdw hdh hcb hdep hlc hut R hI hlen hft).mono ?_
    rintro _ w' ⟨ib, pb, rfl, h1, h2, h3, h4, h5, h6⟩
    exact ⟨_, rfl, ⟨ib, pb, rfl, h1, h2.congr fun y k _ _ => by simp [kG, e], fun e => by simp at e, h4, h5⟩, h3, h6⟩
  · have e : rowB wd 1 3 = (wd * 1 + 7) / 8 := by simp only [rowB, chan]; first | (simp; done) | (simp; omega)
    obtain ⟨hp, plb, pc, rfl, hc⟩ := hpal rfl
    have hcnt := hcnt rfl
    rw [e] at hlen hft hcnt
    refine (ripP1 hr wd ht hw hh hw0 hh0 hdw hdh hcb hdep hlc hut plb count pc hp hc R hI hlen hft hcnt).mono ?_
    rintro _ w' ⟨ib, pb, rfl, h1, h2, hp', h3, h4, h5, h6⟩
    exact ⟨_, rfl, ⟨ib, pb, rfl, h1, h2.congr fun y k _ _ => by simp [kG, e, smp], fun _ => hp', h4, h5⟩, h3, h6⟩
  · have e : rowB wd 2 3 = (wd * 2 + 7) / 8 := by simp only [rowB, chan]; first | (simp; done) | (simp; omega)
    obtain ⟨hp, plb, pc, rfl, hc⟩ := hpal rfl
    have hcnt := hcnt rfl
    rw [e] at hlen hft hcnt
    refine (ripP2 hr wd ht hw hh hw0 hh0 hdw hdh hcb hdep hlc hut plb count pc hp hc R hI hlen hft hcnt).mono ?_
    rintro _ w' ⟨ib, pb, rfl, h1, h2, hp', h3, h4, h5, h6⟩
    exact ⟨_, rfl, ⟨ib, pb, rfl, h1, h2.congr fun y k _ _ => by simp [kG, e, smp], fun _ => hp', h4, h5⟩, h3, h6⟩
  · have e : rowB wd 4 3 = (wd * 4 + 7) / 8 := by simp only [rowB, chan]; first | (simp; done) | (simp; omega)
    obtain ⟨hp, plb, pc, rfl, hc⟩ := hpal rfl
    have hcnt := hcnt rfl
    rw [e] at hlen hft hcnt
    refine (ripP4 hr wd ht hw hh hw0 hh0 hdw hdh hcb hdep hlc hut plb count pc hp hc R hI hlen hft hcnt).mono ?_
    rintro _ w' ⟨ib, pb, rfl, h1, h2, hp', h3, h4, h5, h6⟩
    exact ⟨_, rfl, ⟨ib, pb, rfl, h1, h2.congr fun y k _ _ => by simp [kG, e, smp], fun _ => hp', h4, h5⟩, h3, h6⟩
  · have e : rowB wd 8 3 = 1 * wd := by simp only [rowB, chan]; first | (simp; done) | (simp; omega)
    obtain ⟨hp, plb, pc, rfl, hc⟩ := hpal rfl
    have hcnt := hcnt rfl
    rw [e] at hlen hft hcnt
    refine (ripP8 hr wd ht hw hh hw0 hh0 hdw hdh hcb hdep hlc hut plb count pc hp hc R hI hlen hft hcnt).mono ?_
    rintro _ w' ⟨ib, pb, rfl, h1, h2, hp', h3, h4, h5, h6⟩
    exact ⟨_, rfl, ⟨ib, pb, rfl, h1, h2.congr fun y k _ _ => by simp [kG, e, smp], fun _ => hp', h4, h5⟩, h3, h6⟩
end
end Go.Proofs.YtnbbppjgamdfeaaGreatDoor
end
