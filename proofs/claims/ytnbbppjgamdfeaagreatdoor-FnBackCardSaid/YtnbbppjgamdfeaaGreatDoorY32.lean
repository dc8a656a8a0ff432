/- laws.FnBack, part 32 of 54: H3 N1. -/
import Derived.Test.YtnbbppjgamdfeaaGreatDoorY28
import Derived.Test.YtnbbppjgamdfeaaGreatDoorY14
import Derived.Test.YtnbbppjgamdfeaaGreatDoorY17
import Derived.Test.YtnbbppjgamdfeaaGreatDoorY26

/- impl: shadesOf. -/
section
set_option linter.unusedVariables false
set_option linter.unusedSimpArgs false
namespace Go.Proofs.YtnbbppjgamdfeaaGreatDoor
open Go Go.RowKit

/-- A shade's four cells. -/
def shadeCell (s : Shade4) : List Value := [.int .u8 (s.1.toNat : Int), .int .u8 (s.2.1.toNat : Int), .int .u8 (s.2.2.1.toNat : Int), .int .u8 (s.2.2.2.toNat : Int)]
/-- The cells of shades, one behind the other. -/
def shadeCells (pal : List Shade4) : List Value := pal.flatMap shadeCell
theorem shadeCells_take (pal : List Shade4) (k : Nat) (s : Shade4) (h : pal[k]? = some s) : shadeCells (pal.take (k + 1)) = shadeCells (pal.take k) ++ shadeCell s := by
  unfold shadeCells
  rw [List.take_add_one, h, List.flatMap_append]
  simp
theorem shadeCell_one (s : Shade4) : ∀ u ∈ shadeCell s, u.oneCell' = true := fun u hu => by
  simp only [shadeCell, List.mem_cons, List.not_mem_nil, or_false] at hu
  rcases hu with rfl | rfl | rfl | rfl <;> rfl
theorem info39 : (Tryz.prog.info? 39).map (fun i => (i.zero, i.size, i.bytes)) = some (some (.agg #[.int .u8 0, .int .u8 0, .int .u8 0, .int .u8 0]), 4, 4) := by kernel_rfl

/-- What was written in a new block changes nothing old. -/
theorem keep_layV {e : TypeId} {size : Nat} {W w w' : World} {v : Value} {n : Nat} {xs : List Value} {base : Nat} (h : Keep Nil2 W w) (hown : OwnV e size w base v n xs) (hk : Keep (fun k _ => v.ownBlock = some k) w w') (hb : W.heap.size ≤ base := by omega) : Keep Nil2 W w' :=
  h.then hk (fun _ _ _ e => e) fun i o hi e => absurd (hown.block_ge i e).1 (by omega)
/-- A literal that was laid just now, in block g. -/
theorem SrcV.litAt (w : World) (cs : Array Value) (e : TypeId) (n : Nat) (xs : List Value) (h : cs.toList = xs) {g : Nat} (hg : w.heap.size = g) : SrcV (w.alloc (.cells cs e)) (.slice (some ⟨g, 0, none⟩) n n) n xs := by
  subst hg
  exact SrcV.lit w cs e n xs h

set_option maxHeartbeats 4000000 in
set_option maxRecDepth 100000 in
theorem implShades {w : World} {pb cap np m : Nat} {pal : List Shade4} (hP : PalAt w pb pal m) (hnp : np = pal.length) (hn2 : np ≤ 256) (hw : ∀ k s, pal[k]? = some s → m ≤ k → s.2.2.2 = 255) :
    Calls Tryz.prog 44 #[.slice (some ⟨pb, 0, none⟩) np cap] w fun e w' => ∃ v, e = .returned v ∧ OwnV 39 4 w' w.heap.size v np (shadeCells pal) ∧ Keep Nil2 w w' := by
  have t1 : ∀ (v : Value) (w : World), (Instr.typeAssert (.iface 161 v) 160 161 true).run Tryz.prog w = .ok (.tuple #[v, .bool true]) w := fun v w => by kernel_rfl
  have t2 : ∀ (v : Value) (w : World), (Instr.typeAssert (.iface 162 v) 160 161 true).run Tryz.prog w = .ok (.tuple #[.agg #[.int .u8 0, .int .u8 0, .int .u8 0, .int .u8 0], .bool false]) w := fun v w => by kernel_rfl
  have t3 : ∀ (v : Value) (w : World), (Instr.typeAssert (.iface 162 v) 160 162 true).run Tryz.prog w = .ok (.tuple #[v, .bool true]) w := fun v w => by kernel_rfl
  have hbs : ∀ (a b c e : Int) (w : World), (Instr.buildSlice 24 1 #[(0, .agg #[.int .u8 a, .int .u8 b, .int .u8 c, .int .u8 e])]).run Tryz.prog w = .ok (.slice (some ⟨w.heap.size, 0, none⟩) 1 1) (w.alloc (.cells #[.int .u8 a, .int .u8 b, .int .u8 c, .int .u8 e] 39)) := fun a b c e w => by kernel_rfl
  have HN := Lib.hid hnp
  have HP := Lib.hid hP
  clear hnp hP
  go_enter Tryz.func44, Tryz.ntmps44
  go_wp2
  go_loopg [3, 5, 6, 7, 8, 11] np (fun G v3 v5 v6 v7 v8 v11 wr => ∃ k g, g = G ∧ k + g = np ∧ v11 = .int .i64 (k : Int) ∧ OwnV 39 4 wr w.heap.size v3 k (shadeCells (pal.take k)) ∧ Keep Nil2 w wr)
  case atStart => exact ⟨0, np, rfl, by omega, rfl, OwnV.nil 39 4 w _, Keep.refl _ _⟩
  case round =>
    obtain ⟨k, g, hG, hkg, rfl, hO, hK⟩ := hrel
    have HG := Lib.hid hG
    clear hG
    by_cases hk : k < np
    · have d1 : decide ((k : Int) < (np : Int)) = true := by simp; omega
      have hkI : (k : Int) < np := by omega
      obtain ⟨s, hs⟩ : ∃ s, pal[k]? = some s := ⟨pal[k]'(by have := HN.out; omega), List.getElem?_eq_getElem _⟩
      have ck := hK.get (HP.out.cell k s hs) fun e => e
      have HS := Lib.hid hs
      have HO := Lib.hid (And.intro hO hK)
      clear hs hO hK
      by_cases hkm : k < m
      · rw [show ShadeV m k s = .iface 161 (.agg #[.int .u8 (s.1.toNat : Int), .int .u8 (s.2.1.toNat : Int), .int .u8 (s.2.2.1.toNat : Int), .int .u8 (s.2.2.2.toNat : Int)]) by simp [ShadeV, hkm]] at ck
        have hka := Lib.hid ((Keep.refl Nil2 wr).alloc (.cells #[.int .u8 (s.1.toNat : Int), .int .u8 (s.2.1.toNat : Int), .int .u8 (s.2.2.1.toNat : Int), .int .u8 (s.2.2.2.toNat : Int)] 161))
        go_wp2_with (at_builtin; refine wpList_append_vals rfl (.tmp 23) (.tmp 33) 24 39 rfl _ 4 4 Tryz.underlying24 info39 rfl (by decide) (by decide) w.heap.size u3 k (shadeCells (pal.take k)) rfl ((HO.out.1.keep0 hka.out).alloc _) _ 1 (shadeCell s) rfl (SrcV.litAt _ _ 39 1 _ rfl (by simp)) rfl (shadeCell_one s) (by omega) (by have := HO.out.2.size; simp; omega) ?_)
        intro v4 w4 h4 hk4 hv4
        have HF := Lib.hid (And.intro h4 (keep_layV ((HO.out.2.trans hka.out).alloc _) ((HO.out.1.keep0 hka.out).alloc _) hk4))
        clear h4 hk4 hv4
        go_wp2
        go_roundg (g - 1)
        case measure => have := HG.out; omega
        case rel => exact ⟨k + 1, g - 1, rfl, by omega, by go_num, by rw [shadeCells_take pal k s HS.out]; exact HF.out.1, HF.out.2⟩
      · have ha := hw k s HS.out (by omega)
        rw [show ShadeV m k s = .iface 162 (.agg #[.int .u8 (s.1.toNat : Int), .int .u8 (s.2.1.toNat : Int), .int .u8 (s.2.2.1.toNat : Int), .int .u8 255]) by simp [ShadeV, hkm]] at ck
        have hka := Lib.hid ((Keep.refl Nil2 wr).alloc (.cells #[.int .u8 (s.1.toNat : Int), .int .u8 (s.2.1.toNat : Int), .int .u8 (s.2.2.1.toNat : Int), .int .u8 255] 162))
        have HA := Lib.hid (show shadeCell s = [.int .u8 (s.1.toNat : Int), .int .u8 (s.2.1.toNat : Int), .int .u8 (s.2.2.1.toNat : Int), .int .u8 255] by unfold shadeCell; rw [ha]; rfl)
        clear ha
        go_wp2_with (at_builtin; refine wpList_append_vals rfl (.tmp 38) (.tmp 48) 24 39 rfl _ 4 4 Tryz.underlying24 info39 rfl (by decide) (by decide) w.heap.size u3 k (shadeCells (pal.take k)) rfl ((HO.out.1.keep0 hka.out).alloc _) _ 1 (shadeCell s) rfl (SrcV.litAt _ _ 39 1 _ HA.out.symm (by simp)) rfl (shadeCell_one s) (by omega) (by have := HO.out.2.size; simp; omega) ?_)
        intro v4 w4 h4 hk4 hv4
        have HF := Lib.hid (And.intro h4 (keep_layV ((HO.out.2.trans hka.out).alloc _) ((HO.out.1.keep0 hka.out).alloc _) hk4))
        clear h4 hk4 hv4
        go_wp2
        go_roundg (g - 1)
        case measure => have := HG.out; omega
        case rel => exact ⟨k + 1, g - 1, rfl, by omega, by go_num, by rw [shadeCells_take pal k s HS.out]; exact HF.out.1, HF.out.2⟩
    · obtain rfl : k = np := by omega
      have d1 : decide ((k : Int) < (k : Int)) = false := by simp
      have HO := Lib.hid (And.intro hO hK)
      clear hO hK
      go_wp2
      go_ret
      refine ⟨u3, rfl, ?_, HO.out.2⟩
      have := HO.out.1
      rwa [List.take_of_length_le (by have := HN.out; omega)] at this
end Go.Proofs.YtnbbppjgamdfeaaGreatDoor
end

/- The decoded picture as a row of bytes, plain; its pixels. -/
section
set_option linter.unusedVariables false
set_option linter.unusedSimpArgs false
namespace Go.Proofs.YtnbbppjgamdfeaaGreatDoor
open Go Go.RowKit

theorem kG_lt {wide high depth colour count : Nat} {R : List UInt8} (h : RowsOk wide high depth colour count R) (y k : Nat) : kG R wide depth colour y k < 256 := by
  have hu : ∀ k, rowAt R (rowB wide depth colour) y k < 256 := fun k => by unfold rowAt; exact UInt8.toNat_lt _
  have hs := smp_lt h (rowB wide depth colour) y k
  unfold kG
  rcases h.kind with ⟨rfl, _⟩ | ⟨rfl, rfl | rfl⟩ | ⟨rfl, _⟩ | ⟨rfl, hd⟩
  · simp; exact hu _
  · simp; split; exact hu _; omega
  · simp; split; exact hu _; omega
  · simp; exact hu _
  · simp
    rcases hd with rfl | rfl | rfl | rfl <;> omega
/-- The bytes of the decoded picture. -/
def pixL (R : List UInt8) (wide high depth colour : Nat) : List UInt8 := (List.range (kN colour depth * wide * high)).map fun i => b8 (kG R wide depth colour (i / (kN colour depth * wide)) (i % (kN colour depth * wide)))
theorem pixL_length (R : List UInt8) (wide high depth colour : Nat) : (pixL R wide high depth colour).length = kN colour depth * wide * high := by simp [pixL]
theorem pixL_at {wide high depth colour count : Nat} {R : List UInt8} (h : RowsOk wide high depth colour count R) (y k : Nat) (hy : y < high) (hk : k < kN colour depth * wide) :
    ∃ x : UInt8, (pixL R wide high depth colour)[y * (kN colour depth * wide) + k]? = some x ∧ x.toNat = kG R wide depth colour y k := by
  have h1 : (y + 1) * (kN colour depth * wide) ≤ high * (kN colour depth * wide) := Nat.mul_le_mul_right _ hy
  rw [Nat.add_mul, Nat.one_mul, Nat.mul_comm high] at h1
  refine ⟨b8 (kG R wide depth colour y k), ?_, by rw [b8_toNat, Nat.mod_eq_of_lt (kG_lt h y k)]⟩
  unfold pixL
  rw [List.getElem?_map, List.getElem?_range (by omega)]
  simp only [Option.map_some]
  rw [Nat.mul_comm y, Nat.mul_add_div (by omega), Nat.div_eq_of_lt hk, Nat.mul_add_mod, Nat.mod_eq_of_lt hk, Nat.add_zero]
theorem pixRows_bytes {w : World} {pb wide high depth colour count : Nat} {R : List UInt8} (h : RowsOk wide high depth colour count R) (hp : PixRows w pb (kN colour depth * wide) high (kG R wide depth colour)) : BytesAt w pb 0 (pixL R wide high depth colour) := fun i hi => by
  rw [pixL_length] at hi
  have hst : 0 < kN colour depth * wide := by
    rcases Nat.eq_zero_or_pos (kN colour depth * wide) with e | e
    · rw [e] at hi; omega
    · exact e
  have hd := Nat.div_add_mod i (kN colour depth * wide)
  have hm := Nat.mod_lt i hst
  have hy : i / (kN colour depth * wide) < high := Nat.div_lt_of_lt_mul hi
  have := hp _ _ hy hm
  rw [Nat.mul_comm, hd] at this
  rw [Nat.zero_add, this]
  simp only [pixL, List.getElem_map, List.getElem_range]
  rw [b8_toNat, Nat.mod_eq_of_lt (kG_lt h _ _)]
theorem kN_pos (colour depth : Nat) : 0 < kN colour depth ∧ kN colour depth ≤ 8 := by unfold kN; split; split <;> omega; split; omega; split <;> omega
theorem kKind_cases (colour depth : Nat) : 1 ≤ kKind colour depth ∧ kKind colour depth ≤ 7 := by unfold kKind; split; split <;> omega; split; omega; split; split <;> omega; split <;> omega
end Go.Proofs.YtnbbppjgamdfeaaGreatDoor
end
