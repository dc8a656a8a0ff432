/- laws.FnBack, part 46 of 54: R21 R22 R23 R24 R25 R26. -/
import Derived.Test.YtnbbppjgamdfeaaGreatDoorY41

/- impl: pictureOf, kind 1. (Printed by tools/gen_r2.py.) -/
section
set_option linter.unusedVariables false
set_option linter.unusedSimpArgs false
namespace Go.Proofs.YtnbbppjgamdfeaaGreatDoor
open Go Go.RowKit

set_option maxHeartbeats 8000000 in
set_option maxRecDepth 100000 in
theorem implPic1 {w : World} {ib pb n st wd ht : Nat} {l : List UInt8} (hI : ImgAt w ib pb n st wd ht) (hb : BytesAt w pb 0 l) (hn : n = l.length) (hn0 : 0 < n) (hn2 : n ≤ 100000) :
    Calls Tryz.prog 29 #[.iface 107 (.pointer (some ⟨ib, 0, none⟩))] w fun e w' => ∃ g cap, e = .returned (picV 1 wd ht st g n cap (.slice none 0 0)) ∧ BytesAt w' g 0 l ∧ w.heap.size ≤ g ∧ n ≤ cap ∧ Keep Nil2 w w' := by
  unfold picV
  have hbw : pb < w.heap.size := hb.lt (by omega)
  obtain ⟨w1, hw1⟩ : ∃ w1, w1 = w.alloc (.cells #[.int .i64 0, .int .i64 0, .int .i64 0, .int .i64 0, .int .i64 0, .int .i64 0, .slice none 0 0, .slice none 0 0] 26) := ⟨_, rfl⟩
  obtain ⟨hs0, hk1, hne, htl⟩ := ipS_start hI hw1
  obtain ⟨tb, htb⟩ : ∃ tb, tb = w.heap.size := ⟨_, rfl⟩
  rw [← htb] at hs0 hne htl
  have hpt : pb ≠ tb := by omega
  have hwt : w.heap.size ≤ tb := by omega
  have a0 : ∀ w : World, (Instr.typeAssert (.iface 107 (.pointer (some ⟨ib, 0, none⟩))) 70 107 true).run Tryz.prog w = .ok (.tuple #[.pointer (some ⟨ib, 0, none⟩), .bool true]) w := fun w => by kernel_rfl
  have HK1 := Lib.hid (And.intro hk1 (And.intro hn hb))
  have KS := Lib.hid (fun V V' (h : IpS w1 ib pb tb n st wd ht V) (hk : Keep Nil2 V V') => ipS_keep h hk)
  have KT := Lib.hid (fun V (v0 v1 v2 v3 v4 v5 v6 v7 : Value) (h : IpS w1 ib pb tb n st wd ht V) => ipS_store h hne v0 v1 v2 v3 v4 v5 v6 v7)
  have KC := Lib.hid (fun V hV => ipCall (ib := ib) (tb := tb) (st := st) (wd := wd) (ht := ht) 1 hb hn hn0 hn2 hk1 hpt V hV)
  have HTB := Lib.hid (And.intro hw1 htb)
  clear hI hb hn hk1 hw1 htb
  go_enter Tryz.func29, Tryz.ntmps29
  go_wp2
  rw [← HTB.out.1, ← HTB.out.2]
  go_region_held3 (fun w' => w'.cell? ⟨ib, 0, none⟩ = some (.slice (some ⟨pb, 0, none⟩) n n) ∧ w'.cell? ⟨ib, 1, none⟩ = some (.int .i64 (st : Int)) ∧ w'.cell? ⟨ib, 2, none⟩ = some (.int .i64 0) ∧ w'.cell? ⟨ib, 3, none⟩ = some (.int .i64 0) ∧ w'.cell? ⟨ib, 4, none⟩ = some (.int .i64 (wd : Int)) ∧ w'.cell? ⟨ib, 5, none⟩ = some (.int .i64 (ht : Int)) ∧ HasN tb 8 w' ∧ Keep (fun x _ => x = tb) w1 w')
    ((show IpS w1 ib pb tb n st wd ht _; first | with_reducible assumption | with_reducible exact KT.out _ _ _ _ _ _ _ _ _ (by assumption) | with_reducible exact KS.out _ _ (by assumption) ((Keep.refl Nil2 _).drew)))
    (first | (go_at_call 43; refine (KC.out _ (by assumption)).mono ?_; rintro e w2 ⟨g, cap, v0, v1, v2, v3, v4, v5, v6, v7, rfl, h0, h1, h2, h3, h4, h5, h6, h7, hfz, hbg, hsR⟩))
  obtain ⟨wf, hwf⟩ : ∃ wf, wf = ((((((((w2.setCell ⟨tb, 0, none⟩ (.int .i64 ((1 : Nat) : Int))).setCell ⟨tb, 1, none⟩ (.int .i64 0)).setCell ⟨tb, 2, none⟩ (.int .i64 0)).setCell ⟨tb, 3, none⟩ (.int .i64 (wd : Int))).setCell ⟨tb, 4, none⟩ (.int .i64 (ht : Int))).setCell ⟨tb, 5, none⟩ (.int .i64 (st : Int))).setCell ⟨tb, 6, none⟩ (.slice (some ⟨g, 0, none⟩) n cap)).setCell ⟨tb, 7, none⟩ (.slice none 0 0)) := ⟨_, rfl⟩
  have hsR2 := hsR
  obtain ⟨y0, y1, y2, y3, y4, y5, y6, y7, hkf⟩ := eightSet hsR2.2.2.2.2.2.2.1 _ _ _ _ _ _ _ _ hwf
  have hwf2 : wf = ((((((((w2.setCell ⟨tb, 0, none⟩ (.int .i64 1)).setCell ⟨tb, 1, none⟩ (.int .i64 0)).setCell ⟨tb, 2, none⟩ (.int .i64 0)).setCell ⟨tb, 3, none⟩ (.int .i64 (wd : Int))).setCell ⟨tb, 4, none⟩ (.int .i64 (ht : Int))).setCell ⟨tb, 5, none⟩ (.int .i64 (st : Int))).setCell ⟨tb, 6, none⟩ (.slice (some ⟨g, 0, none⟩) n cap)).setCell ⟨tb, 7, none⟩ (.slice none 0 0)) := hwf
  first | rw [← hwf] | rw [← hwf2]
  have HF := Lib.hid (And.intro hbg (And.intro hsR2.2.2.2.2.2.2.2 hkf))
  clear hwf hwf2 hkf hsR hsR2 hbg h0 h1 h2 h3 h4 h5 h6 h7 hfz hs0
  go_wp2
  refine bodyPost_ret (v := .agg #[.int .i64 ((1 : Nat) : Int), .int .i64 0, .int .i64 0, .int .i64 (wd : Int), .int .i64 (ht : Int), .int .i64 (st : Int), .slice (some ⟨g, 0, none⟩) n cap, .slice none 0 0]) ?_ rfl ?_
  · simp only [results, Tryz.f29]
    go_simp
  · have hgp : g ≠ tb := by have := HF.out.1.2.1; omega
    exact ⟨g, cap, rfl, HF.out.1.1.keep HF.out.2.2 fun _ _ e => hgp e, by have := HF.out.1.2.1; have := HK1.out.1.size; omega, HF.out.1.2.2.2, (HK1.out.1.then (F := Nil2) HF.out.2.1 (fun _ _ _ e => e) fun x _ hx e => by omega).then (F := Nil2) HF.out.2.2 (fun _ _ _ e => e) fun x _ hx e => by omega⟩
end Go.Proofs.YtnbbppjgamdfeaaGreatDoor
end

/- impl: pictureOf, kind 2. (Printed by tools/gen_r2.py.) -/
section
set_option linter.unusedVariables false
set_option linter.unusedSimpArgs false
namespace Go.Proofs.YtnbbppjgamdfeaaGreatDoor
open Go Go.RowKit

set_option maxHeartbeats 8000000 in
set_option maxRecDepth 100000 in
theorem implPic2 {w : World} {ib pb n st wd ht : Nat} {l : List UInt8} (hI : ImgAt w ib pb n st wd ht) (hb : BytesAt w pb 0 l) (hn : n = l.length) (hn0 : 0 < n) (hn2 : n ≤ 100000) :
    Calls Tryz.prog 29 #[.iface 115 (.pointer (some ⟨ib, 0, none⟩))] w fun e w' => ∃ g cap, e = .returned (picV 2 wd ht st g n cap (.slice none 0 0)) ∧ BytesAt w' g 0 l ∧ w.heap.size ≤ g ∧ n ≤ cap ∧ Keep Nil2 w w' := by
  unfold picV
  have hbw : pb < w.heap.size := hb.lt (by omega)
  obtain ⟨w1, hw1⟩ : ∃ w1, w1 = w.alloc (.cells #[.int .i64 0, .int .i64 0, .int .i64 0, .int .i64 0, .int .i64 0, .int .i64 0, .slice none 0 0, .slice none 0 0] 26) := ⟨_, rfl⟩
  obtain ⟨hs0, hk1, hne, htl⟩ := ipS_start hI hw1
  obtain ⟨tb, htb⟩ : ∃ tb, tb = w.heap.size := ⟨_, rfl⟩
  rw [← htb] at hs0 hne htl
  have hpt : pb ≠ tb := by omega
  have hwt : w.heap.size ≤ tb := by omega
  have a0 : ∀ w : World, (Instr.typeAssert (.iface 115 (.pointer (some ⟨ib, 0, none⟩))) 70 107 true).run Tryz.prog w = .ok (.tuple #[.pointer none, .bool false]) w := fun w => by kernel_rfl
  have a1 : ∀ w : World, (Instr.typeAssert (.iface 115 (.pointer (some ⟨ib, 0, none⟩))) 70 115 true).run Tryz.prog w = .ok (.tuple #[.pointer (some ⟨ib, 0, none⟩), .bool true]) w := fun w => by kernel_rfl
  have HK1 := Lib.hid (And.intro hk1 (And.intro hn hb))
  have KS := Lib.hid (fun V V' (h : IpS w1 ib pb tb n st wd ht V) (hk : Keep Nil2 V V') => ipS_keep h hk)
  have KT := Lib.hid (fun V (v0 v1 v2 v3 v4 v5 v6 v7 : Value) (h : IpS w1 ib pb tb n st wd ht V) => ipS_store h hne v0 v1 v2 v3 v4 v5 v6 v7)
  have KC := Lib.hid (fun V hV => ipCall (ib := ib) (tb := tb) (st := st) (wd := wd) (ht := ht) 2 hb hn hn0 hn2 hk1 hpt V hV)
  have HTB := Lib.hid (And.intro hw1 htb)
  clear hI hb hn hk1 hw1 htb
  go_enter Tryz.func29, Tryz.ntmps29
  go_wp2
  rw [← HTB.out.1, ← HTB.out.2]
  go_region_held3 (fun w' => w'.cell? ⟨ib, 0, none⟩ = some (.slice (some ⟨pb, 0, none⟩) n n) ∧ w'.cell? ⟨ib, 1, none⟩ = some (.int .i64 (st : Int)) ∧ w'.cell? ⟨ib, 2, none⟩ = some (.int .i64 0) ∧ w'.cell? ⟨ib, 3, none⟩ = some (.int .i64 0) ∧ w'.cell? ⟨ib, 4, none⟩ = some (.int .i64 (wd : Int)) ∧ w'.cell? ⟨ib, 5, none⟩ = some (.int .i64 (ht : Int)) ∧ HasN tb 8 w' ∧ Keep (fun x _ => x = tb) w1 w')
    ((show IpS w1 ib pb tb n st wd ht _; first | with_reducible assumption | with_reducible exact KT.out _ _ _ _ _ _ _ _ _ (by assumption) | with_reducible exact KS.out _ _ (by assumption) ((Keep.refl Nil2 _).drew)))
    (first | (go_at_call 43; refine (KC.out _ (by assumption)).mono ?_; rintro e w2 ⟨g, cap, v0, v1, v2, v3, v4, v5, v6, v7, rfl, h0, h1, h2, h3, h4, h5, h6, h7, hfz, hbg, hsR⟩))
  obtain ⟨wf, hwf⟩ : ∃ wf, wf = ((((((((w2.setCell ⟨tb, 0, none⟩ (.int .i64 ((2 : Nat) : Int))).setCell ⟨tb, 1, none⟩ (.int .i64 0)).setCell ⟨tb, 2, none⟩ (.int .i64 0)).setCell ⟨tb, 3, none⟩ (.int .i64 (wd : Int))).setCell ⟨tb, 4, none⟩ (.int .i64 (ht : Int))).setCell ⟨tb, 5, none⟩ (.int .i64 (st : Int))).setCell ⟨tb, 6, none⟩ (.slice (some ⟨g, 0, none⟩) n cap)).setCell ⟨tb, 7, none⟩ (.slice none 0 0)) := ⟨_, rfl⟩
  have hsR2 := hsR
  obtain ⟨y0, y1, y2, y3, y4, y5, y6, y7, hkf⟩ := eightSet hsR2.2.2.2.2.2.2.1 _ _ _ _ _ _ _ _ hwf
  have hwf2 : wf = ((((((((w2.setCell ⟨tb, 0, none⟩ (.int .i64 2)).setCell ⟨tb, 1, none⟩ (.int .i64 0)).setCell ⟨tb, 2, none⟩ (.int .i64 0)).setCell ⟨tb, 3, none⟩ (.int .i64 (wd : Int))).setCell ⟨tb, 4, none⟩ (.int .i64 (ht : Int))).setCell ⟨tb, 5, none⟩ (.int .i64 (st : Int))).setCell ⟨tb, 6, none⟩ (.slice (some ⟨g, 0, none⟩) n cap)).setCell ⟨tb, 7, none⟩ (.slice none 0 0)) := hwf
  first | rw [← hwf] | rw [← hwf2]
  have HF := Lib.hid (And.intro hbg (And.intro hsR2.2.2.2.2.2.2.2 hkf))
  clear hwf hwf2 hkf hsR hsR2 hbg h0 h1 h2 h3 h4 h5 h6 h7 hfz hs0
  go_wp2
  refine bodyPost_ret (v := .agg #[.int .i64 ((2 : Nat) : Int), .int .i64 0, .int .i64 0, .int .i64 (wd : Int), .int .i64 (ht : Int), .int .i64 (st : Int), .slice (some ⟨g, 0, none⟩) n cap, .slice none 0 0]) ?_ rfl ?_
  · simp only [results, Tryz.f29]
    go_simp
  · have hgp : g ≠ tb := by have := HF.out.1.2.1; omega
    exact ⟨g, cap, rfl, HF.out.1.1.keep HF.out.2.2 fun _ _ e => hgp e, by have := HF.out.1.2.1; have := HK1.out.1.size; omega, HF.out.1.2.2.2, (HK1.out.1.then (F := Nil2) HF.out.2.1 (fun _ _ _ e => e) fun x _ hx e => by omega).then (F := Nil2) HF.out.2.2 (fun _ _ _ e => e) fun x _ hx e => by omega⟩
end Go.Proofs.YtnbbppjgamdfeaaGreatDoor
end

/- impl: pictureOf, kind 3. (Printed by tools/gen_r2.py.) -/
section
set_option linter.unusedVariables false
set_option linter.unusedSimpArgs false
namespace Go.Proofs.YtnbbppjgamdfeaaGreatDoor
open Go Go.RowKit

set_option maxHeartbeats 8000000 in
set_option maxRecDepth 100000 in
theorem implPic3 {w : World} {ib pb n st wd ht : Nat} {l : List UInt8} (hI : ImgAt w ib pb n st wd ht) (hb : BytesAt w pb 0 l) (hn : n = l.length) (hn0 : 0 < n) (hn2 : n ≤ 100000) :
    Calls Tryz.prog 29 #[.iface 117 (.pointer (some ⟨ib, 0, none⟩))] w fun e w' => ∃ g cap, e = .returned (picV 3 wd ht st g n cap (.slice none 0 0)) ∧ BytesAt w' g 0 l ∧ w.heap.size ≤ g ∧ n ≤ cap ∧ Keep Nil2 w w' := by
  unfold picV
  have hbw : pb < w.heap.size := hb.lt (by omega)
  obtain ⟨w1, hw1⟩ : ∃ w1, w1 = w.alloc (.cells #[.int .i64 0, .int .i64 0, .int .i64 0, .int .i64 0, .int .i64 0, .int .i64 0, .slice none 0 0, .slice none 0 0] 26) := ⟨_, rfl⟩
  obtain ⟨hs0, hk1, hne, htl⟩ := ipS_start hI hw1
  obtain ⟨tb, htb⟩ : ∃ tb, tb = w.heap.size := ⟨_, rfl⟩
  rw [← htb] at hs0 hne htl
  have hpt : pb ≠ tb := by omega
  have hwt : w.heap.size ≤ tb := by omega
  have a0 : ∀ w : World, (Instr.typeAssert (.iface 117 (.pointer (some ⟨ib, 0, none⟩))) 70 107 true).run Tryz.prog w = .ok (.tuple #[.pointer none, .bool false]) w := fun w => by kernel_rfl
  have a1 : ∀ w : World, (Instr.typeAssert (.iface 117 (.pointer (some ⟨ib, 0, none⟩))) 70 115 true).run Tryz.prog w = .ok (.tuple #[.pointer none, .bool false]) w := fun w => by kernel_rfl
  have a2 : ∀ w : World, (Instr.typeAssert (.iface 117 (.pointer (some ⟨ib, 0, none⟩))) 70 117 true).run Tryz.prog w = .ok (.tuple #[.pointer (some ⟨ib, 0, none⟩), .bool true]) w := fun w => by kernel_rfl
  have HK1 := Lib.hid (And.intro hk1 (And.intro hn hb))
  have KS := Lib.hid (fun V V' (h : IpS w1 ib pb tb n st wd ht V) (hk : Keep Nil2 V V') => ipS_keep h hk)
  have KT := Lib.hid (fun V (v0 v1 v2 v3 v4 v5 v6 v7 : Value) (h : IpS w1 ib pb tb n st wd ht V) => ipS_store h hne v0 v1 v2 v3 v4 v5 v6 v7)
  have KC := Lib.hid (fun V hV => ipCall (ib := ib) (tb := tb) (st := st) (wd := wd) (ht := ht) 3 hb hn hn0 hn2 hk1 hpt V hV)
  have HTB := Lib.hid (And.intro hw1 htb)
  clear hI hb hn hk1 hw1 htb
  go_enter Tryz.func29, Tryz.ntmps29
  go_wp2
  rw [← HTB.out.1, ← HTB.out.2]
  go_region_held3 (fun w' => w'.cell? ⟨ib, 0, none⟩ = some (.slice (some ⟨pb, 0, none⟩) n n) ∧ w'.cell? ⟨ib, 1, none⟩ = some (.int .i64 (st : Int)) ∧ w'.cell? ⟨ib, 2, none⟩ = some (.int .i64 0) ∧ w'.cell? ⟨ib, 3, none⟩ = some (.int .i64 0) ∧ w'.cell? ⟨ib, 4, none⟩ = some (.int .i64 (wd : Int)) ∧ w'.cell? ⟨ib, 5, none⟩ = some (.int .i64 (ht : Int)) ∧ HasN tb 8 w' ∧ Keep (fun x _ => x = tb) w1 w')
    ((show IpS w1 ib pb tb n st wd ht _; first | with_reducible assumption | with_reducible exact KT.out _ _ _ _ _ _ _ _ _ (by assumption) | with_reducible exact KS.out _ _ (by assumption) ((Keep.refl Nil2 _).drew)))
    (first | (go_at_call 43; refine (KC.out _ (by assumption)).mono ?_; rintro e w2 ⟨g, cap, v0, v1, v2, v3, v4, v5, v6, v7, rfl, h0, h1, h2, h3, h4, h5, h6, h7, hfz, hbg, hsR⟩))
  obtain ⟨wf, hwf⟩ : ∃ wf, wf = ((((((((w2.setCell ⟨tb, 0, none⟩ (.int .i64 ((3 : Nat) : Int))).setCell ⟨tb, 1, none⟩ (.int .i64 0)).setCell ⟨tb, 2, none⟩ (.int .i64 0)).setCell ⟨tb, 3, none⟩ (.int .i64 (wd : Int))).setCell ⟨tb, 4, none⟩ (.int .i64 (ht : Int))).setCell ⟨tb, 5, none⟩ (.int .i64 (st : Int))).setCell ⟨tb, 6, none⟩ (.slice (some ⟨g, 0, none⟩) n cap)).setCell ⟨tb, 7, none⟩ (.slice none 0 0)) := ⟨_, rfl⟩
  have hsR2 := hsR
  obtain ⟨y0, y1, y2, y3, y4, y5, y6, y7, hkf⟩ := eightSet hsR2.2.2.2.2.2.2.1 _ _ _ _ _ _ _ _ hwf
  have hwf2 : wf = ((((((((w2.setCell ⟨tb, 0, none⟩ (.int .i64 3)).setCell ⟨tb, 1, none⟩ (.int .i64 0)).setCell ⟨tb, 2, none⟩ (.int .i64 0)).setCell ⟨tb, 3, none⟩ (.int .i64 (wd : Int))).setCell ⟨tb, 4, none⟩ (.int .i64 (ht : Int))).setCell ⟨tb, 5, none⟩ (.int .i64 (st : Int))).setCell ⟨tb, 6, none⟩ (.slice (some ⟨g, 0, none⟩) n cap)).setCell ⟨tb, 7, none⟩ (.slice none 0 0)) := hwf
  first | rw [← hwf] | rw [← hwf2]
  have HF := Lib.hid (And.intro hbg (And.intro hsR2.2.2.2.2.2.2.2 hkf))
  clear hwf hwf2 hkf hsR hsR2 hbg h0 h1 h2 h3 h4 h5 h6 h7 hfz hs0
  go_wp2
  refine bodyPost_ret (v := .agg #[.int .i64 ((3 : Nat) : Int), .int .i64 0, .int .i64 0, .int .i64 (wd : Int), .int .i64 (ht : Int), .int .i64 (st : Int), .slice (some ⟨g, 0, none⟩) n cap, .slice none 0 0]) ?_ rfl ?_
  · simp only [results, Tryz.f29]
    go_simp
  · have hgp : g ≠ tb := by have := HF.out.1.2.1; omega
    exact ⟨g, cap, rfl, HF.out.1.1.keep HF.out.2.2 fun _ _ e => hgp e, by have := HF.out.1.2.1; have := HK1.out.1.size; omega, HF.out.1.2.2.2, (HK1.out.1.then (F := Nil2) HF.out.2.1 (fun _ _ _ e => e) fun x _ hx e => by omega).then (F := Nil2) HF.out.2.2 (fun _ _ _ e => e) fun x _ hx e => by omega⟩
end Go.Proofs.YtnbbppjgamdfeaaGreatDoor
end

/- impl: pictureOf, kind 4. (Printed by tools/gen_r2.py.) -/
section
set_option linter.unusedVariables false
set_option linter.unusedSimpArgs false
namespace Go.Proofs.YtnbbppjgamdfeaaGreatDoor
open Go Go.RowKit

set_option maxHeartbeats 8000000 in
set_option maxRecDepth 100000 in
theorem implPic4 {w : World} {ib pb n st wd ht : Nat} {l : List UInt8} (hI : ImgAt w ib pb n st wd ht) (hb : BytesAt w pb 0 l) (hn : n = l.length) (hn0 : 0 < n) (hn2 : n ≤ 100000) :
    Calls Tryz.prog 29 #[.iface 119 (.pointer (some ⟨ib, 0, none⟩))] w fun e w' => ∃ g cap, e = .returned (picV 4 wd ht st g n cap (.slice none 0 0)) ∧ BytesAt w' g 0 l ∧ w.heap.size ≤ g ∧ n ≤ cap ∧ Keep Nil2 w w' := by
  unfold picV
  have hbw : pb < w.heap.size := hb.lt (by omega)
  obtain ⟨w1, hw1⟩ : ∃ w1, w1 = w.alloc (.cells #[.int .i64 0, .int .i64 0, .int .i64 0, .int .i64 0, .int .i64 0, .int .i64 0, .slice none 0 0, .slice none 0 0] 26) := ⟨_, rfl⟩
  obtain ⟨hs0, hk1, hne, htl⟩ := ipS_start hI hw1
  obtain ⟨tb, htb⟩ : ∃ tb, tb = w.heap.size := ⟨_, rfl⟩
  rw [← htb] at hs0 hne htl
  have hpt : pb ≠ tb := by omega
  have hwt : w.heap.size ≤ tb := by omega
  have a0 : ∀ w : World, (Instr.typeAssert (.iface 119 (.pointer (some ⟨ib, 0, none⟩))) 70 107 true).run Tryz.prog w = .ok (.tuple #[.pointer none, .bool false]) w := fun w => by kernel_rfl
  have a1 : ∀ w : World, (Instr.typeAssert (.iface 119 (.pointer (some ⟨ib, 0, none⟩))) 70 115 true).run Tryz.prog w = .ok (.tuple #[.pointer none, .bool false]) w := fun w => by kernel_rfl
  have a2 : ∀ w : World, (Instr.typeAssert (.iface 119 (.pointer (some ⟨ib, 0, none⟩))) 70 117 true).run Tryz.prog w = .ok (.tuple #[.pointer none, .bool false]) w := fun w => by kernel_rfl
  have a3 : ∀ w : World, (Instr.typeAssert (.iface 119 (.pointer (some ⟨ib, 0, none⟩))) 70 119 true).run Tryz.prog w = .ok (.tuple #[.pointer (some ⟨ib, 0, none⟩), .bool true]) w := fun w => by kernel_rfl
  have HK1 := Lib.hid (And.intro hk1 (And.intro hn hb))
  have KS := Lib.hid (fun V V' (h : IpS w1 ib pb tb n st wd ht V) (hk : Keep Nil2 V V') => ipS_keep h hk)
  have KT := Lib.hid (fun V (v0 v1 v2 v3 v4 v5 v6 v7 : Value) (h : IpS w1 ib pb tb n st wd ht V) => ipS_store h hne v0 v1 v2 v3 v4 v5 v6 v7)
  have KC := Lib.hid (fun V hV => ipCall (ib := ib) (tb := tb) (st := st) (wd := wd) (ht := ht) 4 hb hn hn0 hn2 hk1 hpt V hV)
  have HTB := Lib.hid (And.intro hw1 htb)
  clear hI hb hn hk1 hw1 htb
  go_enter Tryz.func29, Tryz.ntmps29
  go_wp2
  rw [← HTB.out.1, ← HTB.out.2]
  go_region_held3 (fun w' => w'.cell? ⟨ib, 0, none⟩ = some (.slice (some ⟨pb, 0, none⟩) n n) ∧ w'.cell? ⟨ib, 1, none⟩ = some (.int .i64 (st : Int)) ∧ w'.cell? ⟨ib, 2, none⟩ = some (.int .i64 0) ∧ w'.cell? ⟨ib, 3, none⟩ = some (.int .i64 0) ∧ w'.cell? ⟨ib, 4, none⟩ = some (.int .i64 (wd : Int)) ∧ w'.cell? ⟨ib, 5, none⟩ = some (.int .i64 (ht : Int)) ∧ HasN tb 8 w' ∧ Keep (fun x _ => x = tb) w1 w')
    ((show IpS w1 ib pb tb n st wd ht _; first | with_reducible assumption | with_reducible exact KT.out _ _ _ _ _ _ _ _ _ (by assumption) | with_reducible exact KS.out _ _ (by assumption) ((Keep.refl Nil2 _).drew)))
    (first | (go_at_call 43; refine (KC.out _ (by assumption)).mono ?_; rintro e w2 ⟨g, cap, v0, v1, v2, v3, v4, v5, v6, v7, rfl, h0, h1, h2, h3, h4, h5, h6, h7, hfz, hbg, hsR⟩))
  obtain ⟨wf, hwf⟩ : ∃ wf, wf = ((((((((w2.setCell ⟨tb, 0, none⟩ (.int .i64 ((4 : Nat) : Int))).setCell ⟨tb, 1, none⟩ (.int .i64 0)).setCell ⟨tb, 2, none⟩ (.int .i64 0)).setCell ⟨tb, 3, none⟩ (.int .i64 (wd : Int))).setCell ⟨tb, 4, none⟩ (.int .i64 (ht : Int))).setCell ⟨tb, 5, none⟩ (.int .i64 (st : Int))).setCell ⟨tb, 6, none⟩ (.slice (some ⟨g, 0, none⟩) n cap)).setCell ⟨tb, 7, none⟩ (.slice none 0 0)) := ⟨_, rfl⟩
  have hsR2 := hsR
  obtain ⟨y0, y1, y2, y3, y4, y5, y6, y7, hkf⟩ := eightSet hsR2.2.2.2.2.2.2.1 _ _ _ _ _ _ _ _ hwf
  have hwf2 : wf = ((((((((w2.setCell ⟨tb, 0, none⟩ (.int .i64 4)).setCell ⟨tb, 1, none⟩ (.int .i64 0)).setCell ⟨tb, 2, none⟩ (.int .i64 0)).setCell ⟨tb, 3, none⟩ (.int .i64 (wd : Int))).setCell ⟨tb, 4, none⟩ (.int .i64 (ht : Int))).setCell ⟨tb, 5, none⟩ (.int .i64 (st : Int))).setCell ⟨tb, 6, none⟩ (.slice (some ⟨g, 0, none⟩) n cap)).setCell ⟨tb, 7, none⟩ (.slice none 0 0)) := hwf
  first | rw [← hwf] | rw [← hwf2]
  have HF := Lib.hid (And.intro hbg (And.intro hsR2.2.2.2.2.2.2.2 hkf))
  clear hwf hwf2 hkf hsR hsR2 hbg h0 h1 h2 h3 h4 h5 h6 h7 hfz hs0
  go_wp2
  refine bodyPost_ret (v := .agg #[.int .i64 ((4 : Nat) : Int), .int .i64 0, .int .i64 0, .int .i64 (wd : Int), .int .i64 (ht : Int), .int .i64 (st : Int), .slice (some ⟨g, 0, none⟩) n cap, .slice none 0 0]) ?_ rfl ?_
  · simp only [results, Tryz.f29]
    go_simp
  · have hgp : g ≠ tb := by have := HF.out.1.2.1; omega
    exact ⟨g, cap, rfl, HF.out.1.1.keep HF.out.2.2 fun _ _ e => hgp e, by have := HF.out.1.2.1; have := HK1.out.1.size; omega, HF.out.1.2.2.2, (HK1.out.1.then (F := Nil2) HF.out.2.1 (fun _ _ _ e => e) fun x _ hx e => by omega).then (F := Nil2) HF.out.2.2 (fun _ _ _ e => e) fun x _ hx e => by omega⟩
end Go.Proofs.YtnbbppjgamdfeaaGreatDoor
end

/- impl: pictureOf, kind 5. (Printed by tools/gen_r2.py.) -/
section
set_option linter.unusedVariables false
set_option linter.unusedSimpArgs false
namespace Go.Proofs.YtnbbppjgamdfeaaGreatDoor
open Go Go.RowKit

set_option maxHeartbeats 8000000 in
set_option maxRecDepth 100000 in
theorem implPic5 {w : World} {ib pb n st wd ht : Nat} {l : List UInt8} (hI : ImgAt w ib pb n st wd ht) (hb : BytesAt w pb 0 l) (hn : n = l.length) (hn0 : 0 < n) (hn2 : n ≤ 100000) :
    Calls Tryz.prog 29 #[.iface 121 (.pointer (some ⟨ib, 0, none⟩))] w fun e w' => ∃ g cap, e = .returned (picV 5 wd ht st g n cap (.slice none 0 0)) ∧ BytesAt w' g 0 l ∧ w.heap.size ≤ g ∧ n ≤ cap ∧ Keep Nil2 w w' := by
  unfold picV
  have hbw : pb < w.heap.size := hb.lt (by omega)
  obtain ⟨w1, hw1⟩ : ∃ w1, w1 = w.alloc (.cells #[.int .i64 0, .int .i64 0, .int .i64 0, .int .i64 0, .int .i64 0, .int .i64 0, .slice none 0 0, .slice none 0 0] 26) := ⟨_, rfl⟩
  obtain ⟨hs0, hk1, hne, htl⟩ := ipS_start hI hw1
  obtain ⟨tb, htb⟩ : ∃ tb, tb = w.heap.size := ⟨_, rfl⟩
  rw [← htb] at hs0 hne htl
  have hpt : pb ≠ tb := by omega
  have hwt : w.heap.size ≤ tb := by omega
  have a0 : ∀ w : World, (Instr.typeAssert (.iface 121 (.pointer (some ⟨ib, 0, none⟩))) 70 107 true).run Tryz.prog w = .ok (.tuple #[.pointer none, .bool false]) w := fun w => by kernel_rfl
  have a1 : ∀ w : World, (Instr.typeAssert (.iface 121 (.pointer (some ⟨ib, 0, none⟩))) 70 115 true).run Tryz.prog w = .ok (.tuple #[.pointer none, .bool false]) w := fun w => by kernel_rfl
  have a2 : ∀ w : World, (Instr.typeAssert (.iface 121 (.pointer (some ⟨ib, 0, none⟩))) 70 117 true).run Tryz.prog w = .ok (.tuple #[.pointer none, .bool false]) w := fun w => by kernel_rfl
  have a3 : ∀ w : World, (Instr.typeAssert (.iface 121 (.pointer (some ⟨ib, 0, none⟩))) 70 119 true).run Tryz.prog w = .ok (.tuple #[.pointer none, .bool false]) w := fun w => by kernel_rfl
  have a4 : ∀ w : World, (Instr.typeAssert (.iface 121 (.pointer (some ⟨ib, 0, none⟩))) 70 121 true).run Tryz.prog w = .ok (.tuple #[.pointer (some ⟨ib, 0, none⟩), .bool true]) w := fun w => by kernel_rfl
  have HK1 := Lib.hid (And.intro hk1 (And.intro hn hb))
  have KS := Lib.hid (fun V V' (h : IpS w1 ib pb tb n st wd ht V) (hk : Keep Nil2 V V') => ipS_keep h hk)
  have KT := Lib.hid (fun V (v0 v1 v2 v3 v4 v5 v6 v7 : Value) (h : IpS w1 ib pb tb n st wd ht V) => ipS_store h hne v0 v1 v2 v3 v4 v5 v6 v7)
  have KC := Lib.hid (fun V hV => ipCall (ib := ib) (tb := tb) (st := st) (wd := wd) (ht := ht) 5 hb hn hn0 hn2 hk1 hpt V hV)
  have HTB := Lib.hid (And.intro hw1 htb)
  clear hI hb hn hk1 hw1 htb
  go_enter Tryz.func29, Tryz.ntmps29
  go_wp2
  rw [← HTB.out.1, ← HTB.out.2]
  go_region_held3 (fun w' => w'.cell? ⟨ib, 0, none⟩ = some (.slice (some ⟨pb, 0, none⟩) n n) ∧ w'.cell? ⟨ib, 1, none⟩ = some (.int .i64 (st : Int)) ∧ w'.cell? ⟨ib, 2, none⟩ = some (.int .i64 0) ∧ w'.cell? ⟨ib, 3, none⟩ = some (.int .i64 0) ∧ w'.cell? ⟨ib, 4, none⟩ = some (.int .i64 (wd : Int)) ∧ w'.cell? ⟨ib, 5, none⟩ = some (.int .i64 (ht : Int)) ∧ HasN tb 8 w' ∧ Keep (fun x _ => x = tb) w1 w')
    ((show IpS w1 ib pb tb n st wd ht _; first | with_reducible assumption | with_reducible exact KT.out _ _ _ _ _ _ _ _ _ (by assumption) | with_reducible exact KS.out _ _ (by assumption) ((Keep.refl Nil2 _).drew)))
    (first | (go_at_call 43; refine (KC.out _ (by assumption)).mono ?_; rintro e w2 ⟨g, cap, v0, v1, v2, v3, v4, v5, v6, v7, rfl, h0, h1, h2, h3, h4, h5, h6, h7, hfz, hbg, hsR⟩))
  obtain ⟨wf, hwf⟩ : ∃ wf, wf = ((((((((w2.setCell ⟨tb, 0, none⟩ (.int .i64 ((5 : Nat) : Int))).setCell ⟨tb, 1, none⟩ (.int .i64 0)).setCell ⟨tb, 2, none⟩ (.int .i64 0)).setCell ⟨tb, 3, none⟩ (.int .i64 (wd : Int))).setCell ⟨tb, 4, none⟩ (.int .i64 (ht : Int))).setCell ⟨tb, 5, none⟩ (.int .i64 (st : Int))).setCell ⟨tb, 6, none⟩ (.slice (some ⟨g, 0, none⟩) n cap)).setCell ⟨tb, 7, none⟩ (.slice none 0 0)) := ⟨_, rfl⟩
  have hsR2 := hsR
  obtain ⟨y0, y1, y2, y3, y4, y5, y6, y7, hkf⟩ := eightSet hsR2.2.2.2.2.2.2.1 _ _ _ _ _ _ _ _ hwf
  have hwf2 : wf = ((((((((w2.setCell ⟨tb, 0, none⟩ (.int .i64 5)).setCell ⟨tb, 1, none⟩ (.int .i64 0)).setCell ⟨tb, 2, none⟩ (.int .i64 0)).setCell ⟨tb, 3, none⟩ (.int .i64 (wd : Int))).setCell ⟨tb, 4, none⟩ (.int .i64 (ht : Int))).setCell ⟨tb, 5, none⟩ (.int .i64 (st : Int))).setCell ⟨tb, 6, none⟩ (.slice (some ⟨g, 0, none⟩) n cap)).setCell ⟨tb, 7, none⟩ (.slice none 0 0)) := hwf
  first | rw [← hwf] | rw [← hwf2]
  have HF := Lib.hid (And.intro hbg (And.intro hsR2.2.2.2.2.2.2.2 hkf))
  clear hwf hwf2 hkf hsR hsR2 hbg h0 h1 h2 h3 h4 h5 h6 h7 hfz hs0
  go_wp2
  refine bodyPost_ret (v := .agg #[.int .i64 ((5 : Nat) : Int), .int .i64 0, .int .i64 0, .int .i64 (wd : Int), .int .i64 (ht : Int), .int .i64 (st : Int), .slice (some ⟨g, 0, none⟩) n cap, .slice none 0 0]) ?_ rfl ?_
  · simp only [results, Tryz.f29]
    go_simp
  · have hgp : g ≠ tb := by have := HF.out.1.2.1; omega
    exact ⟨g, cap, rfl, HF.out.1.1.keep HF.out.2.2 fun _ _ e => hgp e, by have := HF.out.1.2.1; have := HK1.out.1.size; omega, HF.out.1.2.2.2, (HK1.out.1.then (F := Nil2) HF.out.2.1 (fun _ _ _ e => e) fun x _ hx e => by omega).then (F := Nil2) HF.out.2.2 (fun _ _ _ e => e) fun x _ hx e => by omega⟩
end Go.Proofs.YtnbbppjgamdfeaaGreatDoor
end

/- impl: pictureOf, kind 6. (Printed by tools/gen_r2.py.) -/
section
set_option linter.unusedVariables false
set_option linter.unusedSimpArgs false
namespace Go.Proofs.YtnbbppjgamdfeaaGreatDoor
open Go Go.RowKit

set_option maxHeartbeats 8000000 in
set_option maxRecDepth 100000 in
theorem implPic6 {w : World} {ib pb n st wd ht : Nat} {l : List UInt8} (hI : ImgAt w ib pb n st wd ht) (hb : BytesAt w pb 0 l) (hn : n = l.length) (hn0 : 0 < n) (hn2 : n ≤ 100000) :
    Calls Tryz.prog 29 #[.iface 123 (.pointer (some ⟨ib, 0, none⟩))] w fun e w' => ∃ g cap, e = .returned (picV 6 wd ht st g n cap (.slice none 0 0)) ∧ BytesAt w' g 0 l ∧ w.heap.size ≤ g ∧ n ≤ cap ∧ Keep Nil2 w w' := by
  unfold picV
  have hbw : pb < w.heap.size := hb.lt (by omega)
  obtain ⟨w1, hw1⟩ : ∃ w1, w1 = w.alloc (.cells #[.int .i64 0, .int .i64 0, .int .i64 0, .int .i64 0, .int .i64 0, .int .i64 0, .slice none 0 0, .slice none 0 0] 26) := ⟨_, rfl⟩
  obtain ⟨hs0, hk1, hne, htl⟩ := ipS_start hI hw1
  obtain ⟨tb, htb⟩ : ∃ tb, tb = w.heap.size := ⟨_, rfl⟩
  rw [← htb] at hs0 hne htl
  have hpt : pb ≠ tb := by omega
  have hwt : w.heap.size ≤ tb := by omega
  have a0 : ∀ w : World, (Instr.typeAssert (.iface 123 (.pointer (some ⟨ib, 0, none⟩))) 70 107 true).run Tryz.prog w = .ok (.tuple #[.pointer none, .bool false]) w := fun w => by kernel_rfl
  have a1 : ∀ w : World, (Instr.typeAssert (.iface 123 (.pointer (some ⟨ib, 0, none⟩))) 70 115 true).run Tryz.prog w = .ok (.tuple #[.pointer none, .bool false]) w := fun w => by kernel_rfl
  have a2 : ∀ w : World, (Instr.typeAssert (.iface 123 (.pointer (some ⟨ib, 0, none⟩))) 70 117 true).run Tryz.prog w = .ok (.tuple #[.pointer none, .bool false]) w := fun w => by kernel_rfl
  have a3 : ∀ w : World, (Instr.typeAssert (.iface 123 (.pointer (some ⟨ib, 0, none⟩))) 70 119 true).run Tryz.prog w = .ok (.tuple #[.pointer none, .bool false]) w := fun w => by kernel_rfl
  have a4 : ∀ w : World, (Instr.typeAssert (.iface 123 (.pointer (some ⟨ib, 0, none⟩))) 70 121 true).run Tryz.prog w = .ok (.tuple #[.pointer none, .bool false]) w := fun w => by kernel_rfl
  have a5 : ∀ w : World, (Instr.typeAssert (.iface 123 (.pointer (some ⟨ib, 0, none⟩))) 70 123 true).run Tryz.prog w = .ok (.tuple #[.pointer (some ⟨ib, 0, none⟩), .bool true]) w := fun w => by kernel_rfl
  have HK1 := Lib.hid (And.intro hk1 (And.intro hn hb))
  have KS := Lib.hid (fun V V' (h : IpS w1 ib pb tb n st wd ht V) (hk : Keep Nil2 V V') => ipS_keep h hk)
  have KT := Lib.hid (fun V (v0 v1 v2 v3 v4 v5 v6 v7 : Value) (h : IpS w1 ib pb tb n st wd ht V) => ipS_store h hne v0 v1 v2 v3 v4 v5 v6 v7)
  have KC := Lib.hid (fun V hV => ipCall (ib := ib) (tb := tb) (st := st) (wd := wd) (ht := ht) 6 hb hn hn0 hn2 hk1 hpt V hV)
  have HTB := Lib.hid (And.intro hw1 htb)
  clear hI hb hn hk1 hw1 htb
  go_enter Tryz.func29, Tryz.ntmps29
  go_wp2
  rw [← HTB.out.1, ← HTB.out.2]
  go_region_held3 (fun w' => w'.cell? ⟨ib, 0, none⟩ = some (.slice (some ⟨pb, 0, none⟩) n n) ∧ w'.cell? ⟨ib, 1, none⟩ = some (.int .i64 (st : Int)) ∧ w'.cell? ⟨ib, 2, none⟩ = some (.int .i64 0) ∧ w'.cell? ⟨ib, 3, none⟩ = some (.int .i64 0) ∧ w'.cell? ⟨ib, 4, none⟩ = some (.int .i64 (wd : Int)) ∧ w'.cell? ⟨ib, 5, none⟩ = some (.int .i64 (ht : Int)) ∧ HasN tb 8 w' ∧ Keep (fun x _ => x = tb) w1 w')
    ((show IpS w1 ib pb tb n st wd ht _; first | with_reducible assumption | with_reducible exact KT.out _ _ _ _ _ _ _ _ _ (by assumption) | with_reducible exact KS.out _ _ (by assumption) ((Keep.refl Nil2 _).drew)))
    (first | (go_at_call 43; refine (KC.out _ (by assumption)).mono ?_; rintro e w2 ⟨g, cap, v0, v1, v2, v3, v4, v5, v6, v7, rfl, h0, h1, h2, h3, h4, h5, h6, h7, hfz, hbg, hsR⟩))
  obtain ⟨wf, hwf⟩ : ∃ wf, wf = ((((((((w2.setCell ⟨tb, 0, none⟩ (.int .i64 ((6 : Nat) : Int))).setCell ⟨tb, 1, none⟩ (.int .i64 0)).setCell ⟨tb, 2, none⟩ (.int .i64 0)).setCell ⟨tb, 3, none⟩ (.int .i64 (wd : Int))).setCell ⟨tb, 4, none⟩ (.int .i64 (ht : Int))).setCell ⟨tb, 5, none⟩ (.int .i64 (st : Int))).setCell ⟨tb, 6, none⟩ (.slice (some ⟨g, 0, none⟩) n cap)).setCell ⟨tb, 7, none⟩ (.slice none 0 0)) := ⟨_, rfl⟩
  have hsR2 := hsR
  obtain ⟨y0, y1, y2, y3, y4, y5, y6, y7, hkf⟩ := eightSet hsR2.2.2.2.2.2.2.1 _ _ _ _ _ _ _ _ hwf
  have hwf2 : wf = ((((((((w2.setCell ⟨tb, 0, none⟩ (.int .i64 6)).setCell ⟨tb, 1, none⟩ (.int .i64 0)).setCell ⟨tb, 2, none⟩ (.int .i64 0)).setCell ⟨tb, 3, none⟩ (.int .i64 (wd : Int))).setCell ⟨tb, 4, none⟩ (.int .i64 (ht : Int))).setCell ⟨tb, 5, none⟩ (.int .i64 (st : Int))).setCell ⟨tb, 6, none⟩ (.slice (some ⟨g, 0, none⟩) n cap)).setCell ⟨tb, 7, none⟩ (.slice none 0 0)) := hwf
  first | rw [← hwf] | rw [← hwf2]
  have HF := Lib.hid (And.intro hbg (And.intro hsR2.2.2.2.2.2.2.2 hkf))
  clear hwf hwf2 hkf hsR hsR2 hbg h0 h1 h2 h3 h4 h5 h6 h7 hfz hs0
  go_wp2
  refine bodyPost_ret (v := .agg #[.int .i64 ((6 : Nat) : Int), .int .i64 0, .int .i64 0, .int .i64 (wd : Int), .int .i64 (ht : Int), .int .i64 (st : Int), .slice (some ⟨g, 0, none⟩) n cap, .slice none 0 0]) ?_ rfl ?_
  · simp only [results, Tryz.f29]
    go_simp
  · have hgp : g ≠ tb := by have := HF.out.1.2.1; omega
    exact ⟨g, cap, rfl, HF.out.1.1.keep HF.out.2.2 fun _ _ e => hgp e, by have := HF.out.1.2.1; have := HK1.out.1.size; omega, HF.out.1.2.2.2, (HK1.out.1.then (F := Nil2) HF.out.2.1 (fun _ _ _ e => e) fun x _ hx e => by omega).then (F := Nil2) HF.out.2.2 (fun _ _ _ e => e) fun x _ hx e => by omega⟩
end Go.Proofs.YtnbbppjgamdfeaaGreatDoor
end
