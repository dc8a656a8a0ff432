/- laws.FnBack, part 48 of 54: R5 R6 R4. -/
import Derived.Test.YtnbbppjgamdfeaaGreatDoorY16
import Derived.Test.YtnbbppjgamdfeaaGreatDoorY05
import Derived.Test.YtnbbppjgamdfeaaGreatDoorY32
import Derived.Test.YtnbbppjgamdfeaaGreatDoorY33
import Derived.Test.YtnbbppjgamdfeaaGreatDoorY14
import Derived.Test.YtnbbppjgamdfeaaGreatDoorY27
import Derived.Test.YtnbbppjgamdfeaaGreatDoorY41
import Derived.Test.YtnbbppjgamdfeaaGreatDoorY17

/- The reference's Exact. -/
section
set_option linter.unusedVariables false
set_option linter.unusedSimpArgs false
namespace Go.Proofs.YtnbbppjgamdfeaaGreatDoor
open Go Go.RowKit

/-- Two rows of the call's own that do not meet. -/
def TwoB (w : World) (base : Nat) (u v : Value) (l m : List UInt8) : Prop := OwnB w base u l ∧ OwnB w base v m ∧ ∀ k, u.ownBlock = some k → v.ownBlock ≠ some k
theorem TwoB.keep {w w' : World} {base : Nat} {u v : Value} {l m : List UInt8} (h : TwoB w base u v l m) (hk : Keep Nil2 w w') : TwoB w' base u v l m := ⟨h.1.keep hk fun _ _ _ e => e, h.2.1.keep hk fun _ _ _ e => e, h.2.2⟩
/-- What stands of the world while a colour is laid. -/
def ExS (w : World) (tb base : Nat) (r g b a : Nat) (u v : Value) (l m : List UInt8) (w' : World) : Prop :=
  w'.cell? ⟨tb, 0, none⟩ = some (.int .u8 (r : Int)) ∧ w'.cell? ⟨tb, 1, none⟩ = some (.int .u8 (g : Int)) ∧ w'.cell? ⟨tb, 2, none⟩ = some (.int .u8 (b : Int)) ∧ w'.cell? ⟨tb, 3, none⟩ = some (.int .u8 (a : Int)) ∧ TwoB w' base u v l m ∧ tb < w'.heap.size ∧ Keep (fun k _ => u.ownBlock = some k ∨ v.ownBlock = some k) w w'
theorem exS_keep {w : World} {tb base r g b a : Nat} {u v : Value} {l m : List UInt8} {V V' : World} (h : ExS w tb base r g b a u v l m V) (hk : Keep Nil2 V V') : ExS w tb base r g b a u v l m V' :=
  ⟨hk.get h.1 fun e => e, hk.get h.2.1 fun e => e, hk.get h.2.2.1 fun e => e, hk.get h.2.2.2.1 fun e => e, h.2.2.2.2.1.keep hk, Nat.lt_of_lt_of_le h.2.2.2.2.2.1 hk.size, h.2.2.2.2.2.2.trans (hk.mono fun _ _ _ e => e.elim)⟩
theorem exS_appU {w : World} {tb base r g b a : Nat} {u v : Value} {l m : List UInt8} {V V' : World} (h : ExS w tb base r g b a u v l m V) (hk : Keep (fun k _ => u.ownBlock = some k) V V') (ho : OwnB V' base u l) (hut : u.ownBlock ≠ some tb) : ExS w tb base r g b a u v l m V' :=
  ⟨hk.get h.1 hut, hk.get h.2.1 hut, hk.get h.2.2.1 hut, hk.get h.2.2.2.1 hut, ⟨ho, h.2.2.2.2.1.2.1.keep' hk fun k o e e' => h.2.2.2.2.1.2.2 k e' e, h.2.2.2.2.1.2.2⟩, Nat.lt_of_lt_of_le h.2.2.2.2.2.1 hk.size, h.2.2.2.2.2.2.trans (hk.mono fun _ _ _ e => .inl e)⟩
theorem exS_appV {w : World} {tb base r g b a : Nat} {u v : Value} {l m : List UInt8} {V V' : World} (h : ExS w tb base r g b a u v l m V) (hk : Keep (fun k _ => v.ownBlock = some k) V V') (ho : OwnB V' base v m) (hvt : v.ownBlock ≠ some tb) : ExS w tb base r g b a u v l m V' :=
  ⟨hk.get h.1 hvt, hk.get h.2.1 hvt, hk.get h.2.2.1 hvt, hk.get h.2.2.2.1 hvt, ⟨h.2.2.2.2.1.1.keep' hk fun k o e e' => h.2.2.2.2.1.2.2 k e e', ho, h.2.2.2.2.1.2.2⟩, Nat.lt_of_lt_of_le h.2.2.2.2.2.1 hk.size, h.2.2.2.2.2.2.trans (hk.mono fun _ _ _ e => .inr e)⟩
/-- A row that was appended to still does not meet the other one. -/
theorem at_apart {w : World} {base : Nat} {u u' v : Value} {l m : List UInt8} (h : TwoB w base u v l m) (ha : AtOld w u u') : ∀ k, u'.ownBlock = some k → v.ownBlock ≠ some k := fun k e e' => by
  rcases ha with ha | ha
  · exact h.2.2 k (by rw [← ha]; exact e) e'
  · have := (h.2.1.block_ge k e').2
    rw [ha] at e
    injection e with e
    omega
theorem TwoB.swap {w : World} {base : Nat} {u v : Value} {l m : List UInt8} (h : TwoB w base u v l m) : TwoB w base v u m l := ⟨h.2.1, h.1, fun k e e' => h.2.2 k e' e⟩

/-- Both rows were appended to, one behind the other. -/
theorem twoApp {V V3 wA wB : World} {bs : Nat} {u v vA vB : Value} {l m la mb : List UInt8} (hT : TwoB V bs u v l m) (hA1 : OwnB wA bs vA la) (hA4 : AtOld V u vA) (hn : Keep Nil2 wA V3) (hB1 : OwnB wB bs vB mb) (hB2 : Keep (fun k _ => v.ownBlock = some k) V3 wB) (hB4 : AtOld V3 v vB) : TwoB wB bs vA vB la mb := by
  have hap := at_apart hT hA4
  refine ⟨(hA1.keep hn fun _ _ _ e => e).keep' hB2 fun k o e e' => hap k e e', hB1, fun k e e' => ?_⟩
  rcases hB4 with h | h
  · exact hap k e (by rw [← h]; exact e')
  · have h1 := (hA1.block_ge k e).2
    have h2 := hn.size
    rw [h] at e'
    injection e' with e'
    omega
theorem exS_nil {w0 w : World} {tb bs r g b a : Nat} {u v : Value} {l m : List UInt8} {V : World} (h : ExS w tb bs r g b a u v l m V) (hk : Keep Nil2 w0 w) (hb : w0.heap.size ≤ bs) : Keep Nil2 w0 V :=
  hk.then h.2.2.2.2.2.2 (fun _ _ _ e => e) fun i _ hi e => by
    rcases e with e | e
    · have := (h.2.2.2.2.1.1.block_ge i e).1; omega
    · have := (h.2.2.2.2.1.2.1.block_ge i e).1; omega
theorem info49 : (Tryz.prog.info? 49).map (fun i => (i.zero, i.size, i.bytes)) = some (some (.agg #[.int .u8 0, .int .u8 0, .int .u8 0, .int .u8 0]), 4, 4) := by kernel_rfl
theorem shadeCells_get (pal : List Shade4) (k : Nat) (s : Shade4) (h : pal[k]? = some s) (j : Nat) (hj : j < 4) : (shadeCells pal)[k * 4 + j]? = (shadeCell s)[j]? := by
  induction pal generalizing k with
  | nil => simp at h
  | cons p l ih =>
    have e : shadeCells (p :: l) = shadeCell p ++ shadeCells l := rfl
    cases k with
    | zero =>
      simp only [List.getElem?_cons_zero] at h
      injection h with h
      subst h
      rw [e, List.getElem?_append_left (by simp [shadeCell]; omega), Nat.zero_mul, Nat.zero_add]
    | succ k =>
      simp only [List.getElem?_cons_succ] at h
      rw [e, List.getElem?_append_right (by simp [shadeCell]; omega)]
      have := ih k h
      rw [show (k + 1) * 4 + j - (shadeCell p).length = k * 4 + j by simp [shadeCell]; omega]
      exact this
/-- A shade's four cells. -/
theorem CellsAt.shade {w : World} {b o : Nat} {pal : List Shade4} (h : CellsAt w b o (shadeCells pal)) (k : Nat) (s : Shade4) (hs : pal[k]? = some s) :
    w.cell? ⟨b, o + k * 4, none⟩ = some (.int .u8 (s.1.toNat : Int)) ∧ w.cell? ⟨b, o + k * 4 + 1, none⟩ = some (.int .u8 (s.2.1.toNat : Int)) ∧ w.cell? ⟨b, o + k * 4 + 2, none⟩ = some (.int .u8 (s.2.2.1.toNat : Int)) ∧ w.cell? ⟨b, o + k * 4 + 3, none⟩ = some (.int .u8 (s.2.2.2.toNat : Int)) := by
  have key := fun j hj => shadeCells_get pal k s hs j hj
  exact ⟨h (k * 4 + 0) _ (key 0 (by omega)), h (k * 4 + 1) _ (key 1 (by omega)), h (k * 4 + 2) _ (key 2 (by omega)), h (k * 4 + 3) _ (key 3 (by omega))⟩
theorem shadesB_take (pal : List Shade4) (k : Nat) (s : Shade4) (h : pal[k]? = some s) : shadesB (pal.take (k + 1)) = shadesB (pal.take k) ++ [s.1, s.2.1, s.2.2.1] := by
  unfold shadesB
  rw [List.take_add_one, h, List.flatMap_append]
  simp
theorem clearsB_take (pal : List Shade4) (k : Nat) (s : Shade4) (h : pal[k]? = some s) : clearsB (pal.take (k + 1)) = clearsB (pal.take k) ++ [s.2.2.2] := by
  unfold clearsB
  rw [List.take_add_one, h, List.map_append]
  rfl
theorem lastClear_succ (pal : List Shade4) (k : Nat) (s : Shade4) (h : pal[k]? = some s) : lastClear pal (k + 1) = if s.2.2.2 ≠ 255 then k + 1 else lastClear pal k := by
  simp only [lastClear]
  rw [List.getD_eq_getElem?_getD, h]
  rfl
end Go.Proofs.YtnbbppjgamdfeaaGreatDoor
end

/- The reference's Exact: the file. (Printed by tools/gen_r6.py.) -/
section
set_option linter.unusedVariables false
set_option linter.unusedSimpArgs false
namespace Go.Proofs.YtnbbppjgamdfeaaGreatDoor
open Go Go.RowKit

/-- The file so far; the rows. -/
structure ExT (m : Nat) (w0 : World) (bo : Nat) (v1 : Value) (R : List UInt8) (w : World) (v : Value) (X : List UInt8) : Prop where
  own : OwnB w bo v X
  rows : OwnB w w0.heap.size v1 R
  kp : Keep Nil2 w0 w
  base : bo ≤ w.heap.size
  lt : ∀ k, v1.ownBlock = some k → k < bo
  ge : w0.heap.size ≤ bo
  small : X.length ≤ m
theorem ExT.keep {m : Nat} {w0 w w' : World} {bo : Nat} {v1 v : Value} {R X : List UInt8} (h : ExT m w0 bo v1 R w v X) (hk : Keep Nil2 w w') : ExT m w0 bo v1 R w' v X :=
  ⟨h.own.keep hk fun _ _ _ e => e, h.rows.keep hk fun _ _ _ e => e, h.kp.trans hk, Nat.le_trans h.base hk.size, h.lt, h.ge, h.small⟩
theorem ExT.app {m m' : Nat} {w0 w w' : World} {bo : Nat} {v1 v v' : Value} {R X Y : List UInt8} (h : ExT m w0 bo v1 R w v X) (hk : Keep (fun k _ => v.ownBlock = some k) w w') (ho : OwnB w' bo v' Y) (hs : Y.length ≤ m') : ExT m' w0 bo v1 R w' v' Y :=
  ⟨ho, h.rows.keep' hk fun k o e e' => by have := h.lt k e; have := (h.own.block_ge k e').1; omega, keep_lay h.kp h.own hk h.ge, Nat.le_trans h.base hk.size, h.lt, h.ge, hs⟩

/-- A literal's bytes. -/
theorem litB (V : World) (cs : Array Value) (l : List UInt8) (h : cs.toList = bytesV l) {g : Nat} (hg : V.heap.size = g) : BytesAt (V.alloc (.cells cs 5)) g 0 l := by
  subst hg
  refine CellsAt.bytes ?_
  have := CellsAt.lit V cs 5
  rwa [h] at this

/-- The file was handed back. -/
def ExPost (w : World) (kind wide high : Nat) (pal : List Shade4) (e : Ending) (w' : World) : Prop := ∃ (v : Value) (depth colour : Nat) (R : List UInt8), e = .returned v ∧ OwnB w' w.heap.size v (fileB wide high depth colour R pal) ∧ RowsOk wide high depth colour pal.length R ∧ (colour = 3 ↔ kind = 7) ∧ Keep Nil2 w w'

set_option maxHeartbeats 8000000 in
set_option maxRecDepth 100000 in
theorem specExact {w : World} (kind wide high stride b o n c : Nat) (hk : 1 ≤ kind ∧ kind ≤ 7) (l : List UInt8) (hb : BytesAt w b o l) (hn : n = l.length) (hl : l.length = stride * high) (hs : wide * pixN kind ≤ stride) (hw : 1 ≤ wide ∧ wide ≤ 60) (hh : 1 ≤ high ∧ high ≤ 60) (hst : stride ≤ 1000) (hnc : n ≤ c)
    (pal : List Shade4) (pg po pc np : Nat) (hnp : np = pal.length) (hp : CellsAt w pg po (shadeCells pal)) (hcol : np ≤ 200) (hpal : kind = 7 → 1 ≤ np ∧ ∀ x ∈ l, x.toNat < np) :
    Calls Tryz.prog 11 #[.int .i64 (kind : Int), .int .i64 (wide : Int), .int .i64 (high : Int), .int .i64 (stride : Int), .slice (some ⟨b, o, none⟩) n c, .slice (some ⟨pg, po, none⟩) np pc] w (ExPost w kind wide high pal) := by
  have KR := Lib.hid (specRows kind wide high stride b o n c np hk l hb hn hl hs hw hh hst hnc hcol hpal)
  have HNP := Lib.hid (And.intro hnp hp)
  have ew : IntKind.u32.wrap (wide : Int) = (wide : Int) := IntWalk.u32_in _ (by omega)
  have eh : IntKind.u32.wrap (high : Int) = (high : Int) := IntWalk.u32_in _ (by omega)
  clear hb hn hl hs hnp hp
  go_enter Tryz.func11, Tryz.ntmps11
  go_wp2_with (go_at_call 19; fail)
  refine KR.out.mono ?_
  rintro e w1 ⟨v1, depth, colour, R, rfl, hm1, hok, hc7⟩
  rw [HNP.out.1] at hok
  have hd16 : depth ≤ 16 ∧ colour ≤ 6 := by have := hok.kind; omega
  have HR1 := Lib.hid hm1
  have HOK := Lib.hid (And.intro hok hc7)
  have HR0 := Lib.hid hok.len_le.2
  clear hm1 hok hc7
  go_wp2_with (go_at_call 12; fail)
  refine (specSig w1).mono ?_
  rintro e w2 ⟨sg, rfl, hsg, hk2⟩
  obtain ⟨bo, hbo⟩ : ∃ bo, bo = w1.heap.size := ⟨_, rfl⟩
  rw [← hbo] at hsg
  have HBO := Lib.hid (show w.heap.size ≤ bo by rw [hbo]; exact HR1.out.2.size)
  have H2 := Lib.hid (show ExT 8 w bo v1 R w2 (.slice (some ⟨sg, 0, none⟩) 8 8) sigB from
    ⟨hsg, HR1.out.1.keep hk2 fun _ _ _ e => e, HR1.out.2.trans hk2, by rw [hbo]; exact hk2.size, fun k e => by rw [hbo]; exact (HR1.out.1.block_ge k e).2, HBO.out, by decide⟩)
  clear hsg hk2 hbo
  go_wp2_with (go_at_call 21; fail)
  refine (specWriteHead w2 wide high depth colour (by omega) (by omega) (by omega) (by omega)).mono ?_
  rintro e w3 ⟨v3, rfl, hm3⟩
  have H3 := Lib.hid (And.intro hm3.1 (H2.out.keep hm3.2))
  clear hm3
  go_wp2_with (go_at_call 20; fail)
  refine (specChunk (w := w3) { data := #[73, 72, 68, 82] } nIHDR rfl rfl v3 (headB wide high depth colour) H3.out.1.src (by rw [headB_length]; omega)).mono ?_
  rintro e w4a ⟨v4a, rfl, hm4⟩
  have H4a := Lib.hid (And.intro hm4.1 (H3.out.2.keep hm4.2))
  clear hm4
  go_wp2_with (at_builtin; refine goalStop ?_)
  refine ⟨?_⟩
  refine wpList_append_bytes rfl (.tmp 34) (.tmp 42) rfl bo _ _ rfl H4a.out.2.own _ _ rfl H4a.out.1.src (by have h9 := H4a.out.2.small; rw [chunkB_length _ _ rfl]; have h8 : ((headB wide high depth colour)).length ≤ 13 := (by rw [headB_length]; omega); omega) H4a.out.2.base ?_
  intro v4b w4b h4b hk4b hv4b
  have H5 := Lib.hid (H4a.out.2.app hk4b h4b (by have h9 := H4a.out.2.small; rw [List.length_append, chunkB_length _ _ rfl]; have h8 : ((headB wide high depth colour)).length ≤ 13 := (by rw [headB_length]; omega); exact Nat.add_le_add h9 (Nat.add_le_add_left h8 12)))
  clear h4b hk4b hv4b
  by_cases h7 : kind = 7
  · have HC3 := Lib.hid (HOK.out.2.2 h7)
    subst h7
    have q7 : (((7 : Nat) : Int) == 7) = true := by decide
    go_wp2
    obtain ⟨bs, hbs⟩ : ∃ bs, bs = w4b.heap.size := ⟨_, rfl⟩
    obtain ⟨bt, hbt⟩ : ∃ bt, bt = w4b.heap.size + 1 := ⟨_, rfl⟩
    obtain ⟨w6, hw6⟩ : ∃ w6, w6 = (w4b.alloc (.cells #[] 5)).alloc (.cells #[] 5) := ⟨_, rfl⟩
    rw [← hw6, ← hbt, ← hbs]
    have H6 := Lib.hid (show TwoB w6 bs (.slice (some ⟨bs, 0, none⟩) 0 0) (.slice (some ⟨bt, 0, none⟩) 0 0) (shadesB (pal.take 0)) (clearsB (pal.take 0)) ∧ Keep Nil2 w4b w6 ∧ bs < w6.heap.size by
      have h1 := ownNew w4b
      have h2 := ownNew (w4b.alloc (.cells #[] 5))
      have hs : (w4b.alloc (.cells #[] 5)).heap.size = bt := by rw [hbt]; simp
      rw [hs, ← hw6] at h2
      have k2 : Keep Nil2 (w4b.alloc (.cells #[] 5)) w6 := by rw [hw6]; exact (Keep.refl Nil2 _).alloc _
      have h3 := h1.keep k2 fun _ _ _ e => e
      rw [← hbs] at h3
      exact ⟨⟨h3, h2.lower (by omega), fun k e e' => by have e1 : some bs = some k := e; have e2 : some bt = some k := e'; injection e1 with e1; injection e2 with e2; omega⟩, ((Keep.refl Nil2 w4b).alloc _).trans k2, by rw [hw6]; simp; omega⟩)
    have HBS := Lib.hid hbs
    clear hw6 hbs hbt
    go_loopg [17, 18, 19, 20, 21, 50] np (fun G v17 v18 v19 v20 v21 v50 wr => ∃ (k g lc : Nat), g = G ∧ k + g = np ∧ v50 = .int .i64 (k : Int) ∧ v19 = .int .i64 (lc : Int) ∧ lastClear pal k = lc ∧ TwoB wr bs v17 v18 (shadesB (pal.take k)) (clearsB (pal.take k)) ∧ Keep Nil2 w4b wr ∧ bs < wr.heap.size)
    case atStart => exact ⟨0, np, 0, rfl, by omega, rfl, rfl, rfl, H6.out.1, H6.out.2.1, H6.out.2.2⟩
    case round =>
      obtain ⟨k, g, lc, hG, hkg, rfl, rfl, hlc, hT, hK, hbsr⟩ := hrel
      have HG := Lib.hid (And.intro hG hlc)
      clear hG hlc
      by_cases hk7 : k < np
      · have d1 : decide ((k : Int) < (np : Int)) = true := by simp; omega
        have hkI : (k : Int) < np := by omega
        obtain ⟨s, hs⟩ : ∃ s, pal[k]? = some s := ⟨pal[k]'(by have := HNP.out.1; omega), List.getElem?_eq_getElem _⟩
        obtain ⟨x0, x1, x2, x3⟩ := (HNP.out.2.keep (H5.out.kp.trans hK) fun _ _ e => e).shade k s hs
        have HS := Lib.hid hs
        have hsl : (shadesB (pal.take k)).length = 3 * k := by rw [shadesB_length, List.length_take]; have := HNP.out.1; omega
        have hcl : (clearsB (pal.take k)).length = k := by simp only [clearsB, List.length_map, List.length_take]; have := HNP.out.1; omega
        have HLN := Lib.hid (And.intro hsl hcl)
        have ka := (Keep.refl Nil2 wr).alloc (.cells #[.int .u8 (s.1.toNat : Int), .int .u8 (s.2.1.toNat : Int), .int .u8 (s.2.2.1.toNat : Int), .int .u8 (s.2.2.2.toNat : Int)] 49)
        have HT := Lib.hid (And.intro (hT.keep ka) (And.intro (hK.trans ka) (heap_alloc_new wr (.cells #[.int .u8 (s.1.toNat : Int), .int .u8 (s.2.1.toNat : Int), .int .u8 (s.2.2.1.toNat : Int), .int .u8 (s.2.2.2.toNat : Int)] 49))))
        have hut : u17.ownBlock ≠ some wr.heap.size := fun e => by have := (hT.1.block_ge _ e).2; omega
        have hvt : u18.ownBlock ≠ some wr.heap.size := fun e => by have := (hT.2.1.block_ge _ e).2; omega
        clear hs hsl hcl ka hT hK
        go_wp2
        obtain ⟨w7, hw7⟩ : ∃ w7, w7 = wr.alloc (.cells #[.int .u8 (s.1.toNat : Int), .int .u8 (s.2.1.toNat : Int), .int .u8 (s.2.2.1.toNat : Int), .int .u8 (s.2.2.2.toNat : Int)] 49) := ⟨_, rfl⟩
        obtain ⟨tb, htb⟩ : ∃ tb, tb = wr.heap.size := ⟨_, rfl⟩
        have HT7 := HT.out
        rw [← hw7, ← htb] at HT7
        rw [← hw7, ← htb]
        rw [← htb] at hut hvt
        have ht7 : tb < w7.heap.size := by rw [hw7, htb]; simp
        have hbs7 : bs < w7.heap.size := by rw [hw7]; simp; omega
        have hs0 : ExS w7 tb bs s.1.toNat s.2.1.toNat s.2.2.1.toNat s.2.2.2.toNat u17 u18 (shadesB (pal.take k)) (clearsB (pal.take k)) w7 := by
          obtain ⟨h1, h2, h3⟩ := HT7
          exact ⟨cell_of_row _ _ _ _ _ _ h3, cell_of_row _ _ _ _ _ _ h3, cell_of_row _ _ _ _ _ _ h3, cell_of_row _ _ _ _ _ _ h3, h1, ht7, Keep.refl _ _⟩
        have H7 := Lib.hid (And.intro HT7.1 (And.intro HT7.2.1 hbs7))
        have hl17 : (shadesB (pal.take k)).length ≤ 600 := by have := HLN.out; omega
        have hl18 : (clearsB (pal.take k)).length ≤ 200 := by have := HLN.out; omega
        obtain ⟨L17, hL17⟩ : ∃ L17, L17 = shadesB (pal.take k) := ⟨_, rfl⟩
        obtain ⟨L18, hL18⟩ : ∃ L18, L18 = clearsB (pal.take k) := ⟨_, rfl⟩
        rw [← hL17] at hs0 hl17
        rw [← hL18] at hs0 hl18
        have HLL := Lib.hid (And.intro hL17 hL18)
        clear hw7 htb HT7 x0 x1 x2 x3 hL17 hL18
        obtain ⟨sr, hsr⟩ : ∃ sr, sr = s.1 := ⟨_, rfl⟩
        obtain ⟨sg', hsg'⟩ : ∃ sg', sg' = s.2.1 := ⟨_, rfl⟩
        obtain ⟨sb, hsb⟩ : ∃ sb, sb = s.2.2.1 := ⟨_, rfl⟩
        obtain ⟨sa, hsa⟩ : ∃ sa, sa = s.2.2.2 := ⟨_, rfl⟩
        rw [← hsr, ← hsg', ← hsb, ← hsa] at hs0
        have HSX := Lib.hid (And.intro hsr (And.intro hsg' (And.intro hsb hsa)))
        first | rw [← hsr, ← hsg', ← hsb, ← hsa] | skip
        clear hsr hsg' hsb hsa
        have hu17 : ∀ k, u17.ownBlock = some k → k < w7.heap.size := fun k e => (hs0.2.2.2.2.1.1.block_ge k e).2
        have hv18 : ∀ k, u18.ownBlock = some k → k < w7.heap.size := fun k e => (hs0.2.2.2.2.1.2.1.block_ge k e).2
        have KS := Lib.hid (fun V V' (h : ExS w7 tb bs sr.toNat sg'.toNat sb.toNat sa.toNat u17 u18 L17 L18 V) (hk : Keep Nil2 V V') => exS_keep h hk)
        have KU := Lib.hid (fun V V' (h : ExS w7 tb bs sr.toNat sg'.toNat sb.toNat sa.toNat u17 u18 L17 L18 V) (hk : Keep (fun k _ => u17.ownBlock = some k) V V') (ho : OwnB V' bs u17 L17) => exS_appU h hk ho hut)
        have KV := Lib.hid (fun V V' (h : ExS w7 tb bs sr.toNat sg'.toNat sb.toNat sa.toNat u17 u18 L17 L18 V) (hk : Keep (fun k _ => u18.ownBlock = some k) V V') (ho : OwnB V' bs u18 L18) => exS_appV h hk ho hvt)
        have KO := Lib.hid (fun V (h : ExS w7 tb bs sr.toNat sg'.toNat sb.toNat sa.toNat u17 u18 L17 L18 V) => h.2.2.2.2.1)
        have KH := Lib.hid (fun V (h : ExS w7 tb bs sr.toNat sg'.toNat sb.toNat sa.toNat u17 u18 L17 L18 V) => Nat.le_trans (Nat.le_of_lt hbs7) h.2.2.2.2.2.2.size)
        have H7T := fun V (hk : Keep Nil2 w7 V) => H7.out.1.keep hk
        rw [← HLL.out.1, ← HLL.out.2] at H7T
        go_region_held3 (fun w' => w'.cell? ⟨tb, 0, none⟩ = some (.int .u8 (sr.toNat : Int)) ∧ w'.cell? ⟨tb, 1, none⟩ = some (.int .u8 (sg'.toNat : Int)) ∧ w'.cell? ⟨tb, 2, none⟩ = some (.int .u8 (sb.toNat : Int)) ∧ w'.cell? ⟨tb, 3, none⟩ = some (.int .u8 (sa.toNat : Int)) ∧ TwoB w' bs u17 u18 L17 L18 ∧ tb < w'.heap.size ∧ Keep (fun k _ => u17.ownBlock = some k ∨ u18.ownBlock = some k) w7 w')
          ((show ExS w7 tb bs sr.toNat sg'.toNat sb.toNat sa.toNat u17 u18 L17 L18 _; first | with_reducible assumption | exact KU.out _ _ (by assumption) hA2 hA3 | exact KV.out _ _ (by assumption) hB2 hB3 | exact KS.out _ _ (by assumption) ((Keep.refl Nil2 _).drew) | exact KS.out _ _ (by assumption) ((Keep.refl Nil2 _).alloc _)))
          (first | (refine step_append_bytes4 rfl (.tmp 55) (.tmp 62) rfl bs u17 L17 rfl (KO.out _ (by assumption)).1 _ _ 3 _ [sr, sg', sb] rfl rfl ?_ (by simp; omega) (KH.out _ (by assumption)) ?_; (· first | exact litB _ _ _ rfl rfl | exact (litB _ _ _ rfl rfl).keep ((Keep.refl Nil2 _).drew) (fun _ _ e => e) | exact (litB _ _ _ rfl rfl).keep (((Keep.refl Nil2 _).alloc _).drew) (fun _ _ e => e) | exact (litB _ _ _ rfl (by simp)).keep ((Keep.refl Nil2 _).drew) (fun _ _ e => e) | exact (litB _ _ _ rfl (by simp)) | exact ((litB _ _ _ rfl rfl).keep (((Keep.refl Nil2 _).alloc _).drew) (fun _ _ e => e)).keep hA2 (fun _ _ e => by have := hu17 _ e; omega) | exact ((litB _ _ _ rfl (by simp)).keep ((Keep.refl Nil2 _).drew) (fun _ _ e => e)).keep hA2 (fun _ _ e => by have := hu17 _ e; omega) | exact ((litB _ _ _ rfl rfl).keep (((Keep.refl Nil2 _).alloc _).drew) (fun _ _ e => e)).keep hB2 (fun _ _ e => by have := hv18 _ e; omega) | exact ((litB _ _ _ rfl (by simp)).keep ((Keep.refl Nil2 _).drew) (fun _ _ e => e)).keep hB2 (fun _ _ e => by have := hv18 _ e; omega)); intro vA wA hA1 hA2 hA3 hA4) | (refine step_append_bytes4 rfl (.tmp 64) (.tmp 67) rfl bs u18 L18 rfl (KO.out _ (by assumption)).2.1 _ _ 1 _ [sa] rfl rfl ?_ (by simp; omega) (KH.out _ (by assumption)) ?_; (· first | exact litB _ _ _ rfl rfl | exact (litB _ _ _ rfl rfl).keep ((Keep.refl Nil2 _).drew) (fun _ _ e => e) | exact (litB _ _ _ rfl rfl).keep (((Keep.refl Nil2 _).alloc _).drew) (fun _ _ e => e) | exact (litB _ _ _ rfl (by simp)).keep ((Keep.refl Nil2 _).drew) (fun _ _ e => e) | exact (litB _ _ _ rfl (by simp)) | exact ((litB _ _ _ rfl rfl).keep (((Keep.refl Nil2 _).alloc _).drew) (fun _ _ e => e)).keep hA2 (fun _ _ e => by have := hu17 _ e; omega) | exact ((litB _ _ _ rfl (by simp)).keep ((Keep.refl Nil2 _).drew) (fun _ _ e => e)).keep hA2 (fun _ _ e => by have := hu17 _ e; omega) | exact ((litB _ _ _ rfl rfl).keep (((Keep.refl Nil2 _).alloc _).drew) (fun _ _ e => e)).keep hB2 (fun _ _ e => by have := hv18 _ e; omega) | exact ((litB _ _ _ rfl (by simp)).keep ((Keep.refl Nil2 _).drew) (fun _ _ e => e)).keep hB2 (fun _ _ e => by have := hv18 _ e; omega)); intro vB wB hB1 hB2 hB3 hB4))
        all_goals first
          | (
           have hP : ExS w7 tb bs sr.toNat sg'.toNat sb.toNat sa.toNat u17 u18 L17 L18 wB := by assumption
           have hTF : TwoB wB bs vA vB (L17 ++ [sr, sg', sb]) (L18 ++ [sa]) := by first | exact twoApp (H7T _ (by repeat (first | exact Keep.refl _ _ | apply Keep.alloc | apply Keep.drew))) hA1 hA4 (Keep.refl Nil2 _) hB1 hB2 hB4 | exact twoApp (H7T _ (by repeat (first | exact Keep.refl _ _ | apply Keep.alloc | apply Keep.drew))) hA1 hA4 ((Keep.refl Nil2 _).alloc _) hB1 hB2 hB4
           have hKF : Keep Nil2 w4b wB := exS_nil hP H7.out.2.1 (by have := HBS.out; omega)
           have y3 := hP.2.2.2.1
           have HF := Lib.hid (show TwoB wB bs vA vB (shadesB (pal.take (k + 1))) (clearsB (pal.take (k + 1))) ∧ Keep Nil2 w4b wB ∧ bs < wB.heap.size by
             refine ⟨?_, hKF, Nat.lt_of_lt_of_le hbs7 hP.2.2.2.2.2.2.size⟩
             rw [shadesB_take pal k s HS.out, clearsB_take pal k s HS.out, ← HLL.out.1, ← HLL.out.2, ← HSX.out.1, ← HSX.out.2.1, ← HSX.out.2.2.1, ← HSX.out.2.2.2]
             exact hTF)
           clear hP hTF hKF hA1 hA2 hA3 hA4 hB1 hB2 hB3 hB4 hs0
           by_cases hsa : sa = 255
           · have n255 : (((sa.toNat : Nat) : Int) == 255) = true := by rw [hsa]; rfl
             have HLS := Lib.hid (show lastClear pal (k + 1) = lc by rw [lastClear_succ pal k s HS.out, ← HSX.out.2.2.2, if_neg (by simpa using hsa)]; exact HG.out.2)
             clear hsa
             go_wp2
             go_roundg (g - 1)
             case measure => have := HG.out.1; omega
             case rel => exact ⟨k + 1, g - 1, lc, rfl, by omega, by go_num, rfl, HLS.out, HF.out.1, HF.out.2.1, HF.out.2.2⟩
           · have n255 : (((sa.toNat : Nat) : Int) == 255) = false := by
               have h1 : sa.toNat ≠ 255 := fun e => hsa (UInt8.toNat_inj.1 (by rw [e]; rfl))
               simp; omega
             have HLS := Lib.hid (show lastClear pal (k + 1) = k + 1 by rw [lastClear_succ pal k s HS.out, ← HSX.out.2.2.2, if_pos hsa])
             clear hsa
             go_wp2
             go_roundg (g - 1)
             case measure => have := HG.out.1; omega
             case rel => exact ⟨k + 1, g - 1, k + 1, rfl, by omega, by go_num, by go_num, HLS.out, HF.out.1, HF.out.2.1, HF.out.2.2⟩)
          | (
           have hP : ExS w7 tb bs sr.toNat sg'.toNat sb.toNat sa.toNat u17 u18 L17 L18 wA := by assumption
           have hTF : TwoB wA bs vA vB (L17 ++ [sr, sg', sb]) (L18 ++ [sa]) := by first | exact (twoApp (H7T _ (by repeat (first | exact Keep.refl _ _ | apply Keep.alloc | apply Keep.drew))).swap hB1 hB4 (Keep.refl Nil2 _) hA1 hA2 hA4).swap | exact (twoApp (H7T _ (by repeat (first | exact Keep.refl _ _ | apply Keep.alloc | apply Keep.drew))).swap hB1 hB4 ((Keep.refl Nil2 _).alloc _) hA1 hA2 hA4).swap
           have hKF : Keep Nil2 w4b wA := exS_nil hP H7.out.2.1 (by have := HBS.out; omega)
           have y3 := hP.2.2.2.1
           have HF := Lib.hid (show TwoB wA bs vA vB (shadesB (pal.take (k + 1))) (clearsB (pal.take (k + 1))) ∧ Keep Nil2 w4b wA ∧ bs < wA.heap.size by
             refine ⟨?_, hKF, Nat.lt_of_lt_of_le hbs7 hP.2.2.2.2.2.2.size⟩
             rw [shadesB_take pal k s HS.out, clearsB_take pal k s HS.out, ← HLL.out.1, ← HLL.out.2, ← HSX.out.1, ← HSX.out.2.1, ← HSX.out.2.2.1, ← HSX.out.2.2.2]
             exact hTF)
           clear hP hTF hKF hA1 hA2 hA3 hA4 hB1 hB2 hB3 hB4 hs0
           by_cases hsa : sa = 255
           · have n255 : (((sa.toNat : Nat) : Int) == 255) = true := by rw [hsa]; rfl
             have HLS := Lib.hid (show lastClear pal (k + 1) = lc by rw [lastClear_succ pal k s HS.out, ← HSX.out.2.2.2, if_neg (by simpa using hsa)]; exact HG.out.2)
             clear hsa
             go_wp2
             go_roundg (g - 1)
             case measure => have := HG.out.1; omega
             case rel => exact ⟨k + 1, g - 1, lc, rfl, by omega, by go_num, rfl, HLS.out, HF.out.1, HF.out.2.1, HF.out.2.2⟩
           · have n255 : (((sa.toNat : Nat) : Int) == 255) = false := by
               have h1 : sa.toNat ≠ 255 := fun e => hsa (UInt8.toNat_inj.1 (by rw [e]; rfl))
               simp; omega
             have HLS := Lib.hid (show lastClear pal (k + 1) = k + 1 by rw [lastClear_succ pal k s HS.out, ← HSX.out.2.2.2, if_pos hsa])
             clear hsa
             go_wp2
             go_roundg (g - 1)
             case measure => have := HG.out.1; omega
             case rel => exact ⟨k + 1, g - 1, k + 1, rfl, by omega, by go_num, by go_num, HLS.out, HF.out.1, HF.out.2.1, HF.out.2.2⟩)
      · obtain rfl : k = np := by omega
        have d1 : decide ((k : Int) < (k : Int)) = false := by simp
        have hall : pal.take k = pal := List.take_of_length_le (by have := HNP.out.1; omega)
        rw [hall] at hT
        have hlcl := HG.out.2
        rw [HNP.out.1] at hlcl
        have H8 := Lib.hid (And.intro hT (H5.out.keep hK))
        have HLC := Lib.hid hlcl
        have hlck : lc ≤ k := by have := lastClear_le pal pal.length; have := HNP.out.1; omega
        clear hT hK hall hlcl
        go_wp2_with (go_at_call 20; fail)
        refine (specChunk (w := wr) { data := #[80, 76, 84, 69] } nPLTE rfl rfl u17 (shadesB pal) H8.out.1.1.src (by rw [shadesB_length]; have := HNP.out.1; omega)).mono ?_
        rintro e w9a ⟨v9a, rfl, hm9⟩
        have hk9a := hm9.2
        have H9a := Lib.hid (And.intro hm9.1 (H8.out.2.keep hm9.2))
        clear hm9
        go_wp2_with (at_builtin; refine goalStop ?_)
        refine ⟨?_⟩
        refine wpList_append_bytes rfl (.tmp 75) (.tmp 77) rfl bo _ _ rfl H9a.out.2.own _ _ rfl H9a.out.1.src (by have h9 := H9a.out.2.small; rw [chunkB_length _ _ rfl]; have h8 : ((shadesB pal)).length ≤ 600 := (by rw [shadesB_length]; have := HNP.out.1; omega); omega) H9a.out.2.base ?_
        intro v9b w9b h9b hk9b hv9b
        have H9 := Lib.hid (H9a.out.2.app hk9b h9b (by have h9 := H9a.out.2.small; rw [List.length_append, chunkB_length _ _ rfl]; have h8 : ((shadesB pal)).length ≤ 600 := (by rw [shadesB_length]; have := HNP.out.1; omega); exact Nat.add_le_add h9 (Nat.add_le_add_left h8 12)))
        have HCL := Lib.hid ((H8.out.1.2.1.keep hk9a fun _ _ _ e => e).keep hk9b fun i _ hi e => by have := (H5.out.own.block_ge i e).2; have := HBS.out; omega)
        clear h9b hk9b hv9b
        by_cases hl0 : 0 < lc
        · have z1 : decide ((0 : Int) < (lc : Int)) = true := by simp; omega
          obtain ⟨cg, cc, hcv, _, hcc, _, hcb, _⟩ := HCL.out.slice (by simp [clearsB]; have := HNP.out.1; omega)
          have hclk : (clearsB pal).length = k := by simp [clearsB]; have := HNP.out.1; omega
          rw [hclk] at hcv hcc
          have hlcc : (lc : Int) ≤ cc := by omega
          have HCB := Lib.hid hcb
          subst hcv
          clear hcb
          go_wp2_with (go_at_call 20; fail)
          refine (specChunk (w := w9b) { data := #[116, 82, 78, 83] } ntRNS rfl rfl (.slice (some ⟨cg, 0, none⟩) lc cc) ((clearsB pal).take lc) (Src.of (by rw [List.length_take, hclk]; omega) (HCB.out.take lc)) (by rw [List.length_take, hclk]; omega)).mono ?_
          rintro e w10a ⟨v10a, rfl, hm10⟩
          have H10a := Lib.hid (And.intro hm10.1 (H9.out.keep hm10.2))
          clear hm10
          go_wp2_with (at_builtin; refine goalStop ?_)
          refine ⟨?_⟩
          refine wpList_append_bytes rfl (.tmp 81) (.tmp 85) rfl bo _ _ rfl H10a.out.2.own _ _ rfl H10a.out.1.src (by have h9 := H10a.out.2.small; rw [chunkB_length _ _ rfl]; have h8 : (((clearsB pal).take lc)).length ≤ 200 := (by rw [List.length_take, hclk]; omega); omega) H10a.out.2.base ?_
          intro v10b w10b h10b hk10b hv10b
          have H10 := Lib.hid (H10a.out.2.app hk10b h10b (by have h9 := H10a.out.2.small; rw [List.length_append, chunkB_length _ _ rfl]; have h8 : (((clearsB pal).take lc)).length ≤ 200 := (by rw [List.length_take, hclk]; omega); exact Nat.add_le_add h9 (Nat.add_le_add_left h8 12)))
          clear h10b hk10b hv10b
          obtain ⟨rg, rc, hrv, _, hrc, _, hbR, _⟩ := H10.out.rows.slice HR0.out
          subst hrv
          have HBR := Lib.hid (And.intro hbR hrc)
          clear hbR hrc
          go_wp2_with (go_at_call 22; fail)
          refine (specKept (w := w10b) R rg 0 R.length rc rfl HBR.out.1 (by have := HOK.out.1.len_le; omega)).mono ?_
          rintro e wka ⟨vka, rfl, hmk⟩
          have HK := Lib.hid (And.intro hmk.1 (H10.out.keep hmk.2))
          clear hmk
          go_wp2_with (go_at_call 20; fail)
          refine (specChunk (w := wka) { data := #[73, 68, 65, 84] } nIDAT rfl rfl vka (keptB R) HK.out.1.src (by rw [keptB_length]; have := HOK.out.1.len_le; omega)).mono ?_
          rintro e w7a ⟨v7a, rfl, hm7⟩
          have H7a := Lib.hid (And.intro hm7.1 (HK.out.2.keep hm7.2))
          clear hm7
          go_wp2_with (at_builtin; refine goalStop ?_)
          refine ⟨?_⟩
          refine wpList_append_bytes rfl (.tmp 87) (.tmp 90) rfl bo _ _ rfl H7a.out.2.own _ _ rfl H7a.out.1.src (by have h9 := H7a.out.2.small; rw [chunkB_length _ _ rfl]; have h8 : ((keptB R)).length ≤ 28900 := (by rw [keptB_length]; have := HOK.out.1.len_le; omega); omega) H7a.out.2.base ?_
          intro v7b w7b h7b hk7b hv7b
          have HI := Lib.hid (H7a.out.2.app hk7b h7b (by have h9 := H7a.out.2.small; rw [List.length_append, chunkB_length _ _ rfl]; have h8 : ((keptB R)).length ≤ 28900 := (by rw [keptB_length]; have := HOK.out.1.len_le; omega); exact Nat.add_le_add h9 (Nat.add_le_add_left h8 12)))
          clear h7b hk7b hv7b
          go_wp2_with (go_at_call 20; fail)
          refine (specChunk (w := w7b) { data := #[73, 69, 78, 68] } nIEND rfl rfl (.slice none 0 0) ([] : List UInt8) (Src.nil _) (by simp)).mono ?_
          rintro e w8a ⟨v8a, rfl, hm8⟩
          have H8a := Lib.hid (And.intro hm8.1 (HI.out.keep hm8.2))
          clear hm8
          go_wp2_with (at_builtin; refine goalStop ?_)
          refine ⟨?_⟩
          refine wpList_append_bytes rfl (.tmp 92) (.tmp 93) rfl bo _ _ rfl H8a.out.2.own _ _ rfl H8a.out.1.src (by have h9 := H8a.out.2.small; rw [chunkB_length _ _ rfl]; have h8 : (([] : List UInt8)).length ≤ 0 := (by simp); omega) H8a.out.2.base ?_
          intro v8b w8b h8b hk8b hv8b
          have HE := Lib.hid (H8a.out.2.app hk8b h8b (by have h9 := H8a.out.2.small; rw [List.length_append, chunkB_length _ _ rfl]; have h8 : (([] : List UInt8)).length ≤ 0 := (by simp); exact Nat.add_le_add h9 (Nat.add_le_add_left h8 12)))
          clear h8b hk8b hv8b
          go_wp2
          go_ret
          refine ⟨v8b, depth, colour, R, rfl, ?_, HOK.out.1, (by have h5 := HOK.out.2; simpa using h5), HE.out.kp⟩
          have h9 := HE.out.own.lower HBO.out
          unfold fileB
          rw [if_pos HC3.out, if_pos (by rw [HLC.out]; exact hl0), HLC.out]
          simpa only [List.append_assoc, List.append_nil, List.nil_append] using h9
        · have hl00 : lc = 0 := by omega
          subst hl00
          obtain ⟨rg, rc, hrv, _, hrc, _, hbR, _⟩ := H9.out.rows.slice HR0.out
          subst hrv
          have HBR := Lib.hid (And.intro hbR hrc)
          clear hbR hrc
          go_wp2_with (go_at_call 22; fail)
          refine (specKept (w := w9b) R rg 0 R.length rc rfl HBR.out.1 (by have := HOK.out.1.len_le; omega)).mono ?_
          rintro e wka ⟨vka, rfl, hmk⟩
          have HK := Lib.hid (And.intro hmk.1 (H9.out.keep hmk.2))
          clear hmk
          go_wp2_with (go_at_call 20; fail)
          refine (specChunk (w := wka) { data := #[73, 68, 65, 84] } nIDAT rfl rfl vka (keptB R) HK.out.1.src (by rw [keptB_length]; have := HOK.out.1.len_le; omega)).mono ?_
          rintro e w7a ⟨v7a, rfl, hm7⟩
          have H7a := Lib.hid (And.intro hm7.1 (HK.out.2.keep hm7.2))
          clear hm7
          go_wp2_with (at_builtin; refine goalStop ?_)
          refine ⟨?_⟩
          refine wpList_append_bytes rfl (.tmp 87) (.tmp 90) rfl bo _ _ rfl H7a.out.2.own _ _ rfl H7a.out.1.src (by have h9 := H7a.out.2.small; rw [chunkB_length _ _ rfl]; have h8 : ((keptB R)).length ≤ 28900 := (by rw [keptB_length]; have := HOK.out.1.len_le; omega); omega) H7a.out.2.base ?_
          intro v7b w7b h7b hk7b hv7b
          have HI := Lib.hid (H7a.out.2.app hk7b h7b (by have h9 := H7a.out.2.small; rw [List.length_append, chunkB_length _ _ rfl]; have h8 : ((keptB R)).length ≤ 28900 := (by rw [keptB_length]; have := HOK.out.1.len_le; omega); exact Nat.add_le_add h9 (Nat.add_le_add_left h8 12)))
          clear h7b hk7b hv7b
          go_wp2_with (go_at_call 20; fail)
          refine (specChunk (w := w7b) { data := #[73, 69, 78, 68] } nIEND rfl rfl (.slice none 0 0) ([] : List UInt8) (Src.nil _) (by simp)).mono ?_
          rintro e w8a ⟨v8a, rfl, hm8⟩
          have H8a := Lib.hid (And.intro hm8.1 (HI.out.keep hm8.2))
          clear hm8
          go_wp2_with (at_builtin; refine goalStop ?_)
          refine ⟨?_⟩
          refine wpList_append_bytes rfl (.tmp 92) (.tmp 93) rfl bo _ _ rfl H8a.out.2.own _ _ rfl H8a.out.1.src (by have h9 := H8a.out.2.small; rw [chunkB_length _ _ rfl]; have h8 : (([] : List UInt8)).length ≤ 0 := (by simp); omega) H8a.out.2.base ?_
          intro v8b w8b h8b hk8b hv8b
          have HE := Lib.hid (H8a.out.2.app hk8b h8b (by have h9 := H8a.out.2.small; rw [List.length_append, chunkB_length _ _ rfl]; have h8 : (([] : List UInt8)).length ≤ 0 := (by simp); exact Nat.add_le_add h9 (Nat.add_le_add_left h8 12)))
          clear h8b hk8b hv8b
          go_wp2
          go_ret
          refine ⟨v8b, depth, colour, R, rfl, ?_, HOK.out.1, (by have h5 := HOK.out.2; simpa using h5), HE.out.kp⟩
          have h9 := HE.out.own.lower HBO.out
          unfold fileB
          rw [if_pos HC3.out, if_neg (by rw [HLC.out]; exact hl0)]
          simpa only [List.append_assoc, List.append_nil, List.nil_append] using h9
  · have HC3 := Lib.hid (show colour ≠ 3 from fun e => h7 (HOK.out.2.1 e))
    have q7 : ((kind : Int) == 7) = false := by simp; omega
    obtain ⟨rg, rc, hrv, _, hrc, _, hbR, _⟩ := H5.out.rows.slice HR0.out
    subst hrv
    have HBR := Lib.hid (And.intro hbR hrc)
    clear hbR hrc
    go_wp2_with (go_at_call 22; fail)
    refine (specKept (w := w4b) R rg 0 R.length rc rfl HBR.out.1 (by have := HOK.out.1.len_le; omega)).mono ?_
    rintro e wka ⟨vka, rfl, hmk⟩
    have HK := Lib.hid (And.intro hmk.1 (H5.out.keep hmk.2))
    clear hmk
    go_wp2_with (go_at_call 20; fail)
    refine (specChunk (w := wka) { data := #[73, 68, 65, 84] } nIDAT rfl rfl vka (keptB R) HK.out.1.src (by rw [keptB_length]; have := HOK.out.1.len_le; omega)).mono ?_
    rintro e w7a ⟨v7a, rfl, hm7⟩
    have H7a := Lib.hid (And.intro hm7.1 (HK.out.2.keep hm7.2))
    clear hm7
    go_wp2_with (at_builtin; refine goalStop ?_)
    refine ⟨?_⟩
    refine wpList_append_bytes rfl (.tmp 87) (.tmp 90) rfl bo _ _ rfl H7a.out.2.own _ _ rfl H7a.out.1.src (by have h9 := H7a.out.2.small; rw [chunkB_length _ _ rfl]; have h8 : ((keptB R)).length ≤ 28900 := (by rw [keptB_length]; have := HOK.out.1.len_le; omega); omega) H7a.out.2.base ?_
    intro v7b w7b h7b hk7b hv7b
    have HI := Lib.hid (H7a.out.2.app hk7b h7b (by have h9 := H7a.out.2.small; rw [List.length_append, chunkB_length _ _ rfl]; have h8 : ((keptB R)).length ≤ 28900 := (by rw [keptB_length]; have := HOK.out.1.len_le; omega); exact Nat.add_le_add h9 (Nat.add_le_add_left h8 12)))
    clear h7b hk7b hv7b
    go_wp2_with (go_at_call 20; fail)
    refine (specChunk (w := w7b) { data := #[73, 69, 78, 68] } nIEND rfl rfl (.slice none 0 0) ([] : List UInt8) (Src.nil _) (by simp)).mono ?_
    rintro e w8a ⟨v8a, rfl, hm8⟩
    have H8a := Lib.hid (And.intro hm8.1 (HI.out.keep hm8.2))
    clear hm8
    go_wp2_with (at_builtin; refine goalStop ?_)
    refine ⟨?_⟩
    refine wpList_append_bytes rfl (.tmp 92) (.tmp 93) rfl bo _ _ rfl H8a.out.2.own _ _ rfl H8a.out.1.src (by have h9 := H8a.out.2.small; rw [chunkB_length _ _ rfl]; have h8 : (([] : List UInt8)).length ≤ 0 := (by simp); omega) H8a.out.2.base ?_
    intro v8b w8b h8b hk8b hv8b
    have HE := Lib.hid (H8a.out.2.app hk8b h8b (by have h9 := H8a.out.2.small; rw [List.length_append, chunkB_length _ _ rfl]; have h8 : (([] : List UInt8)).length ≤ 0 := (by simp); exact Nat.add_le_add h9 (Nat.add_le_add_left h8 12)))
    clear h8b hk8b hv8b
    go_wp2
    go_ret
    refine ⟨v8b, depth, colour, R, rfl, ?_, HOK.out.1, (by have h5 := HOK.out.2; simpa using h5), HE.out.kp⟩
    have h9 := HE.out.own.lower HBO.out
    unfold fileB
    rw [if_neg HC3.out]
    simpa only [List.append_assoc, List.append_nil, List.nil_append] using h9
end Go.Proofs.YtnbbppjgamdfeaaGreatDoor
end

/- laws: exact. -/
section
set_option linter.unusedVariables false
set_option linter.unusedSimpArgs false
namespace Go.Proofs.YtnbbppjgamdfeaaGreatDoor
open Go Go.RowKit

theorem shadeCell_one' (pal : List Shade4) : ∀ u ∈ shadeCells pal, u.oneCell' = true := fun u hu => by
  simp only [shadeCells, List.mem_flatMap] at hu
  obtain ⟨s, _, hs⟩ := hu
  exact shadeCell_one s u hs

set_option maxHeartbeats 8000000 in
set_option maxRecDepth 100000 in
theorem lawExact {w : World} (kind wide high stride b n c : Nat) (hk : 1 ≤ kind ∧ kind ≤ 7) (l : List UInt8) (hb : BytesAt w b 0 l) (hn : n = l.length) (hl : l.length = stride * high) (hs : wide * pixN kind ≤ stride) (hw : 1 ≤ wide ∧ wide ≤ 60) (hh : 1 ≤ high ∧ high ≤ 60) (hst : stride ≤ 1000) (hnc : n ≤ c)
    (pal : List Shade4) (np : Nat) (hnp : np = pal.length) (ao : Option Addr) (pc : Nat) (hp : (np = 0) ∨ ∃ pg, ao = some ⟨pg, 0, none⟩ ∧ CellsAt w pg 0 (shadeCells pal)) (hcol : np ≤ 200) (hpal : kind = 7 → 1 ≤ np ∧ ∀ x ∈ l, x.toNat < np) :
    Calls Tryz.prog 5 #[picV kind wide high stride b n c (.slice ao np pc)] w (ExPost w kind wide high pal) := by
  have hbs : ∀ (a b c e : Int) (w : World), (Instr.buildSlice 48 1 #[(0, .agg #[.int .u8 a, .int .u8 b, .int .u8 c, .int .u8 e])]).run Tryz.prog w = .ok (.slice (some ⟨w.heap.size, 0, none⟩) 1 1) (w.alloc (.cells #[.int .u8 a, .int .u8 b, .int .u8 c, .int .u8 e] 49)) := fun a b c e w => by kernel_rfl
  have KE := Lib.hid (fun V pg pc' (hV : Keep Nil2 w V) (hp : CellsAt V pg 0 (shadeCells pal)) => specExact (w := V) kind wide high stride b 0 n c hk l (hb.keep hV fun _ _ e => e) hn hl hs hw hh hst hnc pal pg 0 pc' np hnp hp hcol hpal)
  have HNP := Lib.hid (And.intro hnp hp)
  clear hb hn hl hs hnp hp hpal
  unfold picV
  go_enter Tryz.func5, Tryz.ntmps5
  go_wp2
  obtain ⟨wa, hwa⟩ : ∃ wa, wa = w.alloc (.cells #[.int .i64 (kind : Int), .int .i64 0, .int .i64 0, .int .i64 (wide : Int), .int .i64 (high : Int), .int .i64 (stride : Int), .slice (some ⟨b, 0, none⟩) n c, .slice ao np pc] 26) := ⟨_, rfl⟩
  have hsz : wa.heap.size = w.heap.size + 1 := by rw [hwa]; simp
  have hka : Keep Nil2 w wa := by rw [hwa]; exact (Keep.refl Nil2 w).alloc _
  have hcs : CellsAt wa w.heap.size 0 [.int .i64 (kind : Int), .int .i64 0, .int .i64 0, .int .i64 (wide : Int), .int .i64 (high : Int), .int .i64 (stride : Int), .slice (some ⟨b, 0, none⟩) n c, .slice ao np pc] := by rw [hwa]; exact CellsAt.lit w _ 26
  rw [← hwa]
  obtain ⟨pb, hpb⟩ : ∃ pb, pb = w.heap.size := ⟨_, rfl⟩
  rw [← hpb] at hsz hcs
  rw [← hpb, ← hsz]
  obtain ⟨w1, hw1⟩ : ∃ w1, w1 = wa.alloc (.cells #[] 49) := ⟨_, rfl⟩
  have HO1 := Lib.hid (show OwnV 49 4 w1 wa.heap.size (.slice (some ⟨wa.heap.size, 0, none⟩) 0 0) 0 [] ∧ Keep Nil2 wa w1 by
    rw [hw1]; exact ⟨OwnV.lit wa #[] 0 [] rfl rfl (by omega), (Keep.refl Nil2 wa).alloc _⟩)
  rw [← hw1]
  have HA := Lib.hid (And.intro hka (And.intro hcs (And.intro hpb hsz)))
  clear hwa hw1 hka hcs hpb hsz
  go_loopg [3, 5, 10] np (fun G v3 v5 v10 wr => ∃ (k g cap g3 : Nat), g = G ∧ k + g = np ∧ v10 = .int .i64 (k : Int) ∧ v3 = .slice (some ⟨g3, 0, none⟩) k cap ∧ OwnV 49 4 wr wa.heap.size v3 k (shadeCells (pal.take k)) ∧ Keep Nil2 wa wr)
  case atStart => exact ⟨0, np, 0, wa.heap.size, rfl, by omega, rfl, rfl, HO1.out.1, HO1.out.2⟩
  case round =>
    obtain ⟨k, g, cap3, g3, hG, hkg, rfl, rfl, hO, hK⟩ := hrel
    have HG := Lib.hid hG
    clear hG
    by_cases hk : k < np
    · have d1 : decide ((k : Int) < (np : Int)) = true := by simp; omega
      have hkI : (k : Int) < np := by omega
      obtain ⟨s, hs⟩ : ∃ s, pal[k]? = some s := ⟨pal[k]'(by have := HNP.out.1; omega), List.getElem?_eq_getElem _⟩
      obtain ⟨pg, hao, hpl⟩ : ∃ pg, ao = some ⟨pg, 0, none⟩ ∧ CellsAt w pg 0 (shadeCells pal) := by
        rcases HNP.out.2 with h | h
        · omega
        · exact h
      obtain ⟨x0, x1, x2, x3⟩ := (hpl.keep (HA.out.1.trans hK) fun _ _ e => e).shade k s hs
      rw [Nat.zero_add] at x0 x1 x2 x3
      subst hao
      have HS := Lib.hid hs
      have HO := Lib.hid (And.intro hO hK)
      clear hs hO hK hpl
      have HK := Lib.hid ((Keep.refl Nil2 wr).alloc (.cells #[.int .u8 (s.1.toNat : Int), .int .u8 (s.2.1.toNat : Int), .int .u8 (s.2.2.1.toNat : Int), .int .u8 (s.2.2.2.toNat : Int)] 39))
      go_wp2_with (at_builtin; refine wpList_append_vals rfl (.tmp 14) (.tmp 24) 48 49 rfl _ 4 4 Tryz.underlying48 info49 rfl (by decide) (by decide) wa.heap.size (.slice (some ⟨g3, 0, none⟩) k cap3) k (shadeCells (pal.take k)) rfl ((HO.out.1.keep0 HK.out).alloc _) _ 1 (shadeCell s) rfl (SrcV.litAt' _ _ 49 1 _ rfl (by simp)) rfl (shadeCell_one s) (by omega) (by have := HO.out.2.size; simp; omega) ?_)
      intro v4 w4 h4 hk4 hv4
      have HF := Lib.hid (And.intro h4 (keep_layV' ((HO.out.2.trans HK.out).alloc _) ((HO.out.1.keep0 HK.out).alloc _) hk4))
      clear h4 hk4 hv4
      go_wp2
      go_roundg (g - 1)
      case measure => have := HG.out; omega
      case rel =>
        obtain ⟨g5, cap5, h5, _⟩ := HF.out.1.out (by omega)
        exact ⟨k + 1, g - 1, cap5, g5, rfl, by omega, by go_num, h5, by rw [shadeCells_take pal k s HS.out]; exact HF.out.1, HF.out.2⟩
    · obtain rfl : k = np := by omega
      have d1 : decide ((k : Int) < (k : Int)) = false := by simp
      have HO := Lib.hid (And.intro hO hK)
      obtain ⟨q0, q3, q4, q5, q6⟩ : wr.cell? ⟨pb, 0, none⟩ = some (.int .i64 (kind : Int)) ∧ wr.cell? ⟨pb, 3, none⟩ = some (.int .i64 (wide : Int)) ∧ wr.cell? ⟨pb, 4, none⟩ = some (.int .i64 (high : Int)) ∧ wr.cell? ⟨pb, 5, none⟩ = some (.int .i64 (stride : Int)) ∧ wr.cell? ⟨pb, 6, none⟩ = some (.slice (some ⟨b, 0, none⟩) n c) := by
        have h := HA.out.2.1.keep hK fun _ _ e => e
        exact ⟨h 0 _ rfl, h 3 _ rfl, h 4 _ rfl, h 5 _ rfl, h 6 _ rfl⟩
      have HC := Lib.hid (show Keep Nil2 w wr ∧ CellsAt wr g3 0 (shadeCells pal) by
        refine ⟨HA.out.1.trans hK, ?_⟩
        rcases hO.slice with ⟨h, _⟩ | ⟨g4, cap4, h, _, _, _, hc, _⟩
        · cases h
        · have eg : g3 = g4 := by injection h with h1; injection h1 with h1; injection h1
          rw [eg]
          rw [List.take_of_length_le (by have := HNP.out.1; omega)] at hc
          exact hc)
      clear hO hK
      go_wp2_with (go_at_call 11; fail)
      refine (KE.out _ _ _ HC.out.1 HC.out.2).mono ?_
      rintro e w2 ⟨v, depth, colour, R, rfl, hm1, hok, hc7, hk2⟩
      have HZ := Lib.hid (show ExPost w kind wide high pal (.returned v) w2 from ⟨v, depth, colour, R, rfl, hm1.lower HC.out.1.size, hok, hc7, HC.out.1.trans hk2⟩)
      clear hm1 hok hc7 hk2
      go_wp2
      refine bodyPost_ret (v := v) ?_ rfl HZ.out
      simp only [results, Tryz.f5]
      go_simp
end Go.Proofs.YtnbbppjgamdfeaaGreatDoor
end
