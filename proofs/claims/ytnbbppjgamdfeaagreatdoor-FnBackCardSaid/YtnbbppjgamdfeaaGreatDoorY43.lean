/- laws.FnBack, part 43 of 54: Q4 Q5. -/
import Derived.Test.YtnbbppjgamdfeaaGreatDoorY35
import Derived.Test.YtnbbppjgamdfeaaGreatDoorY41
import Derived.Test.YtnbbppjgamdfeaaGreatDoorY42
import Derived.Test.YtnbbppjgamdfeaaGreatDoorY27
import Derived.Test.YtnbbppjgamdfeaaGreatDoorY05

/- The reference's chunk, chunk by chunk. -/
section
set_option linter.unusedVariables false
set_option linter.unusedSimpArgs false
namespace Go.Proofs.YtnbbppjgamdfeaaGreatDoor
open Go Go.RowKit

set_option maxHeartbeats 4000000 in
set_option maxRecDepth 100000 in
theorem ckIHDR {w : World} {fb : Nat} {d : Fd} {wide high depth colour : Nat} (h : RdF w fb d) (hst : d.stage = 0) (hcol : d.colour = 0) (b o c : Nat) (hb : BytesAt w b o (headB wide high depth colour)) (hne : b ≠ fb) (hk : KindOk colour depth) (hw : 0 < wide ∧ wide ≤ 60) (hh : 0 < high ∧ high ≤ 60) :
    Calls Tryz.prog 15 #[.pointer (some ⟨fb, 0, none⟩), .string (strB nIHDR), .slice (some ⟨b, o, none⟩) 13 c] w fun e w' => e = .returned (.int .i64 0) ∧ RdF w' fb { d with wd := wide, ht := high, depth := depth, colour := colour, stage := 1 } ∧ Keep (fun x _ => x = fb) w w' := by
  have c10 := h.c10
  have c3 := h.c3
  rw [hst] at c10
  rw [hcol] at c3
  have K := Lib.hid (specHead h b o c hb hne hk hw hh)
  rw [show strB nIHDR = { data := #[73, 72, 68, 82] } from rfl]
  clear h hst hcol hb
  go_enter Tryz.func15, Tryz.ntmps15
  go_wp2_with (go_at_call 24; fail)
  refine K.out.mono ?_
  rintro e w1 ⟨rfl, h1, hk1⟩
  have H1 := Lib.hid (And.intro h1 hk1)
  clear h1 hk1
  go_wp2
  go_ret
  exact ⟨rfl, H1.out.1, H1.out.2⟩

set_option maxHeartbeats 4000000 in
set_option maxRecDepth 100000 in
theorem ckPLTE {w : World} {fb : Nat} {d : Fd} {pal : List Shade4} (h : RdF w fb d) (hst : d.stage = 1) (hcol : d.colour = 3) (np depth L : Nat) (hdep : d.depth = depth) (hpal : d.pal = .slice none 0 0) (hnp : np = pal.length) (hL : L = 3 * np) (b o c : Nat) (hb : BytesAt w b o (shadesB pal)) (hne : b ≠ fb)
    (hnp0 : 0 < np ∧ np ≤ 200) (hd : (depth = 1 ∨ depth = 2 ∨ depth = 4 ∨ depth = 8) ∧ np ≤ 2 ^ depth) :
    Calls Tryz.prog 15 #[.pointer (some ⟨fb, 0, none⟩), .string (strB nPLTE), .slice (some ⟨b, o, none⟩) L c] w fun e w' => e = .returned (.int .i64 0) ∧ ∃ g cap, RdF w' fb { d with pal := .slice (some ⟨g, 0, none⟩) np cap, stage := 2 } ∧
      OwnV 41 4 w' w.heap.size (.slice (some ⟨g, 0, none⟩) np cap) np (dotsV (pal.map opqDot)) ∧ Keep (fun x _ => x = fb ∨ w.heap.size ≤ x) w w' := by
  have c10 := h.c10
  have c3 := h.c3
  rw [hst] at c10
  rw [hcol] at c3
  have K := Lib.hid (specShades h hcol np depth L hdep hpal hnp hL b o c hb hne hnp0 hd)
  rw [show strB nPLTE = { data := #[80, 76, 84, 69] } from rfl]
  clear h hst hcol hb hdep hpal hnp hL
  go_enter Tryz.func15, Tryz.ntmps15
  go_wp2_with (go_at_call 25; fail)
  refine K.out.mono ?_
  rintro e w1 ⟨g, cap, rfl, h1, ho1, hk1⟩
  have H1 := Lib.hid (And.intro h1 (And.intro ho1 hk1))
  clear h1 hk1 ho1
  go_wp2
  go_ret
  exact ⟨rfl, g, cap, H1.out.1, H1.out.2.1, H1.out.2.2⟩

set_option maxHeartbeats 4000000 in
set_option maxRecDepth 100000 in
theorem cktRNS {w : World} {fb : Nat} {d : Fd} {pal : List Shade4} (h : RdF w fb d) (hst : d.stage = 2) (hcol : d.colour = 3) (np m pg pc base : Nat) (hpal : d.pal = .slice (some ⟨pg, 0, none⟩) np pc) (hnp : np = pal.length) (hm : 0 < m ∧ m ≤ np) (hnp2 : np ≤ 200) (b o c : Nat) (hb : BytesAt w b o ((clearsB pal).take m)) (hne : b ≠ fb)
    (hO : OwnV 41 4 w base (.slice (some ⟨pg, 0, none⟩) np pc) np (dotsV (pal.map opqDot))) (hfb : fb < base) (hbb : b < base) :
    Calls Tryz.prog 15 #[.pointer (some ⟨fb, 0, none⟩), .string (strB ntRNS), .slice (some ⟨b, o, none⟩) m c] w fun e w' => e = .returned (.int .i64 0) ∧ RdF w' fb { d with stage := 3 } ∧ OwnV 41 4 w' base (.slice (some ⟨pg, 0, none⟩) np pc) np (dotsV (mixD pal m)) ∧ Keep (fun x _ => x = fb ∨ base ≤ x) w w' := by
  have c10 := h.c10
  have c3 := h.c3
  rw [hst] at c10
  rw [hcol] at c3
  have K := Lib.hid (specClears h hcol np m pg pc base hpal hnp hm hnp2 b o c hb hne hO hfb hbb)
  rw [show strB ntRNS = { data := #[116, 82, 78, 83] } from rfl]
  clear h hst hcol hb hpal hnp hO
  go_enter Tryz.func15, Tryz.ntmps15
  go_wp2_with (go_at_call 26; fail)
  refine K.out.mono ?_
  rintro e w1 ⟨rfl, h1, ho1, hk1⟩
  have H1 := Lib.hid (And.intro h1 (And.intro ho1 hk1))
  clear h1 hk1 ho1
  go_wp2
  go_ret
  exact ⟨rfl, H1.out.1, H1.out.2.1, H1.out.2.2⟩

set_option maxHeartbeats 4000000 in
set_option maxRecDepth 100000 in
theorem ckIDAT {w : World} {fb : Nat} {d : Fd} {l : List UInt8} (h : RdF w fb d) (hst : (d.colour = 3 ∧ (d.stage = 2 ∨ d.stage = 3)) ∨ (d.colour ≠ 3 ∧ d.stage = 1)) (hrest : d.rest = .slice none 0 0) (n b o c : Nat) (hn : n = l.length) (hl : 0 < n ∧ n ≤ 1000000) (hb : BytesAt w b o l) (hne : b ≠ fb) :
    Calls Tryz.prog 15 #[.pointer (some ⟨fb, 0, none⟩), .string (strB nIDAT), .slice (some ⟨b, o, none⟩) n c] w fun e w' => e = .returned (.int .i64 0) ∧ ∃ g cap, RdF w' fb { d with rest := .slice (some ⟨g, 0, none⟩) n cap, stage := 4 } ∧
      OwnB w' w.heap.size (.slice (some ⟨g, 0, none⟩) n cap) l ∧ Keep (fun x _ => x = fb) w w' := by
  have c10 := h.c10
  have c3 := h.c3
  have c11 := h.c11
  have fz := h.fz
  have hlt := h.lt
  rw [hrest] at c11
  rw [show strB nIDAT = { data := #[73, 68, 65, 84] } from rfl]
  have h4 := h.set10 4
  have hk4 := keep_setCell w fb 10 (.int .i64 ((4 : Nat) : Int))
  have H := Lib.hid (And.intro h4 (And.intro hk4 (And.intro (hb.keep hk4 fun _ _ e => hne e.1) (And.intro hn h4.fz))))
  obtain ⟨col, hcl⟩ : ∃ col, col = d.colour := ⟨_, rfl⟩
  obtain ⟨stg, hsg⟩ : ∃ stg, stg = d.stage := ⟨_, rfl⟩
  rw [← hcl] at c3 hst
  rw [← hsg] at c10 hst
  have HH := Lib.hid h
  clear h h4 hk4 hb hn hcl hsg hrest
  have fin : ∀ (K : Prop), True := fun _ => trivial
  rcases hst with ⟨rfl, rfl | rfl⟩ | ⟨hc, rfl⟩
  all_goals
    try have q3 : ((col : Int) == 3) = false := by simp; omega
    go_enter Tryz.func15, Tryz.ntmps15
    go_wp2_with (at_builtin; refine goalStop ?_)
    refine ⟨?_⟩
    refine wpList_append_bytes rfl (.tmp 116) (.tmp 117) rfl w.heap.size _ [] rfl ?own _ l rfl (Src.of H.out.2.2.2.1 H.out.2.2.1) (by have := H.out.2.2.2.1; simp; omega) (by simp) ?_
    case own => exact OwnB.nil _ _
    intro v5 w5 h5 hk5 hv5
    have h5' : OwnB w5 w.heap.size v5 l := h5
    obtain ⟨g, cap, e5, _⟩ := h5'.slice (by have := H.out.2.2.2.1; omega)
    subst e5
    rw [← H.out.2.2.2.1] at h5' ⊢
    have k5 : Keep Nil2 (w.setCell ⟨fb, 10, none⟩ (.int .i64 ((4 : Nat) : Int))) w5 := hk5.mono fun _ _ _ e => by cases e
    have hR5 := H.out.1.keep0 k5
    have p11 := hR5.c11
    have pz := hR5.fz
    have HF := Lib.hid (show RdF (w5.setCell ⟨fb, 11, none⟩ (.slice (some ⟨g, 0, none⟩) n cap)) fb { d with rest := .slice (some ⟨g, 0, none⟩) n cap, stage := 4 } ∧ OwnB (w5.setCell ⟨fb, 11, none⟩ (.slice (some ⟨g, 0, none⟩) n cap)) w.heap.size (.slice (some ⟨g, 0, none⟩) n cap) l ∧ Keep (fun x _ => x = fb) w (w5.setCell ⟨fb, 11, none⟩ (.slice (some ⟨g, 0, none⟩) n cap)) from
      ⟨hR5.set11 _, h5'.keep (keep_setCell w5 fb 11 _) fun x _ hx e => by omega, ((H.out.2.1.mono fun _ _ _ e => e.1).trans (k5.mono fun _ _ _ e => e.elim)).setCell _ fun _ => rfl⟩)
    clear h5 h5' hk5 hv5 k5 hR5
    go_wp2
    go_ret
    exact ⟨rfl, g, cap, HF.out.1, HF.out.2.1, HF.out.2.2⟩

set_option maxHeartbeats 4000000 in
set_option maxRecDepth 100000 in
theorem ckIEND {w : World} {fb : Nat} {d : Fd} {R : List UInt8} {wd ht depth colour : Nat} {pal : List Shade4} (h : RdF w fb d) (hst : d.stage = 4) (hdv : d = { d with wd := wd, ht := ht, depth := depth, colour := colour, clear := .slice none 0 0 })
    (ok : RowsOk wd ht depth colour pal.length R) (hpv : colour = 3 → PalD w fb d.pal (pal.map palDot)) (hp0 : ∃ ao pn pc, d.pal = .slice ao pn pc) (hu0 : d.dots = .slice none 0 0) (n N g gc : Nat) (hn : n = R.length) (hN : N = n + 13) (hrest : d.rest = .slice (some ⟨g, 0, none⟩) N gc) (hO : BytesAt w g 0 (keptB R)) (hgc : N ≤ gc) (hgf : g ≠ fb) (b o c : Nat) :
    Calls Tryz.prog 15 #[.pointer (some ⟨fb, 0, none⟩), .string (strB nIEND), .slice (some ⟨b, o, none⟩) 0 c] w fun e w' => e = .returned (.int .i64 0) ∧ ∃ g cap, RdF w' fb { d with dots := .slice (some ⟨g, 0, none⟩) (ht * wd) cap, stage := 6 } ∧
      CellsAt w' g 0 (dotsV (dotsUp R wd depth colour pal (ht * wd))) ∧ w.heap.size ≤ g ∧ g < w'.heap.size ∧ Keep (fun x _ => x = fb) w w' := by
  have c10 := h.c10
  have c11 := h.c11
  have fz := h.fz
  have hlt := h.lt
  rw [hst] at c10
  rw [hrest] at c11
  rw [show strB nIEND = { data := #[73, 69, 78, 68] } from rfl]
  have h5 := h.set10 5
  have hk5 := keep_setCell w fb 10 (.int .i64 ((5 : Nat) : Int))
  have K := Lib.hid (specPixels (d := { d with stage := 5 }) h5 (by rw [hdv]) ok g 0 gc n N hn hN (hO.keep hk5 fun _ _ e => hgf e.1) hgc (fun e => by
    obtain ⟨plb, plo, pc, q1, q2, q3⟩ := hpv e
    exact ⟨plb, plo, pc, q1, q2.keep hk5 fun _ _ e => q3 e.1, q3⟩) hp0 hu0)
  have hcol : d.colour = colour := by rw [hdv]
  have c3 := h.c3
  rw [hcol] at c3
  have HK5 := Lib.hid hk5
  clear h h5 hk5 hst hdv ok hpv hp0 hu0 hn hN hrest hO hcol
  go_enter Tryz.func15, Tryz.ntmps15
  go_wp2_with (go_at_call 23; fail)
  refine K.out.mono ?_
  rintro e w1 ⟨g1, cap1, rfl, h1, hc1, hg1, hg1', hk1⟩
  have g10 := h1.c10
  have g3 := h1.c3
  have gz := h1.fz
  have hgf1 : g1 ≠ fb := by have := HK5.out.size; omega
  have HF := Lib.hid (And.intro (h1.set10 6) (And.intro (hc1.keep (keep_setCell w1 fb 10 (.int .i64 ((6 : Nat) : Int))) fun _ _ e => hgf1 e.1) (And.intro (show w.heap.size ≤ g1 by have := HK5.out.size; omega) (And.intro hg1' (((HK5.out.mono fun _ _ _ e => e.1).trans hk1).setCell (b := fb) (o := 10) (.int .i64 ((6 : Nat) : Int)) fun _ => rfl)))))
  simp only at g10 g3
  clear h1 hc1 hk1
  go_wp2
  go_ret
  exact ⟨rfl, g1, cap1, HF.out.1, HF.out.2.1, HF.out.2.2.1, by have := HF.out.2.2.2.1; simpa using this, HF.out.2.2.2.2⟩
end Go.Proofs.YtnbbppjgamdfeaaGreatDoor
end

/- The reference's reading, chunk by chunk: what it holds ahead of the chunks that are left. -/
section
set_option linter.unusedVariables false
set_option linter.unusedSimpArgs false
namespace Go.Proofs.YtnbbppjgamdfeaaGreatDoor
open Go Go.RowKit

/-- The chunks of packed bytes, of the end. -/
def tailC (R : List UInt8) : List Chunk2 := [(nIDAT, keptB R), (nIEND, [])]
def clrC (pal : List Shade4) : List Chunk2 := if 0 < lastClear pal pal.length then [(ntRNS, (clearsB pal).take (lastClear pal pal.length))] else []
def midC (colour : Nat) (pal : List Shade4) : List Chunk2 := if colour = 3 then (nPLTE, shadesB pal) :: clrC pal else []
theorem chunksB_eq (wd ht depth colour : Nat) (R : List UInt8) (pal : List Shade4) : chunksB wd ht depth colour R pal = (nIHDR, headB wd ht depth colour) :: (midC colour pal ++ tailC R) := by
  unfold chunksB midC clrC tailC
  rfl
def NilS : Value := .slice none 0 0
/-- What a reading holds ahead of the chunks cs. -/
def RdSt (w : World) (fb base wd ht depth colour : Nat) (R : List UInt8) (pal : List Shade4) (cs : List Chunk2) : Prop := ∃ d : Fd, RdF w fb d ∧ d.clear = NilS ∧
  ((cs = chunksB wd ht depth colour R pal ∧ d.stage = 0 ∧ d.colour = 0 ∧ d.pal = NilS ∧ d.dots = NilS ∧ d.rest = NilS) ∨
   ((d.wd = wd ∧ d.ht = ht ∧ d.depth = depth ∧ d.colour = colour) ∧
    ((cs = midC colour pal ++ tailC R ∧ d.stage = 1 ∧ d.pal = NilS ∧ d.dots = NilS ∧ d.rest = NilS) ∨
     (colour = 3 ∧ cs = clrC pal ++ tailC R ∧ d.stage = 2 ∧ d.dots = NilS ∧ d.rest = NilS ∧ ∃ g c, d.pal = .slice (some ⟨g, 0, none⟩) pal.length c ∧ OwnV 41 4 w base (.slice (some ⟨g, 0, none⟩) pal.length c) pal.length (dotsV (mixD pal 0))) ∨
     (colour = 3 ∧ cs = tailC R ∧ d.stage = 3 ∧ d.dots = NilS ∧ d.rest = NilS ∧ ∃ g c, d.pal = .slice (some ⟨g, 0, none⟩) pal.length c ∧ OwnV 41 4 w base (.slice (some ⟨g, 0, none⟩) pal.length c) pal.length (dotsV (mixD pal (lastClear pal pal.length)))) ∨
     (cs = [(nIEND, [])] ∧ d.stage = 4 ∧ d.dots = NilS ∧ (∃ ao n c, d.pal = .slice ao n c) ∧ (colour = 3 → ∃ g c, d.pal = .slice (some ⟨g, 0, none⟩) pal.length c ∧ OwnV 41 4 w base (.slice (some ⟨g, 0, none⟩) pal.length c) pal.length (dotsV (pal.map palDot))) ∧ ∃ g c, d.rest = .slice (some ⟨g, 0, none⟩) (keptB R).length c ∧ OwnB w base (.slice (some ⟨g, 0, none⟩) (keptB R).length c) (keptB R)) ∨
     (cs = [] ∧ d.stage = 6 ∧ (∃ ao n c, d.pal = .slice ao n c) ∧ ∃ g c, d.dots = .slice (some ⟨g, 0, none⟩) (ht * wd) c ∧ base ≤ g ∧ g < w.heap.size ∧ CellsAt w g 0 (dotsV (dotsUp R wd depth colour pal (ht * wd)))))))
section
variable {w : World} {fb base wd ht depth colour : Nat} {R : List UInt8} {pal : List Shade4} {cs : List Chunk2} (h : RdSt w fb base wd ht depth colour R pal cs)
include h
theorem RdSt.keep {w' : World} (hk : Keep Nil2 w w') : RdSt w' fb base wd ht depth colour R pal cs := by
  obtain ⟨d, h1, h2, h3⟩ := h
  refine ⟨d, h1.keep0 hk, h2, h3.imp id fun ⟨h4, h5⟩ => ⟨h4, ?_⟩⟩
  rcases h5 with h5 | ⟨a, b, c, e, f, g, cc, q1, q2⟩ | ⟨a, b, c, e, f, g, cc, q1, q2⟩ | ⟨a, b, c, e, f, g, cc, q1, q2⟩ | ⟨a, b, c, g, cc, q1, q2, q3, q4⟩
  · exact .inl h5
  · exact .inr (.inl ⟨a, b, c, e, f, g, cc, q1, q2.keep0 hk⟩)
  · exact .inr (.inr (.inl ⟨a, b, c, e, f, g, cc, q1, q2.keep0 hk⟩))
  · exact .inr (.inr (.inr (.inl ⟨a, b, c, e, fun e => by obtain ⟨g, c, q1, q2⟩ := f e; exact ⟨g, c, q1, q2.keep0 hk⟩, g, cc, q1, q2.keep hk fun _ _ _ e => e⟩)))
  · exact .inr (.inr (.inr (.inr ⟨a, b, c, g, cc, q1, q2, Nat.lt_of_lt_of_le q3 hk.size, q4.keep hk fun _ _ e => e⟩)))
theorem RdSt.used (hfb : fb < base) (v : Nat) : RdSt (w.setCell ⟨fb, 8, none⟩ (.int .i64 (v : Int))) fb base wd ht depth colour R pal cs := by
  have hk := keep_setCell w fb 8 (.int .i64 (v : Int))
  have hn : ∀ k o, base ≤ k → ¬ (k = fb ∧ o = 8) := fun k o hk e => by omega
  obtain ⟨d, h1, h2, h3⟩ := h
  refine ⟨{ d with used := v }, h1.set8 v, h2, h3.imp id fun ⟨h4, h5⟩ => ⟨h4, ?_⟩⟩
  rcases h5 with h5 | ⟨a, b, c, e, f, g, cc, q1, q2⟩ | ⟨a, b, c, e, f, g, cc, q1, q2⟩ | ⟨a, b, c, e, f, g, cc, q1, q2⟩ | ⟨a, b, c, g, cc, q1, q2, q3, q4⟩
  · exact .inl h5
  · exact .inr (.inl ⟨a, b, c, e, f, g, cc, q1, q2.keep hk hn⟩)
  · exact .inr (.inr (.inl ⟨a, b, c, e, f, g, cc, q1, q2.keep hk hn⟩))
  · exact .inr (.inr (.inr (.inl ⟨a, b, c, e, fun e => by obtain ⟨g, c, q1, q2⟩ := f e; exact ⟨g, c, q1, q2.keep hk hn⟩, g, cc, q1, q2.keep hk hn⟩)))
  · exact .inr (.inr (.inr (.inr ⟨a, b, c, g, cc, q1, q2, by simpa using q3, q4.keep hk fun j _ => hn _ _ q2⟩)))
end
theorem tailC_ne (R : List UInt8) (l : List Chunk2) : l ++ tailC R ≠ [] := by unfold tailC; simp
theorem RdSt.stage {w : World} {fb base wd ht depth colour : Nat} {R : List UInt8} {pal : List Shade4} {c : Chunk2} {cs : List Chunk2} (h : RdSt w fb base wd ht depth colour R pal (c :: cs)) :
    ∃ st : Nat, w.cell? ⟨fb, 10, none⟩ = some (.int .i64 (st : Int)) ∧ st ≠ 6 ∧ ∀ j, w.frozen? ⟨fb, j, none⟩ = false := by
  obtain ⟨d, h1, h2, h3⟩ := h
  refine ⟨d.stage, h1.c10, ?_, h1.fz⟩
  rcases h3 with h3 | ⟨_, h3 | h3 | h3 | h3 | h3⟩
  · omega
  · omega
  · omega
  · omega
  · omega
  · exact absurd h3.1 (by simp)
theorem RdSt.end_ {w : World} {fb base wd ht depth colour : Nat} {R : List UInt8} {pal : List Shade4} (h : RdSt w fb base wd ht depth colour R pal []) :
    ∃ (d : Fd) (ao : Option Addr) (pn pc g c : Nat), RdF w fb d ∧ d.wd = wd ∧ d.ht = ht ∧ d.depth = depth ∧ d.colour = colour ∧ d.stage = 6 ∧ d.clear = NilS ∧ d.pal = .slice ao pn pc ∧ d.dots = .slice (some ⟨g, 0, none⟩) (ht * wd) c ∧ base ≤ g ∧ g < w.heap.size ∧ CellsAt w g 0 (dotsV (dotsUp R wd depth colour pal (ht * wd))) := by
  obtain ⟨d, h1, h2, h3⟩ := h
  rcases h3 with h3 | ⟨h4, h3 | h3 | h3 | h3 | h3⟩
  · have := h3.1; rw [chunksB_eq] at this; cases this
  · exact absurd h3.1.symm (tailC_ne R _)
  · exact absurd h3.2.1.symm (tailC_ne R _)
  · have := h3.2.1; unfold tailC at this; cases this
  · have := h3.1; cases this
  · obtain ⟨_, hs, ⟨ao, pn, pc, hp⟩, g, c, q1, q2, q3, q4⟩ := h3
    exact ⟨d, ao, pn, pc, g, c, h1, h4.1, h4.2.1, h4.2.2.1, h4.2.2.2, hs, h2, hp, q1, q2, q3, q4⟩

set_option maxHeartbeats 1000000 in
theorem chunkStep {w : World} {fb base wd ht depth colour : Nat} {R : List UInt8} {pal : List Shade4} {n dt : List UInt8} {cs : List Chunk2} (h : RdSt w fb base wd ht depth colour R pal ((n, dt) :: cs)) (ok : RowsOk wd ht depth colour pal.length R) (hp : colour = 3 → pal.length ≤ 200)
    (b o c : Nat) (hb : BytesAt w b o dt) (hne : b ≠ fb) (hbb : b < base) (hfb : fb < base) (hbase : base ≤ w.heap.size) :
    Calls Tryz.prog 15 #[.pointer (some ⟨fb, 0, none⟩), .string (strB n), .slice (some ⟨b, o, none⟩) dt.length c] w fun e w' => e = .returned (.int .i64 0) ∧ RdSt w' fb base wd ht depth colour R pal cs ∧ Keep (fun x _ => x = fb ∨ base ≤ x) w w' := by
  have hk : KindOk colour depth := ok.kind
  have hkl : (keptB R).length = R.length + 13 := keptB_length R
  have hRl := ok.len_le
  obtain ⟨d, h1, h2, h3⟩ := h
  rcases h3 with ⟨hcs, hst, hc0, hpn, hdn, hrn⟩ | ⟨⟨e1, e2, e3, e4⟩, h3⟩
  · rw [chunksB_eq] at hcs
    injection hcs with hc hcs
    injection hc with en ed
    subst en ed hcs
    refine (ckIHDR h1 hst hc0 b o c hb hne hk ⟨ok.w0, ok.w60⟩ ⟨ok.h0, ok.h60⟩).mono ?_
    rintro e w' ⟨rfl, hR, hK⟩
    exact ⟨rfl, ⟨_, hR, h2, .inr ⟨⟨rfl, rfl, rfl, rfl⟩, .inl ⟨rfl, rfl, hpn, hdn, hrn⟩⟩⟩, hK.mono fun _ _ _ e => .inl e⟩
  · have idat : ∀ (hstg : (d.colour = 3 ∧ (d.stage = 2 ∨ d.stage = 3)) ∨ (d.colour ≠ 3 ∧ d.stage = 1)) (hcs : (n, dt) :: cs = tailC R) (hdn : d.dots = NilS) (hrn : d.rest = NilS) (hp0 : ∃ ao n c, d.pal = .slice ao n c) (hpp : colour = 3 → ∃ g c, d.pal = .slice (some ⟨g, 0, none⟩) pal.length c ∧ OwnV 41 4 w base (.slice (some ⟨g, 0, none⟩) pal.length c) pal.length (dotsV (pal.map palDot))),
        Calls Tryz.prog 15 #[.pointer (some ⟨fb, 0, none⟩), .string (strB n), .slice (some ⟨b, o, none⟩) dt.length c] w fun e w' => e = .returned (.int .i64 0) ∧ RdSt w' fb base wd ht depth colour R pal cs ∧ Keep (fun x _ => x = fb ∨ base ≤ x) w w' := by
      intro hstg hcs hdn hrn hp0 hpp
      unfold tailC at hcs
      injection hcs with hc hcs
      injection hc with en ed
      subst en ed hcs
      refine (ckIDAT h1 hstg hrn _ b o c rfl (by omega) hb hne).mono ?_
      rintro e w' ⟨rfl, g, cap, hR, hO, hK⟩
      refine ⟨rfl, ⟨_, hR, h2, .inr ⟨⟨e1, e2, e3, e4⟩, .inr (.inr (.inr (.inl ⟨rfl, rfl, hdn, hp0, fun e => ?_, g, cap, rfl, hO.lower hbase⟩)))⟩⟩, hK.mono fun _ _ _ e => .inl e⟩
      obtain ⟨g, c, q1, q2⟩ := hpp e
      exact ⟨g, c, q1, q2.keep hK fun x _ hx e => by omega⟩
    rcases h3 with ⟨hcs, hst, hpn, hdn, hrn⟩ | ⟨hc3, hcs, hst, hdn, hrn, g, gc, hpe, hO⟩ | ⟨hc3, hcs, hst, hdn, hrn, g, gc, hpe, hO⟩ | ⟨hcs, hst, hdn, hp0, hpp, g, gc, hre, hO⟩ | ⟨hcs, _⟩
    · by_cases hc3 : colour = 3
      · unfold midC at hcs
        rw [if_pos hc3] at hcs
        injection hcs with hc hcs
        injection hc with en ed
        subst en ed hcs
        have hcnt := ok.cnt hc3
        have hd4 : depth = 1 ∨ depth = 2 ∨ depth = 4 ∨ depth = 8 := by unfold KindOk at hk; omega
        refine (ckPLTE h1 hst (e4.trans hc3) pal.length depth _ e3 hpn rfl (shadesB_length pal) b o c hb hne ⟨hcnt.1, hp hc3⟩ ⟨hd4, hcnt.2⟩).mono ?_
        rintro e w' ⟨rfl, g, cap, hR, hO, hK⟩
        exact ⟨rfl, ⟨_, hR, h2, .inr ⟨⟨e1, e2, e3, e4⟩, .inr (.inl ⟨hc3, rfl, rfl, hdn, hrn, g, cap, rfl, by rw [mixD_zero]; exact hO.lower hbase⟩)⟩⟩, hK.mono fun _ _ _ e => e.imp id fun e => by omega⟩
      · unfold midC at hcs
        rw [if_neg hc3] at hcs
        exact idat (.inr ⟨by rw [e4]; exact hc3, hst⟩) hcs hdn hrn ⟨none, 0, 0, hpn⟩ fun e => absurd e hc3
    · by_cases hlc : 0 < lastClear pal pal.length
      · unfold clrC at hcs
        rw [if_pos hlc] at hcs
        injection hcs with hc hcs
        injection hc with en ed
        subst en ed
        have hll := lastClear_le pal pal.length
        have hct : ((clearsB pal).take (lastClear pal pal.length)).length = lastClear pal pal.length := by rw [List.length_take]; simp [clearsB]; omega
        rw [hct]
        rw [mixD_zero] at hO
        refine (cktRNS h1 hst (e4.trans hc3) pal.length (lastClear pal pal.length) g gc base hpe rfl ⟨hlc, hll⟩ (hp hc3) b o c hb hne hO hfb hbb).mono ?_
        rintro e w' ⟨rfl, hR, hO', hK⟩
        exact ⟨rfl, ⟨_, hR, h2, .inr ⟨⟨e1, e2, e3, e4⟩, .inr (.inr (.inl ⟨hc3, hcs, rfl, hdn, hrn, g, gc, hpe, hO'⟩))⟩⟩, hK⟩
      · unfold clrC at hcs
        rw [if_neg hlc] at hcs
        refine idat (.inl ⟨e4.trans hc3, .inl hst⟩) hcs hdn hrn ⟨_, _, _, hpe⟩ fun _ => ⟨g, gc, hpe, ?_⟩
        have e0 : lastClear pal pal.length = 0 := by omega
        rw [mixD_all pal 0 (fun k s hs _ => by
          have h5 := lastClear_whole pal pal.length k (List.getElem?_eq_some_iff.1 hs).1 (by omega)
          rw [List.getD_eq_getElem?_getD, hs] at h5
          simpa using h5)] at hO
        exact hO
    · refine idat (.inl ⟨e4.trans hc3, .inr hst⟩) hcs hdn hrn ⟨_, _, _, hpe⟩ fun _ => ⟨g, gc, hpe, ?_⟩
      rw [mixD_all pal _ (fun k s hs hle => by
        have h5 := lastClear_whole pal pal.length k (List.getElem?_eq_some_iff.1 hs).1 hle
        rw [List.getD_eq_getElem?_getD, hs] at h5
        simpa using h5)] at hO
      exact hO
    · injection hcs with hc hcs
      injection hc with en ed
      subst en ed hcs
      obtain ⟨g', c', eg, hgb, hgc, _, hbk, _⟩ := hO.slice (by omega)
      have hgg : g = g' ∧ gc = c' := by injection eg with q1 q2 q3; injection q1 with q1; injection q1 with q1; exact ⟨q1, q3⟩
      obtain ⟨rfl, rfl⟩ := hgg
      refine (ckIEND (pal := pal) (R := R) h1 hst (wd := wd) (ht := ht) (depth := depth) (colour := colour) (by cases d; simp only at e1 e2 e3 e4 h2; subst e1 e2 e3 e4 h2; rfl) ok (fun e => by
        obtain ⟨g2, c2, q1, q2⟩ := hpp e
        obtain ⟨g3, c3, q3, hge, _, _, hcd, _⟩ := q2.out (ok.cnt e).1
        have q4 : g2 = g3 := by injection q3 with q3; injection q3 with q3; injection q3
        subst q4
        exact ⟨g2, 0, c2, by rw [q1, List.length_map], hcd, by omega⟩) hp0 hdn R.length _ g gc rfl hkl hre hbk hgc (by omega) b o c).mono ?_
      rintro e w' ⟨rfl, g5, cap5, hR, hC, hg5, hg5', hK⟩
      exact ⟨rfl, ⟨_, hR, h2, .inr ⟨⟨e1, e2, e3, e4⟩, .inr (.inr (.inr (.inr ⟨rfl, rfl, hp0, g5, cap5, rfl, by omega, hg5', hC⟩)))⟩⟩, hK.mono fun _ _ _ e => .inl e⟩
    · cases hcs
end Go.Proofs.YtnbbppjgamdfeaaGreatDoor
end
