/- laws.FnBack, part 42 of 54: Q2 Q3. -/
import Derived.Test.YtnbbppjgamdfeaaGreatDoorY35
import Derived.Test.YtnbbppjgamdfeaaGreatDoorY38
import Derived.Test.YtnbbppjgamdfeaaGreatDoorY05
import Derived.BigRegion

/- The reference's shades. -/
section
set_option linter.unusedVariables false
set_option linter.unusedSimpArgs false
namespace Go.Proofs.YtnbbppjgamdfeaaGreatDoor
open Go Go.RowKit

/-- A shade of a palette ahead of what is clear of it. -/
def opqDot (s : Shade4) : Dot4 := (257 * s.1.toNat, 257 * s.2.1.toNat, 257 * s.2.2.1.toNat, 65535)
/-- What append hands back. -/
noncomputable def appRes (w : World) (t : TypeId) (v x : Value) : Result Value := (Builtin.append_ #[t, t] t #[v, x]).run Tryz.prog w
theorem appRes_eq (ρ : Operand → Value) (dst : Option Tmp) (pos : String) (after : Array Edge) (guard : Option (Nat × Bool)) (s x : Operand) (t : TypeId) (w : World) :
    (execOp ρ { dst := dst, op := .call { callee := .builtin .append, args := #[s, x], argTypes := #[t, t] }, type := t, pos := pos, after := after, guard := guard }).run Tryz.prog w = (appRes w t (ρ s) (ρ x)).andThen fun v w' => .ok (.value v) w' := by
  unfold execOp appRes
  simp only [resolve, invoke, builtin, Sem.run_bind, Sem.run_pure, Result.andThen_ok, List.map_toArray, List.map_cons, List.map_nil]
/-- append to a row of the call's own, as an equation. -/
theorem appRes_own {w : World} (t e : TypeId) (z : Value) (size bytes : Nat) (ht : Tryz.prog.underlying t = some (.slice e))
    (hinfo : (Tryz.prog.info? e).map (fun i => (i.zero, i.size, i.bytes)) = some (some z, size, bytes)) (hzs : z.cells.size = size) (hsz : 0 < size) (hby : bytes ≤ 1024)
    (base : Nat) (v : Value) (n : Nat) (xs : List Value) (hown : OwnV e size w base v n xs) (xb xo m c : Nat) (ys : List Value) (hsrc : CellsAt w xb xo ys) (hl : ys.length = m * size) (hm : 0 < m)
    (h1 : ∀ u ∈ ys, u.oneCell' = true) (hlen : n + m ≤ 1073741824) (hbase : base ≤ w.heap.size) :
    ∃ g cap w', appRes w t v (.slice (some ⟨xb, xo, none⟩) m c) = .ok (.slice (some ⟨g, 0, none⟩) (n + m) cap) w' ∧ OwnV e size w' base (.slice (some ⟨g, 0, none⟩) (n + m) cap) (n + m) (xs ++ ys) ∧ Keep (fun k _ => v.ownBlock = some k) w w' := by
  obtain ⟨i, hi, hz, hsz', hby'⟩ := info_of (P := Tryz.prog) hinfo
  have hb : (n + m) * bytes ≤ 140737488355328 := by
    have : (n + m) * bytes ≤ 1073741824 * 1024 := Nat.mul_le_mul hlen hby
    omega
  obtain ⟨v', w', hr, h2, h3, _, h4, h5⟩ := run_append_own_still (P := Tryz.prog) w base t t e i z size bytes ht hi hz hsz' hby' hzs hsz v n xs hown ⟨xb, xo, none⟩ m c ys hl (fun j u hu => by rw [addr_add]; exact hsrc j u hu) h1 (by unfold maxLen; omega) hb hbase
  have h6 : OwnV e size w' base v' (n + m) (xs ++ ys) := h2
  obtain ⟨g, cap, rfl, -⟩ := h6.out (by omega)
  exact ⟨g, cap, w', hr, h6, keep_grown h3⟩
attribute [local go_sem ↓] appRes_eq

set_option maxHeartbeats 8000000 in
set_option maxRecDepth 100000 in
theorem specShades {w : World} {fb : Nat} {d : Fd} {pal : List Shade4} (h : RdF w fb d) (hcol : d.colour = 3) (np depth L : Nat) (hdep : d.depth = depth) (hpal : d.pal = .slice none 0 0) (hnp : np = pal.length) (hL : L = 3 * np) (b o c : Nat) (hb : BytesAt w b o (shadesB pal)) (hne : b ≠ fb)
    (hnp0 : 0 < np ∧ np ≤ 200) (hd : (depth = 1 ∨ depth = 2 ∨ depth = 4 ∨ depth = 8) ∧ np ≤ 2 ^ depth) :
    Calls Tryz.prog 25 #[.pointer (some ⟨fb, 0, none⟩), .slice (some ⟨b, o, none⟩) L c] w fun e w' => ∃ g cap, e = .returned (.int .i64 0) ∧ RdF w' fb { d with pal := .slice (some ⟨g, 0, none⟩) np cap, stage := 2 } ∧
      OwnV 41 4 w' w.heap.size (.slice (some ⟨g, 0, none⟩) np cap) np (dotsV (pal.map opqDot)) ∧ Keep (fun x _ => x = fb ∨ w.heap.size ≤ x) w w' := by
  have hbs : ∀ (a b c e : Int) (w : World), (Instr.buildSlice 31 1 #[(0, .agg #[.int .i64 a, .int .i64 b, .int .i64 c, .int .i64 e])]).run Tryz.prog w = .ok (.slice (some ⟨w.heap.size, 0, none⟩) 1 1) (w.alloc (.cells #[.int .i64 a, .int .i64 b, .int .i64 c, .int .i64 e] 41)) := fun a b c e w => by kernel_rfl
  have hlt := h.lt
  have hbw : b < w.heap.size := hb.lt (by rw [shadesB_length]; omega)
  have c3 := h.c3
  have c2 := h.c2
  rw [hcol] at c3
  rw [hdep] at c2
  have q1 : (((3 : Nat) : Int) == 0) = false := by decide
  have q2 : (((3 : Nat) : Int) == 4) = false := by decide
  have d64 : min depth 64 = depth := by omega
  obtain ⟨P, hP⟩ : ∃ P, P = 2 ^ depth := ⟨_, rfl⟩
  have hP2 : P ≤ 256 ∧ np ≤ P := by
    rw [hP]
    refine ⟨?_, hd.2⟩
    rcases hd.1 with e | e | e | e <;> rw [e] <;> decide
  have e1 : (2 : Int) ^ depth = (P : Int) := by rw [hP]; simp
  have e2 : IntKind.i64.wrap (P : Int) = (P : Int) := IntWalk.i64_in _ (by omega)
  have e3 : Int.tmod (L : Int) 3 = 0 := by rw [Int.tmod_eq_emod_of_nonneg (by omega)]; omega
  have e3' : (L : Int) % 3 = 0 := by omega
  have e4 : Int.tdiv (L : Int) 3 = (np : Int) := by rw [Int.tdiv_eq_ediv_of_nonneg (by omega)]; omega
  have e4' : (L : Int) / 3 = (np : Int) := by omega
  have e5 : IntKind.i64.wrap (np : Int) = (np : Int) := IntWalk.i64_in _ (by omega)
  have z1 : ((L : Int) == 0) = false := by simp; omega
  have z2 : ¬ L = 0 := by omega
  have z3 : L ≤ 768 := by omega
  have z4 : np ≤ P := hP2.2
  have z5 : ¬ P < np := by omega
  have z6 : ¬ 768 < L := by omega
  have H := Lib.hid (And.intro h (And.intro hcol (And.intro hdep (And.intro hpal (And.intro hnp (And.intro hL hb))))))
  clear h hcol hdep hpal hnp hL hb hP hd
  go_enter Tryz.func25, Tryz.ntmps25
  go_wp2
  go_loopg [6] np (fun G v6 wr => ∃ (k g k3 : Nat) (pv : Value), g = G ∧ k + g = np ∧ v6 = .int .i64 (k3 : Int) ∧ k3 = 3 * k ∧ OwnV 41 4 wr w.heap.size pv k (dotsV ((pal.take k).map opqDot)) ∧ RdF wr fb { d with pal := pv } ∧ Keep (fun x _ => x = fb ∨ w.heap.size ≤ x) w wr)
  case atStart => exact ⟨0, np, 0, .slice none 0 0, rfl, by omega, rfl, rfl, OwnV.nil 41 4 _ _, by rw [← H.out.2.2.2.1]; exact H.out.1, Keep.refl _ _⟩
  case round =>
    obtain ⟨k, g, k3, pv, hG, hkg, rfl, hk3, hO, hR, hK⟩ := hrel
    have HG := Lib.hid hG
    have hkL : L = 3 * np := H.out.2.2.2.2.2.1
    have HK3 := Lib.hid hk3
    by_cases hk : k < np
    · have d1 : decide ((k3 : Int) < (L : Int)) = true := by simp; omega
      obtain ⟨s, hs⟩ : ∃ s, pal[k]? = some s := ⟨pal[k]'(by have := H.out.2.2.2.2.1; omega), List.getElem?_eq_getElem _⟩
      obtain ⟨x0, x1, x2⟩ := shadesB_get pal k s hs
      have hbk := H.out.2.2.2.2.2.2.keep hK fun _ _ e => by rcases e with e | e <;> omega
      have y0 := hbk.at_ _ _ x0
      have y1 := hbk.at_ _ _ x1
      have y2 := hbk.at_ _ _ x2
      obtain ⟨j1, hj1⟩ : ∃ j1, j1 = k3 + 1 := ⟨_, rfl⟩
      obtain ⟨j2, hj2⟩ : ∃ j2, j2 = k3 + 2 := ⟨_, rfl⟩
      rw [← hk3] at y0
      rw [show 3 * k + 1 = j1 by omega] at y1
      rw [show 3 * k + 2 = j2 by omega] at y2
      have f1 : IntKind.i64.wrap ((k3 : Int) + 1) = (j1 : Int) := by rw [IntWalk.i64_in _ (by omega)]; omega
      have f2 : IntKind.i64.wrap ((k3 : Int) + 2) = (j2 : Int) := by rw [IntWalk.i64_in _ (by omega)]; omega
      have b0 : (k3 : Int) < L := by omega
      have b1 : (j1 : Int) < L := by omega
      have b2 : (j2 : Int) < L := by omega
      have u0 := s.1.toNat_lt
      have u1 := s.2.1.toNat_lt
      have u2 := s.2.2.1.toNat_lt
      have HS := Lib.hid (show (pal.take (k + 1)).map opqDot = (pal.take k).map opqDot ++ [opqDot s] by rw [List.take_add_one, hs, List.map_append]; rfl)
      obtain ⟨r, hr⟩ : ∃ r, r = s.1.toNat := ⟨_, rfl⟩
      obtain ⟨gg, hgg⟩ : ∃ gg, gg = s.2.1.toNat := ⟨_, rfl⟩
      obtain ⟨bb, hbb⟩ : ∃ bb, bb = s.2.2.1.toNat := ⟨_, rfl⟩
      rw [← hr] at y0 u0
      rw [← hgg] at y1 u1
      rw [← hbb] at y2 u2
      obtain ⟨r7, hr7⟩ : ∃ r7, r7 = 257 * r := ⟨_, rfl⟩
      obtain ⟨g7, hg7⟩ : ∃ g7, g7 = 257 * gg := ⟨_, rfl⟩
      obtain ⟨b7, hb7⟩ : ∃ b7, b7 = 257 * bb := ⟨_, rfl⟩
      have w0 : IntKind.i64.wrap (r : Int) = (r : Int) := IntWalk.i64_in _ (by omega)
      have w1 : IntKind.i64.wrap (gg : Int) = (gg : Int) := IntWalk.i64_in _ (by omega)
      have w2 : IntKind.i64.wrap (bb : Int) = (bb : Int) := IntWalk.i64_in _ (by omega)
      have m0 : IntKind.i64.wrap (257 * (r : Int)) = (r7 : Int) := by rw [IntWalk.i64_in _ (by omega)]; omega
      have m1 : IntKind.i64.wrap (257 * (gg : Int)) = (g7 : Int) := by rw [IntWalk.i64_in _ (by omega)]; omega
      have m2 : IntKind.i64.wrap (257 * (bb : Int)) = (b7 : Int) := by rw [IntWalk.i64_in _ (by omega)]; omega
      have HD := Lib.hid (show opqDot s = (r7, g7, b7, 65535) by unfold opqDot; rw [← hr, ← hgg, ← hbb, hr7, hg7, hb7])
      have hka : Keep Nil2 wr (wr.alloc (.cells #[.int .i64 (r7 : Int), .int .i64 (g7 : Int), .int .i64 (b7 : Int), .int .i64 65535] 41)).drew := ((Keep.refl Nil2 wr).alloc _).drew
      have hsrc : CellsAt (wr.alloc (.cells #[.int .i64 (r7 : Int), .int .i64 (g7 : Int), .int .i64 (b7 : Int), .int .i64 65535] 41)).drew wr.heap.size 0 (dotCell (r7, g7, b7, 65535)) := (CellsAt.lit wr #[.int .i64 (r7 : Int), .int .i64 (g7 : Int), .int .i64 (b7 : Int), .int .i64 65535] 41).keep ((Keep.refl Nil2 _).drew) fun _ _ e => e
      obtain ⟨g4, cap4, w4, hrun, hO4, hk4⟩ := appRes_own 31 41 _ 4 32 Tryz.underlying31 info41 rfl (by decide) (by decide) w.heap.size pv k (dotsV ((pal.take k).map opqDot)) (hO.keep0 hka) wr.heap.size 0 1 1 (dotCell (r7, g7, b7, 65535)) hsrc rfl (by omega) (dotCell_one _) (by omega) (by have := hka.size; have := hK.size; omega)
      have hge := fun j e => (hO.block_ge j e).1
      have hR4 := (hR.keep0 hka).keep hk4 fun _ e => by have := hge _ e; omega
      have t6 := hR.c6
      have t6b := (hR.keep0 hka).c6
      have p6 := hR4.c6
      have pz := hR4.fz
      have tz := hR.fz
      have HF := Lib.hid (show RdF (w4.setCell ⟨fb, 6, none⟩ (.slice (some ⟨g4, 0, none⟩) (k + 1) cap4)) fb { d with pal := .slice (some ⟨g4, 0, none⟩) (k + 1) cap4 } ∧ OwnV 41 4 (w4.setCell ⟨fb, 6, none⟩ (.slice (some ⟨g4, 0, none⟩) (k + 1) cap4)) w.heap.size (.slice (some ⟨g4, 0, none⟩) (k + 1) cap4) (k + 1) (dotsV ((pal.take (k + 1)).map opqDot)) ∧ Keep (fun x _ => x = fb ∨ w.heap.size ≤ x) w (w4.setCell ⟨fb, 6, none⟩ (.slice (some ⟨g4, 0, none⟩) (k + 1) cap4)) by
        refine ⟨hR4.set6 _, ?_, ?_⟩
        · rw [HS.out, dotsV_snoc, HD.out]
          exact hO4.keep (keep_setCell w4 fb 6 _) fun x _ hx e => by omega
        · exact ((hK.trans (hka.mono fun _ _ _ e => e.elim)).then hk4 (fun _ _ _ e => e) fun x _ _ e => .inr (hge x e)).setCell _ fun _ => .inl rfl)
      clear hG hk3 hO hR hK hs x0 x1 x2 hbk hr hgg hbb hr7 hg7 hb7 hka hsrc hO4 hk4 hge hR4 hj1 hj2 hkL
      go_wp2
      go_region
      go_wp2
      go_roundg (g - 1)
      case measure => have := HG.out; omega
      case rel => exact ⟨k + 1, g - 1, k3 + 3, _, rfl, by omega, by go_num, by have := HK3.out; omega, HF.out.2.1, HF.out.1, HF.out.2.2⟩
    · obtain rfl : k = np := by omega
      have d1 : ¬ k3 < L := by omega
      obtain ⟨g4, cap4, rfl, -⟩ := hO.out hnp0.1
      have hall : pal.take k = pal := List.take_of_length_le (by have := H.out.2.2.2.2.1; omega)
      rw [hall] at hO
      have c10 := hR.c10
      have fz := hR.fz
      have HO := Lib.hid (And.intro (hR.set10 2) (And.intro (hO.keep (keep_setCell wr fb 10 (.int .i64 ((2 : Nat) : Int))) fun x _ hx e => by omega) (hK.setCell (b := fb) (o := 10) (.int .i64 ((2 : Nat) : Int)) fun _ => .inl rfl)))
      clear hG hk3 hO hR hK hall hkL
      go_wp2
      go_ret
      exact ⟨rfl, g4, cap4, HO.out.1, HO.out.2.1, HO.out.2.2⟩
end Go.Proofs.YtnbbppjgamdfeaaGreatDoor
end

/- The reference's clears: of a palette. -/
section
set_option linter.unusedVariables false
set_option linter.unusedSimpArgs false
namespace Go.Proofs.YtnbbppjgamdfeaaGreatDoor
open Go Go.RowKit

theorem dotsV_set3 (l : List Dot4) (k : Nat) (d : Dot4) (h : l[k]? = some d) (v : Nat) : (dotsV l).set (k * 4 + 3) (.int .i64 (v : Int)) = dotsV (l.set k (d.1, d.2.1, d.2.2.1, v)) := by
  induction l generalizing k with
  | nil => simp at h
  | cons p l ih =>
    have e : dotsV (p :: l) = dotCell p ++ dotsV l := rfl
    cases k with
    | zero =>
      simp only [List.getElem?_cons_zero] at h
      injection h with h
      subst h
      rfl
    | succ k =>
      simp only [List.getElem?_cons_succ] at h
      rw [e, List.set_append_right _ _ (by simp [dotCell]; omega), List.set_cons_succ]
      have := ih k h
      rw [show (k + 1) * 4 + 3 - (dotCell p).length = k * 4 + 3 by simp [dotCell]; omega, this]
      rfl
/-- The palette, what is clear told of the first k entries. -/
def mixD (pal : List Shade4) (k : Nat) : List Dot4 := (pal.take k).map palDot ++ (pal.drop k).map opqDot
theorem mixD_zero (pal : List Shade4) : mixD pal 0 = pal.map opqDot := by simp [mixD]
theorem mixD_length (pal : List Shade4) (k : Nat) : (mixD pal k).length = pal.length := by
  unfold mixD
  rw [List.length_append, List.length_map, List.length_map, List.length_take, List.length_drop]
  omega
theorem mixD_get (pal : List Shade4) (k : Nat) (s : Shade4) (h : pal[k]? = some s) : (mixD pal k)[k]? = some (opqDot s) := by
  have hk : k < pal.length := (List.getElem?_eq_some_iff.1 h).1
  unfold mixD
  rw [List.getElem?_append_right (by rw [List.length_map, List.length_take]; omega), List.length_map, List.length_take, Nat.min_eq_left (by omega), Nat.sub_self, List.getElem?_map, List.getElem?_drop, Nat.add_zero, h]
  rfl
theorem mixD_set (pal : List Shade4) (k : Nat) (s : Shade4) (h : pal[k]? = some s) : (mixD pal k).set k (palDot s) = mixD pal (k + 1) := by
  have hk : k < pal.length := (List.getElem?_eq_some_iff.1 h).1
  have hs : pal[k] = s := by rw [List.getElem?_eq_getElem hk] at h; exact Option.some.inj h
  unfold mixD
  rw [List.set_append_right _ _ (by rw [List.length_map, List.length_take]; omega), List.length_map, List.length_take, Nat.min_eq_left (by omega), Nat.sub_self, List.drop_eq_getElem_cons hk, List.map_cons, List.set_cons_zero, List.take_add_one, h]
  simp
theorem mixD_all (pal : List Shade4) (m : Nat) (h : ∀ k s, pal[k]? = some s → m ≤ k → s.2.2.2 = 255) : mixD pal m = pal.map palDot := by
  unfold mixD
  have e : (pal.drop m).map opqDot = (pal.drop m).map palDot := by
    refine List.map_congr_left fun s hs => ?_
    obtain ⟨j, hj, rfl⟩ := List.mem_iff_getElem.1 hs
    have h1 := h (m + j) _ (by rw [← List.getElem?_drop, List.getElem?_eq_getElem hj]) (by omega)
    unfold opqDot palDot
    rw [h1]; rfl
  rw [e, ← List.map_append, List.take_append_drop]

set_option maxHeartbeats 8000000 in
set_option maxRecDepth 100000 in
theorem specClears {w : World} {fb : Nat} {d : Fd} {pal : List Shade4} (h : RdF w fb d) (hcol : d.colour = 3) (np m pg pc base : Nat) (hpal : d.pal = .slice (some ⟨pg, 0, none⟩) np pc) (hnp : np = pal.length) (hm : 0 < m ∧ m ≤ np) (hnp2 : np ≤ 200) (b o c : Nat) (hb : BytesAt w b o ((clearsB pal).take m)) (hne : b ≠ fb)
    (hO : OwnV 41 4 w base (.slice (some ⟨pg, 0, none⟩) np pc) np (dotsV (pal.map opqDot))) (hfb : fb < base) (hbb : b < base) :
    Calls Tryz.prog 26 #[.pointer (some ⟨fb, 0, none⟩), .slice (some ⟨b, o, none⟩) m c] w fun e w' => e = .returned (.int .i64 0) ∧ RdF w' fb { d with stage := 3 } ∧ OwnV 41 4 w' base (.slice (some ⟨pg, 0, none⟩) np pc) np (dotsV (mixD pal m)) ∧ Keep (fun x _ => x = fb ∨ base ≤ x) w w' := by
  have hlt := h.lt
  have c10 := h.c10
  have c3 := h.c3
  have c6 := h.c6
  have fz := h.fz
  rw [hcol] at c3
  rw [hpal] at c6
  have hpg : base ≤ pg := (hO.block_ge pg rfl).1
  have hpf : pg ≠ fb := by omega
  have q1 : (((3 : Nat) : Int) == 0) = false := by decide
  have q2 : (((3 : Nat) : Int) == 2) = false := by decide
  have q3 : (((3 : Nat) : Int) == 3) = true := by decide
  have z1 : ((m : Int) == 0) = false := by simp; omega
  have z2 : ¬ m = 0 := by omega
  have z3 : m ≤ np := hm.2
  have z4 : ¬ np < m := by omega
  have h1 := h.set10 3
  have hk1 := keep_setCell w fb 10 (.int .i64 ((3 : Nat) : Int))
  have H := Lib.hid (And.intro h1 (And.intro (hO.keep hk1 fun x _ hx e => by omega) (And.intro (hb.keep hk1 fun _ _ e => hne e.1) (And.intro hk1 (And.intro hnp hpal)))))
  clear h h1 hk1 hO hb hcol hpal hnp
  go_enter Tryz.func26, Tryz.ntmps26
  go_wp2
  obtain ⟨w1, hw1⟩ : ∃ w1, w1 = w.setCell ⟨fb, 10, none⟩ (.int .i64 3) := ⟨_, rfl⟩
  have H1 := H.out
  rw [show w.setCell ⟨fb, 10, none⟩ (.int .i64 ((3 : Nat) : Int)) = w1 from hw1.symm] at H1
  rw [← hw1]
  have H2 := Lib.hid H1
  clear H1 hw1 c10 c3 c6 fz
  go_loopg [7, 8, 90] m (fun G v7 v8 v90 wr => ∃ k g : Nat, g = G ∧ k + g = m ∧ v90 = .int .i64 (k : Int) ∧ OwnV 41 4 wr base (.slice (some ⟨pg, 0, none⟩) np pc) np (dotsV (mixD pal k)) ∧ Keep (fun x _ => x = pg) w1 wr)
  case atStart => exact ⟨0, m, rfl, by omega, rfl, by rw [mixD_zero]; exact H2.out.2.1, Keep.refl _ _⟩
  case round =>
    obtain ⟨k, g, hG, hkg, rfl, hO, hK⟩ := hrel
    have HG := Lib.hid hG
    clear hG
    by_cases hk : k < m
    · have d1 : decide ((k : Int) < (m : Int)) = true := by simp; omega
      have hkI : (k : Int) < m := by omega
      have hkN : (k : Int) < np := by omega
      obtain ⟨s, hs⟩ : ∃ s, pal[k]? = some s := ⟨pal[k]'(by have := H2.out.2.2.2.2.1; omega), List.getElem?_eq_getElem _⟩
      have hcl : ((clearsB pal).take m)[k]? = some s.2.2.2 := by rw [List.getElem?_take_of_lt hk]; exact clearsB_get pal k s hs
      have cb := (H2.out.2.2.1.keep hK fun _ _ e => by omega).at_ k _ hcl
      have c6 := (H2.out.1.keep hK fun _ e => hpf e.symm).c6
      have hpl := H2.out.2.2.2.2.2
      simp only [hpl] at c6
      have u0 := s.2.2.2.toNat_lt
      obtain ⟨a, ha⟩ : ∃ a, a = s.2.2.2.toNat := ⟨_, rfl⟩
      rw [← ha] at cb u0
      obtain ⟨a7, ha7⟩ : ∃ a7, a7 = 257 * a := ⟨_, rfl⟩
      have f1 : IntKind.i64.wrap (a : Int) = (a : Int) := IntWalk.i64_in _ (by omega)
      have f2 : IntKind.i64.wrap (257 * (a : Int)) = (a7 : Int) := by rw [IntWalk.i64_in _ (by omega)]; omega
      obtain ⟨g', cap', e, _, _, _, hcd, hfd⟩ := hO.out (by omega)
      have eg : pg = g' := by injection e with e; injection e with e; injection e
      clear e
      subst eg
      obtain ⟨_, _, _, t3⟩ := hcd.dot k _ (mixD_get pal k s hs)
      rw [Nat.zero_add] at t3
      have f3 := hfd (k * 4 + 3)
      have HF := Lib.hid (show OwnV 41 4 (wr.setCell ⟨pg, k * 4 + 3, none⟩ (.int .i64 (a7 : Int))) base (.slice (some ⟨pg, 0, none⟩) np pc) np (dotsV (mixD pal (k + 1))) ∧ Keep (fun x _ => x = pg) w1 (wr.setCell ⟨pg, k * 4 + 3, none⟩ (.int .i64 (a7 : Int))) by
        refine ⟨?_, hK.setCell _ fun _ => rfl⟩
        have h2 := hO.setAt (k * 4 + 3) (.int .i64 (a7 : Int))
        rw [dotsV_set3 _ _ _ (mixD_get pal k s hs)] at h2
        have h3 := mixD_set pal k s hs
        have h4 : palDot s = ((opqDot s).1, (opqDot s).2.1, (opqDot s).2.2.1, a7) := by unfold palDot opqDot; rw [ha7, ha]
        rw [← h3, h4]
        exact h2)
      clear hO hK hs hcl ha ha7 hcd hfd hpl
      go_wp2
      go_roundg (g - 1)
      case measure => have := HG.out; omega
      case rel => exact ⟨k + 1, g - 1, rfl, by omega, by go_num, HF.out.1, HF.out.2⟩
    · obtain rfl : k = m := by omega
      have d1 : decide ((k : Int) < (k : Int)) = false := by simp
      have HO := Lib.hid (And.intro hO hK)
      clear hO hK
      go_wp2
      go_ret
      exact ⟨rfl, H2.out.1.keep HO.out.2 (fun _ e => hpf e.symm), HO.out.1, (H2.out.2.2.2.1.mono (G := fun x _ => x = fb ∨ base ≤ x) fun _ _ _ e => .inl e.1).trans (HO.out.2.mono fun _ _ _ e => .inr (by omega))⟩
end Go.Proofs.YtnbbppjgamdfeaaGreatDoor
end
