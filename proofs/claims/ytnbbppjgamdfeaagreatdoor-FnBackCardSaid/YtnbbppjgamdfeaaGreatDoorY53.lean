/- laws.FnBack, part 53 of 54: X7 X4. -/
import Derived.Test.YtnbbppjgamdfeaaGreatDoorRows
import Derived.Test.YtnbbppjgamdfeaaGreatDoorY09
import Derived.ProofKit
import Derived.LaidMore
import Derived.LaidLaws
import Derived.OpenShut
import Derived.Test.YtnbbppjgamdfeaaGreatDoorY52
import Derived.Test.YtnbbppjgamdfeaaGreatDoorY51
import Derived.OpenVars
import Derived.Carry
import Derived.ChangeVars
import Derived.Stop.Joined

/- laws.FnBack: what the row's condition gives the walk (the table of CRC-32, io.EOF), and what a slice of bytes that came in gives. No conditions beyond those that each theorem names. -/
section
set_option linter.unusedVariables false
set_option linter.unusedSimpArgs false
namespace Go.Proofs.YtnbbppjgamdfeaaGreatDoor
open Go.ChangeShapes Go.WideShapes Go.ChangeAt Go.RowKit

theorem laid_half {P : Program} {laid : List (String × DataW Unit)} {W : World} (h : laidMetH P laid W) : laidMet P (laid.filter fun x => x.2.handleName?.isNone) W := by
  unfold laidMetH at h
  split at h
  · rename_i e
    have e' : (laid.filter fun x => x.2.handleName?.isNone) = laid := by
      rw [List.filter_eq_self]
      intro x hx
      have := (List.filter_eq_nil_iff.1 e) x hx
      cases hn : x.2.handleName? with
      | none => rfl
      | some s => rw [hn] at this; exact absurd rfl this
    rw [e']; exact h
  · exact h.1

theorem laidVars_mem {P : Program} {W : World} : ∀ {l : List (String × DataW Unit)} {ps : List MemPlace}, DataW.LaidVars P W l ps → ∀ n d, (n, d) ∈ l →
    ∃ g t cs fuel p, P.globalNamed n = some g ∧ (P.globals[g]?).map (·.type) = some t ∧ W.var? P n = some cs ∧ DataW.trod (fun _ => ()) P W 0 (fun _ => true) false fuel t cs.toList = some (d, p) ∧ ∀ y ∈ MemPlace.row ⟨g, 0, none⟩ cs.size, y ∈ ps
  | [], _, _, n, d, hm => by cases hm
  | (n', d') :: r, ps, h, n, d, hm => by
    obtain ⟨g, t, cs, fuel, p, q, h1, h2, h3, h4, h5, e⟩ := h
    rcases List.mem_cons.1 hm with e' | hm'
    · cases e'
      exact ⟨g, t, cs, fuel, p, h1, h2, h3, h4, fun y hy => by rw [e]; simp [hy]⟩
    · obtain ⟨g', t', cs', f', p', a1, a2, a3, a4, a5⟩ := laidVars_mem h5 n d hm'
      exact ⟨g', t', cs', f', p', a1, a2, a3, a4, fun y hy => by rw [e]; simp [a5 y hy]⟩

theorem trodVars_len {H : Type} {enc : TypeId × Value → H} {P : Program} {w : World} {sp : Nat → Bool} : ∀ {ns : List String} {gs : List (DataW H)} {q : List MemPlace}, DataW.TrodVars enc P w sp ns gs q → gs.length = ns.length
  | [], [], _, _ => rfl
  | [], _ :: _, _, h => h.elim
  | _ :: _, [], _, h => h.elim
  | n :: ns, g :: gs, q, h => by
    obtain ⟨_, _, _, _, _, _, _, _, _, _, h5, _⟩ := h
    rw [List.length_cons, List.length_cons, trodVars_len h5]

theorem tab_of {P : Program} {W : World} {n : String} {t e : TypeId} {fuel : Nat} {cs : Array Value} {p : List MemPlace} (ht : P.underlying t = some (.array 256 e)) (he : P.underlying e = some (.int .u32)) (hc : P.cellsOf e = 1)
    (hg : P.globalNamed n = some 3) (hv : W.var? P n = some cs)
    (hd : DataW.trod (fun _ => ()) P W 0 (fun _ => true) false fuel t cs.toList = some (.agg ((List.range 256).map fun i => .lit (.int .u32 (crc8 i : Int))), p)) : TabOk W := by
  obtain ⟨xs, m, rfl, hx, hlen, hn, hel⟩ := DataW.trod_array ht hd
  intro i hi
  have h1 := hel i hi
  have hxi : xs[i]? = some (xs[i]'(by omega)) := List.getElem?_eq_getElem (by omega)
  rw [hc, Nat.mul_one, hxi] at h1
  obtain ⟨k, e1, e2, _⟩ := DataW.trod_int he h1
  have hx1 := (Prod.mk.inj hx).1
  rw [DataW.agg.injEq] at hx1
  have h2 := congrArg (fun l => l[i]?) hx1
  simp only [List.getElem?_map, hxi, e2, List.getElem?_range hi, Option.map_some, Option.some.injEq, DataW.lit.injEq, Lit.int.injEq, true_and] at h2
  rw [World.var?_cell hg hv i, ← Array.getElem?_toList]
  have h3 := congrArg (fun l => l[0]?) e1
  simpa [h2] using h3

theorem eof_of {P : Program} {W : World} {n : String} {fuel : Nat} {cs : Array Value} {p : List MemPlace} {ti te ts : TypeId} {ms : Array (String × TypeId)} {nm : String} {f : Field} {text : List UInt8}
    (hi : P.underlying ti = some (.interface ms)) (hrow : ∀ u, P.typeName? 3 u = some nm → u = 306)
    (hp : P.underlying 306 = some (.pointer te)) (he : P.underlying te = some (.struct #[f])) (hft : f.type = ts) (hfo : f.offset = 0) (hs : P.underlying ts = some .string) (hc : P.cellsOf te = 1) (hcs : P.cellsOf ts = 1)
    (hg : P.globalNamed n = some 0) (hv : W.var? P n = some cs)
    (hd : DataW.trod (fun _ => ()) P W 0 (fun _ => true) false fuel ti cs.toList = some (.iface nm (.ptr (.agg [.lit (.string text)])), p))
    (hok : ∀ u v, cs.toList = [.iface u v] → Value.okWide P W .any 0 u v) : ∃ eb, W.cell? ⟨0, 0, none⟩ = some (eofV eb) := by
  obtain ⟨a, s, hl, hcell, _, _, _⟩ := errorString_of_trod hi hrow hp he hft hfo hs hc hcs hd hok
  obtain ⟨b, o, spot⟩ := a
  have hspot : spot = none := by simpa using World.cell?_spot hcell
  subst hspot
  obtain ⟨eb, heb⟩ := eofA_is b o
  refine ⟨eb, ?_⟩
  rw [World.var?_cell hg hv 0, ← Array.getElem?_toList, hl]
  simp [eofV, heb]

/-- What a slice of bytes that came in gives. -/
theorem open_pix {H : Type} {enc : TypeId × Value → H} {P : Program} {W : World} {base : Nat} {t e : TypeId} {v : Value} {d : DataW H} {p : List MemPlace} (ht : P.underlying t = some (.slice e)) (he : P.underlying e = some (.int .u8)) (hc : P.cellsOf e = 1)
    (hval : Value.okWide P W .any base t v) (h : DataW.Trod enc P W 0 (fun _ => true) true t v d p) :
    ∃ (ao : Option Addr) (m c : Nat) (l0 : List UInt8), v = .slice ao m c ∧ m = l0.length ∧ (m = 0 ∨ ∃ b o, ao = some ⟨b, o, none⟩ ∧ BytesAt W b o l0) := by
  obtain ⟨a1, len, cap, rfl⟩ := okWide_slice ht hval
  obtain ⟨fuel, hf⟩ := h
  rcases open_ints ht he hc hf with ⟨hcs, hx⟩ | ⟨a, len', cap', zs, hcs, _, hl, hm, hz, hx, hcell, hwz⟩
  · simp [Value.cells] at hcs
    obtain ⟨rfl, rfl, rfl⟩ := hcs
    exact ⟨none, 0, 0, [], rfl, rfl, .inl rfl⟩
  · simp [Value.cells] at hcs
    obtain ⟨rfl, rfl, rfl⟩ := hcs
    simp only [if_true] at hz
    by_cases h0 : len = 0
    · subst h0
      exact ⟨some a, 0, cap, [], rfl, rfl, .inl rfl⟩
    obtain ⟨b, o, rfl, hce⟩ := ints_at hcell (by omega)
    have hlen : ((zs.take len).map fun n => UInt8.ofNat n.toNat).length = len := by simp; omega
    refine ⟨_, len, cap, (zs.take len).map fun n => UInt8.ofNat n.toNat, rfl, hlen.symm, .inr ⟨b, o, rfl, fun j hj => ?_⟩⟩
    rw [hlen] at hj
    rw [hce j (by omega)]
    have hb := range_u8 hwz j
    simp only [List.getElem_map, List.getElem_take]
    have e : zs.getD j 0 = zs[j]'(by omega) := by simp [List.getD, List.getElem?_eq_getElem (show j < zs.length by omega)]
    rw [List.getD_eq_getElem?_getD] at e
    rw [e] at hb
    rw [List.getD_eq_getElem?_getD, e]
    congr 2
    simp only [UInt8.toNat_ofNat']
    omega

theorem gTab : Tryz.prog.globalNamed "loop.example/pub-g03471/pub/png.ieeeTable" = some 3 := by kernel_rfl
theorem gEof : Tryz.prog.globalNamed "io.EOF" = some 0 := by kernel_rfl
theorem tTab : (Tryz.prog.globals[3]?).map (·.type) = some 179 := by kernel_rfl
theorem tEof : (Tryz.prog.globals[0]?).map (·.type) = some 72 := by kernel_rfl
theorem eofStar : "*" ++ "errors.errorString" = "*errors.errorString" := by decide
theorem eofRow (u : TypeId) (h : Tryz.prog.typeName? 3 u = some "*errors.errorString") : u = 306 :=
  typeName_ptr_named (nm := "errors.errorString") (by rw [eofStar]; kernel_rfl) (by kernel_rfl) (by decide) u (by rw [eofStar]; exact h)
theorem tabD : Rows.laid_loop_example_pub_g03471_pub_png_ieeeTable = (.agg ((List.range 256).map fun i => .lit (.int .u32 (crc8 i : Int))) : DataW Unit) := by kernel_rfl

set_option maxRecDepth 100000 in
/-- What the row's condition gives the walk. -/
theorem of_laid {W : World} (h : laidMetH Tryz.prog Rows.fnBackRow.laid W) : TabOk W ∧ ∃ eb, W.cell? ⟨0, 0, none⟩ = some (eofV eb) := by
  obtain ⟨ps, hl, _, hrows⟩ := laid_half h
  constructor
  · obtain ⟨g, t, cs, fuel, p, e1, e2, e3, e4, _⟩ := laidVars_mem hl "loop.example/pub-g03471/pub/png.ieeeTable" Rows.laid_loop_example_pub_g03471_pub_png_ieeeTable (List.mem_filter.2 ⟨List.mem_of_getElem? (i := 9) rfl, rfl⟩)
    obtain rfl := Option.some.inj (gTab.symm.trans e1)
    obtain rfl := Option.some.inj (tTab.symm.trans e2)
    exact tab_of Tryz.underlying179 Tryz.underlying22 (by kernel_rfl) gTab e3 (tabD ▸ e4)
  · obtain ⟨g, t, cs, fuel, p, e1, e2, e3, e4, e5⟩ := laidVars_mem hl "io.EOF" Rows.laid_io_EOF (List.mem_filter.2 ⟨List.mem_of_getElem? (i := 2) rfl, rfl⟩)
    obtain rfl := Option.some.inj (gEof.symm.trans e1)
    obtain rfl := Option.some.inj (tEof.symm.trans e2)
    obtain ⟨l⟩ := cs
    exact eof_of Tryz.underlying72 eofRow Tryz.underlying306 Tryz.underlying344 rfl rfl Tryz.underlying9 (by kernel_rfl) (by kernel_rfl) gEof e3 e4 fun u v e => by
      obtain rfl : l = [.iface u v] := e
      exact (hrows 0 0 (e5 _ (by simp [MemPlace.row]))).2 u v (by simpa using World.var?_cell gEof e3 0)
end Go.Proofs.YtnbbppjgamdfeaaGreatDoor
end

/- laws.FnBack: the row. -/
section
set_option linter.unusedVariables false
namespace Go.Proofs.YtnbbppjgamdfeaaGreatDoor
open Go.ChangeShapes Go.WideShapes Go.ChangeAt Go.RowKit

theorem own : ownKnob Tryz.prog.godebug = none := by kernel_rfl
theorem keep_below {W W' : World} (h : Keep Nil2 W W') : Below W.heap.size W W' := ⟨h.os, h.tape, h.output, h.size, fun k hk => h.block k hk fun _ e => e⟩

/-- What stands behind the call, the arguments and the named variables read as they did. -/
theorem post_back {H : Type} {enc : TypeId × Value → H} {W W' : World} {x : Int} {v1 : Value} {cl : Bool} {d1 : DataW H} {p1 q : List MemPlace} {gs : List (DataW H)}
    (hwx : (Lit.int .u32 x).wf = true) (h1 : DataW.Trod enc Tryz.prog W 0 (fun _ => true) true 23 v1 d1 p1) (hV : DataW.TrodVars enc Tryz.prog W (fun _ => true) Rows.fnBackSpec.vars gs q)
    (hW : DataW.Whole enc Tryz.prog Tryz.f3.params.toList Rows.fnBackSpec.vars false W [.int .u32 x, v1, .bool cl] [.lit (.int .u32 x), d1, .lit (.bool cl)] gs (p1 ++ q)) (hk : Keep Nil2 W W') :
    Rows.fnBackSpec.post enc Tryz.prog Tryz.f3 false true false false W #[.int .u32 x, v1, .bool cl] (.bool true) W' := by
  have hb := keep_below hk
  have hlen : gs.length = 5 := trodVars_len hV
  have hV' := Below.trodVars (by kernel_rfl) hb (by kernel_rfl) hV
  have hp1 : ∀ y ∈ p1, y.block < W.heap.size := fun y hy => by
    obtain ⟨f, hf⟩ := h1
    exact DataW.trod_lt _ _ _ _ hf y hy
  have h1' := Below.trod (by kernel_rfl) (by kernel_rfl) (of_decide_eq_true (by kernel_rfl)) h1 hb hp1
  match gs, hlen, hV, hV', hW with
  | [g1, g2, g3, g4, g5], _, hV, hV', hW =>
    refine ⟨_, _, _, [], [] ++ (p1 ++ []), q, hW, ?_, ?_, hV', hb.frame _, fun h => by cases h⟩
    · exact trodAll_mk1 (shut_bool Tryz.underlying4 true)
    · rw [Tryz.params3]
      exact trodAll_mk3 (shut_int Tryz.underlying22 hwx) h1' (shut_bool Tryz.underlying4 cl)

set_option maxRecDepth 100000 in
theorem lifted (os : Os) (started : os.Started) (H : Type) (enc : TypeId × Value → H) :
    ReturnsInHanded {} Tryz.checked os 3 .any (fun w args => (Rows.fnBackSpec.pre enc Tryz.prog Tryz.f3 [] false w args ∧ laidMetH Tryz.prog Rows.fnBackRow.laid w) ∧ sizedMet enc Tryz.prog Tryz.f3 (OpenSpec.ofChange Rows.fnBackSpec) false w args)
      (Rows.fnBackSpec.post enc Tryz.prog Tryz.f3 false true false false) := by
  refine returnsInHanded_of_change_and (C := Tryz.checked) (X := fun w _ => laidMetH Tryz.prog Rows.fnBackRow.laid w) (fun _ _ _ hh h => h.of_heap hh) own started (by kernel_rfl) Tryz.func3
    (ChangeSpec.witness_shaped (enc := enc) (C := Tryz.checked) (os := os) (X := fun w _ => laidMetH Tryz.prog Rows.fnBackRow.laid w) false (World.doorLaid Tryz.prog 400 os) #[.int .u32 0, .slice none 0 0, .bool false] 8 rfl (World.shaped_of_RefB (by kernel_rfl) (by kernel_rfl)) (by kernel_rfl) (by kernel_rfl) (by kernel_rfl) (door_met os _)) ?_
  intro W base args ds gs before hval0 hW _ _ hL _
  have hval : ∀ (j : Nat) t v, Tryz.f3.params[j]? = some t → args[j]? = some v → Value.okWide Tryz.prog W .any base t v := hval0
  have hW' := hW
  obtain ⟨p, q, hA0, hV, rfl, hfz, hnd⟩ := hW
  have hA : DataW.TrodAll enc Tryz.prog W 0 (fun _ => true) true Tryz.f3.params.toList args.toList ds p := hA0
  rw [Tryz.params3] at hA hval
  obtain ⟨v0, v1, v2, d0, d1, d2, p0, p1, p2, rfl, rfl, rfl, h0, h1, h2⟩ := trodAll_three hA
  obtain ⟨x, rfl, rfl, rfl, hwx⟩ := open_int Tryz.underlying22 (hval 0 22 v0 rfl rfl) h0
  obtain ⟨cl, rfl, rfl, rfl⟩ := open_bool Tryz.underlying4 (hval 2 4 v2 rfl rfl) h2
  obtain ⟨ao, m, c, l0, hv1, hl, hb⟩ := open_pix Tryz.underlying23 Tryz.underlying5 (by kernel_rfl) (hval 1 23 v1 rfl rfl) h1
  obtain ⟨htab, eb, heof⟩ := of_laid hL
  have hx := bounds_u32 hwx
  simp only [List.nil_append, List.append_nil] at hW'
  clear hA0 hval0 hA hval hnd hfz hL
  obtain ⟨k, rfl⟩ : ∃ k : Nat, x = (k : Int) := ⟨x.toNat, by omega⟩
  have hp : ∀ W', Keep Nil2 W W' → Rows.fnBackSpec.post enc Tryz.prog Tryz.f3 false true false false W #[.int .u32 (k : Int), v1, .bool cl] (.bool true) W' := fun W' hk => post_back hwx h1 hV hW' hk
  subst hv1
  refine (fnBack k (by omega) ao m c l0 hl hb cl htab heof).mono fun e W' ⟨he, hk⟩ => ?_
  exact ⟨_, he, hp W' hk⟩

theorem fnBack_holds : Rows.FnBackSaid :=
  OpenClaim.holds_of_wide 3 Tryz.f3 rfl rfl rfl rfl rfl rfl rfl ⟨rfl, rfl, rfl, rfl, rfl⟩ rfl rfl rfl rfl rfl (by kernel_rfl) Tryz.func3 (by kernel_rfl)
    (of_decide_eq_true (by kernel_rfl)) (by unfold Func.isWrapper; first | (rw [if_pos (by decide +kernel)]; kernel_rfl) | (rw [if_neg (by decide +kernel)]; exact ⟨rfl, rfl⟩))
    (fun os started H enc _ => lifted os started H enc)
end Go.Proofs.YtnbbppjgamdfeaaGreatDoor
end
