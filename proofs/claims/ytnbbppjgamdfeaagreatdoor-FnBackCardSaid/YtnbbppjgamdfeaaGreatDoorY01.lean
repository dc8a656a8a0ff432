/- laws.FnBack, part 1 of 54: A0 A1 A2 B0 B1 M0 B2. -/
import Derived.Test.YtnbbppjgamdfeaaGreatDoorProg
import Derived.WalkKit
import Derived.WalkSpells
import Derived.WalkLawsBesides
import Derived.Deep.QuietTactic
import Derived.BigQuiet
import Derived.Deep.RegionWith
import Derived.Deep.LoopGhost
import Derived.Deep.DeepCutAuto
import Derived.Deep.CutBlock
import Derived.Deep.AppendLies
import Derived.Handy
import Derived.Lib.Hide
import Derived.Deep.RegionHeld3
import Derived.Laws.CopyOwn
import Derived.StillTailTactics
import Derived.Deep.RegionLaw

/- Words for the walks: what of memory stays as it was ('Keep'), bytes in memory. No conditions. -/
section
set_option linter.unusedVariables false
set_option linter.unusedSimpArgs false
namespace Go.Proofs.YtnbbppjgamdfeaaGreatDoor
open Go Go.RowKit

/-- What of memory is as it was: every cell that F does not name, every block of which F names no cell; and their frozen marks; no block has gone. -/
structure Keep (F : Nat → Nat → Prop) (w w' : World) : Prop where
  os : w'.os = w.os
  tape : w'.tape = w.tape
  output : w'.output = w.output
  size : w.heap.size ≤ w'.heap.size
  block : ∀ k, k < w.heap.size → (∀ o, ¬ F k o) → w'.heap[k]? = w.heap[k]?
  cell : ∀ k o, k < w.heap.size → ¬ F k o → w'.cell? ⟨k, o, none⟩ = w.cell? ⟨k, o, none⟩
  frozen : ∀ k o, k < w.heap.size → ¬ F k o → w'.frozen? ⟨k, o, none⟩ = w.frozen? ⟨k, o, none⟩

/-- Nothing that was there has turned. -/
def Nil2 : Nat → Nat → Prop := fun _ _ => False

theorem Keep.refl (F : Nat → Nat → Prop) (w : World) : Keep F w w :=
  ⟨rfl, rfl, rfl, Nat.le_refl _, fun _ _ _ => rfl, fun _ _ _ _ => rfl, fun _ _ _ _ => rfl⟩

theorem Keep.mono {F G : Nat → Nat → Prop} {w w' : World} (h : Keep F w w') (hs : ∀ k o, k < w.heap.size → F k o → G k o) : Keep G w w' :=
  ⟨h.os, h.tape, h.output, h.size, fun k hk hn => h.block k hk fun o hf => hn o (hs k o hk hf), fun k o hk hn => h.cell k o hk fun hf => hn (hs k o hk hf), fun k o hk hn => h.frozen k o hk fun hf => hn (hs k o hk hf)⟩

theorem Keep.trans {F : Nat → Nat → Prop} {a b c : World} (h : Keep F a b) (k : Keep F b c) : Keep F a c :=
  ⟨k.os.trans h.os, k.tape.trans h.tape, k.output.trans h.output, Nat.le_trans h.size k.size,
   fun i hi hn => (k.block i (Nat.lt_of_lt_of_le hi h.size) hn).trans (h.block i hi hn),
   fun i o hi hn => (k.cell i o (Nat.lt_of_lt_of_le hi h.size) hn).trans (h.cell i o hi hn),
   fun i o hi hn => (k.frozen i o (Nat.lt_of_lt_of_le hi h.size) hn).trans (h.frozen i o hi hn)⟩

/-- One step, then another, each within F as far as old memory goes. -/
theorem Keep.then {F G H : Nat → Nat → Prop} {a b c : World} (h : Keep G a b) (k : Keep H b c) (hg : ∀ i o, i < a.heap.size → G i o → F i o) (hh : ∀ i o, i < a.heap.size → H i o → F i o) : Keep F a c :=
  ⟨k.os.trans h.os, k.tape.trans h.tape, k.output.trans h.output, Nat.le_trans h.size k.size,
   fun i hi hn => (k.block i (Nat.lt_of_lt_of_le hi h.size) fun o ho => hn o (hh i o hi ho)).trans (h.block i hi fun o ho => hn o (hg i o hi ho)),
   fun i o hi hn => (k.cell i o (Nat.lt_of_lt_of_le hi h.size) fun ho => hn (hh i o hi ho)).trans (h.cell i o hi fun ho => hn (hg i o hi ho)),
   fun i o hi hn => (k.frozen i o (Nat.lt_of_lt_of_le hi h.size) fun ho => hn (hh i o hi ho)).trans (h.frozen i o hi fun ho => hn (hg i o hi ho))⟩

theorem Keep.get {F : Nat → Nat → Prop} {w w' : World} {b o : Nat} {v : Value} (h : Keep F w w') (hc : w.cell? ⟨b, o, none⟩ = some v) (hn : ¬ F b o) : w'.cell? ⟨b, o, none⟩ = some v :=
  (h.cell b o (World.block_lt_of_cell? w _ hc) hn).trans hc

theorem Keep.froz {F : Nat → Nat → Prop} {w w' : World} {b o : Nat} {c : Bool} (h : Keep F w w') (hb : b < w.heap.size) (hc : w.frozen? ⟨b, o, none⟩ = c) (hn : ¬ F b o) : w'.frozen? ⟨b, o, none⟩ = c :=
  (h.frozen b o hb hn).trans hc

theorem Keep.heap {F : Nat → Nat → Prop} {w w' : World} {b : Nat} {x : Obj} (h : Keep F w w') (hc : w.heap[b]? = some x) (hn : ∀ o, ¬ F b o) : w'.heap[b]? = some x := by
  have hlt : b < w.heap.size := (Array.getElem?_eq_some_iff.1 hc).1
  exact (h.block b hlt hn).trans hc

theorem Keep.of_below {w w' : World} (h : Below w.heap.size w w') : Keep Nil2 w w' :=
  ⟨h.os, h.tape, h.output, h.size, fun k hk _ => h.block k hk, fun k o hk _ => h.cell (p := ⟨k, o, none⟩) hk, fun k o hk _ => h.frozen (p := ⟨k, o, none⟩) hk⟩

theorem Keep.below {F : Nat → Nat → Prop} {B : Nat} {w w' : World} (h : Keep F w w') (hB : B ≤ w.heap.size) (hn : ∀ k o, k < B → ¬ F k o) : Below B w w' :=
  ⟨h.os, h.tape, h.output, h.size, fun k hk => h.block k (by omega) fun o => hn k o hk⟩

theorem Keep.alloc {F : Nat → Nat → Prop} {a w : World} (h : Keep F a w) (x : Obj) : Keep F a (w.alloc x) :=
  h.then (Keep.of_below (Below.alloc (Below.refl _ _) (Nat.le_refl _) x)) (fun _ _ _ h => h) (fun _ _ _ h => h.elim)

theorem Keep.drew {F : Nat → Nat → Prop} {a w : World} (h : Keep F a w) : Keep F a w.drew :=
  ⟨h.os, h.tape, h.output, h.size, h.block, h.cell, h.frozen⟩

theorem Keep.drewN {F : Nat → Nat → Prop} {a w : World} (h : Keep F a w) (n : Nat) : Keep F a (w.drewN n) :=
  ⟨h.os, h.tape, h.output, h.size, h.block, h.cell, h.frozen⟩

theorem keep_setCell (w : World) (b o : Nat) (v : Value) : Keep (fun k j => k = b ∧ j = o) w (w.setCell ⟨b, o, none⟩ v) :=
  ⟨rfl, rfl, rfl, by simp, fun k _ hn => Below.heap_setCell _ _ _ _ fun e => hn o ⟨e, rfl⟩,
   fun k j _ hn => World.cell?_setCell_other _ _ _ _ fun e => hn (by injection e with e1 e2; exact ⟨e1.symm, e2.symm⟩),
   fun k j _ _ => by simp⟩

theorem Keep.setCell {F : Nat → Nat → Prop} {a w : World} (h : Keep F a w) {b o : Nat} (v : Value) (hF : b < a.heap.size → F b o) : Keep F a (w.setCell ⟨b, o, none⟩ v) :=
  h.then (keep_setCell w b o v) (fun _ _ _ h => h) (fun i j hi ⟨e1, e2⟩ => by subst e1; subst e2; exact hF hi)

/-- Bytes in memory from a place on. -/
def BytesAt (w : World) (b o : Nat) (l : List UInt8) : Prop := ∀ i (h : i < l.length), w.cell? ⟨b, o + i, none⟩ = some (.int .u8 (l[i].toNat : Int))

theorem BytesAt.keep {F : Nat → Nat → Prop} {w w' : World} {b o : Nat} {l : List UInt8} (h : BytesAt w b o l) (hk : Keep F w w') (hn : ∀ i, i < l.length → ¬ F b (o + i)) : BytesAt w' b o l :=
  fun i hi => hk.get (h i hi) (hn i hi)
theorem BytesAt.at_ {w : World} {b o : Nat} {l : List UInt8} (h : BytesAt w b o l) (i : Nat) (x : UInt8) (hx : l[i]? = some x) : w.cell? ⟨b, o + i, none⟩ = some (.int .u8 (x.toNat : Int)) := by
  obtain ⟨hi, rfl⟩ := List.getElem?_eq_some_iff.1 hx
  exact h i hi
theorem BytesAt.drop {w : World} {b o : Nat} {l : List UInt8} (h : BytesAt w b o l) (k : Nat) : BytesAt w b (o + k) (l.drop k) := fun i hi => by
  have hi' : k + i < l.length := by simp at hi; omega
  have := h (k + i) hi'
  rw [← Nat.add_assoc] at this
  simpa using this
theorem BytesAt.take {w : World} {b o : Nat} {l : List UInt8} (h : BytesAt w b o l) (k : Nat) : BytesAt w b o (l.take k) := fun i hi => by
  have hi' : i < l.length := by simp at hi; omega
  simpa using h i hi'
theorem BytesAt.append {w : World} {b o : Nat} {l m : List UInt8} (h : BytesAt w b o l) (h' : BytesAt w b (o + l.length) m) : BytesAt w b o (l ++ m) := fun i hi => by
  by_cases hil : i < l.length
  · rw [List.getElem_append_left hil]; exact h i hil
  · have hm : i - l.length < m.length := by simp at hi; omega
    have := h' (i - l.length) hm
    rw [show o + l.length + (i - l.length) = o + i by omega] at this
    rw [List.getElem_append_right (by omega)]; exact this
theorem BytesAt.left {w : World} {b o : Nat} {l m : List UInt8} (h : BytesAt w b o (l ++ m)) : BytesAt w b o l := by simpa using h.take l.length
theorem BytesAt.right {w : World} {b o : Nat} {l m : List UInt8} (h : BytesAt w b o (l ++ m)) : BytesAt w b (o + l.length) m := by simpa using h.drop l.length
theorem BytesAt.lt {w : World} {b o : Nat} {l : List UInt8} (h : BytesAt w b o l) (hl : 0 < l.length) : b < w.heap.size := World.block_lt_of_cell? w _ (h 0 hl)
theorem BytesAt.drewN {w : World} {b o : Nat} {l : List UInt8} (h : BytesAt w b o l) (n : Nat) : BytesAt (w.drewN n) b o l := h

theorem u8_lt (x : UInt8) : x.toNat < 256 := x.toNat_lt
end Go.Proofs.YtnbbppjgamdfeaaGreatDoor
end

/- Words for the walks: room in memory, the builtin copy over bytes, rows of bytes that the call itself made and appends to them. No conditions. -/
section
set_option linter.unusedVariables false
set_option linter.unusedSimpArgs false
namespace Go.Proofs.YtnbbppjgamdfeaaGreatDoor
open Go Go.RowKit

/-- n cells from a place on are there and may be written. -/
def RoomAt (w : World) (b o n : Nat) : Prop := ∀ j, j < n → (∃ v, w.cell? ⟨b, o + j, none⟩ = some v) ∧ w.frozen? ⟨b, o + j, none⟩ = false

theorem RoomAt.keep {F : Nat → Nat → Prop} {w w' : World} {b o n : Nat} (h : RoomAt w b o n) (hk : Keep F w w') (hn : ∀ j, j < n → ¬ F b (o + j)) : RoomAt w' b o n := fun j hj => by
  obtain ⟨⟨v, hv⟩, hf⟩ := h j hj
  exact ⟨⟨v, hk.get hv (hn j hj)⟩, hk.froz (World.block_lt_of_cell? w _ hv) hf (hn j hj)⟩
theorem RoomAt.sub {w : World} {b o n : Nat} (h : RoomAt w b o n) (k m : Nat) (hk : k + m ≤ n) : RoomAt w b (o + k) m := fun j hj => by
  have := h (k + j) (by omega)
  rwa [← Nat.add_assoc] at this
theorem RoomAt.lt {w : World} {b o n : Nat} (h : RoomAt w b o n) (hn : 0 < n) : b < w.heap.size := by
  obtain ⟨⟨v, hv⟩, _⟩ := h 0 hn
  exact World.block_lt_of_cell? w _ hv
theorem RoomAt.bytes {w : World} {b o : Nat} {l : List UInt8} (h : BytesAt w b o l) (hf : ∀ j, j < l.length → w.frozen? ⟨b, o + j, none⟩ = false) : RoomAt w b o l.length :=
  fun j hj => ⟨⟨_, h j hj⟩, hf j hj⟩

def bytesV (l : List UInt8) : List Value := l.map fun x => .int .u8 (x.toNat : Int)
theorem length_bytesV (l : List UInt8) : (bytesV l).length = l.length := by simp [bytesV]
theorem bytesV_append (l m : List UInt8) : bytesV (l ++ m) = bytesV l ++ bytesV m := by simp [bytesV]
theorem oneCell_bytesV (l : List UInt8) : ∀ v ∈ bytesV l, v.oneCell' = true := by
  intro v hv
  simp only [bytesV, List.mem_map] at hv
  obtain ⟨x, _, rfl⟩ := hv
  rfl
theorem getElem?_bytesV {l : List UInt8} {j : Nat} {v : Value} (h : (bytesV l)[j]? = some v) : ∃ hj : j < l.length, v = .int .u8 (l[j].toNat : Int) := by
  simp only [bytesV, List.getElem?_map, Option.map_eq_some_iff] at h
  obtain ⟨x, hx, rfl⟩ := h
  obtain ⟨hj, rfl⟩ := List.getElem?_eq_some_iff.1 hx
  exact ⟨hj, rfl⟩

theorem keep_setCells (b : Nat) : ∀ (vs : List Value) (o : Nat) (w : World), Keep (fun k j => k = b ∧ o ≤ j ∧ j < o + vs.length) w (w.setCells b o vs)
  | [], _, w => Keep.refl _ w
  | v :: r, o, w => by
    refine (keep_setCell w b o v).then (keep_setCells b r (o + 1) (w.setCell ⟨b, o, none⟩ v)) ?_ ?_
    · rintro i j _ ⟨rfl, rfl⟩; exact ⟨rfl, Nat.le_refl _, by simp⟩
    · rintro i j _ ⟨rfl, h1, h2⟩; exact ⟨rfl, by omega, by simp; omega⟩

theorem bytes_setCells {w : World} {b o : Nat} {l : List UInt8} (h : RoomAt w b o l.length) : BytesAt (w.setCells b o (bytesV l)) b o l := fun i hi => by
  have := World.cell?_setCells_in b (bytesV l) o w (fun j hj => by
    obtain ⟨⟨v, hv⟩, _⟩ := h j (by simpa [length_bytesV] using hj)
    simp [hv]) i (by simpa [length_bytesV] using hi)
  rw [this]
  simp [bytesV]

theorem addr_add (b o j : Nat) : (⟨b, o, none⟩ : Addr).add j = ⟨b, o + j, none⟩ := by unfold Addr.add; split <;> simp_all

section
variable {P : Program} {w : World}

theorem run_copy_bytes (dT sT ty elem : TypeId) (b o dLen dCap sb so sLen sCap : Nat) (l : List UInt8) (hu : P.underlying dT = some (.slice elem)) (hs : (P.info? elem).map (·.size) = some 1)
    (hn : l.length = Nat.min sLen dLen) (hsrc : BytesAt w sb so l) (hroom : RoomAt w b o l.length) :
    (Builtin.copy_ #[dT, sT] ty #[.slice (some ⟨b, o, none⟩) dLen dCap, .slice (some ⟨sb, so, none⟩) sLen sCap]).run P w = .ok (.int .i64 (l.length : Int)) (w.setCells b o (bytesV l)) := by
  have h := run_copy_cells (P := P) w dT sT ty elem b o dLen dCap ⟨sb, so, none⟩ sLen sCap (bytesV l) hu hs (by rw [length_bytesV]; exact hn)
    (fun j v hv => by obtain ⟨hj, rfl⟩ := getElem?_bytesV hv; rw [addr_add]; exact hsrc j hj)
    (fun j hj => by obtain ⟨⟨v, hv⟩, _⟩ := hroom j (by simpa [length_bytesV] using hj); simp [hv])
    (fun j hj => (hroom j (by simpa [length_bytesV] using hj)).2) (oneCell_bytesV l)
  rw [h, length_bytesV]; rfl

theorem wpList_copy_bytes {ops : Array Oper} {rest : List Oper} {o : Oper} {a : Act} {Q : Exit → Act → World → Prop} (hgd : o.guard = none) (d s : Operand) (dT sT : TypeId)
    (ho : o.op = .call { callee := .builtin .copy, args := #[d, s], argTypes := #[dT, sT] }) (elem : TypeId) (hu : P.underlying dT = some (.slice elem)) (hsz : (P.info? elem).map (·.size) = some 1)
    (b of dLen dCap sb so sLen sCap : Nat) (hd : a.eval d = .slice (some ⟨b, of, none⟩) dLen dCap) (hs : a.eval s = .slice (some ⟨sb, so, none⟩) sLen sCap)
    (l : List UInt8) (hn : l.length = Nat.min sLen dLen) (hsrc : BytesAt w sb so l) (hroom : RoomAt w b of l.length)
    (h : ∀ w', Keep (fun k j => k = b ∧ of ≤ j ∧ j < of + l.length) w w' → BytesAt w' b of l → (∀ j, w'.frozen? ⟨b, j, none⟩ = w.frozen? ⟨b, j, none⟩) → wpList P ops Q rest (a.put o.dst (.int .i64 (l.length : Int))) w') : wpList P ops Q (o :: rest) a w := by
  refine wpList_plain hgd fun K hK => ?_
  have hrun := run_copy_bytes (P := P) (w := w) dT sT o.type elem b of dLen dCap sb so sLen sCap l hu hsz hn hsrc hroom
  unfold Oper.wp
  simp [execOp, ho, resolve, invoke, builtin, hd, hs, hrun, Result.andThen]
  have hk := keep_setCells b (bytesV l) of w
  rw [length_bytesV] at hk
  exact hK _ _ (h _ hk (bytes_setCells hroom) fun j => World.frozen?_setCells b _ _ _ _)
end

theorem min2_min (k k' : IntKind) (x y : Int) : Builtin.min2 (.int k x) (.int k' y) = pure (.int k (min x y)) := by
  simp only [Builtin.min2]
  by_cases h : y < x
  · rw [if_pos h, Int.min_eq_right (by omega)]
  · rw [if_neg h, Int.min_eq_left (by omega)]
theorem max2_max (k k' : IntKind) (x y : Int) : Builtin.max2 (.int k x) (.int k' y) = pure (.int k (max x y)) := by
  simp only [Builtin.max2, gt_iff_lt]
  by_cases h : x < y
  · rw [if_pos h, Int.max_eq_right (by omega)]
  · rw [if_neg h, Int.max_eq_left (by omega)]
theorem min_two' (ats : Array TypeId) (ty : TypeId) (a b : Value) : Builtin.min_ ats ty #[a, b] = (Builtin.min2 a b >>= fun s => pure s) := by simp only [Builtin.min_, List.foldlM_cons, List.foldlM_nil]
theorem max_two' (ats : Array TypeId) (ty : TypeId) (a b : Value) : Builtin.max_ ats ty #[a, b] = (Builtin.max2 a b >>= fun s => pure s) := by simp only [Builtin.max_, List.foldlM_cons, List.foldlM_nil]

/-! ### Rows of bytes of the call's own -/
/-- The slice value v owns the bytes l, in a block from base on. -/
def OwnB (w : World) (base : Nat) (v : Value) (l : List UInt8) : Prop := w.ownsRow base 5 1 v l.length (bytesV l)

theorem OwnB.nil (w : World) (base : Nat) : OwnB w base (.slice none 0 0) [] := ⟨rfl, .inl ⟨rfl, rfl⟩⟩
theorem OwnB.slice {w : World} {base : Nat} {v : Value} {l : List UInt8} (h : OwnB w base v l) (hl : 0 < l.length) :
    ∃ g cap, v = .slice (some ⟨g, 0, none⟩) l.length cap ∧ base ≤ g ∧ l.length ≤ cap ∧ cap ≤ maxLen ∧ BytesAt w g 0 l ∧ (∀ j, w.frozen? ⟨g, j, none⟩ = false) ∧ g < w.heap.size ∧ RoomAt w g 0 cap := by
  rcases h.2 with ⟨rfl, h0⟩ | ⟨g, cap, cur, rfl, hb, hh, hc, hm, hs, ht⟩
  · omega
  · have hcell : ∀ j v, cur[j]? = some v → w.cell? ⟨g, j, none⟩ = some v := fun j v hv => by simp [World.cell?, hh, hv]
    have hfz : ∀ j, w.frozen? ⟨g, j, none⟩ = false := fun j => by simp [World.frozen?, hh]
    refine ⟨g, cap, rfl, hb, hc, hm, fun i hi => ?_, hfz, (Array.getElem?_eq_some_iff.1 hh).1, fun j hj => ⟨⟨cur[j], ?_⟩, by rw [Nat.zero_add]; exact hfz _⟩⟩
    · rw [Nat.zero_add]
      refine hcell i _ ?_
      have : (cur.toList.take (l.length * 1))[i]? = (bytesV l)[i]? := by rw [ht]
      rw [List.getElem?_take_of_lt (by omega), Array.getElem?_toList] at this
      rw [this]; simp [bytesV, hi]
    · rw [Nat.zero_add]
      exact hcell j _ (by simp)
theorem OwnB.keep {F : Nat → Nat → Prop} {w w' : World} {base : Nat} {v : Value} {l : List UInt8} (h : OwnB w base v l) (hk : Keep F w w') (hn : ∀ k o, base ≤ k → ¬ F k o) : OwnB w' base v l := by
  refine ⟨h.1, ?_⟩
  rcases h.2 with h0 | ⟨g, cap, cur, hv, hb, hh, rest⟩
  · exact .inl h0
  · exact .inr ⟨g, cap, cur, hv, hb, hk.heap hh (fun o => hn g o hb), rest⟩
theorem OwnB.keep' {F : Nat → Nat → Prop} {w w' : World} {base : Nat} {v : Value} {l : List UInt8} (h : OwnB w base v l) (hk : Keep F w w') (hn : ∀ k o, v.ownBlock = some k → ¬ F k o) : OwnB w' base v l := by
  refine ⟨h.1, ?_⟩
  rcases h.2 with h0 | ⟨g, cap, cur, hv, hb, hh, rest⟩
  · exact .inl h0
  · exact .inr ⟨g, cap, cur, hv, hb, hk.heap hh (fun o => hn g o (by rw [hv]; rfl)), rest⟩
theorem OwnB.lower {w : World} {base base' : Nat} {v : Value} {l : List UInt8} (h : OwnB w base v l) (hb : base' ≤ base) : OwnB w base' v l := by
  refine ⟨h.1, ?_⟩
  rcases h.2 with h0 | ⟨g, cap, cur, hv, hg, rest⟩
  · exact .inl h0
  · exact .inr ⟨g, cap, cur, hv, by omega, rest⟩

theorem keep_grown {w w' : World} {row : Option Nat} (h : w.grownBy w' row) : Keep (fun k _ => row = some k) w w' :=
  ⟨h.os, h.tape, h.output, h.size, fun k hk hn => h.block k hk fun e => hn 0 e.symm, fun k o hk hn => World.cell?_of_block (w := w) (h.block k hk fun e => hn e.symm), fun k o hk hn => World.frozen?_of_block (w := w) (h.block k hk fun e => hn e.symm)⟩

/-- The place of io.EOF's value: a block and an offset, told by one number (any place has one: eofA_is). -/
def eofP (n : Nat) : Nat × Nat := if h : n % 2 = 0 ∧ 0 < n then ((eofP (n / 2)).1 + 1, (eofP (n / 2)).2) else (0, n / 2)
termination_by n
decreasing_by all_goals omega
def eofA (n : Nat) : Addr := ⟨(eofP n).1, (eofP n).2, none⟩
theorem eofP_is (b o : Nat) : eofP (2 ^ b * (2 * o + 1)) = (b, o) := by
  induction b with
  | zero =>
    rw [eofP, dif_neg (by omega)]
    simp only [Nat.pow_zero, Nat.one_mul, Prod.mk.injEq, true_and]
    omega
  | succ b ih =>
    have e : 2 ^ (b + 1) * (2 * o + 1) = 2 * (2 ^ b * (2 * o + 1)) := by rw [Nat.pow_succ, Nat.mul_comm (2 ^ b) 2, Nat.mul_assoc]
    have hp : 0 < 2 ^ b * (2 * o + 1) := Nat.mul_pos (Nat.pow_pos (by decide)) (by omega)
    rw [e, eofP, dif_pos (by omega), Nat.mul_div_cancel_left _ (by decide : 0 < 2), ih]
theorem eofA_is (b o : Nat) : ∃ n, eofA n = ⟨b, o, none⟩ := ⟨2 ^ b * (2 * o + 1), by rw [eofA, eofP_is]⟩
end Go.Proofs.YtnbbppjgamdfeaaGreatDoor
end

/- Words for the walks: a type's zero, 'make([]byte, n)'. -/
section
set_option linter.unusedVariables false
set_option linter.unusedSimpArgs false
namespace Go.Proofs.YtnbbppjgamdfeaaGreatDoor
open Go Go.RowKit

theorem info_of {P : Program} {e : TypeId} {z : Value} {size bytes : Nat} (h : (P.info? e).map (fun i => (i.zero, i.size, i.bytes)) = some (some z, size, bytes)) :
    ∃ i, P.info? e = some i ∧ i.zero = some z ∧ i.size = size ∧ i.bytes = bytes := by
  cases hi : P.info? e with
  | none => rw [hi] at h; cases h
  | some i =>
    rw [hi] at h
    simp only [Option.map_some, Option.some.injEq, Prod.mk.injEq] at h
    exact ⟨i, rfl, h.1, h.2.1, h.2.2⟩

/-- 'make([]byte, n)'. -/
theorem makeBytes (w : World) (kl kc : IntKind) (n : Nat) (hn : n ≤ 1073741824) :
    ∃ cs : Array Value, (Instr.makeSlice 23 (.int kl (n : Int)) (.int kc (n : Int))).run Tryz.prog w = .ok (.slice (some ⟨w.heap.size, 0, none⟩) n n) (w.alloc (.cells cs 5)) ∧ cs.size = n ∧ ∀ j, j < n → cs[j]? = some (.int .u8 0) := by
  obtain ⟨i, hi, hz, hsz, hby⟩ := info_of (P := Tryz.prog) (e := 5) (z := .int .u8 0) (size := 1) (bytes := 1) (by kernel_rfl)
  have := run_make (P := Tryz.prog) w 23 5 i (.int .u8 0) Tryz.underlying23 hi hz kl kc n n (by omega) (by omega) (by rw [hby]; omega) (by omega)
  refine ⟨madeCells #[.int .u8 0] n, by rw [this, hsz, Int.toNat_natCast, Nat.mul_one]; rfl, size_madeCells _ _, fun j hj => ?_⟩
  unfold madeCells
  simp [hj, Nat.mod_one]
theorem makeBytes_facts {w : World} {cs : Array Value} {n : Nat} (h : cs.size = n) (h0 : ∀ j, j < n → cs[j]? = some (.int .u8 0)) : BytesAt (w.alloc (.cells cs 5)) w.heap.size 0 (List.replicate n 0) ∧ RoomAt (w.alloc (.cells cs 5)) w.heap.size 0 n ∧ (∀ j, (w.alloc (.cells cs 5)).frozen? ⟨w.heap.size, j, none⟩ = false) := by
  have hh := heap_alloc_new w (.cells cs 5)
  have c : ∀ j, (w.alloc (.cells cs 5)).cell? ⟨w.heap.size, j, none⟩ = cs[j]? := fun j => cell_of_row _ _ _ _ _ _ hh
  have f : ∀ j, (w.alloc (.cells cs 5)).frozen? ⟨w.heap.size, j, none⟩ = false := fun j => frozen_of_row _ _ _ _ _ hh
  refine ⟨fun j hj => ?_, fun j hj => ⟨⟨_, (c _).trans (by rw [Nat.zero_add]; exact h0 j hj)⟩, f _⟩, f⟩
  rw [c, Nat.zero_add, h0 j (by simpa using hj)]
  simp

end Go.Proofs.YtnbbppjgamdfeaaGreatDoor
end

/- The reader of the file's bytes: bytes.Reader: made; read from. -/
section
set_option linter.unusedVariables false
set_option linter.unusedSimpArgs false
namespace Go.Proofs.YtnbbppjgamdfeaaGreatDoor
open Go Go.RowKit

/-- A bytes.Reader over the bytes D, at place i. -/
structure BR (w : World) (rb db cap : Nat) (D : List UInt8) (i : Nat) : Prop where
  cs : w.cell? ⟨rb, 0, none⟩ = some (.slice (some ⟨db, 0, none⟩) D.length cap)
  ci : w.cell? ⟨rb, 1, none⟩ = some (.int .i64 (i : Int))
  cp : ∃ q : Int, w.cell? ⟨rb, 2, none⟩ = some (.int .i64 q)
  fz : ∀ j, w.frozen? ⟨rb, j, none⟩ = false
  data : BytesAt w db 0 D
  ne : rb ≠ db
  hle : i ≤ D.length
  hcap : D.length ≤ cap
  hlen : D.length ≤ 1073741824

set_option maxHeartbeats 400000 in
set_option maxRecDepth 100000 in
theorem bytesRead {w : World} {rb db cap : Nat} {D : List UInt8} {i : Nat} (h : BR w rb db cap D i) (hi : i < D.length) (b o n c : Nat) (hn : 0 < n) (room : RoomAt w b o n) (hb1 : b ≠ rb) (hb2 : b ≠ db) :
    Calls Tryz.prog 181 #[.pointer (some ⟨rb, 0, none⟩), .slice (some ⟨b, o, none⟩) n c] w fun e w' => ∃ l, l = (D.drop i).take n ∧
      e = .returned (.tuple #[.int .i64 (l.length : Int), .nilIface]) ∧ BR w' rb db cap D (i + l.length) ∧ BytesAt w' b o l ∧ (∀ j, w'.frozen? ⟨b, j, none⟩ = w.frozen? ⟨b, j, none⟩) ∧
      Keep (fun k j => k = rb ∨ (k = b ∧ o ≤ j ∧ j < o + l.length)) w w' := by
  have hs := h.cs
  have hI := h.ci
  obtain ⟨q, hp⟩ := h.cp
  have hfz := h.fz
  have hlen := h.hlen
  have hcap := h.hcap
  have hge : decide ((D.length : Int) ≤ (i : Int)) = false := by simp; omega
  go_enter Tryz.func181, Tryz.ntmps181
  go_wp2
  go_quiet (fail)
  go_wp2
  obtain ⟨w1, hw1⟩ : ∃ w1, w1 = (w.drewN nq).setCell ⟨rb, 2, none⟩ (.int .i64 (-1)) := ⟨_, rfl⟩
  rw [← hw1]
  have hk1 : Keep (fun k j => k = rb ∧ j = 2) w w1 := by rw [hw1]; exact ((Keep.refl _ w).drewN nq).setCell _ (fun _ => ⟨rfl, rfl⟩)
  have hs1 := hk1.get hs (by omega)
  have hI1 := hk1.get hI (by omega)
  have hd1 : BytesAt w1 db 0 D := h.data.keep hk1 (fun _ _ e => h.ne e.1.symm)
  have room1 : RoomAt w1 b o n := room.keep hk1 (fun _ _ e => hb1 e.1)
  have hp1 : w1.cell? ⟨rb, 2, none⟩ = some (.int .i64 (-1)) := by rw [hw1]; exact World.cell?_setCell_same _ _ _ hp
  have hfz1 : ∀ j, w1.frozen? ⟨rb, j, none⟩ = false := fun j => by rw [hw1]; simpa using hfz j
  have HW1 := Lib.hid hw1
  clear hw1
  have hne : ¬ cap = i := by omega
  have hic : (i : Int) ≤ D.length := by omega
  go_still_tail 10, (by kernel_rfl)
  change wpList _ _ _ _ _ w1.drew
  have hl : ((D.drop i).take n).length = Nat.min (D.length - i) n := by simp [Nat.min_comm]
  refine wpList_copy_bytes rfl (.tmp 20) (.tmp 29) 23 23 rfl 5 Tryz.underlying23 (by kernel_rfl) b o n c db i (D.length - i) (cap - i) rfl rfl ((D.drop i).take n) hl ?c2 ?c3 ?_
  case c2 =>
    have := (hd1.drop i).take n
    rwa [Nat.zero_add] at this
  case c3 => exact fun j hj => room1 j (by simp at hj; omega)
  intro w2 hk2 hb2 hf2
  have hkk : Keep (fun k j => k = b ∧ o ≤ j ∧ j < o + ((D.drop i).take n).length) w1 w2 := (Keep.refl _ _).drew.trans hk2
  have hs2 := hkk.get hs1 (by omega)
  have hI2 := hkk.get hI1 (by omega)
  have hp2 := hkk.get hp1 (by omega)
  have hd2 : BytesAt w2 db 0 D := hd1.keep hkk (by omega)
  have hfz2 : ∀ j, w2.frozen? ⟨rb, j, none⟩ = false := fun j => hkk.froz (World.block_lt_of_cell? _ _ hs1) (hfz1 j) (by omega)
  have HF2 := Lib.hid hf2
  clear hf2
  obtain ⟨L, HL⟩ : ∃ L, L = ((D.drop i).take n).length := ⟨_, rfl⟩
  have hL : L ≤ D.length - i := by rw [HL]; simp; omega
  rw [← HL]
  have HLh := Lib.hid HL
  clear HL hl
  go_wp2
  go_ret2
  have hLe := HLh.out
  have hf2 := HF2.out
  have hw1 := HW1.out
  refine ⟨_, rfl, by rw [← hLe]; rfl, ⟨?_, ?_, ⟨-1, ?_⟩, ?_, ?_, h.ne, ?_, h.hcap, h.hlen⟩, ?_, ?_, ?_⟩
  · go_simp
  · rw [← hLe]; go_simp
  · go_simp
  · intro j; rw [World.frozen?_setCell]; exact hfz2 j
  · exact hd2.keep (keep_setCell _ _ _ _) (fun _ _ e => h.ne e.1.symm)
  · rw [← hLe]; omega
  · exact hb2.keep (keep_setCell _ _ _ _) (fun _ _ e => hb1 e.1)
  · intro j; rw [World.frozen?_setCell, hf2, World.frozen?_drew, hw1]; simp
  · refine (hk1.then (hkk.then (keep_setCell _ _ _ _) (fun _ _ _ h => Or.inl h) (fun _ _ _ h => Or.inr h)) ?_ ?_)
    · intro k j _ e; exact .inl e.1
    · rintro k j _ (e | e)
      · exact .inr e
      · exact .inl e.1
end Go.Proofs.YtnbbppjgamdfeaaGreatDoor
end

/- io.ReadAtLeast, io.ReadFull over whatever reader hands its bytes on. -/
section
set_option linter.unusedVariables false
set_option linter.unusedSimpArgs false
namespace Go.Proofs.YtnbbppjgamdfeaaGreatDoor
open Go Go.RowKit

/-- A reader behind a pointer at ra, of dynamic type t, whose Read is function f: I w R: in w the bytes R are still to come; FR: its own cells; Ok b: block b is none of its own. -/
structure Rdr (t : TypeId) (ra : Addr) (f : FuncId) (I : World → List UInt8 → Prop) (FR : Nat → Nat → Prop) (Ok : Nat → Prop) : Prop where
  nilA : ∀ w, (nilAhead 459 t (.pointer (some ra)) "Read").run Tryz.prog w = .ok (some false) w
  meth : ∀ w, (method 459 t (.pointer (some ra)) "Read").run Tryz.prog w = .ok (f, .pointer (some ra)) w
  call : ∀ args w, (callFunc f args).run Tryz.prog w = .ok (.enter f args) w
  draw : ∀ w R n, I w R → I (w.drewN n) R
  ok : ∀ b, Ok b → ∀ y, ¬ FR b y
  read : ∀ (w : World) (R : List UInt8) (b o n c : Nat), I w R → 0 < n → n ≤ R.length → n ≤ c → RoomAt w b o n → Ok b →
    Calls Tryz.prog f #[.pointer (some ra), .slice (some ⟨b, o, none⟩) n c] w fun e w' => ∃ k ev, 0 < k ∧ k ≤ n ∧ (ev = .nilIface ∨ k = n) ∧ e = .returned (.tuple #[.int .i64 (k : Int), ev]) ∧
      I w' (R.drop k) ∧ BytesAt w' b o (R.take k) ∧ (∀ j, w'.frozen? ⟨b, j, none⟩ = w.frozen? ⟨b, j, none⟩) ∧ Keep (fun x y => FR x y ∨ (x = b ∧ o ≤ y ∧ y < o + k)) w w'

theorem RoomAt.after {w w' : World} {b o n o' : Nat} {l : List UInt8} {G : Nat → Nat → Prop} (h : RoomAt w b o n) (hk : Keep G w w') (hG : ∀ y, G b y → o' ≤ y ∧ y < o' + l.length) (hb : BytesAt w' b o' l)
    (hf : ∀ j, w'.frozen? ⟨b, j, none⟩ = w.frozen? ⟨b, j, none⟩) : RoomAt w' b o n := fun j hj => by
  obtain ⟨⟨v, hv⟩, hz⟩ := h j hj
  refine ⟨?_, by rw [hf]; exact hz⟩
  by_cases hg : G b (o + j)
  · obtain ⟨h1, h2⟩ := hG _ hg
    have := hb (o + j - o') (by omega)
    rw [show o' + (o + j - o') = o + j by omega] at this
    exact ⟨_, this⟩
  · exact ⟨v, hk.get hv hg⟩

/-- What stands at the head of ReadAtLeast's loop. -/
structure RALInv (I : World → List UInt8 → Prop) (FR : Nat → Nat → Prop) (b o N : Nat) (R : List UInt8) (w : World) (j : Nat) (v7 : Value) (wr : World) : Prop where
  le : j ≤ N
  nil : j < N → v7 = .nilIface
  inv : I wr (R.drop j)
  bytes : BytesAt wr b o (R.take j)
  room : RoomAt wr b o N
  fz : ∀ i, wr.frozen? ⟨b, i, none⟩ = w.frozen? ⟨b, i, none⟩
  keep : Keep (fun x y => FR x y ∨ (x = b ∧ o ≤ y ∧ y < o + N)) w wr

theorem RALInv.step {I : World → List UInt8 → Prop} {FR : Nat → Nat → Prop} {b o N : Nat} {R : List UInt8} {w : World} {j : Nat} {v7 : Value} {wr : World} (h : RALInv I FR b o N R w j v7 wr) (hN : N ≤ R.length) (hj : j < N)
    (hFR : ∀ y, ¬ FR b y) {wd w' : World} (hd : Keep Nil2 wr wd) (hdf : ∀ i, wd.frozen? ⟨b, i, none⟩ = wr.frozen? ⟨b, i, none⟩) {k : Nat} {ev : Value} (hk0 : 0 < k) (hk : k ≤ N - j) (hev : ev = .nilIface ∨ k = N - j) (hI : I w' ((R.drop j).drop k)) (hb : BytesAt w' b (o + j) ((R.drop j).take k))
    (hf : ∀ i, w'.frozen? ⟨b, i, none⟩ = wd.frozen? ⟨b, i, none⟩) (hK : Keep (fun x y => FR x y ∨ (x = b ∧ o + j ≤ y ∧ y < o + j + k)) wd w') : RALInv I FR b o N R w (j + k) ev w' := by
  have hlen : ((R.drop j).take k).length = k := by simp; omega
  have hK' : Keep (fun x y => FR x y ∨ (x = b ∧ o + j ≤ y ∧ y < o + j + k)) wr w' := hd.then hK (fun _ _ _ h => h.elim) (fun _ _ _ h => h)
  have hf' : ∀ i, w'.frozen? ⟨b, i, none⟩ = wr.frozen? ⟨b, i, none⟩ := fun i => (hf i).trans (hdf i)
  refine ⟨by omega, fun h1 => hev.resolve_right (by omega), ?_, ?_, ?_, fun i => (hf' i).trans (h.fz i), ?_⟩
  · rwa [List.drop_drop] at hI
  · have h1 : BytesAt w' b o (R.take j) := h.bytes.keep hK' (fun i hi e => by
      have : i < j := by simp at hi; omega
      rcases e with e | e
      · exact hFR _ e
      · omega)
    have hl : (R.take j).length = j := by simp; omega
    have h2 := BytesAt.append h1 (m := (R.drop j).take k) (by rw [hl]; exact hb)
    rwa [← List.take_add] at h2
  · refine h.room.after hK' (o' := o + j) (l := (R.drop j).take k) (fun y hy => ?_) hb hf'
    rcases hy with hy | hy
    · exact absurd hy (hFR _)
    · rw [hlen]; exact hy.2
  · refine h.keep.then hK' (fun _ _ _ h => h) (fun x y _ e => ?_)
    rcases e with e | e
    · exact .inl e
    · exact .inr ⟨e.1, by omega, by omega⟩

set_option maxHeartbeats 1000000 in
set_option maxRecDepth 100000 in
theorem readAtLeast {t : TypeId} {ra : Addr} {f : FuncId} {I : World → List UInt8 → Prop} {FR : Nat → Nat → Prop} {Ok : Nat → Prop} (rd : Rdr t ra f I FR Ok)
    (w : World) (R : List UInt8) (b o N c : Nat) (hI : I w R) (hN : N ≤ R.length) (hN2 : N ≤ 1073741824) (room : RoomAt w b o N) (hok : Ok b) (hNc : N ≤ c) :
    Calls Tryz.prog 79 #[.iface t (.pointer (some ra)), .slice (some ⟨b, o, none⟩) N c, .int .i64 (N : Int)] w fun e w' => e = .returned (.tuple #[.int .i64 (N : Int), .nilIface]) ∧
      I w' (R.drop N) ∧ BytesAt w' b o (R.take N) ∧ (∀ j, w'.frozen? ⟨b, j, none⟩ = w.frozen? ⟨b, j, none⟩) ∧ Keep (fun x y => FR x y ∨ (x = b ∧ o ≤ y ∧ y < o + N)) w w' := by
  have hnil := rd.nilA
  have hmeth := rd.meth
  have hcall := rd.call
  have hFR := Lib.hid (rd.ok b hok)
  have hlt : decide ((N : Int) < (N : Int)) = false := by simp
  go_enter Tryz.func79, Tryz.ntmps79
  go_wp2
  go_loopg [6, 7, 8] N (fun g v6 v7 v8 wr => ∃ j : Nat, j + g = N ∧ v6 = .int .i64 (j : Int) ∧ RALInv I FR b o N R w j v7 wr)
  case atStart => exact ⟨0, by omega, rfl, ⟨by omega, fun _ => rfl, hI, fun i hi => by simp at hi, room, fun _ => rfl, Keep.refl _ _⟩⟩
  case round =>
    obtain ⟨j, hjg, rfl, inv⟩ := hrel
    by_cases hj : j < N
    · have hnl := inv.nil hj
      subst hnl
      have hjc : ¬ c = j := by omega
      have hjN : (j : Int) ≤ N := by omega
      have hjN2 : (j : Int) < N := by omega
      have hij : decide ((j : Int) < (N : Int)) = true := by simp; omega
      go_wp2
      go_region_with (first | (refine (rd.read _ (R.drop j) b (o + j) (N - j) (c - j) (rd.draw _ _ 1 inv.inv) (by omega) (by simp; omega) (by omega) ?_ hok).mono ?_; (exact (inv.room.sub j (N - j) (by omega)).keep ((Keep.refl Nil2 _).drew) (fun _ _ e => e)); rintro e w' ⟨k, ev, hk0, hk, hev, rfl, hI', hb', hf', hK'⟩))
      have hs := inv.step hN hj hFR.out (wd := wr.drew) ((Keep.refl _ _).drew) (fun _ => rfl) hk0 hk hev hI' hb' hf' hK'
      have hsum : IntKind.i64.wrap ((j : Int) + (k : Int)) = (j : Int) + (k : Int) := IntWalk.i64_in _ (by omega)
      clear hij
      go_wp2
      go_roundg (N - (j + k))
      case measure => omega
      case rel => exact ⟨j + k, by omega, by go_num, hs⟩
    · obtain rfl : j = N := by have := inv.le; omega
      go_wp2
      go_ret2
      exact ⟨rfl, inv.inv, inv.bytes, inv.fz, inv.keep⟩

set_option maxHeartbeats 400000 in
set_option maxRecDepth 100000 in
/-- ReadFull: just as many bytes as there is room for. -/
theorem readFull {t : TypeId} {ra : Addr} {f : FuncId} {I : World → List UInt8 → Prop} {FR : Nat → Nat → Prop} {Ok : Nat → Prop} (rd : Rdr t ra f I FR Ok)
    (w : World) (R : List UInt8) (b o N c : Nat) (hI : I w R) (hN : N ≤ R.length) (hN2 : N ≤ 1073741824) (room : RoomAt w b o N) (hok : Ok b) (hNc : N ≤ c) :
    Calls Tryz.prog 53 #[.iface t (.pointer (some ra)), .slice (some ⟨b, o, none⟩) N c] w fun e w' => e = .returned (.tuple #[.int .i64 (N : Int), .nilIface]) ∧
      I w' (R.drop N) ∧ BytesAt w' b o (R.take N) ∧ (∀ j, w'.frozen? ⟨b, j, none⟩ = w.frozen? ⟨b, j, none⟩) ∧ Keep (fun x y => FR x y ∨ (x = b ∧ o ≤ y ∧ y < o + N)) w w' := by
  go_enter Tryz.func53, Tryz.ntmps53
  go_wp2_with (go_at_call 79; refine (readAtLeast rd _ R b o N c hI hN hN2 room hok hNc).mono ?_; rintro e w' ⟨rfl, h1⟩)
  go_ret2
  exact ⟨rfl, h1⟩
end Go.Proofs.YtnbbppjgamdfeaaGreatDoor
end

/- Plain numbers: the CRC-32 by bits and by a table. No program in sight. -/
section
set_option linter.unusedVariables false
set_option linter.unusedSimpArgs false
namespace Go.Proofs.YtnbbppjgamdfeaaGreatDoor

def crcStep (x : Nat) : Nat := if x % 2 = 1 then (x / 2) ^^^ 3988292384 else x / 2
def crcSteps : Nat → Nat → Nat
  | 0, x => x
  | n + 1, x => crcSteps n (crcStep x)
def crc8 (x : Nat) : Nat := crcSteps 8 x
def crcRun (c : Nat) (l : List UInt8) : Nat := l.foldl (fun c v => crc8 (c ^^^ v.toNat)) c
def crcOf (l : List UInt8) : Nat := 4294967295 - crcRun 4294967295 l

theorem xor_half (a b : Nat) : (a ^^^ b) / 2 = a / 2 ^^^ b / 2 := by
  have := Nat.xor_div_two_pow (a := a) (b := b) (n := 1)
  simpa using this
theorem xor_par (a b : Nat) : (a ^^^ b) % 2 = (a % 2) ^^^ (b % 2) := by
  have := Nat.xor_mod_two_pow (a := a) (b := b) (n := 1)
  simpa using this

theorem crcStep_xor (a b : Nat) : crcStep (a ^^^ b) = crcStep a ^^^ crcStep b := by
  unfold crcStep
  rw [xor_half, xor_par]
  rcases Nat.mod_two_eq_zero_or_one a with ha | ha <;> rcases Nat.mod_two_eq_zero_or_one b with hb | hb <;> simp [ha, hb]
  · rw [Nat.xor_assoc]
  · rw [Nat.xor_assoc, Nat.xor_comm (b / 2), Nat.xor_assoc]
  · rw [show a / 2 ^^^ 3988292384 ^^^ (b / 2 ^^^ 3988292384) = a / 2 ^^^ b / 2 ^^^ (3988292384 ^^^ 3988292384) by
      rw [Nat.xor_assoc, ← Nat.xor_assoc 3988292384, Nat.xor_comm 3988292384 (b / 2), Nat.xor_assoc (b / 2), ← Nat.xor_assoc]]
    simp
theorem crcSteps_xor (n : Nat) : ∀ a b, crcSteps n (a ^^^ b) = crcSteps n a ^^^ crcSteps n b := by
  induction n with
  | zero => intro a b; rfl
  | succ n ih => intro a b; simp only [crcSteps]; rw [crcStep_xor, ih]
theorem crcStep_even (z : Nat) : crcStep (2 * z) = z := by
  unfold crcStep; rw [if_neg (by omega)]; omega
theorem crc8_shift (q : Nat) : crc8 (256 * q) = q := by
  unfold crc8
  simp only [crcSteps]
  rw [show 256 * q = 2 * (2 * (2 * (2 * (2 * (2 * (2 * (2 * q))))))) by omega]
  simp only [crcStep_even]
theorem split_byte (y : Nat) : 256 * (y / 256) ^^^ y % 256 = y := by
  have h1 : y % 256 < 2 ^ 8 := Nat.mod_lt _ (by decide)
  have h2 : (y / 256) <<< 8 ||| y % 256 = (y / 256) <<< 8 + y % 256 := by
    rw [Nat.shiftLeft_eq, Nat.mul_comm]; exact (Nat.two_pow_add_eq_or_of_lt h1 _).symm
  have h3 : 256 * (y / 256) ^^^ y % 256 = (y / 256) <<< 8 ||| y % 256 := by
    apply Nat.eq_of_testBit_eq
    intro i
    rw [show 256 * (y / 256) = (y / 256) <<< 8 by rw [Nat.shiftLeft_eq]; omega]
    simp only [Nat.testBit_xor, Nat.testBit_or, Nat.testBit_shiftLeft]
    by_cases hi : 8 ≤ i
    · have : (y % 256).testBit i = false := Nat.testBit_lt_two_pow (Nat.lt_of_lt_of_le h1 (Nat.pow_le_pow_right (by decide) hi))
      simp [this]
    · simp [hi]
  rw [h3, h2, Nat.shiftLeft_eq]; omega
/-- One byte by the table. -/
theorem crc8_tab (y : Nat) : crc8 y = crc8 (y % 256) ^^^ y / 256 := by
  have h : crc8 y = crc8 (256 * (y / 256) ^^^ y % 256) := by rw [split_byte]
  rw [h]
  show crcSteps 8 _ = _
  rw [crcSteps_xor]
  show crc8 _ ^^^ crc8 _ = _
  rw [crc8_shift, Nat.xor_comm]
theorem crc_byte (x v : Nat) (hv : v < 256) : crc8 (x ^^^ v) = crc8 (x % 256 ^^^ v) ^^^ x / 256 := by
  rw [crc8_tab]
  have h1 : (x ^^^ v) % 256 = x % 256 ^^^ v := by
    have := Nat.xor_mod_two_pow (a := x) (b := v) (n := 8)
    rw [show (2 : Nat) ^ 8 = 256 from rfl] at this
    rw [this, Nat.mod_eq_of_lt hv]
  have h2 : (x ^^^ v) / 256 = x / 256 := by
    have := Nat.xor_div_two_pow (a := x) (b := v) (n := 8)
    rw [show (2 : Nat) ^ 8 = 256 from rfl] at this
    rw [this, Nat.div_eq_of_lt hv]; simp
  rw [h1, h2]
theorem crcStep_lt (x : Nat) (h : x < 4294967296) : crcStep x < 4294967296 := by
  unfold crcStep
  split
  · exact Nat.xor_lt_two_pow (n := 32) (by omega) (by omega)
  · omega
theorem crcSteps_lt (n : Nat) : ∀ x, x < 4294967296 → crcSteps n x < 4294967296 := by
  induction n with
  | zero => intro x h; exact h
  | succ n ih => intro x h; exact ih _ (crcStep_lt x h)
theorem crc8_lt (x : Nat) (h : x < 4294967296) : crc8 x < 4294967296 := crcSteps_lt 8 x h
theorem crcRun_lt (l : List UInt8) : ∀ c, c < 4294967296 → crcRun c l < 4294967296 := by
  induction l with
  | nil => intro c h; exact h
  | cons v l ih => intro c h; exact ih _ (crc8_lt _ (Nat.xor_lt_two_pow (n := 32) h (by have := v.toNat_lt; omega)))
theorem crcRun_append (c : Nat) (l m : List UInt8) : crcRun c (l ++ m) = crcRun (crcRun c l) m := List.foldl_append ..
theorem crcRun_take_succ (c : Nat) (l : List UInt8) (k : Nat) (h : k < l.length) : crcRun c (l.take (k + 1)) = crc8 (crcRun c (l.take k) ^^^ l[k].toNat) := by
  rw [List.take_succ_eq_append_getElem h, crcRun_append]; rfl
theorem crcOf_lt (l : List UInt8) : crcOf l < 4294967296 := by unfold crcOf; omega
end Go.Proofs.YtnbbppjgamdfeaaGreatDoor
end

/- The sum of a chunk in package png: crcDigest's Reset, Write, Sum32; beUint32. -/
section
set_option linter.unusedVariables false
set_option linter.unusedSimpArgs false
namespace Go.Proofs.YtnbbppjgamdfeaaGreatDoor
open Go Go.RowKit

/-- png.ieeeTable (variable 3) holds the table. -/
def TabOk (w : World) : Prop := ∀ i : Nat, i < 256 → w.cell? ⟨3, i, none⟩ = some (.int .u32 (crc8 i : Int))
theorem TabOk.keep {F : Nat → Nat → Prop} {w w' : World} (h : TabOk w) (hk : Keep F w w') (hn : ∀ o, ¬ F 3 o) : TabOk w' := fun i hi => hk.get (h i hi) (hn i)

/-- A crcDigest whose running number is c (it holds c's complement). -/
structure CrcSt (w : World) (cb c : Nat) : Prop where
  cell : w.cell? ⟨cb, 0, none⟩ = some (.int .u32 (4294967295 - (c : Int)))
  fz : w.frozen? ⟨cb, 0, none⟩ = false
  lt : c < 4294967296
theorem CrcSt.keep {F : Nat → Nat → Prop} {w w' : World} {cb c : Nat} (h : CrcSt w cb c) (hk : Keep F w w') (hn : ∀ o, ¬ F cb o) : CrcSt w' cb c :=
  ⟨hk.get h.cell (hn 0), hk.froz (World.block_lt_of_cell? w _ h.cell) h.fz (hn 0), h.lt⟩

theorem compl_nat (x : Nat) (h : x < 4294967296) : 4294967295 ^^^ x = 4294967295 - x := by
  apply Nat.eq_of_testBit_eq
  intro i
  have h1 := Nat.testBit_two_pow_sub_succ (n := 32) (x := x) h i
  have h2 := Nat.testBit_two_pow_sub_one 32 i
  rw [show (2 : Nat) ^ 32 - (x + 1) = 4294967295 - x by omega] at h1
  rw [show (2 : Nat) ^ 32 - 1 = 4294967295 from rfl] at h2
  rw [Nat.testBit_xor, h1, h2]
  by_cases hi : i < 32
  · simp [hi]
  · have : x.testBit i = false := Nat.testBit_lt_two_pow (Nat.lt_of_lt_of_le h (show 2 ^ 32 ≤ 2 ^ i from Nat.pow_le_pow_right (by decide) (by omega)))
    simp [hi, this]
theorem compl_u32 (x : Nat) (h : x < 4294967296) : bits .xor .u32 IntKind.u32.max (x : Int) = 4294967295 - (x : Int) := by
  rw [show IntKind.u32.max = ((4294967295 : Nat) : Int) from rfl, u32_xor_nat _ _ (by decide) h, compl_nat x h]; omega
theorem compl_u32' (x : Nat) (h : x < 4294967296) : bits .xor .u32 IntKind.u32.max (4294967295 - (x : Int)) = (x : Int) := by
  have := compl_u32 (4294967295 - x) (by omega)
  rw [show ((4294967295 - x : Nat) : Int) = 4294967295 - (x : Int) by omega] at this
  rw [this]; omega

set_option maxHeartbeats 1000000 in
set_option maxRecDepth 100000 in
theorem crcWrite {w : World} {cb c : Nat} (h : CrcSt w cb c) (ht : TabOk w) (l : List UInt8) (b o n cap : Nat) (hn : n = l.length) (hb : BytesAt w b o l) (hlen : l.length ≤ 1073741824) (h3 : cb ≠ 3) :
    Calls Tryz.prog 56 #[.pointer (some ⟨cb, 0, none⟩), .slice (some ⟨b, o, none⟩) n cap] w fun e w' =>
      e = .returned (.tuple #[.int .i64 (l.length : Int), .nilIface]) ∧ CrcSt w' cb (crcRun c l) ∧ Keep (fun x y => x = cb ∧ y = 0) w w' := by
  subst hn
  have hc := h.cell
  have hf := h.fz
  have hlt := h.lt
  have e1 := compl_u32' c hlt
  go_enter Tryz.func56, Tryz.ntmps56
  go_wp2
  clear e1
  go_loop [6, 8, 16] (fun v6 v8 v16 => ∃ k : Nat, k ≤ l.length ∧ v16 = .int .i64 (k : Int) ∧ v6 = .int .u32 (crcRun c (l.take k) : Int)) (fun _ _ v => l.length - (intOf v).toNat)
  case atStart => exact ⟨0, Nat.zero_le _, rfl, rfl⟩
  case round =>
    obtain ⟨k, hk, rfl, rfl⟩ := hrel
    by_cases hlt2 : k < l.length
    · have hcl := hb k hlt2
      have hs := crcRun_take_succ c l k hlt2
      have hx := crcRun_lt (l.take k) c hlt
      generalize crcRun c (l.take k) = x at hx hs ⊢
      have hv := u8_lt l[k]
      generalize l[k].toNat = v at hcl hs hv
      rw [crc_byte x v hv] at hs
      have hy : x % 256 ^^^ v < 256 := Nat.xor_lt_two_pow (n := 8) (by omega) hv
      have hty := ht _ hy
      have hty2 := crc8_lt (x % 256 ^^^ v) (by omega)
      have HS := Lib.hid hs
      clear hs
      have e2 : bits BinOp.xor IntKind.u8 ((x : Int) % 256) (v : Int) = ((x % 256 ^^^ v : Nat) : Int) := by
        rw [← u8_xor_nat _ _ (by omega) hv]; rfl
      have e3 : bits BinOp.xor IntKind.u32 (crc8 (x % 256 ^^^ v) : Int) ((x : Int) / 256) = ((crc8 (x % 256 ^^^ v) ^^^ x / 256 : Nat) : Int) := by
        rw [← u32_xor_nat _ _ hty2 (by omega)]; rfl
      generalize crc8 (x % 256 ^^^ v) = t at hty HS e3
      generalize x % 256 ^^^ v = y at hy hty e2
      have hy2 : (y : Int) < 256 := by omega
      go_wp2
      go_round
      case rel => exact ⟨k + 1, by omega, by go_num, by rw [HS.out]⟩
      case measure => simp [intOf]; omega
    · obtain rfl : k = l.length := by omega
      rw [List.take_length]
      have hx := crcRun_lt l c hlt
      generalize hX : crcRun c l = x at hx ⊢
      have e4 := compl_u32 x hx
      have HX := Lib.hid hX
      clear hX
      go_wp2
      go_ret2
      rw [HX.out]
      refine ⟨rfl, ⟨?_, ?_, hx⟩, ?_⟩
      · exact World.cell?_setCell_same _ _ _ hc
      · rw [World.frozen?_setCell]; exact hf
      · exact keep_setCell _ _ _ _

set_option maxHeartbeats 400000 in
theorem crcReset {w : World} {cb c : Nat} (h : CrcSt w cb c) :
    Calls Tryz.prog 55 #[.pointer (some ⟨cb, 0, none⟩)] w fun e w' => e = .returned (.tuple #[]) ∧ CrcSt w' cb 4294967295 ∧ Keep (fun x y => x = cb ∧ y = 0) w w' := by
  have hc := h.cell
  have hf := h.fz
  go_enter Tryz.func55, Tryz.ntmps55
  go_wp2
  go_end0
  exact ⟨rfl, ⟨World.cell?_setCell_same _ _ _ hc, by rw [World.frozen?_setCell]; exact hf, by decide⟩, keep_setCell _ _ _ _⟩

set_option maxHeartbeats 400000 in
theorem crcSum32 {w : World} {cb c : Nat} (h : CrcSt w cb c) :
    Calls Tryz.prog 81 #[.pointer (some ⟨cb, 0, none⟩)] w fun e w' => e = .returned (.int .u32 (4294967295 - (c : Int))) ∧ w = w' := by
  have hc := h.cell
  go_enter Tryz.func81, Tryz.ntmps81
  go_wp2
  go_ret
  exact ⟨rfl, rfl⟩

/-- Four bytes as a number, the highest first. -/
def be4 (a b c d : UInt8) : Nat := a.toNat * 16777216 + b.toNat * 65536 + c.toNat * 256 + d.toNat

theorem or_add (a b n : Nat) (ha : a % 2 ^ n = 0) (hb : b < 2 ^ n) : a ||| b = a + b := by
  obtain ⟨q, rfl⟩ := Nat.dvd_of_mod_eq_zero ha
  rw [← Nat.two_pow_add_eq_or_of_lt hb]

theorem be4_bits (x0 x1 x2 x3 : Nat) (h0 : x0 < 256) (h1 : x1 < 256) (h2 : x2 < 256) (h3 : x3 < 256) :
    bits BinOp.or IntKind.u32 (bits BinOp.or IntKind.u32 (bits BinOp.or IntKind.u32 ((x3 : Int) % 4294967296) ((x2 : Int) % 4294967296 * 256 % 4294967296)) ((x1 : Int) % 4294967296 * 65536 % 4294967296)) ((x0 : Int) % 4294967296 * 16777216 % 4294967296)
      = ((x0 * 16777216 + x1 * 65536 + x2 * 256 + x3 : Nat) : Int) := by
  rw [show (x3 : Int) % 4294967296 = (x3 : Int) by omega, show (x2 : Int) % 4294967296 * 256 % 4294967296 = ((x2 * 256 : Nat) : Int) by omega,
    show (x1 : Int) % 4294967296 * 65536 % 4294967296 = ((x1 * 65536 : Nat) : Int) by omega, show (x0 : Int) % 4294967296 * 16777216 % 4294967296 = ((x0 * 16777216 : Nat) : Int) by omega]
  have e1 : x3 ||| x2 * 256 = x2 * 256 + x3 := by rw [Nat.or_comm]; exact or_add _ _ 8 (by omega) (by omega)
  have e2 : (x2 * 256 + x3) ||| x1 * 65536 = x1 * 65536 + (x2 * 256 + x3) := by rw [Nat.or_comm]; exact or_add _ _ 16 (by omega) (by omega)
  have e3 : (x1 * 65536 + (x2 * 256 + x3)) ||| x0 * 16777216 = x0 * 16777216 + (x1 * 65536 + (x2 * 256 + x3)) := by rw [Nat.or_comm]; exact or_add _ _ 24 (by omega) (by omega)
  rw [u32_or_nat _ _ (by omega) (by omega), e1, u32_or_nat _ _ (by omega) (by omega), e2, u32_or_nat _ _ (by omega) (by omega), e3]
  omega

set_option maxHeartbeats 400000 in
theorem beUint32 {w : World} {x0 x1 x2 x3 : UInt8} (b o n cap : Nat) (hn : 4 ≤ n) (hb : BytesAt w b o [x0, x1, x2, x3]) :
    Calls Tryz.prog 54 #[.slice (some ⟨b, o, none⟩) n cap] w fun e w' => e = .returned (.int .u32 (be4 x0 x1 x2 x3 : Int)) ∧ ∃ k, w' = w.drewN k := by
  have c0 := hb 0 (by simp)
  have c1 := hb 1 (by simp)
  have c2 := hb 2 (by simp)
  have c3 := hb 3 (by simp)
  simp only [List.getElem_cons_zero, List.getElem_cons_succ, Nat.add_zero] at c0 c1 c2 c3
  have hl3 : (3 : Int) < n := by omega
  have hl2 : (2 : Int) < n := by omega
  have hl1 : (1 : Int) < n := by omega
  have hl0 : (0 : Int) < n := by omega
  have e := be4_bits _ _ _ _ (u8_lt x0) (u8_lt x1) (u8_lt x2) (u8_lt x3)
  unfold be4
  generalize x0.toNat = y0 at *
  generalize x1.toNat = y1 at *
  generalize x2.toNat = y2 at *
  generalize x3.toNat = y3 at *
  have E := Lib.hid e
  clear e
  go_enter Tryz.func54, Tryz.ntmps54
  go_wp2
  go_quiet (fail)
  go_wp2
  go_ret
  exact ⟨by rw [← E.out]; rfl, _, rfl⟩
end Go.Proofs.YtnbbppjgamdfeaaGreatDoor
end
