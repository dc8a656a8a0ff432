/- laws.FnBack, part 14 of 54: S0 S2 S3 T0 T1 T2. -/
import Derived.Test.YtnbbppjgamdfeaaGreatDoorY11
import Derived.Test.YtnbbppjgamdfeaaGreatDoorY01
import Derived.Maps.AppendAt
import Derived.Laws.AppendOwnNone
import Derived.OwnWalk
import Derived.Laws.IdiomStrings
import Derived.ArgAppend

/- Appending bytes to a row of the call's own. -/
section
set_option linter.unusedVariables false
set_option linter.unusedSimpArgs false
namespace Go.Proofs.YtnbbppjgamdfeaaGreatDoor
open Go Go.RowKit

/-- The slice value v tells the bytes m (nil where there are none, or a place in memory). -/
def Src (w : World) (v : Value) (m : List UInt8) : Prop := (v = .slice none 0 0 ∧ m = []) ∨ ∃ b o n c, v = .slice (some ⟨b, o, none⟩) n c ∧ n = m.length ∧ BytesAt w b o m
theorem Src.nil (w : World) : Src w (.slice none 0 0) [] := .inl ⟨rfl, rfl⟩
theorem Src.of {w : World} {b o n c : Nat} {m : List UInt8} (hn : n = m.length) (h : BytesAt w b o m) : Src w (.slice (some ⟨b, o, none⟩) n c) m := .inr ⟨b, o, n, c, rfl, hn, h⟩
theorem OwnB.src {w : World} {base : Nat} {v : Value} {l : List UInt8} (h : OwnB w base v l) : Src w v l := by
  by_cases hl : 0 < l.length
  · obtain ⟨g, cap, rfl, _, _, _, hb, _⟩ := h.slice hl
    exact .of rfl hb
  · have e : l = [] := by cases l with | nil => rfl | cons x l => simp at hl
    subst e
    rcases h.2 with ⟨rfl, _⟩ | ⟨g, cap, cur, rfl, _⟩
    · exact .nil w
    · exact .of rfl fun i hi => by simp at hi
theorem Src.keep {F : Nat → Nat → Prop} {w w' : World} {v : Value} {m : List UInt8} (h : Src w v m) (hk : Keep F w w') (hn : ∀ k o, v.ownBlock = some k → ¬ F k o) : Src w' v m := by
  rcases h with ⟨rfl, rfl⟩ | ⟨b, o, n, c, rfl, hm, hb⟩
  · exact .nil w'
  · exact .of hm (hb.keep hk fun i hi => hn b (o + i) rfl)
theorem OwnB.block_ge {w : World} {base : Nat} {v : Value} {l : List UInt8} (h : OwnB w base v l) (k : Nat) (hk : v.ownBlock = some k) : base ≤ k ∧ k < w.heap.size := by
  rcases h.2 with ⟨rfl, _⟩ | ⟨g, cap, cur, rfl, hb, hh, _⟩
  · cases hk
  · injection hk with e
    subst e
    exact ⟨hb, by rcases Nat.lt_or_ge g w.heap.size with h | h; exact h; rw [Array.getElem?_eq_none h] at hh; cases hh⟩

section
variable {w : World}
theorem wpList_append_bytes {ops : Array Oper} {rest : List Oper} {o : Oper} {a : Act} {Q : Exit → Act → World → Prop} (hgd : o.guard = none) (s x : Operand)
    (ho : o.op = .call { callee := .builtin .append, args := #[s, x], argTypes := #[23, 23] })
    (base : Nat) (v : Value) (l : List UInt8) (hs : a.eval s = v) (hown : OwnB w base v l) (xv : Value) (m : List UInt8) (hx : a.eval x = xv) (hsrc : Src w xv m) (hlen : l.length + m.length ≤ 1073741824) (hbase : base ≤ w.heap.size)
    (h : ∀ v' w', OwnB w' base v' (l ++ m) → Keep (fun k _ => v.ownBlock = some k) w w' → (v'.ownBlock = v.ownBlock ∨ v'.ownBlock = some w.heap.size) → wpList Tryz.prog ops Q rest (a.put o.dst v') w') :
    wpList Tryz.prog ops Q (o :: rest) a w := by
  obtain ⟨i, hi, hz, hsz, hby⟩ := info_of (P := Tryz.prog) (e := 5) (z := .int .u8 0) (size := 1) (bytes := 1) (by kernel_rfl)
  rcases hsrc with ⟨rfl, rfl⟩ | ⟨b, of, n, c, rfl, rfl, hb⟩
  · refine wpList_append_own_none hgd s x 23 ho base 5 i 1 Tryz.underlying23 hi v l.length (bytesV l) hs hown hx ?_
    exact h v w (by rw [List.append_nil]; exact hown) (Keep.refl _ w) (.inl rfl)
  · refine wpList_append_own_at w hgd s x 23 ho base 5 i (.int .u8 0) 1 1 Tryz.underlying23 hi hz hsz hby rfl (by decide) v l.length (bytesV l) hs hown ⟨b, of, none⟩ m.length c (bytesV m) hx (by simp [length_bytesV]) ?_ (oneCell_bytesV m) (by unfold maxLen; omega) (by omega) hbase ?_
    · intro j u hu
      obtain ⟨hj, rfl⟩ := getElem?_bytesV hu
      rw [addr_add]
      exact hb j hj
    · intro v' w' h1 h2 _ h4
      refine h v' w' ?_ (keep_grown h2) h4
      unfold OwnB
      rw [bytesV_append, List.length_append]
      exact h1
end
end Go.Proofs.YtnbbppjgamdfeaaGreatDoor
end

/- The reference's Chunk, WriteHead, Kept. -/
section
set_option linter.unusedVariables false
set_option linter.unusedSimpArgs false
namespace Go.Proofs.YtnbbppjgamdfeaaGreatDoor
open Go Go.RowKit

/-- The slice value owns the bytes, in a block that is new. -/
def MadeB (w w' : World) (v : Value) (l : List UInt8) : Prop := OwnB w' w.heap.size v l ∧ Keep Nil2 w w'

theorem keep_append {W w w' : World} {v : Value} {l : List UInt8} (h : Keep Nil2 W w) (hown : OwnB w W.heap.size v l) (hk : Keep (fun k _ => v.ownBlock = some k) w w') : Keep Nil2 W w' :=
  h.then hk (fun _ _ _ e => e) fun i o hi e => absurd (hown.block_ge i e).1 (by omega)
theorem Src.lit (w : World) (cs : Array Value) (n : Nat) (m : List UInt8) (hcs : cs.toList = bytesV m) (hn : n = m.length) (hm : n ≤ 1073741824) : Src (w.alloc (.cells cs 5)) (.slice (some ⟨w.heap.size, 0, none⟩) n n) m :=
  (ownB_lit w m cs n hcs hn hm).src
theorem OwnB.alloc {w : World} {base : Nat} {v : Value} {l : List UInt8} (h : OwnB w base v l) (x : Obj) : OwnB (w.alloc x) base v l := h.keep ((Keep.refl Nil2 w).alloc x) fun _ _ _ e => e
theorem Src.far {w w' : World} {base : Nat} {v u : Value} {l m : List UInt8} (h : Src w u m) (hk : Keep (fun k _ => v.ownBlock = some k) w w') (hne : ∀ k, u.ownBlock = some k → v.ownBlock ≠ some k) : Src w' u m :=
  h.keep hk fun k o e => hne k e

set_option maxHeartbeats 2000000 in
set_option maxRecDepth 100000 in
theorem specWriteHead (w : World) (wide high depth colour : Nat) (hw : wide < 4294967296) (hh : high < 4294967296) (hd : depth < 256) (hc : colour < 256) :
    Calls Tryz.prog 21 #[.int .u32 (wide : Int), .int .u32 (high : Int), .int .u8 (depth : Int), .int .u8 (colour : Int), .int .u8 0, .int .u8 0, .int .u8 0] w fun e w' => ∃ v, e = .returned v ∧ MadeB w w' v (headB wide high depth colour) := by
  go_enter Tryz.func21, Tryz.ntmps21
  go_wp2_with (go_at_call 32; fail)
  refine (specFour w wide hw).mono ?_
  rintro e w1 ⟨g1, rfl, h1, hk1⟩
  go_wp2_with (go_at_call 32; fail)
  refine (specFour w1 high hh).mono ?_
  rintro e w2 ⟨g2, rfl, h2, hk2⟩
  have h1' : OwnB w2 w.heap.size (.slice (some ⟨g1, 0, none⟩) 4 4) (four wide) := h1.keep hk2 fun _ _ _ e => e
  have hs2 := h2.src
  have hz1 := hk1.size
  have hz2 := hk2.size
  have K2 := Lib.hid (hk1.trans hk2)
  clear hk1 hk2
  go_wp2_with (at_builtin; refine wpList_append_bytes rfl (.tmp 16) (.tmp 18) rfl w.heap.size _ (four wide) rfl h1' _ (four high) rfl hs2 (by simp [four_length]) (by omega) ?_)
  intro v3 w3 h3 hk3 hv3
  have hz3 := hk3.size
  have K3 := Lib.hid (keep_append K2.out h1' hk3)
  clear hk3 hv3 h1 h2 h1' hs2
  go_wp2_with (at_builtin; refine wpList_append_bytes rfl (.tmp 19) (.tmp 25) rfl w.heap.size v3 (four wide ++ four high) rfl (h3.alloc _) _ [b8 depth, b8 colour, 0, 0, 0] rfl ?s2 (by simp [four_length]) ?b2 ?_)
  case s2 =>
    refine Src.lit w3 _ 5 _ ?_ rfl (by omega)
    simp only [bytesV, List.map, b8_toNat, Nat.mod_eq_of_lt hd, Nat.mod_eq_of_lt hc]
    rfl
  case b2 => simp; omega
  intro v4 w4 h4 hk4 hv4
  have K4 := Lib.hid (keep_append (K3.out.alloc _) (h3.alloc _) hk4)
  clear hk4 hv4
  go_wp2
  go_ret
  refine ⟨_, rfl, ?_, K4.out⟩
  unfold headB
  rw [List.append_assoc]
  exact h4

theorem bytesRow_at (sb : ByteArray) (cap j : Nat) (hj : j < cap) (hc : sb.size ≤ cap) : (bytesRow sb cap)[j]? = some (.int .u8 (((sb.data.toList[j]?).map UInt8.toNat).getD 0 : Nat)) := by
  unfold bytesRow
  rcases Nat.lt_or_ge j sb.data.size with h | h
  · rw [Array.getElem?_append_left (by simpa using h), Array.getElem?_map, Array.getElem?_eq_getElem h]
    simp [Array.getElem?_eq_getElem h]
  · have hs : sb.size = sb.data.size := rfl
    rw [Array.getElem?_append_right (by simpa using h)]
    simp only [Array.size_map]
    rw [Array.getElem?_replicate, if_pos (by omega)]
    simp [Array.getElem?_eq_none h]

section
variable {w : World}
/-- What '[]byte(s)' made, then bytes appended. -/
theorem wpList_append_head {W : World} {ops : Array Oper} {rest : List Oper} {o : Oper} {a : Act} {Q : Exit → Act → World → Prop} (hgd : o.guard = none) (s x : Operand)
    (ho : o.op = .call { callee := .builtin .append, args := #[s, x], argTypes := #[23, 23] })
    (sb : ByteArray) (cap : Nat) (hcap : sb.size ≤ cap) (hsz : sb.size ≤ 1073741824)
    (hw : w = (W.drew.alloc (.cells (bytesRow sb cap) 5 ((bytesRow sb cap).size, (bytesRow sb cap).size + 1)))) (hs : a.eval s = .slice (some ⟨W.heap.size, 0, none⟩) sb.size cap)
    (xv : Value) (m : List UInt8) (hx : a.eval x = xv) (hsrc : Src W xv m) (hlen : m.length ≤ 536870912)
    (h : ∀ v' w', Src w' v' (sb.data.toList ++ m) → (∀ k, v'.ownBlock = some k → W.heap.size ≤ k ∧ k < w'.heap.size) → Keep Nil2 W w' → wpList Tryz.prog ops Q rest (a.put o.dst v') w') :
    wpList Tryz.prog ops Q (o :: rest) a w := by
  obtain ⟨i, hi, hz, hsz1, hby⟩ := info_of (P := Tryz.prog) (e := 5) (z := .int .u8 0) (size := 1) (bytes := 1) (by kernel_rfl)
  have hk : Keep Nil2 W w := by rw [hw]; exact (Keep.refl Nil2 W).drew.alloc _
  have hsize : (bytesRow sb cap).size = cap := by simp [bytesRow]; show sb.data.size + _ = _; have : sb.size = sb.data.size := rfl; omega
  have hheap : w.heap[W.heap.size]? = some (.cells (bytesRow sb cap) 5 (cap, cap + 1)) := by
    rw [hw, hsize]
    show (W.heap.push _)[W.heap.size]? = _
    simp
  have hcell : ∀ j, j < cap → w.cell? ⟨W.heap.size, j, none⟩ = some (.int .u8 (((sb.data.toList[j]?).map UInt8.toNat).getD 0 : Nat)) := fun j hj => by
    rw [cell_of_row w _ _ _ _ _ hheap]
    exact bytesRow_at sb cap j hj hcap
  have hfrz : ∀ j, j < cap → w.frozen? ⟨W.heap.size, j, none⟩ = false := fun j hj => by
    simp [World.frozen?, hheap]
    omega
  have hlb : sb.data.toList.length = sb.size := by simp
  have hlow : W.heap.size < w.heap.size := by
    rcases Nat.lt_or_ge W.heap.size w.heap.size with h | h
    · exact h
    · rw [Array.getElem?_eq_none h] at hheap; cases hheap
  have hbs : BytesAt w W.heap.size 0 sb.data.toList := fun j hj => by
    rw [Nat.zero_add, hcell j (by omega), List.getElem?_eq_getElem hj]; rfl
  rcases hsrc with ⟨rfl, rfl⟩ | ⟨b, of, n, c, rfl, rfl, hb⟩
  · refine wpList_plain hgd fun K hK => ?_
    have hrun : (Builtin.append_ #[23, 23] o.type #[.slice (some ⟨W.heap.size, 0, none⟩) sb.size cap, .slice none 0 0]).run Tryz.prog w = .ok (.slice (some ⟨W.heap.size, 0, none⟩) sb.size cap) w := by
      simp [Builtin.append_, run_underlying Tryz.underlying23, sizeOf, typeInfo, hi, Builtin.lenOf, Builtin.firstCells, hcap, storeCells]
    unfold Oper.wp
    simp [execOp, ho, resolve, invoke, builtin, hs, hx, hrun, Result.andThen]
    refine hK _ _ (h _ _ (.of (by simp [hlb]) (by rw [List.append_nil]; exact hbs)) ?_ hk)
    intro k hk'
    injection hk' with e
    subst e
    exact ⟨Nat.le_refl _, hlow⟩
  · have hb' := hb.keep hk fun _ _ e => e
    refine wpList_append_arg w hgd s x 23 ho 5 i (.int .u8 0) 1 1 Tryz.underlying23 hi hz hsz1 hby rfl (by decide) W.heap.size 0 sb.size cap (bytesV sb.data.toList) hs (by rw [length_bytesV, hlb]; omega) ?_ ⟨b, of, none⟩ m.length c (bytesV m) hx (by simp [length_bytesV]) ?_ (oneCell_bytesV m) ?_ (by unfold maxLen; omega) (by omega) ?_ ?_
    · intro j u hu
      obtain ⟨hj, rfl⟩ := getElem?_bytesV hu
      exact hbs j hj
    · intro j u hu
      obtain ⟨hj, rfl⟩ := getElem?_bytesV hu
      rw [addr_add]
      exact hb' j hj
    · intro hfit j hj
      rw [length_bytesV] at hj
      simp only [Nat.zero_add, Nat.mul_one]
      exact ⟨by rw [hcell _ (by omega)]; rfl, hfrz _ (by omega)⟩
    · intro hfit
      simp only [Nat.zero_add, Nat.mul_one]
      refine h _ _ (.of (by simp [hlb]) ?_) ?_ ?_
      · refine BytesAt.append ?_ ?_
        · exact hbs.keep (keep_setCells _ _ _ _) fun j hj e => by omega
        · rw [hlb, Nat.zero_add]
          exact bytes_setCells fun j hj => ⟨⟨_, hcell _ (by omega)⟩, hfrz _ (by omega)⟩
      · intro k hk'
        injection hk' with e
        subst e
        exact ⟨Nat.le_refl _, Nat.lt_of_lt_of_le hlow (keep_setCells _ _ _ _).size⟩
      · exact hk.then (keep_setCells _ _ _ _) (fun _ _ _ e => e) fun x y hx e => by omega
    · intro _ v' w' h1 h2
      have hown : OwnB w' w.heap.size v' (sb.data.toList ++ m) := by
        unfold OwnB
        rw [bytesV_append, List.length_append, hlb]
        exact h1
      refine h v' w' hown.src ?_ (hk.trans ((keep_grown h2).mono fun _ _ _ e => by cases e))
      intro k hk'
      have := hown.block_ge k hk'
      exact ⟨by omega, this.2⟩
end

set_option maxHeartbeats 2000000 in
set_option maxRecDepth 100000 in
theorem specChunk {w : World} (sb : ByteArray) (name : List UInt8) (hname : sb.data.toList = name) (hn4 : name.length = 4) (dv : Value) (data : List UInt8) (hd : Src w dv data) (hlen : data.length ≤ 536870912) :
    Calls Tryz.prog 20 #[.string sb, dv] w fun e w' => ∃ v, e = .returned v ∧ MadeB w w' v (chunkB name data) := by
  have hconv := run_bytes_of_string (P := Tryz.prog) w 9 23 5 sb Tryz.underlying9 Tryz.underlying23 Tryz.underlying5
  obtain ⟨cap, hcap⟩ : ∃ cap, cap = grownCap w sb.size 0 5 := ⟨_, rfl⟩
  rw [← hcap] at hconv
  have hsz4 : sb.size = 4 := by
    have h1 : sb.data.toList.length = sb.size := by simp
    rw [hname, hn4] at h1
    exact h1.symm
  have hle : sb.size ≤ cap := by rw [hcap]; exact grownCap_ge w _ _ _
  obtain ⟨ao, n, c, rfl, hn⟩ : ∃ ao n c, dv = .slice ao n c ∧ n = data.length := by
    rcases hd with ⟨rfl, rfl⟩ | ⟨b, o, n, c, rfl, hn, _⟩
    · exact ⟨none, 0, 0, rfl, rfl⟩
    · exact ⟨_, n, c, rfl, hn⟩
  have hnw : IntKind.u32.wrap (n : Int) = (n : Int) := IntWalk.u32_in _ (by omega)
  have HN := Lib.hid hn
  have HD := Lib.hid hd
  have HLE := Lib.hid hle
  have HS4 := Lib.hid hsz4
  have hnb : n ≤ 536870912 := by omega
  clear hd hcap hle hsz4 hn
  go_enter Tryz.func20, Tryz.ntmps20
  go_wp2_with (at_builtin; refine wpList_append_head rfl (.tmp 7) (.tmp 8) rfl sb cap HLE.out (by rw [HS4.out]; omega) rfl rfl (.slice ao n c) data rfl HD.out hlen ?_)
  intro v1 w1 hs1 hb1 hk1
  try rw [hname] at hs1
  obtain ⟨b, o, m, c', rfl, hm, hbody⟩ : ∃ b o m c', v1 = .slice (some ⟨b, o, none⟩) m c' ∧ m = (name ++ data).length ∧ BytesAt w1 b o (name ++ data) := by
    rcases hs1 with ⟨_, h⟩ | h
    · have := congrArg List.length h
      rw [List.length_append, hn4] at this
      simp at this
    · exact h
  have hbb := hb1 b rfl
  have hsz1 := hk1.size
  have HM := Lib.hid hm
  clear hs1 hb1 hm
  go_wp2_with (go_at_call 32; fail)
  refine (specFour w1 n (by omega)).mono ?_
  rintro e w2 ⟨g1, rfl, h2, hk2⟩
  have hg1 := h2.block_ge g1 rfl
  have hb2 := hbody.keep hk2 fun _ _ e => e
  have hsz2 := hk2.size
  have HLN := Lib.hid (show (name ++ data).length = 4 + data.length by rw [List.length_append, hn4])
  go_wp2_with (at_builtin; refine wpList_append_bytes rfl (.tmp 13) (.tmp 14) rfl w.heap.size _ (four n) rfl (h2.lower (by omega)) _ (name ++ data) rfl (Src.of HM.out hb2) (by rw [HLN.out, four_length]; omega) (by omega) ?_)
  intro v3 w3 h3 hk3 hv3
  have hb3 := hb2.keep hk3 fun _ _ e => by have e' : some g1 = some b := e; injection e' with e'; omega
  have K3 := Lib.hid (keep_append (hk1.trans hk2) (h2.lower (by omega)) hk3)
  have hsz3 := hk3.size
  go_wp2_with (go_at_call 14; fail)
  refine (specCrc (name ++ data) b o m c' HM.out hb3 (by rw [HLN.out]; omega)).mono ?_
  rintro e w4 ⟨rfl, rfl⟩
  go_wp2_with (go_at_call 32; fail)
  refine (specFour _ (crcOf (name ++ data)) (crcOf_lt _)).mono ?_
  rintro e w5 ⟨g5, rfl, h5, hk5⟩
  have hsz5 := hk5.size
  have h35 := h3.keep hk5 fun _ _ _ e => e
  go_wp2_with (at_builtin; refine wpList_append_bytes rfl (.tmp 15) (.tmp 18) rfl w.heap.size _ (four n ++ (name ++ data)) rfl h35 _ (four (crcOf (name ++ data))) rfl h5.src (by rw [List.length_append, HLN.out, four_length, four_length]; omega) (by omega) ?_)
  intro v6 w6 h6 hk6 hv6
  have K6 := Lib.hid (keep_append (K3.out.trans hk5) h35 hk6)
  clear hk6 hv6 hk3 hv3
  go_wp2
  go_ret
  refine ⟨_, rfl, ?_, K6.out⟩
  unfold chunkB
  rw [← HN.out]
  simpa [List.append_assoc] using h6
end Go.Proofs.YtnbbppjgamdfeaaGreatDoor
end

/- The reference's Kept. -/
section
set_option linter.unusedVariables false
set_option linter.unusedSimpArgs false
namespace Go.Proofs.YtnbbppjgamdfeaaGreatDoor
open Go Go.RowKit

theorem turn8 : ∀ x : Fin 256, bits BinOp.xor IntKind.u8 IntKind.u8.max (x.val : Int) = ((255 - x.val : Nat) : Int) := by decide +kernel
theorem turn8' (n : Nat) (h : n < 256) : bits BinOp.xor IntKind.u8 IntKind.u8.max (n : Int) = ((255 - n : Nat) : Int) := turn8 ⟨n, h⟩

set_option maxHeartbeats 2000000 in
set_option maxRecDepth 100000 in
theorem specKept {w : World} (l : List UInt8) (b o n c : Nat) (hn : n = l.length) (hb : BytesAt w b o l) (hl : l.length ≤ 65535) :
    Calls Tryz.prog 22 #[.slice (some ⟨b, o, none⟩) n c] w fun e w' => ∃ v, e = .returned v ∧ MadeB w w' v (keptB l) := by
  have HN := Lib.hid hn
  have hn2 : n ≤ 65535 := by omega
  have hsg : IntKind.u8.signed = false := rfl
  clear hn
  go_enter Tryz.func22, Tryz.ntmps22
  go_wp2_with (at_builtin; refine wpList_append_bytes rfl (.tmp 19) (.tmp 20) rfl w.heap.size _ [0x78, 1, 0, b8 l.length, b8 (l.length / 256), b8 (65535 - l.length), b8 ((65535 - l.length) / 256)] rfl ?h1 _ l rfl ?h2 (by simp; omega) (by simp) ?_)
  case h1 =>
    refine ownB_lit w _ _ 7 ?_ rfl (by omega)
    have e1 : (n : Int) % 256 = ((n % 256 : Nat) : Int) := by omega
    have e2 : (n : Int) / 256 = ((n / 256 : Nat) : Int) := by omega
    rw [e1, e2, turn8' _ (by omega), turn8' _ (by omega)]
    have hN := HN.out
    simp only [bytesV, List.map, b8_toNat]
    rw [← hN, show n / 256 % 256 = n / 256 by omega, show (65535 - n) % 256 = 255 - n % 256 by omega, show (65535 - n) / 256 % 256 = 255 - n / 256 by omega]
    rfl
  case h2 => exact Src.of HN.out (hb.keep ((Keep.refl Nil2 w).alloc _) fun _ _ e => e)
  intro v3 w3 h3 hk3 hv3
  have hs3 := hk3.size
  have K3 := Lib.hid (show Keep Nil2 w w3 from ((Keep.refl Nil2 w).alloc _).then hk3 (fun _ _ _ e => e) fun x _ hx e => by have e' : some w.heap.size = some x := e; injection e' with e'; omega)
  have hbase : w.heap.size ≤ w3.heap.size := K3.out.size
  clear hk3 hv3 hs3
  go_wp2_with (at_builtin; refine wpList_append_bytes rfl (.tmp 22) (.tmp 23) rfl w.heap.size v3 _ rfl (h3.alloc _) _ [3, 0] rfl (Src.lit w3 _ 2 _ rfl rfl (by omega)) (by simp; omega) (by simp; omega) ?_)
  intro v4 w4 h4 hk4 hv4
  have K4 := Lib.hid (keep_append (K3.out.alloc _) (h3.alloc _) hk4)
  have hbase4 : w.heap.size ≤ w4.heap.size := K4.out.size
  clear hk4 hv4 h3
  go_wp2_with (go_at_call 33; fail)
  refine (specAdler l b o n c HN.out (hb.keep K4.out fun _ _ e => e) (by omega)).mono ?_
  rintro e w5 ⟨rfl, rfl⟩
  go_wp2_with (go_at_call 32; fail)
  refine (specFour _ (adOf l) (by have := adM_lt (1, 0) l; unfold adOf adNum; omega)).mono ?_
  rintro e w5 ⟨g5, rfl, h5, hk5⟩
  have h45 := h4.keep hk5 fun _ _ _ e => e
  have hs5 := hk5.size
  go_wp2_with (at_builtin; refine wpList_append_bytes rfl (.tmp 25) (.tmp 28) rfl w.heap.size v4 _ rfl h45 _ (four (adOf l)) rfl h5.src (by simp [four_length]; omega) (by omega) ?_)
  intro v6 w6 h6 hk6 hv6
  have K6 := Lib.hid (keep_append (K4.out.trans hk5) h45 hk6)
  clear hk6 hv6
  go_wp2
  go_ret
  refine ⟨_, rfl, ?_, K6.out⟩
  unfold keptB
  simpa [List.append_assoc] using h6
end Go.Proofs.YtnbbppjgamdfeaaGreatDoor
end

/- Rows of values of the call's own: what lies in them; appending to them. -/
section
set_option linter.unusedVariables false
set_option linter.unusedSimpArgs false
namespace Go.Proofs.YtnbbppjgamdfeaaGreatDoor
open Go Go.RowKit

/-- Values lie in memory, one a cell. -/
def CellsAt (w : World) (b o : Nat) (xs : List Value) : Prop := ∀ j u, xs[j]? = some u → w.cell? ⟨b, o + j, none⟩ = some u
theorem CellsAt.keep {F : Nat → Nat → Prop} {w w' : World} {b o : Nat} {xs : List Value} (h : CellsAt w b o xs) (hk : Keep F w w') (hn : ∀ j, j < xs.length → ¬ F b (o + j)) : CellsAt w' b o xs :=
  fun j u hu => hk.get (h j u hu) (hn j (List.getElem?_eq_some_iff.1 hu).1)
theorem CellsAt.bytes {w : World} {b o : Nat} {l : List UInt8} (h : CellsAt w b o (bytesV l)) : BytesAt w b o l := fun j hj => h j _ (by simp [bytesV, hj])
theorem CellsAt.lit (w : World) (cs : Array Value) (e : TypeId) : CellsAt (w.alloc (.cells cs e)) w.heap.size 0 cs.toList := fun j u hu => by
  rw [Nat.zero_add, cell_of_row _ _ _ _ _ _ (heap_alloc_new w _)]
  rw [Array.getElem?_toList] at hu
  exact hu

/-- The slice value v owns n elements of type e (size cells each), in a block from base on: the cells xs. -/
def OwnV (e : TypeId) (size : Nat) (w : World) (base : Nat) (v : Value) (n : Nat) (xs : List Value) : Prop := w.ownsRow base e size v n xs
theorem OwnV.nil (e : TypeId) (size : Nat) (w : World) (base : Nat) : OwnV e size w base (.slice none 0 0) 0 [] := ⟨by simp, .inl ⟨rfl, rfl⟩⟩
theorem OwnV.lit {e : TypeId} {size : Nat} (w : World) (cs : Array Value) (n : Nat) (xs : List Value) (hcs : cs.toList = xs) (hn : xs.length = n * size) (hm : n ≤ 1073741824) : OwnV e size (w.alloc (.cells cs e)) w.heap.size (.slice (some ⟨w.heap.size, 0, none⟩) n n) n xs := by
  have hs : cs.size = n * size := by rw [← hn, ← hcs]; simp
  have := World.ownsRow_lit (base := w.heap.size) (e := e) (size := size) w cs n (Nat.le_refl _) (by unfold maxLen; omega) hs
  rw [hcs] at this
  exact this
section
variable {e : TypeId} {size : Nat} {w : World} {base : Nat} {v : Value} {n : Nat} {xs : List Value}
theorem OwnV.length (h : OwnV e size w base v n xs) : xs.length = n * size := h.1
theorem OwnV.keep {F : Nat → Nat → Prop} {w' : World} (h : OwnV e size w base v n xs) (hk : Keep F w w') (hn : ∀ k o, base ≤ k → ¬ F k o) : OwnV e size w' base v n xs := by
  refine ⟨h.1, ?_⟩
  rcases h.2 with h0 | ⟨g, cap, cur, hv, hb, hh, rest⟩
  · exact .inl h0
  · exact .inr ⟨g, cap, cur, hv, hb, hk.heap hh (fun o => hn g o hb), rest⟩
theorem OwnV.keep' {F : Nat → Nat → Prop} {w' : World} (h : OwnV e size w base v n xs) (hk : Keep F w w') (hn : ∀ k o, v.ownBlock = some k → ¬ F k o) : OwnV e size w' base v n xs := by
  refine ⟨h.1, ?_⟩
  rcases h.2 with h0 | ⟨g, cap, cur, hv, hb, hh, rest⟩
  · exact .inl h0
  · exact .inr ⟨g, cap, cur, hv, hb, hk.heap hh (fun o => hn g o (by rw [hv]; rfl)), rest⟩
theorem OwnV.keep0 {w' : World} (h : OwnV e size w base v n xs) (hk : Keep Nil2 w w') : OwnV e size w' base v n xs := h.keep hk fun _ _ _ e => e
theorem OwnV.alloc (h : OwnV e size w base v n xs) (x : Obj) : OwnV e size (w.alloc x) base v n xs := h.keep0 ((Keep.refl Nil2 w).alloc x)
theorem OwnV.lower {base' : Nat} (h : OwnV e size w base v n xs) (hb : base' ≤ base) : OwnV e size w base' v n xs := by
  refine ⟨h.1, ?_⟩
  rcases h.2 with h0 | ⟨g, cap, cur, hv, hg, rest⟩
  · exact .inl h0
  · exact .inr ⟨g, cap, cur, hv, by omega, rest⟩
theorem OwnV.block_ge (h : OwnV e size w base v n xs) (k : Nat) (hk : v.ownBlock = some k) : base ≤ k ∧ k < w.heap.size := by
  rcases h.2 with ⟨rfl, _⟩ | ⟨g, cap, cur, rfl, hb, hh, _⟩
  · cases hk
  · injection hk with e
    subst e
    exact ⟨hb, by rcases Nat.lt_or_ge g w.heap.size with h | h; exact h; rw [Array.getElem?_eq_none h] at hh; cases hh⟩
/-- The value is a slice; its cells lie in memory (nowhere, where there are none). -/
theorem OwnV.slice (h : OwnV e size w base v n xs) : (v = .slice none 0 0 ∧ n = 0 ∧ xs = []) ∨ ∃ g cap, v = .slice (some ⟨g, 0, none⟩) n cap ∧ base ≤ g ∧ n ≤ cap ∧ g < w.heap.size ∧ CellsAt w g 0 xs ∧ ∀ j, w.frozen? ⟨g, j, none⟩ = false := by
  rcases h.2 with ⟨rfl, h0⟩ | ⟨g, cap, cur, rfl, hb, hh, hc, hm, hs, ht⟩
  · have := h.1
    subst h0
    exact .inl ⟨rfl, rfl, List.length_eq_zero_iff.1 (by rw [this]; simp)⟩
  · refine .inr ⟨g, cap, rfl, hb, hc, (Array.getElem?_eq_some_iff.1 hh).1, fun j u hu => ?_, fun j => by simp [World.frozen?, hh]⟩
    rw [Nat.zero_add, cell_of_row w g j cur e (0, 0) hh]
    rw [← ht, List.getElem?_take] at hu
    split at hu
    · rw [Array.getElem?_toList] at hu; exact hu
    · cases hu
end
/-- The slice value v tells n elements, the cells xs. -/
def SrcV (w : World) (v : Value) (n : Nat) (xs : List Value) : Prop := (v = .slice none 0 0 ∧ n = 0 ∧ xs = []) ∨ ∃ b o c, v = .slice (some ⟨b, o, none⟩) n c ∧ CellsAt w b o xs
theorem OwnV.src {e : TypeId} {size : Nat} {w : World} {base : Nat} {v : Value} {n : Nat} {xs : List Value} (h : OwnV e size w base v n xs) : SrcV w v n xs := by
  rcases h.slice with h | ⟨g, cap, hv, _, _, _, hc, _⟩
  · exact .inl h
  · exact .inr ⟨g, 0, cap, hv, hc⟩
theorem SrcV.keep {F : Nat → Nat → Prop} {w w' : World} {v : Value} {n : Nat} {xs : List Value} (h : SrcV w v n xs) (hk : Keep F w w') (hn : ∀ k o, v.ownBlock = some k → ¬ F k o) : SrcV w' v n xs := by
  rcases h with h | ⟨b, o, c, rfl, hb⟩
  · exact .inl h
  · exact .inr ⟨b, o, c, rfl, hb.keep hk fun j _ => hn b (o + j) rfl⟩
theorem SrcV.of {w : World} {b o n c : Nat} {xs : List Value} (h : CellsAt w b o xs) : SrcV w (.slice (some ⟨b, o, none⟩) n c) n xs := .inr ⟨b, o, c, rfl, h⟩
/-- A literal that was laid just now. -/
theorem SrcV.lit (w : World) (cs : Array Value) (e : TypeId) (n : Nat) (xs : List Value) (h : cs.toList = xs) : SrcV (w.alloc (.cells cs e)) (.slice (some ⟨w.heap.size, 0, none⟩) n n) n xs := by
  have := CellsAt.lit w cs e
  rw [h] at this
  exact .of this

section
variable {w : World}
/-- append to a row of the call's own. -/
theorem wpList_append_vals {ops : Array Oper} {rest : List Oper} {o : Oper} {a : Act} {Q : Exit → Act → World → Prop} (hgd : o.guard = none) (s x : Operand) (t e : TypeId)
    (ho : o.op = .call { callee := .builtin .append, args := #[s, x], argTypes := #[t, t] }) (z : Value) (size bytes : Nat) (ht : Tryz.prog.underlying t = some (.slice e))
    (hinfo : (Tryz.prog.info? e).map (fun i => (i.zero, i.size, i.bytes)) = some (some z, size, bytes)) (hzs : z.cells.size = size) (hsz : 0 < size) (hby : bytes ≤ 1024)
    (base : Nat) (v : Value) (n : Nat) (xs : List Value) (hs : a.eval s = v) (hown : OwnV e size w base v n xs) (xv : Value) (m : Nat) (ys : List Value) (hx : a.eval x = xv) (hsrc : SrcV w xv m ys) (hl : ys.length = m * size)
    (h1 : ∀ u ∈ ys, u.oneCell' = true) (hlen : n + m ≤ 1073741824) (hbase : base ≤ w.heap.size)
    (h : ∀ v' w', OwnV e size w' base v' (n + m) (xs ++ ys) → Keep (fun k _ => v.ownBlock = some k) w w' → (v'.ownBlock = v.ownBlock ∨ v'.ownBlock = some w.heap.size) → wpList Tryz.prog ops Q rest (a.put o.dst v') w') :
    wpList Tryz.prog ops Q (o :: rest) a w := by
  obtain ⟨i, hi, hz, hsz', hby'⟩ := info_of (P := Tryz.prog) hinfo
  rcases hsrc with ⟨rfl, rfl, rfl⟩ | ⟨b, of, c, rfl, hb⟩
  · refine wpList_append_own_none hgd s x t ho base e i size ht hi v n xs hs hown hx ?_
    exact h v w (by rw [List.append_nil]; exact hown) (Keep.refl _ w) (.inl rfl)
  · refine wpList_append_own_at w hgd s x t ho base e i z size bytes ht hi hz hsz' hby' hzs hsz v n xs hs hown ⟨b, of, none⟩ m c ys hx hl ?_ h1 (by unfold maxLen; omega) ?_ hbase ?_
    · intro j u hu
      rw [addr_add]
      exact hb j u hu
    · have : (n + m) * bytes ≤ 1073741824 * 1024 := Nat.mul_le_mul hlen hby
      omega
    · intro v' w' h1 h2 _ h4
      exact h v' w' h1 (keep_grown h2) h4
end
theorem keep_appendV {e : TypeId} {size : Nat} {W w w' : World} {v : Value} {n : Nat} {xs : List Value} (h : Keep Nil2 W w) (hown : OwnV e size w W.heap.size v n xs) (hk : Keep (fun k _ => v.ownBlock = some k) w w') : Keep Nil2 W w' :=
  h.then hk (fun _ _ _ e => e) fun i o hi e => absurd (hown.block_ge i e).1 (by omega)
/-- Ints as values. -/
def intsV (l : List Nat) : List Value := l.map fun k : Nat => Value.int .i64 (k : Int)
theorem intsV_append (a b : List Nat) : intsV (a ++ b) = intsV a ++ intsV b := by simp [intsV]
theorem intsV_one (l : List Nat) : ∀ u ∈ intsV l, u.oneCell' = true := fun u hu => by
  simp only [intsV, List.mem_map] at hu
  obtain ⟨k, _, rfl⟩ := hu
  rfl
end Go.Proofs.YtnbbppjgamdfeaaGreatDoor
end

/- Appending in a region that draws its order: what was there stays. (The proof of run_append_own_still is that of the kit's run_append_own_at with one limb more.) -/
section
set_option linter.unusedVariables false
set_option linter.unusedSimpArgs false
namespace Go.Proofs.YtnbbppjgamdfeaaGreatDoor
open Go Go.RowKit

section
variable {P : Program} (w : World)
theorem run_append_own_still (base : Nat) (t ty e : TypeId) (i : TypeInfo) (z : Value) (size bytes : Nat) (ht : P.underlying t = some (.slice e)) (hi : P.info? e = some i) (hz : i.zero = some z)
    (hsize : i.size = size) (hby : i.bytes = bytes) (hzs : z.cells.size = size) (hsz : 0 < size)
    (v : Value) (n : Nat) (xs : List Value) (hown : w.ownsRow base e size v n xs)
    (a : Addr) (m c : Nat) (news : List Value) (hl : news.length = m * size) (hnews : ∀ j u, news[j]? = some u → w.cell? (a.add j) = some u) (h1 : ∀ u ∈ news, u.oneCell' = true)
    (h63 : n + m ≤ maxLen) (hbytes : (n + m) * bytes ≤ 140737488355328) (hbase : base ≤ w.heap.size) :
    ∃ v' w', (Builtin.append_ #[t, t] ty #[v, .slice (some a) m c]).run P w = .ok v' w' ∧ w'.ownsRow base e size v' (n + m) (xs ++ news) ∧ w.grownBy w' v.ownBlock ∧
      (v' = .slice none 0 0 ↔ v = .slice none 0 0 ∧ m = 0) ∧ (v'.ownBlock = v.ownBlock ∨ v'.ownBlock = some w.heap.size) ∧ w'.ownsRow base e size v n xs := by
  subst hsize
  subst hby
  have hsmall : n + m ≤ 9223372036854775807 := by simp only [maxLen] at h63; omega
  have hlen : (xs ++ news).length = (n + m) * i.size := by rw [List.length_append, hown.1, hl, Nat.add_mul]
  -- what the growing arm leaves, whatever was there before
  have grown : ∀ (old : Nat), old < n + m → ∀ (row : Option Nat),
      (w.drew.alloc (.cells (xs.toArray ++ news.toArray ++ Builtin.zeroCells z.cells (grownCap w (n + m) old e - (n + m))) e)).ownsRow base e i.size
        (.slice (some ⟨w.heap.size, 0, none⟩) (n + m) (grownCap w (n + m) old e)) (n + m) (xs ++ news) ∧
      w.grownBy (w.drew.alloc (.cells (xs.toArray ++ news.toArray ++ Builtin.zeroCells z.cells (grownCap w (n + m) old e - (n + m))) e)) row := by
    intro old ho row
    have hge := grownCap_ge w (n + m) old e
    have hcm : grownCap w (n + m) old e ≤ maxLen := grownCap_le_maxLen w (n + m) old e h63
    refine ⟨⟨hlen, .inr ⟨w.heap.size, _, _, rfl, hbase, heap_alloc_new w.drew _, hge, hcm, ?_, ?_⟩⟩, ⟨rfl, rfl, rfl, by simp, fun k hk _ => heap_alloc_old w.drew _ hk⟩⟩
    · simp only [Array.size_append, List.size_toArray, size_zeroCells, hzs, hown.1, hl, ← Nat.add_mul]
      congr 1
      omega
    · simp only [Array.toList_append, List.append_assoc]
      rw [← List.append_assoc, ← hlen]
      exact List.take_left
  rcases hown.2 with ⟨rfl, rfl⟩ | ⟨g, cap, cur, rfl, hbg, hg, hnc, hcm, hcs, htake⟩
  · have hx : xs = [] := List.eq_nil_of_length_eq_zero (by simpa using hown.1)
    subst hx
    by_cases hm : m = 0
    · subst hm
      have hn : news = [] := List.eq_nil_of_length_eq_zero (by simpa using hl)
      subst hn
      refine ⟨.slice none 0 0, w, ?_, World.ownsRow_nil w base e i.size, ⟨rfl, rfl, rfl, Nat.le_refl _, fun _ _ _ => rfl⟩, by simp, Or.inl rfl, World.ownsRow_nil w base e i.size⟩
      simp [Builtin.append_, run_underlying ht, sizeOf, typeInfo, hi, Builtin.lenOf, Builtin.firstCells, loadCells, loadCellsFrom]
    · have hr := run_append_nil (P := P) w t ty e i z ht hi hz a m c news hl hnews (by omega) (by omega) (by have hb := hbytes; simp only [Nat.zero_add] at hb; omega)
      have hgr := grown 0 (by omega) (Value.ownBlock (.slice none 0 0))
      simp only [Nat.zero_add, List.nil_append, Array.empty_append] at hgr ⊢
      exact ⟨_, _, hr, hgr.1, hgr.2, by simp [hm], Or.inr rfl, ⟨by simp, .inl ⟨rfl, rfl⟩⟩⟩
  · by_cases hroom : n + m ≤ cap
    · have hfit : n * i.size + news.length ≤ cur.size := by rw [hl, hcs, ← Nat.add_mul]; exact Nat.mul_le_mul_right _ hroom
      have hr := run_append_room (P := P) w t ty e i ht hi g n cap cur hg a m c news hl hnews h1 hroom hfit
      refine ⟨_, _, hr, ⟨hlen, .inr ⟨g, cap, _, rfl, hbg, setRow_heap w g cur _ e _ hg, hroom, hcm, ?_, ?_⟩⟩, ⟨rfl, rfl, rfl, by simp, fun k _ hk => setRow_other w g k _ (fun e => hk (by simp [Value.ownBlock, e]))⟩, by simp, Or.inl rfl, ⟨hown.1, .inr ⟨g, cap, _, rfl, hbg, setRow_heap w g cur _ e _ hg, hnc, hcm, ?_, ?_⟩⟩⟩
      · simp only [List.size_toArray, List.length_append, List.length_take, List.length_drop, Array.length_toList]
        omega
      · rw [htake, ← hlen]
        exact List.take_left
      · simp only [List.size_toArray, List.length_append, List.length_take, List.length_drop, Array.length_toList]
        omega
      · rw [htake, ← hown.1]
        show List.take xs.length (xs ++ news ++ _) = xs
        rw [List.append_assoc, List.take_left]
    · have holds : ∀ j u, xs[j]? = some u → w.cell? ((⟨g, 0, none⟩ : Addr).add j) = some u := hown.cells (g := g) rfl
      have hr := run_append_grow (P := P) w t ty e i z ht hi hz ⟨g, 0, none⟩ n cap xs hown.1 holds a m c news hl hnews (by omega) (by omega) (growslice_fits (by omega) hbytes)
      have hgr := grown cap (by omega) (Value.ownBlock (.slice (some ⟨g, 0, none⟩) n cap))
      exact ⟨_, _, hr, hgr.1, hgr.2, by simp, Or.inr rfl, ⟨hown.1, .inr ⟨g, cap, cur, rfl, hbg, (heap_alloc_old w.drew _ (Array.getElem?_eq_some_iff.1 hg).1).trans hg, hnc, hcm, hcs, htake⟩⟩⟩
end

section
variable {w : World}
/-- append to a row of the call's own, in a region that draws its order. -/
theorem step_append_vals {ops : Array Oper} {o : Oper} {a : Act} {K : Act → World → Prop} {Q : Exit → Act → World → Prop} {E : Prop} (hgd : o.guard = none) (s x : Operand) (t e : TypeId)
    (ho : o.op = .call { callee := .builtin .append, args := #[s, x], argTypes := #[t, t] }) (z : Value) (size bytes : Nat) (ht : Tryz.prog.underlying t = some (.slice e))
    (hinfo : (Tryz.prog.info? e).map (fun i => (i.zero, i.size, i.bytes)) = some (some z, size, bytes)) (hzs : z.cells.size = size) (hsz : 0 < size) (hby : bytes ≤ 1024)
    (base : Nat) (v : Value) (n : Nat) (xs : List Value) (hs : a.eval s = v) (hown : OwnV e size w base v n xs) (xb xo m c : Nat) (ys : List Value) (hx : a.eval x = .slice (some ⟨xb, xo, none⟩) m c) (hsrc : CellsAt w xb xo ys) (hl : ys.length = m * size)
    (h1 : ∀ u ∈ ys, u.oneCell' = true) (hlen : n + m ≤ 1073741824) (hbase : base ≤ w.heap.size)
    (h : ∀ v' w', OwnV e size w' base v' (n + m) (xs ++ ys) → Keep (fun k _ => v.ownBlock = some k) w w' → OwnV e size w' base v n xs → K (a.put o.dst v') w') :
    if Region.wanted o (yielded ops a.tmps) = true then Oper.wp Tryz.prog o a w K Q else E := by
  have hw : Region.wanted o (yielded ops a.tmps) = true := by simp [Region.wanted, hgd]
  rw [if_pos hw]
  obtain ⟨i, hi, hz, hsz', hby'⟩ := info_of (P := Tryz.prog) hinfo
  have hb : (n + m) * bytes ≤ 140737488355328 := by
    have : (n + m) * bytes ≤ 1073741824 * 1024 := Nat.mul_le_mul hlen hby
    omega
  obtain ⟨v', w', hr, h2, h3, _, _, h5⟩ := run_append_own_still (P := Tryz.prog) w base t o.type e i z size bytes ht hi hz hsz' hby' hzs hsz v n xs hown ⟨xb, xo, none⟩ m c ys hl (fun j u hu => by rw [addr_add]; exact hsrc j u hu) h1 (by unfold maxLen; omega) hb hbase
  unfold Oper.wp execOp
  simp only [ho, resolve, invoke, builtin, Sem.run_bind, Sem.run_pure, Result.andThen_ok, List.map_toArray, List.map_cons, List.map_nil, hs, hx, hr]
  exact h v' w' h2 (keep_grown h3) h5
/-- The same for bytes. -/
theorem step_append_bytes {ops : Array Oper} {o : Oper} {a : Act} {K : Act → World → Prop} {Q : Exit → Act → World → Prop} {E : Prop} (hgd : o.guard = none) (s x : Operand)
    (ho : o.op = .call { callee := .builtin .append, args := #[s, x], argTypes := #[23, 23] })
    (base : Nat) (v : Value) (l : List UInt8) (hs : a.eval s = v) (hown : OwnB w base v l) (xb xo n c : Nat) (m : List UInt8) (hx : a.eval x = .slice (some ⟨xb, xo, none⟩) n c) (hn : n = m.length) (hsrc : BytesAt w xb xo m) (hlen : l.length + m.length ≤ 1073741824) (hbase : base ≤ w.heap.size)
    (h : ∀ v' w', OwnB w' base v' (l ++ m) → Keep (fun k _ => v.ownBlock = some k) w w' → OwnB w' base v l → K (a.put o.dst v') w') :
    if Region.wanted o (yielded ops a.tmps) = true then Oper.wp Tryz.prog o a w K Q else E := by
  subst hn
  refine step_append_vals hgd s x 23 5 ho (.int .u8 0) 1 1 Tryz.underlying23 (by kernel_rfl) rfl (by decide) (by decide) base v l.length (bytesV l) hs hown xb xo m.length c (bytesV m) hx ?_ (by simp [length_bytesV]) (oneCell_bytesV m) hlen hbase ?_
  · intro j u hu
    obtain ⟨hj, rfl⟩ := getElem?_bytesV hu
    exact hsrc j hj
  · intro v' w' h1 h2 h3
    refine h v' w' ?_ h2 h3
    unfold OwnB
    rw [bytesV_append, List.length_append]
    exact h1
end
end Go.Proofs.YtnbbppjgamdfeaaGreatDoor
end

/- Appending in a region that draws its order, once more: where the new row lies is told, too. -/
section
set_option linter.unusedVariables false
set_option linter.unusedSimpArgs false
namespace Go.Proofs.YtnbbppjgamdfeaaGreatDoor
open Go Go.RowKit

/-- The new row lies where the old one lay, or in a new block. -/
def AtOld (w : World) (v v' : Value) : Prop := v'.ownBlock = v.ownBlock ∨ v'.ownBlock = some w.heap.size
section
variable {w : World}
theorem step_append_vals4 {ops : Array Oper} {o : Oper} {a : Act} {K : Act → World → Prop} {Q : Exit → Act → World → Prop} {E : Prop} (hgd : o.guard = none) (s x : Operand) (t e : TypeId)
    (ho : o.op = .call { callee := .builtin .append, args := #[s, x], argTypes := #[t, t] }) (z : Value) (size bytes : Nat) (ht : Tryz.prog.underlying t = some (.slice e))
    (hinfo : (Tryz.prog.info? e).map (fun i => (i.zero, i.size, i.bytes)) = some (some z, size, bytes)) (hzs : z.cells.size = size) (hsz : 0 < size) (hby : bytes ≤ 1024)
    (base : Nat) (v : Value) (n : Nat) (xs : List Value) (hs : a.eval s = v) (hown : OwnV e size w base v n xs) (xb xo m c : Nat) (ys : List Value) (hx : a.eval x = .slice (some ⟨xb, xo, none⟩) m c) (hsrc : CellsAt w xb xo ys) (hl : ys.length = m * size)
    (h1 : ∀ u ∈ ys, u.oneCell' = true) (hlen : n + m ≤ 1073741824) (hbase : base ≤ w.heap.size)
    (h : ∀ v' w', OwnV e size w' base v' (n + m) (xs ++ ys) → Keep (fun k _ => v.ownBlock = some k) w w' → OwnV e size w' base v n xs → AtOld w v v' → K (a.put o.dst v') w') :
    if Region.wanted o (yielded ops a.tmps) = true then Oper.wp Tryz.prog o a w K Q else E := by
  have hw : Region.wanted o (yielded ops a.tmps) = true := by simp [Region.wanted, hgd]
  rw [if_pos hw]
  obtain ⟨i, hi, hz, hsz', hby'⟩ := info_of (P := Tryz.prog) hinfo
  have hb : (n + m) * bytes ≤ 140737488355328 := by
    have : (n + m) * bytes ≤ 1073741824 * 1024 := Nat.mul_le_mul hlen hby
    omega
  obtain ⟨v', w', hr, h2, h3, _, h4, h5⟩ := run_append_own_still (P := Tryz.prog) w base t o.type e i z size bytes ht hi hz hsz' hby' hzs hsz v n xs hown ⟨xb, xo, none⟩ m c ys hl (fun j u hu => by rw [addr_add]; exact hsrc j u hu) h1 (by unfold maxLen; omega) hb hbase
  unfold Oper.wp execOp
  simp only [ho, resolve, invoke, builtin, Sem.run_bind, Sem.run_pure, Result.andThen_ok, List.map_toArray, List.map_cons, List.map_nil, hs, hx, hr]
  exact h v' w' h2 (keep_grown h3) h5 h4
theorem step_append_bytes4 {ops : Array Oper} {o : Oper} {a : Act} {K : Act → World → Prop} {Q : Exit → Act → World → Prop} {E : Prop} (hgd : o.guard = none) (s x : Operand)
    (ho : o.op = .call { callee := .builtin .append, args := #[s, x], argTypes := #[23, 23] })
    (base : Nat) (v : Value) (l : List UInt8) (hs : a.eval s = v) (hown : OwnB w base v l) (xb xo n c : Nat) (m : List UInt8) (hx : a.eval x = .slice (some ⟨xb, xo, none⟩) n c) (hn : n = m.length) (hsrc : BytesAt w xb xo m) (hlen : l.length + m.length ≤ 1073741824) (hbase : base ≤ w.heap.size)
    (h : ∀ v' w', OwnB w' base v' (l ++ m) → Keep (fun k _ => v.ownBlock = some k) w w' → OwnB w' base v l → AtOld w v v' → K (a.put o.dst v') w') :
    if Region.wanted o (yielded ops a.tmps) = true then Oper.wp Tryz.prog o a w K Q else E := by
  subst hn
  refine step_append_vals4 hgd s x 23 5 ho (.int .u8 0) 1 1 Tryz.underlying23 (by kernel_rfl) rfl (by decide) (by decide) base v l.length (bytesV l) hs hown xb xo m.length c (bytesV m) hx ?_ (by simp [length_bytesV]) (oneCell_bytesV m) hlen hbase ?_
  · intro j u hu
    obtain ⟨hj, rfl⟩ := getElem?_bytesV hu
    exact hsrc j hj
  · intro v' w' h1 h2 h3 h4
    refine h v' w' ?_ h2 h3 h4
    unfold OwnB
    rw [bytesV_append, List.length_append]
    exact h1
end
end Go.Proofs.YtnbbppjgamdfeaaGreatDoor
end
