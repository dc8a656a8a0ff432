/- laws.FnBack, part 3 of 54: B7 B8 D0. -/
import Derived.Test.YtnbbppjgamdfeaaGreatDoorY02
import Derived.Test.YtnbbppjgamdfeaaGreatDoorY01

/- bufio: Read with nothing buffered; Read of the stream. -/
section
set_option linter.unusedVariables false
set_option linter.unusedSimpArgs false
namespace Go.Proofs.YtnbbppjgamdfeaaGreatDoor
open Go Go.RowKit
attribute [local go_sem] min2_min min_two'

/-- Read's own answer over the stream. -/
def StrmRead (N : Nums) (D : List UInt8) (d : Dv) (s E c0 : Nat) (w : World) (R : List UInt8) (b o n : Nat) (e : Ending) (w' : World) : Prop :=
  ∃ k, 0 < k ∧ k ≤ n ∧ k ≤ R.length ∧ e = .returned (.tuple #[.int .i64 (k : Int), .nilIface]) ∧ (∃ i r v U, Strm N D d s E c0 w' (R.drop k) i r v U) ∧ BytesAt w' b o (R.take k) ∧ (∀ j, w'.frozen? ⟨b, j, none⟩ = w.frozen? ⟨b, j, none⟩) ∧
    Keep (fun x y => Fs N x y ∨ (x = b ∧ o ≤ y ∧ y < o + k)) w w'

/-- The decoder's Read under the stream, with nothing buffered: into block b. -/
theorem Strm.under {N : Nums} {D : List UInt8} {d : Dv} {s E c0 : Nat} {w : World} {R : List UInt8} {i r v : Nat} (h : Strm N D d s E c0 w R i r v []) (hR : 0 < R.length) (b o n c : Nat) (hn : 0 < n) (hc : n ≤ c) (room : RoomAt w b o n)
    (hb1 : ¬ Fp N.bd N.rb N.cb b 0 ∧ b ≠ N.db ∧ b ≠ 3) :
    Calls Tryz.prog 184 #[.pointer (some ⟨N.bd, 0, none⟩), .slice (some ⟨b, o, none⟩) n c] w fun e w' => ∃ k, 0 < k ∧ k ≤ n ∧ k ≤ R.length ∧ e = .returned (.tuple #[.int .i64 (k : Int), .nilIface]) ∧
      Png w' N.bd N.rb N.cb N.db N.cap D { d with idat := E - (i + k) } (i + k) (crcRun c0 ((D.drop s).take (i + k - s))) ∧ R.drop k = (D.drop (i + k)).take (E - (i + k)) ∧ i + k ≤ E ∧
      BytesAt w' b o (R.take k) ∧ (∀ j, w'.frozen? ⟨b, j, none⟩ = w.frozen? ⟨b, j, none⟩) ∧ Keep (fun x y => Fp N.bd N.rb N.cb x y ∨ (x = b ∧ o ≤ y ∧ y < o + k)) w w' := by
  have hr := h.rest
  rw [List.nil_append] at hr
  have hE := h.iE
  have hED := h.ED
  have hsi := h.si
  have hRl : R.length = E - i := by rw [hr]; simp; omega
  refine (decRead h.png b o n c hn (by show 0 < E - i; omega) (by show i + (E - i) ≤ _; omega) room hc hb1).mono ?_
  rintro e w' ⟨k, l, hk, hl, hll, rfl, hp, hb, hf, hkk⟩
  have hk' : k = min n (E - i) := hk
  have hl' : l = R.take k := by rw [hl, hr, List.take_take]; congr 1; omega
  refine ⟨k, by omega, by omega, by omega, rfl, ?_, ?_, by omega, by rw [← hl']; exact hb, hf, hkk⟩
  · have e1 : E - (i + k) = E - i - k := by omega
    rw [e1, take_run D s i k hsi, crcRun_append, ← hl]
    exact hp
  · rw [hr, List.drop_take, List.drop_drop]; congr 1; omega

theorem Fp_Fs {N : Nums} {x y : Nat} (e : Fp N.bd N.rb N.cb x y) : Fs N x y := e.imp id fun e => e.imp id Or.inl
theorem ub_Fs (N : Nums) (y : Nat) : Fs N N.ub y := .inr (.inr (.inr (.inl rfl)))
theorem kb_Fs (N : Nums) (y : Nat) : Fs N N.kb y := .inr (.inr (.inr (.inr rfl)))
/-- The stream after a read under it. -/
theorem Strm.mk' {N : Nums} {D : List UInt8} {d : Dv} {s E c0 : Nat} {w w2 w3 : World} {R : List UInt8} {i r v k r' v' : Nat} {U : List UInt8} (h : Strm N D d s E c0 w R i r v [])
    (hp : Png w2 N.bd N.rb N.cb N.db N.cap D { d with idat := E - (i + k) } (i + k) (crcRun c0 ((D.drop s).take (i + k - s)))) (hi : i + k ≤ E) (hk : Keep (fun x _ => x = N.ub ∨ x = N.kb) w2 w3) (hB : Bufio w3 N.ub N.kb N.bd r' v' U) {R' : List UInt8}
    (hr : R' = U ++ (D.drop (i + k)).take (E - (i + k))) : Strm N D d s E c0 w3 R' (i + k) r' v' U :=
  ⟨hp.keep0 hk (fun _ e => e.elim (fun e => h.b1.1 (.inl e.symm)) fun e => h.b2.1 (.inl e.symm)) (fun _ e => e.elim (fun e => h.b1.1 (.inr (.inl e.symm))) fun e => h.b2.1 (.inr (.inl e.symm)))
    (fun _ e => e.elim (fun e => h.b1.1 (.inr (.inr e.symm))) fun e => h.b2.1 (.inr (.inr e.symm))) (fun _ e => e.elim (fun e => h.b1.2.1 e.symm) fun e => h.b2.2.1 e.symm) (fun _ e => e.elim (fun e => h.b1.2.2 e.symm) fun e => h.b2.2.2 e.symm),
   hB, by have := h.si; omega, hi, h.ED, hr, h.b1, h.b2⟩

theorem Strm.re {N : Nums} {D : List UInt8} {d : Dv} {s E c0 : Nat} {w w3 : World} {R R' : List UInt8} {i r v r' v' : Nat} {U U' : List UInt8} (h : Strm N D d s E c0 w R i r v U)
    (hk : Keep (fun x _ => x = N.ub ∨ x = N.kb) w w3) (hB : Bufio w3 N.ub N.kb N.bd r' v' U') (hr : R' = U' ++ (D.drop i).take (E - i)) : Strm N D d s E c0 w3 R' i r' v' U' :=
  ⟨h.png.keep0 hk (fun _ e => e.elim (fun e => h.b1.1 (.inl e.symm)) fun e => h.b2.1 (.inl e.symm)) (fun _ e => e.elim (fun e => h.b1.1 (.inr (.inl e.symm))) fun e => h.b2.1 (.inr (.inl e.symm)))
    (fun _ e => e.elim (fun e => h.b1.1 (.inr (.inr e.symm))) fun e => h.b2.1 (.inr (.inr e.symm))) (fun _ e => e.elim (fun e => h.b1.2.1 e.symm) fun e => h.b2.2.1 e.symm) (fun _ e => e.elim (fun e => h.b1.2.2 e.symm) fun e => h.b2.2.2 e.symm),
   hB, h.si, h.iE, h.ED, hr, h.b1, h.b2⟩

set_option maxHeartbeats 4000000 in
set_option maxRecDepth 100000 in
theorem bufRead1 {N : Nums} {D : List UInt8} {d : Dv} {s E c0 : Nat} {w : World} {R : List UInt8} {i r v : Nat} (h : Strm N D d s E c0 w R i r v []) (hR : 0 < R.length) (b o n c : Nat) (hn : 4096 ≤ n) (hn2 : n ≤ 2147483648) (hc : n ≤ c) (room : RoomAt w b o n) (hb : OkS N b) :
    Calls Tryz.prog 241 #[.pointer (some ⟨N.ub, 0, none⟩), .slice (some ⟨b, o, none⟩) n c] w (StrmRead N D d s E c0 w R b o n) := by
  have h0 := h.buf.u0
  have h1 := h.buf.u1
  have h2 := h.buf.u2
  have h3 := h.buf.u3
  have h4 := h.buf.u4
  have hfz := h.buf.fz
  have he : v = r := by have := h.buf.end_; simpa using this
  subst he
  have hle := h.buf.le
  have hn0 : ((n : Int) == 0) = false := by simp; omega
  have hn1 : decide (4096 ≤ (n : Int)) = true := by simp; omega
  go_enter Tryz.func241, Tryz.ntmps241
  go_wp2
  go_quiet (fail)
  have hD : Strm N D d s E c0 (w.drewN nq) R i v v [] := h.keep ((Keep.refl Nil2 w).drewN nq) (fun _ _ e => e.elim)
  have hrm : RoomAt (w.drewN nq) b o n := room
  have hk1 : Keep Nil2 w (w.drewN nq) := (Keep.refl _ w).drewN nq
  have hf1 : ∀ j, (w.drewN nq).frozen? ⟨b, j, none⟩ = w.frozen? ⟨b, j, none⟩ := fun j => by simp
  go_wp2_with (go_at_call 184; fail)
  refine (hD.under hR b o n c (by omega) hc hrm hb.1).mono ?_
  rintro e w2 ⟨k, hk0, hkn, hkR, rfl, hp, hrest, hiE, hb2, hf2, hk2⟩
  have hB2 : Bufio w2 N.ub N.kb N.bd v v [] := hD.buf.keep hk2 (fun _ e => e.elim h.b1.1 fun e => hb.2.1 e.1.symm) (fun _ e => e.elim h.b2.1 fun e => hb.2.2 e.1.symm)
  have hB24 := hB2.u4
  have hBz := hB2.fz
  obtain ⟨q5, hB25⟩ := hB2.u5
  obtain ⟨q6, hB26⟩ := hB2.u6
  have hkpos : decide ((k : Int) < 0) = false := by simp
  have hkpos2 : decide ((0 : Int) < (k : Int)) = true := by simp; omega
  have hkw : IntKind.i64.wrap ((k : Int) - 1) = ((k - 1 : Nat) : Int) := by rw [IntWalk.i64_in _ (by omega)]; omega
  have hkn' : ((k - 1 : Nat) : Int) < (n : Int) := by omega
  have hx : ∃ x : UInt8, w2.cell? ⟨b, o + (k - 1), none⟩ = some (.int .u8 (x.toNat : Int)) := ⟨_, hb2 (k - 1) (by simp; omega)⟩
  obtain ⟨x, hx⟩ := hx
  have hx8 := x.toNat_lt
  have hbu : ¬ b = N.ub := hb.2.1
  have hbu' : ¬ N.ub = b := fun e => hb.2.1 e.symm
  have HF2 := Lib.hid hf2
  clear hf2
  have HF1 := Lib.hid hf1
  clear hf1
  go_wp2_with (go_at_call 246; fail)
  refine (readErr ?h4 ?hz).mono ?_
  case h4 => go_simp
  case hz => go_simp
  rintro e w3 ⟨rfl, rfl⟩
  go_wp2
  go_ret2
  have hk3 : Keep (fun x _ => x = N.ub) w2 ((((w2.setCell ⟨N.ub, 4, none⟩ .nilIface).setCell ⟨N.ub, 5, none⟩ (.int .i64 (x.toNat : Int))).setCell ⟨N.ub, 6, none⟩ (.int .i64 (-1))).setCell ⟨N.ub, 4, none⟩ .nilIface) :=
    ((((Keep.refl (fun x _ => x = N.ub) w2).setCell _ fun _ => rfl).setCell _ fun _ => rfl).setCell _ fun _ => rfl).setCell _ fun _ => rfl
  refine ⟨k, hk0, hkn, hkR, rfl, ⟨i + k, v, v, [], h.mk' hp hiE (hk3.mono fun _ _ _ e => Or.inl e) (((hB2.set4.set5 _).set6 _).set4) (by rw [hrest]; rfl)⟩, hb2.keep hk3 fun _ _ e => hbu e, ?_, ?_⟩
  · intro j
    rw [World.frozen?_setCell, World.frozen?_setCell, World.frozen?_setCell, World.frozen?_setCell, HF2.out, HF1.out]
  · refine (hk1.then (F := fun x y => Fs N x y ∨ (x = b ∧ o ≤ y ∧ y < o + k)) (hk2.then (F := fun x y => Fs N x y ∨ (x = b ∧ o ≤ y ∧ y < o + k)) hk3 (fun _ _ _ e => e.imp Fp_Fs id) ?_) (fun _ _ _ e => e.elim) fun _ _ _ e => e)
    rintro x y _ rfl
    exact .inl (ub_Fs _ _)

/-- The buffer was read into: as an empty one. -/
theorem Bufio.over {w w1 : World} {ub kb bd : Nat} {F : Nat → Nat → Prop} {l : List UInt8} (h : Bufio w ub kb bd 0 0 []) (hk : Keep F w w1) (h1 : ∀ y, ¬ F ub y) (h2 : ∀ y, F kb y → 0 ≤ y ∧ y < 0 + l.length) (hb : BytesAt w1 kb 0 l) (hf : ∀ j, w1.frozen? ⟨kb, j, none⟩ = w.frozen? ⟨kb, j, none⟩) :
    Bufio w1 ub kb bd 0 0 [] := by
  obtain ⟨q5, h5⟩ := h.u5
  obtain ⟨q6, h6⟩ := h.u6
  exact ⟨hk.get h.u0 (h1 _), hk.get h.u1 (h1 _), hk.get h.u2 (h1 _), hk.get h.u3 (h1 _), hk.get h.u4 (h1 _), ⟨q5, hk.get h5 (h1 _)⟩, ⟨q6, hk.get h6 (h1 _)⟩, fun j => hk.froz h.lt (h.fz j) (h1 j), fun i hi => by simp at hi, h.room.after hk h2 hb hf, rfl, by omega, h.ne⟩

set_option maxHeartbeats 8000000 in
set_option maxRecDepth 100000 in
theorem bufRead2 {N : Nums} {D : List UInt8} {d : Dv} {s E c0 : Nat} {w : World} {R : List UInt8} {i r v : Nat} (h : Strm N D d s E c0 w R i r v []) (hR : 0 < R.length) (b o n c : Nat) (hn0 : 0 < n) (hn : n < 4096) (hc : n ≤ c) (room : RoomAt w b o n) (hb : OkS N b) :
    Calls Tryz.prog 241 #[.pointer (some ⟨N.ub, 0, none⟩), .slice (some ⟨b, o, none⟩) n c] w (StrmRead N D d s E c0 w R b o n) := by
  have h0 := h.buf.u0
  have h1 := h.buf.u1
  have h2 := h.buf.u2
  have h3 := h.buf.u3
  have h4 := h.buf.u4
  have hfz := h.buf.fz
  have he : v = r := by have := h.buf.end_; simpa using this
  subst he
  have hle := h.buf.le
  have hn0' : ((n : Int) == 0) = false := by simp; omega
  have hn1 : decide (4096 ≤ (n : Int)) = false := by simp; omega
  go_enter Tryz.func241, Tryz.ntmps241
  go_wp2
  go_quiet (fail)
  have hz : Bufio (((w.drewN nq).setCell ⟨N.ub, 2, none⟩ (.int .i64 0)).setCell ⟨N.ub, 3, none⟩ (.int .i64 0)) N.ub N.kb N.bd 0 0 [] := (h.buf.drewN nq).zero
  have hkz : Keep (fun x _ => x = N.ub) w (((w.drewN nq).setCell ⟨N.ub, 2, none⟩ (.int .i64 0)).setCell ⟨N.ub, 3, none⟩ (.int .i64 0)) :=
    (((Keep.refl (fun x _ => x = N.ub) w).drewN nq).setCell _ fun _ => rfl).setCell _ fun _ => rfl
  go_wp2
  obtain ⟨w1, hw1⟩ : ∃ w1, w1 = ((w.drewN nq).setCell ⟨N.ub, 2, none⟩ (.int .i64 0)).setCell ⟨N.ub, 3, none⟩ (.int .i64 0) := ⟨_, rfl⟩
  rw [← hw1] at hz hkz ⊢
  have hf1 : ∀ j, w1.frozen? ⟨b, j, none⟩ = w.frozen? ⟨b, j, none⟩ := fun j => by rw [hw1]; simp
  have hS1 : Strm N D d s E c0 w1 R i 0 0 [] := h.re (hkz.mono fun _ _ _ e => .inl e) hz h.rest
  have room1 : RoomAt w1 b o n := room.keep hkz fun _ _ e => hb.2.1 e
  have h01 := hz.u0
  have h11 := hz.u1
  have hrd : Calls Tryz.prog 184 #[.pointer (some ⟨N.bd, 0, none⟩), .slice (some ⟨N.kb, 0, none⟩) 4096 4096] (w1.drewN 1) fun e w' => ∃ k, 0 < k ∧ k ≤ 4096 ∧ k ≤ R.length ∧ e = .returned (.tuple #[.int .i64 (k : Int), .nilIface]) ∧
      Png w' N.bd N.rb N.cb N.db N.cap D { d with idat := E - (i + k) } (i + k) (crcRun c0 ((D.drop s).take (i + k - s))) ∧ R.drop k = (D.drop (i + k)).take (E - (i + k)) ∧ i + k ≤ E ∧
      BytesAt w' N.kb 0 (R.take k) ∧ (∀ j, w'.frozen? ⟨N.kb, j, none⟩ = w1.frozen? ⟨N.kb, j, none⟩) ∧ Keep (fun x y => Fp N.bd N.rb N.cb x y ∨ (x = N.kb ∧ 0 ≤ y ∧ y < 0 + k)) w1 w' := by
    refine ((hS1.keep ((Keep.refl Nil2 w1).drewN 1) (fun _ _ e => e.elim)).under hR N.kb 0 4096 4096 (by omega) (by omega) (hz.drewN 1).room h.b2).mono ?_
    rintro e w' ⟨k, a1, a2, a3, a4, a5, a6, a7, a8, a9, a10⟩
    exact ⟨k, a1, a2, a3, a4, a5, a6, a7, a8, a9, ((Keep.refl _ w1).drewN 1).trans a10⟩
  have HF1 := Lib.hid hf1
  have hne := hz.ne
  have h41 := hz.u4
  have hubk : ∀ k y, ¬ (Fp N.bd N.rb N.cb N.ub y ∨ (N.ub = N.kb ∧ 0 ≤ y ∧ y < 0 + k)) := fun k y e => e.elim h.b1.1 fun e => hne e.1
  clear hf1 hw1 h0 h1 h2 h3 h4 hfz
  go_region_held3 (fun w' => w'.cell? ⟨N.ub, 0, none⟩ = some (.slice (some ⟨N.kb, 0, none⟩) 4096 4096) ∧ w'.cell? ⟨N.ub, 1, none⟩ = some (.iface 90 (.pointer (some ⟨N.bd, 0, none⟩))))
    (first | go_keep | exact ⟨hk2.get h01 (hubk k 0), hk2.get h11 (hubk k 1)⟩ | exact ⟨setF (hk2.get h01 (hubk k 0)) (by decide), setF (hk2.get h11 (hubk k 1)) (by decide)⟩)
    (first | (go_at_call 184; refine hrd.mono ?_; rintro e w2 ⟨k, hk0, hkn, hkR, rfl, hp, hrest, hiE, hb2, hf2, hk2⟩; have h42 := hk2.get h41 (hubk k 4); have hz2 : ∀ j, w2.frozen? ⟨N.ub, j, none⟩ = false := fun j => hk2.froz hz.lt (hz.fz j) (hubk k j)))
  have hlk : (R.take k).length = k := by simp; omega
  have hB3 := (hz.over (l := R.take k) hk2 (hubk k) (fun y e => by rw [hlk]; exact e.elim (fun e => (h.b2.1 e).elim) fun e => e.2) hb2 hf2).set4
  have hb3 := hb2.keep (keep_setCell w2 N.ub 4 .nilIface) fun _ _ e => hne e.1.symm
  have hB4 := hB3.filled (Keep.refl Nil2 _) (fun _ e => e) (fun _ e => e.elim) hb3 (fun _ => rfl) (by omega)
  rw [hlk] at hB4
  have hkb2 : ∀ y, ¬ (Fp N.bd N.rb N.cb b y ∨ (b = N.kb ∧ 0 ≤ y ∧ y < 0 + k)) := fun y e => e.elim hb.1.1 fun e => hb.2.2 e.1
  have hfb2 : ∀ j, j < n → ((w2.setCell ⟨N.ub, 4, none⟩ .nilIface).setCell ⟨N.ub, 3, none⟩ (.int .i64 (k : Int))).frozen? ⟨b, o + j, none⟩ = false := fun j hj => by
    rw [World.frozen?_setCell, World.frozen?_setCell]
    exact hk2.froz (room1.lt (by omega)) (room1 j hj).2 (hkb2 _)
  have hB33 := hB3.u3
  have hB3z := hB3.fz
  have hk0' : decide ((k : Int) < 0) = false := by simp
  have hk0'' : ((k : Int) == 0) = false := by simp; omega
  have hkw : IntKind.i64.wrap (k : Int) = (k : Int) := IntWalk.i64_in _ (by omega)
  go_wp2
  obtain ⟨w4, hw4⟩ : ∃ w4, w4 = (w2.setCell ⟨N.ub, 4, none⟩ .nilIface).setCell ⟨N.ub, 3, none⟩ (.int .i64 (k : Int)) := ⟨_, rfl⟩
  rw [← hw4] at hB4 hfb2 ⊢
  have hk4 : Keep (fun x _ => x = N.ub) w2 w4 := by
    rw [hw4]
    exact ((Keep.refl (fun x _ => x = N.ub) w2).setCell _ fun _ => rfl).setCell _ fun _ => rfl
  have hf4 : ∀ j, w4.frozen? ⟨b, j, none⟩ = w2.frozen? ⟨b, j, none⟩ := fun j => by rw [hw4, World.frozen?_setCell, World.frozen?_setCell]
  have hp4 : Strm N D d s E c0 w4 R (i + k) 0 k (R.take k) := h.mk' hp hiE (hk4.mono fun _ _ _ e => .inl e) hB4 (by rw [← hrest, List.take_append_drop])
  have room4 : RoomAt w4 b o n := fun j hj => by
    obtain ⟨⟨x, hx⟩, _⟩ := room1 j hj
    exact ⟨⟨x, hk4.get (hk2.get hx (hkb2 _)) fun e => hb.2.1 e⟩, hfb2 j hj⟩
  have HF4 := Lib.hid hf4
  have HF2 := Lib.hid hf2
  have h04 := hB4.u0
  have h24 := hB4.u2
  have h34 := hB4.u3
  have hkI : (k : Int) ≤ 4096 := by omega
  clear hw4 hf4 hf2 hB33 hB3z h42 hz2 h41 h01 h11 hB3 hb3 hk0' hk0'' hkw
  go_still_tail 14, (by kernel_rfl)
  change wpList _ _ _ _ _ w4.drew
  have hl : ((R.take k).take n).length = Nat.min k n := by simp [Nat.min_comm]; omega
  refine wpList_copy_bytes rfl (.tmp 109) (.tmp 122) 23 23 rfl 5 Tryz.underlying23 (by kernel_rfl) b o n c N.kb 0 k 4096 rfl rfl ((R.take k).take n) hl ?c2 ?c3 ?_
  case c2 => exact hB4.data.take n
  case c3 => exact fun j hj => room4 j (by simp at hj; omega)
  intro w5 hk5 hb5 hf5
  obtain ⟨m, HM⟩ : ∃ m, m = ((R.take k).take n).length := ⟨_, rfl⟩
  have hkk : Keep (fun x y => x = b ∧ o ≤ y ∧ y < o + m) w4 w5 := by rw [HM]; exact (Keep.refl _ _).drew.trans hk5
  rw [← HM]
  have hmk : m ≤ k := by rw [HM]; simp; omega
  have hm0 : 0 < m := by rw [HM]; simp; omega
  have hmm : m = min n k := by rw [HM]; simp; omega
  have hS5 : Strm N D d s E c0 w5 R (i + k) 0 k (R.take k) := hp4.keep hkk fun x y e => by rw [e.1]; exact hb
  have hB5 := hS5.buf
  have h25 := hB5.u2
  have hfz5 := hB5.fz
  have HMM := Lib.hid hmm
  have HMH := Lib.hid HM
  have HF5 := Lib.hid hf5
  clear hmm HM hl hf5 h04 h24 h34
  go_wp2
  have hmU : m ≤ (R.take k).length := by omega
  have hB6 := hB5.set2 m hmU
  have hd6 := hB5.dSet 2 (.int .i64 ((0 + m : Nat) : Int))
  rw [show ((0 + m : Nat) : Int) = (m : Int) by omega] at hB6 hd6
  obtain ⟨w6, hw6⟩ : ∃ w6, w6 = w5.setCell ⟨N.ub, 2, none⟩ (.int .i64 (m : Int)) := ⟨_, rfl⟩
  rw [← hw6] at hB6 hd6 ⊢
  have hk6 : Keep (fun x y => x = N.ub) w5 w6 := by rw [hw6]; exact (keep_setCell _ _ _ _).mono fun _ _ _ e => e.1
  have hf6 : ∀ j, w6.frozen? ⟨b, j, none⟩ = w5.frozen? ⟨b, j, none⟩ := fun j => by rw [hw6, World.frozen?_setCell]
  have h06 := hB6.u0
  have h26 := hB6.u2
  have hfz6 := hB6.fz
  obtain ⟨q5, h56⟩ := hB6.u5
  obtain ⟨q6, h66⟩ := hB6.u6
  have hx : ∃ x : UInt8, w6.cell? ⟨N.kb, m - 1, none⟩ = some (.int .u8 (x.toNat : Int)) := by
    have := hd6 (m - 1) (by omega)
    rw [show 0 + (m - 1) = m - 1 by omega] at this
    exact ⟨_, this⟩
  obtain ⟨x, hx⟩ := hx
  have HF6 := Lib.hid hf6
  clear hf6 hw6 h25 hfz5 hd6
  rw [show ((0 + m : Nat) : Int) = (m : Int) by omega] at h26
  have hw27 : IntKind.i64.wrap ((m : Int) - 1) = ((m - 1 : Nat) : Int) := by rw [IntWalk.i64_in _ (by omega)]; omega
  have hltc : ((m - 1 : Nat) : Int) < 4096 := by omega
  have hx8 := x.toNat_lt
  go_still_tail 15, (by kernel_rfl)
  change wpList _ _ _ _ _ w6.drew
  go_wp2
  go_ret2
  have hk7 : Keep (fun x y => x = N.ub) w6 ((w6.setCell ⟨N.ub, 5, none⟩ (.int .i64 (x.toNat : Int))).setCell ⟨N.ub, 6, none⟩ (.int .i64 (-1))).drew :=
    (((Keep.refl (fun x y => x = N.ub) w6).setCell _ fun _ => rfl).setCell _ fun _ => rfl).drew
  have hk57 := hk6.trans hk7
  have hme := HMM.out
  have eT : (R.take k).take n = R.take m := by rw [List.take_take]; congr 1; omega
  refine ⟨m, hm0, by omega, by omega, rfl, ⟨i + k, 0 + m, k, (R.take k).drop m, hS5.re (hk57.mono fun _ _ _ e => .inl e) (((hB6.set5 _).set6 _).drewN 1) ?_⟩, ?_, ?_, ?_⟩
  · have e := (List.take_append_drop (k - m) (R.drop m)).symm
    rw [List.drop_drop, show m + (k - m) = k by omega] at e
    rw [← hrest, List.drop_take]
    exact e
  · rw [← eT]
    exact hb5.keep hk57 fun _ _ e => hb.2.1 e
  · intro j
    rw [World.frozen?_drew, World.frozen?_setCell, World.frozen?_setCell, HF6.out, HF5.out, World.frozen?_drew, HF4.out, ← HF1.out]
    exact hk2.frozen b j (room1.lt (by omega)) (hkb2 _)
  · refine ((hkz.mono fun x y _ e => ?_).trans ((hk2.mono fun x y _ e => ?_).trans ((hk4.mono fun x y _ e => ?_).trans ((hkk.mono fun x y _ e => ?_).trans (hk57.mono fun x y _ e => ?_)))))
    · rw [e]; exact .inl (ub_Fs _ _)
    · exact .inl (e.elim Fp_Fs fun e => e.1 ▸ kb_Fs _ _)
    · rw [e]; exact .inl (ub_Fs _ _)
    · exact .inr e
    · rw [e]; exact .inl (ub_Fs _ _)

/-- Read of the stream: some bytes of it. -/
theorem bufRead {N : Nums} {D : List UInt8} {d : Dv} {s E c0 : Nat} {w : World} {R : List UInt8} {i r v : Nat} {U : List UInt8} (h : Strm N D d s E c0 w R i r v U) (hR : 0 < R.length) (b o n c : Nat) (hn0 : 0 < n) (hn2 : n ≤ 2147483648) (hc : n ≤ c) (room : RoomAt w b o n) (hb : OkS N b) :
    Calls Tryz.prog 241 #[.pointer (some ⟨N.ub, 0, none⟩), .slice (some ⟨b, o, none⟩) n c] w (StrmRead N D d s E c0 w R b o n) := by
  match U, h with
  | [], h =>
    by_cases hn : 4096 ≤ n
    · exact bufRead1 h hR b o n c hn hn2 hc room hb
    · exact bufRead2 h hR b o n c hn0 (by omega) hc room hb
  | u :: U, h =>
    refine (bufRead0 h.buf (by simp) b o n c hn0 room hb.2.1 hb.2.2).mono ?_
    rintro e w' ⟨k, hk, rfl, hB, hb1, hf1, hk1⟩
    have hr := h.rest
    have hl : R.length = (u :: U).length + ((D.drop i).take (E - i)).length := by rw [hr]; simp only [List.length_append]
    have hkU : k ≤ (u :: U).length := by omega
    have hk0 : 0 < k := by simp at hk; omega
    have hkp : Keep (fun x y => x = N.ub ∨ (x = b ∧ o ≤ y ∧ y < o + k)) w w' := hk1
    refine ⟨k, hk0, by omega, by omega, rfl, ⟨i, r + k, v, (u :: U).drop k, ⟨h.png.keep0 hkp ?_ ?_ ?_ ?_ ?_, hB, h.si, h.iE, h.ED, ?_, h.b1, h.b2⟩⟩, ?_, hf1, hkp.mono fun x y _ e => e.imp (fun e => by rw [e]; exact ub_Fs _ _) id⟩
    · exact fun _ e => e.elim (fun e => h.b1.1 (.inl e.symm)) fun e => hb.1.1 (.inl e.1.symm)
    · exact fun _ e => e.elim (fun e => h.b1.1 (.inr (.inl e.symm))) fun e => hb.1.1 (.inr (.inl e.1.symm))
    · exact fun _ e => e.elim (fun e => h.b1.1 (.inr (.inr e.symm))) fun e => hb.1.1 (.inr (.inr e.1.symm))
    · exact fun _ e => e.elim (fun e => h.b1.2.1 e.symm) fun e => hb.1.2.1 e.1.symm
    · exact fun _ e => e.elim (fun e => h.b1.2.2 e.symm) fun e => hb.1.2.2 e.1.symm
    · rw [hr, List.drop_append_of_le_length hkU]
    · rw [hr, List.take_append_of_le_length hkU]; exact hb1

/-- What ReadFull asks of a reader: the buffered one over the stream. -/
theorem rdrBuf (N : Nums) (D : List UInt8) (d : Dv) (s E c0 : Nat) (hD : D.length ≤ 1073741824) : Rdr 252 ⟨N.ub, 0, none⟩ 241 (fun w R => ∃ i r v U, Strm N D d s E c0 w R i r v U) (Fs N) (OkS N) where
  nilA := fun w => by kernel_rfl
  meth := fun w => by kernel_rfl
  call := fun args w => by kernel_rfl
  draw := fun w R n ⟨i, r, v, U, h⟩ => ⟨i, r, v, U, h.keep ((Keep.refl Nil2 w).drewN n) (fun _ _ e => e.elim)⟩
  ok := fun b h y e => by
    rcases e with e | e | e | e | e
    · exact h.1.1 (.inl e)
    · exact h.1.1 (.inr (.inl e))
    · exact h.1.1 (.inr (.inr e))
    · exact h.2.1 e
    · exact h.2.2 e
  read := fun w R b o n c ⟨i, r, v, U, h⟩ hn hl hc room hok => by
    have hr := h.rest
    have hle := h.buf.le
    have he := h.buf.end_
    have hl2 : R.length = U.length + ((D.drop i).take (E - i)).length := by rw [hr]; simp only [List.length_append]
    have hl3 : ((D.drop i).take (E - i)).length ≤ D.length := by simp; omega
    refine (bufRead h (by omega) b o n c hn (by omega) hc room hok).mono ?_
    rintro e w' ⟨k, hk0, hkn, hkR, rfl, hS, hb, hf, hk⟩
    exact ⟨k, .nilIface, hk0, hkn, .inl rfl, rfl, hS, hb, hf, hk⟩
end Go.Proofs.YtnbbppjgamdfeaaGreatDoor
end

/- bufio: fill, ReadByte over the stream. -/
section
set_option linter.unusedVariables false
set_option linter.unusedSimpArgs false
namespace Go.Proofs.YtnbbppjgamdfeaaGreatDoor
open Go Go.RowKit
attribute [local go_sem] min2_min min_two'

/-- After fill: bytes lie in the buffer. -/
def Filled (N : Nums) (D : List UInt8) (d : Dv) (s E c0 : Nat) (w : World) (R : List UInt8) (e : Ending) (w' : World) : Prop :=
  ∃ i v U, e = .returned (.tuple #[]) ∧ 0 < U.length ∧ Strm N D d s E c0 w' R i 0 v U ∧ Keep (Fs N) w w'

set_option maxHeartbeats 4000000 in
set_option maxRecDepth 100000 in
theorem bufFill0 {N : Nums} {D : List UInt8} {d : Dv} {s E c0 : Nat} {w : World} {R : List UInt8} {i : Nat} (h : Strm N D d s E c0 w R i 0 0 []) (hR : 0 < R.length) :
    Calls Tryz.prog 244 #[.pointer (some ⟨N.ub, 0, none⟩)] w (Filled N D d s E c0 w R) := by
  have hz := h.buf
  have h0 := hz.u0
  have h1 := hz.u1
  have h2 := hz.u2
  have h3 := hz.u3
  have hfz := hz.fz
  go_enter Tryz.func244, Tryz.ntmps244
  go_wp2
  go_quiet (fail)
  go_wp2
  refine wp_loop_rounds 1 ?_
  rw [rounds_succ]
  go_wp2
  obtain ⟨w1, hw1⟩ : ∃ w1, w1 = w.drewN nq := ⟨_, rfl⟩
  rw [← hw1]
  have hk1 : Keep Nil2 w w1 := by rw [hw1]; exact (Keep.refl _ w).drewN nq
  have hS1 : Strm N D d s E c0 w1 R i 0 0 [] := h.keep hk1 (fun _ _ e => e.elim)
  have hz1 := hS1.buf
  have h01 := hz1.u0
  have h11 := hz1.u1
  have h31 := hz1.u3
  have hubk : ∀ k y, ¬ (Fp N.bd N.rb N.cb N.ub y ∨ (N.ub = N.kb ∧ 0 ≤ y ∧ y < 0 + k)) := fun k y e => e.elim h.b1.1 fun e => hz.ne e.1
  have hrd : Calls Tryz.prog 184 #[.pointer (some ⟨N.bd, 0, none⟩), .slice (some ⟨N.kb, 0, none⟩) 4096 4096] (w1.drewN 1) fun e w' => ∃ k, 0 < k ∧ k ≤ 4096 ∧ k ≤ R.length ∧ e = .returned (.tuple #[.int .i64 (k : Int), .nilIface]) ∧
      Png w' N.bd N.rb N.cb N.db N.cap D { d with idat := E - (i + k) } (i + k) (crcRun c0 ((D.drop s).take (i + k - s))) ∧ R.drop k = (D.drop (i + k)).take (E - (i + k)) ∧ i + k ≤ E ∧
      BytesAt w' N.kb 0 (R.take k) ∧ (∀ j, w'.frozen? ⟨N.kb, j, none⟩ = w1.frozen? ⟨N.kb, j, none⟩) ∧ Keep (fun x y => Fp N.bd N.rb N.cb x y ∨ (x = N.kb ∧ 0 ≤ y ∧ y < 0 + k)) w1 w' := by
    refine ((hS1.keep ((Keep.refl Nil2 w1).drewN 1) (fun _ _ e => e.elim)).under hR N.kb 0 4096 4096 (by omega) (by omega) (hz1.drewN 1).room h.b2).mono ?_
    rintro e w' ⟨k, a1, a2, a3, a4, a5, a6, a7, a8, a9, a10⟩
    exact ⟨k, a1, a2, a3, a4, a5, a6, a7, a8, a9, ((Keep.refl _ w1).drewN 1).trans a10⟩
  clear hw1 h0 h1 h2 h3 hfz
  go_region_held3 (fun w' => w'.cell? ⟨N.ub, 0, none⟩ = some (.slice (some ⟨N.kb, 0, none⟩) 4096 4096) ∧ w'.cell? ⟨N.ub, 1, none⟩ = some (.iface 90 (.pointer (some ⟨N.bd, 0, none⟩))) ∧ w'.cell? ⟨N.ub, 3, none⟩ = some (.int .i64 0))
    (first | go_keep | exact ⟨hk2.get h01 (hubk k 0), hk2.get h11 (hubk k 1), hk2.get h31 (hubk k 3)⟩)
    (first | (go_at_call 184; refine hrd.mono ?_; rintro e w2 ⟨k, hk0, hkn, hkR, rfl, hp, hrest, hiE, hb2, hf2, hk2⟩))
  have hlk : (R.take k).length = k := by simp; omega
  have hB3 := hz1.over (l := R.take k) hk2 (hubk k) (fun y e => by rw [hlk]; exact e.elim (fun e => (h.b2.1 e).elim) fun e => e.2) hb2 hf2
  have hB4 := hB3.filled (Keep.refl Nil2 _) (fun _ e => e) (fun _ e => e.elim) hb2 (fun _ => rfl) (by omega)
  rw [hlk] at hB4
  have hB33 := hB3.u3
  have hB3z := hB3.fz
  have hk0' : decide ((k : Int) < 0) = false := by simp
  have hk0'' : decide ((0 : Int) < (k : Int)) = true := by simp; omega
  have hkw : IntKind.i64.wrap (k : Int) = (k : Int) := IntWalk.i64_in _ (by omega)
  go_wp2
  go_end0
  have hk4 : Keep (fun x _ => x = N.ub) w2 (w2.setCell ⟨N.ub, 3, none⟩ (.int .i64 (k : Int))) := (keep_setCell _ _ _ _).mono fun _ _ _ e => e.1
  refine ⟨i + k, k, R.take k, rfl, by omega, h.mk' hp hiE (hk4.mono fun _ _ _ e => .inl e) hB4 (by rw [← hrest, List.take_append_drop]), ?_⟩
  refine (hk1.mono fun x y _ e => e.elim).trans ((hk2.mono fun x y _ e => ?_).trans (hk4.mono fun x y _ e => ?_))
  · exact e.elim Fp_Fs fun e => by rw [e.1]; exact kb_Fs _ _
  · rw [e]; exact ub_Fs _ _

/-- An empty buffer, its two places set to 0, the other way round. -/
theorem Bufio.zero' {w : World} {ub kb bd r v : Nat} (h : Bufio w ub kb bd r v []) : Bufio ((w.setCell ⟨ub, 3, none⟩ (.int .i64 0)).setCell ⟨ub, 2, none⟩ (.int .i64 0)) ub kb bd 0 0 [] := by
  obtain ⟨q5, h5⟩ := h.u5
  obtain ⟨q6, h6⟩ := h.u6
  refine ⟨setF (setF h.u0 (by decide)) (by decide), setF (setF h.u1 (by decide)) (by decide), World.cell?_setCell_same _ _ _ (setF h.u2 (by decide)), setF (World.cell?_setCell_same _ _ _ h.u3) (by decide), setF (setF h.u4 (by decide)) (by decide), ⟨q5, setF (setF h5 (by decide)) (by decide)⟩, ⟨q6, setF (setF h6 (by decide)) (by decide)⟩, fun j => by simp [h.fz j], fun i hi => by simp at hi, ?_, rfl, by omega, h.ne⟩
  exact (h.rSet 3 (.int .i64 0)).keep (keep_setCell _ _ _ _) fun _ _ e => h.ne e.1.symm

set_option maxHeartbeats 8000000 in
set_option maxRecDepth 100000 in
theorem bufFill1 {N : Nums} {D : List UInt8} {d : Dv} {s E c0 : Nat} {w : World} {R : List UInt8} {i r : Nat} (h : Strm N D d s E c0 w R i r r []) (hr0 : 0 < r) (hR : 0 < R.length) :
    Calls Tryz.prog 244 #[.pointer (some ⟨N.ub, 0, none⟩)] w (Filled N D d s E c0 w R) := by
  have hz := h.buf
  have h0 := hz.u0
  have h2 := hz.u2
  have h3 := hz.u3
  have hfz := hz.fz
  have hle := hz.le
  have hrI : (r : Int) ≤ 4096 := by omega
  have hr0' : decide ((0 : Int) < (r : Int)) = true := by simp; omega
  go_enter Tryz.func244, Tryz.ntmps244
  go_wp2
  obtain ⟨p, hpp⟩ : ∃ p, (if 4096 = r then some (⟨N.kb, 0, none⟩ : Addr) else some ⟨N.kb, r, none⟩) = some ⟨N.kb, p, none⟩ := by
    by_cases e : 4096 = r
    · exact ⟨0, by rw [if_pos e]⟩
    · exact ⟨r, by rw [if_neg e]⟩
  go_still_tail 17, (by kernel_rfl)
  change wpList _ _ _ _ _ w.drew
  refine wpList_copy_bytes rfl (.tmp 13) (.tmp 26) 23 23 rfl 5 Tryz.underlying23 (by kernel_rfl) N.kb 0 4096 4096 N.kb p 0 (4096 - r) rfl rfl [] (by simp) ?c2 ?c3 ?_
  case c2 => exact fun i hi => by simp at hi
  case c3 => exact fun j hj => by simp at hj
  intro w2 hk2 hb2 hf2
  have hkk : Keep Nil2 w w2 := (Keep.refl Nil2 w).drew.trans (hk2.mono fun _ _ _ e => by simp at e)
  have hS2 : Strm N D d s E c0 w2 R i r r [] := h.keep hkk (fun _ _ e => e.elim)
  have hz2 := hS2.buf
  have h02 := hz2.u0
  have h22 := hz2.u2
  have h32 := hz2.u3
  have hfz2 := hz2.fz
  clear h0 h2 h3 hfz hk2 hb2 hf2
  go_wp2
  go_still_tail 11, (by kernel_rfl)
  change wpList _ _ _ _ _ w2.drew
  go_wp2
  have hkz : Keep (fun x _ => x = N.ub) w2 ((w2.setCell ⟨N.ub, 3, none⟩ (.int .i64 0)).setCell ⟨N.ub, 2, none⟩ (.int .i64 0)).drew :=
    (((Keep.refl (fun x _ => x = N.ub) w2).setCell _ fun _ => rfl).setCell _ fun _ => rfl).drew
  have hzz : Bufio ((w2.setCell ⟨N.ub, 3, none⟩ (.int .i64 0)).setCell ⟨N.ub, 2, none⟩ (.int .i64 0)).drew N.ub N.kb N.bd 0 0 [] := hz2.zero'.drewN 1
  have hSz := hS2.re (hkz.mono fun _ _ _ e => .inl e) hzz hS2.rest
  obtain ⟨w3, hw3⟩ : ∃ w3, w3 = ((w2.setCell ⟨N.ub, 3, none⟩ (.int .i64 0)).setCell ⟨N.ub, 2, none⟩ (.int .i64 0)).drew := ⟨_, rfl⟩
  rw [← hw3] at hkz hzz hSz ⊢
  have h03 := hzz.u0
  have h33 := hzz.u3
  clear hw3 h02 h22 h32 hfz2
  go_quiet (fail)
  go_wp2
  refine wp_loop_rounds 1 ?_
  rw [rounds_succ]
  go_wp2
  obtain ⟨w1, hw1⟩ : ∃ w1, w1 = w3.drewN nq := ⟨_, rfl⟩
  rw [← hw1]
  have hk13 : Keep Nil2 w3 w1 := by rw [hw1]; exact (Keep.refl _ w3).drewN nq
  have hS1 : Strm N D d s E c0 w1 R i 0 0 [] := hSz.keep hk13 (fun _ _ e => e.elim)
  have hk1 : Keep (Fs N) w w1 := (hkk.mono fun _ _ _ e => e.elim).trans ((hkz.mono fun _ _ _ e => by rw [e]; exact ub_Fs _ _).trans (hk13.mono fun _ _ _ e => e.elim))
  have hz1 := hS1.buf
  clear h03 h33
  have h01 := hz1.u0
  have h11 := hz1.u1
  have h31 := hz1.u3
  have hubk : ∀ k y, ¬ (Fp N.bd N.rb N.cb N.ub y ∨ (N.ub = N.kb ∧ 0 ≤ y ∧ y < 0 + k)) := fun k y e => e.elim h.b1.1 fun e => hz.ne e.1
  have hrd : Calls Tryz.prog 184 #[.pointer (some ⟨N.bd, 0, none⟩), .slice (some ⟨N.kb, 0, none⟩) 4096 4096] (w1.drewN 1) fun e w' => ∃ k, 0 < k ∧ k ≤ 4096 ∧ k ≤ R.length ∧ e = .returned (.tuple #[.int .i64 (k : Int), .nilIface]) ∧
      Png w' N.bd N.rb N.cb N.db N.cap D { d with idat := E - (i + k) } (i + k) (crcRun c0 ((D.drop s).take (i + k - s))) ∧ R.drop k = (D.drop (i + k)).take (E - (i + k)) ∧ i + k ≤ E ∧
      BytesAt w' N.kb 0 (R.take k) ∧ (∀ j, w'.frozen? ⟨N.kb, j, none⟩ = w1.frozen? ⟨N.kb, j, none⟩) ∧ Keep (fun x y => Fp N.bd N.rb N.cb x y ∨ (x = N.kb ∧ 0 ≤ y ∧ y < 0 + k)) w1 w' := by
    refine ((hS1.keep ((Keep.refl Nil2 w1).drewN 1) (fun _ _ e => e.elim)).under hR N.kb 0 4096 4096 (by omega) (by omega) (hz1.drewN 1).room h.b2).mono ?_
    rintro e w' ⟨k, a1, a2, a3, a4, a5, a6, a7, a8, a9, a10⟩
    exact ⟨k, a1, a2, a3, a4, a5, a6, a7, a8, a9, ((Keep.refl _ w1).drewN 1).trans a10⟩
  clear hw1
  go_region_held3 (fun w' => w'.cell? ⟨N.ub, 0, none⟩ = some (.slice (some ⟨N.kb, 0, none⟩) 4096 4096) ∧ w'.cell? ⟨N.ub, 1, none⟩ = some (.iface 90 (.pointer (some ⟨N.bd, 0, none⟩))) ∧ w'.cell? ⟨N.ub, 3, none⟩ = some (.int .i64 0))
    (first | go_keep | exact ⟨hk2.get h01 (hubk k 0), hk2.get h11 (hubk k 1), hk2.get h31 (hubk k 3)⟩)
    (first | (go_at_call 184; refine hrd.mono ?_; rintro e w2 ⟨k, hk0, hkn, hkR, rfl, hp, hrest, hiE, hb2, hf2, hk2⟩))
  have hlk : (R.take k).length = k := by simp; omega
  have hB3 := hz1.over (l := R.take k) hk2 (hubk k) (fun y e => by rw [hlk]; exact e.elim (fun e => (h.b2.1 e).elim) fun e => e.2) hb2 hf2
  have hB4 := hB3.filled (Keep.refl Nil2 _) (fun _ e => e) (fun _ e => e.elim) hb2 (fun _ => rfl) (by omega)
  rw [hlk] at hB4
  have hB33 := hB3.u3
  have hB3z := hB3.fz
  have hk0' : decide ((k : Int) < 0) = false := by simp
  have hk0'' : decide ((0 : Int) < (k : Int)) = true := by simp; omega
  have hkw : IntKind.i64.wrap (k : Int) = (k : Int) := IntWalk.i64_in _ (by omega)
  go_wp2
  go_end0
  have hk4 : Keep (fun x _ => x = N.ub) w2 (w2.setCell ⟨N.ub, 3, none⟩ (.int .i64 (k : Int))) := (keep_setCell _ _ _ _).mono fun _ _ _ e => e.1
  refine ⟨i + k, k, R.take k, rfl, by omega, hS1.mk' hp hiE (hk4.mono fun _ _ _ e => .inl e) hB4 (by rw [← hrest, List.take_append_drop]), ?_⟩
  refine hk1.trans ((hk2.mono fun x y _ e => ?_).trans (hk4.mono fun x y _ e => ?_))
  · exact e.elim Fp_Fs fun e => by rw [e.1]; exact kb_Fs _ _
  · rw [e]; exact ub_Fs _ _

/-- fill: some bytes of the stream lie in the buffer. -/
theorem bufFill {N : Nums} {D : List UInt8} {d : Dv} {s E c0 : Nat} {w : World} {R : List UInt8} {i r v : Nat} (h : Strm N D d s E c0 w R i r v []) (hR : 0 < R.length) :
    Calls Tryz.prog 244 #[.pointer (some ⟨N.ub, 0, none⟩)] w (Filled N D d s E c0 w R) := by
  have he : v = r := by have := h.buf.end_; simpa using this
  subst he
  by_cases h0 : v = 0
  · subst h0; exact bufFill0 h hR
  · exact bufFill1 h (by omega) hR

/-- What ReadByte gives. -/
def GotByte (N : Nums) (D : List UInt8) (d : Dv) (s E c0 : Nat) (w : World) (x : UInt8) (R : List UInt8) (e : Ending) (w' : World) : Prop :=
  e = .returned (.tuple #[.int .u8 (x.toNat : Int), .nilIface]) ∧ (∃ i r v U, Strm N D d s E c0 w' R i r v U) ∧ Keep (Fs N) w w'

set_option maxHeartbeats 8000000 in
set_option maxRecDepth 100000 in
theorem readByte0 {N : Nums} {D : List UInt8} {d : Dv} {s E c0 : Nat} {w : World} {x : UInt8} {R : List UInt8} {i r v : Nat} {U : List UInt8} (h : Strm N D d s E c0 w (x :: R) i r v U) (hU : 0 < U.length) :
    Calls Tryz.prog 242 #[.pointer (some ⟨N.ub, 0, none⟩)] w (GotByte N D d s E c0 w x R) := by
  have hz := h.buf
  have h0 := hz.u0
  have h2 := hz.u2
  have h3 := hz.u3
  have h4 := hz.u4
  obtain ⟨q5, h5⟩ := hz.u5
  obtain ⟨q6, h6⟩ := hz.u6
  have hfz := hz.fz
  have he := hz.end_
  have hle := hz.le
  have hrv : ((r : Int) == (v : Int)) = false := by simp; omega
  have hrc : (r : Int) < 4096 := by omega
  have hx0 : U[0] = x := by
    have := h.rest
    cases U with
    | nil => simp at hU
    | cons u U => simp at this; exact this.1.symm
  have hx : w.cell? ⟨N.kb, r, none⟩ = some (.int .u8 (x.toNat : Int)) := by
    have := hz.data 0 hU
    rwa [hx0, Nat.add_zero] at this
  have hkne : ¬ N.kb = N.ub := fun e => hz.ne e.symm
  have hx8 := x.toNat_lt
  have HE := Lib.hid he
  clear he
  go_enter Tryz.func242, Tryz.ntmps242
  go_wp2
  refine wp_loop_rounds 1 ?_
  rw [rounds_succ]
  go_wp2
  go_quiet (fail)
  go_wp2
  go_quiet (fail)
  go_wp2
  go_ret2
  have hB := fun n => (((hz.set6 (-1)).drewN n).set2 1 hU).set5 (x.toNat : Int)
  rw [show ((r + 1 : Nat) : Int) = (r : Int) + 1 by omega] at hB
  have hkb : ∀ n, Keep (fun x _ => x = N.ub) w ((((w.setCell ⟨N.ub, 6, none⟩ (.int .i64 (-1))).drewN n).setCell ⟨N.ub, 2, none⟩ (.int .i64 ((r : Int) + 1))).setCell ⟨N.ub, 5, none⟩ (.int .i64 (x.toNat : Int))) := fun n =>
    ((((Keep.refl (fun x _ => x = N.ub) w).setCell _ fun _ => rfl).drewN n).setCell _ fun _ => rfl).setCell _ fun _ => rfl
  refine ⟨rfl, ⟨i, r + 1, v, U.drop 1, h.re ((hkb _).mono fun _ _ _ e => .inl e) (hB _) ?_⟩, (hkb _).mono fun _ _ _ e => by rw [e]; exact ub_Fs _ _⟩
  have := h.rest
  cases U with
  | nil => simp at hU
  | cons u U => simp at this; exact this.2

set_option maxHeartbeats 8000000 in
set_option maxRecDepth 100000 in
theorem readByte1 {N : Nums} {D : List UInt8} {d : Dv} {s E c0 : Nat} {w : World} {x : UInt8} {R : List UInt8} {i r v : Nat} (h : Strm N D d s E c0 w (x :: R) i r v []) :
    Calls Tryz.prog 242 #[.pointer (some ⟨N.ub, 0, none⟩)] w (GotByte N D d s E c0 w x R) := by
  have he : v = r := by have := h.buf.end_; simpa using this
  subst he
  have hz := h.buf
  have h0 := hz.u0
  have h2 := hz.u2
  have h3 := hz.u3
  have h4 := hz.u4
  obtain ⟨q6, h6⟩ := hz.u6
  have hfz := hz.fz
  go_enter Tryz.func242, Tryz.ntmps242
  go_wp2
  refine wp_loop_rounds 2 ?_
  rw [rounds_succ]
  go_wp2
  go_quiet (fail)
  have hk1 : ∀ n, Keep (fun x _ => x = N.ub) w ((w.setCell ⟨N.ub, 6, none⟩ (.int .i64 (-1))).drewN n) := fun n => ((Keep.refl (fun x _ => x = N.ub) w).setCell _ fun _ => rfl).drewN n
  have hS1 : ∀ n, Strm N D d s E c0 ((w.setCell ⟨N.ub, 6, none⟩ (.int .i64 (-1))).drewN n) (x :: R) i v v [] := fun n => h.re ((hk1 n).mono fun _ _ _ e => .inl e) ((hz.set6 (-1)).drewN n) h.rest
  go_wp2_with (go_at_call 244; fail)
  refine (bufFill (hS1 _) (by simp)).mono ?_
  rintro e w2 ⟨i', v', U, rfl, hU, h2', hk2⟩
  have hz2 := h2'.buf
  have h02 := hz2.u0
  have h22 := hz2.u2
  have h32 := hz2.u3
  have h42 := hz2.u4
  obtain ⟨q52, h52⟩ := hz2.u5
  obtain ⟨q62, h62⟩ := hz2.u6
  have hfz2 := hz2.fz
  have he2 := hz2.end_
  have hrv : ((0 : Int) == (v' : Int)) = false := by simp; omega
  have hx0 : U[0] = x := by
    have := h2'.rest
    cases U with
    | nil => simp at hU
    | cons u U => simp at this; exact this.1.symm
  have hx : w2.cell? ⟨N.kb, 0, none⟩ = some (.int .u8 (x.toNat : Int)) := by
    have := hz2.data 0 hU
    rwa [hx0] at this
  have hkne : ¬ N.kb = N.ub := fun e => hz2.ne e.symm
  have hx8 := x.toNat_lt
  have HE := Lib.hid he2
  have HK2 := Lib.hid hk2
  clear he2 hk2 h0 h2 h3 h4 h6 hfz hS1
  go_wp2
  rw [rounds_succ]
  go_wp2
  go_quiet (fail)
  go_wp2
  go_quiet (fail)
  go_wp2
  go_ret2
  have hB := fun n => ((hz2.drewN n).set2 1 hU).set5 (x.toNat : Int)
  rw [show ((0 + 1 : Nat) : Int) = 1 by omega] at hB
  have hkb : ∀ n, Keep (fun x _ => x = N.ub) w2 (((w2.drewN n).setCell ⟨N.ub, 2, none⟩ (.int .i64 1)).setCell ⟨N.ub, 5, none⟩ (.int .i64 (x.toNat : Int))) := fun n =>
    (((Keep.refl (fun x _ => x = N.ub) w2).drewN n).setCell _ fun _ => rfl).setCell _ fun _ => rfl
  refine ⟨rfl, ⟨i', 0 + 1, v', U.drop 1, h2'.re ((hkb _).mono fun _ _ _ e => .inl e) (hB _) ?_⟩, ((hk1 _).mono fun _ _ _ e => by rw [e]; exact ub_Fs _ _).trans (HK2.out.trans ((hkb _).mono fun _ _ _ e => by rw [e]; exact ub_Fs _ _))⟩
  have := h2'.rest
  cases U with
  | nil => simp at hU
  | cons u U => simp at this; exact this.2

/-- ReadByte: the stream's next byte. -/
theorem readByte {N : Nums} {D : List UInt8} {d : Dv} {s E c0 : Nat} {w : World} {x : UInt8} {R : List UInt8} {i r v : Nat} {U : List UInt8} (h : Strm N D d s E c0 w (x :: R) i r v U) :
    Calls Tryz.prog 242 #[.pointer (some ⟨N.ub, 0, none⟩)] w (GotByte N D d s E c0 w x R) := by
  match U, h with
  | [], h => exact readByte1 h
  | u :: U, h => exact readByte0 h (by simp)
end Go.Proofs.YtnbbppjgamdfeaaGreatDoor
end

/- bufio.NewReader over the png decoder. -/
section
set_option linter.unusedVariables false
set_option linter.unusedSimpArgs false
namespace Go.Proofs.YtnbbppjgamdfeaaGreatDoor
open Go Go.RowKit

set_option maxHeartbeats 1000000 in
set_option maxRecDepth 100000 in
theorem bufReset {w : World} {ub kb bd : Nat} (h0 : w.cell? ⟨ub, 0, none⟩ = some (.slice none 0 0)) (h1 : w.cell? ⟨ub, 1, none⟩ = some .nilIface) (h2 : w.cell? ⟨ub, 2, none⟩ = some (.int .i64 0)) (h3 : w.cell? ⟨ub, 3, none⟩ = some (.int .i64 0)) (h4 : w.cell? ⟨ub, 4, none⟩ = some .nilIface)
    (h5 : w.cell? ⟨ub, 5, none⟩ = some (.int .i64 0)) (h6 : w.cell? ⟨ub, 6, none⟩ = some (.int .i64 0)) (hz : ∀ j, w.frozen? ⟨ub, j, none⟩ = false) (hroom : RoomAt w kb 0 4096) (hne : ub ≠ kb) :
    Calls Tryz.prog 140 #[.pointer (some ⟨ub, 0, none⟩), .slice (some ⟨kb, 0, none⟩) 4096 4096, .iface 90 (.pointer (some ⟨bd, 0, none⟩))] w fun e w' => e = .returned (.tuple #[]) ∧ Bufio w' ub kb bd 0 0 [] ∧ Keep (fun x y => x = ub) w w' := by
  go_enter Tryz.func140, Tryz.ntmps140
  go_wp2
  go_end0
  have hk : ∀ (a b c d e f g : Value), Keep (fun x _ => x = ub) w (((((((w.setCell ⟨ub, 0, none⟩ a).setCell ⟨ub, 1, none⟩ b).setCell ⟨ub, 2, none⟩ c).setCell ⟨ub, 3, none⟩ d).setCell ⟨ub, 4, none⟩ e).setCell ⟨ub, 5, none⟩ f).setCell ⟨ub, 6, none⟩ g) := fun a b c d e f g =>
    ((((((((Keep.refl (fun x _ => x = ub) w).setCell _ fun _ => rfl).setCell _ fun _ => rfl).setCell _ fun _ => rfl).setCell _ fun _ => rfl).setCell _ fun _ => rfl).setCell _ fun _ => rfl).setCell _ fun _ => rfl)
  refine ⟨rfl, ⟨?_, ?_, ?_, ?_, ?_, ⟨-1, ?_⟩, ⟨-1, ?_⟩, ?_, ?_, ?_, ?_, ?_, hne⟩, ?_⟩
  · go_simp
  · go_simp
  · go_simp
  · go_simp
  · go_simp
  · go_simp
  · go_simp
  · intro j; simp [hz j]
  · exact fun i hi => by simp at hi
  · exact hroom.keep (hk _ _ _ _ _ _ _) fun _ _ e => hne e.symm
  · rfl
  · omega
  · exact hk _ _ _ _ _ _ _

set_option maxHeartbeats 1000000 in
set_option maxRecDepth 100000 in
theorem bufNew (w : World) (bd : Nat) :
    Calls Tryz.prog 124 #[.iface 90 (.pointer (some ⟨bd, 0, none⟩))] w fun e w' => ∃ ub kb, e = .returned (.pointer (some ⟨ub, 0, none⟩)) ∧ w.heap.size ≤ ub ∧ w.heap.size ≤ kb ∧ Bufio w' ub kb bd 0 0 [] ∧ Keep Nil2 w w' := by
  have ha : (Instr.typeAssert (.iface 90 (.pointer (some ⟨bd, 0, none⟩))) 68 252 true).run Tryz.prog w = .ok (.tuple #[.pointer none, .bool false]) w := by kernel_rfl
  obtain ⟨W1, hW1⟩ : ∃ W1, W1 = w.alloc (.cells #[.slice none 0 0, .nilIface, .int .i64 0, .int .i64 0, .nilIface, .int .i64 0, .int .i64 0] 288) := ⟨_, rfl⟩
  have hh := heap_alloc_new w (.cells #[.slice none 0 0, .nilIface, .int .i64 0, .int .i64 0, .nilIface, .int .i64 0, .int .i64 0] 288)
  rw [← hW1] at hh
  have c : ∀ j, W1.cell? ⟨w.heap.size, j, none⟩ = (#[.slice none 0 0, .nilIface, .int .i64 0, .int .i64 0, .nilIface, .int .i64 0, .int .i64 0] : Array Value)[j]? := fun j => cell_of_row _ _ _ _ _ _ hh
  have f : ∀ j, W1.frozen? ⟨w.heap.size, j, none⟩ = false := fun j => frozen_of_row _ _ _ _ _ hh
  have hsz : W1.heap.size = w.heap.size + 1 := by rw [hW1]; simp
  have hk1 : Keep Nil2 w W1 := by rw [hW1]; exact (Keep.refl Nil2 w).alloc _
  obtain ⟨cs, hm, hs, h0⟩ := makeBytes W1 .i64 .i64 4096 (by omega)
  have hfx := makeBytes_facts (w := W1) hs h0
  have hk2 : Keep Nil2 W1 (W1.alloc (.cells cs 5)) := (Keep.refl Nil2 W1).alloc _
  rw [show ((4096 : Nat) : Int) = 4096 from rfl] at hm
  have g : ∀ j v, (#[.slice none 0 0, .nilIface, .int .i64 0, .int .i64 0, .nilIface, .int .i64 0, .int .i64 0] : Array Value)[j]? = some v → (W1.alloc (.cells cs 5)).cell? ⟨w.heap.size, j, none⟩ = some v := fun j v hv => hk2.get ((c j).trans hv) (fun e => e)
  have fz2 : ∀ j, (W1.alloc (.cells cs 5)).frozen? ⟨w.heap.size, j, none⟩ = false := fun j => hk2.froz (by omega) (f j) (fun e => e)
  have HR := Lib.hid (bufReset (bd := bd) (g 0 _ rfl) (g 1 _ rfl) (g 2 _ rfl) (g 3 _ rfl) (g 4 _ rfl) (g 5 _ rfl) (g 6 _ rfl) fz2 hfx.2.1 (by omega))
  have HW := Lib.hid hW1
  have HM := Lib.hid hm
  clear hm c f g fz2 hfx hs h0 hh hW1
  go_enter Tryz.func124, Tryz.ntmps124
  go_wp2
  rw [← HW.out, HM.out]
  go_wp2_with (go_at_call 140; fail)
  have hr := HR.out
  rw [hsz] at hr
  refine hr.mono ?_
  rintro e w3 ⟨rfl, hB, hk3⟩
  go_wp2
  go_ret
  exact ⟨_, _, rfl, Nat.le_refl _, by omega, hB, (hk1.trans hk2).then hk3 (fun _ _ _ e => e) fun x _ hx e => absurd e (by omega)⟩
end Go.Proofs.YtnbbppjgamdfeaaGreatDoor
end
