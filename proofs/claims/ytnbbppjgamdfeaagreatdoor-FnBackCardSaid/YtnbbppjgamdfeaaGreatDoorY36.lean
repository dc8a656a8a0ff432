/- laws.FnBack, part 36 of 54: N3 N5 N6. -/
import Derived.Test.YtnbbppjgamdfeaaGreatDoorY05
import Derived.Test.YtnbbppjgamdfeaaGreatDoorY14
import Derived.Test.YtnbbppjgamdfeaaGreatDoorY17
import Derived.Test.YtnbbppjgamdfeaaGreatDoorY11
import Derived.Test.YtnbbppjgamdfeaaGreatDoorY15
import Derived.Test.YtnbbppjgamdfeaaGreatDoorY34

/- Prefix codes as the reference builds them, plain. -/
section
set_option linter.unusedVariables false
set_option linter.unusedSimpArgs false
namespace Go.Proofs.YtnbbppjgamdfeaaGreatDoor
open Go Go.RowKit

theorem placesFrom_take (n : Nat) (l : List Nat) (k x : Nat) (h : l[k]? = some x) : placesFrom n 0 (l.take (k + 1)) = placesFrom n 0 (l.take k) ++ (if x = n then [k] else []) := by
  have hk : k < l.length := (List.getElem?_eq_some_iff.1 h).1
  rw [List.take_add_one, h, placesFrom_append, List.length_take, Nat.min_eq_left (by omega), Nat.zero_add]
  rfl
theorem placesFrom_zero (n k : Nat) : placesFrom n k [] = [] := rfl
theorem placesFrom_length (n k : Nat) (l : List Nat) : (placesFrom n k l).length ≤ l.length := by
  induction l generalizing k with
  | nil => simp [placesFrom]
  | cons x l ih =>
    have := ih (k + 1)
    unfold placesFrom
    split
    · simp only [List.length_cons]; omega
    · simp only [List.length_cons]; omega
/-- How many of the first words have n bits (none of them has none). -/
def cntUp (l : List Nat) (k n : Nat) : Nat := if n = 0 then 0 else (l.take k).count n
theorem cntUp_zero (l : List Nat) (n : Nat) : cntUp l 0 n = 0 := by simp [cntUp]
theorem cntUp_le (l : List Nat) (k n : Nat) : cntUp l k n ≤ k := by
  unfold cntUp
  split
  · omega
  · exact Nat.le_trans (List.count_le_length) (by rw [List.length_take]; omega)
theorem cntUp_succ (l : List Nat) (k x n : Nat) (h : l[k]? = some x) : cntUp l (k + 1) n = cntUp l k n + (if x = n ∧ n ≠ 0 then 1 else 0) := by
  unfold cntUp
  by_cases h0 : n = 0
  · simp [h0]
  · rw [if_neg h0, if_neg h0, List.take_add_one, h, List.count_append]
    simp only [Option.toList_some, List.count_singleton, h0, ne_eq, not_false_eq_true, and_true]
    congr 1
    by_cases e : x = n
    · simp [e]
    · simp [e]
theorem cntUp_all (l : List Nat) (k n : Nat) (hk : l.length ≤ k) (hn : n ≠ 0) : cntUp l k n = l.count n := by
  unfold cntUp
  rw [if_neg hn, List.take_of_length_le hk]
theorem pfxLeft_succ (l : List Nat) (n : Nat) : pfxLeft l (n + 1) = pfxLeft l n * 2 - (l.count (n + 1) : Int) := rfl
theorem pfxList_succ (l : List Nat) (n : Nat) : pfxList l (n + 1) = pfxList l n ++ placesFrom (n + 1) 0 l := rfl
theorem pfxList_le (l : List Nat) (n : Nat) : (pfxList l n).length ≤ n * l.length := by
  induction n with
  | zero => simp [pfxList]
  | succ n ih =>
    rw [pfxList_succ, List.length_append, Nat.add_mul]
    have := placesFrom_length (n + 1) 0 l
    omega
end Go.Proofs.YtnbbppjgamdfeaaGreatDoor
end

/- The reference's Unfiltered: a row without a filter. -/
section
set_option linter.unusedVariables false
set_option linter.unusedSimpArgs false
namespace Go.Proofs.YtnbbppjgamdfeaaGreatDoor
open Go Go.RowKit

/-- What stands of the world while a byte of the row is laid anew. -/
def UnfS (wr : World) (base g n cap k x : Nat) (r : List UInt8) (w' : World) : Prop := w'.cell? ⟨g, k, none⟩ = some (.int .u8 (x : Int)) ∧ w'.frozen? ⟨g, k, none⟩ = false ∧ OwnB w' base (.slice (some ⟨g, 0, none⟩) n cap) r ∧ Keep (fun i _ => i = g) wr w'
theorem unfS_keep {wr : World} {base g n cap k x : Nat} {r : List UInt8} {V V' : World} (h : UnfS wr base g n cap k x r V) (hk : Keep Nil2 V V') : UnfS wr base g n cap k x r V' :=
  ⟨hk.get h.1 fun e => e, hk.froz (World.block_lt_of_cell? V _ h.1) h.2.1 fun e => e, h.2.2.1.keep hk fun _ _ _ e => e, h.2.2.2.trans (hk.mono fun _ _ _ e => e.elim)⟩
theorem unfS_set {wr : World} {base g n cap k : Nat} {x : UInt8} {r : List UInt8} {V : World} (h : UnfS wr base g n cap k x.toNat r V) (hn : n = r.length) (hx : r[k]? = some x) : UnfS wr base g n cap k x.toNat r (V.setCell ⟨g, k, none⟩ (.int .u8 (x.toNat : Int))) :=
  ⟨World.cell?_setCell_same _ _ _ h.1, by rw [World.frozen?_setCell]; exact h.2.1, h.2.2.1.same hn k x hx, h.2.2.2.trans ((keep_setCell V g k _).mono fun _ _ _ e => e.1)⟩
theorem unfS_bytes {wr : World} {base g n cap k x : Nat} {r : List UInt8} {V : World} (h : UnfS wr base g n cap k x r V) (hn : n = r.length) (hn0 : 0 < n) : BytesAt V g 0 r := by
  obtain ⟨g', cap', e, _, _, _, hb, _⟩ := h.2.2.1.slice (by omega)
  have eg : g = g' := by injection e with e; injection e with e; injection e
  subst eg
  exact hb

set_option maxHeartbeats 4000000 in
set_option maxRecDepth 100000 in
theorem specUnfiltered {w : World} {r a : List UInt8} (b o c b' o' c' n st : Nat) (hr : BytesAt w b o r) (ha : BytesAt w b' o' a) (hn : n = r.length) (hn' : n = a.length) (hn0 : 0 < n) (hst : 0 < st) (hst2 : st ≤ 1000) (hn2 : n ≤ 1000) :
    Calls Tryz.prog 76 #[.int .i64 0, .slice (some ⟨b, o, none⟩) n c, .slice (some ⟨b', o', none⟩) n c', .int .i64 (st : Int)] w fun e w' => ∃ v, e = .returned v ∧ OwnB w' w.heap.size v r ∧ Keep Nil2 w w' := by
  have HN := Lib.hid (And.intro hn hn')
  clear hn hn'
  go_enter Tryz.func76, Tryz.ntmps76
  go_wp2_with (at_builtin; refine wpList_append_bytes rfl (.tmp 11) (.tmp 12) rfl w.heap.size _ [] rfl (ownNew w) _ r rfl (Src.of HN.out.1 (hr.keep ((Keep.refl Nil2 w).alloc _) fun _ _ e => e)) (by simp; have := HN.out; omega) (by simp) ?_)
  intro v1 w1 h1' hk1 hv1
  have h1 : OwnB w1 w.heap.size v1 r := h1'
  clear h1'
  have K1 := keep_lay (base := w.heap.size) ((Keep.refl Nil2 w).alloc (.cells #[] 5)) (ownNew w) hk1
  obtain ⟨g, cap, rfl, hg, hcap, _, hb1, hf1, hglt, _⟩ := h1.slice (by have := HN.out; omega)
  have hrn : r.length = n := HN.out.1.symm
  rw [hrn] at h1 hcap ⊢
  have H1 := Lib.hid (And.intro h1 K1)
  clear hk1 hv1 h1 hb1 hf1 K1
  go_wp2
  go_loopg [10, 16] n (fun G v10 v16 wr => ∃ k m, m = G ∧ k + m = n ∧ v16 = .int .i64 (k : Int) ∧ OwnB wr w.heap.size (.slice (some ⟨g, 0, none⟩) n cap) r ∧ Keep Nil2 w wr)
  case atStart => exact ⟨0, n, rfl, by omega, rfl, H1.out.1, H1.out.2⟩
  case round =>
    obtain ⟨k, m, hG, hkm, rfl, hO, hK⟩ := hrel
    have HG := Lib.hid hG
    clear hG
    by_cases hk : k < n
    · have d1 : decide ((k : Int) < (n : Int)) = true := by simp; omega
      have hkI : (k : Int) < n := by omega
      have hk0 : (0 : Int) ≤ (k : Int) := by omega
      obtain ⟨x, hx⟩ : ∃ x, r[k]? = some x := ⟨r[k]'(by omega), List.getElem?_eq_getElem _⟩
      obtain ⟨g', cap', e, _, _, _, hb1, hf1, hglt1, _⟩ := hO.slice (by omega)
      have eg : g = g' := by injection e with e; injection e with e; injection e
      clear e
      subst eg
      have ck := hb1.at_ k x hx
      rw [Nat.zero_add] at ck
      have hv := x.toNat_lt
      have hs0 : UnfS wr w.heap.size g n cap k x.toNat r wr := ⟨ck, hf1 k, hO, Keep.refl _ _⟩
      have hbg : b' < g := by have := ha.lt (by have := HN.out; omega); omega
      have KS := Lib.hid (fun V V' (h : UnfS wr w.heap.size g n cap k x.toNat r V) (hk : Keep Nil2 V V') => unfS_keep h hk)
      have KT := Lib.hid (fun V (h : UnfS wr w.heap.size g n cap k x.toNat r V) => unfS_set h HN.out.1 hx)
      have KC := Lib.hid (fun V (h : UnfS wr w.heap.size g n cap k x.toNat r V) => (specPredicted (w := V) (r := r) (a := a) g 0 cap b' o' c' n k st (unfS_bytes h HN.out.1 hn0) ((ha.keep hK fun _ _ e => e).keep h.2.2.2 fun _ _ e => by omega) HN.out.1 HN.out.2 hk hst hst2 hn2).mono (fun e w' (h2 : e = .returned (.int .i64 0) ∧ Keep Nil2 V w') => And.intro h2.1 (show UnfS wr w.heap.size g n cap k x.toNat r w' from unfS_keep h h2.2)))
      have HO := Lib.hid hK
      have e1 : IntKind.u8.wrap ((x.toNat : Int) + IntKind.u8.wrap 0) = (x.toNat : Int) := by
        show ((x.toNat : Int) + 0) % 256 = _
        omega
      have e2 : IntKind.u8.wrap (0 : Int) = 0 := rfl
      have e3 : IntKind.u8.wrap ((x.toNat : Int) + 0) = (x.toNat : Int) := e1
      have e4 : IntKind.u8.wrap (x.toNat : Int) = (x.toNat : Int) := by
        show (x.toNat : Int) % 256 = _
        omega
      clear hO hK hx hb1 hf1 ck
      go_wp2
      go_region_held3 (fun w' => w'.cell? ⟨g, k, none⟩ = some (.int .u8 (x.toNat : Int)) ∧ w'.frozen? ⟨g, k, none⟩ = false ∧ OwnB w' w.heap.size (.slice (some ⟨g, 0, none⟩) n cap) r ∧ Keep (fun i _ => i = g) wr w')
        (first | assumption | exact KT.out _ (by assumption) | exact KS.out _ _ (by assumption) ((Keep.refl Nil2 _).drew))
        (first | (go_at_call 91; refine (KC.out _ (by assumption)).mono ?_; rintro e w2 ⟨rfl, hsR⟩))
      have hS2 : UnfS wr w.heap.size g n cap k x.toNat r (w2.setCell ⟨g, k, none⟩ (.int .u8 (x.toNat : Int))) := by assumption
      have HF := Lib.hid (And.intro hS2.2.2.1 (HO.out.then (F := Nil2) hS2.2.2.2 (fun _ _ _ e => e) fun i _ hi e => by omega))
      clear hS2 hsR hs0
      go_wp2
      go_roundg (m - 1)
      case measure => have := HG.out; omega
      case rel => exact ⟨k + 1, m - 1, rfl, by omega, by go_num, HF.out.1, HF.out.2⟩
    · obtain rfl : k = n := by omega
      have d1 : decide ((k : Int) < (k : Int)) = false := by simp
      have HO := Lib.hid (And.intro hO hK)
      clear hO hK
      go_wp2
      go_ret
      exact ⟨_, rfl, HO.out.1, HO.out.2⟩
end Go.Proofs.YtnbbppjgamdfeaaGreatDoor
end

/- The reference's samplesOf, whatever the depth; PartSamples. -/
section
set_option linter.unusedVariables false
set_option linter.unusedSimpArgs false
namespace Go.Proofs.YtnbbppjgamdfeaaGreatDoor
open Go Go.RowKit

theorem KindOk.d {colour depth : Nat} (h : KindOk colour depth) : depth = 1 ∨ depth = 2 ∨ depth = 4 ∨ depth = 8 ∨ depth = 16 := by unfold KindOk at h; omega
theorem samplesOfAny {w : World} {r : List UInt8} (b o n c m : Nat) (hn : n = r.length) (hb : BytesAt w b o r) (depth : Nat) (hd : depth = 1 ∨ depth = 2 ∨ depth = 4 ∨ depth = 8 ∨ depth = 16) (hm : (m * depth + 7) / 8 ≤ n) (hm60 : depth < 8 → m ≤ 60) (hn2 : n ≤ 1000) :
    Calls Tryz.prog 78 #[.slice (some ⟨b, o, none⟩) n c, .int .i64 (m : Int), .int .i64 (depth : Int)] w fun e w' => ∃ v, e = .returned v ∧ OwnV 3 1 w' w.heap.size v m (intsV ((List.range m).map (rowSmp r depth))) ∧ Keep Nil2 w w' := by
  rcases hd with rfl | rfl | rfl | rfl | rfl
  · exact samplesOfFew b o n c m hn hb 1 (.inl rfl) hm (hm60 (by omega)) hn2
  · exact samplesOfFew b o n c m hn hb 2 (.inr (.inl rfl)) hm (hm60 (by omega)) hn2
  · exact samplesOfFew b o n c m hn hb 4 (.inr (.inr rfl)) hm (hm60 (by omega)) hn2
  · exact samplesOf8 b o n c m hn hb (by omega) hn2
  · exact samplesOf16 b o n c m hn hb (by omega) hn2

/-- The shape in block pb; a byte of the rows. -/
def PsS (w : World) (pb wd ht depth colour db q : Nat) (w' : World) : Prop := w'.cell? ⟨pb, 0, none⟩ = some (.int .i64 (wd : Int)) ∧ w'.cell? ⟨pb, 1, none⟩ = some (.int .i64 (ht : Int)) ∧ w'.cell? ⟨pb, 2, none⟩ = some (.int .i64 (depth : Int)) ∧ w'.cell? ⟨pb, 3, none⟩ = some (.int .i64 (colour : Int)) ∧ w'.cell? ⟨pb, 4, none⟩ = some (.bool false) ∧ w'.cell? ⟨db, q, none⟩ = some (.int .u8 0) ∧ Keep Nil2 w w'
theorem psS_keep {w : World} {pb wd ht depth colour db q : Nat} {V V' : World} (h : PsS w pb wd ht depth colour db q V) (hk : Keep Nil2 V V') : PsS w pb wd ht depth colour db q V' :=
  ⟨hk.get h.1 fun e => e, hk.get h.2.1 fun e => e, hk.get h.2.2.1 fun e => e, hk.get h.2.2.2.1 fun e => e, hk.get h.2.2.2.2.1 fun e => e, hk.get h.2.2.2.2.2.1 fun e => e, h.2.2.2.2.2.2.trans hk⟩
/-- The shape in block pb; the samples so far. -/
def PaS (w : World) (pb depth colour : Nat) (v : Value) (n : Nat) (xs : List Value) (w' : World) : Prop := w'.cell? ⟨pb, 2, none⟩ = some (.int .i64 (depth : Int)) ∧ w'.cell? ⟨pb, 3, none⟩ = some (.int .i64 (colour : Int)) ∧ OwnV 3 1 w' (pb + 1) v n xs ∧ Keep (fun k _ => v.ownBlock = some k) w w'
theorem paS_keep {w : World} {pb depth colour : Nat} {v : Value} {n : Nat} {xs : List Value} {V V' : World} (h : PaS w pb depth colour v n xs V) (hk : Keep Nil2 V V') : PaS w pb depth colour v n xs V' :=
  ⟨hk.get h.1 fun e => e, hk.get h.2.1 fun e => e, h.2.2.1.keep0 hk, h.2.2.2.trans (hk.mono fun _ _ _ e => e.elim)⟩
theorem paS_app {w : World} {pb depth colour : Nat} {v : Value} {n : Nat} {xs : List Value} {V V' : World} (h : PaS w pb depth colour v n xs V) (hk : Keep (fun k _ => v.ownBlock = some k) V V') (ho : OwnV 3 1 V' (pb + 1) v n xs) : PaS w pb depth colour v n xs V' := by
  have hge := fun k e => (h.2.2.1.block_ge k e).1
  exact ⟨hk.get h.1 fun e => by have := hge _ e; omega, hk.get h.2.1 fun e => by have := hge _ e; omega, ho, h.2.2.2.trans hk⟩

set_option maxHeartbeats 8000000 in
set_option maxRecDepth 100000 in
theorem specPartSamples {w : World} {R : List UInt8} {wd ht depth colour count : Nat} (ok : RowsOk wd ht depth colour count R) (db o c k : Nat) (hb : BytesAt w db o R) (hc : R.length ≤ c) :
    Calls Tryz.prog 51 #[shapeV wd ht depth colour, .int .i64 (k : Int), .slice (some ⟨db, o, none⟩) R.length c] w fun e w' => ∃ v, e = .returned (.tuple #[v, .int .i64 0]) ∧ OwnV 3 1 w' w.heap.size v (ht * (wd * chan colour)) (intsV (smpRows R wd depth colour ht)) ∧ Keep Nil2 w w' := by
  have hk : KindOk colour depth := ok.kind
  have hw := ok.w60
  have hw0 := ok.w0
  have hh := ok.h60
  have hh0 := ok.h0
  have hrb := ok.rb_le
  have hlen := ok.len
  have hR := fun V => specRowBytes V wd ht depth colour hk hw
  have hST := fun V => specStep V wd ht depth colour hk
  have hCH := fun V => specChannels V colour hk.c
  have hst : 0 < stepB depth colour ∧ stepB depth colour ≤ 1000 := by
    have : chan colour * depth ≤ 4 * 16 := Nat.mul_le_mul (chan_pos colour).2 (by have := hk.d; omega)
    unfold stepB
    omega
  obtain ⟨st, hst'⟩ : ∃ st, st = stepB depth colour := ⟨_, rfl⟩
  rw [← hst'] at hST hst
  obtain ⟨rb, hrb'⟩ : ∃ rb, rb = rowB wd depth colour := ⟨_, rfl⟩
  rw [← hrb'] at hR hrb hlen
  obtain ⟨ch, hch⟩ : ∃ ch, ch = chan colour := ⟨_, rfl⟩
  have hc4 := chan_pos colour
  rw [← hch] at hCH hc4
  obtain ⟨m, hm⟩ : ∃ m, m = wd * ch := ⟨_, rfl⟩
  have hm0 : 0 < m := by rw [hm]; exact Nat.mul_pos hw0 hc4.1
  have hm240 : m ≤ 240 := by rw [hm]; exact Nat.le_trans (Nat.mul_le_mul hw hc4.2) (by decide)
  have hmd : (m * depth + 7) / 8 ≤ rb := by rw [hrb', hm, hch]; unfold rowB; exact Nat.le_refl _
  have hm60 : depth < 8 → m ≤ 60 := fun h8 => by
    have : colour = 3 := by unfold KindOk at hk; omega
    rw [hm, hch, this]
    simp [chan]
    omega
  have em : IntKind.i64.wrap ((wd : Int) * (ch : Int)) = (m : Int) := by rw [← Int.natCast_mul, ← hm]; exact IntWalk.i64_in _ (by omega)
  obtain ⟨N, hN⟩ : ∃ N, N = R.length := ⟨_, rfl⟩
  obtain ⟨mk, hmk⟩ : ∃ mk, mk = makeBytes := ⟨_, rfl⟩
  rw [← hN] at hlen hc ⊢
  have hNle : N ≤ 60 * 481 := by rw [hlen]; exact Nat.mul_le_mul hh (by omega)
  have H0 := Lib.hid (And.intro ok (And.intro hk (And.intro hrb' (And.intro hch (And.intro hm (And.intro hN hlen))))))
  have HR := Lib.hid hR
  have HST := Lib.hid hST
  have HCH := Lib.hid hCH
  clear hmk mk ok hk hrb' hch hm hN hlen hR hst' hST hCH
  unfold shapeV at HR HST ⊢
  go_enter Tryz.func51, Tryz.ntmps51
  go_wp2
  obtain ⟨pb, hpb⟩ : ∃ pb, pb = w.heap.size := ⟨_, rfl⟩
  rw [← hpb]
  obtain ⟨w1, hw1⟩ : ∃ w1, w1 = w.alloc (.cells #[.int .i64 (wd : Int), .int .i64 (ht : Int), .int .i64 (depth : Int), .int .i64 (colour : Int), .bool false] 30) := ⟨_, rfl⟩
  rw [← hw1]
  have hs0 : ShS w pb wd ht depth colour w1 := by
    rw [hw1, hpb]
    have hh := heap_alloc_new w (.cells #[.int .i64 (wd : Int), .int .i64 (ht : Int), .int .i64 (depth : Int), .int .i64 (colour : Int), .bool false] 30)
    exact ⟨cell_of_row _ _ _ _ _ _ hh, cell_of_row _ _ _ _ _ _ hh, cell_of_row _ _ _ _ _ _ hh, cell_of_row _ _ _ _ _ _ hh, cell_of_row _ _ _ _ _ _ hh, (Keep.refl Nil2 w).alloc _⟩
  have hlt1 : pb + 1 ≤ w1.heap.size := by rw [hw1, hpb]; simp
  have HPB := Lib.hid (And.intro hpb hlt1)
  clear hw1 hpb
  have KS := Lib.hid (fun V V' (h : ShS w pb wd ht depth colour V) (hk : Keep Nil2 V V') => shS_keep h hk)
  have K1 := Lib.hid (fun V (h : ShS w pb wd ht depth colour V) => (specPartOf V k).mono (fun e w' (h2 : e = .returned partV ∧ Keep Nil2 V w') => And.intro h2.1 (show ShS w pb wd ht depth colour w' from shS_keep h h2.2)))
  have K2 := Lib.hid (fun V (h : ShS w pb wd ht depth colour V) => (specSize V wd ht ⟨hw0, hw⟩ ⟨hh0, hh⟩).mono (fun e w' (h2 : e = .returned (.tuple #[.int .i64 (wd : Int), .int .i64 (ht : Int)]) ∧ Keep Nil2 V w') => And.intro h2.1 (show ShS w pb wd ht depth colour w' from shS_keep h h2.2)))
  unfold partV at K1 K2
  go_region_held3 (fun w' => w'.cell? ⟨pb, 0, none⟩ = some (.int .i64 (wd : Int)) ∧ w'.cell? ⟨pb, 1, none⟩ = some (.int .i64 (ht : Int)) ∧ w'.cell? ⟨pb, 2, none⟩ = some (.int .i64 (depth : Int)) ∧ w'.cell? ⟨pb, 3, none⟩ = some (.int .i64 (colour : Int)) ∧ w'.cell? ⟨pb, 4, none⟩ = some (.bool false) ∧ Keep Nil2 w w')
    (first | assumption | exact KS.out _ _ (by assumption) ((Keep.refl Nil2 _).drew))
    (first | (go_at_call 50; refine (K1.out _ (by assumption)).mono ?_; rintro e w2 ⟨rfl, hsR⟩) | (go_at_call 52; refine (K2.out _ (by assumption)).mono ?_; rintro e w3 ⟨rfl, hsR⟩))
  have hS : ShS w pb wd ht depth colour w3 := by assumption
  obtain ⟨c0, c1, c2, c3, c4, hkS⟩ := hS
  have HS := Lib.hid (show ShS w pb wd ht depth colour w3 from ⟨c0, c1, c2, c3, c4, hkS⟩)
  clear hkS
  go_wp2_with (go_at_call 75; fail)
  refine (HR.out _).mono ?_
  rintro e w4 ⟨rfl, hk4⟩
  have hsz4 : pb + 1 ≤ w4.heap.size := by have h1 : pb < w3.heap.size := World.block_lt_of_cell? w3 _ c0; have := hk4.size; omega
  have HS4 := Lib.hid (shS_keep HS.out hk4)
  clear hk4 c0 c1 c2 c3 c4
  obtain ⟨cs, hmk, hcs, hcs0⟩ := makeBytes w4 .i64 .i64 rb (by omega)
  have hmf := makeBytes_facts (w := w4) hcs hcs0
  have HMF := Lib.hid hmf
  clear hmf hcs hcs0
  go_wp2
  obtain ⟨w5, hw5⟩ : ∃ w5, w5 = (w4.alloc (.cells cs 5)).alloc (.cells #[] 3) := ⟨_, rfl⟩
  rw [← hw5]
  obtain ⟨ab0, hab0⟩ : ∃ ab0, ab0 = w4.heap.size := ⟨_, rfl⟩
  have hk45 : Keep Nil2 w4 w5 := by rw [hw5]; exact ((Keep.refl Nil2 w4).alloc _).alloc _
  have H5 := Lib.hid (show BytesAt w5 ab0 0 (List.replicate rb 0) ∧ OwnV 3 1 w5 (pb + 1) (.slice (some ⟨ab0 + 1, 0, none⟩) 0 0) (0 * m) (intsV (smpRows R wd depth colour 0)) ∧ ShS w pb wd ht depth colour w5 by
    refine ⟨?_, ?_, shS_keep HS4.out hk45⟩
    · rw [hw5, hab0]
      exact HMF.out.1.keep ((Keep.refl Nil2 _).alloc _) fun _ _ e => e
    · have h1 := OwnV.lit (e := 3) (size := 1) (w4.alloc (.cells cs 5)) #[] 0 [] rfl rfl (by omega)
      have h2 : (w4.alloc (.cells cs 5)).heap.size = ab0 + 1 := by rw [hab0]; simp
      rw [h2, ← hw5] at h1
      rw [smpRows_zero, Nat.zero_mul]
      exact h1.lower (by omega))
  rw [← hab0]
  clear hw5 hk45 hab0 hmk hsz4
  go_loopg [11, 12, 13, 14, 34] ht (fun G v11 v12 v13 v14 v34 wr => ∃ y g ab ac a, g = G ∧ y + g = ht ∧ v34 = .int .i64 (y : Int) ∧ v11 = .slice (some ⟨ab, 0, none⟩) rb ac ∧ a.length = rb ∧ BytesAt wr ab 0 a ∧ OwnV 3 1 wr (pb + 1) v12 (y * m) (intsV (smpRows R wd depth colour y)) ∧ ShS w pb wd ht depth colour wr)
  case atStart => exact ⟨0, ht, ab0, rb, List.replicate rb 0, rfl, by omega, rfl, rfl, by simp, H5.out.1, H5.out.2.1, H5.out.2.2⟩
  case round =>
    obtain ⟨y, g, ab, ac, a, hG, hyg, rfl, rfl, hal, hA, hO, hSh⟩ := hrel
    have HG := Lib.hid hG
    clear hG
    by_cases hy : y < ht
    · have d1 : decide ((y : Int) < (ht : Int)) = true := by simp; omega
      have hrl := rowL_length (rb := rb) (by rw [← H0.out.2.2.2.2.2.1]; exact H0.out.2.2.2.2.2.2) hy
      have hft := H0.out.1.ft y hy
      rw [← H0.out.2.2.1] at hft
      obtain ⟨A, hAe⟩ : ∃ A, A = y * (1 + rb) := ⟨_, rfl⟩
      rw [← hAe] at hrl hft
      have hRA : R[A]? = some 0 := by
        rw [List.getD_eq_getElem?_getD] at hft
        rw [List.getElem?_eq_getElem (by omega)] at hft ⊢
        simpa using hft
      have hAN : A + 1 + rb ≤ N := by rw [H0.out.2.2.2.2.2.1]; exact hrl.2
      obtain ⟨A1, hA1⟩ : ∃ A1, A1 = A + 1 := ⟨_, rfl⟩
      obtain ⟨A2, hA2⟩ : ∃ A2, A2 = A1 + rb := ⟨_, rfl⟩
      obtain ⟨r1, hr1⟩ : ∃ r1, r1 = rb + 1 := ⟨_, rfl⟩
      have e1 : IntKind.i64.wrap ((rb : Int) + 1) = (r1 : Int) := by rw [IntWalk.i64_in _ (by omega)]; omega
      have e2 : IntKind.i64.wrap ((y : Int) * (r1 : Int)) = (A : Int) := by rw [← Int.natCast_mul, hr1, Nat.add_comm rb, ← hAe]; exact IntWalk.i64_in _ (by omega)
      have e3 : IntKind.i64.wrap ((A : Int) + 1) = (A1 : Int) := by rw [IntWalk.i64_in _ (by omega)]; omega
      have e4 : IntKind.i64.wrap ((A1 : Int) + (rb : Int)) = (A2 : Int) := by rw [IntWalk.i64_in _ (by omega)]; omega
      have e5 : A2 ≤ N := by omega
      have e6 : (A : Int) < N := by omega
      have e7 : (A1 : Int) ≤ (A2 : Int) := by omega
      have e8 : (A2 : Int) ≤ c := by omega
      have e9 : ¬ c = A1 := by omega
      have e10 : A2 - A1 = rb := by omega
      have hdk := hb.keep hSh.2.2.2.2.2 fun _ _ e => e
      have ca := hdk.at_ A 0 hRA
      have HROW := Lib.hid (show ∀ V, Keep Nil2 wr V → BytesAt V db (o + A1) (rowL R rb y) by
        intro V hV
        have h1 := ((hdk.keep hV fun _ _ e => e).drop (A + 1)).take rb
        rw [hA1]
        unfold rowL
        rw [← hAe]
        exact h1)
      have HRL := Lib.hid (And.intro hrl.1 (And.intro hal (And.intro hA (And.intro hO hSh))))
      have hs0 : PsS wr pb wd ht depth colour db (o + A) wr := ⟨hSh.1, hSh.2.1, hSh.2.2.1, hSh.2.2.2.1, hSh.2.2.2.2.1, ca, Keep.refl _ _⟩
      obtain ⟨c0, c1, c2, c3, c4, -⟩ := hSh
      clear hrl hAe hRA hft hA1 hA2 hr1 hdk hA hO hal
      have KS := Lib.hid (fun V V' (h : PsS wr pb wd ht depth colour db (o + A) V) (hk : Keep Nil2 V V') => psS_keep h hk)
      have K77 := Lib.hid (fun V (h : PsS wr pb wd ht depth colour db (o + A) V) => (HST.out V).mono (fun e w' (h2 : e = .returned (.int .i64 (st : Int)) ∧ Keep Nil2 V w') => And.intro h2.1 (show PsS wr pb wd ht depth colour db (o + A) w' from psS_keep h h2.2)))
      have K76 := Lib.hid (fun V (h : PsS wr pb wd ht depth colour db (o + A) V) => (specUnfiltered (w := V) (r := rowL R rb y) (a := a) db (o + A1) (c - A1) ab 0 ac rb st (HROW.out V h.2.2.2.2.2.2) (HRL.out.2.2.1.keep h.2.2.2.2.2.2 fun _ _ e => e) HRL.out.1.symm HRL.out.2.1.symm hrb.2 hst.1 hst.2 (by omega)).mono (fun e w' (h2 : ∃ v, e = .returned v ∧ OwnB w' V.heap.size v (rowL R rb y) ∧ Keep Nil2 V w') => show ∃ g cap, e = .returned (.slice (some ⟨g, 0, none⟩) rb cap) ∧ BytesAt w' g 0 (rowL R rb y) ∧ wr.heap.size ≤ g ∧ PsS wr pb wd ht depth colour db (o + A) w' by
        obtain ⟨v, h3, h4, h5⟩ := h2
        obtain ⟨g, cap, e1, hge, _, _, hb, _⟩ := h4.slice (by rw [HRL.out.1]; exact hrb.2)
        subst e1
        rw [HRL.out.1] at h3
        exact ⟨g, cap, h3, hb, Nat.le_trans h.2.2.2.2.2.2.size hge, psS_keep h h5⟩))
      go_wp2
      go_region_held3 (fun w' => w'.cell? ⟨pb, 0, none⟩ = some (.int .i64 (wd : Int)) ∧ w'.cell? ⟨pb, 1, none⟩ = some (.int .i64 (ht : Int)) ∧ w'.cell? ⟨pb, 2, none⟩ = some (.int .i64 (depth : Int)) ∧ w'.cell? ⟨pb, 3, none⟩ = some (.int .i64 (colour : Int)) ∧ w'.cell? ⟨pb, 4, none⟩ = some (.bool false) ∧ w'.cell? ⟨db, o + A, none⟩ = some (.int .u8 0) ∧ Keep Nil2 wr w')
        (first | assumption | exact KS.out _ _ (by assumption) ((Keep.refl Nil2 _).drew))
        (first | (go_at_call 77; refine (K77.out _ (by assumption)).mono ?_; rintro e w6 ⟨rfl, hsR⟩) | (go_at_call 76; refine (K76.out _ (by assumption)).mono ?_; rintro e w7 ⟨g7, cap7, rfl, hb7, hg7, hsR⟩))
      have hS7 : PsS wr pb wd ht depth colour db (o + A) w7 := by assumption
      have HW7 := Lib.hid (show BytesAt w7 g7 0 (rowL R rb y) ∧ OwnV 3 1 w7 (pb + 1) u12 (y * m) (intsV (smpRows R wd depth colour y)) ∧ ShS w pb wd ht depth colour w7 from
        ⟨hb7, HRL.out.2.2.2.1.keep0 hS7.2.2.2.2.2.2, shS_keep HRL.out.2.2.2.2 hS7.2.2.2.2.2.2⟩)
      have hp0 : PaS w7 pb depth colour u12 (y * m) (intsV (smpRows R wd depth colour y)) w7 := ⟨hS7.2.2.1, hS7.2.2.2.1, HW7.out.2.1, Keep.refl _ _⟩
      have hsz7 : pb + 1 ≤ w7.heap.size := by have := World.block_lt_of_cell? w7 _ hS7.1; exact this
      have hym : y * m ≤ 60 * 240 := Nat.mul_le_mul (by omega) hm240
      have hg7 : ∀ k, u12.ownBlock = some k → k ≠ g7 := fun k e => by have := (HRL.out.2.2.2.1.block_ge k e).2; omega
      clear hb7 hsR hS7 hs0 c0 c1 c2 c3 c4 ca KS K77 K76 HROW
      have KS := Lib.hid (fun V V' (h : PaS w7 pb depth colour u12 (y * m) (intsV (smpRows R wd depth colour y)) V) (hk : Keep Nil2 V V') => paS_keep h hk)
      have KA := Lib.hid (fun V V' (h : PaS w7 pb depth colour u12 (y * m) (intsV (smpRows R wd depth colour y)) V) (hk : Keep (fun k _ => u12.ownBlock = some k) V V') (ho : OwnV 3 1 V' (pb + 1) u12 (y * m) (intsV (smpRows R wd depth colour y))) => paS_app h hk ho)
      have KO := Lib.hid (fun V (h : PaS w7 pb depth colour u12 (y * m) (intsV (smpRows R wd depth colour y)) V) => h.2.2.1)
      have KH := Lib.hid (fun V (h : PaS w7 pb depth colour u12 (y * m) (intsV (smpRows R wd depth colour y)) V) => Nat.le_trans hsz7 h.2.2.2.size)
      have K39 := Lib.hid (fun V (h : PaS w7 pb depth colour u12 (y * m) (intsV (smpRows R wd depth colour y)) V) => (HCH.out V).mono (fun e w' (h2 : e = .returned (.int .i64 (ch : Int)) ∧ V = w') => And.intro h2.1 (show PaS w7 pb depth colour u12 (y * m) (intsV (smpRows R wd depth colour y)) w' from h2.2 ▸ h)))
      have K78 := Lib.hid (fun V (h : PaS w7 pb depth colour u12 (y * m) (intsV (smpRows R wd depth colour y)) V) => (samplesOfAny (w := V) (r := rowL R rb y) g7 0 rb cap7 m HRL.out.1.symm (HW7.out.1.keep h.2.2.2 fun _ _ e => hg7 _ e rfl) depth H0.out.2.1.d hmd hm60 (by omega)).mono (fun e w' (h2 : ∃ v, e = .returned v ∧ OwnV 3 1 w' V.heap.size v m (intsV ((List.range m).map (rowSmp (rowL R rb y) depth))) ∧ Keep Nil2 V w') => show ∃ g cap, e = .returned (.slice (some ⟨g, 0, none⟩) m cap) ∧ CellsAt w' g 0 (intsV ((List.range m).map (rowSmp (rowL R rb y) depth))) ∧ PaS w7 pb depth colour u12 (y * m) (intsV (smpRows R wd depth colour y)) w' by
        obtain ⟨v, h3, h4, h5⟩ := h2
        obtain ⟨g, cap, e1, _, _, _, hb, _⟩ := h4.out hm0
        subst e1
        exact ⟨g, cap, h3, hb, paS_keep h h5⟩))
      have hp1 := hp0
      obtain ⟨c2, c3, -⟩ := hp1
      go_wp2
      go_region_held3 (fun w' => w'.cell? ⟨pb, 2, none⟩ = some (.int .i64 (depth : Int)) ∧ w'.cell? ⟨pb, 3, none⟩ = some (.int .i64 (colour : Int)) ∧ OwnV 3 1 w' (pb + 1) u12 (y * m) (intsV (smpRows R wd depth colour y)) ∧ Keep (fun k _ => u12.ownBlock = some k) w7 w')
        (first | assumption | exact KA.out _ _ (by assumption) h2 h3 | exact KS.out _ _ (by assumption) ((Keep.refl Nil2 _).drew))
        (first | (go_at_call 39; refine (K39.out _ (by assumption)).mono ?_; rintro e w8 ⟨rfl, hsR⟩) | (go_at_call 78; refine (K78.out _ (by assumption)).mono ?_; rintro e w9 ⟨g9, cap9, rfl, hb9, hsR⟩) | (refine step_append_vals rfl (.tmp 72) (.tmp 81) 32 3 rfl (.int .i64 0) 1 8 Tryz.underlying32 info3 rfl (by decide) (by decide) (pb + 1) u12 (y * m) (intsV (smpRows R wd depth colour y)) rfl (KO.out _ (by assumption)) _ _ m _ (intsV ((List.range m).map (rowSmp (rowL R rb y) depth))) rfl (by assumption) (by simp [intsV]) (intsV_one _) (by omega) (KH.out _ (by assumption)) ?_; intro v' w' h1 h2 h3))
      have hS9 : PaS w7 pb depth colour u12 (y * m) (intsV (smpRows R wd depth colour y)) w' := by assumption
      have hkk := hS9.2.2.2
      have hge := fun k e => (HW7.out.2.1.block_ge k e).1
      have HF := Lib.hid (show BytesAt w' g7 0 (rowL R rb y) ∧ OwnV 3 1 w' (pb + 1) v' ((y + 1) * m) (intsV (smpRows R wd depth colour (y + 1))) ∧ ShS w pb wd ht depth colour w' by
        refine ⟨HW7.out.1.keep hkk fun _ _ e => hg7 _ e rfl, ?_, ?_⟩
        · have e1 : smpRows R wd depth colour (y + 1) = smpRows R wd depth colour y ++ (List.range m).map (rowSmp (rowL R rb y) depth) := by
            rw [smpRows_succ H0.out.1 y, H0.out.2.2.2.2.1, H0.out.2.2.2.1, H0.out.2.2.1]
          rw [e1, intsV_append, Nat.add_mul, Nat.one_mul]
          exact h1
        · have hs := HW7.out.2.2
          exact ⟨hkk.get hs.1 fun e => by have := hge _ e; omega, hkk.get hs.2.1 fun e => by have := hge _ e; omega, hkk.get hs.2.2.1 fun e => by have := hge _ e; omega, hkk.get hs.2.2.2.1 fun e => by have := hge _ e; omega, hkk.get hs.2.2.2.2.1 fun e => by have := hge _ e; omega, keep_layV' hs.2.2.2.2.2 HW7.out.2.1 hkk (by have := HPB.out.1; omega)⟩)
      have HRL1 := Lib.hid HRL.out.1
      clear h1 h2 h3 hb9 hsR hkk hge hS9 hp0 c2 c3 hg7
      go_wp2
      go_roundg (g - 1)
      case measure => have := HG.out; omega
      case rel => exact ⟨y + 1, g - 1, g7, cap7, rowL R rb y, rfl, by omega, by go_num, rfl, HRL1.out, HF.out.1, HF.out.2.1, HF.out.2.2⟩
    · obtain rfl : y = ht := by omega
      have d1 : decide ((y : Int) < (y : Int)) = false := by simp
      have HO := Lib.hid (And.intro hO hSh)
      clear hO hSh hA hal
      go_wp2
      go_ret2
      refine ⟨_, rfl, ?_, HO.out.2.2.2.2.2.2⟩
      have := H0.out
      rw [← this.2.2.2.1, ← this.2.2.2.2.1]
      exact HO.out.1.lower (by have := HPB.out.1; omega)
end Go.Proofs.YtnbbppjgamdfeaaGreatDoor
end
