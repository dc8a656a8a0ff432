/- laws.FnBack, part 37 of 54: N7. -/
import Derived.Test.YtnbbppjgamdfeaaGreatDoorY36

/- The reference's Samples. -/
section
set_option linter.unusedVariables false
set_option linter.unusedSimpArgs false
namespace Go.Proofs.YtnbbppjgamdfeaaGreatDoor
open Go Go.RowKit

theorem makeInts (w : World) (kl kc : IntKind) (n : Nat) (hn : n ≤ 1073741824) :
    ∃ cs : Array Value, (Instr.makeSlice 32 (.int kl (n : Int)) (.int kc (n : Int))).run Tryz.prog w = .ok (.slice (some ⟨w.heap.size, 0, none⟩) n n) (w.alloc (.cells cs 3)) ∧ cs.toList = intsV (List.replicate n 0) := by
  obtain ⟨i, hi, hz, hsz, hby⟩ := info_of (P := Tryz.prog) (e := 3) (z := .int .i64 0) (size := 1) (bytes := 8) (by kernel_rfl)
  have := run_make (P := Tryz.prog) w 32 3 i (.int .i64 0) Tryz.underlying32 hi hz kl kc n n (by omega) (by omega) (by rw [hby]; omega) (by omega)
  refine ⟨madeCells #[.int .i64 0] n, by rw [this, hsz, Int.toNat_natCast, Nat.mul_one]; rfl, ?_⟩
  unfold madeCells intsV
  apply List.ext_getElem?
  intro j
  simp [Nat.mod_one]
  by_cases hj : j < n
  · simp [hj]
  · simp [hj]

/-- What stands of the world while a sample's place is reckoned. -/
def PlS (wr : World) (pb tb wd g base n : Nat) (v : Value) (xs : List Value) (w' : World) : Prop := w'.cell? ⟨pb, 0, none⟩ = some (.int .i64 (wd : Int)) ∧ w'.cell? ⟨tb, 0, none⟩ = some (.int .i64 0) ∧ w'.cell? ⟨tb, 1, none⟩ = some (.int .i64 0) ∧ w'.cell? ⟨tb, 2, none⟩ = some (.int .i64 1) ∧ w'.cell? ⟨tb, 3, none⟩ = some (.int .i64 1)

attribute [local go_sem] max2_max max_two'
set_option maxHeartbeats 8000000 in
set_option maxRecDepth 100000 in
theorem specSamples {w : World} {R : List UInt8} {wd ht depth colour count : Nat} (ok : RowsOk wd ht depth colour count R) (db o c : Nat) (hb : BytesAt w db o R) (hc : R.length ≤ c) :
    Calls Tryz.prog 36 #[shapeV wd ht depth colour, .slice (some ⟨db, o, none⟩) R.length c] w fun e w' => ∃ v, e = .returned (.tuple #[v, .int .i64 0]) ∧ OwnV 3 1 w' w.heap.size v (ht * (wd * chan colour)) (intsV (smpRows R wd depth colour ht)) ∧ Keep Nil2 w w' := by
  have hk : KindOk colour depth := ok.kind
  have hw := ok.w60
  have hw0 := ok.w0
  have hh := ok.h60
  have hh0 := ok.h0
  have hrb := ok.rb_le
  have hlen := ok.len
  have hc4 := chan_pos colour
  have hCH := fun V => specChannels V colour hk.c
  have hPS := fun V (h : Keep Nil2 w V) => specPartSamples (w := V) ok db o c 0 (hb.keep h fun _ _ e => e) hc
  have hPN := fun V => specPartNeed V wd ht depth colour 0 hk ⟨hw0, hw⟩ ⟨hh0, hh⟩
  have hPO := fun V => specPartOf V 0
  have hSZ := fun V => specSize V wd ht ⟨hw0, hw⟩ ⟨hh0, hh⟩
  have hll := smpRows_length R wd depth colour ht
  obtain ⟨l, hl⟩ : ∃ l, l = smpRows R wd depth colour ht := ⟨_, rfl⟩
  rw [← hlen] at hPN
  obtain ⟨D, hD⟩ : ∃ D, D = R.length := ⟨_, rfl⟩
  have hD2 : D ≤ 60 * 481 := by rw [hD, hlen]; exact Nat.mul_le_mul hh (by omega)
  obtain ⟨ch, hch⟩ : ∃ ch, ch = chan colour := ⟨_, rfl⟩
  obtain ⟨n, hn⟩ : ∃ n, n = ht * (wd * ch) := ⟨_, rfl⟩
  rw [← hD] at hPS hPN hc ⊢
  rw [← hch] at hCH hc4 hll hPS ⊢
  rw [← hn] at hPS hll ⊢
  rw [← hl] at hPS hll ⊢
  obtain ⟨p, hp⟩ : ∃ p, p = wd * ht := ⟨_, rfl⟩
  have hp2 : p ≤ 3600 := by rw [hp]; exact Nat.le_trans (Nat.mul_le_mul hw hh) (by decide)
  have hpn : n = p * ch := by rw [hn, hp, ← Nat.mul_assoc, Nat.mul_comm ht]
  have hn2 : n ≤ 14400 := by rw [hpn]; exact Nat.le_trans (Nat.mul_le_mul hp2 hc4.2) (by decide)
  have hn0 : 0 < n := by rw [hn]; exact Nat.mul_pos hh0 (Nat.mul_pos hw0 hc4.1)
  have e1 : IntKind.i64.wrap ((wd : Int) * (ht : Int)) = (p : Int) := by rw [← Int.natCast_mul, ← hp]; exact IntWalk.i64_in _ (by omega)
  have e2 : IntKind.i64.wrap ((p : Int) * (ch : Int)) = (n : Int) := by rw [← Int.natCast_mul, ← hpn]; exact IntWalk.i64_in _ (by omega)
  have em : max (wd : Int) 1 = (wd : Int) := by omega
  obtain ⟨bw, ho', hbw⟩ : ∃ bw o', (if c = D then some (⟨db, o, none⟩ : Addr) else some ⟨db, o + D, none⟩) = some ⟨bw, o', none⟩ := by
    by_cases h : c = D
    · rw [if_pos h]; exact ⟨_, _, rfl⟩
    · rw [if_neg h]; exact ⟨_, _, rfl⟩
  have hDc : (D : Int) ≤ c := by omega
  have HBW := Lib.hid hbw
  clear hbw
  have HCH := Lib.hid hCH
  have HPS := Lib.hid hPS
  have HPN := Lib.hid hPN
  have HPO := Lib.hid hPO
  have HSZ := Lib.hid hSZ
  have HL := Lib.hid (And.intro hll hpn)
  clear hCH hPS hPN hPO hSZ hl hlen hD hch hn hp hll hpn
  unfold shapeV at HPS HPN ⊢
  unfold partV at HPO HSZ
  go_enter Tryz.func36, Tryz.ntmps36
  go_wp2_with (go_at_call 39; fail)
  refine (HCH.out _).mono ?_
  rintro e w1 ⟨rfl, rfl⟩
  obtain ⟨pb, hpb⟩ : ∃ pb, pb = w.heap.size := ⟨_, rfl⟩
  rw [← hpb]
  obtain ⟨w1, hw1⟩ : ∃ w1, w1 = w.alloc (.cells #[.int .i64 (wd : Int), .int .i64 (ht : Int), .int .i64 (depth : Int), .int .i64 (colour : Int), .bool false] 30) := ⟨_, rfl⟩
  rw [← hw1]
  have hs0 : ShS w pb wd ht depth colour w1 := by
    rw [hw1, hpb]
    have hh := heap_alloc_new w (.cells #[.int .i64 (wd : Int), .int .i64 (ht : Int), .int .i64 (depth : Int), .int .i64 (colour : Int), .bool false] 30)
    exact ⟨cell_of_row _ _ _ _ _ _ hh, cell_of_row _ _ _ _ _ _ hh, cell_of_row _ _ _ _ _ _ hh, cell_of_row _ _ _ _ _ _ hh, cell_of_row _ _ _ _ _ _ hh, (Keep.refl Nil2 w).alloc _⟩
  have HPB := Lib.hid hpb
  have HS1 := Lib.hid hs0
  clear hw1 hpb
  obtain ⟨cs, hmk, hcs⟩ := makeInts w1 .i64 .i64 n (by omega)
  have hown := OwnV.lit (e := 3) (size := 1) w1 cs n (intsV (List.replicate n 0)) hcs (by simp [intsV]) (by omega)
  have hs2 := shS_keep hs0 ((Keep.refl Nil2 w1).alloc (.cells cs 3))
  have hlt : pb < w1.heap.size := World.block_lt_of_cell? w1 _ hs0.1
  obtain ⟨c0, c1, c2, c3, c4, -⟩ := hs0
  have HOW := Lib.hid hown
  clear hown hcs
  go_wp2_with (go_at_call 48; fail)
  obtain ⟨w2, hw2⟩ : ∃ w2, w2 = w1.alloc (.cells cs 3) := ⟨_, rfl⟩
  obtain ⟨g, hg⟩ : ∃ g, g = w1.heap.size := ⟨_, rfl⟩
  rw [← hw2, ← hg]
  rw [← hw2] at hs2
  have H2 := Lib.hid (show OwnV 3 1 w2 g (.slice (some ⟨g, 0, none⟩) n n) n (intsV (List.replicate n 0)) ∧ ShS w pb wd ht depth colour w2 ∧ pb < g ∧ g < w2.heap.size by
    refine ⟨?_, hs2, by omega, by rw [hw2, hg]; simp⟩
    have := HOW.out
    rw [← hw2, ← hg] at this
    exact this)
  obtain ⟨c0', c1', c2', c3', c4', -⟩ := hs2
  clear c0 c1 c2 c3 c4 hw2 hg hlt hmk
  refine (specPasses _).mono ?_
  rintro e w3 ⟨rfl, rfl⟩
  go_wp2
  refine wp_loop_rounds 2 ?_
  rw [rounds_succ]
  go_wp2_with (go_at_call 50; fail)
  refine (HPO.out _).mono ?_
  rintro e w3 ⟨rfl, hk3⟩
  have hs3 := shS_keep H2.out.2.1 hk3
  have H3 := Lib.hid (And.intro (H2.out.1.keep0 hk3) (And.intro hs3 (show g < w3.heap.size from Nat.lt_of_lt_of_le H2.out.2.2.2 hk3.size)))
  clear c0' c1' c2' c3' c4' hk3
  have hs4 := shS_keep hs3 ((Keep.refl Nil2 w3).alloc (.cells #[.int .i64 0, .int .i64 0, .int .i64 1, .int .i64 1] 135))
  have hp4 : ∀ j, (w3.alloc (.cells #[.int .i64 0, .int .i64 0, .int .i64 1, .int .i64 1] 135)).cell? ⟨w3.heap.size, j, none⟩ = (#[Value.int .i64 0, .int .i64 0, .int .i64 1, .int .i64 1] : Array Value)[j]? := fun j => cell_of_row _ _ _ _ _ _ (heap_alloc_new w3 _)
  have hs4' := hs4
  obtain ⟨c0, c1, c2, c3, c4, -⟩ := hs4
  have HP4 := Lib.hid hp4
  clear hp4 hs3
  go_wp2_with (go_at_call 51; fail)
  obtain ⟨w4, hw4⟩ : ∃ w4, w4 = w3.alloc (.cells #[.int .i64 0, .int .i64 0, .int .i64 1, .int .i64 1] 135) := ⟨_, rfl⟩
  obtain ⟨tb, htb⟩ : ∃ tb, tb = w3.heap.size := ⟨_, rfl⟩
  rw [← hw4, ← htb]
  rw [← hw4] at hs4' c0 c1 c2 c3 c4
  have H4 := Lib.hid (show OwnV 3 1 w4 g (.slice (some ⟨g, 0, none⟩) n n) n (intsV (List.replicate n 0)) ∧ ShS w pb wd ht depth colour w4 ∧ g < tb ∧ tb < w4.heap.size ∧ w4.cell? ⟨tb, 0, none⟩ = some (.int .i64 0) ∧ w4.cell? ⟨tb, 1, none⟩ = some (.int .i64 0) ∧ w4.cell? ⟨tb, 2, none⟩ = some (.int .i64 1) ∧ w4.cell? ⟨tb, 3, none⟩ = some (.int .i64 1) by
    have h := HP4.out
    rw [← hw4, ← htb] at h
    have hk : Keep Nil2 w3 w4 := by rw [hw4]; exact (Keep.refl Nil2 w3).alloc _
    refine ⟨H3.out.1.keep0 hk, hs4', by rw [htb]; exact H3.out.2.2, by rw [hw4, htb]; simp, ?_, ?_, ?_, ?_⟩
    · rw [h]; rfl
    · rw [h]; rfl
    · rw [h]; rfl
    · rw [h]; rfl)
  clear hw4 htb hs4' c0 c1 c2 c3 c4
  refine (HPS.out _ H4.out.2.1.2.2.2.2.2).mono ?_
  rintro e w5 ⟨lv, rfl, hlv, hk5⟩
  obtain ⟨lb, lc, rfl, hlb, _, _, hcl, _⟩ := hlv.out hn0
  have hs5 := shS_keep H4.out.2.1 hk5
  have H5 := Lib.hid (show OwnV 3 1 w5 g (.slice (some ⟨g, 0, none⟩) n n) n (intsV (List.replicate n 0)) ∧ ShS w pb wd ht depth colour w5 ∧ g < tb ∧ tb < lb ∧ w5.cell? ⟨tb, 0, none⟩ = some (.int .i64 0) ∧ w5.cell? ⟨tb, 1, none⟩ = some (.int .i64 0) ∧ w5.cell? ⟨tb, 2, none⟩ = some (.int .i64 1) ∧ w5.cell? ⟨tb, 3, none⟩ = some (.int .i64 1) ∧ CellsAt w5 lb 0 (intsV l) from
    ⟨H4.out.1.keep0 hk5, hs5, H4.out.2.2.1, Nat.lt_of_lt_of_le H4.out.2.2.2.1 hlb, hk5.get H4.out.2.2.2.2.1 fun e => e, hk5.get H4.out.2.2.2.2.2.1 fun e => e, hk5.get H4.out.2.2.2.2.2.2.1 fun e => e, hk5.get H4.out.2.2.2.2.2.2.2 fun e => e, hcl⟩)
  clear hlv hlb hcl hk5
  obtain ⟨c0, c1, c2, c3, c4, -⟩ := hs5
  have hbw := HBW.out
  go_wp2_with (go_at_call 49; fail)
  refine (HPN.out _).mono ?_
  rintro e w6 ⟨rfl, hk6⟩
  have hs6 := shS_keep H5.out.2.1 hk6
  have H6 := Lib.hid (show OwnV 3 1 w6 g (.slice (some ⟨g, 0, none⟩) n n) n (intsV (List.replicate n 0)) ∧ ShS w pb wd ht depth colour w6 ∧ g < tb ∧ tb < lb ∧ w6.cell? ⟨tb, 0, none⟩ = some (.int .i64 0) ∧ w6.cell? ⟨tb, 1, none⟩ = some (.int .i64 0) ∧ w6.cell? ⟨tb, 2, none⟩ = some (.int .i64 1) ∧ w6.cell? ⟨tb, 3, none⟩ = some (.int .i64 1) ∧ CellsAt w6 lb 0 (intsV l) from
    ⟨H5.out.1.keep0 hk6, hs6, H5.out.2.2.1, H5.out.2.2.2.1, hk6.get H5.out.2.2.2.2.1 fun e => e, hk6.get H5.out.2.2.2.2.2.1 fun e => e, hk6.get H5.out.2.2.2.2.2.2.1 fun e => e, hk6.get H5.out.2.2.2.2.2.2.2.1 fun e => e, H5.out.2.2.2.2.2.2.2.2.keep hk6 fun _ _ e => e⟩)
  clear hk6 c0 c1 c2 c3 c4
  obtain ⟨c0, c1, c2, c3, c4, -⟩ := hs6
  have t0 := H6.out.2.2.2.2.1
  have t1 := H6.out.2.2.2.2.2.1
  have t2 := H6.out.2.2.2.2.2.2.1
  have t3 := H6.out.2.2.2.2.2.2.2.1
  go_wp2_with (go_at_call 52; fail)
  refine (HSZ.out _).mono ?_
  rintro e w7 ⟨rfl, hk7⟩
  have hs7 := shS_keep H6.out.2.1 hk7
  have H7 := Lib.hid (show OwnV 3 1 w7 g (.slice (some ⟨g, 0, none⟩) n n) n (intsV (List.replicate n 0)) ∧ ShS w pb wd ht depth colour w7 ∧ g < tb ∧ tb < lb ∧ w7.cell? ⟨tb, 0, none⟩ = some (.int .i64 0) ∧ w7.cell? ⟨tb, 1, none⟩ = some (.int .i64 0) ∧ w7.cell? ⟨tb, 2, none⟩ = some (.int .i64 1) ∧ w7.cell? ⟨tb, 3, none⟩ = some (.int .i64 1) ∧ CellsAt w7 lb 0 (intsV l) from
    ⟨H6.out.1.keep0 hk7, hs7, H6.out.2.2.1, H6.out.2.2.2.1, hk7.get H6.out.2.2.2.2.1 fun e => e, hk7.get H6.out.2.2.2.2.2.1 fun e => e, hk7.get H6.out.2.2.2.2.2.2.1 fun e => e, hk7.get H6.out.2.2.2.2.2.2.2.1 fun e => e, H6.out.2.2.2.2.2.2.2.2.keep hk7 fun _ _ e => e⟩)
  clear hk7 hs7 c0 c1 c2 c3 c4 t0 t1 t2 t3
  have hpg := H2.out.2.2.1
  have z1 : ((ch : Int) == 0) = false := by simp; omega
  have z2 : ((wd : Int) == 0) = false := by simp; omega
  have z1' : ¬ (ch : Int) = 0 := by omega
  have z2' : ¬ (wd : Int) = 0 := by omega
  have z1n : ¬ ch = 0 := by omega
  have z2n : ¬ wd = 0 := by omega
  go_wp2
  go_loopg [14, 15, 16, 17, 65] n (fun G v14 v15 v16 v17 v65 wr => ∃ k m, m = G ∧ k + m = n ∧ v65 = .int .i64 (k : Int) ∧ OwnV 3 1 wr g (.slice (some ⟨g, 0, none⟩) n n) n (intsV (fillUp l k)) ∧ Keep (fun i _ => i = g) w7 wr)
  case atStart => exact ⟨0, n, rfl, by omega, rfl, by rw [fillUp_zero, HL.out.1]; exact H7.out.1, Keep.refl _ _⟩
  case round =>
    obtain ⟨k, m, hG, hkm, rfl, hO, hK⟩ := hrel
    have HG := Lib.hid hG
    clear hG
    by_cases hk : k < n
    · have d1 : decide ((k : Int) < (n : Int)) = true := by simp; omega
      have hkI : (k : Int) < n := by omega
      obtain ⟨v, hv⟩ : ∃ v, l[k]? = some v := ⟨l[k]'(by rw [HL.out.1]; exact hk), List.getElem?_eq_getElem _⟩
      have cl := hK.get (H7.out.2.2.2.2.2.2.2.2.int k v hv) (fun e => by have := H7.out; omega)
      rw [Nat.zero_add] at cl
      have ct0 := hK.get H7.out.2.2.2.2.1 (fun e => by have := H7.out; omega)
      have ct1 := hK.get H7.out.2.2.2.2.2.1 (fun e => by have := H7.out; omega)
      have ct2 := hK.get H7.out.2.2.2.2.2.2.1 (fun e => by have := H7.out; omega)
      have ct3 := hK.get H7.out.2.2.2.2.2.2.2.1 (fun e => by have := H7.out; omega)
      have cp0 := hK.get H7.out.2.1.1 (fun e => by omega)
      obtain ⟨g', cap', e, _, _, _, hcg, hfg⟩ := hO.out hn0
      have eg : g = g' := by injection e with e; injection e with e; injection e
      clear e
      subst eg
      obtain ⟨u, hu⟩ : ∃ u, (intsV (fillUp l k))[k]? = some u := ⟨(intsV (fillUp l k))[k]'(by rw [intsV_length, fillUp_length l k (by rw [HL.out.1]; omega), HL.out.1]; exact hk), List.getElem?_eq_getElem _⟩
      have cg := hcg k u hu
      rw [Nat.zero_add] at cg
      have fg := hfg k
      obtain ⟨q, hq⟩ : ∃ q, q = k / ch := ⟨_, rfl⟩
      obtain ⟨r, hr⟩ : ∃ r, r = k % ch := ⟨_, rfl⟩
      obtain ⟨x, hx⟩ : ∃ x, x = q % wd := ⟨_, rfl⟩
      obtain ⟨y, hy⟩ : ∃ y, y = q / wd := ⟨_, rfl⟩
      have hqk : q ≤ k := by rw [hq]; exact Nat.div_le_self _ _
      have hyq : y ≤ q := by rw [hy]; exact Nat.div_le_self _ _
      have hxw : x < wd := by rw [hx]; exact Nat.mod_lt _ hw0
      have hrc : r < ch := by rw [hr]; exact Nat.mod_lt _ hc4.1
      obtain ⟨t1, ht1⟩ : ∃ t1, t1 = y * wd := ⟨_, rfl⟩
      have hq2 : t1 + x = q := by rw [ht1, hx, hy, Nat.mul_comm]; exact Nat.div_add_mod q wd
      obtain ⟨t2, ht2⟩ : ∃ t2, t2 = q * ch := ⟨_, rfl⟩
      have hk2 : t2 + r = k := by rw [ht2, hr, hq, Nat.mul_comm]; exact Nat.div_add_mod k ch
      have f1 : Int.tdiv (k : Int) (ch : Int) = (q : Int) := by rw [Int.tdiv_eq_ediv_of_nonneg (by omega), hq]; simp
      have f1' : (k : Int) / (ch : Int) = (q : Int) := by rw [hq]; simp
      have f2 : Int.tmod (k : Int) (ch : Int) = (r : Int) := by rw [Int.tmod_eq_emod_of_nonneg (by omega), hr]; simp
      have f2' : (k : Int) % (ch : Int) = (r : Int) := by rw [hr]; simp
      have f3 : Int.tdiv (q : Int) (wd : Int) = (y : Int) := by rw [Int.tdiv_eq_ediv_of_nonneg (by omega), hy]; simp
      have f3' : (q : Int) / (wd : Int) = (y : Int) := by rw [hy]; simp
      have f4 : Int.tmod (q : Int) (wd : Int) = (x : Int) := by rw [Int.tmod_eq_emod_of_nonneg (by omega), hx]; simp
      have f4' : (q : Int) % (wd : Int) = (x : Int) := by rw [hx]; simp
      have wq : IntKind.i64.wrap (q : Int) = (q : Int) := IntWalk.i64_in _ (by omega)
      have wr' : IntKind.i64.wrap (r : Int) = (r : Int) := IntWalk.i64_in _ (by omega)
      have wx : IntKind.i64.wrap (x : Int) = (x : Int) := IntWalk.i64_in _ (by omega)
      have wy : IntKind.i64.wrap (y : Int) = (y : Int) := IntWalk.i64_in _ (by omega)
      have g1 : IntKind.i64.wrap ((y : Int) * (wd : Int)) = (t1 : Int) := by rw [← Int.natCast_mul, ← ht1]; exact IntWalk.i64_in _ (by omega)
      have g2 : IntKind.i64.wrap ((t1 : Int) + (x : Int)) = (q : Int) := by rw [IntWalk.i64_in _ (by omega)]; omega
      have g3 : IntKind.i64.wrap ((q : Int) * (ch : Int)) = (t2 : Int) := by rw [← Int.natCast_mul, ← ht2]; exact IntWalk.i64_in _ (by omega)
      have g4 : IntKind.i64.wrap ((t2 : Int) + (r : Int)) = (k : Int) := by rw [IntWalk.i64_in _ (by omega)]; omega
      have HF := Lib.hid (show OwnV 3 1 (wr.setCell ⟨g, k, none⟩ (.int .i64 (v : Int))) g (.slice (some ⟨g, 0, none⟩) n n) n (intsV (fillUp l (k + 1))) ∧ Keep (fun i _ => i = g) w7 (wr.setCell ⟨g, k, none⟩ (.int .i64 (v : Int))) by
        refine ⟨?_, hK.setCell _ fun _ => rfl⟩
        have := hO.setAt k (.int .i64 (v : Int))
        rwa [intsV_set, fillUp_set l k v hv] at this)
      clear hv hO hK hcg hfg hu hq hr hx hy ht1 ht2
      go_wp2
      go_quiet (fail)
      go_wp2
      go_region
      go_wp2
      go_roundg (m - 1)
      case measure => have := HG.out; omega
      case rel => exact ⟨k + 1, m - 1, rfl, by omega, by go_num, HF.out.1.keep0 ((Keep.refl Nil2 _).drewN _), HF.out.2.drewN _⟩
    · obtain rfl : k = n := by omega
      have d1 : decide ((k : Int) < (k : Int)) = false := by simp
      have HO := Lib.hid (And.intro hO hK)
      clear hO hK
      go_wp2
      rw [rounds_succ]
      go_wp2
      go_ret2
      have hll := HL.out.1
      rw [← hll, fillUp_all, hll] at HO
      exact ⟨_, rfl, HO.out.1.lower (by have := HPB.out; omega), H7.out.2.1.2.2.2.2.2.then (F := Nil2) HO.out.2 (fun _ _ _ e => e) fun i _ hi e => by have := HPB.out; omega⟩
end Go.Proofs.YtnbbppjgamdfeaaGreatDoor
end
