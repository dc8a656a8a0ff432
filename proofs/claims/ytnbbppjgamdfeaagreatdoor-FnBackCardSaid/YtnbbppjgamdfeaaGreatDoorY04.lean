/- laws.FnBack, part 4 of 54: M1 B9 C0. -/
import Derived.Test.YtnbbppjgamdfeaaGreatDoorY01

/- Adler-32's plain law: sums without a remainder, and with one. -/
section
set_option linter.unusedVariables false
set_option linter.unusedSimpArgs false
namespace Go.Proofs.YtnbbppjgamdfeaaGreatDoor
open Go Go.RowKit

def adStep (s : Nat × Nat) (x : UInt8) : Nat × Nat := (s.1 + x.toNat, s.2 + (s.1 + x.toNat))
def adRun (s : Nat × Nat) (l : List UInt8) : Nat × Nat := l.foldl adStep s
def adM (s : Nat × Nat) (l : List UInt8) : Nat × Nat := ((adRun s l).1 % 65521, (adRun s l).2 % 65521)
/-- The number that the digest holds. -/
def adNum (s : Nat × Nat) : Nat := s.2 * 65536 + s.1
def adOf (l : List UInt8) : Nat := adNum (adM (1, 0) l)

theorem adRun_append (s : Nat × Nat) (l m : List UInt8) : adRun s (l ++ m) = adRun (adRun s l) m := List.foldl_append ..
theorem adRun_take_succ (s : Nat × Nat) (l : List UInt8) (k : Nat) (h : k < l.length) : adRun s (l.take (k + 1)) = adStep (adRun s (l.take k)) l[k] := by
  rw [List.take_succ_eq_append_getElem h, adRun_append]; rfl
theorem adRun_cong (l : List UInt8) : ∀ s t : Nat × Nat, s.1 % 65521 = t.1 % 65521 → s.2 % 65521 = t.2 % 65521 → (adRun s l).1 % 65521 = (adRun t l).1 % 65521 ∧ (adRun s l).2 % 65521 = (adRun t l).2 % 65521 := by
  induction l with
  | nil => exact fun s t h1 h2 => ⟨h1, h2⟩
  | cons x l ih =>
    intro s t h1 h2
    refine ih (adStep s x) (adStep t x) ?_ ?_
    · show (s.1 + x.toNat) % 65521 = (t.1 + x.toNat) % 65521; omega
    · show (s.2 + (s.1 + x.toNat)) % 65521 = (t.2 + (t.1 + x.toNat)) % 65521; omega
theorem adM_append (s : Nat × Nat) (l m : List UInt8) : adM s (l ++ m) = adM (adM s l) m := by
  have h := adRun_cong m (adRun s l) (adM s l) (by simp [adM]) (by simp [adM])
  unfold adM at h ⊢
  rw [adRun_append]
  exact Prod.ext h.1 h.2
theorem adM_lt (s : Nat × Nat) (l : List UInt8) : (adM s l).1 < 65521 ∧ (adM s l).2 < 65521 := ⟨Nat.mod_lt _ (by decide), Nat.mod_lt _ (by decide)⟩
theorem adM_nil (s : Nat × Nat) (h1 : s.1 < 65521) (h2 : s.2 < 65521) : adM s [] = s := Prod.ext (Nat.mod_eq_of_lt h1) (Nat.mod_eq_of_lt h2)
theorem adRun_bound (l : List UInt8) : ∀ (s : Nat × Nat) (k : Nat), s.1 ≤ 65520 + 255 * k → 2 * s.2 ≤ 131040 + 131040 * k + 255 * (k * (k + 1)) →
    (adRun s l).1 ≤ 65520 + 255 * (k + l.length) ∧ 2 * (adRun s l).2 ≤ 131040 + 131040 * (k + l.length) + 255 * ((k + l.length) * (k + l.length + 1)) := by
  induction l with
  | nil => exact fun s k h1 h2 => ⟨h1, h2⟩
  | cons x l ih =>
    intro s k h1 h2
    have hx := x.toNat_lt
    have e : k + (x :: l).length = (k + 1) + l.length := by simp; omega
    rw [e]
    refine ih (adStep s x) (k + 1) ?_ ?_
    · show s.1 + x.toNat ≤ _; omega
    · show 2 * (s.2 + (s.1 + x.toNat)) ≤ _
      have e2 : (k + 1) * (k + 1 + 1) = k * (k + 1) + 2 * k + 2 := by simp [Nat.mul_add, Nat.add_mul]; omega
      rw [e2]; omega
/-- No overflow in one chunk. -/
theorem adRun_u32 (s : Nat × Nat) (l : List UInt8) (h1 : s.1 < 65521) (h2 : s.2 < 65521) (hl : l.length ≤ 5552) : (adRun s l).1 < 4294967296 ∧ (adRun s l).2 < 4294967296 := by
  have h := adRun_bound l s 0 (by omega) (by omega)
  have hm : (0 + l.length) * (0 + l.length + 1) ≤ 5552 * 5553 := Nat.mul_le_mul (by omega) (by omega)
  omega
theorem adNum_lt (s : Nat × Nat) (h1 : s.1 < 65521) (h2 : s.2 < 65521) : adNum s < 4294967296 := by unfold adNum; omega
theorem adNum_and (s : Nat × Nat) (h1 : s.1 < 65521) (h2 : s.2 < 65521) : adNum s % 65536 = s.1 ∧ adNum s / 65536 = s.2 := by unfold adNum; omega
/-- With a remainder at each step. -/
theorem adStep_mod (l : List UInt8) : ∀ s : Nat × Nat, s.1 < 65521 → s.2 < 65521 → l.foldl (fun s x => ((s.1 + x.toNat) % 65521, (s.2 + (s.1 + x.toNat) % 65521) % 65521)) s = adM s l := by
  induction l with
  | nil => exact fun s h1 h2 => (adM_nil s h1 h2).symm
  | cons x l ih =>
    intro s h1 h2
    rw [List.foldl_cons, ih _ (Nat.mod_lt _ (by decide)) (Nat.mod_lt _ (by decide))]
    have h := adRun_cong l ((s.1 + x.toNat) % 65521, (s.2 + (s.1 + x.toNat) % 65521) % 65521) (adStep s x) (by simp [adStep]) (by simp [adStep])
    exact Prod.ext h.1 h.2
end Go.Proofs.YtnbbppjgamdfeaaGreatDoor
end

/- hash/adler32 walked. -/
section
set_option linter.unusedVariables false
set_option linter.unusedSimpArgs false
namespace Go.Proofs.YtnbbppjgamdfeaaGreatDoor
open Go Go.RowKit

/-- What stands at the head of update's outer loop. -/
structure AdInv (w : World) (s : Nat × Nat) (l : List UInt8) (b o : Nat) (g k : Nat) (v1 v5 v6 : Value) (wr : World) : Prop where
  hg : k + g = l.length
  keep : ∃ q, wr = w.drewN q
  v5 : v5 = .int .u32 ((adM s (l.take k)).1 : Int)
  v6 : v6 = .int .u32 ((adM s (l.take k)).2 : Int)
  v1 : (0 < g ∧ ∃ c, g ≤ c ∧ v1 = .slice (some ⟨b, o + k, none⟩) g c) ∨ (g = 0 ∧ v1 = .slice none 0 0)

set_option maxHeartbeats 4000000 in
set_option maxRecDepth 100000 in
theorem adUpdate {w : World} (s : Nat × Nat) (h1 : s.1 < 65521) (h2 : s.2 < 65521) (l : List UInt8) (b o n cap : Nat) (hn : n = l.length) (hn0 : 0 < n) (hcap : n ≤ cap) (hb : BytesAt w b o l) (hlen : l.length ≤ 1073741824) :
    Calls Tryz.prog 134 #[.int .u32 (adNum s : Int), .slice (some ⟨b, o, none⟩) n cap] w fun e w' =>
      e = .returned (.int .u32 (adNum (adM s l) : Int)) ∧ ∃ q, w' = w.drewN q := by
  subst hn
  have hs := adNum_and s h1 h2
  have ha1 : bits BinOp.and IntKind.u32 (adNum s : Int) 65535 = (s.1 : Int) := by
    rw [show (65535 : Int) = ((65535 : Nat) : Int) from rfl, u32_and_nat _ _ (adNum_lt s h1 h2) (by decide), Nat.and_two_pow_sub_one_eq_mod _ 16, hs.1]
  have ha2 : (adNum s : Int) / 65536 = (s.2 : Int) := by rw [← hs.2]; rfl
  go_enter Tryz.func134, Tryz.ntmps134
  go_wp2
  go_loopg [1, 5, 6, 7] l.length (fun G v1 v5 v6 v7 wr => ∃ k g, g = G ∧ AdInv w s l b o g k v1 v5 v6 wr)
  case atStart => exact ⟨0, _, rfl, ⟨by omega, ⟨0, rfl⟩, by rw [List.take_zero, adM_nil s h1 h2], by rw [List.take_zero, adM_nil s h1 h2], .inl ⟨hn0, cap, hcap, rfl⟩⟩⟩
  case round =>
    obtain ⟨k, g, hG, hg, ⟨q, rfl⟩, rfl, rfl, hv⟩ := hrel
    have HG := Lib.hid hG
    clear hG
    rcases hv with ⟨hg0, c, hgc, rfl⟩ | ⟨rfl, rfl⟩
    · obtain ⟨hm1, hm2⟩ := adM_lt s (l.take k)
      have happ : ∀ m, adM s (l.take (k + m)) = adM (adM s (l.take k)) ((l.drop k).take m) := fun m => by rw [List.take_add, adM_append]
      generalize adM s (l.take k) = t at hm1 hm2 happ ⊢
      have hbk := hb.drop k
      have hLk : (l.drop k).length = g := by simp; omega
      generalize l.drop k = L at hbk hLk happ
      have hgl : g ≤ 1073741824 := by omega
      by_cases hbig : 5552 < g
      · have hsm : decide (5552 < (g : Int)) = true := by simp; omega
        have hgp : decide (0 < (g : Int)) = true := by simp; omega
        have happ' := happ 5552
        clear happ
        have hbk' := hbk.take 5552
        clear hbk
        have hbk := hbk'
        clear hbk'
        have hLk' : (L.take 5552).length = 5552 := by simp; omega
        clear hLk
        have hLk := hLk'
        generalize L.take 5552 = L at hbk hLk happ'
        have hcI : (5552 : Int) ≤ c := by omega
        have hcN : ¬ c = 5552 := by omega
        have HB := Lib.hid hbig
        go_wp2
        go_quiet (fail)
        go_wp2
        go_loopg [1, 5, 6] 5552 (fun F v1 v5 v6 wr => ∃ j p C f, f = F ∧ wr = w.drewN (q + nq) ∧ j + f = 5552 ∧ f ≤ C ∧ (0 < f → p = o + k + j) ∧ v1 = .slice (some ⟨b, p, none⟩) f C ∧ v5 = .int .u32 ((adRun t (L.take j)).1 : Int) ∧ v6 = .int .u32 ((adRun t (L.take j)).2 : Int))
        case atStart => exact ⟨0, o + k, c, 5552, rfl, by simp, by omega, by omega, fun _ => rfl, rfl, rfl, rfl⟩
        case round =>
          obtain ⟨j, p, C, f, hF, rfl, hjf, hfC, hp, rfl, rfl, rfl⟩ := hrel
          have HF := Lib.hid hF
          clear hF
          have hA := adRun_u32 t (L.take j) hm1 hm2 (by simp; omega)
          by_cases hf4 : 4 ≤ f
          · have hpe := hp (by omega)
            have e4 : f - 4 + 4 = f := by omega
            have hA4 := adRun_u32 t (L.take (j + 4)) hm1 hm2 (by simp; omega)
            have hx0 := hbk j (by omega)
            have hx1 := hbk (j + 1) (by omega)
            have hx2 := hbk (j + 2) (by omega)
            have hx3 := hbk (j + 3) (by omega)
            have es : adRun t (L.take (j + 4)) = adStep (adStep (adStep (adStep (adRun t (L.take j)) L[j]) L[j+1]) L[j+2]) L[j+3] := by
              rw [adRun_take_succ t L (j + 3) (by omega), adRun_take_succ t L (j + 2) (by omega), adRun_take_succ t L (j + 1) (by omega), adRun_take_succ t L j (by omega)]
            rw [es] at hA4
            generalize adRun t (L.take j) = a at hA hA4 es ⊢
            have hu0 := u8_lt L[j]
            have hu1 := u8_lt L[j+1]
            have hu2 := u8_lt L[j+2]
            have hu3 := u8_lt L[j+3]
            simp only [adStep] at hA4 es
            generalize L[j].toNat = x0 at *
            generalize L[j+1].toNat = x1 at *
            generalize L[j+2].toNat = x2 at *
            generalize L[j+3].toNat = x3 at *
            obtain ⟨a1, a2⟩ := a
            simp only at hA hA4 es ⊢
            rw [← hpe] at hx0
            rw [show o + k + (j + 1) = p + 1 by omega] at hx1
            rw [show o + k + (j + 2) = p + 2 by omega] at hx2
            rw [show o + k + (j + 3) = p + 3 by omega] at hx3
            have HES := Lib.hid es
            clear es hpe
            have hge : decide (4 ≤ (f : Int)) = true := by simp; omega
            have hfC' : (4 : Int) ≤ C := by omega
            have hf0 : (0 : Int) < f := by omega
            have hf1 : (1 : Int) < f := by omega
            have hf2 : (2 : Int) < f := by omega
            have hf3 : (3 : Int) < f := by omega
            have wa : IntKind.u32.wrap ((a1 : Int) + x0) = ((a1 + x0 : Nat) : Int) := by rw [IntWalk.u32_in _ (by omega)]; omega
            have wb : IntKind.u32.wrap ((a2 : Int) + ((a1 + x0 : Nat) : Int)) = ((a2 + (a1 + x0) : Nat) : Int) := by rw [IntWalk.u32_in _ (by omega)]; omega
            have wc : IntKind.u32.wrap (((a1 + x0 : Nat) : Int) + x1) = ((a1 + x0 + x1 : Nat) : Int) := by rw [IntWalk.u32_in _ (by omega)]; omega
            have wd : IntKind.u32.wrap (((a2 + (a1 + x0) : Nat) : Int) + ((a1 + x0 + x1 : Nat) : Int)) = ((a2 + (a1 + x0) + (a1 + x0 + x1) : Nat) : Int) := by rw [IntWalk.u32_in _ (by omega)]; omega
            have we : IntKind.u32.wrap (((a1 + x0 + x1 : Nat) : Int) + x2) = ((a1 + x0 + x1 + x2 : Nat) : Int) := by rw [IntWalk.u32_in _ (by omega)]; omega
            have wf : IntKind.u32.wrap (((a2 + (a1 + x0) + (a1 + x0 + x1) : Nat) : Int) + ((a1 + x0 + x1 + x2 : Nat) : Int)) = ((a2 + (a1 + x0) + (a1 + x0 + x1) + (a1 + x0 + x1 + x2) : Nat) : Int) := by rw [IntWalk.u32_in _ (by omega)]; omega
            have wg : IntKind.u32.wrap (((a1 + x0 + x1 + x2 : Nat) : Int) + x3) = ((a1 + x0 + x1 + x2 + x3 : Nat) : Int) := by rw [IntWalk.u32_in _ (by omega)]; omega
            have wh : IntKind.u32.wrap (((a2 + (a1 + x0) + (a1 + x0 + x1) + (a1 + x0 + x1 + x2) : Nat) : Int) + ((a1 + x0 + x1 + x2 + x3 : Nat) : Int)) = ((a2 + (a1 + x0) + (a1 + x0 + x1) + (a1 + x0 + x1 + x2) + (a1 + x0 + x1 + x2 + x3) : Nat) : Int) := by rw [IntWalk.u32_in _ (by omega)]; omega
            obtain ⟨p', hp', hpp⟩ : ∃ p', (4 < f → p' = p + 4) ∧ (if C = 4 then some (⟨b, p, none⟩ : Addr) else some ⟨b, p + 4, none⟩) = some ⟨b, p', none⟩ := by
              by_cases e : C = 4
              · exact ⟨p, fun h => by omega, by rw [if_pos e]⟩
              · exact ⟨p + 4, fun _ => rfl, by rw [if_neg e]⟩
            clear hbk hb hbig hsm hgp
            go_wp2
            go_roundg (f - 4)
            case measure => have := HF.out; omega
            case rel => exact ⟨j + 4, p', C - 4, f - 4, rfl, rfl, by omega, by omega, fun h => by have := hp' (by omega); have := hp (by omega); omega, rfl, by rw [HES.out]; simp, by rw [HES.out]; simp⟩
          · have hge : decide (4 ≤ (f : Int)) = false := by simp; omega
            go_wp2
            go_loop [5, 6, 67] (fun v5 v6 v67 => ∃ m : Nat, m ≤ f ∧ v67 = .int .i64 (m : Int) ∧ v5 = .int .u32 ((adRun t (L.take (j + m))).1 : Int) ∧ v6 = .int .u32 ((adRun t (L.take (j + m))).2 : Int)) (fun _ _ v => f - (intOf v).toNat)
            case atStart => exact ⟨0, Nat.zero_le _, rfl, rfl, rfl⟩
            case round =>
              obtain ⟨m, hm, rfl, rfl, rfl⟩ := hrel
              clear hA
              have hA := adRun_u32 t (L.take (j + m)) hm1 hm2 (by simp; omega)
              by_cases hmf : m < f
              · have hpe := hp (by omega)
                have hA4 := adRun_u32 t (L.take (j + m + 1)) hm1 hm2 (by simp; omega)
                have es := adRun_take_succ t L (j + m) (by omega)
                have hx0 := hbk (j + m) (by omega)
                rw [es] at hA4
                generalize adRun t (L.take (j + m)) = a at hA hA4 es ⊢
                have hu0 := u8_lt L[j + m]
                simp only [adStep] at hA4 es
                generalize L[j + m].toNat = x0 at *
                obtain ⟨a1, a2⟩ := a
                simp only at hA hA4 es ⊢
                rw [show o + k + (j + m) = p + m by omega] at hx0
                have HES := Lib.hid es
                clear es hpe
                have hmf' : (m : Int) < f := by omega
                have wa : IntKind.u32.wrap ((a1 : Int) + x0) = ((a1 + x0 : Nat) : Int) := by rw [IntWalk.u32_in _ (by omega)]; omega
                have wb : IntKind.u32.wrap ((a2 : Int) + ((a1 + x0 : Nat) : Int)) = ((a2 + (a1 + x0) : Nat) : Int) := by rw [IntWalk.u32_in _ (by omega)]; omega
                clear hbk hb hbig hsm hgp hp
                go_wp2
                go_round
                case rel => exact ⟨m + 1, by omega, by go_num, by rw [← Nat.add_assoc, HES.out]; simp, by rw [← Nat.add_assoc, HES.out]; simp⟩
                case measure => simp [intOf]; omega
              · obtain rfl : m = f := by omega
                have eL : L.take (j + m) = L := List.take_of_length_le (by omega)
                rw [eL] at hA ⊢
                have eM : adM t L = ((adRun t L).1 % 65521, (adRun t L).2 % 65521) := rfl
                generalize adRun t L = a at hA eM ⊢
                have HEM := Lib.hid eM
                clear eM hbk hb hbig hsm hgp hp
                go_wp2
                go_roundg (g - 5552)
                case measure => have := HG.out; omega
                case rel =>
                  have := HB.out
                  refine ⟨k + 5552, g - 5552, rfl, by omega, ⟨q + nq, rfl⟩, ?_, ?_, .inl ⟨by omega, c - 5552, by omega, by rw [Nat.add_assoc]⟩⟩
                  · rw [happ', HEM.out]; simp
                  · rw [happ', HEM.out]; simp
      · have hsm : decide (5552 < (g : Int)) = false := by simp; omega
        have hgp : decide (0 < (g : Int)) = true := by simp; omega
        have happ' := happ g
        rw [show L.take g = L from List.take_of_length_le (by omega)] at happ'
        clear happ
        go_wp2
        go_loopg [1, 5, 6] g (fun F v1 v5 v6 wr => ∃ j p C f, f = F ∧ wr = w.drewN q ∧ j + f = g ∧ f ≤ C ∧ (0 < f → p = o + k + j) ∧ v1 = .slice (some ⟨b, p, none⟩) f C ∧ v5 = .int .u32 ((adRun t (L.take j)).1 : Int) ∧ v6 = .int .u32 ((adRun t (L.take j)).2 : Int))
        case atStart => exact ⟨0, o + k, c, g, rfl, rfl, by omega, hgc, fun _ => rfl, rfl, rfl, rfl⟩
        case round =>
          obtain ⟨j, p, C, f, hF, rfl, hjf, hfC, hp, rfl, rfl, rfl⟩ := hrel
          have HF := Lib.hid hF
          clear hF
          have hA := adRun_u32 t (L.take j) hm1 hm2 (by simp; omega)
          by_cases hf4 : 4 ≤ f
          · have hpe := hp (by omega)
            have e4 : f - 4 + 4 = f := by omega
            have hA4 := adRun_u32 t (L.take (j + 4)) hm1 hm2 (by simp; omega)
            have hx0 := hbk j (by omega)
            have hx1 := hbk (j + 1) (by omega)
            have hx2 := hbk (j + 2) (by omega)
            have hx3 := hbk (j + 3) (by omega)
            have es : adRun t (L.take (j + 4)) = adStep (adStep (adStep (adStep (adRun t (L.take j)) L[j]) L[j+1]) L[j+2]) L[j+3] := by
              rw [adRun_take_succ t L (j + 3) (by omega), adRun_take_succ t L (j + 2) (by omega), adRun_take_succ t L (j + 1) (by omega), adRun_take_succ t L j (by omega)]
            rw [es] at hA4
            generalize adRun t (L.take j) = a at hA hA4 es ⊢
            have hu0 := u8_lt L[j]
            have hu1 := u8_lt L[j+1]
            have hu2 := u8_lt L[j+2]
            have hu3 := u8_lt L[j+3]
            simp only [adStep] at hA4 es
            generalize L[j].toNat = x0 at *
            generalize L[j+1].toNat = x1 at *
            generalize L[j+2].toNat = x2 at *
            generalize L[j+3].toNat = x3 at *
            obtain ⟨a1, a2⟩ := a
            simp only at hA hA4 es ⊢
            rw [← hpe] at hx0
            rw [show o + k + (j + 1) = p + 1 by omega] at hx1
            rw [show o + k + (j + 2) = p + 2 by omega] at hx2
            rw [show o + k + (j + 3) = p + 3 by omega] at hx3
            have HES := Lib.hid es
            clear es hpe
            have hge : decide (4 ≤ (f : Int)) = true := by simp; omega
            have hfC' : (4 : Int) ≤ C := by omega
            have hf0 : (0 : Int) < f := by omega
            have hf1 : (1 : Int) < f := by omega
            have hf2 : (2 : Int) < f := by omega
            have hf3 : (3 : Int) < f := by omega
            have wa : IntKind.u32.wrap ((a1 : Int) + x0) = ((a1 + x0 : Nat) : Int) := by rw [IntWalk.u32_in _ (by omega)]; omega
            have wb : IntKind.u32.wrap ((a2 : Int) + ((a1 + x0 : Nat) : Int)) = ((a2 + (a1 + x0) : Nat) : Int) := by rw [IntWalk.u32_in _ (by omega)]; omega
            have wc : IntKind.u32.wrap (((a1 + x0 : Nat) : Int) + x1) = ((a1 + x0 + x1 : Nat) : Int) := by rw [IntWalk.u32_in _ (by omega)]; omega
            have wd : IntKind.u32.wrap (((a2 + (a1 + x0) : Nat) : Int) + ((a1 + x0 + x1 : Nat) : Int)) = ((a2 + (a1 + x0) + (a1 + x0 + x1) : Nat) : Int) := by rw [IntWalk.u32_in _ (by omega)]; omega
            have we : IntKind.u32.wrap (((a1 + x0 + x1 : Nat) : Int) + x2) = ((a1 + x0 + x1 + x2 : Nat) : Int) := by rw [IntWalk.u32_in _ (by omega)]; omega
            have wf : IntKind.u32.wrap (((a2 + (a1 + x0) + (a1 + x0 + x1) : Nat) : Int) + ((a1 + x0 + x1 + x2 : Nat) : Int)) = ((a2 + (a1 + x0) + (a1 + x0 + x1) + (a1 + x0 + x1 + x2) : Nat) : Int) := by rw [IntWalk.u32_in _ (by omega)]; omega
            have wg : IntKind.u32.wrap (((a1 + x0 + x1 + x2 : Nat) : Int) + x3) = ((a1 + x0 + x1 + x2 + x3 : Nat) : Int) := by rw [IntWalk.u32_in _ (by omega)]; omega
            have wh : IntKind.u32.wrap (((a2 + (a1 + x0) + (a1 + x0 + x1) + (a1 + x0 + x1 + x2) : Nat) : Int) + ((a1 + x0 + x1 + x2 + x3 : Nat) : Int)) = ((a2 + (a1 + x0) + (a1 + x0 + x1) + (a1 + x0 + x1 + x2) + (a1 + x0 + x1 + x2 + x3) : Nat) : Int) := by rw [IntWalk.u32_in _ (by omega)]; omega
            obtain ⟨p', hp', hpp⟩ : ∃ p', (4 < f → p' = p + 4) ∧ (if C = 4 then some (⟨b, p, none⟩ : Addr) else some ⟨b, p + 4, none⟩) = some ⟨b, p', none⟩ := by
              by_cases e : C = 4
              · exact ⟨p, fun h => by omega, by rw [if_pos e]⟩
              · exact ⟨p + 4, fun _ => rfl, by rw [if_neg e]⟩
            clear hbk hb hbig hsm hgp
            go_wp2
            go_roundg (f - 4)
            case measure => have := HF.out; omega
            case rel => exact ⟨j + 4, p', C - 4, f - 4, rfl, rfl, by omega, by omega, fun h => by have := hp' (by omega); have := hp (by omega); omega, rfl, by rw [HES.out]; simp, by rw [HES.out]; simp⟩
          · have hge : decide (4 ≤ (f : Int)) = false := by simp; omega
            go_wp2
            go_loop [5, 6, 67] (fun v5 v6 v67 => ∃ m : Nat, m ≤ f ∧ v67 = .int .i64 (m : Int) ∧ v5 = .int .u32 ((adRun t (L.take (j + m))).1 : Int) ∧ v6 = .int .u32 ((adRun t (L.take (j + m))).2 : Int)) (fun _ _ v => f - (intOf v).toNat)
            case atStart => exact ⟨0, Nat.zero_le _, rfl, rfl, rfl⟩
            case round =>
              obtain ⟨m, hm, rfl, rfl, rfl⟩ := hrel
              clear hA
              have hA := adRun_u32 t (L.take (j + m)) hm1 hm2 (by simp; omega)
              by_cases hmf : m < f
              · have hpe := hp (by omega)
                have hA4 := adRun_u32 t (L.take (j + m + 1)) hm1 hm2 (by simp; omega)
                have es := adRun_take_succ t L (j + m) (by omega)
                have hx0 := hbk (j + m) (by omega)
                rw [es] at hA4
                generalize adRun t (L.take (j + m)) = a at hA hA4 es ⊢
                have hu0 := u8_lt L[j + m]
                simp only [adStep] at hA4 es
                generalize L[j + m].toNat = x0 at *
                obtain ⟨a1, a2⟩ := a
                simp only at hA hA4 es ⊢
                rw [show o + k + (j + m) = p + m by omega] at hx0
                have HES := Lib.hid es
                clear es hpe
                have hmf' : (m : Int) < f := by omega
                have wa : IntKind.u32.wrap ((a1 : Int) + x0) = ((a1 + x0 : Nat) : Int) := by rw [IntWalk.u32_in _ (by omega)]; omega
                have wb : IntKind.u32.wrap ((a2 : Int) + ((a1 + x0 : Nat) : Int)) = ((a2 + (a1 + x0) : Nat) : Int) := by rw [IntWalk.u32_in _ (by omega)]; omega
                clear hbk hb hbig hsm hgp hp
                go_wp2
                go_round
                case rel => exact ⟨m + 1, by omega, by go_num, by rw [← Nat.add_assoc, HES.out]; simp, by rw [← Nat.add_assoc, HES.out]; simp⟩
                case measure => simp [intOf]; omega
              · obtain rfl : m = f := by omega
                have eL : L.take (j + m) = L := List.take_of_length_le (by omega)
                rw [eL] at hA ⊢
                have eM : adM t L = ((adRun t L).1 % 65521, (adRun t L).2 % 65521) := rfl
                generalize adRun t L = a at hA eM ⊢
                have HEM := Lib.hid eM
                clear eM hbk hb hbig hsm hgp hp
                go_wp2
                go_roundg 0
                case measure => have := HG.out; omega
                case rel =>
                  refine ⟨k + g, 0, rfl, by omega, ⟨q, rfl⟩, ?_, ?_, .inr ⟨rfl, rfl⟩⟩
                  · rw [happ', HEM.out]; simp
                  · rw [happ', HEM.out]; simp
    · have hg0 : k = l.length := by omega
      subst hg0
      rw [List.take_length]
      obtain ⟨hm1, hm2⟩ := adM_lt s l
      obtain ⟨t, ht⟩ : ∃ t, t = adM s l := ⟨_, rfl⟩
      rw [← ht] at hm1 hm2 ⊢
      have HT := Lib.hid ht
      clear ht
      have hor : bits BinOp.or IntKind.u32 ((t.2 : Int) * 65536) (t.1 : Int) = (adNum t : Int) := by
        rw [show (t.2 : Int) * 65536 = ((t.2 * 65536 : Nat) : Int) by omega, u32_or_nat _ _ (by omega) (by omega), or_add _ _ 16 (by omega) (by omega)]
        rfl
      have hgp : decide (0 < 0) = false := rfl
      go_wp2
      go_ret
      rw [← HT.out]
      exact ⟨rfl, q, rfl⟩

end Go.Proofs.YtnbbppjgamdfeaaGreatDoor
end

/- hash/adler32's digest walked. -/
section
set_option linter.unusedVariables false
set_option linter.unusedSimpArgs false
namespace Go.Proofs.YtnbbppjgamdfeaaGreatDoor
open Go Go.RowKit
attribute [local irreducible] adNum

/-- The digest at block ab. -/
structure AdSt (w : World) (ab : Nat) (s : Nat × Nat) : Prop where
  cell : w.cell? ⟨ab, 0, none⟩ = some (.int .u32 (adNum s : Int))
  fz : w.frozen? ⟨ab, 0, none⟩ = false
  l1 : s.1 < 65521
  l2 : s.2 < 65521
theorem AdSt.lt {w : World} {ab : Nat} {s : Nat × Nat} (h : AdSt w ab s) : ab < w.heap.size := World.block_lt_of_cell? w _ h.cell
theorem AdSt.keep {F : Nat → Nat → Prop} {w w' : World} {ab : Nat} {s : Nat × Nat} (h : AdSt w ab s) (hk : Keep F w w') (hF : ∀ y, ¬ F ab y) : AdSt w' ab s :=
  ⟨hk.get h.cell (hF _), hk.froz h.lt h.fz (hF _), h.l1, h.l2⟩

set_option maxHeartbeats 400000 in
set_option maxRecDepth 100000 in
theorem adWrite {w : World} {ab : Nat} {s : Nat × Nat} (h : AdSt w ab s) (l : List UInt8) (b o n cap : Nat) (hn : n = l.length) (hn0 : 0 < n) (hcap : n ≤ cap) (hb : BytesAt w b o l) (hlen : l.length ≤ 1073741824) :
    Calls Tryz.prog 256 #[.pointer (some ⟨ab, 0, none⟩), .slice (some ⟨b, o, none⟩) n cap] w fun e w' =>
      e = .returned (.tuple #[.int .i64 (n : Int), .nilIface]) ∧ AdSt w' ab (adM s l) ∧ Keep (fun x _ => x = ab) w w' := by
  subst hn
  have hc := h.cell
  have hf := h.fz
  go_enter Tryz.func256, Tryz.ntmps256
  go_wp2_with (go_at_call 134; fail)

  refine (adUpdate s h.l1 h.l2 l b o _ cap rfl hn0 hcap hb hlen).mono ?_
  rintro e w' ⟨rfl, q, rfl⟩
  go_wp2
  go_ret2
  exact ⟨rfl, ⟨World.cell?_setCell_same _ _ _ hc, by rw [World.frozen?_setCell]; exact hf, (adM_lt s l).1, (adM_lt s l).2⟩, ((Keep.refl (fun x _ => x = ab) w).drewN q).setCell _ fun _ => rfl⟩

set_option maxHeartbeats 400000 in
theorem adSum {w : World} {ab : Nat} {s : Nat × Nat} (h : AdSt w ab s) :
    Calls Tryz.prog 255 #[.pointer (some ⟨ab, 0, none⟩)] w fun e w' => e = .returned (.int .u32 (adNum s : Int)) ∧ w' = w := by
  have hc := h.cell
  go_enter Tryz.func255, Tryz.ntmps255
  go_wp2
  go_ret
  exact ⟨rfl, rfl⟩

set_option maxHeartbeats 400000 in
theorem adNew (w : World) :
    Calls Tryz.prog 130 #[] w fun e w' => e = .returned (.iface 282 (.pointer (some ⟨w.heap.size, 0, none⟩))) ∧ AdSt w' w.heap.size (1, 0) ∧ Keep Nil2 w w' := by
  go_enter Tryz.func130, Tryz.ntmps130
  go_wp2
  go_ret
  refine ⟨rfl, ⟨?_, ?_, by decide, by decide⟩, (Keep.refl Nil2 w).alloc _⟩
  · rw [show adNum (1, 0) = 1 by unfold adNum; rfl]
    go_simp
  · go_simp
end Go.Proofs.YtnbbppjgamdfeaaGreatDoor
end
