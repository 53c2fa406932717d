/- The texts of a proof, its declarations alone: part 21. -/
import Derived.Laws.BytesArg
import Derived.Test.YtiopeaponffmdaaDoorRows
import Derived.ProofKit
import Derived.Lay
import Derived.OpenVars
import Derived.LaidHandle
import Derived.MakeChecks
import Derived.Lib.LaidU8
import Derived.Lib.LaidTab
import Derived.Stop.Joined
import Derived.Test.YtiopeaponffmdaaDoorVU3
import Derived.Test.YtiopeaponffmdaaDoorVU16
import Derived.Test.YtiopeaponffmdaaDoorVU17
import Derived.Test.YtiopeaponffmdaaDoorVU18
import Derived.Test.YtiopeaponffmdaaDoorVU20
set_option linter.unusedVariables false
set_option linter.unusedSimpArgs false
-- YtiopeaponffmdaaDoorGe
set_option linter.unusedVariables false
set_option linter.unusedSimpArgs false
namespace Go.Proofs.YtiopeaponffmdaaDoor.PAll
open Go.RowKit Go.Proofs.YtiopeaponffmdaaDoorW.PrintWords Go.Proofs.YtiopeaponffmdaaDoorW.PrintLast Go.Proofs.YtiopeaponffmdaaDoorW.PrintMore
open Fm

/-- the answer behind the bisection -/
def finN (M D : Nat) (p : Int) (low : Nat) : Nat :=
  if low = M then low else if 0 < agn 52 D p (T2 52 low + T2 52 (low + 1)) ∨ (agn 52 D p (T2 52 low + T2 52 (low + 1)) = 0 ∧ low % 2 = 1) then low + 1 else low

theorem agn_zero (f D : Nat) (p : Int) : 0 ≤ agn f D p 0 := by
  unfold agn cmp
  rw [Nat.zero_mul, if_neg (Nat.not_lt_zero _)]
  split <;> decide

theorem mid_wrap (lo hi mid : Nat) (hlt : lo < hi) (hhi : hi < 18446744073709551000) (hmid : mid = lo + (hi - lo + 1) / 2) : (IntKind.u64.wrap ((lo : Int) + (IntKind.u64.wrap (Int.tdiv (IntKind.u64.wrap ((IntKind.u64.wrap ((hi : Int) - (lo : Int))) + 1)) 2)))) = (mid : Int) := by
  rw [wrapu ((hi : Int) - (lo : Int)) (by omega) (by omega), wrapu ((hi : Int) - (lo : Int) + 1) (by omega) (by omega), Int.tdiv_eq_ediv_of_nonneg (by omega), wrapu (((hi : Int) - (lo : Int) + 1) / 2) (by omega) (by omega), wrapu _ (by omega) (by omega)]
  omega
theorem mid_pred (mid : Nat) (h0 : 1 ≤ mid) (h1 : mid < 18446744073709551000) : IntKind.u64.wrap ((mid : Int) - 1) = ((mid - 1 : Nat) : Int) := by rw [wrapu _ (by omega) (by omega)]; omega
set_option maxHeartbeats 1000000 in
theorem nearest_ev (M : Nat) (s : ByteArray) (p : Int) (hM : M / 2 ^ 52 = 2046) (hM1 : M < 18446744073709551000) (hs0 : 0 < s.size) (hs : s.size ≤ 1000) (hd : ∀ b ∈ bytesOf s, 48 ≤ b ∧ b ≤ 57)
    (h0 : -400 ≤ (s.size : Int) + p) (h1 : (s.size : Int) + p ≤ 400) :
    ∃ low : Nat, low ≤ M ∧ 0 ≤ agn 52 (dvl (bytesOf s)) p (T2 52 low * 2 ^ 1) ∧ (low = M ∨ agn 52 (dvl (bytesOf s)) p (T2 52 (low + 1) * 2 ^ 1) < 0) ∧
      Ev (fun k => spec_Form_Nearest.f k ((52 : Nat) : Int) (M : Int) s p) ((finN M (dvl (bytesOf s)) p low : Nat) : Int) := by
  obtain ⟨D, hD⟩ : ∃ D, D = dvl (bytesOf s) := ⟨_, rfl⟩
  have hq : ∀ c, c ≤ M + 1 → c / 2 ^ 52 ≤ 2100 := by
    intro c hc
    have e : (2 : Nat) ^ 52 = 4503599627370496 := by decide
    rw [e] at hM ⊢
    omega
  clear hM
  have hT := fun (c : Nat) (hc : c ≤ M + 1) => Times2_ev 52 c (M : Int) (.inl rfl) (by omega) (hq c hc)
  have hL := fun (c : Nat) (hc : c ≤ M + 1) => T2_len 52 c (.inl rfl) (hq c hc)
  have hG := fun (H : Nat) (hH : (dg H).length ≤ 1000) => against_ev 52 (M : Int) p s H hs hd (by omega) (by omega) hH
  rw [← hD] at hG ⊢
  have hS : ∀ c, c ≤ M + 1 → Ev (fun k => spec_Shifted.f k (dg (T2 52 c)) ((1 : Nat) : Int)) (dg (T2 52 c * 2 ^ 1)) := by
    intro c hc
    have h := Shifted_ev (dg (T2 52 c)) 1 (Dg_dg _) (by have := hL c hc; omega) (by decide)
    rw [nv_dg] at h
    exact h
  have hH : ∀ c, c ≤ M + 1 → (dg (T2 52 c * 2 ^ 1)).length ≤ 1000 := fun c hc => by
    have := dg_two_mul _ _ (hL c hc)
    omega
  -- behind the bisection
  have stop : ∀ lo : Nat, lo ≤ M → Ev (fun k => spec_Form_Nearest.l0 k (lo : Int) (lo : Int) ((52 : Nat) : Int) (M : Int) s p) ((finN M D p lo : Nat) : Int) := by
    intro lo hlo
    unfold finN
    by_cases hm : lo = M
    · rw [if_pos hm]
      refine Ev.succ (g := fun _ => some (lo : Int)) (fun k => ?_) (Ev.pure _)
      rw [spec_Form_Nearest.l0, if_neg (by omega), if_pos (by omega)]
    · rw [if_neg hm]
      have e1 : IntKind.u64.wrap ((lo : Int) + 1) = ((lo + 1 : Nat) : Int) := wrapu1 lo (by omega)
      have em : Int.tmod (lo : Int) 2 = ((lo % 2 : Nat) : Int) := rfl
      have a1 := Add_ev (dg (T2 52 lo)) (dg (T2 52 (lo + 1))) (Dg_dg _) (Dg_dg _) (by have := hL lo (by omega); omega) (by have := hL (lo + 1) (by omega); omega)
      rw [nv_dg, nv_dg] at a1
      have g1 := hG (T2 52 lo + T2 52 (lo + 1)) (T2_add_len 52 lo (lo + 1) (.inl rfl) (hq lo (by omega)) (hq (lo + 1) (by omega)))
      generalize agn 52 D p (T2 52 lo + T2 52 (lo + 1)) = c1 at *
      refine Ev.succ (g := fun k => (spec_Form_Times2.f k ((52 : Nat) : Int) (M : Int) (lo : Int)).bind fun t477 => (spec_Form_Times2.f k ((52 : Nat) : Int) (M : Int) ((lo + 1 : Nat) : Int)).bind fun t480 => (spec_Add.f k t477 t480).bind fun t483 => (spec_Form_against.f k ((52 : Nat) : Int) (M : Int) s p t483).bind fun t486 => if t486 > 0 then some ((lo + 1 : Nat) : Int) else if t486 = 0 then (if Int.tmod (lo : Int) 2 = 1 then some ((lo + 1 : Nat) : Int) else some (lo : Int)) else some (lo : Int)) (fun k => ?_) ?_
      · rw [spec_Form_Nearest.l0, if_neg (by omega), if_neg (by omega), e1]
      · refine Ev.bind (hT lo (by omega)) (Ev.bind (hT (lo + 1) (by omega)) (Ev.bind a1 (Ev.bind g1 (Ev.congr (Ev.pure _) (fun k => ?_)))))
        rw [em]
        by_cases h : c1 > 0
        · rw [if_pos h, if_pos (.inl h)]
        · rw [if_neg h]
          by_cases hz : c1 = 0
          · rw [if_pos hz]
            by_cases hm2 : lo % 2 = 1
            · rw [if_pos (by omega), if_pos (.inr ⟨hz, hm2⟩)]
            · rw [if_neg (by omega), if_neg (by omega)]
          · rw [if_neg hz, if_neg (by omega)]
  have main : ∀ (n lo hi : Nat), hi - lo < 2 ^ n → lo ≤ hi → hi ≤ M → 0 ≤ agn 52 D p (T2 52 lo * 2 ^ 1) → (hi = M ∨ agn 52 D p (T2 52 (hi + 1) * 2 ^ 1) < 0) →
      ∃ low : Nat, low ≤ M ∧ 0 ≤ agn 52 D p (T2 52 low * 2 ^ 1) ∧ (low = M ∨ agn 52 D p (T2 52 (low + 1) * 2 ^ 1) < 0) ∧
        Ev (fun k => spec_Form_Nearest.l0 k (lo : Int) (hi : Int) ((52 : Nat) : Int) (M : Int) s p) ((finN M D p low : Nat) : Int) := by
    intro n
    induction n with
    | zero =>
      intro lo hi h1 h3 h4 h5 h6
      obtain rfl : hi = lo := by rw [Nat.pow_zero] at h1; omega
      exact ⟨hi, h4, h5, h6, stop hi h4⟩
    | succ n ih =>
      intro lo hi h1 h3 h4 h5 h6
      rw [Nat.pow_succ] at h1
      by_cases hlt : lo < hi
      · obtain ⟨mid, hmid⟩ : ∃ m, m = lo + (hi - lo + 1) / 2 := ⟨_, rfl⟩
        have em := mid_wrap lo hi mid hlt (by omega) hmid
        have em2 := mid_pred mid (by omega) (by omega)
        have hA := hG (T2 52 mid * 2 ^ 1) (hH mid (by omega))
        have hg : ∀ k, spec_Form_Nearest.l0 (k + 1) (lo : Int) (hi : Int) ((52 : Nat) : Int) (M : Int) s p = (spec_Form_Times2.f k ((52 : Nat) : Int) (M : Int) (mid : Int)).bind fun t470 => (spec_Shifted.f k t470 ((1 : Nat) : Int)).bind fun t473 => (spec_Form_against.f k ((52 : Nat) : Int) (M : Int) s p t473).bind fun t476 => if t476 ≥ 0 then spec_Form_Nearest.l0 k (mid : Int) (hi : Int) ((52 : Nat) : Int) (M : Int) s p else spec_Form_Nearest.l0 k (lo : Int) ((mid - 1 : Nat) : Int) ((52 : Nat) : Int) (M : Int) s p := by
          intro k
          rw [spec_Form_Nearest.l0, if_pos (by omega), em, em2]
          rfl
        by_cases ht : 0 ≤ agn 52 D p (T2 52 mid * 2 ^ 1)
        · obtain ⟨r, r1, r2, r3, r4⟩ := ih mid hi (by omega) (by omega) (by omega) ht h6
          refine ⟨r, r1, r2, r3, Ev.succ hg (Ev.bind (hT mid (by omega)) (Ev.bind (hS mid (by omega)) (Ev.bind hA (Ev.congr r4 (fun k => if_pos ht)))))⟩
        · obtain ⟨r, r1, r2, r3, r4⟩ := ih lo (mid - 1) (by omega) (by omega) (by omega) h5 (.inr (by rw [show mid - 1 + 1 = mid by omega]; exact Int.not_le.1 ht))
          refine ⟨r, r1, r2, r3, Ev.succ hg (Ev.bind (hT mid (by omega)) (Ev.bind (hS mid (by omega)) (Ev.bind hA (Ev.congr r4 (fun k => if_neg ht)))))⟩
      · obtain rfl : hi = lo := by omega
        exact ⟨hi, h4, h5, h6, stop hi h4⟩
  obtain ⟨r, r1, r2, r3, r4⟩ := main 64 0 M (by omega) (by omega) (by omega) (by rw [show T2 52 0 * 2 ^ 1 = 0 by decide]; exact agn_zero 52 D p) (.inl rfl)
  refine ⟨r, r1, r2, r3, ?_⟩
  refine Ev.congr (Ev.succ (f := fun k => spec_Form_Nearest.j0 k false ((52 : Nat) : Int) (M : Int) s p) (fun k => ?_) r4) (fun k => ?_)
  · rw [spec_Form_Nearest.j0, if_neg (by decide), w64 _ (by omega) (by omega), if_neg (by omega)]
    rfl
  · rw [spec_Form_Nearest.f, if_neg (by omega), w64 _ (by omega) (by omega), decide_eq_false (by omega)]

/-- what is read as a number has it for its nearest one -/
theorem cmp_pos (x y : Nat) : 0 < cmp x y ↔ y < x := by
  unfold cmp; split
  · constructor <;> intro h <;> first | (exfalso; revert h; decide) | omega
  · split
    · constructor <;> intro h <;> first | (exfalso; revert h; decide) | omega
    · constructor <;> intro h <;> first | decide | omega
theorem cmp_nonneg (x y : Nat) : 0 ≤ cmp x y ↔ y ≤ x := by
  have := cmp_neg x y
  omega
theorem finN_reads (M D c : Nat) (p : Int) (hc0 : 1 ≤ c) (hc1 : c ≤ M) (low : Nat) (h1 : low ≤ M) (h2 : 0 ≤ agn 52 D p (T2 52 low * 2 ^ 1)) (h3 : low = M ∨ agn 52 D p (T2 52 (low + 1) * 2 ^ 1) < 0)
    (hr : readsB 52 c D p = true) : finN M D p low = c := by
  unfold readsB at hr
  rw [decide_eq_true_eq] at hr
  unfold finN
  unfold agn at *
  simp only [cmp_nonneg, cmp_neg, cmp_pos, cmp_zero] at *
  generalize D * 2 ^ (lst 52 + 1) * 10 ^ p.toNat = A at *
  have B0 : 0 < 10 ^ (-p).toNat := Nat.pow_pos (by decide)
  generalize 10 ^ (-p).toNat = B at *
  have mono : ∀ {x y : Nat}, x < y → x * B < y * B := fun h => Nat.mul_lt_mul_of_pos_right h B0
  rcases Nat.lt_trichotomy low c with hl | hl | hl
  · have hlm : low ≠ M := by omega
    rw [if_neg hlm]
    have h3' := h3.resolve_left hlm
    by_cases he : low + 1 = c
    · subst he
      rw [show low + 1 - 1 = low by omega] at hr
      rw [if_pos]
      rcases hr.1 with h | ⟨h, h'⟩
      · exact .inl h
      · exact .inr ⟨h', by omega⟩
    · exfalso
      have m1 : T2 52 (low + 1) ≤ T2 52 (c - 1) := T2_mono 52 (by omega)
      have m2 := T2_strict 52 (show c - 1 < c by omega)
      have m3 := mono (show T2 52 (low + 1) * 2 ^ 1 < T2 52 (c - 1) + T2 52 c by omega)
      omega
  · subst hl
    by_cases hlm : low = M
    · rw [if_pos hlm]
    · rw [if_neg hlm, if_neg]
      intro h
      rcases h with h | ⟨h, h'⟩
      · omega
      · omega
  · exfalso
    have m1 : T2 52 (c + 1) ≤ T2 52 low := T2_mono 52 (by omega)
    have m2 := T2_strict 52 (show c < c + 1 by omega)
    have m3 := mono (show T2 52 c + T2 52 (c + 1) < T2 52 low * 2 ^ 1 by omega)
    omega
/-- and the other way round -/
theorem reads_finN (M D c : Nat) (p : Int) (hc0 : 1 ≤ c) (low : Nat) (h1 : low ≤ M) (h2 : 0 ≤ agn 52 D p (T2 52 low * 2 ^ 1)) (h3 : low = M ∨ agn 52 D p (T2 52 (low + 1) * 2 ^ 1) < 0)
    (hf : finN M D p low = c) (hover : c = M → agn 52 D p (T2 52 M + T2 52 (M + 1)) < 0) (hMM : c ≤ M) : readsB 52 c D p = true := by
  unfold readsB
  rw [decide_eq_true_eq]
  unfold finN at hf
  unfold agn at *
  simp only [cmp_nonneg, cmp_neg, cmp_pos, cmp_zero] at *
  generalize D * 2 ^ (lst 52 + 1) * 10 ^ p.toNat = A at *
  have B0 : 0 < 10 ^ (-p).toNat := Nat.pow_pos (by decide)
  generalize 10 ^ (-p).toNat = B at *
  have mono : ∀ {x y : Nat}, x < y → x * B < y * B := fun h => Nat.mul_lt_mul_of_pos_right h B0
  by_cases hlm : low = M
  · rw [if_pos hlm] at hf
    subst hlm
    subst hf
    have m2 := T2_strict 52 (show low - 1 < low by omega)
    have m3 := mono (show T2 52 (low - 1) + T2 52 low < T2 52 low * 2 ^ 1 by omega)
    exact ⟨.inl (by omega), .inl (hover rfl)⟩
  · rw [if_neg hlm] at hf
    have h3' := h3.resolve_left hlm
    split at hf
    · rename_i hcond
      subst hf
      rw [show low + 1 - 1 = low by omega]
      have m2 := T2_strict 52 (show low + 1 < low + 1 + 1 by omega)
      have m3 := mono (show T2 52 (low + 1) * 2 ^ 1 < T2 52 (low + 1) + T2 52 (low + 1 + 1) by omega)
      refine ⟨?_, .inl (by omega)⟩
      rcases hcond with h | ⟨h, h'⟩
      · exact .inl h
      · exact .inr ⟨by omega, h⟩
    · rename_i hcond
      subst hf
      have m2 := T2_strict 52 (show low - 1 < low by omega)
      have m3 := mono (show T2 52 (low - 1) + T2 52 low < T2 52 low * 2 ^ 1 by omega)
      refine ⟨.inl (by omega), ?_⟩
      by_cases he : A = (T2 52 low + T2 52 (low + 1)) * B
      · exact .inr ⟨by omega, he⟩
      · left; omega

/-- what the reference's NearestOf answers -/
theorem nearestOf_ev (s : ByteArray) (p : Int) (hs : s.size ≤ 1000) (hd : ∀ b ∈ bytesOf s, 48 ≤ b ∧ b ≤ 57) (hp0 : -2000 ≤ p) (hp1 : p ≤ 2000) :
    ∃ (r : Nat) (over : Bool), Ev (fun k => spec_NearestOf.f k s p) ((r : Int), over) ∧ r ≤ 9218868437227405312 ∧ (over = false → 1 ≤ r → 0 < s.size ∧ -400 ≤ (s.size : Int) + p ∧ readsB 52 r (dvl (bytesOf s)) p = true) := by
  obtain ⟨M, hM⟩ : ∃ M : Nat, M = 9218868437227405311 := ⟨_, rfl⟩
  have hM2 : M / 2 ^ 52 = 2046 := by subst hM; decide
  have hf : ∀ k, spec_NearestOf.f k s p = (spec_Form_Nearest.f k ((52 : Nat) : Int) (M : Int) s p).bind fun t495 => if t495 < (M : Int) then some (t495, false) else if wrap64 ((s.size : Int) + p) > 400 then some (IntKind.u64.wrap ((M : Int) + 1), true) else (spec_Form_Times2.f k ((52 : Nat) : Int) (M : Int) (M : Int)).bind fun t496 => (spec_Form_Times2.f k ((52 : Nat) : Int) (M : Int) (IntKind.u64.wrap ((M : Int) + 1))).bind fun t499 => (spec_Add.f k t496 t499).bind fun t502 => (spec_Form_against.f k ((52 : Nat) : Int) (M : Int) s p t502).bind fun t505 => if t505 ≥ 0 then some (IntKind.u64.wrap ((M : Int) + 1), true) else some (t495, false) := by
    intro k
    rw [hM]
    rfl
  have hw : wrap64 ((s.size : Int) + p) = (s.size : Int) + p := w64 _ (by omega) (by omega)
  have hw1 : IntKind.u64.wrap ((M : Int) + 1) = ((M + 1 : Nat) : Int) := wrapu1 M (by omega)
  rw [hw, hw1] at hf
  have small : ∀ (h : s.size = 0 ∨ (s.size : Int) + p < -400), Ev (fun k => spec_NearestOf.f k s p) (((0 : Nat) : Int), false) := by
    intro h
    refine Ev.congr (Ev.bind (h := fun k t495 => if t495 < (M : Int) then some (t495, false) else if (s.size : Int) + p > 400 then some (((M + 1 : Nat) : Int), true) else (spec_Form_Times2.f k ((52 : Nat) : Int) (M : Int) (M : Int)).bind fun t496 => (spec_Form_Times2.f k ((52 : Nat) : Int) (M : Int) ((M + 1 : Nat) : Int)).bind fun t499 => (spec_Add.f k t496 t499).bind fun t502 => (spec_Form_against.f k ((52 : Nat) : Int) (M : Int) s p t502).bind fun t505 => if t505 ≥ 0 then some (((M + 1 : Nat) : Int), true) else some (t495, false)) (a := ((0 : Nat) : Int)) ?_ (Ev.congr (Ev.pure _) (fun k => ?_))) hf
    · refine Ev.congr (Ev.succ (f := fun k => spec_Form_Nearest.j0 k true ((52 : Nat) : Int) (M : Int) s p) (g := fun _ => some 0) (fun k => rfl) (Ev.pure _)) (fun k => ?_)
      rcases h with h | h
      · rw [spec_Form_Nearest.f, if_pos (by omega)]
      · by_cases hz : s.size = 0
        · rw [spec_Form_Nearest.f, if_pos (by omega)]
        · rw [spec_Form_Nearest.f, if_neg (by omega), hw, decide_eq_true h]
    · rw [if_pos (by omega)]
  by_cases h0 : s.size = 0 ∨ (s.size : Int) + p < -400
  · exact ⟨0, false, small h0, by omega, fun _ h => by omega⟩
  · have hs0 : 0 < s.size := by omega
    by_cases h4 : (s.size : Int) + p > 400
    · refine ⟨M + 1, true, ?_, by omega, fun h => by cases h⟩
      refine Ev.congr (Ev.bind (h := fun k t495 => if t495 < (M : Int) then some (t495, false) else if (s.size : Int) + p > 400 then some (((M + 1 : Nat) : Int), true) else (spec_Form_Times2.f k ((52 : Nat) : Int) (M : Int) (M : Int)).bind fun t496 => (spec_Form_Times2.f k ((52 : Nat) : Int) (M : Int) ((M + 1 : Nat) : Int)).bind fun t499 => (spec_Add.f k t496 t499).bind fun t502 => (spec_Form_against.f k ((52 : Nat) : Int) (M : Int) s p t502).bind fun t505 => if t505 ≥ 0 then some (((M + 1 : Nat) : Int), true) else some (t495, false)) (a := (M : Int)) ?_ (Ev.congr (Ev.pure _) (fun k => ?_))) hf
      · refine Ev.congr (Ev.succ (f := fun k => spec_Form_Nearest.j0 k false ((52 : Nat) : Int) (M : Int) s p) (g := fun _ => some (M : Int)) (fun k => ?_) (Ev.pure _)) (fun k => ?_)
        · rw [spec_Form_Nearest.j0, if_neg (by decide), hw, if_pos h4]
        · rw [spec_Form_Nearest.f, if_neg (by omega), hw, decide_eq_false (by omega)]
      · rw [if_neg (by omega), if_pos h4]
    · obtain ⟨low, l1, l2, l3, l4⟩ := nearest_ev M s p hM2 (by omega) hs0 hs hd (by omega) (by omega)
      obtain ⟨D, hD⟩ : ∃ D, D = dvl (bytesOf s) := ⟨_, rfl⟩
      rw [← hD] at l2 l3 l4 ⊢
      by_cases hlt : finN M D p low < M
      · refine ⟨finN M D p low, false, ?_, by omega, fun _ h => ⟨hs0, by omega, reads_finN M D _ p h low l1 l2 l3 rfl (fun h => absurd h (Nat.ne_of_lt hlt)) (Nat.le_of_lt hlt)⟩⟩
        refine Ev.congr (Ev.bind (h := fun k t495 => if t495 < (M : Int) then some (t495, false) else if (s.size : Int) + p > 400 then some (((M + 1 : Nat) : Int), true) else (spec_Form_Times2.f k ((52 : Nat) : Int) (M : Int) (M : Int)).bind fun t496 => (spec_Form_Times2.f k ((52 : Nat) : Int) (M : Int) ((M + 1 : Nat) : Int)).bind fun t499 => (spec_Add.f k t496 t499).bind fun t502 => (spec_Form_against.f k ((52 : Nat) : Int) (M : Int) s p t502).bind fun t505 => if t505 ≥ 0 then some (((M + 1 : Nat) : Int), true) else some (t495, false)) l4 (Ev.congr (Ev.pure _) (fun k => ?_))) hf
        rw [if_pos (by omega)]
      · have hle : finN M D p low = M := by
          have : finN M D p low ≤ M := by
            unfold finN
            split
            · omega
            · split <;> omega
          omega
        have hq : ∀ c, c ≤ M + 1 → c / 2 ^ 52 ≤ 2100 := by
          intro c hc
          have e : (2 : Nat) ^ 52 = 4503599627370496 := by decide
          rw [e] at hM2 ⊢
          omega
        have hL := fun (c : Nat) (hc : c ≤ M + 1) => T2_len 52 c (.inl rfl) (hq c hc)
        have t1 := Times2_ev 52 M (M : Int) (.inl rfl) (by omega) (hq M (by omega))
        have t2 := Times2_ev 52 (M + 1) (M : Int) (.inl rfl) (by omega) (hq (M + 1) (by omega))
        have a1 := Add_ev (dg (T2 52 M)) (dg (T2 52 (M + 1))) (Dg_dg _) (Dg_dg _) (by have := hL M (by omega); omega) (by have := hL (M + 1) (by omega); omega)
        rw [nv_dg, nv_dg] at a1
        have g1 := against_ev 52 (M : Int) p s (T2 52 M + T2 52 (M + 1)) hs hd (by omega) (by omega) (T2_add_len 52 M (M + 1) (.inl rfl) (hq M (by omega)) (hq (M + 1) (by omega)))
        rw [← hD] at g1
        rw [hle] at l4
        have run : ∀ (res : Int × Bool), (if agn 52 D p (T2 52 M + T2 52 (M + 1)) ≥ 0 then some (((M + 1 : Nat) : Int), true) else some ((M : Int), false)) = some res → Ev (fun k => spec_NearestOf.f k s p) res := by
          intro res hres
          refine Ev.congr (Ev.bind (h := fun k t495 => if t495 < (M : Int) then some (t495, false) else if (s.size : Int) + p > 400 then some (((M + 1 : Nat) : Int), true) else (spec_Form_Times2.f k ((52 : Nat) : Int) (M : Int) (M : Int)).bind fun t496 => (spec_Form_Times2.f k ((52 : Nat) : Int) (M : Int) ((M + 1 : Nat) : Int)).bind fun t499 => (spec_Add.f k t496 t499).bind fun t502 => (spec_Form_against.f k ((52 : Nat) : Int) (M : Int) s p t502).bind fun t505 => if t505 ≥ 0 then some (((M + 1 : Nat) : Int), true) else some (t495, false)) l4 ?_) hf
          have tail : Ev (fun k => (spec_Form_Times2.f k ((52 : Nat) : Int) (M : Int) (M : Int)).bind fun t496 => (spec_Form_Times2.f k ((52 : Nat) : Int) (M : Int) ((M + 1 : Nat) : Int)).bind fun t499 => (spec_Add.f k t496 t499).bind fun t502 => (spec_Form_against.f k ((52 : Nat) : Int) (M : Int) s p t502).bind fun t505 => if t505 ≥ 0 then some (((M + 1 : Nat) : Int), true) else some ((M : Int), false)) res :=
            Ev.bind (h := fun k t496 => (spec_Form_Times2.f k ((52 : Nat) : Int) (M : Int) ((M + 1 : Nat) : Int)).bind fun t499 => (spec_Add.f k t496 t499).bind fun t502 => (spec_Form_against.f k ((52 : Nat) : Int) (M : Int) s p t502).bind fun t505 => if t505 ≥ 0 then some (((M + 1 : Nat) : Int), true) else some ((M : Int), false)) t1
              (Ev.bind (h := fun k t499 => (spec_Add.f k (dg (T2 52 M)) t499).bind fun t502 => (spec_Form_against.f k ((52 : Nat) : Int) (M : Int) s p t502).bind fun t505 => if t505 ≥ 0 then some (((M + 1 : Nat) : Int), true) else some ((M : Int), false)) t2
                (Ev.bind (h := fun k t502 => (spec_Form_against.f k ((52 : Nat) : Int) (M : Int) s p t502).bind fun t505 => if t505 ≥ 0 then some (((M + 1 : Nat) : Int), true) else some ((M : Int), false)) a1
                  (Ev.bind (h := fun _ t505 => if t505 ≥ 0 then some (((M + 1 : Nat) : Int), true) else some ((M : Int), false)) g1 (Ev.congr (Ev.pure res) (fun k => hres)))))
          refine Ev.congr tail (fun k => ?_)
          rw [if_neg (Int.lt_irrefl _), if_neg h4]
        by_cases ho : agn 52 D p (T2 52 M + T2 52 (M + 1)) ≥ 0
        · exact ⟨M + 1, true, run _ (if_pos ho), by omega, fun h => by cases h⟩
        · exact ⟨M, false, run _ (if_neg ho), by omega, fun _ h => ⟨hs0, by omega, reads_finN M D _ p h low l1 l2 l3 hle (fun _ => Int.not_le.1 ho) (Nat.le_refl M)⟩⟩
end Go.Proofs.YtiopeaponffmdaaDoor.PAll
-- YtiopeaponffmdaaDoorGf
set_option linter.unusedVariables false
set_option linter.unusedSimpArgs false
namespace Go.Proofs.YtiopeaponffmdaaDoor.PAll
open Go.RowKit Go.Proofs.YtiopeaponffmdaaDoorW.PrintWords Go.Proofs.YtiopeaponffmdaaDoorW.PrintLast Go.Proofs.YtiopeaponffmdaaDoorW.PrintMore
open Fm

theorem readsB_inn (c D a : Nat) (p : Int) (h : 0 ≤ p + (a : Int)) : readsB 52 c D p = decide (Inn ((T2 52 (c - 1) + T2 52 c) * 10 ^ a) ((T2 52 c + T2 52 (c + 1)) * 10 ^ a) (decide (c % 2 = 0)) (D * (2 ^ (lst 52 + 1) * 10 ^ (p + (a : Int)).toNat))) := by
  unfold readsB
  rw [decide_eq_decide, agn_scale 52 D p _ a h, agn_scale 52 D p _ a h]
  unfold Inn
  generalize D * (2 ^ (lst 52 + 1) * 10 ^ (p + (a : Int)).toNat) = w
  generalize (T2 52 (c - 1) + T2 52 c) * 10 ^ a = lo
  generalize (T2 52 c + T2 52 (c + 1)) * 10 ^ a = hi
  have z1 := cmp_le_zero w lo
  have z2 := cmp_zero w lo
  have z3 := cmp_neg w hi
  have z4 := cmp_zero w hi
  rw [decide_eq_true_eq]
  generalize cmp w lo = x1 at *
  generalize cmp w hi = x2 at *
  omega
theorem cutz_nz_pos : ∀ n : Nat, 0 < n → rd (dec n) 0 ≠ 48 := by
  intro n
  induction n using Nat.strongRecOn with
  | ind n ih =>
    intro hn
    by_cases h : n < 10
    · rw [dec_lt h]
      show ((48 + n : Nat) : Int) ≠ 48
      omega
    · rw [dec_ge (by omega)]
      have := ih (n / 10) (by omega) (by omega)
      have hl := dec_length_pos (n / 10)
      obtain ⟨b, t, hbt⟩ : ∃ b t, dec (n / 10) = b :: t := by
        cases hh : dec (n / 10) with
        | nil => rw [hh] at hl; simp at hl
        | cons b t => exact ⟨b, t, rfl⟩
      rw [hbt] at this ⊢
      exact this
theorem cutz_nz (D : Nat) (hD : 0 < D) : rd (dec (cutz D)) 0 ≠ 48 := cutz_nz_pos _ (cutz_form D hD).1
/-- cutz leaves no zero behind -/
theorem cutz_last (D : Nat) (hD : 0 < D) : cutz D % 10 ≠ 0 := by
  induction D using Nat.strongRecOn with
  | ind D ih =>
    by_cases h : 10 ≤ D ∧ D % 10 = 0
    · rw [cutz_pos h.1 h.2]
      exact ih (D / 10) (by omega) (by omega)
    · rw [cutz_neg h]
      omega

/-- where the text of a number lies -/
theorem own_dec (c : Nat) (sg : Bool) (n : Int) (k y : Nat) (h : ShAt 52 c 400 n k y) (hy : 0 < y) :
    ∃ i : Nat, i ≤ 21 ∧ Ev (fun q => spec_DecimalOf.f q (strOfNums ((if sg = true then [45] else []) ++ laidL (dec (cutz y)) (n + ((dec y).length : Int) - (k : Int))))) (strOfNums (dec (cutz y) ++ List.replicate i 48), n + ((dec y).length : Int) - (k : Int) - ((dec (cutz y)).length : Int) - (i : Int), sg) := by
  have hu := h.upper (by decide)
  have hk := h.k2
  have h1 : y < 10 ^ (17 + 1) := Nat.lt_of_le_of_lt hu (Nat.pow_lt_pow_right (by decide) (by omega))
  have h2 := dec_length_le 17 y h1
  have h3 := cutz_len y
  have n0 := h.n0
  have n1 := h.n1
  have k1 := h.k1
  exact dec_laid (dec (cutz y)) _ sg (dec_length_pos _) (by omega) (dec_digit _) (cutz_nz y hy) (by omega) (by omega)
theorem own_size (y i : Nat) (hy : y < 10 ^ 18) (hi : i ≤ 21) : (strOfNums (dec (cutz y) ++ List.replicate i 48)).size ≤ 40 ∧ 0 < (strOfNums (dec (cutz y) ++ List.replicate i 48)).size ∧ (strOfNums (dec (cutz y) ++ List.replicate i 48)).size = (dec (cutz y)).length + i := by
  have h2 := dec_length_le 17 y hy
  have h3 := cutz_len y
  have h4 := dec_length_pos (cutz y)
  rw [strOfNums_size, List.length_append, List.length_replicate]
  omega
theorem own_digits (y i : Nat) (hy : 0 < y) : (∀ b ∈ bytesOf (strOfNums (dec (cutz y) ++ List.replicate i 48)), 48 ≤ b ∧ b ≤ 57) ∧ dvl (bytesOf (strOfNums (dec (cutz y) ++ List.replicate i 48))) = cutz y * 10 ^ i := by
  rw [← dec_mul_pow (cutz_form y hy).1 i]
  exact ⟨str_dec_digit _, str_dec _⟩
theorem arr4 (a b c d : Nat) : a * b * (c * d) = a * c * (b * d) := by ac_rfl
theorem arr3 (a b c d : Nat) : a * b * (c * d) = a * (c * (b * d)) := by ac_rfl
theorem arr2 (a b c : Nat) : a * (b * c) = b * (a * c) := by ac_rfl
/-- the text of a number is read as this number -/
theorem back_ev (c : Nat) (sg : Bool) (l : List Int) (hc : c < 9218868437227405312) (hl : NumText 52 c l) :
    ∃ (s : ByteArray) (p : Int), Ev (fun q => spec_DecimalOf.f q (strOfNums ((if sg = true then [45] else []) ++ l))) (s, p, sg) ∧ s.size ≤ 40 ∧ -2000 ≤ p ∧ p ≤ 2000 ∧
      Ev (fun q => spec_Form_Nearest.f q ((52 : Nat) : Int) ((9218868437227405311 : Nat) : Int) s p) ((c : Nat) : Int) := by
  rcases hl with ⟨rfl, rfl⟩ | ⟨h1, n, k, y, hsh, hy, rfl⟩
  · refine ⟨strOfNums [], 0, ?_, by decide, by decide, by decide, ?_⟩
    · have hh := dec_of ((if sg = true then [45] else []) ++ [48]) ((if sg = true then [45] else []) ++ [48]) [] sg [] 0 0 false false (by simp) (by cases sg <;> simp) (by cases sg <;> simp) (by cases sg <;> simp) (by cases sg <;> rfl) (by cases sg <;> simp) (.inl rfl) (by cases sg <;> rfl) rfl (by decide) (by decide) (by decide) (by decide)
      exact hh
    · refine Ev.congr (Ev.succ (f := fun k => spec_Form_Nearest.j0 k true ((52 : Nat) : Int) ((9218868437227405311 : Nat) : Int) (strOfNums []) 0) (g := fun _ => some 0) (fun k => rfl) (Ev.pure _)) (fun k => ?_)
      rw [spec_Form_Nearest.f, if_pos (by decide)]
  · obtain ⟨i, hi, hE⟩ := own_dec c sg n k y hsh hy
    have hu := hsh.upper (by decide)
    have hk := hsh.k2
    have k1 := hsh.k1
    have n0 := hsh.n0
    have n1 := hsh.n1
    have hy18 : y < 10 ^ 18 := Nat.lt_of_le_of_lt hu (Nat.pow_lt_pow_right (by decide) (by omega))
    obtain ⟨s1, s2, s3⟩ := own_size y i hy18 hi
    obtain ⟨d1, d2⟩ := own_digits y i hy
    have hl1 := dec_length_le 17 y hy18
    have hl2 := dec_length_pos y
    have hl3 := cutz_len y
    have hl4 := dec_length_pos (cutz y)
    obtain ⟨p, hp⟩ : ∃ p, p = n + ((dec y).length : Int) - (k : Int) - ((dec (cutz y)).length : Int) - (i : Int) := ⟨_, rfl⟩
    rw [← hp] at hE
    refine ⟨_, p, hE, s1, by omega, by omega, ?_⟩
    obtain ⟨low, l1, l2, l3, l4⟩ := nearest_ev 9218868437227405311 (strOfNums (dec (cutz y) ++ List.replicate i 48)) p (by decide) (by decide) s2 (by omega) d1 (by rw [s3]; omega) (by rw [s3]; omega)
    rw [d2] at l2 l3 l4
    have hr : readsB 52 c (cutz y * 10 ^ i) p = true := by
      obtain ⟨j, hj⟩ := (cutz_form y hy).2
      have hlen := dec_mul_pow (cutz_form y hy).1 j
      rw [← hj] at hlen
      have hlen2 : (dec y).length = (dec (cutz y)).length + j := by rw [hlen]; simp
      rw [readsB_inn c _ 400 p (by omega), decide_eq_true_eq]
      have hin := hsh.inn
      have e : cutz y * 10 ^ i * (2 ^ (lst 52 + 1) * 10 ^ (p + ((400 : Nat) : Int)).toNat) = y * Ug 52 n 400 k := by
        unfold Ug
        obtain ⟨L, hL⟩ : ∃ L : Nat, L = 2 ^ (lst 52 + 1) := ⟨_, rfl⟩
        rw [← hL]
        rw [show y * (L * 10 ^ (n - (k : Int) + ((400 : Nat) : Int)).toNat) = cutz y * 10 ^ j * (L * 10 ^ (n - (k : Int) + ((400 : Nat) : Int)).toNat) by rw [← hj]]
        rw [arr4 (cutz y) (10 ^ i), arr4 (cutz y) (10 ^ j)]
        rw [← Nat.pow_add, ← Nat.pow_add, show i + (p + ((400 : Nat) : Int)).toNat = j + (n - (k : Int) + ((400 : Nat) : Int)).toNat by omega]
      rw [e]
      exact hin
    rw [finN_reads 9218868437227405311 _ c p h1 (by omega) low l1 l2 l3 hr] at l4
    exact l4

theorem inn_convex {Bm Bp V a b : Nat} {ev : Bool} (h : Inn Bm Bp ev a) (h1 : Bm < V) (h2 : V < Bp) (hb : (a ≤ b ∧ b ≤ V) ∨ (V ≤ b ∧ b ≤ a)) : Inn Bm Bp ev b := by
  obtain ⟨q1, q2⟩ := h
  constructor
  · rcases q1 with q1 | ⟨q1, q3⟩
    · left; omega
    · by_cases hh : Bm = b
      · exact .inr ⟨q1, hh⟩
      · left; omega
  · rcases q2 with q2 | ⟨q2, q3⟩
    · left; omega
    · by_cases hh : b = Bp
      · exact .inr ⟨q2, hh⟩
      · left; omega
theorem inn_step {Bm Bp V x u : Nat} {ev : Bool} (hu : 0 < u) (h : Inn Bm Bp ev (x * u)) (h1 : Bm < V) (h2 : V < Bp) : ∃ z, refStep V Bm Bp ev u = some z := by
  refine refStep_isSome ?_
  have e := Nat.div_add_mod V u
  have em := Nat.mod_lt V hu
  rw [Nat.mul_comm] at e
  have e1 : (V / u + 1) * u = V / u * u + u := by rw [Nat.add_mul, Nat.one_mul]
  by_cases hx : x * u ≤ V
  · left
    refine inn_convex h h1 h2 (.inl ⟨Nat.mul_le_mul_right u ((Nat.le_div_iff_mul_le hu).2 hx), by omega⟩)
  · right
    refine inn_convex h h1 h2 (.inr ⟨by omega, Nat.mul_le_mul_right u ?_⟩)
    exact (Nat.div_lt_iff_lt_mul hu).2 (by omega)
theorem big400 (q : Nat) (hq : q = 400) : 10 ^ 17 * 2 ^ (lst 52 + 1) < 10 ^ q := by subst hq; decide +kernel
/-- what is read as a number has at least its digits -/
theorem fewest (c D : Nat) (p : Int) (n : Int) (k y : Nat) (hsh : ShAt 52 c 400 n k y) (hy : 0 < y) (hc : 1 ≤ c) (hD0 : 0 < D) (hD : D ≤ 10 ^ 17) (hr : readsB 52 c D p = true) : (dec (cutz y)).length ≤ (dec (cutz D)).length := by
  -- not too small
  have hp : -400 ≤ p := by
    refine Int.not_lt.1 fun hlt => ?_
    unfold readsB at hr
    rw [decide_eq_true_eq] at hr
    have h1 := hr.1
    unfold agn at h1
    rw [cmp_pos, cmp_zero] at h1
    have h2 : (T2 52 (c - 1) + T2 52 c) * 10 ^ (-p).toNat ≤ D * 2 ^ (lst 52 + 1) * 10 ^ p.toNat := by omega
    have t0 := T2_strict 52 (show c - 1 < c by omega)
    rw [show p.toNat = 0 by omega, Nat.pow_zero, Nat.mul_one] at h2
    obtain ⟨q, hq⟩ : ∃ q : Nat, q = 400 := ⟨_, rfl⟩
    obtain ⟨W, hW⟩ : ∃ W : Nat, W = (-p).toNat := ⟨_, rfl⟩
    have hqW : q ≤ W := by omega
    obtain ⟨U, hU⟩ : ∃ U : Nat, U = T2 52 (c - 1) + T2 52 c := ⟨_, rfl⟩
    have hU1 : 1 ≤ U := by omega
    rw [← hW, ← hU] at h2
    have h3 : 10 ^ q ≤ U * 10 ^ W := Nat.le_trans (Nat.pow_le_pow_right (by decide) hqW) (Nat.le_mul_of_pos_left _ hU1)
    have h4 : D * 2 ^ (lst 52 + 1) ≤ 10 ^ 17 * 2 ^ (lst 52 + 1) := Nat.mul_le_mul_right _ hD
    exact absurd (Nat.le_trans h3 (Nat.le_trans h2 h4)) (Nat.not_le.2 (big400 q hq))
  obtain ⟨hd0, i, hi⟩ := cutz_form D hD0
  obtain ⟨m, hm⟩ : ∃ m, m = (dec (cutz D)).length := ⟨_, rfl⟩
  have hm1 : 1 ≤ m := by rw [hm]; exact dec_length_pos _
  have hm18 : m ≤ 18 := by
    have h1 := dec_length_le 17 D (Nat.lt_of_le_of_lt hD (by decide))
    have h2 := cutz_len D
    omega
  have hlow := dec_lower (cutz D) hd0
  have hupp := dec_upper (cutz D)
  rw [← hm] at hlow hupp ⊢
  -- its own digits are at most k
  have hu := hsh.upper (by decide)
  have k1 := hsh.k1
  have k2 := hsh.k2
  have n0 := hsh.n0
  have n1 := hsh.n1
  have hK : (dec (cutz y)).length ≤ k := by
    by_cases he : y = 10 ^ k
    · have h1 := cutz_mul_pow (show 0 < 1 by decide) k
      rw [Nat.one_mul, ← he] at h1
      rw [h1, show cutz 1 = 1 from cutz_neg (by decide), dec_lt (by decide)]
      exact k1
    · obtain ⟨j, rfl⟩ : ∃ j, k = j + 1 := ⟨k - 1, by omega⟩
      have h1 := dec_length_le j y (by omega)
      have h2 := cutz_len y
      omega
  refine Nat.le_of_not_lt fun hlt => ?_
  have hmk : m < k := by omega
  rw [readsB_inn c D 400 p (by omega), decide_eq_true_eq] at hr
  obtain ⟨L, hL⟩ : ∃ L, L = 2 ^ (lst 52 + 1) := ⟨_, rfl⟩
  have L0 : 0 < L := by rw [hL]; exact Nat.two_pow_pos _
  have t0 := T2_strict 52 (show c - 1 < c by omega)
  have t1 := T2_strict 52 (show c < c + 1 by omega)
  have E0 : ∀ q : Nat, 0 < 10 ^ q := fun q => Nat.pow_pos (by decide)
  have hBm : (T2 52 (c - 1) + T2 52 c) * 10 ^ 400 < T2 52 c * 2 ^ 1 * 10 ^ 400 := Nat.mul_lt_mul_of_pos_right (by omega) (E0 400)
  have hBp : T2 52 c * 2 ^ 1 * 10 ^ 400 < (T2 52 c + T2 52 (c + 1)) * 10 ^ 400 := Nat.mul_lt_mul_of_pos_right (by omega) (E0 400)
  have hlo := hsh.low
  have hhi := hsh.high
  have hnone := hsh.none
  generalize (T2 52 (c - 1) + T2 52 c) * 10 ^ 400 = Bm at *
  generalize (T2 52 c + T2 52 (c + 1)) * 10 ^ 400 = Bp at *
  generalize T2 52 c * 2 ^ 1 * 10 ^ 400 = V at *
  -- the value
  have hW : D * (2 ^ (lst 52 + 1) * 10 ^ (p + ((400 : Nat) : Int)).toNat) = cutz D * (L * 10 ^ (p + i + 400).toNat) := by
    rw [← hL]
    rw [show D * (L * 10 ^ (p + ((400 : Nat) : Int)).toNat) = cutz D * 10 ^ i * (L * 10 ^ (p + ((400 : Nat) : Int)).toNat) by rw [← hi]]
    rw [arr3]
    rw [← Nat.pow_add, show i + (p + ((400 : Nat) : Int)).toNat = (p + i + 400).toNat by omega]
  rw [hW] at hr
  have none1 : ∀ j, 1 ≤ j → j < k → ∀ x, ¬ Inn Bm Bp (decide (c % 2 = 0)) (x * Ug 52 n 400 j) := by
    intro j j1 j2 x hx
    obtain ⟨z, hz⟩ := inn_step (Ug_pos 52 n 400 j) hx hBm hBp
    rw [hnone j j1 j2] at hz
    cases hz
  have hUg : ∀ j : Nat, Ug 52 n 400 j = L * 10 ^ (n - (j : Int) + 400).toNat := fun j => by unfold Ug; rw [← hL]; rfl
  rcases Int.lt_trichotomy (p + i + m) n with hc1 | hc1 | hc1
  · -- below: the power of ten under the number is nearer
    refine none1 1 (by omega) (by omega) 1 ?_
    rw [Nat.one_mul]
    refine inn_convex hr hBm hBp (.inl ⟨?_, hlo⟩)
    have h1 : cutz D * (L * 10 ^ (p + i + 400).toNat) ≤ 10 ^ m * (L * 10 ^ (p + i + 400).toNat) := Nat.mul_le_mul_right _ (Nat.le_of_lt hupp)
    refine Nat.le_trans h1 ?_
    rw [hUg, arr2, ← Nat.pow_add]
    exact Nat.mul_le_mul_left _ (Nat.pow_le_pow_right (by decide) (by omega))
  · refine none1 m (by omega) (by omega) (cutz D) ?_
    rw [hUg, show (n - (m : Int) + 400).toNat = (p + i + 400).toNat by omega]
    exact hr
  · refine none1 1 (by omega) (by omega) 10 ?_
    have e10 : 10 * Ug 52 n 400 1 = Ug 52 n 400 0 := (Ug_succ 52 n 400 0 (by omega)).symm
    rw [e10]
    refine inn_convex hr hBm hBp (.inr ⟨Nat.le_of_lt hhi, ?_⟩)
    have h1 : 10 ^ (m - 1) * (L * 10 ^ (p + i + 400).toNat) ≤ cutz D * (L * 10 ^ (p + i + 400).toNat) := Nat.mul_le_mul_right _ hlow
    refine Nat.le_trans ?_ h1
    rw [hUg, arr2, ← Nat.pow_add]
    exact Nat.mul_le_mul_left _ (Nat.pow_le_pow_right (by decide) (by omega))
end Go.Proofs.YtiopeaponffmdaaDoor.PAll
-- YtiopeaponffmdaaDoorPAllx31
namespace Go.Proofs.YtiopeaponffmdaaDoor.PAll
open Go.RowKit Go.Proofs.YtiopeaponffmdaaDoorW.PrintWords Go.Proofs.YtiopeaponffmdaaDoorW.PrintLast Go.Proofs.YtiopeaponffmdaaDoorW.PrintMore
attribute [local go_sem] max2_int min2_int max_two min_two max_three min_three max_four min_four   -- for this text's walks alone
set_option linter.unusedVariables false
set_option linter.unusedSimpArgs false

def laws_digits8.l0 : Nat → Int → ByteArray → Int → Option (Int)
  | 0, _, _, _ => none
  | k + 1, x5, x491000, x491001 => if x5 > 0 then (if 0 ≤ (wrap64 (x5 - 1)) then (if (wrap64 (x5 - 1)) < (x491000.size : Int) then (if (bt x491000 (wrap64 (x5 - 1))) = 48 then (laws_digits8.l0 k (wrap64 (x5 - 1)) x491000 x491001) else (some x5)) else (none)) else (none)) else (some x5)
def laws_digits8.f (k : Nat) (a0 : ByteArray) : Option (Int) := (spec_DecimalOf.f k a0).bind fun bt487 => (laws_digits8.l0 k (bt487.1.size : Int) bt487.1 bt487.2.1)
set_option maxHeartbeats 8000000 in
set_option maxRecDepth 100000 in
theorem laws_digits8.calls (k : Nat) (a0 : ByteArray) (r : Int) (w : World) (h : laws_digits8.f k a0 = some r) :
    Calls Tryd.prog 19 #[.string a0] w fun e w' => e = .returned (.int .i64 r) ∧ Below w.heap.size w w' := by
  have hu35 := Tryd.underlying35
  have HB := Aside0.mk (Below.refl w.heap.size w)
  have H : ((spec_DecimalOf.f k a0).bind fun bt487 => (laws_digits8.l0 k (bt487.1.size : Int) bt487.1 bt487.2.1)) = some r := h
  clear h
  replace H := Option.bind_eq_some_iff.mp H
  obtain ⟨⟨t487, t488, t489⟩, A20, H⟩ := H
  replace H : (laws_digits8.l0 k (t487.size : Int) t487 t488) = some r := H
  have A2 := Aside0.mk A20
  clear A20
  have H' := Aside0.mk H
  clear H
  go_enter Tryd.func19, Tryd.ntmps19
  go_wp2_with (first | ((with_reducible refine gate_callee (f := 17) rfl ?_); refine goesL_ (some 8) rfl rfl Tryd.func17 (by kernel_rfl) rfl #[.string a0] rfl (by (try simp only [List.map_toArray, List.map_cons, List.map_nil]); first | done | rfl | (simp only [List.length_drop, List.length_take]; rfl)) ?_; (with_reducible refine (spec_DecimalOf.calls k a0 t487 t488 t489 _ A2.out).mono ?_); rintro e w3 ⟨rfl, hb⟩; refine ⟨_, rfl, ?_⟩; have n0_ := Aside0.mk (below_step (by repeat (first | (with_reducible first | exact HB.out | apply below_alloc | apply pw_below_drewN | apply below_drew1) | exact HB.out)) hb); clear HB; have HB := n0_; clear n0_; (try clear hb); (try clear hb2); (try clear hk); (try clear hi)) | ((with_reducible refine gate_dst (N := 3) rfl ?_); refine box_event ?hg (N := 3) ?hd (cs := #[.string (⟨#[]⟩ : ByteArray), .int .i64 0]) (t := 35) ?hr ?_; (case hd => rfl); (case hg => rfl); (case hr => first | (go_simp; done) | (go_simp; rfl)); intro gb490 hg w4 hbox hb; have n0_ := Aside0.mk (below_step (by repeat (first | (with_reducible first | exact HB.out | apply below_alloc | apply pw_below_drewN | apply below_drew1) | exact HB.out)) hb); have n1_ := Aside0.mk (hbox); have n2_ := Aside0.mk ((by rw [hg]; exact (below_size (by repeat (first | (with_reducible first | exact HB.out | apply below_alloc | apply pw_below_drewN | apply below_drew1) | exact HB.out))) : w.heap.size ≤ gb490)); have n3_ := Aside0.mk ((by rw [hg]; exact (below_size (by repeat (first | (with_reducible first | exact HB.out | apply below_alloc | apply pw_below_drewN | apply below_drew1) | exact HB.out))) : w.heap.size ≤ gb490)); clear HB; have HB := n0_; have BK490 := n1_; have GW490 := n2_; have GE490 := n3_; clear n0_ n1_ n2_ n3_; clear hb hbox hg; have hcz5_0 : w4.cell? ⟨gb490, 0, none⟩ = some (.string (⟨#[]⟩ : ByteArray)) := (blk_cell BK490.out 0).trans rfl; have hcz5_1 : w4.cell? ⟨gb490, 1, none⟩ = some (.int .i64 0) := (blk_cell BK490.out 1).trans rfl; have hfz5_0 := blk_frozen BK490.out 0; have hfz5_1 := blk_frozen BK490.out 1))
  go_loopg [5] k (fun kq v5 w' => ∃ (x5_1 : Int), v5 = .int .i64 x5_1 ∧ Aside0 (laws_digits8.l0 kq x5_1 t487 t488 = some r) ∧ Aside0 (kq ≤ k) ∧ Aside0 (w'.heap[gb490]? = some (.cells #[.string t487, .int .i64 t488] 35 (0, 0))) ∧ Aside0 (Below w.heap.size w w'))
  case atStart => exact ⟨((t487.size : Int)), (by first | rfl | (simp; done) | (simp [*]; done)), H', ⟨Nat.le_refl _⟩, ⟨by (with_reducible repeat (first | refine blk_drewN ?_ _ | refine blk_drew ?_ | refine blk_alloc ?_ _)); refine blk_put (cs := #[.string t487, .int .i64 0]) ?_ 1 _ rfl; (with_reducible repeat (first | refine blk_drewN ?_ _ | refine blk_drew ?_ | refine blk_alloc ?_ _)); refine blk_put (cs := #[.string (⟨#[]⟩ : ByteArray), .int .i64 0]) ?_ 0 _ rfl; (with_reducible repeat (first | refine blk_drewN ?_ _ | refine blk_drew ?_ | refine blk_alloc ?_ _)); exact BK490.out⟩, ⟨by repeat (first | (with_reducible first | exact HB.out | apply below_alloc | apply pw_below_drewN | apply below_drew1 | refine below_set ?_ GE490.out) | exact HB.out)⟩⟩
  case round =>
    clear H'
    try clear c1
    try clear p2
    try clear hcz5_0
    try clear hcz5_1
    try clear hfz5_0
    try clear hfz5_1
    obtain ⟨x5_1, rfl, HA, HK1, BK490, HB⟩ := hrel
    cases gk with
    | zero => exact absurd HA.out (by simp [laws_digits8.l0])
    | succ k1 =>
      have H := HA.out
      clear HA
      simp only [laws_digits8.l0] at H
      by_cases c6 : x5_1 > 0
      · rw [if_pos c6] at H
        have c6b0 : decide (0 < x5_1) = true := decide_eq_true c6
        clear c6
        obtain ⟨ji7, hji7⟩ : ∃ j_ : Int, (wrap64 (x5_1 - 1)) = j_ := ⟨_, rfl⟩
        replace H : (if 0 ≤ (ji7) then (if (ji7) < (t487.size : Int) then (if (bt t487 (ji7)) = 48 then (laws_digits8.l0 k1 ji7 t487 t488) else (some x5_1)) else (none)) else (none)) = some r := by first | (rw [hji7] at H; exact H) | (simp only [hji7] at H ⊢; exact H)
        have hji7w : (IntKind.i64.wrap (x5_1 - 1)) = ji7 := (i64_w _).trans hji7
        by_cases c8 : 0 ≤ (ji7)
        · rw [if_pos c8] at H
          have c8b0 : decide (0 ≤ (ji7)) = true := decide_eq_true c8
          clear c8
          by_cases c9 : (ji7) < (t487.size : Int)
          · rw [if_pos c9] at H
            have c9b0 : decide ((ji7) < (t487.size : Int)) = true := decide_eq_true c9
            clear c9
            by_cases c11 : (bt t487 (ji7)) = 48
            · rw [if_pos c11] at H
              have c11b0 : ((bt t487 (ji7)) == 48) = true := beq_iff_eq.mpr c11
              have c11b1 : ((bt t487 (ji7)) != 48) = false := bne_eq_false_iff_eq.mpr c11
              clear c11
              have H' := Aside0.mk H
              clear H
              have hcz12_0 : wr.cell? ⟨gb490, 0, none⟩ = some (.string t487) := (blk_cell BK490.out 0).trans rfl
              have hcz12_1 : wr.cell? ⟨gb490, 1, none⟩ = some (.int .i64 t488) := (blk_cell BK490.out 1).trans rfl
              have hfz12_0 := blk_frozen BK490.out 0
              have hfz12_1 := blk_frozen BK490.out 1
              have p10 : 0 ≤ ((ji7) : Int) := of_decide_eq_true (by first | (with_reducible assumption) | assumption)
              have q10 : (ji7) < (t487.size : Int) := of_decide_eq_true (by first | (with_reducible assumption) | assumption)
              have hx10 := bt_at t487 (ji7)
              replace p10 := eq_true p10
              replace q10 := eq_true q10
              go_wp2
              go_roundg k1
              case measure => have := HK1.out; omega
              case rel => exact ⟨(ji7), (by first | rfl | (simp; done) | (simp only [← hji7] <;> (first | rfl | simp)) | (simp [*]; done)), H', ⟨by have := HK1.out; omega⟩, ⟨by (with_reducible repeat (first | refine blk_drewN ?_ _ | refine blk_drew ?_ | refine blk_alloc ?_ _)); exact BK490.out⟩, ⟨by repeat (first | (with_reducible first | exact HB.out | apply below_alloc | apply pw_below_drewN | apply below_drew1 | refine below_set ?_ GE490.out) | exact HB.out)⟩⟩
            · rw [if_neg c11] at H
              have c11b0 : ((bt t487 (ji7)) == 48) = false := beq_eq_false_iff_ne.mpr c11
              have c11b1 : ((bt t487 (ji7)) != 48) = true := bne_iff_ne.mpr c11
              obtain rfl := Option.some.inj H
              have hcz13_0 : wr.cell? ⟨gb490, 0, none⟩ = some (.string t487) := (blk_cell BK490.out 0).trans rfl
              have hcz13_1 : wr.cell? ⟨gb490, 1, none⟩ = some (.int .i64 t488) := (blk_cell BK490.out 1).trans rfl
              have hfz13_0 := blk_frozen BK490.out 0
              have hfz13_1 := blk_frozen BK490.out 1
              have p10 : 0 ≤ ((ji7) : Int) := of_decide_eq_true (by first | (with_reducible assumption) | assumption)
              have q10 : (ji7) < (t487.size : Int) := of_decide_eq_true (by first | (with_reducible assumption) | assumption)
              have hx10 := bt_at t487 (ji7)
              replace p10 := eq_true p10
              replace q10 := eq_true q10
              go_wp2
              go_ret
              exact ⟨by first | rfl | (simp [errW_none, errW_some] <;> rfl) | (simp only [← hji7]; first | rfl | (simp [errW_none, errW_some] <;> rfl)) | (simp [*, errW_none, errW_some] <;> rfl), by repeat (first | (with_reducible first | exact HB.out | apply below_alloc | apply pw_below_drewN | apply below_drew1 | refine below_set ?_ GE490.out) | exact HB.out)⟩
          · rw [if_neg c9] at H
            exact absurd H (by simp)
        · rw [if_neg c8] at H
          exact absurd H (by simp)
      · rw [if_neg c6] at H
        have c6b0 : decide (0 < x5_1) = false := decide_eq_false c6
        clear c6
        obtain rfl := Option.some.inj H
        go_wp2
        go_ret
        exact ⟨by first | rfl | (simp [errW_none, errW_some] <;> rfl) | (simp [*, errW_none, errW_some] <;> rfl), by repeat (first | (with_reducible first | exact HB.out | apply below_alloc | apply pw_below_drewN | apply below_drew1 | refine below_set ?_ GE490.out) | exact HB.out)⟩

end Go.Proofs.YtiopeaponffmdaaDoor.PAll
-- YtiopeaponffmdaaDoorGh
set_option linter.unusedVariables false
set_option linter.unusedSimpArgs false
namespace Go.Proofs.YtiopeaponffmdaaDoor.PAll
open Go.RowKit Go.Proofs.YtiopeaponffmdaaDoorW.PrintWords Go.Proofs.YtiopeaponffmdaaDoorW.PrintLast Go.Proofs.YtiopeaponffmdaaDoorW.PrintMore
open Fm

/-- digits that are laid one ahead of the other: what is left, and what lies there -/
def LS (N r : Nat) (l : List Int) : Prop := (dec r ++ l = dec N ∧ (0 < r ∨ l = [])) ∨ (r = 0 ∧ l = dec N)
theorem LS.start (N : Nat) : LS N N [] := .inl ⟨by simp, .inr rfl⟩
theorem LS.step {N r : Nat} {l : List Int} (h : dec r ++ l = dec N) : LS N (r / 10) (((48 + r % 10 : Nat) : Int) :: l) := by
  by_cases h10 : 10 ≤ r
  · left
    rw [dec_ge h10] at h
    exact ⟨by rw [← h]; simp, .inl (by omega)⟩
  · right
    rw [dec_lt (by omega)] at h
    exact ⟨by omega, by rw [← h, show r % 10 = r by omega]; rfl⟩
theorem LS.len {N r : Nat} {l : List Int} (h : LS N r l) (hN : N < 18446744073709551616) : l.length ≤ 20 := by
  have := dec_length_le 19 N (by omega)
  rcases h with ⟨h, _⟩ | ⟨_, rfl⟩
  · rw [← h, List.length_append] at this
    omega
  · exact this
theorem rd_app_l (a b : List Int) (i : Nat) (h : i < a.length) : rd (a ++ b) (i : Int) = rd a (i : Int) := by
  unfold rd
  rw [Int.toNat_natCast, List.getD_eq_getElem?_getD, List.getD_eq_getElem?_getD, List.getElem?_append_left h]
theorem rd_app_r (a b : List Int) (i : Nat) (h : a.length ≤ i) : rd (a ++ b) (i : Int) = rd b ((i - a.length : Nat) : Int) := by
  unfold rd
  rw [Int.toNat_natCast, Int.toNat_natCast, List.getD_eq_getElem?_getD, List.getD_eq_getElem?_getD, List.getElem?_append_right h]
theorem dec_last (C : Nat) (hC : C % 10 ≠ 0) : rd (dec C) (((dec C).length - 1 : Nat) : Int) ≠ 48 := by
  by_cases h : C < 10
  · rw [dec_lt h]
    show ((48 + C : Nat) : Int) ≠ 48
    omega
  · rw [dec_ge (by omega), rd_app_r _ _ _ (by rw [List.length_append]; simp)]
    rw [show (dec (C / 10) ++ [((48 + C % 10 : Nat) : Int)]).length - 1 - (dec (C / 10)).length = 0 by rw [List.length_append]; simp]
    show ((48 + C % 10 : Nat) : Int) ≠ 48
    omega
/-- the number of the digits of a text, without the zeros behind them -/
theorem digits8_ev (t : ByteArray) (C I : Nat) (p : Int) (sg : Bool) (hC : C % 10 ≠ 0) (hI : I ≤ 1000) (hlen : (dec C).length ≤ 1000)
    (hE : Ev (fun k => spec_DecimalOf.f k t) (strOfNums (dec C ++ List.replicate I 48), p, sg)) : Ev (fun k => laws_digits8.f k t) (((dec C).length : Nat) : Int) := by
  obtain ⟨s, hs⟩ : ∃ s, s = strOfNums (dec C ++ List.replicate I 48) := ⟨_, rfl⟩
  have hdig : ∀ x ∈ dec C ++ List.replicate I 48, 48 ≤ x ∧ x ≤ 57 := by
    intro x hx
    rcases List.mem_append.1 hx with hx | hx
    · exact dec_digit C x hx
    · have := List.eq_of_mem_replicate hx; omega
  have hbt : ∀ i : Int, bt s i = rd (dec C ++ List.replicate I 48) i := fun i => by rw [hs]; exact bt_str hdig i
  have hsz : s.size = (dec C).length + I := by rw [hs, strOfNums_size, List.length_append, List.length_replicate]
  have hpos := dec_length_pos C
  have hlast := dec_last C hC
  rw [← hs] at hE
  have main : ∀ j : Nat, j ≤ I → Ev (fun k => laws_digits8.l0 k (((dec C).length + j : Nat) : Int) s p) (((dec C).length : Nat) : Int) := by
    intro j
    induction j with
    | zero =>
      intro _
      have e1 : wrap64 ((((dec C).length + 0 : Nat) : Int) - 1) = (((dec C).length - 1 : Nat) : Int) := by rw [w64 _ (by omega) (by omega)]; omega
      refine Ev.succ (g := fun _ => some (((dec C).length : Nat) : Int)) (fun k => ?_) (Ev.pure _)
      rw [laws_digits8.l0, if_pos (by omega), e1, if_pos (by omega), if_pos (by omega), hbt, rd_app_l _ _ _ (by omega), if_neg hlast]
      rfl
    | succ j ih =>
      intro hj
      have e1 : wrap64 ((((dec C).length + (j + 1) : Nat) : Int) - 1) = (((dec C).length + j : Nat) : Int) := by rw [w64 _ (by omega) (by omega)]; omega
      have e2 : rd (dec C ++ List.replicate I 48) (((dec C).length + j : Nat) : Int) = 48 := by
        rw [rd_app_r _ _ _ (by omega)]
        unfold rd
        rw [Int.toNat_natCast, List.getD_eq_getElem?_getD, List.getElem?_replicate, if_pos (by omega)]
        rfl
      refine Ev.succ (fun k => ?_) (ih (by omega))
      rw [laws_digits8.l0, if_pos (by omega), e1, if_pos (by omega), if_pos (by omega), hbt, e2, if_pos rfl]
  have h := main I (Nat.le_refl _)
  rw [← hsz] at h
  exact Ev.congr (Ev.bind (h := fun k bt487 => laws_digits8.l0 k (bt487.1.size : Int) bt487.1 bt487.2.1) hE h) (fun k => rfl)
theorem digits8_nil : Ev (fun k => laws_digits8.f k (strOfNums [])) 0 := by
  have hE : Ev (fun k => spec_DecimalOf.f k (strOfNums [])) (strOfNums [], 0, false) := by
    refine ⟨10, fun k hk => ?_⟩
    obtain ⟨j, rfl⟩ : ∃ j, k = j + 4 := ⟨k - 4, by omega⟩
    have hz : ¬ (0 : Int) < ((strOfNums []).size : Int) := by decide
    dsimp only
    rw [spec_DecimalOf.f, if_neg hz, spec_DecimalOf.j0, spec_DecimalOf.l0, if_neg hz, spec_DecimalOf.j2, if_neg (by decide), spec_DecimalOf.l1, if_neg hz, if_neg (by decide), w64 _ (by decide) (by decide)]
    rfl
  refine Ev.congr (Ev.bind (h := fun k bt487 => laws_digits8.l0 k (bt487.1.size : Int) bt487.1 bt487.2.1) hE ?_) (fun k => rfl)
  refine Ev.succ (g := fun _ => some 0) (fun k => ?_) (Ev.pure _)
  rw [laws_digits8.l0, if_neg (by decide)]
  rfl
theorem text_dec (D : Nat) (hD : 0 < D) (hD2 : D < 10 ^ 100) : Ev (fun k => spec_DecimalOf.f k (strOfNums (dec D))) (strOfNums (dec D), 0, false) := by
  have hl := dec_length_le 99 D hD2
  have hp := dec_length_pos D
  obtain ⟨b, t, hbt⟩ : ∃ b t, dec D = b :: t := by
    cases hh : dec D with
    | nil => rw [hh] at hp; simp at hp
    | cons b t => exact ⟨b, t, rfl⟩
  have hb := dec_digit D
  have hb48 : b ≠ 48 := by
    have h := cutz_nz_pos D hD
    rw [hbt] at h
    exact h
  have hdig : ∀ x ∈ b :: t, 48 ≤ x ∧ x ≤ 57 := by rw [← hbt]; exact hb
  have hh := dec_of (dec D) (dec D) [] false (dec D) 0 0 false false (by simp) (fun x hx => by have := hb x hx; omega) (by omega) (by omega) (by
    rw [hbt]
    show (b == 45) = false
    have := hdig b (by simp)
    rw [beq_eq_false_iff_ne]; omega) (fun x hx => by have := hb x hx; omega) (.inl rfl) (by rw [hbt, foldA_first t b 0 false hb48 hdig]; rfl) rfl (by decide) (by decide) (by decide) (by decide)
  exact hh
theorem digits8_dec (D : Nat) (hD : 0 < D) (hD2 : D < 10 ^ 100) : Ev (fun k => laws_digits8.f k (strOfNums (dec D))) (((dec (cutz D)).length : Nat) : Int) := by
  obtain ⟨hp, i, hi⟩ := cutz_form D hD
  have e := dec_mul_pow hp i
  rw [← hi] at e
  have hl := dec_length_le 99 D hD2
  have hE := text_dec D hD hD2
  have hlen : (dec D).length = (dec (cutz D)).length + i := by rw [e]; simp
  refine digits8_ev (strOfNums (dec D)) (cutz D) i 0 false (cutz_last D hD) (by omega) (by omega) ?_
  rw [← e]
  exact hE
theorem digits8_own (c : Nat) (sg : Bool) (n : Int) (k y : Nat) (h : ShAt 52 c 400 n k y) (hy : 0 < y) :
    Ev (fun q => laws_digits8.f q (strOfNums ((if sg = true then [45] else []) ++ laidL (dec (cutz y)) (n + ((dec y).length : Int) - (k : Int))))) (((dec (cutz y)).length : Nat) : Int) := by
  obtain ⟨i, hi, hE⟩ := own_dec c sg n k y h hy
  have hu := h.upper (by decide)
  have hk := h.k2
  have h1 : y < 10 ^ (17 + 1) := Nat.lt_of_le_of_lt hu (Nat.pow_lt_pow_right (by decide) (by omega))
  have h2 := dec_length_le 17 y h1
  have h3 := cutz_len y
  exact digits8_ev _ (cutz y) i _ sg (cutz_last y hy) (by omega) (by omega) hE
end Go.Proofs.YtiopeaponffmdaaDoor.PAll
-- YtiopeaponffmdaaDoorGi
set_option linter.unusedVariables false
set_option linter.unusedSimpArgs false
namespace Go.Proofs.YtiopeaponffmdaaDoor.PAll
open Go.RowKit Go.Proofs.YtiopeaponffmdaaDoorW.PrintWords Go.Proofs.YtiopeaponffmdaaDoorW.PrintLast Go.Proofs.YtiopeaponffmdaaDoorW.PrintMore
open Fm
attribute [local go_sem] max2_int min2_int

theorem conv1 (W : World) (x : Int) : (convert 39 9 (.slice (some ⟨W.heap.size, 0, none⟩) 1 1)).run Tryd.prog (W.alloc (.cells #[.int .u8 x] 5)) = .ok (.string (strOfNums [x])) (W.alloc (.cells #[.int .u8 x] 5)) :=
  run_convert_bytes_arg _ 39 5 Tryd.underlying39 Tryd.underlying5 W.heap.size 0 1 1 [x] rfl (fun i hi => by
    obtain rfl : i = 0 := by omega
    simp only [World.cell?, heap_alloc_new]; rfl) 9 Tryd.underlying9
set_option maxRecDepth 100000 in
theorem w8A (n : Int) (w : World) (h : n < -9007199254740992) : Calls Tryd.prog 8 #[.int .i64 n] w fun e w' => e = .returned (.bool true) ∧ Below w.heap.size w w' := by
  have h1 : decide (n < -9007199254740992) = true := decide_eq_true h
  go_enter Tryd.func8, Tryd.ntmps8
  go_wp2_with (fail)
  go_ret
  exact ⟨rfl, Below.refl _ _⟩
set_option maxRecDepth 100000 in
theorem w8B (n : Int) (w : World) (h : 9007199254740992 < n) : Calls Tryd.prog 8 #[.int .i64 n] w fun e w' => e = .returned (.bool true) ∧ Below w.heap.size w w' := by
  have h0 : decide (n < -9007199254740992) = false := decide_eq_false (by omega)
  have h1 : decide (9007199254740992 < n) = true := decide_eq_true h
  go_enter Tryd.func8, Tryd.ntmps8
  go_wp2_with (fail)
  go_ret
  exact ⟨rfl, Below.refl _ _⟩
def LSW (n : Nat) (w : World) (kq : Nat) (v r : Value) (wr : World) : Prop := ∃ (l : List Int) (m : Nat), v = .string (strOfNums l) ∧ r = .int .i64 m ∧ LS n m l ∧ m ≤ n ∧ 2 * m + (if l = [] then 1 else 0) ≤ kq ∧ Below w.heap.size w wr
theorem LSW.open_ {n : Nat} {w : World} {kq : Nat} {v r : Value} {wr : World} (h : LSW n w kq v r wr) : ∃ (l : List Int) (m : Nat), v = .string (strOfNums l) ∧ r = .int .i64 m ∧ LS n m l ∧ m ≤ n ∧ 2 * m + (if l = [] then 1 else 0) ≤ kq ∧ Below w.heap.size w wr := h
theorem str_empty (l : List Int) : (strOfNums l).toList.isEmpty = l.isEmpty := by
  have h : (strOfNums l).toList.length = l.length := by rw [ByteArray.toList_eq]; simp [strOfNums]
  cases l with
  | nil => cases h2 : (strOfNums []).toList with
    | nil => rfl
    | cons a t => rw [h2] at h; simp at h
  | cons b t => cases h2 : (strOfNums (b :: t)).toList with
    | nil => rw [h2] at h; simp at h
    | cons a t => rfl
theorem LS.pos {N r : Nat} {l : List Int} (h : LS N r l) (hr : 0 < r) : dec r ++ l = dec N := by
  rcases h with ⟨h, _⟩ | ⟨h, _⟩
  · exact h
  · omega
theorem LS.zero {N : Nat} {l : List Int} (h : LS N 0 l) (hl : l ≠ []) : l = dec N := by
  rcases h with ⟨_, h⟩ | ⟨_, h⟩
  · rcases h with h | h
    · omega
    · exact absurd h hl
  · exact h
theorem LS.fresh {N : Nat} (h : LS N 0 []) : dec 0 ++ [] = dec N := by
  rcases h with ⟨h, _⟩ | ⟨_, h⟩
  · exact h
  · have := dec_length_pos N
    rw [← h] at this
    simp at this
theorem LS.fresh' {N m : Nat} (h : LS N m []) (hm : ¬ 0 < m) : dec m ++ [] = dec N := by
  obtain rfl : m = 0 := by omega
  exact h.fresh
theorem LS.zero' {N m : Nat} {l : List Int} (h : LS N m l) (hm : ¬ 0 < m) (hl : l ≠ []) : l = dec N := by
  obtain rfl : m = 0 := by omega
  exact h.zero hl
theorem cons_dig (m : Nat) (l : List Int) : strOfNums [48 + (m : Int) % 10] ++ strOfNums l = strOfNums (((48 + m % 10 : Nat) : Int) :: l) := by
  rw [str_append, show (48 + (m : Int) % 10) = ((48 + m % 10 : Nat) : Int) by omega]; rfl
set_option maxRecDepth 100000 in
theorem w8P (n : Nat) (x : Nat) (w : World) (hn : n ≤ 9007199254740992) (hfl : floatOfInt .f64 (n : Int) = x)
    (hT : ∀ W, Below w.heap.size w W → Calls Tryd.prog 14 #[.string ⟨#[]⟩, .float .f64 x, .int .i64 64] W fun e w' => e = .returned (.string (strOfNums (dec n))) ∧ Below W.heap.size W w') :
    Calls Tryd.prog 8 #[.int .i64 n] w fun e w' => e = .returned (.bool true) ∧ Below w.heap.size w w' := by
  have h0 : decide ((n : Int) < -9007199254740992) = false := decide_eq_false (by omega)
  have h1 : decide (9007199254740992 < (n : Int)) = false := decide_eq_false (by omega)
  have h2 : decide ((n : Int) < 0) = false := decide_eq_false (by omega)
  have hmx : max (n : Int) (-(n : Int)) = (n : Int) := by omega
  have hcv := conv1
  have HT := Lib.hid hT
  have HF := Lib.hid hfl
  clear hT hfl
  go_enter Tryd.func8, Tryd.ntmps8
  go_wp2_with (fail)
  go_loopg [3, 4] (2 * n + 1) (fun kq v r wr => LSW n w kq v r wr)
  case atStart => exact ⟨[], n, rfl, rfl, LS.start n, Nat.le_refl _, by simp, Below.refl _ _⟩
  case round =>
    obtain ⟨l, m, rfl, rfl, hls, hmn, hk, hb⟩ := hrel.open_
    clear hrel
    have HL := Lib.hid hls
    have HB := Lib.hid hb
    have HK := Lib.hid hk
    have he := str_empty l
    have hs1 : (strOfNums [48 + (m : Int) % 10]).size ≤ 1 := by rw [strOfNums_size]; exact Nat.le_refl _
    have hs2 : (strOfNums l).size ≤ 20 := by rw [strOfNums_size]; exact hls.len (by omega)
    clear hls hb hk
    by_cases hm : 0 < m
    · have hd0 : decide (0 < (m : Int)) = true := decide_eq_true (by omega)
      clear he
      go_wp2_with (fail)
      go_roundg (2 * (m / 10))
      case measure => have := HK.out; split at this <;> omega
      case rel => exact ⟨((48 + m % 10 : Nat) : Int) :: l, m / 10, by rw [cons_dig], by go_num, LS.step (HL.out.pos hm), by omega, by simp, by repeat (first | exact HB.out | apply below_alloc)⟩
    · have hd0 : decide (0 < (m : Int)) = false := decide_eq_false (by omega)
      by_cases hl : l = []
      · rw [hl] at he
        subst hl
        have he2 : (strOfNums []).toList = [] := List.isEmpty_iff.1 he
        go_wp2_with (fail)
        go_roundg (2 * (m / 10))
        case measure => have := HK.out; simp at this; omega
        case rel => exact ⟨((48 + m % 10 : Nat) : Int) :: [], m / 10, by rw [cons_dig], by go_num, LS.step (HL.out.fresh' hm), by omega, by simp, by repeat (first | exact HB.out | apply below_alloc)⟩
      · have he3 : (strOfNums l).toList.isEmpty = false := by rw [he]; simpa using hl
        have he4 : ¬ (strOfNums l).toList = [] := fun h => by rw [h] at he3; cases he3
        have hld : l = dec n := HL.out.zero' hm hl
        clear he
        have hfl := HF.out
        subst hld
        go_wp2_with (fail)
        refine (HT.out _ HB.out).mono ?_
        rintro e w1 ⟨rfl, hb1⟩
        have HB1 := Lib.hid (HB.out.trans (hb1.mono HB.out.size))
        clear hb1
        go_wp2_with (fail)
        go_ret
        exact ⟨rfl, HB1.out⟩
set_option maxRecDepth 100000 in
theorem w8N (n : Nat) (x : Nat) (w : World) (hn : n ≤ 9007199254740992) (hn0 : 0 < n) (hfl : floatOfInt .f64 (-(n : Int)) = x)
    (hT : ∀ W, Below w.heap.size w W → Calls Tryd.prog 14 #[.string ⟨#[]⟩, .float .f64 x, .int .i64 64] W fun e w' => e = .returned (.string (⟨#[45]⟩ ++ strOfNums (dec n))) ∧ Below W.heap.size W w') :
    Calls Tryd.prog 8 #[.int .i64 (-(n : Int))] w fun e w' => e = .returned (.bool true) ∧ Below w.heap.size w w' := by
  have h0 : decide (-(n : Int) < -9007199254740992) = false := decide_eq_false (by omega)
  have h0' : decide (9007199254740992 < (n : Int)) = false := decide_eq_false (by omega)
  have h1 : decide (9007199254740992 < -(n : Int)) = false := decide_eq_false (by omega)
  have h2 : decide (-(n : Int) < 0) = true := decide_eq_true (by omega)
  have h3 : decide (0 < (n : Int)) = true := decide_eq_true (by omega)
  have hmx : max (-(n : Int)) (n : Int) = (n : Int) := by omega
  have hcv := conv1
  have HT := Lib.hid hT
  have HF := Lib.hid hfl
  clear hT hfl
  go_enter Tryd.func8, Tryd.ntmps8
  go_wp2_with (fail)
  go_loopg [3, 4] (2 * n + 1) (fun kq v r wr => LSW n w kq v r wr)
  case atStart => exact ⟨[], n, rfl, rfl, LS.start n, Nat.le_refl _, by simp, Below.refl _ _⟩
  case round =>
    obtain ⟨l, m, rfl, rfl, hls, hmn, hk, hb⟩ := hrel.open_
    clear hrel
    have HL := Lib.hid hls
    have HB := Lib.hid hb
    have HK := Lib.hid hk
    have he := str_empty l
    have hs1 : (strOfNums [48 + (m : Int) % 10]).size ≤ 1 := by rw [strOfNums_size]; exact Nat.le_refl _
    have hs2 : (strOfNums l).size ≤ 20 := by rw [strOfNums_size]; exact hls.len (by omega)
    clear hls hb hk
    by_cases hm : 0 < m
    · have hd0 : decide (0 < (m : Int)) = true := decide_eq_true (by omega)
      clear he
      go_wp2_with (fail)
      go_roundg (2 * (m / 10))
      case measure => have := HK.out; split at this <;> omega
      case rel => exact ⟨((48 + m % 10 : Nat) : Int) :: l, m / 10, by rw [cons_dig], by go_num, LS.step (HL.out.pos hm), by omega, by simp, by repeat (first | exact HB.out | apply below_alloc)⟩
    · have hd0 : decide (0 < (m : Int)) = false := decide_eq_false (by omega)
      by_cases hl : l = []
      · rw [hl] at he
        subst hl
        have he2 : (strOfNums []).toList = [] := List.isEmpty_iff.1 he
        go_wp2_with (fail)
        go_roundg (2 * (m / 10))
        case measure => have := HK.out; simp at this; omega
        case rel => exact ⟨((48 + m % 10 : Nat) : Int) :: [], m / 10, by rw [cons_dig], by go_num, LS.step (HL.out.fresh' hm), by omega, by simp, by repeat (first | exact HB.out | apply below_alloc)⟩
      · have he3 : (strOfNums l).toList.isEmpty = false := by rw [he]; simpa using hl
        have he4 : ¬ (strOfNums l).toList = [] := fun h => by rw [h] at he3; cases he3
        have hld : l = dec n := HL.out.zero' hm hl
        clear he
        have hfl := HF.out
        have hs3 : (⟨#[45]⟩ : ByteArray).size ≤ 1 := by decide
        subst hld
        go_wp2_with (fail)
        refine (HT.out _ HB.out).mono ?_
        rintro e w1 ⟨rfl, hb1⟩
        have HB1 := Lib.hid (HB.out.trans (hb1.mono HB.out.size))
        clear hb1
        go_wp2_with (fail)
        go_ret
        exact ⟨rfl, HB1.out⟩
theorem w8 (n : Int) (w : World) (hR : Rdy w) : Calls Tryd.prog 8 #[.int .i64 n] w fun e w' => e = .returned (.bool true) ∧ Below w.heap.size w w' := by
  by_cases h1 : n < -9007199254740992
  · exact w8A n w h1
  · by_cases h2 : 9007199254740992 < n
    · exact w8B n w h2
    · obtain ⟨x, c, sg, hf, hx, hc, hc1, hsg, hsn, ht⟩ := conv_whole n (by omega) (by omega)
      have hT : ∀ W, Below w.heap.size w W → Calls Tryd.prog 14 #[.string ⟨#[]⟩, .float .f64 x, .int .i64 64] W fun e w' => e = .returned (.string (strOfNums ((if sg = true then [45] else []) ++ dec n.natAbs))) ∧ Below W.heap.size W w' := by
        intro W hW
        obtain ⟨l, hl, hC⟩ := textE x c sg W hx hc hc1 hsg (hR.mono hW)
        rw [ht l hl] at hC
        exact hC
      by_cases h0 : n < 0
      · obtain ⟨m, rfl⟩ : ∃ m : Nat, n = -(m : Int) := ⟨n.natAbs, by omega⟩
        rw [hsn, decide_eq_true h0, if_pos rfl, ← str_append, show (-(m : Int)).natAbs = m by omega] at hT
        exact w8N m x w (by omega) (by omega) hf hT
      · obtain ⟨m, rfl⟩ : ∃ m : Nat, n = (m : Int) := ⟨n.natAbs, by omega⟩
        rw [hsn, decide_eq_false h0, if_neg (by decide), List.nil_append, show ((m : Int)).natAbs = m by omega] at hT
        exact w8P m x w (by omega) hf hT
end Go.Proofs.YtiopeaponffmdaaDoor.PAll
-- YtiopeaponffmdaaDoorRa
namespace Go.Proofs.YtiopeaponffmdaaDoor
open Go.ChangeShapes Go.WideShapes Go.ChangeAt Go.RowKit

/-- AN ARRAY OF PAIRS -/
theorem cells_of_pairs {H : Type} {enc : TypeId × Value → H} {P : Program} {w : World} {base : Nat} {sp : Nat → Bool} {held : Bool} {fuel : Nat} {t e : TypeId} {n : Nat} {k : IntKind} {cs : List Value} {zs : List (Int × Int)} {p : List MemPlace}
    (ht : P.underlying t = some (.array n e)) {fs : Array Field} (he : P.underlying e = some (.struct fs)) (hf : ∀ (i : Nat) (f : Field), fs[i]? = some f → P.underlying f.type = some (.int k) ∧ f.offset = i ∧ P.cellsOf f.type = 1) (hfs : fs.size = 2) (hce : P.cellsOf e = 2)
    (h : DataW.trod enc P w base sp held fuel t cs = some (.agg (zs.map fun z => .agg [.lit (.int k z.1), .lit (.int k z.2)]), p)) :
    ∀ i z, zs[i]? = some z → cs[i * 2]? = some (.int k z.1) ∧ cs[i * 2 + 1]? = some (.int k z.2) := by
  cases fuel with
  | zero => simp [DataW.trod] at h
  | succ fuel =>
    simp only [DataW.trod, ht, hce] at h
    split at h
    · rename_i hl
      obtain ⟨xs, hm, hx⟩ := Option.map_eq_some_iff.1 h
      have hxs : xs.map (·.1) = zs.map fun z => (DataW.agg [.lit (.int k z.1), .lit (.int k z.2)] : DataW H) := by
        have := congrArg Prod.fst hx
        simpa using this
      have hxl : xs.length = n := by simpa using Lib.mapM_length hm
      have hzl : zs.length = n := by
        have := congrArg List.length hxs
        simp at this
        omega
      intro i z hz
      have hi : i < n := by
        have := (List.getElem?_eq_some_iff.1 hz).1
        omega
      obtain ⟨b, hb, hfb⟩ := Lib.mapM_at hm i i (by simp [hi])
      have h2 : (xs.map (·.1))[i]? = some b.1 := by simp [hb]
      rw [hxs, List.getElem?_map, hz] at h2
      simp only [Option.map_some, Option.some.injEq] at h2
      obtain ⟨b1, b2⟩ := b
      simp only at h2
      subst h2
      have hc := Lib.ints_of_struct (zs := [z.1, z.2]) he hf (by rw [hce, hfs]) hfb
      constructor
      · have := congrArg (·[0]?) hc
        simpa [List.getElem?_take, List.getElem?_drop] using this
      · have := congrArg (·[1]?) hc
        simpa [List.getElem?_take, List.getElem?_drop] using this
    · cases h

theorem own : ownKnob Tryd.prog.godebug = none := by kernel_rfl
theorem laidOut : laidOutB Tryd.prog = true := by kernel_rfl
theorem p10Ok : Tryd.prog.globalNamed "internal/strconv.pow10Tab" = some 3 := by kernel_rfl
theorem p10Ty : (Tryd.prog.globals[3]?).map (·.type) = some 118 := by kernel_rfl
theorem u10Ok : Tryd.prog.globalNamed "internal/strconv.uint64pow10" = some 2 := by kernel_rfl
theorem u10Ty : (Tryd.prog.globals[2]?).map (·.type) = some 109 := by kernel_rfl
theorem cells25 : Tryd.prog.cellsOf 25 = 1 := by kernel_rfl
theorem cells117 : Tryd.prog.cellsOf 117 = 2 := by kernel_rfl
theorem cells109 : Tryd.prog.cellsOf 109 = 20 := by kernel_rfl
theorem und118 : Tryd.prog.underlying 118 = some (.array 696 117) := by kernel_rfl
theorem fields117 : ∀ (i : Nat) (f : Field), (#[{ name := "hi", type := 25, offset := 0, embedded := false, tag := "", pkgPath := "internal/strconv", byteOffset := 0 }, { name := "lo", type := 25, offset := 1, embedded := false, tag := "", pkgPath := "internal/strconv", byteOffset := 8 }] : Array Field)[i]? = some f → Tryd.prog.underlying f.type = some (.int .u64) ∧ f.offset = i ∧ Tryd.prog.cellsOf f.type = 1 := by
  intro i f h
  match i, h with
  | 0, h => cases h; exact ⟨Tryd.underlying25, rfl, cells25⟩
  | 1, h => cases h; exact ⟨Tryd.underlying25, rfl, cells25⟩
  | i + 2, h => simp at h
theorem und109 : Tryd.prog.underlying 109 = some (.array 20 25) := by kernel_rfl

/-- the tables, out of the row's condition -/
theorem rdy_of {W : World} {l : List (String × DataW Unit)} (hd : laidMet Tryd.prog l W) (h1 : ("internal/strconv.uint64pow10", (Rows.laid_internal_strconv_uint64pow10 : DataW Unit)) ∈ l) (h2 : ("internal/strconv.pow10Tab", Rows.laid_internal_strconv_pow10Tab) ∈ l) : PAll.Rdy W := by
  obtain ⟨g, t, cs, fuel, p, a1, a2, a3, a4⟩ := Lib.laidMet.reads hd h1
  obtain rfl := Option.some.inj (u10Ok.symm.trans a1)
  obtain rfl := Option.some.inj (u10Ty.symm.trans a2)
  have e1 : (Rows.laid_internal_strconv_uint64pow10 : DataW Unit) = Lib.tabData .u64 Lib.pow10Tab := by kernel_rfl
  rw [e1] at a4
  have hc1 := Lib.cells_of_tab und109 Tryd.underlying25 cells25 cells109 a4
  obtain ⟨g, t, cs', fuel', p', b1, b2, b3, b4⟩ := Lib.laidMet.reads hd h2
  obtain rfl := Option.some.inj (p10Ok.symm.trans b1)
  obtain rfl := Option.some.inj (p10Ty.symm.trans b2)
  have e2 : Rows.laid_internal_strconv_pow10Tab = .agg ((Go.Pinned.pow10Rows.map fun x => (((x.1 : Int), (x.2 : Int)) : Int × Int)).map fun z => .agg [.lit (.int .u64 z.1), .lit (.int .u64 z.2)]) := by
    show Go.Pinned.pow10Tab = _
    unfold Go.Pinned.pow10Tab
    rw [List.map_map]
    rfl
  rw [e2] at b4
  have hc2 := cells_of_pairs und118 Tryd.underlying117 fields117 rfl cells117 b4
  have tab1 : Lib.TabIs Tryd.prog W "internal/strconv.uint64pow10" .u64 Lib.pow10Tab := by
    unfold Lib.TabIs
    rw [a3, ← hc1]
  have len : Go.Pinned.pow10Rows.length = 696 := by kernel_rfl
  have s3 : 3 < W.heap.size := by
    refine Nat.not_le.1 fun hle => ?_
    have : W.heap[3]? = none := Array.getElem?_eq_none hle
    simp [World.var?, p10Ok, this] at b3
  have cell : ∀ i, i < 696 → W.cell? ⟨3, i * 2, none⟩ = some (.int .u64 ((Go.Pinned.pow10Rows.getD i (0, 0)).1 : Int)) ∧ W.cell? ⟨3, i * 2 + 1, none⟩ = some (.int .u64 ((Go.Pinned.pow10Rows.getD i (0, 0)).2 : Int)) := by
    intro i hi
    have hz : (Go.Pinned.pow10Rows.map fun x => (((x.1 : Int), (x.2 : Int)) : Int × Int))[i]? = some (((Go.Pinned.pow10Rows.getD i (0, 0)).1 : Int), ((Go.Pinned.pow10Rows.getD i (0, 0)).2 : Int)) := by
      rw [List.getElem?_map, List.getD_eq_getElem?_getD, List.getElem?_eq_getElem (by rw [len]; exact hi)]
      rfl
    obtain ⟨c1, c2⟩ := hc2 i _ hz
    rw [World.var?_cell p10Ok b3, World.var?_cell p10Ok b3]
    exact ⟨by simpa using c1, by simpa using c2⟩
  intro V hV
  have k3 : V.heap[3]? = W.heap[3]? := hV.block 3 s3
  have k2 : V.heap[2]? = W.heap[2]? := hV.block 2 (by omega)
  refine ⟨⟨Nat.lt_of_lt_of_le s3 hV.size, fun i hi => ?_⟩, ?_⟩
  · have := cell i hi
    simp only [World.cell?, k3] at this ⊢
    exact this
  · unfold Lib.TabIs at tab1 ⊢
    rw [← tab1]
    simp only [World.var?, u10Ok, Option.bind_some, k2]
end Go.Proofs.YtiopeaponffmdaaDoor
