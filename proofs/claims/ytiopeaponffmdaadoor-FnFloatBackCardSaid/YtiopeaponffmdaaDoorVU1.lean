/- The texts of a proof, its declarations alone: part 1. -/
import Derived.Below
import Derived.Deep.Draws
import Derived.Deep.AppendLies
import Derived.Maps.AppendAt
import Derived.OwnWalk
import Derived.Laws.BytesArg
import Derived.Laws.MakeOwn
import Derived.Laws.OwnMore
import Derived.Deep.OwnRows
import Derived.Tactics
import Derived.Lib.ConvBytes
import Derived.Laws.Slices
import Derived.WalkKit
import Derived.KernelRfl
import Derived.RowKit3
import Derived.Deep.LoopGhost
import Derived.Deep.QuietTactic
import Derived.BigQuiet
import Derived.WideLaws
import Derived.Deep.DeepCutAuto
import Derived.Deep.CutBlock
import Derived.Deep.RegionHeld3
import Derived.Laws.Rows
import Derived.Lib.AppendStr
import Derived.ArgAppend
import Derived.Laws.IdiomCopy
import Derived.RowKit
import Derived.OrdersHeld
import Derived.Laws.BitsLemmas
set_option linter.unusedVariables false
set_option linter.unusedSimpArgs false
-- YtiopeaponffmdaaDoorMb
namespace Go.Proofs.YtiopeaponffmdaaDoor.Fm

/-- floor of n/m, its last bit told to be 1 where something is left over -/
def unr (n m : Nat) : Nat := if n % m = 0 then n / m else n / m / 2 * 2 + 1

/-- what 'uscale' computes -/
def usc (x h l s : Nat) : Nat :=
  let A := x * h
  let hi := A / 2 ^ 64
  let mid := A % 2 ^ 64
  if hi % 2 ^ s ≠ 0 then hi / 2 ^ s / 2 * 2 + 1 else
  let mid2 := x * l / 2 ^ 64
  let hi' := if mid < mid2 then hi - 1 else hi
  let rest := if mid < mid2 then mid + 2 ^ 64 - mid2 else mid - mid2
  if rest > 1 then hi' / 2 ^ s / 2 * 2 + 1 else hi' / 2 ^ s

theorem unr_in {n m q : Nat} (h1 : q * m < n) (h2 : n < (q + 1) * m) : unr n m = q / 2 * 2 + 1 := by
  have hm : 0 < m := by
    refine Nat.pos_of_ne_zero fun h => ?_
    subst h; omega
  have hq : n / m = q := Nat.div_eq_of_lt_le (by omega) h2
  have hr : n % m ≠ 0 := fun h => by
    have := Nat.div_add_mod n m
    rw [hq, h, Nat.mul_comm] at this
    omega
  unfold unr
  rw [if_neg hr, hq]

theorem unr_at {n m q : Nat} (hm : 0 < m) (h : n = q * m) : unr n m = q := by
  subst h
  unfold unr
  rw [Nat.mul_mod_left, if_pos rfl, Nat.mul_div_cancel _ hm]

theorem usc_ok (x h l s tn td : Nat) (hx : 0 < x) (hx2 : x < 2 ^ 64) (hl : l < 2 ^ 64) (htd : 0 < td)
    (hp1 : tn + l * td ≤ h * 2 ^ 64 * td) (hp2 : h * 2 ^ 64 * td < tn + l * td + td)
    (hgap : ∀ q : Nat, x * tn = q * 2 ^ s * 2 ^ 128 * td ∨ x * tn ≥ (q * 2 ^ s * 2 ^ 128 + 3 * 2 ^ 64) * td ∨ x * tn + 3 * 2 ^ 64 * td ≤ q * 2 ^ s * 2 ^ 128 * td) :
    usc x h l s = unr (x * tn) (2 ^ s * 2 ^ 128 * td) := by
  have hS : 0 < 2 ^ s := Nat.two_pow_pos s
  unfold usc
  generalize 2 ^ s = S at *
  -- the parts
  obtain ⟨hi, mid, hA, hmid⟩ : ∃ hi mid, x * h = hi * 2 ^ 64 + mid ∧ mid < 2 ^ 64 := ⟨x * h / 2 ^ 64, x * h % 2 ^ 64, by omega, by omega⟩
  obtain ⟨mid2, lo2, hB, hlo2⟩ : ∃ mid2 lo2, x * l = mid2 * 2 ^ 64 + lo2 ∧ lo2 < 2 ^ 64 := ⟨x * l / 2 ^ 64, x * l % 2 ^ 64, by omega, by omega⟩
  have eA1 : x * h / 2 ^ 64 = hi := by omega
  have eA2 : x * h % 2 ^ 64 = mid := by omega
  have eB : x * l / 2 ^ 64 = mid2 := by omega
  have hm2 : mid2 < x := by
    have : x * l < x * 2 ^ 64 := Nat.mul_lt_mul_of_pos_left hl hx
    omega
  -- x * tn, told by the parts
  obtain ⟨dl, hdl1, hdl2⟩ : ∃ dl, x * tn + mid2 * 2 ^ 64 * td + lo2 * td + dl = hi * 2 ^ 128 * td + mid * 2 ^ 64 * td ∧ dl < x * td := by
    have e1 : x * (tn + l * td) ≤ x * (h * 2 ^ 64 * td) := Nat.mul_le_mul_left x hp1
    have e2 : x * (h * 2 ^ 64 * td) < x * (tn + l * td + td) := Nat.mul_lt_mul_of_pos_left hp2 hx
    have f1 : x * (tn + l * td) = x * tn + (mid2 * 2 ^ 64 + lo2) * td := by rw [← hB]; grind
    have f2 : x * (h * 2 ^ 64 * td) = (hi * 2 ^ 64 + mid) * 2 ^ 64 * td := by rw [← hA]; grind
    have f3 : x * (tn + l * td + td) = x * tn + (mid2 * 2 ^ 64 + lo2) * td + x * td := by rw [← hB]; grind
    have g1 : (mid2 * 2 ^ 64 + lo2) * td = mid2 * 2 ^ 64 * td + lo2 * td := Nat.add_mul ..
    have g2 : (hi * 2 ^ 64 + mid) * 2 ^ 64 * td = hi * 2 ^ 128 * td + mid * 2 ^ 64 * td := by grind
    exact ⟨x * (h * 2 ^ 64 * td) - x * (tn + l * td), by omega, by omega⟩
  have b1 : x * td < 2 ^ 64 * td := Nat.mul_lt_mul_of_pos_right hx2 htd
  have b2 : lo2 * td < 2 ^ 64 * td := Nat.mul_lt_mul_of_pos_right hlo2 htd
  have b3 : mid * td < 2 ^ 64 * td := Nat.mul_lt_mul_of_pos_right hmid htd
  have b4 : mid2 * td + td ≤ x * td := by
    have : (mid2 + 1) * td ≤ x * td := Nat.mul_le_mul_right td hm2
    rw [Nat.add_mul] at this; omega
  have b5 : 2 ^ 64 * (mid2 * td) + lo2 * td + x * td ≤ 2 ^ 64 * (x * td) := by
    have : x * (l + 1) * td ≤ x * 2 ^ 64 * td := Nat.mul_le_mul_right td (Nat.mul_le_mul_left x hl)
    have f1 : x * (l + 1) * td = (mid2 * 2 ^ 64 + lo2) * td + x * td := by rw [← hB]; grind
    have f2 : (mid2 * 2 ^ 64 + lo2) * td = 2 ^ 64 * (mid2 * td) + lo2 * td := by grind
    have f3 : x * 2 ^ 64 * td = 2 ^ 64 * (x * td) := by grind
    omega
  have c1 : mid * 2 ^ 64 * td = 2 ^ 64 * (mid * td) := by grind
  have c2 : mid2 * 2 ^ 64 * td = 2 ^ 64 * (mid2 * td) := by grind
  have c3 : hi * 2 ^ 128 * td = 2 ^ 128 * (hi * td) := by grind
  rw [c1, c2, c3] at hdl1
  simp only [eA1, eA2, eB]
  by_cases hr : hi % S = 0
  · rw [if_neg (by simpa using hr)]
    obtain ⟨q, rfl⟩ : ∃ q, hi = q * S := ⟨hi / S, by have := Nat.div_add_mod hi S; rw [hr] at this; rw [Nat.mul_comm]; omega⟩
    have em : q * S * 2 ^ 128 * td = 2 ^ 128 * (q * S * td) := by grind
    have em' : (q * S * 2 ^ 128 + 3 * 2 ^ 64) * td = 2 ^ 128 * (q * S * td) + 3 * 2 ^ 64 * td := by grind
    have eq1 : q * (S * 2 ^ 128 * td) = 2 ^ 128 * (q * S * td) := by grind
    have eq2 : (q + 1) * (S * 2 ^ 128 * td) = 2 ^ 128 * (q * S * td) + 2 ^ 128 * (S * td) := by grind
    have eS : 1 * td ≤ S * td := Nat.mul_le_mul_right td hS
    have hg := hgap q
    rw [em, em'] at hg
    rcases hg with hg | hg | hg
    · -- exact
      have k1 : mid2 ≤ mid := by
        refine Nat.not_lt.1 fun h => ?_
        have : (mid + 1) * td ≤ mid2 * td := Nat.mul_le_mul_right td h
        rw [Nat.add_mul] at this
        omega
      have k2 : mid ≤ mid2 + 1 := by
        refine Nat.not_lt.1 fun h => ?_
        have : (mid2 + 1 + 1) * td ≤ mid * td := Nat.mul_le_mul_right td h
        rw [Nat.add_mul, Nat.add_mul] at this
        omega
      have k3 : ¬ mid < mid2 := by omega
      simp only [if_neg k3]
      rw [if_neg (by omega), Nat.mul_div_cancel _ hS]
      refine (unr_at (Nat.mul_pos (Nat.mul_pos hS (by omega)) htd) ?_).symm
      rw [eq1]; exact hg
    · have k1 : mid2 + 2 ≤ mid := by
        refine Nat.not_lt.1 fun h => ?_
        have : mid * td ≤ (mid2 + 1) * td := Nat.mul_le_mul_right td (by omega)
        rw [Nat.add_mul] at this
        omega
      have k3 : ¬ mid < mid2 := by omega
      simp only [if_neg k3]
      rw [if_pos (by omega), Nat.mul_div_cancel _ hS]
      refine (unr_in ?_ ?_).symm
      · rw [eq1]; omega
      · rw [eq2]; omega
    · have k1 : mid + 2 ≤ mid2 := by
        refine Nat.not_lt.1 fun h => ?_
        have : mid2 * td ≤ (mid + 1) * td := Nat.mul_le_mul_right td (by omega)
        rw [Nat.add_mul] at this
        omega
      have hq : 1 ≤ q := by
        refine Nat.pos_of_ne_zero fun h => ?_
        subst h
        simp only [Nat.zero_mul, Nat.mul_zero] at hg
        omega
      obtain ⟨q, rfl⟩ : ∃ r, q = r + 1 := ⟨q - 1, by omega⟩
      have hd : ((q + 1) * S - 1) / S = q := by
        refine Nat.div_eq_of_lt_le ?_ ?_ <;> rw [Nat.add_mul] <;> omega
      have k3 : mid < mid2 := by omega
      simp only [if_pos k3]
      rw [if_pos (by omega), hd]
      refine (unr_in ?_ ?_).symm
      · have : q * (S * 2 ^ 128 * td) + 2 ^ 128 * (S * td) = 2 ^ 128 * ((q + 1) * S * td) := by grind
        omega
      · rw [eq1]; omega
  · rw [if_pos hr]
    obtain ⟨q, r, rfl, hr1, hr2⟩ : ∃ q r, hi = q * S + r ∧ 0 < r ∧ r < S := ⟨hi / S, hi % S, by have := Nat.div_add_mod hi S; rw [Nat.mul_comm] at this; omega, by omega, Nat.mod_lt _ hS⟩
    have hd : (q * S + r) / S = q := by
      refine Nat.div_eq_of_lt_le (by omega) ?_
      rw [Nat.add_mul]; omega
    rw [hd]
    have eq1 : q * (S * 2 ^ 128 * td) = 2 ^ 128 * (q * S * td) := by grind
    have eq2 : (q + 1) * (S * 2 ^ 128 * td) = 2 ^ 128 * (q * S * td) + 2 ^ 128 * (S * td) := by grind
    have eq3 : (q * S + r) * td = q * S * td + r * td := Nat.add_mul ..
    have e4 : 1 * td ≤ r * td := Nat.mul_le_mul_right td hr1
    have e5 : (r + 1) * td ≤ S * td := Nat.mul_le_mul_right td hr2
    rw [Nat.add_mul] at e5
    rw [eq3] at hdl1
    refine (unr_in ?_ ?_).symm
    · rw [eq1]; omega
    · rw [eq2]; omega

end Go.Proofs.YtiopeaponffmdaaDoor.Fm
-- YtiopeaponffmdaaDoorMc
namespace Go.Proofs.YtiopeaponffmdaaDoor.Fm

/-- in an interval, its ends counted where 'ev' -/
def Inn (Bm Bp : Nat) (ev : Bool) (w : Nat) : Prop := (Bm < w ∨ (ev = true ∧ Bm = w)) ∧ (w < Bp ∨ (ev = true ∧ w = Bp))
instance (Bm Bp : Nat) (ev : Bool) (w : Nat) : Decidable (Inn Bm Bp ev w) := by unfold Inn; infer_instance

/-- between x and x + 1 units the second one is taken -/
def Closer (V u x : Nat) : Prop := (2 * x + 1) * u < 2 * V ∨ ((2 * x + 1) * u = 2 * V ∧ x % 2 = 1)
instance (V u x : Nat) : Decidable (Closer V u x) := by unfold Closer; infer_instance

/-- the reference's step on a grid of unit u -/
def refStep (V Bm Bp : Nat) (ev : Bool) (u : Nat) : Option Nat :=
  let x := V / u
  if Inn Bm Bp ev (x * u) ∨ Inn Bm Bp ev ((x + 1) * u) then
    some (if Inn Bm Bp ev ((x + 1) * u) ∧ (¬ Inn Bm Bp ev (x * u) ∨ Closer V u x) then x + 1 else x)
  else none

/-- rounding to the nearest, between two to the even one -/
def rne (V u : Nat) : Nat := if Closer V u (V / u) then V / u + 1 else V / u

theorem exists_first {p : Nat → Prop} (a : Nat) : ∀ n, a ≤ n → p n → ∃ k, a ≤ k ∧ k ≤ n ∧ p k ∧ ∀ j, a ≤ j → j < k → ¬ p j := by
  intro n
  induction n using Nat.strongRecOn with
  | ind n ih =>
    intro ha hn
    by_cases h : ∃ m, a ≤ m ∧ m < n ∧ p m
    · obtain ⟨m, h1, h2, h3⟩ := h
      obtain ⟨k, k1, k2, k3, k4⟩ := ih m h2 h1 h3
      exact ⟨k, k1, by omega, k3, k4⟩
    · exact ⟨n, ha, Nat.le_refl _, hn, fun j j1 j2 j3 => h ⟨j, j1, j2, j3⟩⟩

theorem refStep_some {V Bm Bp : Nat} {ev : Bool} {u x : Nat} (h : refStep V Bm Bp ev u = some x) : Inn Bm Bp ev (x * u) := by
  unfold refStep at h
  dsimp only at h
  split at h
  · rename_i h1
    simp only [Option.some.injEq] at h
    split at h
    · rename_i h2; subst h; exact h2.1
    · rename_i h2; subst h
      rcases h1 with h1 | h1
      · exact h1
      · by_cases h3 : Inn Bm Bp ev (V / u * u)
        · exact h3
        · exact absurd ⟨h1, .inl h3⟩ h2
  · cases h

theorem refStep_isSome {V Bm Bp : Nat} {ev : Bool} {u : Nat} (h : Inn Bm Bp ev (V / u * u) ∨ Inn Bm Bp ev ((V / u + 1) * u)) : ∃ x, refStep V Bm Bp ev u = some x := by
  unfold refStep
  simp only [if_pos h]
  exact ⟨_, rfl⟩

/-- two within an interval, less than a unit wide, that are whole numbers of units are one -/
theorem inn_unique {Bm Bp : Nat} {ev : Bool} {u a b : Nat} (hw : Bp < Bm + u) (ha : Inn Bm Bp ev (a * u)) (hb : Inn Bm Bp ev (b * u)) : a = b := by
  have key : ∀ a b : Nat, Inn Bm Bp ev (a * u) → Inn Bm Bp ev (b * u) → ¬ a < b := by
    intro a b ha hb h
    have : (a + 1) * u ≤ b * u := Nat.mul_le_mul_right u h
    rw [Nat.add_mul] at this
    have h1 := ha.1
    have h2 := hb.2
    omega
  have h1 := key a b ha hb
  have h2 := key b a hb ha
  omega

theorem unit_mul (U : Nat → Nat) (hU : ∀ k, k < 17 → U k = 10 * U (k + 1)) (j : Nat) : ∀ m, j + m ≤ 17 → U j = 10 ^ m * U (j + m) := by
  intro m
  induction m with
  | zero => intro _; simp
  | succ m ih =>
    intro h
    rw [ih (by omega), hU (j + m) (by omega), Nat.pow_succ, Nat.mul_assoc]
    rfl

section
variable {V Bm Bp : Nat} {ev : Bool} {U : Nat → Nat} (hU : ∀ k, k < 17 → U k = 10 * U (k + 1)) {kk : Nat} (hk2 : kk ≤ 17)
include hU hk2

/-- a number of fewer digits lies within: the reference finds it -/
theorem find_short (hpos : 0 < U kk) (hBm : Bm < V) (hBp : V < Bp) (hw2 : Bp < Bm + 10 * U kk) (hkk : 2 ≤ kk) {d : Nat} (hd : Inn Bm Bp ev (d * U (kk - 1))) :
    ∃ k x, 1 ≤ k ∧ k < kk ∧ (∀ j, 1 ≤ j → j < k → refStep V Bm Bp ev (U j) = none) ∧ refStep V Bm Bp ev (U k) = some x ∧ x * U k = d * U (kk - 1) := by
  have e1 : U (kk - 1) = 10 * U kk := by
    have := hU (kk - 1) (by omega)
    rwa [show kk - 1 + 1 = kk by omega] at this
  have hu1 : 0 < U (kk - 1) := by omega
  have hw : Bp < Bm + U (kk - 1) := by omega
  -- on the grid itself
  have hhere : ∃ x, refStep V Bm Bp ev (U (kk - 1)) = some x := by
    refine refStep_isSome ?_
    generalize U (kk - 1) = u at *
    have q1 := Nat.div_add_mod V u
    have q2 := Nat.mod_lt V hu1
    rw [Nat.mul_comm] at q1
    generalize V / u = x at *
    by_cases hx : d ≤ x
    · left
      by_cases h : d = x
      · rw [← h]; exact hd
      · have h3 : (d + 1) * u ≤ x * u := Nat.mul_le_mul_right u (by omega)
        rw [Nat.add_mul] at h3
        have := hd.1
        refine ⟨.inl (by omega), .inl (by omega)⟩
    · right
      by_cases h : d = x + 1
      · rw [← h]; exact hd
      · have h3 : (x + 1 + 1) * u ≤ d * u := Nat.mul_le_mul_right u (by omega)
        rw [Nat.add_mul] at h3
        have h4 : (x + 1) * u = x * u + u := by rw [Nat.add_mul]; omega
        have := hd.2
        refine ⟨.inl (by omega), .inl (by omega)⟩
  obtain ⟨k, k1, k2, k3, k4⟩ := exists_first (p := fun k => ∃ x, refStep V Bm Bp ev (U k) = some x) 1 (kk - 1) (by omega) hhere
  obtain ⟨x, hx⟩ := k3
  refine ⟨k, x, k1, by omega, ?_, hx, ?_⟩
  · intro j j1 j2
    cases h : refStep V Bm Bp ev (U j) with
    | none => rfl
    | some y => exact absurd ⟨y, h⟩ (k4 j j1 j2)
  · have hin := refStep_some hx
    have hm := unit_mul U hU k (kk - 1 - k) (by omega)
    rw [show k + (kk - 1 - k) = kk - 1 by omega] at hm
    rw [hm, ← Nat.mul_assoc] at hin ⊢
    rw [inn_unique hw hin hd]

/-- none lies within: the reference comes to this grid -/
theorem find_long (hno : 2 ≤ kk → ∀ d, ¬ Inn Bm Bp ev (d * U (kk - 1))) :
    ∀ j, 1 ≤ j → j < kk → refStep V Bm Bp ev (U j) = none := by
  intro j j1 j2
  cases h : refStep V Bm Bp ev (U j) with
  | none => rfl
  | some y =>
    have hin := refStep_some h
    have hm := unit_mul U hU j (kk - 1 - j) (by omega)
    rw [show j + (kk - 1 - j) = kk - 1 by omega] at hm
    rw [hm, ← Nat.mul_assoc] at hin
    exact absurd hin (hno (by omega) _)
end

/-- on the grid itself: the nearest one, or the only one -/
theorem here {V Bm Bp : Nat} {ev : Bool} {u dmin dmax : Nat} (hu : 0 < u) (hBm : Bm < V) (hBp : V < Bp)
    (hmin : ∀ d, dmin ≤ d ↔ (Bm < d * u ∨ (ev = true ∧ Bm = d * u))) (hmax : ∀ d, d ≤ dmax ↔ (d * u < Bp ∨ (ev = true ∧ d * u = Bp)))
    (hsym : Bp - V ≤ 2 * (V - Bm)) (hsym2 : V - Bm ≤ Bp - V)
    (hwide : Bm + u < Bp ∨ (Bm + u = Bp ∧ V % u = 0) ∨ (Bm + u ≤ Bp ∧ ev = true)) :
    refStep V Bm Bp ev u = some (if dmin < dmax then rne V u else dmin) ∧ Inn Bm Bp ev ((if dmin < dmax then rne V u else dmin) * u) := by
  have hin : ∀ d, Inn Bm Bp ev (d * u) ↔ dmin ≤ d ∧ d ≤ dmax := fun d => by rw [hmin, hmax]; rfl
  have main : refStep V Bm Bp ev u = some (if dmin < dmax then rne V u else dmin) := by
    unfold refStep rne
    simp only [hin]
    have q1 := Nat.div_add_mod V u
    have q2 := Nat.mod_lt V hu
    rw [Nat.mul_comm] at q1
    generalize V / u = x at *
    have s1 : (x + 1) * u = x * u + u := by rw [Nat.add_mul]; omega
    have a1 : dmin ≤ x + 1 := (hmin _).2 (.inl (by omega))
    have a2 : x ≤ dmax := (hmax _).2 (.inl (by omega))
    have a3 : dmin ≤ dmax := by
      refine Nat.not_lt.1 fun h => ?_
      have b1 : ¬ dmin ≤ x := by omega
      have b2 : ¬ x + 1 ≤ dmax := by omega
      rw [hmin] at b1
      rw [hmax, s1] at b2
      cases ev <;> simp at b1 b2 hwide <;> omega
    by_cases hlt : dmin < dmax
    · rw [if_pos (by omega), if_pos hlt]
      by_cases hc : Closer V u x
      · have c1 : x + 1 ≤ dmax := by
          refine Nat.not_lt.1 fun h => ?_
          have : dmin ≤ x - 1 := by omega
          rw [hmin] at this
          have hx : 1 ≤ x := by omega
          have s0 : (x - 1) * u + u = x * u := by
            obtain ⟨y, rfl⟩ : ∃ y, x = y + 1 := ⟨x - 1, by omega⟩
            rw [Nat.add_mul]; simp
          have hn : ¬ x + 1 ≤ dmax := by omega
          rw [hmax, s1] at hn
          have s2 : (2 * x + 1) * u = 2 * (x * u) + u := by grind
          unfold Closer at hc
          rw [s2] at hc
          omega
        simp only [hc, or_true, and_true]
        rw [if_pos ⟨a1, c1⟩]; simp
      · have c1 : dmin ≤ x := by
          refine Nat.not_lt.1 fun h => ?_
          have h2 : x + 2 ≤ dmax := by omega
          rw [hmax] at h2
          have hn : ¬ dmin ≤ x := by omega
          rw [hmin] at hn
          have s2 : (2 * x + 1) * u = 2 * (x * u) + u := by grind
          have s3 : (x + 2) * u = x * u + 2 * u := by grind
          unfold Closer at hc
          rw [s2] at hc
          rw [s3] at h2
          omega
        have : ¬ ((dmin ≤ x + 1 ∧ x + 1 ≤ dmax) ∧ (¬ (dmin ≤ x ∧ x ≤ dmax) ∨ Closer V u x)) := by
          rintro ⟨_, h | h⟩
          · exact h ⟨c1, a2⟩
          · exact hc h
        rw [if_neg this, if_neg hc]
    · have hd : dmin = dmax := by omega
      rw [if_pos (by omega), if_neg hlt]
      by_cases h : dmin = x
      · rw [if_neg (by omega)]; rw [h]
      · rw [if_pos (by omega)]; congr 1; omega
  exact ⟨main, refStep_some main⟩

theorem unr_cases (n m : Nat) (hm : 0 < m) : ∃ q r, n = q * m + r ∧ r < m ∧ ((r = 0 ∧ unr n m = q) ∨ (0 < r ∧ unr n m = q / 2 * 2 + 1)) := by
  refine ⟨n / m, n % m, by rw [Nat.mul_comm]; exact (Nat.div_add_mod n m).symm, Nat.mod_lt _ hm, ?_⟩
  unfold unr
  by_cases h : n % m = 0
  · left; exact ⟨h, if_pos h⟩
  · right; exact ⟨by omega, if_neg h⟩

/-- the same ratio -/
theorem unr_ratio {a b c d : Nat} (hb : 0 < b) (hd : 0 < d) (h : a * d = c * b) : unr a b = unr c d := by
  obtain ⟨q, r, h1, h2, h3⟩ := unr_cases a b hb
  obtain ⟨q', r', h1', h2', h3'⟩ := unr_cases c d hd
  have e1 : a * d = q * (b * d) + r * d := by rw [h1]; grind
  have e2 : c * b = q' * (b * d) + r' * b := by rw [h1']; grind
  have f1 : r * d < b * d := Nat.mul_lt_mul_of_pos_right h2 hd
  have f2 : r' * b < b * d := by rw [Nat.mul_comm b d]; exact Nat.mul_lt_mul_of_pos_right h2' hb
  have hq : q = q' := by
    have key : ∀ x y : Nat, x < y → x * (b * d) + b * d ≤ y * (b * d) := fun x y h => by
      have := Nat.mul_le_mul_right (b * d) h
      rwa [Nat.succ_mul] at this
    rcases Nat.lt_trichotomy q q' with h4 | h4 | h4
    · have := key _ _ h4; omega
    · exact h4
    · have := key _ _ h4; omega
  subst hq
  have hr : r * d = r' * b := by omega
  have hz : r = 0 ↔ r' = 0 := by
    constructor
    · intro h0; subst h0
      rw [Nat.zero_mul] at hr
      rcases Nat.mul_eq_zero.1 hr.symm with h | h <;> omega
    · intro h0; subst h0
      rw [Nat.zero_mul] at hr
      rcases Nat.mul_eq_zero.1 hr with h | h <;> omega
  omega

theorem le_mul_iff {m d q r : Nat} (hr : r < m) : (q * m + r < d * m ↔ q < d) := by
  constructor
  · intro h
    refine Nat.not_le.1 fun h2 => ?_
    have := Nat.mul_le_mul_right m h2
    omega
  · intro h
    have := Nat.mul_le_mul_right m h
    rw [Nat.succ_mul] at this
    omega

theorem unr_ceil {n m : Nat} (hm : 0 < m) (ev : Bool) (d : Nat) :
    (unr (4 * n) m + (if ev then 0 else 1) + 3) / 4 ≤ d ↔ (n < d * m ∨ (ev = true ∧ n = d * m)) := by
  obtain ⟨q, r, h1, h2, h3⟩ := unr_cases (4 * n) m hm
  have k1 := le_mul_iff (d := 4 * d) (q := q) h2
  have e1 : 4 * d * m = 4 * (d * m) := Nat.mul_assoc ..
  rw [← h1, e1] at k1
  have k2 : r = 0 → (4 * n = 4 * (d * m) ↔ q = 4 * d) := by
    intro h0; subst h0
    rw [h1, ← e1]
    exact ⟨fun h => Nat.eq_of_mul_eq_mul_right hm (by simpa using h), fun h => by rw [h]; simp⟩
  have k3 : 0 < r → 4 * n ≠ 4 * (d * m) := by
    intro h0 h
    rw [h1, ← e1] at h
    have a1 : ¬ q < 4 * d := fun h5 => by
      have := Nat.mul_le_mul_right m h5
      rw [Nat.succ_mul] at this; omega
    have a2 := Nat.mul_le_mul_right m (Nat.not_lt.1 a1)
    omega
  have g : (n < d * m ∨ (ev = true ∧ n = d * m)) ↔ (4 * n < 4 * (d * m) ∨ (ev = true ∧ 4 * n = 4 * (d * m))) := by cases ev <;> simp <;> omega
  rw [g, k1]
  rcases h3 with ⟨h0, h3⟩ | ⟨h0, h3⟩
  · rw [k2 h0, h3]
    cases ev <;> simp <;> omega
  · have := k3 h0
    rw [h3]
    cases ev <;> simp [this] <;> omega

theorem unr_floor {n m : Nat} (hm : 0 < m) (ev : Bool) (d : Nat) (hn : 0 < n) :
    d ≤ (unr (4 * n) m - (if ev then 0 else 1)) / 4 ↔ (d * m < n ∨ (ev = true ∧ d * m = n)) := by
  obtain ⟨q, r, h1, h2, h3⟩ := unr_cases (4 * n) m hm
  have k1 := le_mul_iff (d := 4 * d) (q := q) h2
  have e1 : 4 * d * m = 4 * (d * m) := Nat.mul_assoc ..
  rw [← h1, e1] at k1
  have k2 : r = 0 → (4 * n = 4 * (d * m) ↔ q = 4 * d) := by
    intro h0; subst h0
    rw [h1, ← e1]
    exact ⟨fun h => Nat.eq_of_mul_eq_mul_right hm (by simpa using h), fun h => by rw [h]; simp⟩
  have k3 : 0 < r → 4 * n ≠ 4 * (d * m) := by
    intro h0 h
    rw [h1, ← e1] at h
    have a1 : ¬ q < 4 * d := fun h5 => by
      have := Nat.mul_le_mul_right m h5
      rw [Nat.succ_mul] at this; omega
    have a2 := Nat.mul_le_mul_right m (Nat.not_lt.1 a1)
    omega
  have g : (d * m < n ∨ (ev = true ∧ d * m = n)) ↔ ((¬ 4 * n < 4 * (d * m) ∧ 4 * n ≠ 4 * (d * m)) ∨ (ev = true ∧ 4 * n = 4 * (d * m))) := by cases ev <;> simp <;> omega
  rw [g, k1]
  rcases h3 with ⟨h0, h3⟩ | ⟨h0, h3⟩
  · have hq : 0 < q := by
      refine Nat.pos_of_ne_zero fun h => ?_
      subst h; rw [h0] at h1; omega
    have k2 := k2 h0
    rw [h3]
    cases ev <;> simp <;> omega
  · have := k3 h0
    rw [h3]
    cases ev <;> simp [this] <;> omega

theorem unr_round {n m : Nat} (hm : 0 < m) : (unr (4 * n) m + 1 + unr (4 * n) m / 4 % 2) / 4 = rne n m := by
  obtain ⟨q, r, h1, h2, h3⟩ := unr_cases (4 * n) m hm
  -- n / m = q / 4
  have hx : n / m = q / 4 := by
    refine Nat.div_eq_of_lt_le ?_ ?_
    · have := Nat.mul_le_mul_right m (Nat.div_mul_le_self q 4)
      have e : q / 4 * 4 * m = 4 * (q / 4 * m) := by grind
      omega
    · have : (q + 1) * m ≤ (q / 4 + 1) * 4 * m := Nat.mul_le_mul_right m (by omega)
      have e : (q / 4 + 1) * 4 * m = 4 * ((q / 4 + 1) * m) := by grind
      rw [Nat.add_mul] at this
      omega
  unfold rne
  rw [hx]
  have k1 := le_mul_iff (d := 4 * (q / 4) + 2) (q := q) h2
  rw [← h1] at k1
  have e1 : (4 * (q / 4) + 2) * m = 2 * ((2 * (q / 4) + 1) * m) := by grind
  rw [e1] at k1
  have k2 : r = 0 → (4 * n = 2 * ((2 * (q / 4) + 1) * m) ↔ q = 4 * (q / 4) + 2) := by
    intro h0; subst h0
    rw [h1, ← e1]
    exact ⟨fun h => Nat.eq_of_mul_eq_mul_right hm (by simpa using h), fun h => by rw [← h]; simp⟩
  have k3 : 0 < r → 4 * n ≠ 2 * ((2 * (q / 4) + 1) * m) := by
    intro h0 h
    rw [h1, ← e1] at h
    have a1 : ¬ q < 4 * (q / 4) + 2 := fun h5 => by
      have := Nat.mul_le_mul_right m h5
      rw [Nat.succ_mul] at this; omega
    have a2 := Nat.mul_le_mul_right m (Nat.not_lt.1 a1)
    omega
  rcases h3 with ⟨h0, h3⟩ | ⟨h0, h3⟩
  · have k2 := k2 h0
    rw [h3]
    by_cases hc : Closer n m (q / 4)
    · rw [if_pos hc]; unfold Closer at hc; omega
    · rw [if_neg hc]; unfold Closer at hc; omega
  · have k3 := k3 h0
    rw [h3]
    by_cases hc : Closer n m (q / 4)
    · rw [if_pos hc]; unfold Closer at hc; omega
    · rw [if_neg hc]; unfold Closer at hc; omega
end Go.Proofs.YtiopeaponffmdaaDoor.Fm
-- YtiopeaponffmdaaDoorWWords
set_option linter.unusedVariables false
set_option linter.unusedSimpArgs false
namespace Go.Proofs.YtiopeaponffmdaaDoorW.PrintWords
open Go.RowKit

/-- A fact that the walk's simp doesn't look into. -/
structure Aside0 (p : Prop) : Prop where mk :: (out : p)
/-- The world is the old one, some orders having been drawn. -/
structure Drawn0 (w w' : World) : Prop where mk :: (out : ∃ n, w' = w.drewN n)
theorem Drawn0.refl (w : World) : Drawn0 w w := ⟨⟨0, rfl⟩⟩
theorem Drawn0.step {w w' : World} (h : Drawn0 w w') (n : Nat) : Drawn0 w (w'.drewN n) := by
  obtain ⟨m, rfl⟩ := h
  exact ⟨⟨m + n, World.drewN_drewN ..⟩⟩
theorem Drawn0.grown {w w' : World} (h : Drawn0 w w') : Grown w w' := by
  obtain ⟨n, rfl⟩ := h
  induction n with
  | zero => exact Grown.refl _
  | succ n ih => rw [← World.drew_drewN]; exact Grown.drew ih
theorem Drawn0.below {w w' : World} (h : Drawn0 w w') : Below w.heap.size w w' := by
  obtain ⟨n, rfl⟩ := h
  induction n with
  | zero => exact Below.refl _ _
  | succ n ih => rw [← World.drew_drewN]; exact ih.drew


def rd (xs : List Int) (i : Int) : Int := xs.getD i.toNat 0
def bt (s : ByteArray) (i : Int) : Int := if h : i.toNat < s.size then ((s[i.toNat]'h).toNat : Int) else 0
theorem bt_at (s : ByteArray) (i : Int) : ∀ h : i.toNat < s.size, ((s[i.toNat]'h).toNat : Int) = bt s i := fun h => by simp [bt, h]
def nums (k : IntKind) (xs : List Int) : List Value := xs.map fun x => .int k x
theorem nums_length (k : IntKind) (xs : List Int) : (nums k xs).length = xs.length := by simp [nums]
theorem nums_append (k : IntKind) (xs ys : List Int) : nums k (xs ++ ys) = nums k xs ++ nums k ys := by simp [nums]

theorem below_alloc {w W : World} (h : Below w.heap.size w W) (o : Obj) : Below w.heap.size w (W.alloc o) := h.alloc h.size o
theorem below_drew {B : Nat} {w W : World} (h : Below B w W) : Below B w W.drew := ⟨h.os, h.tape, h.output, h.size, h.block⟩
theorem pw_below_drewN {B : Nat} {w W : World} (h : Below B w W) (n : Nat) : Below B w (W.drewN n) := ⟨h.os, h.tape, h.output, h.size, h.block⟩
theorem below_then {B : Nat} {w w1 w2 : World} (h : Below B w w1) (hB : B ≤ w1.heap.size) (k : Below w1.heap.size w1 w2) : Below B w w2 :=
  h.trans ⟨k.os, k.tape, k.output, k.size, fun i hi => k.block i (Nat.lt_of_lt_of_le hi hB)⟩
theorem grown_of_below {w w1 : World} (h : Below w.heap.size w w1) (row : Option Nat) : w.grownBy w1 row := ⟨h.os, h.tape, h.output, h.size, fun i hi _ => h.block i hi⟩
theorem pw_cell_below {w w1 : World} (h : Below w.heap.size w w1) {a : Addr} {v : Value} (hc : w.cell? a = some v) : w1.cell? a = some v := (h.cell (World.block_lt_of_cell? w a hc)).trans hc

theorem add_plain (g j : Nat) : (⟨g, 0, none⟩ : Addr).add j = ⟨g, j, none⟩ := by unfold Addr.add; split <;> simp_all

def ReadsInt (w : World) (k : IntKind) (A : Option Addr) (n : Nat) (xs : List Int) : Prop :=
  xs.length = n ∧ n ≤ 9223372036854775807 ∧ (0 < n → ∃ ad, A = some ad ∧ ∀ j, j < n → w.cell? (ad.add j) = some (.int k (xs.getD j 0)))
theorem ReadsInt.at_ {w : World} {k : IntKind} {A : Option Addr} {n : Nat} {xs : List Int} (h : ReadsInt w k A n xs) (i : Int) (h0 : 0 ≤ i) (h1 : i < n) : ∃ ad, A = some ad ∧ w.cell? (ad.add i.toNat) = some (.int k (rd xs i)) := by
  obtain ⟨ad, e, hc⟩ := h.2.2 (by omega)
  exact ⟨ad, e, hc _ (by omega)⟩
theorem ReadsInt.below {w w1 : World} {k : IntKind} {A : Option Addr} {n : Nat} {xs : List Int} (h : ReadsInt w k A n xs) (hb : Below w.heap.size w w1) : ReadsInt w1 k A n xs :=
  ⟨h.1, h.2.1, fun hn => by
    obtain ⟨ad, e, hc⟩ := h.2.2 hn
    exact ⟨ad, e, fun j hj => pw_cell_below hb (hc j hj)⟩⟩

theorem own_base {w : World} {base : Nat} {e : TypeId} {size n : Nat} {v : Value} {xs : List Value} (h : w.ownsRow base e size v n xs) (k : Nat) (hk : v.ownBlock = some k) : base ≤ k := by
  rcases h.2 with ⟨rfl, _⟩ | ⟨g, cap, cur, rfl, hb, _⟩
  · simp [Value.ownBlock] at hk
  · have : g = k := by simpa [Value.ownBlock] using hk
    omega
theorem own_lt {w : World} {base : Nat} {e : TypeId} {size n : Nat} {v : Value} {xs : List Value} (h : w.ownsRow base e size v n xs) (k : Nat) (hk : v.ownBlock = some k) : k < w.heap.size := by
  rcases h.2 with ⟨rfl, _⟩ | ⟨g, cap, cur, rfl, hb, hh, _⟩
  · simp [Value.ownBlock] at hk
  · have : g = k := by simpa [Value.ownBlock] using hk
    subst this
    exact (Array.getElem?_eq_some_iff.1 hh).1
theorem pw_own_below {w w1 : World} {base : Nat} {e : TypeId} {size n : Nat} {v : Value} {xs : List Value} (h : w.ownsRow base e size v n xs) (hb : Below w.heap.size w w1) : w1.ownsRow base e size v n xs :=
  h.kept (grown_of_below hb none) (by cases v.ownBlock <;> simp)
/-- The shape of whatever is owned. -/
theorem own_slice {w : World} {base n : Nat} {e : TypeId} {size : Nat} {v : Value} {xs : List Value} (h : w.ownsRow base e size v n xs) : ∃ A c, v = .slice A n c := by
  rcases h.2 with ⟨rfl, rfl⟩ | ⟨g, cap, cur, rfl, _⟩
  · exact ⟨none, 0, rfl⟩
  · exact ⟨_, cap, rfl⟩
theorem own_string {P : Program} {w : World} {base n : Nat} {e' src dst e : TypeId} {v : Value} {xs : List Int} (hs : P.underlying src = some (.slice e)) (he : P.underlying e = some (.int .u8)) (hd : P.underlying dst = some .string)
    (h : w.ownsRow base e' 1 v n (nums .u8 xs)) : (convert src dst v).run P w = .ok (.string (strOfNums xs)) w := by
  have hl : xs.length = n := by have := h.1; simp [nums] at this; exact this
  rcases h.2 with ⟨rfl, rfl⟩ | ⟨g, cap, cur, rfl, _⟩
  · obtain rfl : xs = [] := List.eq_nil_of_length_eq_zero hl
    exact run_convert_bytes_nil w src e hs he 0 0 dst hd
  · refine run_convert_bytes_arg w src e hs he g 0 n cap xs hl (fun i hi => ?_) dst hd
    have hc := h.cells (g := g) rfl i (.int .u8 (xs.getD i 0)) (by simp [nums, List.getElem?_eq_getElem (show i < xs.length by omega), List.getD_eq_getElem?_getD])
    have ha : (⟨g, 0, none⟩ : Addr).add i = ⟨g, 0 + i, none⟩ := by unfold Addr.add; split <;> simp_all
    rwa [ha] at hc

def bytesOf (s : ByteArray) : List Int := s.data.toList.map fun b => (b.toNat : Int)
theorem data_length (s : ByteArray) : s.data.toList.length = s.size := by rw [Array.length_toList]; rfl
theorem bytesOf_length (s : ByteArray) : (bytesOf s).length = s.size := by rw [bytesOf, List.length_map, data_length]
theorem rd_bytesOf (s : ByteArray) (i : Int) : rd (bytesOf s) i = bt s i := by
  unfold rd bt bytesOf
  split
  · rename_i h
    have h' : i.toNat < s.data.toList.length := by rw [data_length]; exact h
    simp [List.getD_eq_getElem?_getD, List.getElem?_eq_getElem h']
    rfl
  · rename_i h
    have h' : s.data.toList.length ≤ i.toNat := by rw [data_length]; omega
    simp [List.getD_eq_getElem?_getD, List.getElem?_eq_none h']
/-- 'xs[:k]' and 'xs[k:]' of a slice that is read; the address of the second as_ the walk has it. -/
theorem ReadsInt.take_ {w : World} {k : IntKind} {A : Option Addr} {n : Nat} {xs : List Int} (h : ReadsInt w k A n xs) (i : Nat) (hi : i ≤ n) : ReadsInt w k A i (xs.take i) := by
  refine ⟨by rw [List.length_take, h.1]; omega, by have := h.2.1; omega, fun hp => ?_⟩
  obtain ⟨ad, e, hc⟩ := h.2.2 (by omega)
  refine ⟨ad, e, fun j hj => ?_⟩
  rw [hc j (by omega)]
  simp [List.getD_eq_getElem?_getD, hj]
/-- Where the first answers, the second answers the same. -/
def LeO {α : Type} (a b : Option α) : Prop := ∀ r, a = some r → b = some r
theorem LeO.refl {α : Type} (a : Option α) : LeO a a := fun _ h => h
theorem LeO.none {α : Type} (b : Option α) : LeO Option.none b := fun _ h => by cases h
theorem LeO.trans {α : Type} {a b c : Option α} (h : LeO a b) (k : LeO b c) : LeO a c := fun r hr => k r (h r hr)
theorem LeO.bind {α β : Type} {a a' : Option α} {f f' : α → Option β} (h : LeO a a') (k : ∀ x, LeO (f x) (f' x)) : LeO (a.bind f) (a'.bind f') := by
  intro r hr
  obtain ⟨x, hx, hf⟩ := Option.bind_eq_some_iff.1 hr
  exact Option.bind_eq_some_iff.2 ⟨x, h x hx, k x r hf⟩
theorem LeO.map {α β : Type} {a a' : Option α} (f : α → β) (h : LeO a a') : LeO (a.map f) (a'.map f) := by
  intro r hr
  obtain ⟨x, hx, hf⟩ := Option.map_eq_some_iff.1 hr
  exact Option.map_eq_some_iff.2 ⟨x, h x hx, hf⟩
theorem more_rounds {α : Type} {g : Nat → Option α} (h : ∀ k, LeO (g k) (g (k + 1))) (k : Nat) : ∀ j, LeO (g k) (g (k + j))
  | 0 => LeO.refl _
  | j + 1 => (more_rounds h k j).trans (h (k + j))
theorem at_rounds {α : Type} {g : Nat → Option α} (h : ∀ k, LeO (g k) (g (k + 1))) {k k' : Nat} (hk : k ≤ k') {r : α} (hr : g k = some r) : g k' = some r := by
  have := more_rounds h k (k' - k) r hr
  rwa [Nat.add_sub_cancel' hk] at this
def Reps {α : Type} (R : α → List Value → Prop) (size : Nat) (ps : List α) (cs : List Value) : Prop :=
  cs.length = ps.length * size ∧ ∀ j p, ps[j]? = some p → R p ((cs.drop (j * size)).take size)
theorem Reps.none {α : Type} (R : α → List Value → Prop) (size : Nat) : Reps R size [] [] := ⟨by simp, fun j p h => by simp at h⟩
theorem Reps.snoc {α : Type} {R : α → List Value → Prop} {size : Nat} {ps : List α} {cs c : List Value} {p : α} (h : Reps R size ps cs) (hp : R p c) (hc : c.length = size) : Reps R size (ps ++ [p]) (cs ++ c) := by
  refine ⟨by rw [List.length_append, h.1, hc, List.length_append, List.length_singleton, Nat.add_mul, Nat.one_mul], fun j q hq => ?_⟩
  rcases Nat.lt_or_ge j ps.length with hj | hj
  · rw [List.getElem?_append_left hj] at hq
    have h1 : j * size + size ≤ cs.length := by rw [h.1, ← Nat.succ_mul]; exact Nat.mul_le_mul_right _ hj
    have h2 := h.2 j q hq
    rw [List.drop_append_of_le_length (by omega), List.take_append_of_le_length (by rw [List.length_drop]; omega)]
    exact h2
  · have hj' : j = ps.length := by
      have := (List.getElem?_eq_some_iff.1 hq).1
      rw [List.length_append, List.length_singleton] at this
      omega
    subst hj'
    have hq' : p = q := by simpa using hq
    subst hq'
    rw [← h.1, List.drop_left, ← hc, List.take_length]
    exact hp
theorem Reps.imp_ {α : Type} {R R' : α → List Value → Prop} {size : Nat} {ps : List α} {cs : List Value} (h : Reps R size ps cs) (hR : ∀ p c, R p c → R' p c) : Reps R' size ps cs := ⟨h.1, fun j p hj => hR _ _ (h.2 j p hj)⟩

def ReadsRow {α : Type} (R : α → List Value → Prop) (size : Nat) (w : World) (A : Option Addr) (n : Nat) (ps : List α) : Prop :=
  ps.length = n ∧ n ≤ 9223372036854775807 ∧ (0 < n → ∃ ad, A = some ad ∧ ∀ j p, ps[j]? = some p → ∃ c, c.length = size ∧ R p c ∧ ∀ i u, c[i]? = some u → w.cell? (ad.add (j * size + i)) = some u)
theorem ReadsRow.imp_ {α : Type} {R R' : α → List Value → Prop} {size : Nat} {w w1 : World} {A : Option Addr} {n : Nat} {ps : List α} (h : ReadsRow R size w A n ps) (hb : Below w.heap.size w w1) (hR : ∀ p c, R p c → R' p c) : ReadsRow R' size w1 A n ps :=
  ⟨h.1, h.2.1, fun hn => by
    obtain ⟨ad, e, hc⟩ := h.2.2 hn
    refine ⟨ad, e, fun j p hj => ?_⟩
    obtain ⟨c, hs, hr, hcell⟩ := hc j p hj
    exact ⟨c, hs, hR _ _ hr, fun i u hu => pw_cell_below hb (hcell i u hu)⟩⟩
theorem own_reads_row {α : Type} {R : α → List Value → Prop} {w : World} {base n size : Nat} {e : TypeId} {v : Value} {ps : List α} {cs : List Value} (h : w.ownsRow base e size v n cs) (hR : Reps R size ps cs) (hn : ps.length = n) :
    ∃ A c, v = .slice A n c ∧ ReadsRow R size w A n ps := by
  rcases Nat.eq_zero_or_pos n with h0 | h0
  · rcases h.2 with ⟨rfl, rfl⟩ | ⟨g, cap, cur, rfl, _⟩
    · exact ⟨none, 0, rfl, hn, by omega, fun hp => absurd hp (by omega)⟩
    · exact ⟨_, cap, rfl, hn, by omega, fun hp => absurd hp (by omega)⟩
  · obtain ⟨g, cap, rfl, _, _⟩ := h.form h0
    have hm : n ≤ 9223372036854775807 := by
      rcases h.2 with ⟨_, h1⟩ | ⟨g', cap', cur, he, _, _, h1, h2, _⟩
      · omega
      · simp only [maxLen] at h2
        omega
    refine ⟨_, cap, rfl, hn, hm, fun _ => ⟨_, rfl, fun j p hj => ⟨(cs.drop (j * size)).take size, ?_, hR.2 j p hj, fun i u hu => ?_⟩⟩⟩
    · have hjl := (List.getElem?_eq_some_iff.1 hj).1
      have h1 : j * size + size ≤ cs.length := by rw [hR.1, ← Nat.succ_mul]; exact Nat.mul_le_mul_right _ hjl
      rw [List.length_take, List.length_drop]
      omega
    · refine h.cells (g := g) rfl _ u ?_
      rw [List.getElem?_take] at hu
      split at hu
      · rw [List.getElem?_drop] at hu
        exact hu
      · cases hu
section
variable {P : Program} {ops : Array Oper} {rest : List Oper} {o : Oper} {a : Act} {Q : Exit → Act → World → Prop}
/-- append(v, x), x of several cells; behind 'at_builtin'; the goal's world is 'W.alloc' of the variadic's box. -/
theorem print_append_cells {w0 W : World} (base : Nat) (hgd : o.guard = none) (s x : Operand) (t e : TypeId) (z : Value) (size bytes : Nat)
    (ho : o.op = .call { callee := .builtin .append, args := #[s, x], argTypes := #[t, t] })
    (ht : P.underlying t = some (.slice e)) (hinfo : (P.info? e).map (fun i => (i.zero, i.size, i.bytes)) = some (some z, size, bytes)) (hz : z.cells.size = size) (hs0 : 0 < size) (hb0 : 0 < bytes)
    (v : Value) (n : Nat) (xs ys : List Value) (hs : a.eval s = v) (hx : a.eval x = .slice (some ⟨W.heap.size, 0, none⟩) 1 1) (hys : ys.length = size) (h1 : ∀ u ∈ ys, u.oneCell' = true)
    (HO : W.ownsRow base e size v n xs) (HB : Below base w0 W) (hbase : base ≤ W.heap.size) (hl : (n + 1) * bytes ≤ 140737488355328)
    (h : ∀ v1 w1, w1.ownsRow base e size v1 (n + 1) (xs ++ ys) → Below base w0 w1 → W.grownBy w1 v.ownBlock → (v1.ownBlock = v.ownBlock ∨ ∃ b, v1.ownBlock = some b ∧ W.heap.size ≤ b) → wpList P ops Q rest (a.put o.dst v1) w1) :
    wpList P ops Q (o :: rest) a (W.alloc (.cells ys.toArray e)) := by
  obtain ⟨i0, hi, hzz⟩ := Option.map_eq_some_iff.1 hinfo
  simp only [Prod.mk.injEq] at hzz
  obtain ⟨hz0, hz1, hz2⟩ := hzz
  have hlen : n + 1 ≤ 140737488355328 := Nat.le_trans (Nat.le_mul_of_pos_right _ hb0) hl
  refine wpList_append_own_at (W.alloc (.cells ys.toArray e)) hgd s x t ho base e i0 z size bytes ht hi hz0 hz1 hz2 hz hs0 v n xs hs (HO.alloc _) ⟨W.heap.size, 0, none⟩ 1 1 ys hx (by rw [hys]; simp)
    (by simpa using World.news_of_block (cs := ys.toArray) (t := e) (fr := (0, 0)) (heap_alloc_new W (.cells ys.toArray e))) h1 (by simp only [maxLen]; omega) hl (by simp; omega) ?_
  intro v1 w1 hown hg _ hat
  refine h v1 w1 hown ((HB.alloc hbase _).grown hg (by simp; omega) (own_base HO)) (World.grownBy.trans (World.grownBy_alloc W _ _) hg) ?_
  rcases hat with hat | hat
  · exact .inl hat
  · exact .inr ⟨_, hat, by simp⟩
end

theorem own_ne {w : World} {base : Nat} {e t : TypeId} {size n g : Nat} {v : Value} {xs : List Value} {cs : Array Value} (h : w.ownsRow base e size v n xs) (hg : w.heap[g]? = some (.cells cs t (0, 0))) (hne : e ≠ t) : some g ≠ v.ownBlock := by
  rcases h.2 with ⟨rfl, _⟩ | ⟨g', cap, cur, rfl, _, hh, _⟩
  · simp [Value.ownBlock]
  · intro he
    have : g = g' := by simpa [Value.ownBlock] using he
    subst this
    rw [hg] at hh
    injection hh with hh
    injection hh with _ ht
    exact hne ht.symm
theorem blk_set {w : World} {g : Nat} {t : TypeId} {cs : Array Value} (h : w.heap[g]? = some (.cells cs t (0, 0))) (i : Nat) (u : Value) : (w.setCell ⟨g, i, none⟩ u).heap[g]? = some (.cells (cs.setIfInBounds i u) t (0, 0)) := by
  simp [World.setCell, Array.getElem?_modify, h]
theorem blk_far {w : World} {g : Nat} {t : TypeId} {cs : Array Value} (h : w.heap[g]? = some (.cells cs t (0, 0))) {p : Addr} (hp : g ≠ p.block) (u : Value) : (w.setCell p u).heap[g]? = some (.cells cs t (0, 0)) := (Below.heap_setCell w p u g hp).trans h
theorem blk_lt {w : World} {g : Nat} {o : Obj} (h : w.heap[g]? = some o) : g < w.heap.size := (Array.getElem?_eq_some_iff.1 h).1
theorem blk_cell {w : World} {g : Nat} {t : TypeId} {cs : Array Value} (h : w.heap[g]? = some (.cells cs t (0, 0))) (i : Nat) : w.cell? ⟨g, i, none⟩ = cs[i]? := cell_of_row w g i cs t (0, 0) h
theorem blk_frozen {w : World} {g : Nat} {t : TypeId} {cs : Array Value} (h : w.heap[g]? = some (.cells cs t (0, 0))) (i : Nat) : w.frozen? ⟨g, i, none⟩ = false := by simp [World.frozen?, h]
theorem blk_grown {w w1 : World} {g : Nat} {o : Obj} {row : Option Nat} (h : w.heap[g]? = some o) (hg : w.grownBy w1 row) (hne : some g ≠ row) : w1.heap[g]? = some o := (hg.block g (blk_lt h) hne).trans h
def KeepBut (w w' : World) (g : Nat) (row : Option Nat) : Prop := w.heap.size ≤ w'.heap.size ∧ ∀ i, i < w.heap.size → i ≠ g → some i ≠ row → w'.heap[i]? = w.heap[i]?
theorem KeepBut.refl (w : World) (g : Nat) (row : Option Nat) : KeepBut w w g row := ⟨Nat.le_refl _, fun _ _ _ _ => rfl⟩
theorem KeepBut.of_grown {w w1 : World} {row : Option Nat} (h : w.grownBy w1 row) (g : Nat) : KeepBut w w1 g row := ⟨h.size, fun i hi _ hr => h.block i hi hr⟩
theorem KeepBut.of_below {w w1 : World} (h : Below w.heap.size w w1) (g : Nat) (row : Option Nat) : KeepBut w w1 g row := ⟨h.size, fun i hi _ _ => h.block i hi⟩
theorem KeepBut.trans {w w1 w2 : World} {g : Nat} {row row1 : Option Nat} (h : KeepBut w w1 g row) (k : KeepBut w1 w2 g row1) (hr : row1 = row ∨ ∃ b, row1 = some b ∧ w.heap.size ≤ b) : KeepBut w w2 g row :=
  ⟨Nat.le_trans h.1 k.1, fun i hi hg hn => by
    refine (k.2 i (Nat.lt_of_lt_of_le hi h.1) hg ?_).trans (h.2 i hi hg hn)
    rcases hr with rfl | ⟨b, rfl, hb⟩
    · exact hn
    · intro e
      injection e with e
      omega⟩
/-- Another block, another row: they live on. -/
theorem KeepBut.blk {w w1 : World} {g g' : Nat} {row : Option Nat} {o : Obj} (h : KeepBut w w1 g row) (hb : w.heap[g']? = some o) (hg : g' ≠ g) (hr : some g' ≠ row) : w1.heap[g']? = some o := (h.2 g' (blk_lt hb) hg hr).trans hb
theorem KeepBut.own {w w1 : World} {g : Nat} {row : Option Nat} {base : Nat} {e : TypeId} {size n : Nat} {v : Value} {xs : List Value} (h : KeepBut w w1 g row) (ho : w.ownsRow base e size v n xs) (hg : v.ownBlock ≠ some g) (hr : v.ownBlock = none ∨ v.ownBlock ≠ row) : w1.ownsRow base e size v n xs := by
  obtain ⟨h1, h2⟩ := ho
  refine ⟨h1, ?_⟩
  rcases h2 with h2 | ⟨b, cap, cur, rfl, hb, hh, r⟩
  · exact .inl h2
  · refine .inr ⟨b, cap, cur, rfl, hb, h.blk hh ?_ ?_, r⟩
    · intro e
      exact hg (by rw [← e]; rfl)
    · rcases hr with hr | hr
      · simp [Value.ownBlock] at hr
      · exact hr
def Ev {α : Type} (g : Nat → Option α) (r : α) : Prop := ∃ K, ∀ k, K ≤ k → g k = some r
theorem Ev.of {α : Type} {g : Nat → Option α} {r : α} (hg : ∀ k, LeO (g k) (g (k + 1))) {k : Nat} (h : g k = some r) : Ev g r := ⟨k, fun _ hk => at_rounds hg hk h⟩
theorem Ev.now {α : Type} (r : α) : Ev (fun _ => some r) r := ⟨0, fun _ _ => rfl⟩
theorem Ev.bind {α β : Type} {g : Nat → Option α} {f : Nat → α → Option β} {a : α} {r : β} (h : Ev g a) (k : Ev (fun n => f n a) r) : Ev (fun n => (g n).bind (f n)) r := by
  obtain ⟨K, h⟩ := h
  obtain ⟨K', k⟩ := k
  refine ⟨max K K', fun n hn => ?_⟩
  have h1 := h n (by omega)
  have h2 := k n (by omega)
  simp only [h1, Option.bind_some]
  exact h2
/-- One round of a loop. -/
theorem Ev.step {α : Type} {g f : Nat → Option α} {r : α} (h : ∀ k, g (k + 1) = f k) (k : Ev f r) : Ev g r := by
  obtain ⟨K, k⟩ := k
  refine ⟨K + 1, fun n hn => ?_⟩
  obtain ⟨m, rfl⟩ : ∃ m, n = m + 1 := ⟨n - 1, by omega⟩
  rw [h]
  exact k m (by omega)
theorem Ev.congr {α : Type} {g f : Nat → Option α} {r : α} (h : ∀ k, g k = f k) (k : Ev f r) : Ev g r := by
  obtain ⟨K, k⟩ := k
  exact ⟨K, fun n hn => (h n).trans (k n hn)⟩
theorem own_weaken {w : World} {base base' : Nat} {e : TypeId} {size n : Nat} {v : Value} {xs : List Value} (h : w.ownsRow base e size v n xs) (hb : base' ≤ base) : w.ownsRow base' e size v n xs := by
  obtain ⟨h1, h2⟩ := h
  refine ⟨h1, ?_⟩
  rcases h2 with h2 | ⟨g, cap, cur, rfl, hg, r⟩
  · exact .inl h2
  · exact .inr ⟨g, cap, cur, rfl, Nat.le_trans hb hg, r⟩
section
variable {α : Type} {enc : α → Value} {d : α}
def encs (enc : α → Value) (xs : List α) : List Value := xs.map enc
def rdOf (d : α) (xs : List α) (i : Int) : α := xs.getD i.toNat d
theorem encs_length (xs : List α) : (encs enc xs).length = xs.length := by simp [encs]
def ReadsOf (enc : α → Value) (d : α) (w : World) (A : Option Addr) (n : Nat) (xs : List α) : Prop :=
  xs.length = n ∧ n ≤ 9223372036854775807 ∧ (0 < n → ∃ ad, A = some ad ∧ ∀ j, j < n → w.cell? (ad.add j) = some (enc (xs.getD j d)))
theorem ReadsOf.at_ {w : World} {A : Option Addr} {n : Nat} {xs : List α} (h : ReadsOf enc d w A n xs) (i : Int) (h0 : 0 ≤ i) (h1 : i < n) : ∃ ad, A = some ad ∧ w.cell? (ad.add i.toNat) = some (enc (rdOf d xs i)) := by
  obtain ⟨ad, e, hc⟩ := h.2.2 (by omega)
  exact ⟨ad, e, hc _ (by omega)⟩
theorem ReadsOf.below {w w1 : World} {A : Option Addr} {n : Nat} {xs : List α} (h : ReadsOf enc d w A n xs) (hb : Below w.heap.size w w1) : ReadsOf enc d w1 A n xs :=
  ⟨h.1, h.2.1, fun hn => by
    obtain ⟨ad, e, hc⟩ := h.2.2 hn
    exact ⟨ad, e, fun j hj => pw_cell_below hb (hc j hj)⟩⟩
theorem ReadsOf.take_ {w : World} {A : Option Addr} {n : Nat} {xs : List α} (h : ReadsOf enc d w A n xs) (i : Nat) (hi : i ≤ n) : ReadsOf enc d w A i (xs.take i) := by
  refine ⟨by rw [List.length_take, h.1]; omega, by have := h.2.1; omega, fun hp => ?_⟩
  obtain ⟨ad, e, hc⟩ := h.2.2 (by omega)
  refine ⟨ad, e, fun j hj => ?_⟩
  rw [hc j (by omega)]
  simp [List.getD_eq_getElem?_getD, hj]
end
theorem blk_alloc {w : World} {g : Nat} {o : Obj} (h : w.heap[g]? = some o) (o' : Obj) : (w.alloc o').heap[g]? = some o := (Below.heap_alloc w o' g (blk_lt h)).trans h
theorem blk_drew {w : World} {g : Nat} {o : Obj} (h : w.heap[g]? = some o) : w.drew.heap[g]? = some o := h
theorem blk_drewN {w : World} {g : Nat} {o : Obj} (h : w.heap[g]? = some o) (n : Nat) : (w.drewN n).heap[g]? = some o := h
theorem blk_below {w w1 : World} {g : Nat} {o : Obj} (h : w.heap[g]? = some o) (hb : Below w.heap.size w w1) : w1.heap[g]? = some o := (hb.block g (blk_lt h)).trans h
theorem blk_new (w : World) (o : Obj) : (w.alloc o).heap[w.heap.size]? = some o := heap_alloc_new w o
section
variable {P : Program}
theorem results_ct {fn : Func} {p u : Tmp} {ty : TypeId} (h : fn.results = #[.cell p ty, .tmp u]) (tmps : Array Value) (w : World) (g : Nat) (t : TypeId) (cs : Array Value) (fr : Nat × Nat) (d : TypeDesc)
    (hp : tmps.getD p undef = .pointer (some ⟨g, 0, none⟩)) (hg : w.heap[g]? = some (.cells cs t fr))
    (hu : P.underlying ty = some d) (hd : (match d with | .struct _ | .array _ _ => true | _ => false) = true) (hi : (P.info? ty).map (·.size) = some cs.size) :
    (results fn tmps).run P w = .ok (.tuple #[.agg cs, tmps.getD u undef]) w := by
  have hp' : tmps[p]?.getD undef = .pointer (some ⟨g, 0, none⟩) := by simpa using hp
  simp [results, h, hp', asAddr, run_loadVar_row w g t ty cs fr d hg hu hd hi]
end
theorem own_le {w : World} {base n m c size : Nat} {e : TypeId} {A : Option Addr} {xs : List Value} (h : w.ownsRow base e size (.slice A m c) n xs) : m ≤ c := by
  rcases h.2 with ⟨he, _⟩ | ⟨g, cap, cur, he, _, _, hnc, _⟩
  · injection he with _ h2 h3
    omega
  · injection he with _ h2 h3
    omega
def OwnRow {α : Type} (R : α → List Value → Prop) (e : TypeId) (size : Nat) (w : World) (base : Nat) (v : Value) (ps : List α) : Prop :=
  ∃ inner, w.ownsRow base e size v ps.length inner ∧ Reps R size ps inner
section
variable {α : Type} {R R' : α → List Value → Prop} {e : TypeId} {size : Nat} {w w1 : World} {base : Nat} {v : Value} {ps : List α}
theorem OwnRow.imp_ (h : OwnRow R e size w base v ps) (hR : ∀ p c, R p c → R' p c) : OwnRow R' e size w base v ps := by
  obtain ⟨inner, ho, hr⟩ := h
  exact ⟨inner, ho, hr.imp_ hR⟩
theorem OwnRow.below (h : OwnRow R e size w base v ps) (hb : Below w.heap.size w w1) : OwnRow R e size w1 base v ps := by
  obtain ⟨inner, ho, hr⟩ := h
  exact ⟨inner, pw_own_below ho hb, hr⟩
theorem OwnRow.reads (h : OwnRow R e size w base v ps) : ∃ A c, v = .slice A ps.length c ∧ ps.length ≤ c ∧ ReadsRow R size w A ps.length ps := by
  obtain ⟨inner, ho, hr⟩ := h
  obtain ⟨A, c, rfl, hrow⟩ := own_reads_row ho hr rfl
  exact ⟨A, c, rfl, own_le ho, hrow⟩
theorem OwnRow.ne_block (h : OwnRow R e size w base v ps) {g : Nat} {t : TypeId} {cells : Array Value} (hb : w.heap[g]? = some (.cells cells t (0, 0))) (ht : e ≠ t) : some g ≠ v.ownBlock := by
  obtain ⟨inner, ho, hr⟩ := h
  exact own_ne ho hb ht
/-- A literal: the elements' cells one behind the other. -/
theorem OwnRow.lit (W : World) (base : Nat) {inner : List Value} (hr : Reps R size ps inner) (hb : base ≤ W.heap.size) (hm : ps.length ≤ 9223372036854775807) :
    OwnRow R e size (W.alloc (.cells inner.toArray e)) base (.slice (some ⟨W.heap.size, 0, none⟩) ps.length ps.length) ps := by
  have h := World.ownsRow_lit (base := base) (e := e) (size := size) W inner.toArray ps.length hb (by simpa [maxLen] using hm) (by simpa using hr.1)
  exact ⟨inner, by simpa using h, hr⟩
end
section
variable {P : Program} {ops : Array Oper} {rest : List Oper} {o : Oper} {a : Act} {Q : Exit → Act → World → Prop} {α : Type} {R : α → List Value → Prop}
/-- append(v, x): x's cells are cs. R is that of the world AHEAD; move it over hg ('OwnRow.imp_'). -/
theorem OwnRow.append {w0 W : World} (base : Nat) (hgd : o.guard = none) (s x : Operand) (t e : TypeId) (z : Value) (size bytes : Nat)
    (ho : o.op = .call { callee := .builtin .append, args := #[s, x], argTypes := #[t, t] })
    (ht : P.underlying t = some (.slice e)) (hinfo : (P.info? e).map (fun i => (i.zero, i.size, i.bytes)) = some (some z, size, bytes)) (hz : z.cells.size = size) (hs0 : 0 < size) (hb0 : 0 < bytes)
    (v : Value) (ps : List α) (p : α) (cs : List Value) (hs : a.eval s = v) (hx : a.eval x = .slice (some ⟨W.heap.size, 0, none⟩) 1 1) (hp : R p cs) (hcs : cs.length = size) (h1 : ∀ u ∈ cs, u.oneCell' = true)
    (HO : OwnRow R e size W base v ps) (HB : Below base w0 W) (hbase : base ≤ W.heap.size) (hl : (ps.length + 1) * bytes ≤ 140737488355328)
    (h : ∀ v1 w1, OwnRow R e size w1 base v1 (ps ++ [p]) → Below base w0 w1 → W.grownBy w1 v.ownBlock → (v1.ownBlock = v.ownBlock ∨ ∃ b, v1.ownBlock = some b ∧ W.heap.size ≤ b) → wpList P ops Q rest (a.put o.dst v1) w1) :
    wpList P ops Q (o :: rest) a (W.alloc (.cells cs.toArray e)) := by
  obtain ⟨inner, hown, hr⟩ := HO
  refine print_append_cells base hgd s x t e z size bytes ho ht hinfo hz hs0 hb0 v ps.length inner cs hs hx hcs h1 hown HB hbase hl ?_
  intro v1 w1 hown1 hb1 hg1 hat1
  exact h v1 w1 ⟨inner ++ cs, by rw [List.length_append, List.length_singleton]; exact hown1, hr.snoc hp hcs⟩ hb1 hg1 hat1
end
/-- ok: which blocks the rows inside may be ('not the row that is being written'). -/
structure Kd (α : Type) where
  sz : Nat
  E : List Nat
  K : World → α → List Value → Prop
  M : World → Nat → (Nat → Prop) → α → List Value → Prop
  K_len : ∀ {w x cs}, K w x cs → cs.length = sz
  K_one : ∀ {w x cs}, K w x cs → ∀ u ∈ cs, u.oneCell' = true
  K_below : ∀ {w w1 : World} {x cs}, Below w.heap.size w w1 → K w x cs → K w1 x cs
  K_of_M : ∀ {w base ok x cs}, M w base ok x cs → K w x cs
  M_mono : ∀ {w base ok ok' x cs}, (∀ k, ok k → ok' k) → M w base ok x cs → M w base ok' x cs
  M_bound : ∀ {w : World} {base ok x cs}, M w base ok x cs → M w base (fun k => ok k ∧ base ≤ k ∧ k < w.heap.size ∧ ∃ q, q ∈ E ∧ ∃ cells, w.heap[k]? = some (.cells cells q (0, 0))) x cs
  M_move : ∀ {w w1 : World} {base ok x cs}, (∀ k, ok k → w1.heap[k]? = w.heap[k]?) → M w base ok x cs → M w1 base ok x cs
  M_lower : ∀ {w base base' ok x cs}, base' ≤ base → M w base ok x cs → M w base' ok x cs

theorem own_move {w w1 : World} {base : Nat} {e : TypeId} {size n : Nat} {v : Value} {xs : List Value} (h : w.ownsRow base e size v n xs) (hm : ∀ k, v.ownBlock = some k → w1.heap[k]? = w.heap[k]?) : w1.ownsRow base e size v n xs := by
  obtain ⟨h1, h2⟩ := h
  refine ⟨h1, ?_⟩
  rcases h2 with h2 | ⟨g, cap, cur, rfl, hg, hh, r⟩
  · exact .inl h2
  · exact .inr ⟨g, cap, cur, rfl, hg, (hm g (by simp [Value.ownBlock])).trans hh, r⟩
theorem own_typed {w : World} {base : Nat} {e : TypeId} {size n : Nat} {v : Value} {xs : List Value} (h : w.ownsRow base e size v n xs) (k : Nat) (hk : v.ownBlock = some k) : ∃ cells, w.heap[k]? = some (.cells cells e (0, 0)) := by
  rcases h.2 with ⟨rfl, _⟩ | ⟨g, cap, cur, rfl, hg, hh, r⟩
  · simp [Value.ownBlock] at hk
  · have : g = k := by simpa [Value.ownBlock] using hk
    subst this
    exact ⟨cur, hh⟩

namespace Kd
/-- A row of elements that is read. -/
def C {α : Type} (d : Kd α) (w : World) (A : Option Addr) (n : Nat) (xs : List α) : Prop := ReadsRow (d.K w) d.sz w A n xs
/-- A row of elements (type e) of the call's own; the elements' rows are not this one. -/
def R {α : Type} (d : Kd α) (e : Nat) (w : World) (base : Nat) (ok : Nat → Prop) (v : Value) (xs : List α) : Prop :=
  (∀ k, v.ownBlock = some k → ok k) ∧ OwnRow (d.M w base (fun k => ok k ∧ some k ≠ v.ownBlock)) e d.sz w base v xs
section
variable {α : Type} {d : Kd α} {e : Nat} {w w1 : World} {base : Nat} {ok ok' : Nat → Prop} {v : Value} {xs : List α}
theorem C_below {A : Option Addr} {n : Nat} (h : d.C w A n xs) (hb : Below w.heap.size w w1) : d.C w1 A n xs := ReadsRow.imp_ h hb (fun _ _ hp => d.K_below hb hp)
theorem R_mono (h : d.R e w base ok v xs) (hok : ∀ k, ok k → ok' k) : d.R e w base ok' v xs := ⟨fun k hk => hok k (h.1 k hk), h.2.imp_ (fun _ _ hp => d.M_mono (fun k hk => ⟨hok k hk.1, hk.2⟩) hp)⟩
theorem R_bound (h : d.R e w base ok v xs) : d.R e w base (fun k => ok k ∧ base ≤ k ∧ k < w.heap.size ∧ ∃ q, q ∈ e :: d.E ∧ ∃ cells, w.heap[k]? = some (.cells cells q (0, 0))) v xs := by
  obtain ⟨h0, inner, ho, hr⟩ := h
  refine ⟨fun k hk => ?_, inner, ho, hr.imp_ (fun _ _ hp => d.M_mono (fun k hk => ?_) (d.M_bound hp))⟩
  · obtain ⟨cells, hc⟩ := own_typed ho k hk
    exact ⟨h0 k hk, own_base ho k hk, own_lt ho k hk, e, List.mem_cons_self, cells, hc⟩
  · obtain ⟨⟨h1, h2⟩, h3, h4, q, hq, hc⟩ := hk
    exact ⟨⟨h1, h3, h4, q, List.mem_cons_of_mem _ hq, hc⟩, h2⟩
theorem R_move (h : d.R e w base ok v xs) (hm : ∀ k, ok k → w1.heap[k]? = w.heap[k]?) : d.R e w1 base ok v xs := by
  obtain ⟨h0, inner, ho, hr⟩ := h
  exact ⟨h0, inner, own_move ho (fun k hk => hm k (h0 k hk)), hr.imp_ (fun _ _ hp => d.M_move (fun k hk => hm k hk.1) hp)⟩
theorem R_lower {base' : Nat} (h : d.R e w base ok v xs) (hb : base' ≤ base) : d.R e w base' ok v xs := by
  obtain ⟨h0, inner, ho, hr⟩ := h
  exact ⟨h0, inner, own_weaken ho hb, hr.imp_ (fun _ _ hp => d.M_lower hb hp)⟩
/-- Any mover: what is ok, and a block of w's, stays. -/
theorem R_step (h : d.R e w base ok v xs) (hm : ∀ k, ok k → k < w.heap.size → w1.heap[k]? = w.heap[k]?) : d.R e w1 base ok v xs :=
  R_mono (R_move (R_bound h) (fun k hk => hm k hk.1 hk.2.2.1)) (fun _ hk => hk.1)
theorem M_step {x : α} {cs : List Value} (h : d.M w base ok x cs) (hm : ∀ k, ok k → k < w.heap.size → w1.heap[k]? = w.heap[k]?) : d.M w1 base ok x cs :=
  d.M_mono (fun _ hk => hk.1) (d.M_move (fun k hk => hm k hk.1 hk.2.2.1) (d.M_bound h))
theorem R_below (h : d.R e w base ok v xs) (hb : Below w.heap.size w w1) : d.R e w1 base ok v xs := R_step h (fun k _ hk => hb.block k hk)
theorem M_below {x : α} {cs : List Value} (h : d.M w base ok x cs) (hb : Below w.heap.size w w1) : d.M w1 base ok x cs := M_step h (fun k _ hk => hb.block k hk)
/-- By types alone: the rows inside are none of a block of type t. -/
theorem R_types (h : d.R e w base ok v xs) {g t : Nat} {cells : Array Value} (hb : w.heap[g]? = some (.cells cells t (0, 0))) (ht : ∀ q, q ∈ e :: d.E → q ≠ t) : d.R e w base (fun k => ok k ∧ k ≠ g) v xs :=
  R_mono (R_bound h) (fun k hk => ⟨hk.1, by
    obtain ⟨_, _, _, q, hq, cells', hc⟩ := hk
    rintro rfl
    rw [hc] at hb
    injection hb with hb
    injection hb with _ hb
    exact ht q hq hb⟩)
theorem R_reads (h : d.R e w base ok v xs) : ∃ A c, v = .slice A xs.length c ∧ xs.length ≤ c ∧ d.C w A xs.length xs := by
  obtain ⟨A, c, he, hl, hr⟩ := OwnRow.reads h.2
  exact ⟨A, c, he, hl, hr.imp_ (Below.refl _ _) (fun _ _ hp => d.K_of_M hp)⟩
theorem R_slice (h : d.R e w base ok v xs) : ∃ A c, v = .slice A xs.length c := by
  obtain ⟨A, c, he, _⟩ := R_reads h
  exact ⟨A, c, he⟩
theorem R_own (h : d.R e w base ok v xs) : ∃ inner, w.ownsRow base e d.sz v xs.length inner := by
  obtain ⟨_, inner, ho, _⟩ := h
  exact ⟨inner, ho⟩
theorem R_ne (h : d.R e w base ok v xs) {g t : Nat} {cells : Array Value} (hb : w.heap[g]? = some (.cells cells t (0, 0))) (ht : e ≠ t) : some g ≠ v.ownBlock := OwnRow.ne_block h.2 hb ht
end

def scalar {α : Type} (enc : α → Value) (h1 : ∀ x, (enc x).oneCell' = true) : Kd α where
  sz := 1
  E := []
  K := fun _ x cs => cs = [enc x]
  M := fun _ _ _ x cs => cs = [enc x]
  K_len := fun h => by rw [h]; rfl
  K_one := fun h u hu => by
    rw [h] at hu
    rw [List.mem_singleton.1 hu]
    exact h1 _
  K_below := fun _ h => h
  K_of_M := fun h => h
  M_mono := fun _ h => h
  M_bound := fun h => h
  M_move := fun _ h => h
  M_lower := fun _ h => h
def int (k : IntKind) : Kd Int := scalar (Value.int k) (fun _ => rfl)
def bool : Kd Bool := scalar Value.bool (fun _ => rfl)
def string : Kd ByteArray := scalar Value.string (fun _ => rfl)
def slice {α : Type} (e : Nat) (d : Kd α) : Kd (List α) where
  sz := 1
  E := e :: d.E
  K := fun w xs cs => ∃ A c, cs = [.slice A xs.length c] ∧ xs.length ≤ c ∧ d.C w A xs.length xs
  M := fun w base ok xs cs => ∃ v, cs = [v] ∧ d.R e w base ok v xs
  K_len := by
    rintro w x cs ⟨A, c, rfl, _⟩
    rfl
  K_one := by
    rintro w x cs ⟨A, c, rfl, _⟩ u hu
    rw [List.mem_singleton.1 hu]
    rfl
  K_below := by
    rintro w w1 x cs hb ⟨A, c, rfl, hl, hr⟩
    exact ⟨A, c, rfl, hl, C_below hr hb⟩
  K_of_M := by
    rintro w base ok x cs ⟨v, rfl, h⟩
    obtain ⟨A, c, rfl, hl, hr⟩ := R_reads h
    exact ⟨A, c, rfl, hl, hr⟩
  M_mono := by
    rintro w base ok ok' x cs hok ⟨v, rfl, h⟩
    exact ⟨v, rfl, R_mono h hok⟩
  M_bound := by
    rintro w base ok x cs ⟨v, rfl, h⟩
    exact ⟨v, rfl, R_bound h⟩
  M_move := by
    rintro w w1 base ok x cs hm ⟨v, rfl, h⟩
    exact ⟨v, rfl, R_move h hm⟩
  M_lower := by
    rintro w base base' ok x cs hb ⟨v, rfl, h⟩
    exact ⟨v, rfl, R_lower h hb⟩
/-- What an append leaves: the old elements' rows and the new one's are not the new row's block. -/
theorem R_appended {α : Type} {d : Kd α} {e base : Nat} {ok okp : Nat → Prop} {W w1 : World} {v v1 : Value} {xs : List α} {p : α} {inner cs : List Value} (h0 : ∀ k, v.ownBlock = some k → ok k) (hr : Reps (d.M W base (fun k => ok k ∧ some k ≠ v.ownBlock)) d.sz xs inner) (hp : d.M W base okp p cs) (hokp : ∀ k, okp k → ok k ∧ some k ≠ v.ownBlock) (hfresh : ∀ k, W.heap.size ≤ k → ok k)
    (hown : w1.ownsRow base e d.sz v1 (xs.length + 1) (inner ++ cs)) (hg : W.grownBy w1 v.ownBlock) (hat : v1.ownBlock = v.ownBlock ∨ ∃ b, v1.ownBlock = some b ∧ W.heap.size ≤ b) : d.R e w1 base ok v1 (xs ++ [p]) := by
  have hne : ∀ k, some k ≠ v.ownBlock → k < W.heap.size → some k ≠ v1.ownBlock := by
    intro k hk hlt
    rcases hat with hat | ⟨b, hb, hle⟩
    · rw [hat]; exact hk
    · rw [hb]
      intro he
      injection he with he
      omega
  have step : ∀ {q : α} {c : List Value} {o : Nat → Prop}, d.M W base o q c → (∀ k, o k → ok k ∧ some k ≠ v.ownBlock) → d.M w1 base (fun k => ok k ∧ some k ≠ v1.ownBlock) q c := by
    intro q c o hq ho
    have h1 := d.M_move (w1 := w1) (fun k hk => hg.block k hk.2.2.1 (ho k hk.1).2) (d.M_bound hq)
    exact d.M_mono (fun k hk => ⟨(ho k hk.1).1, hne k (ho k hk.1).2 hk.2.2.1⟩) h1
  refine ⟨fun k hk => ?_, inner ++ cs, by rw [List.length_append, List.length_singleton]; exact hown, ?_⟩
  · rcases hat with hat | ⟨b, hb, hle⟩
    · exact h0 k (hat ▸ hk)
    · rw [hb] at hk
      injection hk with hk
      exact hfresh k (by omega)
  · exact (hr.imp_ (fun _ _ hq => step hq (fun _ hk => hk))).snoc (step hp hokp) (d.K_len (d.K_of_M hp))
section
variable {P : Program} {ops : Array Oper} {rest : List Oper} {o : Oper} {a : Act} {Q : Exit → Act → World → Prop} {α : Type}
/-- append(v, x), behind 'at_builtin'; the goal's world is 'W.alloc' of the variadic's box; x's cells are cs, made (its rows satisfy okp). hfresh: a block that is new at W is ok. -/
theorem R_append (d : Kd α) {w0 W : World} (base : Nat) (hgd : o.guard = none) (s x : Operand) (t e : TypeId) (z : Value) (bytes : Nat)
    (ho : o.op = .call { callee := .builtin .append, args := #[s, x], argTypes := #[t, t] })
    (ht : P.underlying t = some (.slice e)) (hinfo : (P.info? e).map (fun i => (i.zero, i.size, i.bytes)) = some (some z, d.sz, bytes)) (hz : z.cells.size = d.sz) (hs0 : 0 < d.sz) (hb0 : 0 < bytes)
    (v : Value) (xs : List α) (p : α) (cs : List Value) (ok okp : Nat → Prop) (hs : a.eval s = v) (hx : a.eval x = .slice (some ⟨W.heap.size, 0, none⟩) 1 1) (hp : d.M W base okp p cs) (hokp : ∀ k, okp k → ok k ∧ some k ≠ v.ownBlock) (hfresh : ∀ k, W.heap.size ≤ k → ok k)
    (HO : d.R e W base ok v xs) (HB : Below base w0 W) (hbase : base ≤ W.heap.size) (hl : (xs.length + 1) * bytes ≤ 140737488355328)
    (h : ∀ v1 w1, d.R e w1 base ok v1 (xs ++ [p]) → Below base w0 w1 → W.grownBy w1 v.ownBlock → (v1.ownBlock = v.ownBlock ∨ ∃ b, v1.ownBlock = some b ∧ W.heap.size ≤ b) → wpList P ops Q rest (a.put o.dst v1) w1) :
    wpList P ops Q (o :: rest) a (W.alloc (.cells cs.toArray e)) := by
  obtain ⟨h0, inner, hown, hr⟩ := HO
  refine print_append_cells base hgd s x t e z d.sz bytes ho ht hinfo hz hs0 hb0 v xs.length inner cs hs hx (d.K_len (d.K_of_M hp)) (d.K_one (d.K_of_M hp)) hown HB hbase hl ?_
  intro v1 w1 hown1 hb1 hg1 hat1
  exact h v1 w1 (R_appended h0 hr hp hokp hfresh hown1 hg1 hat1) hb1 hg1 hat1
end
theorem own_of_R {α : Type} {enc : α → Value} {h1 : ∀ x, (enc x).oneCell' = true} {e : Nat} {w : World} {base : Nat} {ok : Nat → Prop} {v : Value} {xs : List α} (h : (scalar enc h1).R e w base ok v xs) : w.ownsRow base e 1 v xs.length (encs enc xs) := by
  obtain ⟨_, inner, ho, hr⟩ := h
  have : inner = encs enc xs := by
    apply List.ext_getElem?
    intro j
    rcases Nat.lt_or_ge j xs.length with hj | hj
    · have h2 := hr.2 j _ (List.getElem?_eq_getElem hj)
      have hl : j < inner.length := by have := hr.1; simp [scalar] at this; omega
      have h3 : (inner.drop (j * 1)).take 1 = [enc xs[j]] := h2
      rw [Nat.mul_one, List.drop_eq_getElem_cons hl] at h3
      have h4 : inner[j] = enc xs[j] := by
        have h5 := congrArg List.head? h3
        rw [List.take_succ_cons] at h5
        exact Option.some.inj h5
      rw [List.getElem?_eq_getElem hl, h4]
      simp [encs, List.getElem?_eq_getElem hj]
    · have h3 : inner.length = xs.length := by have := hr.1; simp [scalar] at this; omega
      rw [List.getElem?_eq_none (by omega), List.getElem?_eq_none (by rw [encs_length]; omega)]
  rw [← this]
  exact ho
theorem C_of_reads {α : Type} {enc : α → Value} {d : α} {h1 : ∀ x, (enc x).oneCell' = true} {w : World} {A : Option Addr} {n : Nat} {xs : List α} (h : ReadsOf enc d w A n xs) : (scalar enc h1).C w A n xs := by
  refine ⟨h.1, h.2.1, fun hn => ?_⟩
  obtain ⟨ad, e, hc⟩ := h.2.2 hn
  refine ⟨ad, e, fun j p hj => ⟨[enc p], rfl, rfl, fun i u hu => ?_⟩⟩
  obtain ⟨hl, hp⟩ := List.getElem?_eq_some_iff.1 hj
  have h2 := hc j (by have := h.1; omega)
  rw [List.getD_eq_getElem?_getD, hj] at h2
  cases i with
  | zero =>
    have : enc p = u := by simpa using hu
    subst this
    simpa [scalar] using h2
  | succ i => simp at hu
theorem reads_of_C {α : Type} {enc : α → Value} {d : α} {h1 : ∀ x, (enc x).oneCell' = true} {w : World} {A : Option Addr} {n : Nat} {xs : List α} (h : (scalar enc h1).C w A n xs) : ReadsOf enc d w A n xs := by
  refine ⟨h.1, h.2.1, fun hn => ?_⟩
  obtain ⟨ad, e, hc⟩ := h.2.2 hn
  refine ⟨ad, e, fun j hj => ?_⟩
  have hl : j < xs.length := by have := h.1; omega
  obtain ⟨c, _, hK, hcell⟩ := hc j _ (List.getElem?_eq_getElem hl)
  have hK' : c = [enc xs[j]] := hK
  subst hK'
  have := hcell 0 _ rfl
  simpa [scalar, List.getD_eq_getElem?_getD, List.getElem?_eq_getElem hl] using this
end Kd
namespace Kd
/-- Behind an append to v (it left v1): what is held apart from v is held apart from v1. -/
theorem R_after {α : Type} {d : Kd α} {e base : Nat} {ok : Nat → Prop} {W w1 : World} {u v v1 : Value} {xs : List α} (h : d.R e W base (fun k => ok k ∧ some k ≠ v.ownBlock) u xs) (hg : W.grownBy w1 v.ownBlock) (hat : v1.ownBlock = v.ownBlock ∨ ∃ b, v1.ownBlock = some b ∧ W.heap.size ≤ b) : d.R e w1 base (fun k => ok k ∧ some k ≠ v1.ownBlock) u xs := by
  refine R_mono (R_move (R_bound h) (fun k hk => hg.block k hk.2.2.1 hk.1.2)) (fun k hk => ⟨hk.1.1, ?_⟩)
  rcases hat with hat | ⟨b, hb, hle⟩
  · rw [hat]; exact hk.1.2
  · rw [hb]
    intro he
    injection he with he
    have := hk.2.2.1
    omega
end Kd
namespace Kd
section
variable {α β : Type} {d : Kd α} {d' : Kd β} {e e' : Nat} {w w1 W : World} {base b b' : Nat} {ok ok' okv oku : Nat → Prop} {v u : Value} {xs : List α} {ys : List β}
theorem R_alloc (h : d.R e w base ok v xs) (o : Obj) : d.R e (w.alloc o) base ok v xs := R_below h (below_alloc (Below.refl _ _) o)
theorem R_drew (h : d.R e w base ok v xs) : d.R e w.drew base ok v xs := R_below h (below_drew (Below.refl _ _))
theorem R_drewN (h : d.R e w base ok v xs) (m : Nat) : d.R e (w.drewN m) base ok v xs := R_below h (pw_below_drewN (Below.refl _ _) m)
theorem C_alloc {A : Option Addr} {n : Nat} (h : d.C w A n xs) (o : Obj) : d.C (w.alloc o) A n xs := C_below h (below_alloc (Below.refl _ _) o)
theorem C_drew {A : Option Addr} {n : Nat} (h : d.C w A n xs) : d.C w.drew A n xs := C_below h (below_drew (Below.refl _ _))
theorem C_drewN {A : Option Addr} {n : Nat} (h : d.C w A n xs) (m : Nat) : d.C (w.drewN m) A n xs := C_below h (pw_below_drewN (Below.refl _ _) m)
theorem R_reads' {A : Option Addr} {n c : Nat} (h : d.R e w base ok (.slice A n c) xs) : n = xs.length ∧ n ≤ c ∧ d.C w A xs.length xs := by
  obtain ⟨A', c', he, hl, hr⟩ := R_reads h
  injection he with h1 h2 h3
  subst h1
  exact ⟨h2, by omega, hr⟩
theorem R_lt (h : d.R e w base ok v xs) : ∀ k, v.ownBlock = some k → k < w.heap.size := by
  obtain ⟨inner, ho⟩ := R_own h
  exact own_lt ho
theorem R_base (h : d.R e w base ok v xs) : ∀ k, v.ownBlock = some k → base ≤ k := by
  obtain ⟨inner, ho⟩ := R_own h
  exact own_base ho
end
section
variable {w W : World} {A : Option Addr} {n : Nat}
theorem at_int {k : IntKind} {xs : List Int} (h : (Kd.int k).C w A n xs) (i : Int) (h0 : 0 ≤ i) (h1 : i < n) : ∃ ad, A = some ad ∧ w.cell? (ad.add i.toNat) = some (.int k (rd xs i)) :=
  ReadsOf.at_ (reads_of_C (enc := Value.int k) (d := (0 : Int)) (h1 := fun _ => rfl) h) i h0 h1
variable {α : Type} {enc : α → Value} {h1 : ∀ x, (enc x).oneCell' = true} {e base g cap : Nat} {ok : Nat → Prop} {xs : List α}
end

section
variable {P : Program} {ops : Array Oper} {rest : List Oper} {o : Oper} {a : Act} {Q : Exit → Act → World → Prop}
theorem event_run {W w1 : World} {v : Value} (hgd : o.guard = none) (hrun : (execOp a.eval o).run P W = .ok (.value v) w1) (h : wpList P ops Q rest (a.put o.dst v) w1) : wpList P ops Q (o :: rest) a W := by
  refine wpList_plain hgd fun K hK => ?_
  unfold Oper.wp
  rw [hrun]
  exact hK _ _ h
variable {α : Type}
/-- A literal '[]T{..}': inner its cells. 'hd' picks the operation; 'hrun' by '(by go_simp; rfl)'. -/
theorem R_lit (d : Kd α) {w0 W : World} (base e : Nat) (hgd : o.guard = none) {N : Tmp} (_hd : o.dst = some N) {xs : List α} {inner : List Value} {ok okp : Nat → Prop}
    (hrun : (execOp a.eval o).run P W = .ok (.value (.slice (some ⟨W.heap.size, 0, none⟩) xs.length xs.length)) (W.alloc (.cells inner.toArray e)))
    (hrep : Reps (d.M W base okp) d.sz xs inner) (hok : ∀ k, okp k → ok k) (hfresh : ok W.heap.size) (HB : Below base w0 W) (hbase : base ≤ W.heap.size) (hm : xs.length ≤ 9223372036854775807)
    (h : ∀ v1 w1, d.R e w1 base ok v1 xs → Below base w0 w1 → W.grownBy w1 none → (∃ b, v1.ownBlock = some b ∧ W.heap.size ≤ b) → wpList P ops Q rest (a.put o.dst v1) w1) : wpList P ops Q (o :: rest) a W := by
  refine event_run hgd hrun (h _ _ ⟨fun k hk => ?_, inner, ?_, ?_⟩ (HB.alloc hbase _) (World.grownBy_alloc W _ none) ⟨W.heap.size, by simp [Value.ownBlock], Nat.le_refl _⟩)
  · have : W.heap.size = k := by simpa [Value.ownBlock] using hk
    subst this
    exact hfresh
  · have h2 := World.ownsRow_lit (base := base) (e := e) (size := d.sz) W inner.toArray xs.length hbase (by simpa [maxLen] using hm) (by simpa using hrep.1)
    simpa using h2
  · refine hrep.imp_ (fun p c hp => d.M_mono (fun k hk => ⟨hok k hk.1, fun he => ?_⟩) (M_below (d.M_bound hp) (below_alloc (Below.refl _ _) _)))
    have h3 : k = W.heap.size := by simpa [Value.ownBlock] using he
    have := hk.2.2.1
    omega
theorem reps_made {α : Type} {R : α → List Value → Prop} {z : Value} {size : Nat} {z0 : α} (hz : z.cells.size = size) (hs : 0 < size) (h0 : R z0 z.cells.toList) (m : Nat) : Reps R size (List.replicate m z0) (madeCells z.cells (m * size)).toList := by
  refine ⟨by simp [size_madeCells], fun j p hj => ?_⟩
  obtain ⟨hjl, hp⟩ := List.getElem?_eq_some_iff.1 hj
  have hjm : j < m := by simpa using hjl
  have hp' : z0 = p := by simpa using hp
  subst hp'
  have hle : j * size + size ≤ m * size := by rw [← Nat.succ_mul]; exact Nat.mul_le_mul_right _ hjm
  have : ((madeCells z.cells (m * size)).toList.drop (j * size)).take size = z.cells.toList := by
    apply List.ext_getElem
    · simp [size_madeCells, hz]
      omega
    · intro i h1 h2
      have hi : i < size := by rw [Array.length_toList, hz] at h2; exact h2
      have hmod : (j * size + i) % size = i := by
        rw [Nat.mul_comm, Nat.mul_add_mod]
        exact Nat.mod_eq_of_lt hi
      simp [madeCells, hz, hmod]
      rw [getElem!_pos z.cells i (by omega)]
  rw [this]
  exact h0
/-- make([]T, n): every element is z0, whose cells are the type's zero's. -/
theorem R_make (d : Kd α) {w0 W : World} (base e : Nat) (hgd : o.guard = none) {N : Tmp} (hd : o.dst = some N) (t : TypeId) (x y : Operand) (ho : o.op = .makeSlice t x y) (n : Int) (hx : a.eval x = .int .i64 n) (hy : a.eval y = .int .i64 n)
    (ht : P.underlying t = some (.slice e)) (z : Value) (bytes : Nat) (hinfo : (P.info? e).map (fun i => (i.zero, i.size, i.bytes)) = some (some z, d.sz, bytes)) (hz : z.cells.size = d.sz) (hs0 : 0 < d.sz) (hb0 : 0 < bytes)
    (z0 : α) {ok okp : Nat → Prop} (hzero : d.M W base okp z0 z.cells.toList) (hok : ∀ k, okp k → ok k) (hfresh : ok W.heap.size) (h0 : 0 ≤ n) (hl : n.toNat * bytes ≤ 281474976710656) (HB : Below base w0 W) (hbase : base ≤ W.heap.size)
    (h : ∀ v1 w1, d.R e w1 base ok v1 (List.replicate n.toNat z0) → Below base w0 w1 → W.grownBy w1 none → (∃ b, v1.ownBlock = some b ∧ W.heap.size ≤ b) → wpList P ops Q rest (a.put o.dst v1) w1) : wpList P ops Q (o :: rest) a W := by
  obtain ⟨m, rfl⟩ := Int.eq_ofNat_of_zero_le h0
  simp only [Int.toNat_natCast] at hl h
  obtain ⟨i0, hi, hzz⟩ := Option.map_eq_some_iff.1 hinfo
  simp only [Prod.mk.injEq] at hzz
  obtain ⟨hz0, hz1, hz2⟩ := hzz
  have hm : m ≤ 281474976710656 := Nat.le_trans (Nat.le_mul_of_pos_right _ hb0) hl
  have hr := run_make (P := P) W t e i0 z ht hi hz0 .i64 .i64 (m : Int) (m : Int) (by omega) (by omega)
    (by
      have h3 : ((i0.bytes * m : Nat) : Int) ≤ 281474976710656 := by rw [hz2, Nat.mul_comm]; omega
      rwa [Int.natCast_mul] at h3) (by omega)
  simp only [Int.toNat_natCast] at hr
  rw [hz1] at hr
  refine R_lit d base e hgd hd (xs := List.replicate m z0) (inner := (madeCells z.cells (m * d.sz)).toList) (okp := okp) (ok := ok) ?_ (reps_made hz hs0 hzero m) hok hfresh HB hbase (by simp; omega) h
  simp [execOp, ho, hx, hy, hr]
end
end Kd
theorem own_take {w : World} {base n m c size : Nat} {e : TypeId} {A : Option Addr} {xs : List Value} (h : w.ownsRow base e size (.slice A n c) n xs) (hm : m ≤ n) : w.ownsRow base e size (.slice A m c) m (xs.take (m * size)) := by
  obtain ⟨h1, h2⟩ := h
  refine ⟨by rw [List.length_take, h1]; exact Nat.min_eq_left (Nat.mul_le_mul_right _ hm), ?_⟩
  rcases h2 with ⟨he, h0⟩ | ⟨g, cap, cur, he, hb, hh, hnc, hcm, hcs, ht⟩
  · injection he with ha _ hc
    subst ha; subst hc
    exact .inl ⟨by rw [show m = 0 by omega], by omega⟩
  · injection he with ha _ hc
    subst ha; subst hc
    refine .inr ⟨g, c, cur, rfl, hb, hh, by omega, hcm, hcs, ?_⟩
    rw [← ht, List.take_take, Nat.min_eq_left (Nat.mul_le_mul_right _ hm)]
section
variable {P : Program}
theorem cut_to (t e : TypeId) (kh : IntKind) {i : TypeInfo} (ht : P.underlying t = some (.slice e)) (hi : P.info? e = some i) (A : Option Addr) (n c : Nat) (j : Int) (h0 : 0 ≤ j) (hm : j ≤ n) (hc : n ≤ c) :
    ∀ W : World, (Instr.slice t (.slice A n c) none (some (.int kh j)) none).run P W = .ok (.slice A j.toNat c) W := by
  intro W
  have hel : P.elem t = e := by simp [Program.elem, ht]
  have hu : P.underlying t = some (.slice (P.elem t)) := by rw [hel]; exact ht
  have ha : (A.map fun x => x.add 0) = A := by cases A <;> simp [Addr.add]
  rw [run_slice_h W t A n c hu kh j h0 (by omega), hel]
  simp [sizeOf, typeInfo, hi, sliced, Result.andThen, ha]
end
/-- A row of one's own that may begin inside its block. -/
def QRow (w : World) (base : Nat) (e : TypeId) (size : Nat) (v : Value) (n : Nat) (xs : List Value) : Prop :=
  xs.length = n * size ∧
  ((n = 0 ∧ ∃ A, v = .slice A 0 0 ∧ ∀ a, A = some a → base ≤ a.block ∧ ∃ cur, w.heap[a.block]? = some (.cells cur e (0, 0))) ∨
   ∃ g off cap cur, v = .slice (some ⟨g, off * size, none⟩) n cap ∧ base ≤ g ∧ w.heap[g]? = some (.cells cur e (0, 0)) ∧ n ≤ cap ∧ off + cap ≤ maxLen ∧ cur.size = (off + cap) * size ∧ (cur.toList.drop (off * size)).take (n * size) = xs)
namespace Kd
theorem reps_take {α : Type} {R : α → List Value → Prop} {size m : Nat} {ps : List α} {cs : List Value} (h : Reps R size ps cs) (hm : m ≤ ps.length) : Reps R size (ps.take m) (cs.take (m * size)) := by
  refine ⟨by rw [List.length_take, List.length_take, h.1, Nat.min_eq_left hm, Nat.min_eq_left (Nat.mul_le_mul_right _ hm)], fun j p hj => ?_⟩
  rw [List.getElem?_take] at hj
  split at hj
  · rename_i hjm
    have := h.2 j p hj
    have hle : j * size + size ≤ m * size := by rw [← Nat.succ_mul]; exact Nat.mul_le_mul_right _ hjm
    rw [List.drop_take, List.take_take, Nat.min_eq_left (by omega)]
    exact this
  · cases hj
theorem R_take {α : Type} {d : Kd α} {e m n c : Nat} {w : World} {base : Nat} {ok : Nat → Prop} {A : Option Addr} {xs : List α} (h : d.R e w base ok (.slice A n c) xs) (hm : m ≤ xs.length) : d.R e w base ok (.slice A m c) (xs.take m) := by
  obtain ⟨h0, inner, ho, hr⟩ := h
  have hn : n = xs.length := by
    obtain ⟨A', c', he⟩ := own_slice ho
    injection he
  subst hn
  have hb : ∀ x y : Nat, (Value.slice A x c).ownBlock = (Value.slice A y c).ownBlock := by
    intro x y
    cases A <;> rfl
  refine ⟨fun k hk => h0 k (by rw [hb _ m]; exact hk), inner.take (m * d.sz), ?_, ?_⟩
  · rw [List.length_take, Nat.min_eq_left hm]
    exact own_take ho hm
  · rw [hb m xs.length]
    exact reps_take hr hm
def Q {α : Type} (d : Kd α) (e : Nat) (w : World) (base : Nat) (ok : Nat → Prop) (v : Value) (xs : List α) : Prop :=
  (∀ k, v.ownBlock = some k → ok k) ∧ ∃ inner, QRow w base e d.sz v xs.length inner ∧ Reps (d.M w base (fun k => ok k ∧ some k ≠ v.ownBlock)) d.sz xs inner
end Kd
namespace Kd
section
variable {α : Type} {d : Kd α} {e e' : Nat} {w w1 W : World} {base : Nat} {ok : Nat → Prop} {u v : Value} {xs : List α}
theorem R_elder' (hu : d.R e W base ok u xs) (hbase : ∀ k, v.ownBlock = some k → W.heap.size ≤ k) (hb : Below W.heap.size W w1) : d.R e w1 base (fun k => ok k ∧ some k ≠ v.ownBlock) u xs :=
  R_mono (R_move (R_bound hu) (fun k hk => hb.block k hk.2.2.1)) (fun k hk => ⟨hk.1, fun he => by have := hbase k he.symm; have := hk.2.2.1; omega⟩)
theorem R_new' (h : d.R e w1 W.heap.size ok v xs) (hlt : ∀ k, u.ownBlock = some k → k < W.heap.size) : d.R e w1 W.heap.size (fun k => ok k ∧ some k ≠ u.ownBlock) v xs :=
  R_mono (R_bound h) (fun k hk => ⟨hk.1, fun he => by have := hlt k he.symm; have := hk.2.1; omega⟩)

theorem fresh' (hlt : ∀ k, u.ownBlock = some k → k < W.heap.size) : ∀ k, W.heap.size ≤ k → some k ≠ u.ownBlock := fun k hk he => by have := hlt k he.symm; omega
end
end Kd
theorem add_add (a : Addr) (i j : Nat) : (a.add i).add j = a.add (i + j) := by
  unfold Addr.add
  by_cases h1 : i = 0 <;> by_cases h2 : j = 0 <;> simp [h1, h2, Nat.add_assoc]
namespace Kd
section
variable {α : Type} {k : Kd α} {w : World} {A : Option Addr} {xs : List α} {m c : Nat}
theorem C_take (h : k.C w A xs.length xs) (hm : m ≤ xs.length) : k.C w A (xs.take m).length (xs.take m) := by
  have hl : (xs.take m).length = m := by rw [List.length_take]; omega
  refine ⟨rfl, by rw [hl]; have := h.2.1; omega, fun hp => ?_⟩
  obtain ⟨ad, e, hc⟩ := h.2.2 (by omega)
  refine ⟨ad, e, fun j p hj => hc j p ?_⟩
  rw [List.getElem?_take] at hj
  split at hj
  · exact hj
  · cases hj
theorem C_drop (h : k.C w A xs.length xs) (hm : m ≤ xs.length) (hc : xs.length ≤ c) : k.C w (if c = m then A else A.map (·.add (m * k.sz))) (xs.drop m).length (xs.drop m) := by
  have hl : (xs.drop m).length = xs.length - m := List.length_drop
  refine ⟨rfl, by rw [hl]; have := h.2.1; omega, fun hp => ?_⟩
  rw [hl] at hp
  obtain ⟨ad, rfl, hcell⟩ := h.2.2 (by omega)
  rw [if_neg (by omega)]
  refine ⟨ad.add (m * k.sz), rfl, fun j p hj => ?_⟩
  rw [List.getElem?_drop] at hj
  obtain ⟨cs, h1, h2, h3⟩ := hcell (m + j) p hj
  refine ⟨cs, h1, h2, fun i u hu => ?_⟩
  rw [add_add, show m * k.sz + (j * k.sz + i) = (m + j) * k.sz + i by rw [Nat.add_mul]; omega]
  exact h3 i u hu
theorem C_mid {lo hi : Nat} (h : k.C w A xs.length xs) (h1 : lo ≤ hi) (h2 : hi ≤ xs.length) (hc : xs.length ≤ c) : k.C w (if c = lo then A else A.map (·.add (lo * k.sz))) ((xs.take hi).drop lo).length ((xs.take hi).drop lo) := by
  have hl : (xs.take hi).length = hi := by rw [List.length_take]; omega
  exact C_drop (C_take h h2) (by omega) (by omega)
end
end Kd
section
variable {P : Program}
theorem cut_mid (t e : TypeId) (kl kh : IntKind) {i : TypeInfo} (ht : P.underlying t = some (.slice e)) (hi : P.info? e = some i) (size : Nat) (hsz : i.size = size) (A : Option Addr) (n c : Nat) (lo hi' : Int) (h0 : 0 ≤ lo) (h1 : lo ≤ hi') (h2 : hi' ≤ n) (hc : n ≤ c) :
    ∀ W : World, (Instr.slice t (.slice A n c) (some (.int kl lo)) (some (.int kh hi')) none).run P W = .ok (.slice (if c = lo.toNat then A else A.map (·.add (lo.toNat * size))) (hi'.toNat - lo.toNat) (c - lo.toNat)) W := by
  intro W
  have hel : P.elem t = e := by simp [Program.elem, ht]
  have hu : P.underlying t = some (.slice (P.elem t)) := by rw [hel]; exact ht
  rw [run_slice_lh W t A n c hu kl kh lo hi' h0 h1 (by omega), hel]
  simp [sizeOf, typeInfo, hi, hsz, sliced, Result.andThen]
end
theorem string_of_reads {P : Program} {w : World} {src dst e : TypeId} {A : Option Addr} {n c : Nat} {xs : List Int} (hs : P.underlying src = some (.slice e)) (he : P.underlying e = some (.int .u8)) (hd : P.underlying dst = some .string)
    (h : ReadsInt w .u8 A n xs) : (convert src dst (.slice A n c)).run P w = .ok (.string (strOfNums xs)) w := by
  have hn : xs.length = n := h.1
  rcases A with _ | ad
  · have h0 : n = 0 := by
      rcases Nat.eq_zero_or_pos n with h0 | h0
      · exact h0
      · obtain ⟨ad, h', _⟩ := h.2.2 h0
        cases h'
    subst h0
    obtain rfl : xs = [] := List.eq_nil_of_length_eq_zero hn
    exact run_convert_bytes_nil w src e hs he 0 c dst hd
  · have hl : (loadCells ad n).run P w = .ok (xs.map (Value.int .u8)).toArray w := by
      have := run_loadCells_list (P := P) w ad (xs.map (Value.int .u8)) (fun j v hj => by
        have hjl : j < xs.length := by
          rcases Nat.lt_or_ge j xs.length with h' | h'
          · exact h'
          · rw [List.getElem?_eq_none (by rw [List.length_map]; exact h')] at hj
            cases hj
        obtain ⟨ad', he', hc⟩ := h.2.2 (by omega)
        injection he' with he'
        subst he'
        rw [hc j (by omega)]
        rw [List.getElem?_map, List.getElem?_eq_getElem hjl] at hj
        simp at hj
        subst hj
        simp [List.getD_eq_getElem?_getD, List.getElem?_eq_getElem hjl])
      simpa [hn] using this
    rw [run_convert_bytes_string w src dst e _ n c hs he hd, run_bytesToString w ad n c xs hl, foldl_push_bytes]
    simp [strOfNums, ByteArray.empty, ByteArray.emptyWithCapacity]
    rfl
theorem Kd.C_string {P : Program} {w : World} {src dst e : TypeId} {A : Option Addr} {n c : Nat} {xs : List Int} (hs : P.underlying src = some (.slice e)) (he : P.underlying e = some (.int .u8)) (hd : P.underlying dst = some .string)
    (h : (Kd.int .u8).C w A n xs) : (convert src dst (.slice A n c)).run P w = .ok (.string (strOfNums xs)) w :=
  string_of_reads hs he hd (Kd.reads_of_C (enc := Value.int .u8) (d := (0 : Int)) (h1 := fun _ => rfl) h)
theorem below_size {w W : World} (h : Below w.heap.size w W) : w.heap.size ≤ W.heap.size := h.size
theorem below_step {w W w2 : World} (h : Below w.heap.size w W) (k : Below W.heap.size W w2) : Below w.heap.size w w2 := below_then h h.size k
theorem ReadsInt.nil (W : World) (k : IntKind) : ReadsInt W k none ([] : List Int).length [] := ⟨rfl, by simp, fun h => absurd h (Nat.lt_irrefl 0)⟩
theorem ReadsInt.drewN {W : World} {k : IntKind} {A : Option Addr} {n : Nat} {xs : List Int} (h : ReadsInt W k A n xs) (m : Nat) : ReadsInt (W.drewN m) k A n xs := h
theorem below_set {w W : World} {g j : Nat} {v : Value} (h : Below w.heap.size w W) (hg : w.heap.size ≤ g) : Below w.heap.size w (W.setCell ⟨g, j, none⟩ v) := h.setCell hg _
theorem ReadsOf.nil {α : Type} (enc : α → Value) (d : α) (W : World) : ReadsOf enc d W none ([] : List α).length [] := ⟨rfl, by simp, fun h => absurd h (Nat.lt_irrefl 0)⟩
theorem ReadsOf.drewN {α : Type} {enc : α → Value} {d : α} {W : World} {A : Option Addr} {n : Nat} {xs : List α} (h : ReadsOf enc d W A n xs) (m : Nat) : ReadsOf enc d (W.drewN m) A n xs := h
theorem blk_put {w : World} {g : Nat} {t : TypeId} {cs cs' : Array Value} (h : w.heap[g]? = some (.cells cs t (0, 0))) (i : Nat) (u : Value) (e : cs.setIfInBounds i u = cs') : (w.setCell ⟨g, i, none⟩ u).heap[g]? = some (.cells cs' t (0, 0)) := e ▸ blk_set h i u
theorem below_drew1 {base : Nat} {w W : World} (h : Below base w W) : Below base w W.drew := h.drew
namespace Kd
section
variable {α : Type} {d : Kd α} {e base g : Nat} {ok : Nat → Prop} {w w1 : World} {v : Value} {xs : List α} {o : Obj}
theorem freshB (hb : w.heap[g]? = some o) : ∀ k, w.heap.size ≤ k → k ≠ g := fun k hk => by have := blk_lt hb; omega
end
end Kd
section
variable {P : Program} {ops : Array Oper} {rest : List Oper} {o : Oper} {a : Act} {Q : Exit → Act → World → Prop}
theorem box_event {W : World} (hgd : o.guard = none) {N : Tmp} (_hd : o.dst = some N) {cs : Array Value} {t : TypeId}
    (hrun : (execOp a.eval o).run P W = .ok (.value (.pointer (some ⟨W.heap.size, 0, none⟩))) (W.alloc (.cells cs t (0, 0))))
    (h : ∀ g, g = W.heap.size → ∀ w1, w1.heap[g]? = some (.cells cs t (0, 0)) → Below W.heap.size W w1 → wpList P ops Q rest (a.put o.dst (.pointer (some ⟨g, 0, none⟩))) w1) : wpList P ops Q (o :: rest) a W :=
  Kd.event_run hgd hrun (h _ rfl _ (blk_new W _) (below_alloc (Below.refl _ _) _))
end
section
variable {P : Program} {ops : Array Oper} {rest : List Oper} {o : Oper} {a : Act} {Q : Exit → Act → World → Prop} {W : World}
theorem gate_dst {N : Tmp} (_hN : o.dst = some N) (h : wpList P ops Q (o :: rest) a W) : wpList P ops Q (o :: rest) a W := h
end
end Go.Proofs.YtiopeaponffmdaaDoorW.PrintWords
-- YtiopeaponffmdaaDoorWLast
namespace Go.Proofs.YtiopeaponffmdaaDoorW.PrintLast

section
variable {P : Program} {ops : Array Oper} {Q : Exit → Act → World → Prop} {md : Region.Mode} {S : World → Prop} {ds : List Nat}

/-- Operation d waits for operation i, by a chain of at most 'fuel' edges. -/
def Region.reachB (md : Region.Mode) (ops : Array Oper) (i : Nat) : Nat → Nat → Bool
  | 0, _ => false
  | fuel + 1, d => match ops[d]? with
    | some o => o.after.any fun e => Region.binds md e && (e.on == i || Region.reachB md ops i fuel e.on)
    | none => false

/-- What is listed is closed under the edges. -/
def Region.closedB (md : Region.Mode) (ops : Array Oper) (listed : Array Bool) : Bool :=
  (List.range ops.size).all fun j => !listed.getD j false || match ops[j]? with
    | some o => o.after.all fun e => !Region.binds md e || listed.getD e.on false
    | none => true

/-- Each of ds that has not come up yet waits for number i. -/
def Region.lastB (md : Region.Mode) (ops : Array Oper) (listed : Array Bool) (ds : List Nat) (i : Nat) : Bool :=
  ds.all fun d => listed.getD d true || Region.reachB md ops i ops.size d

def ListedClosed (md : Region.Mode) (ops : Array Oper) (listed : Array Bool) : Prop :=
  ∀ j oj, ops[j]? = some oj → listed.getD j false = true → ∀ e ∈ oj.after, Region.binds md e = true → listed.getD e.on false = true

theorem Region.closedB_spec {listed : Array Bool} (h : Region.closedB md ops listed = true) : ListedClosed md ops listed := by
  intro j oj hj hl e he hb
  have hlt : j < ops.size := (Array.getElem?_eq_some_iff.1 hj).1
  have h1 := List.all_eq_true.1 h j (List.mem_range.2 hlt)
  simp only [hl, hj, Bool.not_true, Bool.false_or] at h1
  have h2 := Array.all_eq_true_iff_forall_mem.1 h1 e he
  simpa [hb] using h2

theorem ListedClosed.set {listed : Array Bool} {i : Nat} (h : ListedClosed md ops listed) (hi : i ∈ Region.ready md ops listed) : ListedClosed md ops (listed.setIfInBounds i true) := by
  obtain ⟨_, oi, hoi, hall⟩ := mem_ready.1 hi
  intro j oj hj hl e he hb
  by_cases hij : i = j
  · subst hij
    have : oj = oi := Option.some.inj (hj.symm.trans hoi)
    subst this
    exact getD_set_true (hall e he hb)
  · rw [getD_set_ne false hij] at hl
    exact getD_set_true (h j oj hj hl e he hb)

theorem Region.reach_listed {listed : Array Bool} {i : Nat} (hc : ListedClosed md ops listed) : ∀ (fuel d : Nat), Region.reachB md ops i fuel d = true → listed.getD d false = true → listed.getD i false = true
  | 0, _, h, _ => by simp [Region.reachB] at h
  | fuel + 1, d, h, hl => by
    unfold Region.reachB at h
    cases ho : ops[d]? with
    | none => rw [ho] at h; simp at h
    | some o =>
      rw [ho] at h
      obtain ⟨e, he, h1⟩ := Array.any_eq_true'.1 h
      simp only [Bool.and_eq_true, Bool.or_eq_true, beq_iff_eq] at h1
      have hle := hc d o ho hl e he h1.1
      rcases h1.2 with h2 | h2
      · rw [← h2]; exact hle
      · exact Region.reach_listed hc fuel e.on h2 hle

/-- What waits for i cannot come up before i is listed. -/
theorem Region.reach_not_ready {listed : Array Bool} {i d fuel : Nat} (hc : ListedClosed md ops listed) (hr : Region.reachB md ops i fuel d = true) (hun : listed.getD i true = false) : d ∉ Region.ready md ops listed := by
  intro hd
  obtain ⟨_, o, ho, hall⟩ := mem_ready.1 hd
  have hi : listed.getD i false = true := by
    cases fuel with
    | zero => simp [Region.reachB] at hr
    | succ n =>
      unfold Region.reachB at hr
      rw [ho] at hr
      obtain ⟨e, he, h1⟩ := Array.any_eq_true'.1 hr
      simp only [Bool.and_eq_true, Bool.or_eq_true, beq_iff_eq] at h1
      have hle := hall e he h1.1
      rcases h1.2 with h2 | h2
      · rw [← h2]; exact hle
      · exact Region.reach_listed hc n e.on h2 hle
  rcases Nat.lt_or_ge i listed.size with h' | h'
  · simp [h'] at hun hi
    rw [hun] at hi
    cases hi
  · simp [Array.getElem?_eq_none h'] at hun

/-- Whatever order is picked from here on, AND 'S' HOLDS BEHIND EVERY OPERATION THAT IS CARRIED OUT, those of ds apart. -/
def wpAnyLast (P : Program) (md : Region.Mode) (ops : Array Oper) (Q : Exit → Act → World → Prop) (S : World → Prop) (ds : List Nat) : Nat → Array Bool → Act → World → Prop
  | 0, listed, a, w => Region.ready md ops listed = [] ∧ Q .normal a w
  | fuel + 1, listed, a, w =>
    (Region.ready md ops listed = [] → Q .normal a w) ∧
    ∀ i ∈ Region.ready md ops listed, wpOp P ops Q i (fun a' w' => (i ∉ ds → S w → S w') ∧ wpAnyLast P md ops Q S ds fuel (listed.setIfInBounds i true) a' w') a w

theorem wpAny_of_last : ∀ (fuel : Nat) (listed : Array Bool) (a : Act) (w : World), wpAnyLast P md ops Q S ds fuel listed a w → wpAny P md ops Q fuel listed a w
  | 0, _, _, _, h => h
  | fuel + 1, _, _, _, h => ⟨h.1, fun i hi => wpOp_mono (fun a' w' h' => wpAny_of_last fuel _ a' w' h'.2) (h.2 i hi)⟩

theorem wpAnyLast_first {i : Nat} {oi : Oper} {v : Value} (hi : ops[i]? = some oi) (hsel : ∀ (j : Nat) (o : Oper) cs b, ops[j]? = some o → o.op ≠ .select cs b)
    (hQ : ∀ c a w, Q (.panic c) (a.put oi.dst v) w → Q (.panic c) a w) (n : Nat) :
    ∀ (fuel : Nat) (listed : Array Bool) (a : Act) (w : World),
      (∀ j oj, ops[j]? = some oj → j ≠ i → listed.getD j true = false → (∀ e ∈ oj.after, Region.binds md e = true → e.on ≠ i) → oi.apart ops oj = true) →
      ListedClosed md ops listed → (∀ d ∈ ds, listed.getD d true = false → Region.reachB md ops i n d = true) →
      i ∈ Region.ready md ops listed → YieldsIf P ops S oi v a → S w →
      wpAnyLast P md ops Q S ds fuel (listed.setIfInBounds i true) (a.put oi.dst v) w → wpAnyLast P md ops Q S ds (fuel + 1) listed a w := by
  intro fuel
  induction fuel with
  | zero =>
    intro listed a w _ _ _ hr hy hS H
    refine ⟨fun h => (by rw [h] at hr; cases hr), fun j hj => ?_⟩
    by_cases hji : j = i
    · subst hji; exact hy.wpOp hi hS ⟨fun _ h => h, H⟩
    · have := ready_mono hj hji
      rw [H.1] at this
      cases this
  | succ fuel ih =>
    intro listed a w hfree hc hd hr hy hS H
    refine ⟨fun h => (by rw [h] at hr; cases hr), fun j hj => ?_⟩
    by_cases hji : j = i
    · subst hji; exact hy.wpOp hi hS ⟨fun _ h => h, H⟩
    · have h1 := H.2 j (ready_mono hj hji)
      obtain ⟨hjun, oj, hoj, hall⟩ := mem_ready.1 hj
      have hiun := (mem_ready.1 hr).1
      have hnot : ∀ e ∈ oj.after, Region.binds md e = true → e.on ≠ i := fun e he hb heq => by
        have h1 := hall e he hb
        rw [heq] at h1
        rcases Nat.lt_or_ge i listed.size with h' | h'
        · simp [h'] at hiun h1; rw [hiun] at h1; cases h1
        · simp [Array.getElem?_eq_none h'] at h1
      have hjd : j ∉ ds := fun hm => Region.reach_not_ready hc (hd j hm hjun) hiun hj
      have h2 := wpOp_putIf hoj (hfree j oj hoj hji hjun hnot) (fun cs b => hsel i oi cs b hi) (fun cs b => hsel j oj cs b hoj) hQ hy h1
      have hfree' : ∀ k ok, ops[k]? = some ok → k ≠ i → (listed.setIfInBounds j true).getD k true = false →
          (∀ e ∈ ok.after, Region.binds md e = true → e.on ≠ i) → oi.apart ops ok = true := fun k ok hk hki hun hno => by
        refine hfree k ok hk hki ?_ hno
        by_cases hjk : j = k
        · subst hjk; exact hjun
        · rw [getD_set_ne true hjk] at hun; exact hun
      have hd' : ∀ d ∈ ds, (listed.setIfInBounds j true).getD d true = false → Region.reachB md ops i n d = true := fun d hm hun => by
        refine hd d hm ?_
        by_cases hjk : j = d
        · subst hjk; exact hjun
        · rw [getD_set_ne true hjk] at hun; exact hun
      refine wpOp_mono (fun a' w' h3 => ⟨h3.2.1, ih (listed.setIfInBounds j true) a' w' hfree' (hc.set hj) hd' (ready_mono hr (Ne.symm hji)) h3.1 (h3.2.1 hjd hS) ?_⟩) h2
      rw [Array.setIfInBounds_comm _ _ hji]
      exact h3.2.2

/-- Take number 'i' first, which yields whatever the world: no S is asked for, nor that anything waits for it. -/
theorem wpAnyLast_any {i : Nat} {oi : Oper} {v : Value} (hi : ops[i]? = some oi) (hsel : ∀ (j : Nat) (o : Oper) cs b, ops[j]? = some o → o.op ≠ .select cs b)
    (hQ : ∀ c a w, Q (.panic c) (a.put oi.dst v) w → Q (.panic c) a w) :
    ∀ (fuel : Nat) (listed : Array Bool) (a : Act) (w : World),
      (∀ j oj, ops[j]? = some oj → j ≠ i → listed.getD j true = false → (∀ e ∈ oj.after, Region.binds md e = true → e.on ≠ i) → oi.apart ops oj = true) →
      i ∈ Region.ready md ops listed → Yields P ops oi v a →
      wpAnyLast P md ops Q S ds fuel (listed.setIfInBounds i true) (a.put oi.dst v) w → wpAnyLast P md ops Q S ds (fuel + 1) listed a w := by
  intro fuel
  induction fuel with
  | zero =>
    intro listed a w _ hr hy H
    refine ⟨fun h => (by rw [h] at hr; cases hr), fun j hj => ?_⟩
    by_cases hji : j = i
    · subst hji; exact (hy.yieldsIf (S := fun _ => True)).wpOp hi trivial ⟨fun _ h => h, H⟩
    · have := ready_mono hj hji
      rw [H.1] at this
      cases this
  | succ fuel ih =>
    intro listed a w hfree hr hy H
    refine ⟨fun h => (by rw [h] at hr; cases hr), fun j hj => ?_⟩
    by_cases hji : j = i
    · subst hji; exact (hy.yieldsIf (S := fun _ => True)).wpOp hi trivial ⟨fun _ h => h, H⟩
    · have h1 := H.2 j (ready_mono hj hji)
      obtain ⟨hjun, oj, hoj, hall⟩ := mem_ready.1 hj
      have hiun := (mem_ready.1 hr).1
      have hnot : ∀ e ∈ oj.after, Region.binds md e = true → e.on ≠ i := fun e he hb heq => by
        have h1 := hall e he hb
        rw [heq] at h1
        rcases Nat.lt_or_ge i listed.size with h' | h'
        · simp [h'] at hiun h1; rw [hiun] at h1; cases h1
        · simp [Array.getElem?_eq_none h'] at h1
      have h2 := wpOp_put hoj (hfree j oj hoj hji hjun hnot) (fun cs b => hsel i oi cs b hi) (fun cs b => hsel j oj cs b hoj) hQ hy h1
      have hfree' : ∀ k ok, ops[k]? = some ok → k ≠ i → (listed.setIfInBounds j true).getD k true = false →
          (∀ e ∈ ok.after, Region.binds md e = true → e.on ≠ i) → oi.apart ops ok = true := fun k ok hk hki hun hno => by
        refine hfree k ok hk hki ?_ hno
        by_cases hjk : j = k
        · subst hjk; exact hjun
        · rw [getD_set_ne true hjk] at hun; exact hun
      refine wpOp_mono (fun a' w' h3 => ⟨h3.2.1, ih (listed.setIfInBounds j true) a' w' hfree' (ready_mono hr (Ne.symm hji)) h3.1 ?_⟩) h2
      rw [Array.setIfInBounds_comm _ _ hji]
      exact h3.2.2

/-- Take number 'i' first. -/
theorem wpAnyLast_take {i : Nat} {oi : Oper} {v : Value} {fuel : Nat} {listed : Array Bool} {a : Act} {w : World} (hi : ops[i]? = some oi)
    (hs : Region.noSelect ops = true) (hf : Region.free md ops listed i = true) (hr : (Region.ready md ops listed).contains i = true)
    (hc : Region.closedB md ops listed = true) (hl : Region.lastB md ops listed ds i = true)
    (hQ : ∀ c a w, Q (.panic c) (a.put oi.dst v) w → Q (.panic c) a w) (hy : YieldsIf P ops S oi v a) (hS : S w)
    (h : wpAnyLast P md ops Q S ds fuel (listed.setIfInBounds i true) (a.put oi.dst v) w) : wpAnyLast P md ops Q S ds (fuel + 1) listed a w :=
  wpAnyLast_first hi (Region.noSelect_spec hs) hQ ops.size fuel listed a w (Region.free_spec hi hf) (Region.closedB_spec hc)
    (fun d hm hun => by have := List.all_eq_true.1 hl d hm; rw [hun] at this; simpa using this) (by simpa using hr) hy hS h

theorem wpAnyLast_all {rs : List Nat} {fuel : Nat} {listed : Array Bool} {a : Act} {w : World} (hr : Region.ready md ops listed = rs) (hne : rs ≠ [])
    (h : ∀ i ∈ rs, wpOp P ops Q i (fun a' w' => (i ∉ ds → S w → S w') ∧ wpAnyLast P md ops Q S ds fuel (listed.setIfInBounds i true) a' w') a w) : wpAnyLast P md ops Q S ds (fuel + 1) listed a w :=
  ⟨fun h0 => absurd (hr ▸ h0) hne, hr ▸ h⟩

theorem wpAnyLast_done {listed : Array Bool} {a : Act} {w : World} (hr : Region.ready md ops listed = []) (h : Q .normal a w) :
    ∀ fuel, wpAnyLast P md ops Q S ds fuel listed a w
  | 0 => ⟨hr, h⟩
  | _ + 1 => ⟨fun _ => h, by rw [hr]; simp⟩

theorem wp_region_last {id : Nat} {a : Act} {w : World} (hm : P.follows .mixedOrders = true)
    (h : wpAnyLast P .any ops Q S ds ops.size (Array.replicate ops.size false) a { w with drawn := w.drawn + 1 }) : (Code.region id ops true).wp P Q a w :=
  wp_region_any hm (wpAny_of_last _ _ _ _ h)

end

section
variable {P : Program} {ops : Array Oper} {Q : Exit → Act → World → Prop} {md : Region.Mode} {S : World → Prop} {ds : List Nat}

def AllReadyL (P : Program) (md : Region.Mode) (ops : Array Oper) (Q : Exit → Act → World → Prop) (S : World → Prop) (ds : List Nat) (fuel : Nat) (listed : Array Bool) (a : Act) (w : World) (rs : List Nat) : Prop :=
  ∀ i ∈ rs, wpOp P ops Q i (fun a' w' => (i ∉ ds → S w → S w') ∧ wpAnyLast P md ops Q S ds fuel (listed.setIfInBounds i true) a' w') a w
theorem AllReadyL.nil {fuel : Nat} {listed : Array Bool} {a : Act} {w : World} : AllReadyL P md ops Q S ds fuel listed a w [] := fun _ h => by cases h
theorem AllReadyL.cons {fuel : Nat} {listed : Array Bool} {a : Act} {w : World} {i : Nat} {o : Oper} {rs : List Nat} (ho : ops[i]? = some o) (hd : i ∉ ds)
    (h : ∀ K' : Act → World → Prop, Shut (∀ a w, S w → (S w → wpAnyLast P md ops Q S ds fuel (listed.setIfInBounds i true) a w) → K' a w) → if Region.wanted o (yielded ops a.tmps) = true then Oper.wp P o a w K' Q else K' (a.put o.dst undef) w)
    (hs : AllReadyL P md ops Q S ds fuel listed a w rs) : AllReadyL P md ops Q S ds fuel listed a w (i :: rs) := fun j hj => by
  rcases List.mem_cons.1 hj with rfl | hj
  · exact wpOp_step ho (fun K' hK => h K' (fun a w hS hW => hK a w ⟨fun _ _ => hS, hW hS⟩))
  · exact hs j hj
theorem wpAnyLast_ready {rs : List Nat} {fuel : Nat} {listed : Array Bool} {a : Act} {w : World} (hr : Region.ready md ops listed = rs) (hne : rs ≠ [])
    (h : AllReadyL P md ops Q S ds fuel listed a w rs) : wpAnyLast P md ops Q S ds (fuel + 1) listed a w := wpAnyLast_all hr hne h
/-- THE SAME STEPS WITH WHAT HAS COME UP WRITTEN OUT (a literal array of Bools) and one check a step: quicker, and what is printed stays short. -/
theorem start_ {id n : Nat} {a : Act} {w : World} (l : Array Bool) (hm : P.follows .mixedOrders = true) (hn : ops.size = n) (hl : Array.replicate n false = l) (hS : S w.drew)
    (h : S w.drew → wpAnyLast P .any ops Q S ds n l a w.drew) : (Code.region id ops true).wp P Q a w := by
  subst hn
  subst hl
  exact wp_region_last hm (h hS)
def takeB (md : Region.Mode) (ops : Array Oper) (ds : List Nat) (l l' : Array Bool) (i : Nat) : Bool :=
  Region.noSelect ops && Region.free md ops l i && (Region.ready md ops l).contains i && Region.closedB md ops l && Region.lastB md ops l ds i && (l.setIfInBounds i true == l')
theorem take_ {i : Nat} {N : Option Tmp} {oi : Oper} {v : Value} {fuel : Nat} {l : Array Bool} {a : Act} {w : World} (l' : Array Bool) (hi : ops[i]? = some oi) (hN : oi.dst = N) (hc : takeB md ops ds l l' i = true)
    (hQ : ∀ c a w, Q (.panic c) (a.put oi.dst v) w → Q (.panic c) a w) (hy : YieldsIf P ops S oi v a) (hS : S w) {a' : Act} (ha : a.put N v = a')
    (h : wpAnyLast P md ops Q S ds fuel l' a' w) : wpAnyLast P md ops Q S ds (fuel + 1) l a w := by
  subst ha
  subst hN
  simp only [takeB, Bool.and_eq_true, beq_iff_eq] at hc
  obtain ⟨⟨⟨⟨⟨h1, h2⟩, h3⟩, h4⟩, h5⟩, h6⟩ := hc
  subst h6
  exact wpAnyLast_take hi h1 h2 h3 h4 h5 hQ hy hS h
def anyB (md : Region.Mode) (ops : Array Oper) (l l' : Array Bool) (i : Nat) : Bool :=
  Region.noSelect ops && Region.free md ops l i && (Region.ready md ops l).contains i && (l.setIfInBounds i true == l')
/-- An operation that yields in every world (a move, a number, an address): taken first wherever it may come up, behind a store too. -/
theorem pure_ {i : Nat} {N : Option Tmp} {oi : Oper} {v : Value} {fuel : Nat} {l : Array Bool} {a : Act} {w : World} (l' : Array Bool) (hi : ops[i]? = some oi) (hN : oi.dst = N) (hc : anyB md ops l l' i = true)
    (hQ : ∀ c a w, Q (.panic c) (a.put oi.dst v) w → Q (.panic c) a w) (hy : Yields P ops oi v a) {a' : Act} (ha : a.put N v = a')
    (h : wpAnyLast P md ops Q S ds fuel l' a' w) : wpAnyLast P md ops Q S ds (fuel + 1) l a w := by
  subst ha
  subst hN
  simp only [anyB, Bool.and_eq_true, beq_iff_eq] at hc
  obtain ⟨⟨⟨h1, h2⟩, h3⟩, h6⟩ := hc
  subst h6
  exact wpAnyLast_any hi (Region.noSelect_spec h1) hQ fuel l a w (Region.free_spec hi h2) (by simpa using h3) hy h
def readyB (md : Region.Mode) (ops : Array Oper) (l l' : Array Bool) (i : Nat) : Bool := (Region.ready md ops l == [i]) && (l.setIfInBounds i true == l')
/-- One operation alone may come up now (a call, a build, an append ..): it is run, S is shown behind it. -/
theorem one_ {i : Nat} {N : Option Tmp} {oi : Oper} {fuel : Nat} {l : Array Bool} {a : Act} {w : World} (l' : Array Bool) (hi : ops[i]? = some oi) (hN : oi.dst = N) (hc : readyB md ops l l' i = true) (hd : i ∉ ds)
    (h : ∀ K : Act → World → Prop, Shut (∀ a' w', S w' → (S w' → wpAnyLast P md ops Q S ds fuel l' a' w') → K a' w') → if Region.wanted oi (yielded ops a.tmps) = true then Oper.wp P oi a w K Q else K (a.put N undef) w) :
    wpAnyLast P md ops Q S ds (fuel + 1) l a w := by
  subst hN
  simp only [readyB, Bool.and_eq_true, beq_iff_eq] at hc
  obtain ⟨h1, h2⟩ := hc
  subst h2
  exact wpAnyLast_ready h1 (by simp) (AllReadyL.cons hi hd (fun K hK => h K hK) AllReadyL.nil)
theorem done_ {l : Array Bool} {a : Act} {w : World} {n : Nat} (hr : (Region.ready md ops l == []) = true) (h : Q .normal a w) : wpAnyLast P md ops Q S ds n l a w := wpAnyLast_done (by simpa using hr) h n
/-- The act written out. -/
theorem norm_ {fuel : Nat} {l : Array Bool} {a a' : Act} {w : World} (ha : a = a') (h : wpAnyLast P md ops Q S ds fuel l a' w) : wpAnyLast P md ops Q S ds fuel l a w := by
  subst ha
  exact h
/-- A call of a Go function, by its contract. -/
theorem call_ {oi : Oper} {N : Option Tmp} {a : Act} {w : World} {K : Act → World → Prop} (f : FuncId) (args : Array Value) (hw : Region.wanted oi (yielded ops a.tmps) = true) (hN : oi.dst = N) (hrun : (execOp a.eval oi).run P w = .ok (.enter f args) w)
    (h : Calls P f args w fun e w' => ∃ v, e = .returned v ∧ K (a.put N v) w') : if Region.wanted oi (yielded ops a.tmps) = true then Oper.wp P oi a w K Q else K (a.put N undef) w := by
  rw [if_pos hw]
  subst hN
  unfold Oper.wp
  rw [hrun, Oper.upon_enter]
  refine h.mono fun e w'' hh => ?_
  obtain ⟨v, rfl, hk⟩ := hh
  exact hk
theorem enters_ {f : FuncId} {fn : Func} (hf : P.funcs[f]? = some fn) (hname : (fn.name == "runtime.NumGoroutine") = false) (hb : fn.body.isSome = true) (args : Array Value) (w : World) : (callFunc f args).run P w = .ok (.enter f args) w := by
  have h1 : fn.name ≠ "runtime.NumGoroutine" := by simpa using hname
  obtain ⟨c, hc⟩ := Option.isSome_iff_exists.1 hb
  simp [callFunc, hf, h1, hc]
/-- The same, the operation's run shown here: 'goes_ A.func3 (by kernel_rfl) rfl #[..] (by rfl) rfl rfl (by rfl) ?_'. -/
theorem goes_ {oi : Oper} {N : Option Tmp} {a : Act} {w : World} {K : Act → World → Prop} {f : FuncId} {fn : Func} {as : Array Operand} {ts : Array TypeId} (hf : P.funcs[f]? = some fn) (hname : (fn.name == "runtime.NumGoroutine") = false) (hb : fn.body.isSome = true) (args : Array Value)
    (hw : Region.wanted oi (yielded ops a.tmps) = true) (hN : oi.dst = N) (hop : oi.op = .call { callee := .value (.func f), args := as, argTypes := ts }) (hargs : as.map a.eval = args)
    (h : Calls P f args w fun e w' => ∃ v, e = .returned v ∧ K (a.put N v) w') : if Region.wanted oi (yielded ops a.tmps) = true then Oper.wp P oi a w K Q else K (a.put N undef) w := by
  refine call_ f args hw hN ?_ h
  have he := enters_ hf hname hb args w
  unfold execOp
  simp [hop, resolve, Deferred.ofValue, invoke, Act.eval, hargs, he]
/-- A call in a plain region, as an arm of go_wp2_with ('hd' first: it fails at once at another operation). -/
theorem goesL_ {rest : List Oper} {oi : Oper} {a : Act} {w : World} (N : Option Tmp) (hd : oi.dst = N) (hg : oi.guard = none) {f : FuncId} {fn : Func} {as : Array Operand} {ts : Array TypeId} (hf : P.funcs[f]? = some fn) (hname : (fn.name == "runtime.NumGoroutine") = false) (hb : fn.body.isSome = true) (args : Array Value)
    (hop : oi.op = .call { callee := .value (.func f), args := as, argTypes := ts }) (hargs : as.map a.eval = args)
    (h : Calls P f args w fun e w' => ∃ v, e = .returned v ∧ wpList P ops Q rest (a.put N v) w') : wpList P ops Q (oi :: rest) a w := by
  refine wpList_plain hg fun K hK => ?_
  have he := enters_ hf hname hb args w
  have hrun : (execOp a.eval oi).run P w = .ok (.enter f args) w := by
    unfold execOp
    simp [hop, resolve, Deferred.ofValue, invoke, Act.eval, hargs, he]
  unfold Oper.wp
  rw [hrun, Oper.upon_enter]
  refine h.mono fun e w'' hh => ?_
  obtain ⟨v, rfl, hk⟩ := hh
  subst hd
  exact hK _ _ hk
theorem i64_w (n : Int) : IntKind.i64.wrap n = Go.RowKit.wrap64 n := by unfold Go.RowKit.wrap64; exact IntKind.wrap_i64 n
theorem i32_w (n : Int) : IntKind.i32.wrap n = Go.RowKit.wrap32 n := by unfold Go.RowKit.wrap32; exact IntKind.wrap_i32 n
end
end Go.Proofs.YtiopeaponffmdaaDoorW.PrintLast
