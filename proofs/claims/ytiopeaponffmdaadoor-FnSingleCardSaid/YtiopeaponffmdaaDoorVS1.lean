/- The texts of a proof, its declarations alone: part 1. -/

set_option linter.unusedVariables false
set_option linter.unusedSimpArgs false
-- YtiopeaponffmdaaDoorMb
namespace Go.Proofs.YtiopeaponffmdaaDoor.Fm

/-- floor of n/m, its last bit told to be 1 where something is left over -/
def unr (n m : Nat) : Nat := if n % m = 0 then n / m else n / m / 2 * 2 + 1

/-- what 'uscale' computes -/
def usc (x h l s : Nat) : Nat :=
  let A := x * h
  let hi := A / 2 ^ 64
  let mid := A % 2 ^ 64
  if hi % 2 ^ s ≠ 0 then hi / 2 ^ s / 2 * 2 + 1 else
  let mid2 := x * l / 2 ^ 64
  let hi' := if mid < mid2 then hi - 1 else hi
  let rest := if mid < mid2 then mid + 2 ^ 64 - mid2 else mid - mid2
  if rest > 1 then hi' / 2 ^ s / 2 * 2 + 1 else hi' / 2 ^ s

theorem unr_in {n m q : Nat} (h1 : q * m < n) (h2 : n < (q + 1) * m) : unr n m = q / 2 * 2 + 1 := by
  have hm : 0 < m := by
    refine Nat.pos_of_ne_zero fun h => ?_
    subst h; omega
  have hq : n / m = q := Nat.div_eq_of_lt_le (by omega) h2
  have hr : n % m ≠ 0 := fun h => by
    have := Nat.div_add_mod n m
    rw [hq, h, Nat.mul_comm] at this
    omega
  unfold unr
  rw [if_neg hr, hq]

theorem unr_at {n m q : Nat} (hm : 0 < m) (h : n = q * m) : unr n m = q := by
  subst h
  unfold unr
  rw [Nat.mul_mod_left, if_pos rfl, Nat.mul_div_cancel _ hm]

theorem usc_ok (x h l s tn td : Nat) (hx : 0 < x) (hx2 : x < 2 ^ 64) (hl : l < 2 ^ 64) (htd : 0 < td)
    (hp1 : tn + l * td ≤ h * 2 ^ 64 * td) (hp2 : h * 2 ^ 64 * td < tn + l * td + td)
    (hgap : ∀ q : Nat, x * tn = q * 2 ^ s * 2 ^ 128 * td ∨ x * tn ≥ (q * 2 ^ s * 2 ^ 128 + 3 * 2 ^ 64) * td ∨ x * tn + 3 * 2 ^ 64 * td ≤ q * 2 ^ s * 2 ^ 128 * td) :
    usc x h l s = unr (x * tn) (2 ^ s * 2 ^ 128 * td) := by
  have hS : 0 < 2 ^ s := Nat.two_pow_pos s
  unfold usc
  generalize 2 ^ s = S at *
  -- the parts
  obtain ⟨hi, mid, hA, hmid⟩ : ∃ hi mid, x * h = hi * 2 ^ 64 + mid ∧ mid < 2 ^ 64 := ⟨x * h / 2 ^ 64, x * h % 2 ^ 64, by omega, by omega⟩
  obtain ⟨mid2, lo2, hB, hlo2⟩ : ∃ mid2 lo2, x * l = mid2 * 2 ^ 64 + lo2 ∧ lo2 < 2 ^ 64 := ⟨x * l / 2 ^ 64, x * l % 2 ^ 64, by omega, by omega⟩
  have eA1 : x * h / 2 ^ 64 = hi := by omega
  have eA2 : x * h % 2 ^ 64 = mid := by omega
  have eB : x * l / 2 ^ 64 = mid2 := by omega
  have hm2 : mid2 < x := by
    have : x * l < x * 2 ^ 64 := Nat.mul_lt_mul_of_pos_left hl hx
    omega
  -- x * tn, told by the parts
  obtain ⟨dl, hdl1, hdl2⟩ : ∃ dl, x * tn + mid2 * 2 ^ 64 * td + lo2 * td + dl = hi * 2 ^ 128 * td + mid * 2 ^ 64 * td ∧ dl < x * td := by
    have e1 : x * (tn + l * td) ≤ x * (h * 2 ^ 64 * td) := Nat.mul_le_mul_left x hp1
    have e2 : x * (h * 2 ^ 64 * td) < x * (tn + l * td + td) := Nat.mul_lt_mul_of_pos_left hp2 hx
    have f1 : x * (tn + l * td) = x * tn + (mid2 * 2 ^ 64 + lo2) * td := by rw [← hB]; grind
    have f2 : x * (h * 2 ^ 64 * td) = (hi * 2 ^ 64 + mid) * 2 ^ 64 * td := by rw [← hA]; grind
    have f3 : x * (tn + l * td + td) = x * tn + (mid2 * 2 ^ 64 + lo2) * td + x * td := by rw [← hB]; grind
    have g1 : (mid2 * 2 ^ 64 + lo2) * td = mid2 * 2 ^ 64 * td + lo2 * td := Nat.add_mul ..
    have g2 : (hi * 2 ^ 64 + mid) * 2 ^ 64 * td = hi * 2 ^ 128 * td + mid * 2 ^ 64 * td := by grind
    exact ⟨x * (h * 2 ^ 64 * td) - x * (tn + l * td), by omega, by omega⟩
  have b1 : x * td < 2 ^ 64 * td := Nat.mul_lt_mul_of_pos_right hx2 htd
  have b2 : lo2 * td < 2 ^ 64 * td := Nat.mul_lt_mul_of_pos_right hlo2 htd
  have b3 : mid * td < 2 ^ 64 * td := Nat.mul_lt_mul_of_pos_right hmid htd
  have b4 : mid2 * td + td ≤ x * td := by
    have : (mid2 + 1) * td ≤ x * td := Nat.mul_le_mul_right td hm2
    rw [Nat.add_mul] at this; omega
  have b5 : 2 ^ 64 * (mid2 * td) + lo2 * td + x * td ≤ 2 ^ 64 * (x * td) := by
    have : x * (l + 1) * td ≤ x * 2 ^ 64 * td := Nat.mul_le_mul_right td (Nat.mul_le_mul_left x hl)
    have f1 : x * (l + 1) * td = (mid2 * 2 ^ 64 + lo2) * td + x * td := by rw [← hB]; grind
    have f2 : (mid2 * 2 ^ 64 + lo2) * td = 2 ^ 64 * (mid2 * td) + lo2 * td := by grind
    have f3 : x * 2 ^ 64 * td = 2 ^ 64 * (x * td) := by grind
    omega
  have c1 : mid * 2 ^ 64 * td = 2 ^ 64 * (mid * td) := by grind
  have c2 : mid2 * 2 ^ 64 * td = 2 ^ 64 * (mid2 * td) := by grind
  have c3 : hi * 2 ^ 128 * td = 2 ^ 128 * (hi * td) := by grind
  rw [c1, c2, c3] at hdl1
  simp only [eA1, eA2, eB]
  by_cases hr : hi % S = 0
  · rw [if_neg (by simpa using hr)]
    obtain ⟨q, rfl⟩ : ∃ q, hi = q * S := ⟨hi / S, by have := Nat.div_add_mod hi S; rw [hr] at this; rw [Nat.mul_comm]; omega⟩
    have em : q * S * 2 ^ 128 * td = 2 ^ 128 * (q * S * td) := by grind
    have em' : (q * S * 2 ^ 128 + 3 * 2 ^ 64) * td = 2 ^ 128 * (q * S * td) + 3 * 2 ^ 64 * td := by grind
    have eq1 : q * (S * 2 ^ 128 * td) = 2 ^ 128 * (q * S * td) := by grind
    have eq2 : (q + 1) * (S * 2 ^ 128 * td) = 2 ^ 128 * (q * S * td) + 2 ^ 128 * (S * td) := by grind
    have eS : 1 * td ≤ S * td := Nat.mul_le_mul_right td hS
    have hg := hgap q
    rw [em, em'] at hg
    rcases hg with hg | hg | hg
    · -- exact
      have k1 : mid2 ≤ mid := by
        refine Nat.not_lt.1 fun h => ?_
        have : (mid + 1) * td ≤ mid2 * td := Nat.mul_le_mul_right td h
        rw [Nat.add_mul] at this
        omega
      have k2 : mid ≤ mid2 + 1 := by
        refine Nat.not_lt.1 fun h => ?_
        have : (mid2 + 1 + 1) * td ≤ mid * td := Nat.mul_le_mul_right td h
        rw [Nat.add_mul, Nat.add_mul] at this
        omega
      have k3 : ¬ mid < mid2 := by omega
      simp only [if_neg k3]
      rw [if_neg (by omega), Nat.mul_div_cancel _ hS]
      refine (unr_at (Nat.mul_pos (Nat.mul_pos hS (by omega)) htd) ?_).symm
      rw [eq1]; exact hg
    · have k1 : mid2 + 2 ≤ mid := by
        refine Nat.not_lt.1 fun h => ?_
        have : mid * td ≤ (mid2 + 1) * td := Nat.mul_le_mul_right td (by omega)
        rw [Nat.add_mul] at this
        omega
      have k3 : ¬ mid < mid2 := by omega
      simp only [if_neg k3]
      rw [if_pos (by omega), Nat.mul_div_cancel _ hS]
      refine (unr_in ?_ ?_).symm
      · rw [eq1]; omega
      · rw [eq2]; omega
    · have k1 : mid + 2 ≤ mid2 := by
        refine Nat.not_lt.1 fun h => ?_
        have : mid2 * td ≤ (mid + 1) * td := Nat.mul_le_mul_right td (by omega)
        rw [Nat.add_mul] at this
        omega
      have hq : 1 ≤ q := by
        refine Nat.pos_of_ne_zero fun h => ?_
        subst h
        simp only [Nat.zero_mul, Nat.mul_zero] at hg
        omega
      obtain ⟨q, rfl⟩ : ∃ r, q = r + 1 := ⟨q - 1, by omega⟩
      have hd : ((q + 1) * S - 1) / S = q := by
        refine Nat.div_eq_of_lt_le ?_ ?_ <;> rw [Nat.add_mul] <;> omega
      have k3 : mid < mid2 := by omega
      simp only [if_pos k3]
      rw [if_pos (by omega), hd]
      refine (unr_in ?_ ?_).symm
      · have : q * (S * 2 ^ 128 * td) + 2 ^ 128 * (S * td) = 2 ^ 128 * ((q + 1) * S * td) := by grind
        omega
      · rw [eq1]; omega
  · rw [if_pos hr]
    obtain ⟨q, r, rfl, hr1, hr2⟩ : ∃ q r, hi = q * S + r ∧ 0 < r ∧ r < S := ⟨hi / S, hi % S, by have := Nat.div_add_mod hi S; rw [Nat.mul_comm] at this; omega, by omega, Nat.mod_lt _ hS⟩
    have hd : (q * S + r) / S = q := by
      refine Nat.div_eq_of_lt_le (by omega) ?_
      rw [Nat.add_mul]; omega
    rw [hd]
    have eq1 : q * (S * 2 ^ 128 * td) = 2 ^ 128 * (q * S * td) := by grind
    have eq2 : (q + 1) * (S * 2 ^ 128 * td) = 2 ^ 128 * (q * S * td) + 2 ^ 128 * (S * td) := by grind
    have eq3 : (q * S + r) * td = q * S * td + r * td := Nat.add_mul ..
    have e4 : 1 * td ≤ r * td := Nat.mul_le_mul_right td hr1
    have e5 : (r + 1) * td ≤ S * td := Nat.mul_le_mul_right td hr2
    rw [Nat.add_mul] at e5
    rw [eq3] at hdl1
    refine (unr_in ?_ ?_).symm
    · rw [eq1]; omega
    · rw [eq2]; omega

end Go.Proofs.YtiopeaponffmdaaDoor.Fm
-- YtiopeaponffmdaaDoorMc
namespace Go.Proofs.YtiopeaponffmdaaDoor.Fm

/-- in an interval, its ends counted where 'ev' -/
def Inn (Bm Bp : Nat) (ev : Bool) (w : Nat) : Prop := (Bm < w ∨ (ev = true ∧ Bm = w)) ∧ (w < Bp ∨ (ev = true ∧ w = Bp))
instance (Bm Bp : Nat) (ev : Bool) (w : Nat) : Decidable (Inn Bm Bp ev w) := by unfold Inn; infer_instance

/-- between x and x + 1 units the second one is taken -/
def Closer (V u x : Nat) : Prop := (2 * x + 1) * u < 2 * V ∨ ((2 * x + 1) * u = 2 * V ∧ x % 2 = 1)
instance (V u x : Nat) : Decidable (Closer V u x) := by unfold Closer; infer_instance

/-- the reference's step on a grid of unit u -/
def refStep (V Bm Bp : Nat) (ev : Bool) (u : Nat) : Option Nat :=
  let x := V / u
  if Inn Bm Bp ev (x * u) ∨ Inn Bm Bp ev ((x + 1) * u) then
    some (if Inn Bm Bp ev ((x + 1) * u) ∧ (¬ Inn Bm Bp ev (x * u) ∨ Closer V u x) then x + 1 else x)
  else none

/-- rounding to the nearest, between two to the even one -/
def rne (V u : Nat) : Nat := if Closer V u (V / u) then V / u + 1 else V / u

theorem exists_first {p : Nat → Prop} (a : Nat) : ∀ n, a ≤ n → p n → ∃ k, a ≤ k ∧ k ≤ n ∧ p k ∧ ∀ j, a ≤ j → j < k → ¬ p j := by
  intro n
  induction n using Nat.strongRecOn with
  | ind n ih =>
    intro ha hn
    by_cases h : ∃ m, a ≤ m ∧ m < n ∧ p m
    · obtain ⟨m, h1, h2, h3⟩ := h
      obtain ⟨k, k1, k2, k3, k4⟩ := ih m h2 h1 h3
      exact ⟨k, k1, by omega, k3, k4⟩
    · exact ⟨n, ha, Nat.le_refl _, hn, fun j j1 j2 j3 => h ⟨j, j1, j2, j3⟩⟩

theorem refStep_some {V Bm Bp : Nat} {ev : Bool} {u x : Nat} (h : refStep V Bm Bp ev u = some x) : Inn Bm Bp ev (x * u) := by
  unfold refStep at h
  dsimp only at h
  split at h
  · rename_i h1
    simp only [Option.some.injEq] at h
    split at h
    · rename_i h2; subst h; exact h2.1
    · rename_i h2; subst h
      rcases h1 with h1 | h1
      · exact h1
      · by_cases h3 : Inn Bm Bp ev (V / u * u)
        · exact h3
        · exact absurd ⟨h1, .inl h3⟩ h2
  · cases h

theorem refStep_isSome {V Bm Bp : Nat} {ev : Bool} {u : Nat} (h : Inn Bm Bp ev (V / u * u) ∨ Inn Bm Bp ev ((V / u + 1) * u)) : ∃ x, refStep V Bm Bp ev u = some x := by
  unfold refStep
  simp only [if_pos h]
  exact ⟨_, rfl⟩

/-- two within an interval, less than a unit wide, that are whole numbers of units are one -/
theorem inn_unique {Bm Bp : Nat} {ev : Bool} {u a b : Nat} (hw : Bp < Bm + u) (ha : Inn Bm Bp ev (a * u)) (hb : Inn Bm Bp ev (b * u)) : a = b := by
  have key : ∀ a b : Nat, Inn Bm Bp ev (a * u) → Inn Bm Bp ev (b * u) → ¬ a < b := by
    intro a b ha hb h
    have : (a + 1) * u ≤ b * u := Nat.mul_le_mul_right u h
    rw [Nat.add_mul] at this
    have h1 := ha.1
    have h2 := hb.2
    omega
  have h1 := key a b ha hb
  have h2 := key b a hb ha
  omega

theorem unit_mul (U : Nat → Nat) (hU : ∀ k, k < 17 → U k = 10 * U (k + 1)) (j : Nat) : ∀ m, j + m ≤ 17 → U j = 10 ^ m * U (j + m) := by
  intro m
  induction m with
  | zero => intro _; simp
  | succ m ih =>
    intro h
    rw [ih (by omega), hU (j + m) (by omega), Nat.pow_succ, Nat.mul_assoc]
    rfl

section
variable {V Bm Bp : Nat} {ev : Bool} {U : Nat → Nat} (hU : ∀ k, k < 17 → U k = 10 * U (k + 1)) {kk : Nat} (hk2 : kk ≤ 17)
include hU hk2

/-- a number of fewer digits lies within: the reference finds it -/
theorem find_short (hpos : 0 < U kk) (hBm : Bm < V) (hBp : V < Bp) (hw2 : Bp < Bm + 10 * U kk) (hkk : 2 ≤ kk) {d : Nat} (hd : Inn Bm Bp ev (d * U (kk - 1))) :
    ∃ k x, 1 ≤ k ∧ k < kk ∧ (∀ j, 1 ≤ j → j < k → refStep V Bm Bp ev (U j) = none) ∧ refStep V Bm Bp ev (U k) = some x ∧ x * U k = d * U (kk - 1) := by
  have e1 : U (kk - 1) = 10 * U kk := by
    have := hU (kk - 1) (by omega)
    rwa [show kk - 1 + 1 = kk by omega] at this
  have hu1 : 0 < U (kk - 1) := by omega
  have hw : Bp < Bm + U (kk - 1) := by omega
  -- on the grid itself
  have hhere : ∃ x, refStep V Bm Bp ev (U (kk - 1)) = some x := by
    refine refStep_isSome ?_
    generalize U (kk - 1) = u at *
    have q1 := Nat.div_add_mod V u
    have q2 := Nat.mod_lt V hu1
    rw [Nat.mul_comm] at q1
    generalize V / u = x at *
    by_cases hx : d ≤ x
    · left
      by_cases h : d = x
      · rw [← h]; exact hd
      · have h3 : (d + 1) * u ≤ x * u := Nat.mul_le_mul_right u (by omega)
        rw [Nat.add_mul] at h3
        have := hd.1
        refine ⟨.inl (by omega), .inl (by omega)⟩
    · right
      by_cases h : d = x + 1
      · rw [← h]; exact hd
      · have h3 : (x + 1 + 1) * u ≤ d * u := Nat.mul_le_mul_right u (by omega)
        rw [Nat.add_mul] at h3
        have h4 : (x + 1) * u = x * u + u := by rw [Nat.add_mul]; omega
        have := hd.2
        refine ⟨.inl (by omega), .inl (by omega)⟩
  obtain ⟨k, k1, k2, k3, k4⟩ := exists_first (p := fun k => ∃ x, refStep V Bm Bp ev (U k) = some x) 1 (kk - 1) (by omega) hhere
  obtain ⟨x, hx⟩ := k3
  refine ⟨k, x, k1, by omega, ?_, hx, ?_⟩
  · intro j j1 j2
    cases h : refStep V Bm Bp ev (U j) with
    | none => rfl
    | some y => exact absurd ⟨y, h⟩ (k4 j j1 j2)
  · have hin := refStep_some hx
    have hm := unit_mul U hU k (kk - 1 - k) (by omega)
    rw [show k + (kk - 1 - k) = kk - 1 by omega] at hm
    rw [hm, ← Nat.mul_assoc] at hin ⊢
    rw [inn_unique hw hin hd]

/-- none lies within: the reference comes to this grid -/
theorem find_long (hno : 2 ≤ kk → ∀ d, ¬ Inn Bm Bp ev (d * U (kk - 1))) :
    ∀ j, 1 ≤ j → j < kk → refStep V Bm Bp ev (U j) = none := by
  intro j j1 j2
  cases h : refStep V Bm Bp ev (U j) with
  | none => rfl
  | some y =>
    have hin := refStep_some h
    have hm := unit_mul U hU j (kk - 1 - j) (by omega)
    rw [show j + (kk - 1 - j) = kk - 1 by omega] at hm
    rw [hm, ← Nat.mul_assoc] at hin
    exact absurd hin (hno (by omega) _)
end

/-- on the grid itself: the nearest one, or the only one -/
theorem here {V Bm Bp : Nat} {ev : Bool} {u dmin dmax : Nat} (hu : 0 < u) (hBm : Bm < V) (hBp : V < Bp)
    (hmin : ∀ d, dmin ≤ d ↔ (Bm < d * u ∨ (ev = true ∧ Bm = d * u))) (hmax : ∀ d, d ≤ dmax ↔ (d * u < Bp ∨ (ev = true ∧ d * u = Bp)))
    (hsym : Bp - V ≤ 2 * (V - Bm)) (hsym2 : V - Bm ≤ Bp - V)
    (hwide : Bm + u < Bp ∨ (Bm + u = Bp ∧ V % u = 0) ∨ (Bm + u ≤ Bp ∧ ev = true)) :
    refStep V Bm Bp ev u = some (if dmin < dmax then rne V u else dmin) ∧ Inn Bm Bp ev ((if dmin < dmax then rne V u else dmin) * u) := by
  have hin : ∀ d, Inn Bm Bp ev (d * u) ↔ dmin ≤ d ∧ d ≤ dmax := fun d => by rw [hmin, hmax]; rfl
  have main : refStep V Bm Bp ev u = some (if dmin < dmax then rne V u else dmin) := by
    unfold refStep rne
    simp only [hin]
    have q1 := Nat.div_add_mod V u
    have q2 := Nat.mod_lt V hu
    rw [Nat.mul_comm] at q1
    generalize V / u = x at *
    have s1 : (x + 1) * u = x * u + u := by rw [Nat.add_mul]; omega
    have a1 : dmin ≤ x + 1 := (hmin _).2 (.inl (by omega))
    have a2 : x ≤ dmax := (hmax _).2 (.inl (by omega))
    have a3 : dmin ≤ dmax := by
      refine Nat.not_lt.1 fun h => ?_
      have b1 : ¬ dmin ≤ x := by omega
      have b2 : ¬ x + 1 ≤ dmax := by omega
      rw [hmin] at b1
      rw [hmax, s1] at b2
      cases ev <;> simp at b1 b2 hwide <;> omega
    by_cases hlt : dmin < dmax
    · rw [if_pos (by omega), if_pos hlt]
      by_cases hc : Closer V u x
      · have c1 : x + 1 ≤ dmax := by
          refine Nat.not_lt.1 fun h => ?_
          have : dmin ≤ x - 1 := by omega
          rw [hmin] at this
          have hx : 1 ≤ x := by omega
          have s0 : (x - 1) * u + u = x * u := by
            obtain ⟨y, rfl⟩ : ∃ y, x = y + 1 := ⟨x - 1, by omega⟩
            rw [Nat.add_mul]; simp
          have hn : ¬ x + 1 ≤ dmax := by omega
          rw [hmax, s1] at hn
          have s2 : (2 * x + 1) * u = 2 * (x * u) + u := by grind
          unfold Closer at hc
          rw [s2] at hc
          omega
        simp only [hc, or_true, and_true]
        rw [if_pos ⟨a1, c1⟩]; simp
      · have c1 : dmin ≤ x := by
          refine Nat.not_lt.1 fun h => ?_
          have h2 : x + 2 ≤ dmax := by omega
          rw [hmax] at h2
          have hn : ¬ dmin ≤ x := by omega
          rw [hmin] at hn
          have s2 : (2 * x + 1) * u = 2 * (x * u) + u := by grind
          have s3 : (x + 2) * u = x * u + 2 * u := by grind
          unfold Closer at hc
          rw [s2] at hc
          rw [s3] at h2
          omega
        have : ¬ ((dmin ≤ x + 1 ∧ x + 1 ≤ dmax) ∧ (¬ (dmin ≤ x ∧ x ≤ dmax) ∨ Closer V u x)) := by
          rintro ⟨_, h | h⟩
          · exact h ⟨c1, a2⟩
          · exact hc h
        rw [if_neg this, if_neg hc]
    · have hd : dmin = dmax := by omega
      rw [if_pos (by omega), if_neg hlt]
      by_cases h : dmin = x
      · rw [if_neg (by omega)]; rw [h]
      · rw [if_pos (by omega)]; congr 1; omega
  exact ⟨main, refStep_some main⟩

theorem unr_cases (n m : Nat) (hm : 0 < m) : ∃ q r, n = q * m + r ∧ r < m ∧ ((r = 0 ∧ unr n m = q) ∨ (0 < r ∧ unr n m = q / 2 * 2 + 1)) := by
  refine ⟨n / m, n % m, by rw [Nat.mul_comm]; exact (Nat.div_add_mod n m).symm, Nat.mod_lt _ hm, ?_⟩
  unfold unr
  by_cases h : n % m = 0
  · left; exact ⟨h, if_pos h⟩
  · right; exact ⟨by omega, if_neg h⟩

/-- the same ratio -/
theorem unr_ratio {a b c d : Nat} (hb : 0 < b) (hd : 0 < d) (h : a * d = c * b) : unr a b = unr c d := by
  obtain ⟨q, r, h1, h2, h3⟩ := unr_cases a b hb
  obtain ⟨q', r', h1', h2', h3'⟩ := unr_cases c d hd
  have e1 : a * d = q * (b * d) + r * d := by rw [h1]; grind
  have e2 : c * b = q' * (b * d) + r' * b := by rw [h1']; grind
  have f1 : r * d < b * d := Nat.mul_lt_mul_of_pos_right h2 hd
  have f2 : r' * b < b * d := by rw [Nat.mul_comm b d]; exact Nat.mul_lt_mul_of_pos_right h2' hb
  have hq : q = q' := by
    have key : ∀ x y : Nat, x < y → x * (b * d) + b * d ≤ y * (b * d) := fun x y h => by
      have := Nat.mul_le_mul_right (b * d) h
      rwa [Nat.succ_mul] at this
    rcases Nat.lt_trichotomy q q' with h4 | h4 | h4
    · have := key _ _ h4; omega
    · exact h4
    · have := key _ _ h4; omega
  subst hq
  have hr : r * d = r' * b := by omega
  have hz : r = 0 ↔ r' = 0 := by
    constructor
    · intro h0; subst h0
      rw [Nat.zero_mul] at hr
      rcases Nat.mul_eq_zero.1 hr.symm with h | h <;> omega
    · intro h0; subst h0
      rw [Nat.zero_mul] at hr
      rcases Nat.mul_eq_zero.1 hr with h | h <;> omega
  omega

theorem le_mul_iff {m d q r : Nat} (hr : r < m) : (q * m + r < d * m ↔ q < d) := by
  constructor
  · intro h
    refine Nat.not_le.1 fun h2 => ?_
    have := Nat.mul_le_mul_right m h2
    omega
  · intro h
    have := Nat.mul_le_mul_right m h
    rw [Nat.succ_mul] at this
    omega

theorem unr_ceil {n m : Nat} (hm : 0 < m) (ev : Bool) (d : Nat) :
    (unr (4 * n) m + (if ev then 0 else 1) + 3) / 4 ≤ d ↔ (n < d * m ∨ (ev = true ∧ n = d * m)) := by
  obtain ⟨q, r, h1, h2, h3⟩ := unr_cases (4 * n) m hm
  have k1 := le_mul_iff (d := 4 * d) (q := q) h2
  have e1 : 4 * d * m = 4 * (d * m) := Nat.mul_assoc ..
  rw [← h1, e1] at k1
  have k2 : r = 0 → (4 * n = 4 * (d * m) ↔ q = 4 * d) := by
    intro h0; subst h0
    rw [h1, ← e1]
    exact ⟨fun h => Nat.eq_of_mul_eq_mul_right hm (by simpa using h), fun h => by rw [h]; simp⟩
  have k3 : 0 < r → 4 * n ≠ 4 * (d * m) := by
    intro h0 h
    rw [h1, ← e1] at h
    have a1 : ¬ q < 4 * d := fun h5 => by
      have := Nat.mul_le_mul_right m h5
      rw [Nat.succ_mul] at this; omega
    have a2 := Nat.mul_le_mul_right m (Nat.not_lt.1 a1)
    omega
  have g : (n < d * m ∨ (ev = true ∧ n = d * m)) ↔ (4 * n < 4 * (d * m) ∨ (ev = true ∧ 4 * n = 4 * (d * m))) := by cases ev <;> simp <;> omega
  rw [g, k1]
  rcases h3 with ⟨h0, h3⟩ | ⟨h0, h3⟩
  · rw [k2 h0, h3]
    cases ev <;> simp <;> omega
  · have := k3 h0
    rw [h3]
    cases ev <;> simp [this] <;> omega

theorem unr_floor {n m : Nat} (hm : 0 < m) (ev : Bool) (d : Nat) (hn : 0 < n) :
    d ≤ (unr (4 * n) m - (if ev then 0 else 1)) / 4 ↔ (d * m < n ∨ (ev = true ∧ d * m = n)) := by
  obtain ⟨q, r, h1, h2, h3⟩ := unr_cases (4 * n) m hm
  have k1 := le_mul_iff (d := 4 * d) (q := q) h2
  have e1 : 4 * d * m = 4 * (d * m) := Nat.mul_assoc ..
  rw [← h1, e1] at k1
  have k2 : r = 0 → (4 * n = 4 * (d * m) ↔ q = 4 * d) := by
    intro h0; subst h0
    rw [h1, ← e1]
    exact ⟨fun h => Nat.eq_of_mul_eq_mul_right hm (by simpa using h), fun h => by rw [h]; simp⟩
  have k3 : 0 < r → 4 * n ≠ 4 * (d * m) := by
    intro h0 h
    rw [h1, ← e1] at h
    have a1 : ¬ q < 4 * d := fun h5 => by
      have := Nat.mul_le_mul_right m h5
      rw [Nat.succ_mul] at this; omega
    have a2 := Nat.mul_le_mul_right m (Nat.not_lt.1 a1)
    omega
  have g : (d * m < n ∨ (ev = true ∧ d * m = n)) ↔ ((¬ 4 * n < 4 * (d * m) ∧ 4 * n ≠ 4 * (d * m)) ∨ (ev = true ∧ 4 * n = 4 * (d * m))) := by cases ev <;> simp <;> omega
  rw [g, k1]
  rcases h3 with ⟨h0, h3⟩ | ⟨h0, h3⟩
  · have hq : 0 < q := by
      refine Nat.pos_of_ne_zero fun h => ?_
      subst h; rw [h0] at h1; omega
    have k2 := k2 h0
    rw [h3]
    cases ev <;> simp <;> omega
  · have := k3 h0
    rw [h3]
    cases ev <;> simp [this] <;> omega

theorem unr_round {n m : Nat} (hm : 0 < m) : (unr (4 * n) m + 1 + unr (4 * n) m / 4 % 2) / 4 = rne n m := by
  obtain ⟨q, r, h1, h2, h3⟩ := unr_cases (4 * n) m hm
  -- n / m = q / 4
  have hx : n / m = q / 4 := by
    refine Nat.div_eq_of_lt_le ?_ ?_
    · have := Nat.mul_le_mul_right m (Nat.div_mul_le_self q 4)
      have e : q / 4 * 4 * m = 4 * (q / 4 * m) := by grind
      omega
    · have : (q + 1) * m ≤ (q / 4 + 1) * 4 * m := Nat.mul_le_mul_right m (by omega)
      have e : (q / 4 + 1) * 4 * m = 4 * ((q / 4 + 1) * m) := by grind
      rw [Nat.add_mul] at this
      omega
  unfold rne
  rw [hx]
  have k1 := le_mul_iff (d := 4 * (q / 4) + 2) (q := q) h2
  rw [← h1] at k1
  have e1 : (4 * (q / 4) + 2) * m = 2 * ((2 * (q / 4) + 1) * m) := by grind
  rw [e1] at k1
  have k2 : r = 0 → (4 * n = 2 * ((2 * (q / 4) + 1) * m) ↔ q = 4 * (q / 4) + 2) := by
    intro h0; subst h0
    rw [h1, ← e1]
    exact ⟨fun h => Nat.eq_of_mul_eq_mul_right hm (by simpa using h), fun h => by rw [← h]; simp⟩
  have k3 : 0 < r → 4 * n ≠ 2 * ((2 * (q / 4) + 1) * m) := by
    intro h0 h
    rw [h1, ← e1] at h
    have a1 : ¬ q < 4 * (q / 4) + 2 := fun h5 => by
      have := Nat.mul_le_mul_right m h5
      rw [Nat.succ_mul] at this; omega
    have a2 := Nat.mul_le_mul_right m (Nat.not_lt.1 a1)
    omega
  rcases h3 with ⟨h0, h3⟩ | ⟨h0, h3⟩
  · have k2 := k2 h0
    rw [h3]
    by_cases hc : Closer n m (q / 4)
    · rw [if_pos hc]; unfold Closer at hc; omega
    · rw [if_neg hc]; unfold Closer at hc; omega
  · have k3 := k3 h0
    rw [h3]
    by_cases hc : Closer n m (q / 4)
    · rw [if_pos hc]; unfold Closer at hc; omega
    · rw [if_neg hc]; unfold Closer at hc; omega
end Go.Proofs.YtiopeaponffmdaaDoor.Fm
