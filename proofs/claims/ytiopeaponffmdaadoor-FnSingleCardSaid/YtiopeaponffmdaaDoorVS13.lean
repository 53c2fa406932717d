/- The texts of a proof, its declarations alone: part 13. -/
import Derived.Test.YtiopeaponffmdaaDoorVS1
import Derived.Test.YtiopeaponffmdaaDoorVS12
set_option linter.unusedVariables false
set_option linter.unusedSimpArgs false
-- YtiopeaponffmdaaDoorMg
namespace Go.Proofs.YtiopeaponffmdaaDoor.PAll
open Go.RowKit Go.Proofs.YtiopeaponffmdaaDoorW.PrintWords Go.Proofs.YtiopeaponffmdaaDoorW.PrintLast Go.Proofs.YtiopeaponffmdaaDoorW.PrintMore
open Fm

/-- the grid of tenths: 10^(n-k), in units of 2^-(least+1) 10^-a -/
def Ug (f : Nat) (n : Int) (a k : Nat) : Nat := 2 ^ (lst f + 1) * 10 ^ (n - (k : Int) + (a : Int)).toNat

theorem Ug_pos (f : Nat) (n : Int) (a k : Nat) : 0 < Ug f n a k := Nat.mul_pos (Nat.two_pow_pos _) (Nat.pow_pos (by decide))
theorem Ug_succ (f : Nat) (n : Int) (a k : Nat) (h : 0 ≤ n - (k : Int) - 1 + (a : Int)) : Ug f n a k = 10 * Ug f n a (k + 1) := by
  unfold Ug
  rw [show (n - (k : Int) + (a : Int)).toNat = (n - ((k + 1 : Nat) : Int) + (a : Int)).toNat + 1 by omega, Nat.pow_succ]
  grind

theorem agn_scale (f D : Nat) (i : Int) (H a : Nat) (h : 0 ≤ i + (a : Int)) : agn f D i H = cmp (D * (2 ^ (lst f + 1) * 10 ^ (i + (a : Int)).toNat)) (H * 10 ^ a) := by
  unfold agn
  rw [← cmp_mul _ _ (10 ^ (a - (-i).toNat)) (Nat.pow_pos (by decide))]
  have e1 : (i + (a : Int)).toNat = i.toNat + (a - (-i).toNat) := by omega
  have e2 : H * 10 ^ (-i).toNat * 10 ^ (a - (-i).toNat) = H * 10 ^ a := by
    rw [Nat.mul_assoc, ← Nat.pow_add]
    congr 2
    omega
  rw [e1, e2, Nat.pow_add]
  congr 1
  grind

theorem two_ten (L e : Nat) (hL : L ≤ 1074) (he : 324 ≤ e) : 2 ^ L ≤ 10 ^ e := by
  obtain ⟨m, hm⟩ : ∃ m, m = 11 := ⟨_, rfl⟩
  calc 2 ^ L ≤ 2 ^ (93 * m + 51) := Nat.pow_le_pow_right (by decide) (by omega)
    _ = (2 ^ 93) ^ m * 2 ^ 51 := by rw [Nat.pow_add, Nat.pow_mul]
    _ ≤ (10 ^ 28) ^ m * 10 ^ 16 := Nat.mul_le_mul (Nat.pow_le_pow_left (by decide) m) (by decide)
    _ = 10 ^ (28 * m + 16) := by rw [Nat.pow_add, Nat.pow_mul]
    _ ≤ 10 ^ e := Nat.pow_le_pow_right (by decide) (by omega)
/-- a number's place among the powers of ten -/
theorem ref_ready (f c : Nat) (most : Int) (a : Nat) (ha : 400 ≤ a) (hf : f = 52 ∨ f = 23) (hc0 : 1 ≤ c) (hc1 : c < 18446744073709550000) (hc2 : (c + 1) / 2 ^ f ≤ 2100)
    (hT0 : 1 ≤ T2 f c) (e311 : Nat) (he311 : e311 = 311) (hT1 : T2 f c < 2 ^ lst f * 10 ^ e311) :
    ∃ n : Int, -329 ≤ n ∧ n ≤ 311 ∧ Ug f n a 1 ≤ T2 f c * 2 ^ 1 * 10 ^ a ∧ T2 f c * 2 ^ 1 * 10 ^ a < Ug f n a 0 ∧
      ∀ kk x : Nat, 1 ≤ kk → kk ≤ 17 →
        (∀ j, 1 ≤ j → j < kk → refStep (T2 f c * 2 ^ 1 * 10 ^ a) ((T2 f (c - 1) + T2 f c) * 10 ^ a) ((T2 f c + T2 f (c + 1)) * 10 ^ a) (decide (c % 2 = 0)) (Ug f n a j) = none) →
        refStep (T2 f c * 2 ^ 1 * 10 ^ a) ((T2 f (c - 1) + T2 f c) * 10 ^ a) ((T2 f c + T2 f (c + 1)) * 10 ^ a) (decide (c % 2 = 0)) (Ug f n a kk) = some x →
        Ev (fun k => spec_Form_Shortest.f k (f : Int) most (c : Int)) (strOfNums (dec (cutz x)), n + ((dec x).length : Int) - (kk : Int)) := by
  have q1 : c / 2 ^ f ≤ 2100 := Nat.le_trans (Nat.div_le_div_right (by omega)) hc2
  obtain ⟨r, r1, r2, r3, r4, r5⟩ := top_ev f c most hf (by omega) q1
  obtain ⟨V, hV⟩ : ∃ V, V = T2 f c * 2 ^ 1 * 10 ^ a := ⟨_, rfl⟩
  have hL := lst_le f
  -- the bounds of V
  have b1 : Ug f (r + 1) a 1 ≤ V := by
    have g := agn_scale f 1 r (T2 f c * 2 ^ 1) a (by omega)
    rw [Nat.one_mul, ← hV] at g
    have eU : Ug f (r + 1) a 1 = 2 ^ (lst f + 1) * 10 ^ (r + (a : Int)).toNat := by
      unfold Ug; rw [show r + 1 - ((1 : Nat) : Int) + (a : Int) = r + (a : Int) by omega]
    rw [eU]
    rcases r3 with rfl | r3
    · obtain ⟨e, he⟩ : ∃ e, e = 330 := ⟨_, rfl⟩
      obtain ⟨i, hi⟩ : ∃ i, i = (-330 + (a : Int)).toNat := ⟨_, rfl⟩
      have ei : e + i = a := by omega
      have k1 := two_ten (lst f) e hL (by omega)
      have k2 : (2 : Nat) ^ (lst f + 1) = 2 ^ lst f * 2 := Nat.pow_succ ..
      rw [hV, ← hi, k2]
      calc 2 ^ lst f * 2 * 10 ^ i ≤ 10 ^ e * 2 * 10 ^ i := Nat.mul_le_mul_right _ (Nat.mul_le_mul_right _ k1)
        _ = 1 * 2 ^ 1 * 10 ^ (e + i) := by rw [Nat.pow_add]; grind
        _ = 1 * 2 ^ 1 * 10 ^ a := by rw [ei]
        _ ≤ T2 f c * 2 ^ 1 * 10 ^ a := Nat.mul_le_mul_right _ (Nat.mul_le_mul_right _ hT0)
    · rw [g, cmp_le_zero] at r3
      exact r3
  have b2 : V < Ug f (r + 1) a 0 := by
    have g := agn_scale f 1 (r + 1) (T2 f c * 2 ^ 1) a (by omega)
    rw [Nat.one_mul, ← hV] at g
    have eU : Ug f (r + 1) a 0 = 2 ^ (lst f + 1) * 10 ^ (r + 1 + (a : Int)).toNat := by
      unfold Ug; rw [show r + 1 - ((0 : Nat) : Int) + (a : Int) = r + 1 + (a : Int) by omega]
    rw [eU]
    rcases r4 with rfl | r4
    · have ei : ((310 : Int) + 1 + (a : Int)).toNat = e311 + a := by omega
      have k2 : (2 : Nat) ^ (lst f + 1) = 2 ^ lst f * 2 := Nat.pow_succ ..
      rw [hV, ei, k2, Nat.pow_add]
      have k3 : T2 f c * (2 * 10 ^ a) < 2 ^ lst f * 10 ^ e311 * (2 * 10 ^ a) := Nat.mul_lt_mul_of_pos_right hT1 (Nat.mul_pos (by decide) (Nat.pow_pos (by decide)))
      calc T2 f c * 2 ^ 1 * 10 ^ a = T2 f c * (2 * 10 ^ a) := by rw [Nat.pow_one, Nat.mul_assoc]
        _ < 2 ^ lst f * 10 ^ e311 * (2 * 10 ^ a) := k3
        _ = 2 ^ lst f * 2 * (10 ^ e311 * 10 ^ a) := by generalize 10 ^ e311 = X; generalize 10 ^ a = Y; generalize 2 ^ lst f = Z; grind
    · rw [g, cmp_le_zero] at r4
      omega
  -- all digits
  obtain ⟨q, s1, s2, s3, s4⟩ := below_ev f c most (r + 1 - 17) hf (by omega) q1 (by omega) (by omega)
  have hU : ∀ k : Nat, k < 17 → Ug f (r + 1) a k = 10 * Ug f (r + 1) a (k + 1) := fun k hk => Ug_succ f (r + 1) a k (by omega)
  have hg : ∀ D, agn f D (r + 1 - 17) (T2 f c * 2 ^ 1) = cmp (D * Ug f (r + 1) a 17) V := fun D => by
    rw [agn_scale f D (r + 1 - 17) (T2 f c * 2 ^ 1) a (by omega), ← hV]
    rfl
  have c1 : q * Ug f (r + 1) a 17 ≤ V := by
    rcases s2 with rfl | s2
    · omega
    · rw [hg, cmp_le_zero] at s2; exact s2
  have U0 := unit_mul (Ug f (r + 1) a) hU 0 17 (by omega)
  rw [Nat.zero_add] at U0
  have c2 : V < (q + 1) * Ug f (r + 1) a 17 := by
    rcases s3 with rfl | s3
    · have e : 99999999999999999 + 1 = 10 ^ 17 := by decide
      rw [e, ← U0]; exact b2
    · rw [hg, cmp_le_zero] at s3; omega
  have hdiv : V / Ug f (r + 1) a 17 = q := Nat.div_eq_of_lt_le c1 c2
  have hx : ∀ k, 1 ≤ k → k ≤ 17 → V / Ug f (r + 1) a k = q / 10 ^ (17 - k) := by
    intro k k1 k2
    have := unit_mul (Ug f (r + 1) a) hU k (17 - k) (by omega)
    rw [show k + (17 - k) = 17 by omega] at this
    rw [this, Nat.mul_comm, ← Nat.div_div_eq_div_mul, hdiv]
  refine ⟨r + 1, by omega, by omega, by rw [← hV]; exact b1, by rw [← hV]; exact b2, fun kk x k1 k2 hnone hsome => ?_⟩
  rw [← hV] at hnone hsome
  have hr : ∀ k D : Nat, 1 ≤ k → k ≤ 17 → readsB f c D (r + 1 - (k : Int)) = decide (Inn ((T2 f (c - 1) + T2 f c) * 10 ^ a) ((T2 f c + T2 f (c + 1)) * 10 ^ a) (decide (c % 2 = 0)) (D * Ug f (r + 1) a k)) := by
    intro k D k1 k2
    unfold readsB
    rw [decide_eq_decide, agn_scale f D (r + 1 - (k : Int)) _ a (by omega), agn_scale f D (r + 1 - (k : Int)) _ a (by omega)]
    have eU : D * (2 ^ (lst f + 1) * 10 ^ (r + 1 - (k : Int) + (a : Int)).toNat) = D * Ug f (r + 1) a k := rfl
    rw [eU]
    unfold Inn
    generalize D * Ug f (r + 1) a k = w
    generalize (T2 f (c - 1) + T2 f c) * 10 ^ a = lo
    generalize (T2 f c + T2 f (c + 1)) * 10 ^ a = hi
    have z1 := cmp_le_zero w lo
    have z2 := cmp_zero w lo
    have z3 := cmp_neg w hi
    have z4 := cmp_zero w hi
    rw [decide_eq_true_eq]
    generalize cmp w lo = x1 at *
    generalize cmp w hi = x2 at *
    omega
  have hcl : ∀ k x : Nat, 1 ≤ k → k ≤ 17 → decide (agn f (2 * x + 1) (r + 1 - (k : Int)) (T2 f c * 2 ^ 2) < 0 ∨ (agn f (2 * x + 1) (r + 1 - (k : Int)) (T2 f c * 2 ^ 2) = 0 ∧ x % 2 = 1)) = decide (Closer V (Ug f (r + 1) a k) x) := by
    intro k x k1 k2
    rw [agn_scale f (2 * x + 1) (r + 1 - (k : Int)) _ a (by omega), decide_eq_decide, cmp_neg, cmp_zero]
    unfold Closer
    show ((2 * x + 1) * Ug f (r + 1) a k < _ ∨ (2 * x + 1) * Ug f (r + 1) a k = _ ∧ _) ↔ _
    have e : T2 f c * 2 ^ 2 * 10 ^ a = 2 * V := by
      rw [hV]
      generalize 10 ^ a = Y
      generalize T2 f c = X
      grind
    rw [e]
  have hloop := shortest_loop f c q most (r + 1) hf hc0 (by omega) hc2 (by omega) (by omega) (by omega) V _ _ _ _ hx hr hcl kk x k1 k2 hnone hsome
  refine Ev.congr (Ev.bind (h := fun k t => (spec_Form_below.f k (f : Int) most (c : Int) (wrap64 (t - 17))).bind fun t442 => spec_Form_Shortest.l0 k (c : Int) t t442 10000000000000000 1 (f : Int) most) r5 ?_) (fun k => rfl)
  rw [w64 (r + 1 - 17) (by omega) (by omega)]
  exact Ev.bind s4 hloop

/-- the same number in two ways -/
theorem cutz_mul (x : Nat) (hx : 0 < x) : ∀ i, cutz (x * 10 ^ i) = cutz x ∧ (dec (x * 10 ^ i)).length = (dec x).length + i := by
  intro i
  induction i with
  | zero => rw [Nat.pow_zero, Nat.mul_one]; exact ⟨rfl, rfl⟩
  | succ i ih =>
    have hp : 0 < x * 10 ^ i := Nat.mul_pos hx (Nat.pow_pos (by decide))
    have e : x * 10 ^ (i + 1) = x * 10 ^ i * 10 := by rw [Nat.pow_succ, Nat.mul_assoc]
    rw [e]
    generalize x * 10 ^ i = y at *
    rw [cutz_pos (by omega) (by omega), dec_ge (by omega), Nat.mul_div_cancel _ (by decide)]
    refine ⟨ih.1, ?_⟩
    rw [List.length_append, ih.2]
    simp only [List.length_cons, List.length_nil]
    omega
theorem cutz_same {x y i j : Nat} (hx : 0 < x) (hy : 0 < y) (h : x * 10 ^ i = y * 10 ^ j) : cutz x = cutz y ∧ (dec x).length + i = (dec y).length + j := by
  have h1 := cutz_mul x hx i
  have h2 := cutz_mul y hy j
  rw [h] at h1
  exact ⟨h1.1.symm.trans h2.1, h1.2.symm.trans h2.2⟩

/-- one grid's answer, and the reference's -/
theorem core {V Bm Bp u1 u2 u3 od kk : Nat} {ev : Bool} {U : Nat → Nat} {p : Int} (hU : ∀ k, k < 17 → U k = 10 * U (k + 1)) (k1 : 1 ≤ kk) (k2 : kk ≤ 17) (hpos : 0 < U kk) (hBm0 : 0 < Bm) (hBm : Bm < V) (hBp : V < Bp)
    (hsym : Bp - V ≤ 2 * (V - Bm)) (hsym2 : V - Bm ≤ Bp - V) (hwide : Bm + U kk < Bp ∨ (Bm + U kk = Bp ∧ V % U kk = 0) ∨ (Bm + U kk ≤ Bp ∧ ev = true)) (hw2 : Bp < Bm + 10 * U kk)
    (hu1 : u1 = unr (4 * Bm) (U kk)) (hu2 : u2 = unr (4 * Bp) (U kk)) (hu3 : u3 = unr (4 * V) (U kk)) (hod : od = if ev then 0 else 1)
    (hone : kk = 1 → (u1 + od + 3) / 4 ≤ (u2 - od) / 4 / 10 * 10 → ∃ x, refStep V Bm Bp ev (U 1) = some x ∧ x * U 1 = (u2 - od) / 4 / 10 * U 0) :
    ∃ k x, 1 ≤ k ∧ k ≤ 17 ∧ (∀ j, 1 ≤ j → j < k → refStep V Bm Bp ev (U j) = none) ∧ refStep V Bm Bp ev (U k) = some x ∧
      0 < (sfRes u1 u2 u3 od p).1 ∧ (sfRes u1 u2 u3 od p).1 * U kk ≤ Bp ∧
      (((sfRes u1 u2 u3 od p).2 = -p ∧ x * U k = (sfRes u1 u2 u3 od p).1 * U kk) ∨ ((sfRes u1 u2 u3 od p).2 = -(p - 1) ∧ x * U k = (sfRes u1 u2 u3 od p).1 * U (kk - 1))) := by
  obtain ⟨dmin, hdmin⟩ : ∃ d, d = (u1 + od + 3) / 4 := ⟨_, rfl⟩
  obtain ⟨dmax, hdmax⟩ : ∃ d, d = (u2 - od) / 4 := ⟨_, rfl⟩
  have hmin : ∀ d, dmin ≤ d ↔ (Bm < d * U kk ∨ (ev = true ∧ Bm = d * U kk)) := fun d => by
    have := unr_ceil (n := Bm) hpos ev d
    rw [← hu1, ← hod, ← hdmin] at this
    exact this
  have hmax : ∀ d, d ≤ dmax ↔ (d * U kk < Bp ∨ (ev = true ∧ d * U kk = Bp)) := fun d => by
    have := unr_floor (n := Bp) hpos ev d (by omega)
    rw [← hu2, ← hod, ← hdmax] at this
    exact this
  have hin : ∀ d, Inn Bm Bp ev (d * U kk) ↔ dmin ≤ d ∧ d ≤ dmax := fun d => by rw [hmin, hmax]; rfl
  have hmin1 : 1 ≤ dmin := by
    refine Nat.pos_of_ne_zero fun h => ?_
    have := (hmin 0).1 (by omega)
    rw [Nat.zero_mul] at this
    omega
  have eU : U (kk - 1) = 10 * U kk := by
    have := hU (kk - 1) (by omega)
    rwa [show kk - 1 + 1 = kk by omega] at this
  unfold sfRes
  rw [← hdmin, ← hdmax]
  by_cases hc : dmin ≤ dmax / 10 * 10
  · rw [if_pos hc]
    have hd : Inn Bm Bp ev (dmax / 10 * U (kk - 1)) := by
      rw [eU, ← Nat.mul_assoc]
      exact (hin _).2 ⟨hc, by omega⟩
    have hpos10 : 0 < dmax / 10 := by omega
    have hle : dmax / 10 * U kk ≤ Bp := by
      have h1 := hd.2
      rw [eU] at h1
      have : dmax / 10 * U kk ≤ dmax / 10 * (10 * U kk) := Nat.mul_le_mul_left _ (by omega)
      omega
    by_cases hk : 2 ≤ kk
    · obtain ⟨k, x, e1, e2, e3, e4, e5⟩ := find_short hU k2 hpos hBm hBp hw2 hk hd
      exact ⟨k, x, e1, by omega, e3, e4, hpos10, hle, .inr ⟨rfl, e5⟩⟩
    · obtain rfl : kk = 1 := by omega
      obtain ⟨x, e4, e5⟩ := hone rfl (by rw [← hdmin, ← hdmax]; exact hc)
      rw [← hdmax] at e5
      exact ⟨1, x, by omega, by omega, fun j j1 j2 => by omega, e4, hpos10, hle, .inr ⟨rfl, e5⟩⟩
  · rw [if_neg hc]
    have hno : 2 ≤ kk → ∀ d, ¬ Inn Bm Bp ev (d * U (kk - 1)) := by
      intro _ d hd
      rw [eU, ← Nat.mul_assoc, hin] at hd
      omega
    have hnone := find_long (V := V) hU k2 hno
    have hh := here hpos hBm hBp hmin hmax hsym hsym2 hwide
    have er : (u3 + 1 + u3 / 4 % 2) / 4 = rne V (U kk) := by rw [hu3]; exact unr_round hpos
    by_cases hlt : dmin < dmax
    · rw [if_pos hlt] at hh ⊢
      rw [er]
      obtain ⟨h1, h2⟩ := (hin _).1 hh.2
      have h3 := hh.2.2
      exact ⟨kk, _, k1, k2, hnone, hh.1, by omega, by dsimp only; omega, .inl ⟨rfl, rfl⟩⟩
    · rw [if_neg hlt] at hh ⊢
      have h3 := hh.2.2
      exact ⟨kk, _, k1, k2, hnone, hh.1, by omega, by dsimp only; omega, .inl ⟨rfl, rfl⟩⟩
end Go.Proofs.YtiopeaponffmdaaDoor.PAll
