/- The texts of a proof, its declarations alone: part 8. -/
import GoSem.PinnedTables
import Derived.KernelRfl
import Derived.Lib.FrozenHead2
import Derived.Test.YtiopeaponffmdaaDoorVU1
import Derived.Test.YtiopeaponffmdaaDoorVU3
import Derived.Test.YtiopeaponffmdaaDoorVU5
import Derived.Test.YtiopeaponffmdaaDoorVU6
import Derived.Test.YtiopeaponffmdaaDoorVU7
set_option linter.unusedVariables false
set_option linter.unusedSimpArgs false
-- YtiopeaponffmdaaDoorMd
set_option linter.unusedVariables false
namespace Go.Proofs.YtiopeaponffmdaaDoor.Fm

def force {α : Type} (n : Nat) (k : Nat → α) : α := match n with
  | 0 => k 0
  | m + 1 => k (m + 1)
theorem force_eq {α : Type} (n : Nat) (k : Nat → α) : force n k = k n := by cases n <;> rfl

/-- neighbours of N / M -/
def far (N M K : Nat) : Nat → Nat → Nat → Nat → Nat → (Nat → Nat → Nat → Nat → Bool) → Bool
  | 0, a, b, c, d, k => k a b c d
  | f + 1, a, b, c, d, k =>
    bif Nat.ble (b + d) K then
      force (N * b - a * M) fun L => force (c * M - N * d) fun R =>
        bif Nat.ble R L then
          force (Nat.min (L / R) ((K - b) / d)) fun j => force (a + j * c) fun a' => force (b + j * d) fun b' => far N M K f a' b' c d k
        else
          force (bif Nat.beq L 0 then (K - d) / b else Nat.max 1 (Nat.min ((R - 1) / L) ((K - d) / b))) fun j => force (c + j * a) fun c' => force (d + j * b) fun d' => far N M K f a b c' d' k
    else k a b c d
theorem far_some (N M K : Nat) (k : Nat → Nat → Nat → Nat → Bool) : ∀ f a b c d, far N M K f a b c d k = true → ∃ a b c d, k a b c d = true := by
  intro f
  induction f with
  | zero => intro a b c d h; exact ⟨a, b, c, d, h⟩
  | succ f ih =>
    intro a b c d h
    rw [far] at h
    cases h1 : Nat.ble (b + d) K with
    | false => rw [h1] at h; exact ⟨a, b, c, d, h⟩
    | true =>
      rw [h1] at h
      simp only [cond_true, force_eq] at h
      cases h2 : Nat.ble (c * M - N * d) (N * b - a * M) with
      | true => rw [h2] at h; exact ih _ _ _ _ h
      | false => rw [h2] at h; exact ih _ _ _ _ h

def tN (p lp : Int) : Nat := 10 ^ p.toNat * 2 ^ (127 - lp).toNat
def tD (p lp : Int) : Nat := 10 ^ (-p).toNat * 2 ^ (lp - 127).toNat
def lpOf (p : Int) : Int := p * 108853 / 32768
def rowOf (p : Int) : Nat × Nat := Go.Pinned.pow10Rows.getD (p + 348).toNat (0, 0)

/-- the last look: neighbours, and gaps of G around -/
def lookF (N M K G a b c d : Nat) : Bool :=
  Nat.ble 1 b && Nat.ble 1 d && Nat.beq (b * c) (a * d + 1) && Nat.ble (a * M) (N * b) && Nat.ble (N * d + G) (c * M) && Nat.ble (K + 1) (b + d) && Nat.ble (G * b) M && Nat.ble (G * d) M && (Nat.beq (N * b) (a * M) || Nat.ble (a * M + G) (N * b))

/-- the certificate for x = k * 2^(z-1), 1 ≤ k ≤ K, at the binary exponent E of the last place -/
def certP (K z : Nat) (E p : Int) : Bool :=
  force (p + 348).toNat fun pi => force (lpOf p + 2000).toNat fun lq => force (-(E - z + lpOf p + 3)).toNat fun s =>
  force (rowOf p).1 fun hi => force (rowOf p).2 fun lo => force (tN p (lpOf p)) fun tn => force (tD p (lpOf p)) fun td =>
    decide (-348 ≤ p) && decide (p ≤ 347) && decide ((s : Int) = -(E - z + lpOf p + 3)) && Nat.ble s 63 &&
    Nat.ble 1 hi && Nat.ble (hi + 1) (2 ^ 64) && Nat.ble (lo + 1) (2 ^ 64) && Nat.ble (tn + lo * td) (hi * 2 ^ 64 * td) && Nat.ble (hi * 2 ^ 64 * td + 1) (tn + lo * td + td) &&
    force (2 ^ (z - 1) * tn) fun N => force (2 ^ (s + 128) * td) fun M => force (3 * 2 ^ 64 * td) fun G =>
      far N M K 200 (N / M) 1 (N / M + 1) 1 (lookF N M K G)
def pOf (E : Int) : Int := -(E * 78913 / 262144)
/-- the decimal exponent fits the binary one -/
def widthP (E p : Int) : Bool := Nat.ble (10 ^ (-p).toNat * 2 ^ (-E).toNat) (2 ^ E.toNat * 10 ^ p.toNat) && Nat.ble (2 ^ E.toNat * 10 ^ p.toNat + 1) (10 * (10 ^ (-p).toNat * 2 ^ (-E).toNat))
def certE (K z : Nat) (E : Int) : Bool := certP K z E (pOf E) && widthP E (pOf E)
def allB : Nat → (Nat → Bool) → Bool
  | 0, _ => true
  | n + 1, f => f n && allB n f
theorem allB_of {f : Nat → Bool} : ∀ {n : Nat}, allB n f = true → ∀ i, i < n → f i = true
  | 0, _, i, hi => absurd hi (by omega)
  | n + 1, h, i, hi => by
    rw [allB, Bool.and_eq_true] at h
    rcases Nat.lt_or_ge i n with h1 | h1
    · exact allB_of h.2 i h1
    · obtain rfl : i = n := by omega
      exact h.1

theorem tD_pos (p lp : Int) : 0 < tD p lp := Nat.mul_pos (Nat.pow_pos (by decide)) (Nat.two_pow_pos _)
theorem certP_ok {K z : Nat} {E p : Int} (hz : 1 ≤ z) (h : certP K z E p = true) :
    ∃ s hi lo : Nat, rowOf p = (hi, lo) ∧ -348 ≤ p ∧ p ≤ 347 ∧ (s : Int) = -(E - z + lpOf p + 3) ∧ s ≤ 63 ∧ 1 ≤ hi ∧ hi < 2 ^ 64 ∧ lo < 2 ^ 64 ∧
      ∀ j k : Nat, 1 ≤ k → k ≤ K → k * 2 ^ (z - 1 + j) < 2 ^ 64 →
        usc (k * 2 ^ (z - 1 + j)) hi lo (s + j) = unr (k * 2 ^ (z - 1) * tN p (lpOf p)) (2 ^ s * 2 ^ 128 * tD p (lpOf p)) := by
  unfold certP at h
  simp only [force_eq, Bool.and_eq_true, decide_eq_true_eq, Nat.ble_eq, and_assoc] at h
  obtain ⟨h1, h2, h3, h4, h5, h6, h7, h8, h9, h10⟩ := h
  obtain ⟨a, b, c, d, hk⟩ := far_some _ _ _ _ _ _ _ _ _ h10
  refine ⟨_, (rowOf p).1, (rowOf p).2, rfl, h1, h2, h3, h4, h5, by omega, by omega, fun j k hk1 hk2 hx => ?_⟩
  obtain ⟨hi, ehi⟩ : ∃ x, x = (rowOf p).1 := ⟨_, rfl⟩
  obtain ⟨lo, elo⟩ : ∃ x, x = (rowOf p).2 := ⟨_, rfl⟩
  obtain ⟨tn, etn⟩ : ∃ x, x = tN p (lpOf p) := ⟨_, rfl⟩
  obtain ⟨td, etd⟩ : ∃ x, x = tD p (lpOf p) := ⟨_, rfl⟩
  obtain ⟨s, es⟩ : ∃ x, x = (-(E - z + lpOf p + 3)).toNat := ⟨_, rfl⟩
  have htd : 0 < td := etd ▸ tD_pos _ _
  rw [← ehi, ← elo, ← etn, ← etd] at h8 h9
  rw [← etn, ← etd, ← es] at hk
  rw [← ehi, ← elo, ← etn, ← etd, ← es]
  rw [← elo] at h7
  clear ehi elo etn etd es h10 h1 h2 h3 h4 h5 h6
  obtain ⟨N, eN⟩ : ∃ x, x = 2 ^ (z - 1) * tn := ⟨_, rfl⟩
  obtain ⟨M, eM⟩ : ∃ x, x = 2 ^ (s + 128) * td := ⟨_, rfl⟩
  obtain ⟨G, eG⟩ : ∃ x, x = 3 * 2 ^ 64 * td := ⟨_, rfl⟩
  rw [← eN, ← eM, ← eG] at hk
  unfold lookF at hk
  simp only [Bool.and_eq_true, Bool.or_eq_true, Nat.ble_eq, Nat.beq_eq, and_assoc] at hk
  obtain ⟨g1, g2, g3, g4, g5, g6, g7, g8, g9⟩ := hk
  have hM : 0 < M := by rw [eM]; exact Nat.mul_pos (Nat.two_pow_pos _) htd
  have hG0 : 0 < G := by rw [eG]; exact Nat.mul_pos (by decide) htd
  obtain ⟨J, eJ⟩ : ∃ x, x = 2 ^ j := ⟨_, rfl⟩
  have hJ : 1 ≤ J := by rw [eJ]; exact Nat.two_pow_pos j
  have ex : k * 2 ^ (z - 1 + j) * tn = J * (k * N) := by rw [eN, eJ, Nat.pow_add]; grind
  have eq : ∀ q, q * 2 ^ (s + j) * 2 ^ 128 * td = J * (q * M) := fun q => by rw [eM, eJ, Nat.pow_add, Nat.pow_add]; grind
  have ci : ∀ x y : Nat, ((x * y : Nat) : Int) = (x : Int) * (y : Int) := fun x y => Int.natCast_mul x y
  have gap : ∀ q : Nat, k * N = q * M ∨ q * M + G ≤ k * N ∨ k * N + G ≤ q * M := by
    intro q
    have i1 : ((b * c : Nat) : Int) = ((a * d + 1 : Nat) : Int) := by rw [g3]
    have i2 : ((a * M : Nat) : Int) ≤ ((N * b : Nat) : Int) := by omega
    have i3 : ((N * d : Nat) : Int) + ((G : Nat) : Int) ≤ ((c * M : Nat) : Int) := by omega
    have i4 : ((G * b : Nat) : Int) ≤ (M : Int) := by omega
    have i5 : ((G * d : Nat) : Int) ≤ (M : Int) := by omega
    have i6 : ((N * b : Nat) : Int) = ((a * M : Nat) : Int) ∨ ((G : Nat) : Int) ≤ ((N * b : Nat) : Int) - ((a * M : Nat) : Int) := by
      rcases g9 with g9 | g9
      · left; rw [g9]
      · right; omega
    rw [Int.natCast_add] at i1
    simp only [ci] at i1 i2 i3 i4 i5 i6
    rcases Nat.lt_or_ge (k * N) (q * M) with hlt | hge
    · have := gap_above (a := a) (b := b) (c := c) (d := d) (k := k) (n := q) (N := N) (M := M) (G := G) (K := K) (by omega) (by omega) (by omega) i1 i2 (by omega) (by omega) (by omega) (by omega) i5 (by omega) (by rw [← ci, ← ci]; omega)
      rw [← ci, ← ci] at this
      omega
    · have := gap_below (a := a) (b := b) (c := c) (d := d) (k := k) (n := q) (N := N) (M := M) (G := G) (K := K) (by omega) (by omega) (by omega) i1 i2 (by omega) (by omega) (by omega) (by omega) i4 i6 (by rw [← ci, ← ci]; omega)
      rw [← ci, ← ci] at this
      omega
  have u := usc_ok (k * 2 ^ (z - 1 + j)) hi lo (s + j) tn td (Nat.mul_pos (by omega) (Nat.two_pow_pos _)) hx (by omega) htd h8 (by omega) (fun q => by
    rw [ex, eq, Nat.add_mul, eq]
    have e3 : 3 * 2 ^ 64 * td = G := eG.symm
    rw [e3]
    have hJG : G ≤ J * G := Nat.le_mul_of_pos_left G hJ
    rcases gap q with h | h | h
    · left; rw [h]
    · right; left
      have := Nat.mul_le_mul_left J h
      rw [Nat.mul_add] at this
      omega
    · right; right
      have := Nat.mul_le_mul_left J h
      rw [Nat.mul_add] at this
      omega)
  rw [u]
  refine unr_ratio (Nat.mul_pos (Nat.mul_pos (Nat.two_pow_pos _) (by decide)) htd) (Nat.mul_pos (Nat.mul_pos (Nat.two_pow_pos _) (by decide)) htd) ?_
  rw [Nat.pow_add 2 s j, Nat.pow_add 2 (z - 1) j]
  grind
end Go.Proofs.YtiopeaponffmdaaDoor.Fm
-- YtiopeaponffmdaaDoorMh
namespace Go.Proofs.YtiopeaponffmdaaDoor.PAll
open Go.RowKit Go.Proofs.YtiopeaponffmdaaDoorW.PrintWords Go.Proofs.YtiopeaponffmdaaDoorW.PrintLast Go.Proofs.YtiopeaponffmdaaDoorW.PrintMore
open Fm

/-- the scaled product is the exact quotient -/
theorem ratio (k z t s a L : Nat) (p : Int) (hz : 1 ≤ z) (hs : (s : Int) = -((t : Int) - (L : Int) - (z : Int) + lpOf p + 3)) (hp : p ≤ (a : Int)) :
    unr (k * 2 ^ (z - 1) * tN p (lpOf p)) (2 ^ s * 2 ^ 128 * tD p (lpOf p)) = unr (4 * (k * 2 ^ t * 10 ^ a)) (2 ^ (L + 1) * 10 ^ ((a : Int) - p).toNat) := by
  refine unr_ratio (Nat.mul_pos (Nat.mul_pos (Nat.two_pow_pos _) (by decide)) (tD_pos _ _)) (Nat.mul_pos (Nat.two_pow_pos _) (Nat.pow_pos (by decide))) ?_
  unfold tN tD
  generalize lpOf p = lp at *
  have e2 : z - 1 + (127 - lp).toNat + (L + 1) = 2 + t + s + 128 + (lp - 127).toNat := by omega
  have e10 : p.toNat + ((a : Int) - p).toNat = a + (-p).toNat := by omega
  have f2 : 2 ^ (z - 1) * 2 ^ (127 - lp).toNat * 2 ^ (L + 1) = 4 * 2 ^ t * 2 ^ s * 2 ^ 128 * 2 ^ (lp - 127).toNat := by
    rw [show (4 : Nat) = 2 ^ 2 by decide, ← Nat.pow_add, ← Nat.pow_add, ← Nat.pow_add, ← Nat.pow_add, ← Nat.pow_add, ← Nat.pow_add, e2]
  have f10 : 10 ^ p.toNat * 10 ^ ((a : Int) - p).toNat = 10 ^ a * 10 ^ (-p).toNat := by rw [← Nat.pow_add, ← Nat.pow_add, e10]
  generalize (2 : Nat) ^ 128 = X128 at *
  generalize (2 : Nat) ^ (z - 1) = A1 at *
  generalize (2 : Nat) ^ (127 - lp).toNat = A2 at *
  generalize (2 : Nat) ^ (L + 1) = A3 at *
  generalize (2 : Nat) ^ t = A4 at *
  generalize (2 : Nat) ^ s = A5 at *
  generalize (2 : Nat) ^ (lp - 127).toNat = A6 at *
  generalize (10 : Nat) ^ p.toNat = B1 at *
  generalize (10 : Nat) ^ ((a : Int) - p).toNat = B2 at *
  generalize (10 : Nat) ^ a = B3 at *
  generalize (10 : Nat) ^ (-p).toNat = B4 at *
  calc k * A1 * (B1 * A2) * (A3 * B2) = k * (A1 * A2 * A3) * (B1 * B2) := by grind
    _ = k * (4 * A4 * A5 * X128 * A6) * (B3 * B4) := by rw [f2, f10]
    _ = 4 * (k * A4 * B3) * (A5 * X128 * (B4 * A6)) := by grind

theorem unr_le (n m : Nat) : unr n m ≤ n / m + 1 := by unfold unr; split <;> omega
theorem le_unr (n m : Nat) : n / m ≤ unr n m + 1 := by unfold unr; split <;> omega

theorem pow10_lt {i j : Nat} (h : (10 : Nat) ^ i < 10 ^ j) : i < j := (Nat.pow_lt_pow_iff_right (by decide)).1 h

/-- where the reference ends: at the k-th grid, with x -/
structure ShAt (f c a : Nat) (n : Int) (k x : Nat) : Prop where
  n0 : -329 ≤ n
  n1 : n ≤ 311
  low : Ug f n a 1 ≤ T2 f c * 2 ^ 1 * 10 ^ a
  high : T2 f c * 2 ^ 1 * 10 ^ a < Ug f n a 0
  k1 : 1 ≤ k
  k2 : k ≤ 17
  none : ∀ j, 1 ≤ j → j < k → refStep (T2 f c * 2 ^ 1 * 10 ^ a) ((T2 f (c - 1) + T2 f c) * 10 ^ a) ((T2 f c + T2 f (c + 1)) * 10 ^ a) (decide (c % 2 = 0)) (Ug f n a j) = none
  some : refStep (T2 f c * 2 ^ 1 * 10 ^ a) ((T2 f (c - 1) + T2 f c) * 10 ^ a) ((T2 f c + T2 f (c + 1)) * 10 ^ a) (decide (c % 2 = 0)) (Ug f n a k) = some x
/-- what the fewest digits come to -/
structure SfOk (f c a od z j k1 k3 k2 : Nat) (most p : Int) (s hi lo : Nat) : Prop where
  res : ∃ u1 u2 u3, usc (k1 * 2 ^ (z - 1 + j)) hi lo (s + j) = u1 ∧ usc (k2 * 2 ^ (z - 1 + j)) hi lo (s + j) = u2 ∧ usc (k3 * 2 ^ (z - 1 + j)) hi lo (s + j) = u3 ∧
    u1 + 10 < 18446744073709551616 ∧ u2 + 10 < 18446744073709551616 ∧ 1 ≤ u2 ∧ u3 + 10 < 18446744073709551616 ∧
    0 < (sfRes u1 u2 u3 od p).1 ∧ (sfRes u1 u2 u3 od p).1 < 1000000000000000000 ∧ -400 ≤ (sfRes u1 u2 u3 od p).2 ∧ (sfRes u1 u2 u3 od p).2 ≤ 400 ∧
    Ev (fun k => spec_Form_Shortest.f k (f : Int) most (c : Int)) (strOfNums (dec (cutz (sfRes u1 u2 u3 od p).1)), ((dec (sfRes u1 u2 u3 od p).1).length : Int) + (sfRes u1 u2 u3 od p).2) ∧
    ∃ n k x, ShAt f c a n k x ∧ cutz x = cutz (sfRes u1 u2 u3 od p).1 ∧ 0 < x ∧ n + ((dec x).length : Int) - (k : Int) = ((dec (sfRes u1 u2 u3 od p).1).length : Int) + (sfRes u1 u2 u3 od p).2

theorem sfU (f c : Nat) (most : Int) (a : Nat) (ha : 400 ≤ a) (hf : f = 52 ∨ f = 23) (hc0 : 1 ≤ c) (hc1 : c < 18446744073709550000) (hc2 : (c + 1) / 2 ^ f ≤ 2100)
    (hT0 : 1 ≤ T2 f c) (e311 : Nat) (he311 : e311 = 311) (hT1 : T2 f c < 2 ^ lst f * 10 ^ e311) (k1 k3 k2 t z j K : Nat) (p : Int)
    (hV : T2 f c * 2 ^ 1 = k3 * 2 ^ t) (hBm : T2 f (c - 1) + T2 f c = k1 * 2 ^ t) (hBp : T2 f c + T2 f (c + 1) = k2 * 2 ^ t)
    (hz : 1 ≤ z) (hcert : certP K z ((t : Int) - (lst f : Int)) p = true) (h1 : 1 ≤ k1) (h2 : k1 < k3) (h3 : k3 < k2) (h4 : k2 ≤ K) (h5 : k2 - k3 ≤ 2 * (k3 - k1)) (h6 : k3 - k1 ≤ k2 - k3)
    (hj : k2 * 2 ^ (z - 1 + j) < 2 ^ 64)
    (u : Nat) (hu : u = 2 ^ (lst f + 1) * 10 ^ ((a : Int) - p).toNat)
    (hwide : k1 * 2 ^ t * 10 ^ a + u < k2 * 2 ^ t * 10 ^ a ∨ (k1 * 2 ^ t * 10 ^ a + u = k2 * 2 ^ t * 10 ^ a ∧ (k3 * 2 ^ t * 10 ^ a) % u = 0) ∨ (k1 * 2 ^ t * 10 ^ a + u ≤ k2 * 2 ^ t * 10 ^ a ∧ c % 2 = 0))
    (hw2 : k2 * 2 ^ t * 10 ^ a < k1 * 2 ^ t * 10 ^ a + 10 * u)
    (hVu : u ≤ k3 * 2 ^ t * 10 ^ a) (hVu2 : k3 * 2 ^ t * 10 ^ a < 10 ^ 17 * u)
    (hone : k3 * 2 ^ t * 10 ^ a < 10 * u → (unr (4 * (k1 * 2 ^ t * 10 ^ a)) u + c % 2 + 3) / 4 ≤ (unr (4 * (k2 * 2 ^ t * 10 ^ a)) u - c % 2) / 4 / 10 * 10 →
      ∃ x, refStep (k3 * 2 ^ t * 10 ^ a) (k1 * 2 ^ t * 10 ^ a) (k2 * 2 ^ t * 10 ^ a) (decide (c % 2 = 0)) u = some x ∧ x * u = (unr (4 * (k2 * 2 ^ t * 10 ^ a)) u - c % 2) / 4 / 10 * (10 * u)) :
    ∃ s hi lo : Nat, rowOf p = (hi, lo) ∧ -348 ≤ p ∧ p ≤ 347 ∧ (s : Int) = -((t : Int) - (lst f : Int) - (z : Int) + lpOf p + 3) ∧ s ≤ 63 ∧ 1 ≤ hi ∧ hi < 2 ^ 64 ∧ lo < 2 ^ 64 ∧
      SfOk f c a (c % 2) z j k1 k3 k2 most p s hi lo := by
  obtain ⟨s, hi, lo, c1, c2, c3, c4, c5, c6, c7, c8, c9⟩ := certP_ok hz hcert
  refine ⟨s, hi, lo, c1, c2, c3, c4, c5, c6, c7, c8, ?_⟩
  have hpj : ∀ k, k ≤ k2 → k * 2 ^ (z - 1 + j) < 2 ^ 64 := fun k hk => Nat.lt_of_le_of_lt (Nat.mul_le_mul_right _ hk) hj
  have hr : ∀ k, 1 ≤ k → k ≤ k2 → usc (k * 2 ^ (z - 1 + j)) hi lo (s + j) = unr (4 * (k * 2 ^ t * 10 ^ a)) u := by
    intro k e1 e2
    rw [c9 j k e1 (by omega) (hpj k e2), hu]
    exact ratio k z t s a (lst f) p hz c4 (by omega)
  obtain ⟨n, n1, n2, n3, n4, n5⟩ := ref_ready f c most a ha hf hc0 hc1 hc2 hT0 e311 he311 hT1
  have hSh : ∀ k x, 1 ≤ k → k ≤ 17 → (∀ j, 1 ≤ j → j < k → refStep (k3 * 2 ^ t * 10 ^ a) (k1 * 2 ^ t * 10 ^ a) (k2 * 2 ^ t * 10 ^ a) (decide (c % 2 = 0)) (Ug f n a j) = none) → refStep (k3 * 2 ^ t * 10 ^ a) (k1 * 2 ^ t * 10 ^ a) (k2 * 2 ^ t * 10 ^ a) (decide (c % 2 = 0)) (Ug f n a k) = some x → ShAt f c a n k x := by
    intro k x e1 e2 e3 e4
    rw [← hV, ← hBm, ← hBp] at e4
    refine ⟨n1, n2, n3, n4, e1, e2, fun j j1 j2 => ?_, e4⟩
    have := e3 j j1 j2
    rwa [← hV, ← hBm, ← hBp] at this
  rw [hV, hBm, hBp] at n5
  rw [hV] at n3 n4
  have hupos : 0 < u := by rw [hu]; exact Nat.mul_pos (Nat.two_pow_pos _) (Nat.pow_pos (by decide))
  have hL0 : 0 < 2 ^ (lst f + 1) := Nat.two_pow_pos _
  have b1 : 1 ≤ n + p := by
    have h := Nat.lt_of_le_of_lt hVu n4
    unfold Ug at h
    rw [hu] at h
    have := pow10_lt (Nat.lt_of_mul_lt_mul_left h)
    omega
  have b2 : n + p ≤ 17 := by
    have h := Nat.lt_of_le_of_lt n3 hVu2
    unfold Ug at h
    rw [hu, Nat.mul_left_comm, ← Nat.pow_add] at h
    have := pow10_lt (Nat.lt_of_mul_lt_mul_left h)
    omega
  obtain ⟨kk, hkk⟩ : ∃ kk : Nat, n + p = (kk : Int) := ⟨(n + p).toNat, by omega⟩
  have eU : Ug f n a kk = u := by
    unfold Ug
    rw [hu, show n - (kk : Int) + (a : Int) = (a : Int) - p by omega]
  have hUs : ∀ k : Nat, k < 17 → Ug f n a k = 10 * Ug f n a (k + 1) := fun k hk => Ug_succ f n a k (by omega)
  have hX : 0 < 2 ^ t * 10 ^ a := Nat.mul_pos (Nat.two_pow_pos _) (Nat.pow_pos (by decide))
  simp only [Nat.mul_assoc] at hwide hw2 hVu hVu2 hone n3 n4 n5 hr hSh
  generalize 2 ^ t * 10 ^ a = X at *
  have m12 : k1 * X < k3 * X := Nat.mul_lt_mul_of_pos_right h2 hX
  have m23 : k3 * X < k2 * X := Nat.mul_lt_mul_of_pos_right h3 hX
  have d23 : k2 * X - k3 * X = (k2 - k3) * X := (Nat.sub_mul ..).symm
  have d13 : k3 * X - k1 * X = (k3 - k1) * X := (Nat.sub_mul ..).symm
  have hs5 : k2 * X - k3 * X ≤ 2 * (k3 * X - k1 * X) := by rw [d23, d13, ← Nat.mul_assoc]; exact Nat.mul_le_mul_right _ h5
  have hs6 : k3 * X - k1 * X ≤ k2 * X - k3 * X := by rw [d23, d13]; exact Nat.mul_le_mul_right _ h6
  have hod : c % 2 = if decide (c % 2 = 0) = true then 0 else 1 := by
    by_cases h : c % 2 = 0
    · rw [if_pos (by simpa using h)]; exact h
    · rw [if_neg (by simpa using h)]; omega
  obtain ⟨k, x, r1, r2, r3, r4, r5, r6, r7⟩ := core (V := k3 * X) (Bm := k1 * X) (Bp := k2 * X) (u1 := unr (4 * (k1 * X)) u) (u2 := unr (4 * (k2 * X)) u) (u3 := unr (4 * (k3 * X)) u) (od := c % 2) (kk := kk) (ev := decide (c % 2 = 0)) (U := Ug f n a) (p := p)
    hUs (by omega) (by omega) (by rw [eU]; exact hupos) (Nat.mul_pos (by omega) hX) m12 m23 hs5 hs6 (by rw [eU]; simpa using hwide) (by rw [eU]; exact hw2) (by rw [eU]) (by rw [eU]) (by rw [eU]) hod
    (fun e hc => by
      subst e
      have e0 := hUs 0 (by omega)
      rw [Nat.zero_add, eU] at e0
      rw [eU, e0]
      rw [e0] at n4
      exact hone n4 hc)
  have hb2 : k2 * X < (10 ^ 17 + 10) * u := by rw [Nat.add_mul]; omega
  have hq2 : ∀ k, k ≤ k2 → unr (4 * (k * X)) u + 10 < 18446744073709551616 := by
    intro k hk
    have g1 : k * X ≤ k2 * X := Nat.mul_le_mul_right _ hk
    have g2 : 4 * (k * X) / u ≤ 4 * (10 ^ 17 + 10) := by
      refine Nat.div_le_of_le_mul ?_
      rw [Nat.mul_comm u, Nat.mul_assoc]
      omega
    have g3 := unr_le (4 * (k * X)) u
    have g4 : 4 * (10 ^ 17 + 10) + 1 + 10 < 18446744073709551616 := by decide
    omega
  have hu2 : 1 ≤ unr (4 * (k2 * X)) u := by
    have g3 := le_unr (4 * (k2 * X)) u
    have g2 : 4 ≤ 4 * (k2 * X) / u := by
      refine (Nat.le_div_iff_mul_le hupos).2 ?_
      omega
    omega
  have hbig : (sfRes (unr (4 * (k1 * X)) u) (unr (4 * (k2 * X)) u) (unr (4 * (k3 * X)) u) (c % 2) p).1 < 1000000000000000000 := by
    rw [eU] at r6
    have := Nat.lt_of_mul_lt_mul_right (Nat.lt_of_le_of_lt r6 hb2)
    exact Nat.lt_trans this (by decide)
  refine ⟨⟨_, _, _, hr k1 h1 (by omega), hr k2 (by omega) (by omega), hr k3 (by omega) (by omega), hq2 k1 (by omega), hq2 k2 (by omega), hu2, hq2 k3 (by omega), r5, hbig, ?_, ?_, ?_, ?_⟩⟩
  · rcases r7 with ⟨g, _⟩ | ⟨g, _⟩ <;> omega
  · rcases r7 with ⟨g, _⟩ | ⟨g, _⟩ <;> omega
  all_goals
    have hev := n5 k x r1 r2 r3 r4
    have hsh2 := hSh k x r1 r2 r3 r4
    generalize sfRes (unr (4 * (k1 * X)) u) (unr (4 * (k2 * X)) u) (unr (4 * (k3 * X)) u) (c % 2) p = R at *
    have same : ∀ i : Nat, i ≤ 17 → x * Ug f n a k = R.1 * Ug f n a i → 0 < x ∧ cutz x = cutz R.1 ∧ (dec x).length + (n - (k : Int) + (a : Int)).toNat = (dec R.1).length + (n - (i : Int) + (a : Int)).toNat := by
      intro i hi e
      unfold Ug at e
      have e' : x * 10 ^ (n - (k : Int) + (a : Int)).toNat = R.1 * 10 ^ (n - (i : Int) + (a : Int)).toNat := by
        refine Nat.eq_of_mul_eq_mul_left hL0 ?_
        rw [Nat.mul_left_comm, Nat.mul_left_comm _ R.1]
        exact e
      have hx0 : 0 < x := Nat.pos_of_ne_zero fun h => by
        subst h
        rw [Nat.zero_mul] at e'
        have := Nat.mul_pos r5 (Nat.pow_pos (show 0 < 10 by decide) (n := (n - (i : Int) + (a : Int)).toNat))
        omega
      exact ⟨hx0, cutz_same hx0 r5 e'⟩
    have both : 0 < x ∧ cutz x = cutz R.1 ∧ n + ((dec x).length : Int) - (k : Int) = ((dec R.1).length : Int) + R.2 := by
      rcases r7 with ⟨g1, g2⟩ | ⟨g1, g2⟩
      · obtain ⟨w0, w1, w2⟩ := same kk (by omega) g2
        exact ⟨w0, w1, by omega⟩
      · obtain ⟨w0, w1, w2⟩ := same (kk - 1) (by omega) g2
        exact ⟨w0, w1, by omega⟩
  · rw [← both.2.1, ← both.2.2]
    exact hev
  · exact ⟨n, k, x, hsh2, both.2.1, both.1, both.2.2⟩
end Go.Proofs.YtiopeaponffmdaaDoor.PAll
-- YtiopeaponffmdaaDoorMe0
namespace Go.Proofs.YtiopeaponffmdaaDoor.Fm
/-- the decimal exponent at a power of two -/
def pOf2 (E : Int) : Int := -((E * 631305 - 261663) / 2097152)
/-- 3/4 of the binary place's width holds one decimal place, not ten -/
def widthS (E p : Int) : Bool := Nat.ble (4 * (10 ^ (-p).toNat * 2 ^ (-E).toNat)) (3 * (2 ^ E.toNat * 10 ^ p.toNat)) && Nat.ble (3 * (2 ^ E.toNat * 10 ^ p.toNat) + 1) (40 * (10 ^ (-p).toNat * 2 ^ (-E).toNat))
def certS (K z : Nat) (E : Int) : Bool := certP K (z - 1) (E - 1) (pOf2 E) && widthS E (pOf2 E)
end Go.Proofs.YtiopeaponffmdaaDoor.Fm
-- YtiopeaponffmdaaDoorMi
namespace Go.Proofs.YtiopeaponffmdaaDoor.PAll
open Go.RowKit Go.Proofs.YtiopeaponffmdaaDoorW.PrintWords Go.Proofs.YtiopeaponffmdaaDoorW.PrintLast Go.Proofs.YtiopeaponffmdaaDoorW.PrintMore
open Fm

theorem T2_at (f q m : Nat) (hm : m < 2 ^ f) : T2 f (q * 2 ^ f + m) = if q = 0 then m else (m + 2 ^ f) * 2 ^ (q - 1) := by
  have h1 : (q * 2 ^ f + m) / 2 ^ f = q := by
    refine Nat.div_eq_of_lt_le (by omega) ?_
    rw [Nat.add_mul]; omega
  have h2 : (q * 2 ^ f + m) % 2 ^ f = m := by
    rw [Nat.mul_comm, Nat.mul_add_mod, Nat.mod_eq_of_lt hm]
  unfold T2
  rw [h1, h2]

theorem T2_up (f q m : Nat) (hm : m < 2 ^ f) : T2 f (q * 2 ^ f + m + 1) = if q = 0 then m + 1 else (m + 1 + 2 ^ f) * 2 ^ (q - 1) := by
  by_cases h : m + 1 < 2 ^ f
  · rw [Nat.add_assoc, T2_at f q (m + 1) h]
  · have e : q * 2 ^ f + m + 1 = (q + 1) * 2 ^ f + 0 := by rw [Nat.add_mul]; omega
    rw [e, T2_at f (q + 1) 0 (by omega), if_neg (by omega)]
    by_cases hq : q = 0
    · subst hq
      rw [if_pos rfl, Nat.zero_add, Nat.zero_add, Nat.sub_self, Nat.pow_zero, Nat.mul_one]
      omega
    · rw [if_neg hq, Nat.zero_add, Nat.add_sub_cancel]
      obtain ⟨k, rfl⟩ : ∃ k, q = k + 1 := ⟨q - 1, by omega⟩
      rw [Nat.add_sub_cancel, Nat.pow_succ 2 k, show m + 1 + 2 ^ f = 2 ^ f * 2 by omega]
      generalize 2 ^ f = P
      generalize 2 ^ k = Q
      grind

theorem T2_down (f q m : Nat) (hm : m < 2 ^ f) (h0 : 1 ≤ m) : T2 f (q * 2 ^ f + m - 1) = if q = 0 then m - 1 else (m - 1 + 2 ^ f) * 2 ^ (q - 1) := by
  rw [show q * 2 ^ f + m - 1 = q * 2 ^ f + (m - 1) by omega, T2_at f q (m - 1) (by omega)]
theorem T2_down0 (f q : Nat) (hq : 1 ≤ q) : T2 f (q * 2 ^ f + 0 - 1) = if q = 1 then 2 ^ f - 1 else (2 ^ f - 1 + 2 ^ f) * 2 ^ (q - 2) := by
  have hP : 0 < 2 ^ f := Nat.two_pow_pos f
  obtain ⟨k, rfl⟩ : ∃ k, q = k + 1 := ⟨q - 1, by omega⟩
  rw [show (k + 1) * 2 ^ f + 0 - 1 = k * 2 ^ f + (2 ^ f - 1) by rw [Nat.add_mul]; omega, T2_at f k _ (by omega)]
  by_cases h : k = 0
  · rw [if_pos h, if_pos (by omega)]
  · rw [if_neg h, if_neg (by omega), show k + 1 - 2 = k - 1 by omega]

theorem widthP_ok (f t a : Nat) (p : Int) (hp : p ≤ (a : Int)) (h : widthP ((t : Int) - (lst f : Int)) p = true) :
    2 ^ (lst f + 1) * 10 ^ ((a : Int) - p).toNat ≤ 2 ^ (t + 1) * 10 ^ a ∧ 2 ^ (t + 1) * 10 ^ a < 10 * (2 ^ (lst f + 1) * 10 ^ ((a : Int) - p).toNat) := by
  unfold widthP at h
  rw [Bool.and_eq_true, Nat.ble_eq, Nat.ble_eq] at h
  obtain ⟨E, hE⟩ : ∃ E, E = (t : Int) - (lst f : Int) := ⟨_, rfl⟩
  rw [← hE] at h
  have e2 : lst f + 1 + E.toNat = t + 1 + (-E).toNat := by omega
  have e10 : ((a : Int) - p).toNat + p.toNat = a + (-p).toNat := by omega
  have f2 : 2 ^ (lst f + 1) * 2 ^ E.toNat = 2 ^ (t + 1) * 2 ^ (-E).toNat := by rw [← Nat.pow_add, ← Nat.pow_add, e2]
  have f10 : 10 ^ ((a : Int) - p).toNat * 10 ^ p.toNat = 10 ^ a * 10 ^ (-p).toNat := by rw [← Nat.pow_add, ← Nat.pow_add, e10]
  have p1 : 0 < 2 ^ E.toNat := Nat.two_pow_pos _
  have p2 : 0 < 2 ^ (-E).toNat := Nat.two_pow_pos _
  have p3 : 0 < 10 ^ p.toNat := Nat.pow_pos (by decide)
  have p4 : 0 < 10 ^ (-p).toNat := Nat.pow_pos (by decide)
  have p5 : 0 < 2 ^ (lst f + 1) * 10 ^ ((a : Int) - p).toNat := Nat.mul_pos (Nat.two_pow_pos _) (Nat.pow_pos (by decide))
  generalize (2 : Nat) ^ (lst f + 1) = A1 at *
  generalize (2 : Nat) ^ E.toNat = A2 at *
  generalize (2 : Nat) ^ (t + 1) = A3 at *
  generalize (2 : Nat) ^ (-E).toNat = A4 at *
  generalize (10 : Nat) ^ ((a : Int) - p).toNat = B1 at *
  generalize (10 : Nat) ^ p.toNat = B2 at *
  generalize (10 : Nat) ^ a = B3 at *
  generalize (10 : Nat) ^ (-p).toNat = B4 at *
  have key : A1 * B1 * (A2 * B2) = A3 * B3 * (B4 * A4) := by
    calc A1 * B1 * (A2 * B2) = (A1 * A2) * (B1 * B2) := by grind
      _ = A3 * A4 * (B3 * B4) := by rw [f2, f10]
      _ = A3 * B3 * (B4 * A4) := by grind
  have hX : 0 < B4 * A4 := Nat.mul_pos p4 p2
  have hY : 0 < A2 * B2 := Nat.mul_pos p1 p3
  generalize A1 * B1 = u at *
  generalize A3 * B3 = w at *
  generalize B4 * A4 = X at *
  generalize A2 * B2 = Y at *
  constructor
  · refine Nat.not_lt.1 fun hlt => ?_
    have h1 : w * X < u * X := Nat.mul_lt_mul_of_pos_right hlt hX
    have h2 : u * X ≤ u * Y := Nat.mul_le_mul_left _ h.1
    omega
  · have h1 : u * Y < u * (10 * X) := Nat.mul_lt_mul_of_pos_left (by omega) p5
    rw [key] at h1
    have h2 : w * X < 10 * u * X := by
      have e : u * (10 * X) = 10 * u * X := by grind
      omega
    exact Nat.lt_of_mul_lt_mul_right h2

theorem widthS_ok (f t a : Nat) (p : Int) (hp : p ≤ (a : Int)) (h : widthS ((t : Int) + 1 - (lst f : Int)) p = true) :
    4 * (2 ^ (lst f + 1) * 10 ^ ((a : Int) - p).toNat) ≤ 3 * (2 ^ (t + 2) * 10 ^ a) ∧ 3 * (2 ^ (t + 2) * 10 ^ a) < 40 * (2 ^ (lst f + 1) * 10 ^ ((a : Int) - p).toNat) := by
  unfold widthS at h
  rw [Bool.and_eq_true, Nat.ble_eq, Nat.ble_eq] at h
  obtain ⟨E, hE⟩ : ∃ E, E = (t : Int) + 1 - (lst f : Int) := ⟨_, rfl⟩
  rw [← hE] at h
  have e2 : lst f + 1 + E.toNat = t + 2 + (-E).toNat := by omega
  have e10 : ((a : Int) - p).toNat + p.toNat = a + (-p).toNat := by omega
  have f2 : 2 ^ (lst f + 1) * 2 ^ E.toNat = 2 ^ (t + 2) * 2 ^ (-E).toNat := by rw [← Nat.pow_add, ← Nat.pow_add, e2]
  have f10 : 10 ^ ((a : Int) - p).toNat * 10 ^ p.toNat = 10 ^ a * 10 ^ (-p).toNat := by rw [← Nat.pow_add, ← Nat.pow_add, e10]
  have p1 : 0 < 2 ^ E.toNat := Nat.two_pow_pos _
  have p2 : 0 < 2 ^ (-E).toNat := Nat.two_pow_pos _
  have p3 : 0 < 10 ^ p.toNat := Nat.pow_pos (by decide)
  have p4 : 0 < 10 ^ (-p).toNat := Nat.pow_pos (by decide)
  have p5 : 0 < 2 ^ (lst f + 1) * 10 ^ ((a : Int) - p).toNat := Nat.mul_pos (Nat.two_pow_pos _) (Nat.pow_pos (by decide))
  generalize (2 : Nat) ^ (lst f + 1) = A1 at *
  generalize (2 : Nat) ^ E.toNat = A2 at *
  generalize (2 : Nat) ^ (t + 2) = A3 at *
  generalize (2 : Nat) ^ (-E).toNat = A4 at *
  generalize (10 : Nat) ^ ((a : Int) - p).toNat = B1 at *
  generalize (10 : Nat) ^ p.toNat = B2 at *
  generalize (10 : Nat) ^ a = B3 at *
  generalize (10 : Nat) ^ (-p).toNat = B4 at *
  have key : A1 * B1 * (A2 * B2) = A3 * B3 * (B4 * A4) := by
    calc A1 * B1 * (A2 * B2) = (A1 * A2) * (B1 * B2) := by grind
      _ = A3 * A4 * (B3 * B4) := by rw [f2, f10]
      _ = A3 * B3 * (B4 * A4) := by grind
  have hX : 0 < B4 * A4 := Nat.mul_pos p4 p2
  have hY : 0 < A2 * B2 := Nat.mul_pos p1 p3
  generalize A1 * B1 = u at *
  generalize A3 * B3 = w at *
  generalize B4 * A4 = X at *
  generalize A2 * B2 = Y at *
  have h3 : u * (4 * X) ≤ u * (3 * Y) := Nat.mul_le_mul_left _ h.1
  have h4 : u * (3 * Y) < u * (40 * X) := Nat.mul_lt_mul_of_pos_left (by omega) p5
  have e3 : u * (3 * Y) = 3 * w * X := by
    have : u * (3 * Y) = 3 * (u * Y) := by grind
    rw [this, key]; grind
  rw [e3] at h3 h4
  constructor
  · have e : u * (4 * X) = 4 * u * X := by grind
    rw [e] at h3
    exact Nat.le_of_mul_le_mul_right h3 hX
  · have e : u * (40 * X) = 40 * u * X := by grind
    rw [e] at h4
    exact Nat.lt_of_mul_lt_mul_right h4

/-- the least numbers, one by one -/
def oneB (f c t : Nat) (p : Int) (a : Nat) : Bool :=
  decide (2 * c * 2 ^ t * 10 ^ a < 10 * (2 ^ (lst f + 1) * 10 ^ ((a : Int) - p).toNat) → (unr (4 * ((2 * c - 1) * 2 ^ t * 10 ^ a)) (2 ^ (lst f + 1) * 10 ^ ((a : Int) - p).toNat) + c % 2 + 3) / 4 ≤ (unr (4 * ((2 * c + 1) * 2 ^ t * 10 ^ a)) (2 ^ (lst f + 1) * 10 ^ ((a : Int) - p).toNat) - c % 2) / 4 / 10 * 10 →
    refStep (2 * c * 2 ^ t * 10 ^ a) ((2 * c - 1) * 2 ^ t * 10 ^ a) ((2 * c + 1) * 2 ^ t * 10 ^ a) (decide (c % 2 = 0)) (2 ^ (lst f + 1) * 10 ^ ((a : Int) - p).toNat) = some 10 ∧
    (unr (4 * ((2 * c + 1) * 2 ^ t * 10 ^ a)) (2 ^ (lst f + 1) * 10 ^ ((a : Int) - p).toNat) - c % 2) / 4 / 10 = 1)
theorem ones64 : allB 9 (fun i => oneB 52 (i + 1) 0 324 400) = true := by kernel_rfl
theorem ones32 : allB 9 (fun i => oneB 23 (i + 1) 0 45 400) = true := by kernel_rfl

theorem num_sym (f z K c M t j : Nat) (most : Int) (a : Nat) (ha : a = 400) (hf : (f = 52 ∧ z = 11 ∧ K = 2 ^ 54) ∨ (f = 23 ∧ z = 40 ∧ K = 2 ^ 25)) (hc0 : 1 ≤ c) (hc1 : c < 18446744073709550000) (hc2 : (c + 1) / 2 ^ f ≤ 2100)
    (e311 : Nat) (he311 : e311 = 311) (hT1 : T2 f c < 2 ^ lst f * 10 ^ e311) (hM1 : 1 ≤ M) (hM2 : M < 2 ^ (f + 1)) (hT : T2 f c = M * 2 ^ t) (hTm : T2 f (c - 1) = (M - 1) * 2 ^ t) (hTp : T2 f (c + 1) = (M + 1) * 2 ^ t)
    (hcert : certE K z ((t : Int) - (lst f : Int)) = true) (hj : (2 * M + 1) * 2 ^ (z - 1 + j) < 2 ^ 64) (hsmall : M < 10 → t = 0 ∧ c = M) :
    ∃ s hi lo : Nat, rowOf (pOf ((t : Int) - (lst f : Int))) = (hi, lo) ∧ -348 ≤ pOf ((t : Int) - (lst f : Int)) ∧ pOf ((t : Int) - (lst f : Int)) ≤ 347 ∧ (s : Int) = -((t : Int) - (lst f : Int) - (z : Int) + lpOf (pOf ((t : Int) - (lst f : Int))) + 3) ∧ s ≤ 63 ∧ 1 ≤ hi ∧ hi < 2 ^ 64 ∧ lo < 2 ^ 64 ∧
      SfOk f c a (c % 2) z j (2 * M - 1) (2 * M) (2 * M + 1) most (pOf ((t : Int) - (lst f : Int))) s hi lo := by
  have hfz : f = 52 ∨ f = 23 := by rcases hf with ⟨h, _⟩ | ⟨h, _⟩; exact .inl h; exact .inr h
  obtain ⟨p, hp⟩ : ∃ p, p = pOf ((t : Int) - (lst f : Int)) := ⟨_, rfl⟩
  unfold certE at hcert
  rw [Bool.and_eq_true, ← hp] at hcert
  rw [← hp]
  have hp347 : p ≤ 347 := by
    obtain ⟨_, _, _, _, _, h, _⟩ := certP_ok (by omega) hcert.1
    exact h
  have hw := widthP_ok f t a p (by omega) hcert.2
  obtain ⟨w, hwd⟩ : ∃ w, w = 2 ^ (t + 1) * 10 ^ a := ⟨_, rfl⟩
  obtain ⟨u, hu⟩ : ∃ u, u = 2 ^ (lst f + 1) * 10 ^ ((a : Int) - p).toNat := ⟨_, rfl⟩
  rw [← hwd, ← hu] at hw
  have hu0 : 0 < u := by rw [hu]; exact Nat.mul_pos (Nat.two_pow_pos _) (Nat.pow_pos (by decide))
  have hwX : w = 2 * (2 ^ t * 10 ^ a) := by rw [hwd, Nat.pow_succ]; grind
  have hM17 : M ≤ 9007199254740992 := by
    have : 2 ^ (f + 1) ≤ 9007199254740992 := by rcases hf with ⟨rfl, _⟩ | ⟨rfl, _⟩ <;> decide
    omega
  have hK : 2 * M + 1 ≤ K := by rcases hf with ⟨rfl, _, rfl⟩ | ⟨rfl, _, rfl⟩ <;> simp only [Nat.reduceAdd, Nat.reducePow] at hM2 ⊢ <;> omega
  have hX : 0 < 2 ^ t * 10 ^ a := Nat.mul_pos (Nat.two_pow_pos _) (Nat.pow_pos (by decide))
  have ek : ∀ k : Nat, k * 2 ^ t * 10 ^ a = k * (2 ^ t * 10 ^ a) := fun k => Nat.mul_assoc ..
  have hone : 2 * M * 2 ^ t * 10 ^ a < 10 * u → (unr (4 * ((2 * M - 1) * 2 ^ t * 10 ^ a)) u + c % 2 + 3) / 4 ≤ (unr (4 * ((2 * M + 1) * 2 ^ t * 10 ^ a)) u - c % 2) / 4 / 10 * 10 →
      ∃ x, refStep (2 * M * 2 ^ t * 10 ^ a) ((2 * M - 1) * 2 ^ t * 10 ^ a) ((2 * M + 1) * 2 ^ t * 10 ^ a) (decide (c % 2 = 0)) u = some x ∧ x * u = (unr (4 * ((2 * M + 1) * 2 ^ t * 10 ^ a)) u - c % 2) / 4 / 10 * (10 * u) := by
    intro h1 h2
    have hM10 : M < 10 := by
      refine Nat.not_le.1 fun h => ?_
      rw [ek] at h1
      have : 2 * 10 * (2 ^ t * 10 ^ a) ≤ 2 * M * (2 ^ t * 10 ^ a) := Nat.mul_le_mul_right _ (by omega)
      generalize 2 ^ t * 10 ^ a = X at *
      generalize 2 * M * X = Y at *
      omega
    obtain ⟨rfl, rfl⟩ := hsmall hM10
    have hB : oneB f c 0 p a = true := by
      rcases hf with ⟨rfl, _⟩ | ⟨rfl, _⟩
      · have e : p = 324 := by rw [hp]; decide
        rw [e, ha]; have := allB_of ones64 (c - 1) (by omega); rwa [show c - 1 + 1 = c by omega] at this
      · have e : p = 45 := by rw [hp]; decide
        rw [e, ha]; have := allB_of ones32 (c - 1) (by omega); rwa [show c - 1 + 1 = c by omega] at this
    unfold oneB at hB
    rw [decide_eq_true_eq, ← hu] at hB
    obtain ⟨g1, g2⟩ := hB h1 h2
    refine ⟨10, g1, ?_⟩
    rw [g2, Nat.one_mul]
  refine sfU f c most a (by omega) hfz hc0 hc1 hc2 (by rw [hT]; exact Nat.mul_pos hM1 (Nat.two_pow_pos _)) e311 he311 hT1 (2 * M - 1) (2 * M) (2 * M + 1) t z j K p
    (by rw [hT]; grind) (by
      rw [hTm, hT, ← Nat.add_mul]
      congr 1
      omega) (by
      rw [hTp, hT, ← Nat.add_mul]
      congr 1
      omega) (by omega) hcert.1 (by omega) (by omega) (by omega) hK (by omega) (by omega) hj u hu ?_ ?_ ?_ ?_ hone
  all_goals rw [ek]
  · rw [ek, ek]
    generalize 2 ^ t * 10 ^ a = X at *
    have e1 : (2 * M + 1) * X = (2 * M - 1) * X + w := by
      obtain ⟨m, rfl⟩ : ∃ m, M = m + 1 := ⟨M - 1, by omega⟩
      rw [hwX, show 2 * (m + 1) - 1 = 2 * m + 1 by omega]
      grind
    have e2 : 2 * M * X = M * w := by rw [hwX]; grind
    rw [e1, e2]
    rcases Nat.lt_or_ge u w with hlt | hge
    · left; omega
    · have huw : u = w := by omega
      right; left
      refine ⟨by omega, ?_⟩
      rw [huw]
      exact Nat.mul_mod_left _ _
  · rw [ek]
    generalize 2 ^ t * 10 ^ a = X at *
    have e1 : (2 * M + 1) * X = (2 * M - 1) * X + w := by
      obtain ⟨m, rfl⟩ : ∃ m, M = m + 1 := ⟨M - 1, by omega⟩
      rw [hwX, show 2 * (m + 1) - 1 = 2 * m + 1 by omega]
      grind
    omega
  · generalize 2 ^ t * 10 ^ a = X at *
    have e2 : 2 * M * X = M * w := by rw [hwX]; grind
    have : 1 * w ≤ M * w := Nat.mul_le_mul_right _ hM1
    omega
  · generalize 2 ^ t * 10 ^ a = X at *
    have e2 : 2 * M * X = M * w := by rw [hwX]; grind
    have h1 : M * w ≤ 9007199254740992 * w := Nat.mul_le_mul_right _ hM17
    have e3 : (10 : Nat) ^ 17 = 100000000000000000 := by decide
    rw [e2, e3]
    omega

theorem num_pow (f z K q : Nat) (most : Int) (a : Nat) (ha : a = 400) (hf : (f = 52 ∧ z = 11 ∧ K = 2 ^ 55) ∨ (f = 23 ∧ z = 40 ∧ K = 2 ^ 26)) (hq : 2 ≤ q) (hq2 : q ≤ 2046)
    (e311 : Nat) (he311 : e311 = 311) (hT1 : T2 f (q * 2 ^ f) < 2 ^ lst f * 10 ^ e311)
    (hcert : certS K z (((q - 2 : Nat) : Int) + 1 - (lst f : Int)) = true) :
    ∃ s hi lo : Nat, rowOf (pOf2 (((q - 2 : Nat) : Int) + 1 - (lst f : Int))) = (hi, lo) ∧ -348 ≤ pOf2 (((q - 2 : Nat) : Int) + 1 - (lst f : Int)) ∧ pOf2 (((q - 2 : Nat) : Int) + 1 - (lst f : Int)) ≤ 347 ∧ (s : Int) = -(((q - 2 : Nat) : Int) - (lst f : Int) - ((z - 1 : Nat) : Int) + lpOf (pOf2 (((q - 2 : Nat) : Int) + 1 - (lst f : Int))) + 3) ∧ s ≤ 63 ∧ 1 ≤ hi ∧ hi < 2 ^ 64 ∧ lo < 2 ^ 64 ∧
      SfOk f (q * 2 ^ f) a (q * 2 ^ f % 2) (z - 1) 0 (4 * 2 ^ f - 1) (4 * 2 ^ f) (4 * 2 ^ f + 2) most (pOf2 (((q - 2 : Nat) : Int) + 1 - (lst f : Int))) s hi lo := by
  obtain ⟨t, ht⟩ : ∃ t, t = q - 2 := ⟨_, rfl⟩
  have hP0 : 0 < 2 ^ f := Nat.two_pow_pos f
  have hPb : 8388608 ≤ 2 ^ f ∧ 2 ^ f ≤ 4503599627370496 := by rcases hf with ⟨rfl, _⟩ | ⟨rfl, _⟩ <;> decide
  have hev : q * 2 ^ f % 2 = 0 := by
    have : 2 ^ f % 2 = 0 := by rcases hf with ⟨rfl, _⟩ | ⟨rfl, _⟩ <;> decide
    rw [Nat.mul_mod, this, Nat.mul_zero]
  have hcq : (q * 2 ^ f + 1) / 2 ^ f ≤ 2100 := by
    have : (q * 2 ^ f + 1) / 2 ^ f = q := by
      refine Nat.div_eq_of_lt_le (by omega) ?_
      rw [Nat.add_mul]; omega
    omega
  have hcb : q * 2 ^ f < 18446744073709550000 := by
    have : q * 2 ^ f ≤ 2046 * 4503599627370496 := Nat.mul_le_mul hq2 hPb.2
    omega
  have hc1 : 1 ≤ q * 2 ^ f := Nat.mul_pos (by omega) hP0
  have hT := T2_at f q 0 hP0
  have hTp := T2_up f q 0 hP0
  have hTm := T2_down0 f q (by omega)
  rw [if_neg (by omega), Nat.add_zero] at hT hTp hTm
  rw [← ht] at hcert ⊢
  obtain ⟨p, hp⟩ : ∃ p, p = pOf2 ((t : Int) + 1 - (lst f : Int)) := ⟨_, rfl⟩
  unfold certS at hcert
  rw [Bool.and_eq_true, ← hp, show (t : Int) + 1 - (lst f : Int) - 1 = (t : Int) - (lst f : Int) by omega] at hcert
  rw [← hp]
  have hz1 : 1 ≤ z - 1 := by omega
  have hp347 : p ≤ 347 := by
    obtain ⟨_, _, _, _, _, h, _⟩ := certP_ok hz1 hcert.1
    exact h
  have hw := widthS_ok f t a p (by omega) hcert.2
  obtain ⟨u, hu⟩ : ∃ u, u = 2 ^ (lst f + 1) * 10 ^ ((a : Int) - p).toNat := ⟨_, rfl⟩
  rw [← hu] at hw
  have hu0 : 0 < u := by rw [hu]; exact Nat.mul_pos (Nat.two_pow_pos _) (Nat.pow_pos (by decide))
  have hwX : 2 ^ (t + 2) * 10 ^ a = 4 * (2 ^ t * 10 ^ a) := by rw [Nat.pow_add]; grind
  rw [hwX] at hw
  have hX : 0 < 2 ^ t * 10 ^ a := Nat.mul_pos (Nat.two_pow_pos _) (Nat.pow_pos (by decide))
  have ek : ∀ k : Nat, k * 2 ^ t * 10 ^ a = k * (2 ^ t * 10 ^ a) := fun k => Nat.mul_assoc ..
  have hK : 4 * 2 ^ f + 2 ≤ K := by rcases hf with ⟨rfl, _, rfl⟩ | ⟨rfl, _, rfl⟩ <;> decide
  have hj : (4 * 2 ^ f + 2) * 2 ^ (z - 1 - 1 + 0) < 2 ^ 64 := by rcases hf with ⟨rfl, rfl, _⟩ | ⟨rfl, rfl, _⟩ <;> decide
  have hq1 : 2 ^ (q - 1) = 2 * 2 ^ t := by rw [show q - 1 = t + 1 by omega, Nat.pow_succ]; omega
  rw [hq1] at hT hTp
  rw [← ht] at hTm
  have hfz : f = 52 ∨ f = 23 := by rcases hf with ⟨h, _⟩ | ⟨h, _⟩; exact .inl h; exact .inr h
  clear hf
  generalize hPP : 2 ^ f = P at *
  have hc2' := hcq
  refine sfU f (q * P) most a (by omega) hfz hc1 hcb (by rw [hPP]; exact hcq) (by rw [hT]; exact Nat.mul_pos (by omega) (Nat.mul_pos (by decide) (Nat.two_pow_pos _))) e311 he311 hT1 (4 * P - 1) (4 * P) (4 * P + 2) t (z - 1) 0 K p
    (by rw [hT]; grind) (by
      rw [hTm, hT]
      have e : P - 1 + P + 2 * P = 4 * P - 1 := by omega
      rw [← e]
      grind) (by
      rw [hTp, hT]
      grind) hz1 hcert.1 (by omega) (by omega) (by omega) hK (by omega) (by omega) hj u hu ?_ ?_ ?_ ?_ ?_
  all_goals rw [ek]
  · rw [ek, ek]
    right; right
    refine ⟨?_, hev⟩
    generalize 2 ^ t * 10 ^ a = X at *
    have e1 : (4 * P + 2) * X = (4 * P - 1) * X + 3 * X := by
      rw [← Nat.add_mul]; congr 1; omega
    omega
  · rw [ek]
    generalize 2 ^ t * 10 ^ a = X at *
    have e1 : (4 * P + 2) * X = (4 * P - 1) * X + 3 * X := by
      rw [← Nat.add_mul]; congr 1; omega
    omega
  · generalize 2 ^ t * 10 ^ a = X at *
    have : 12 * X ≤ 4 * P * X := Nat.mul_le_mul_right _ (by omega)
    omega
  · generalize 2 ^ t * 10 ^ a = X at *
    have h1 : 4 * P * X ≤ 4 * 4503599627370496 * X := Nat.mul_le_mul_right _ (by omega)
    have e3 : (10 : Nat) ^ 17 = 100000000000000000 := by decide
    rw [e3]
    omega
  · intro h1
    generalize 2 ^ t * 10 ^ a = X at *
    have : 400 * X ≤ 4 * P * X := Nat.mul_le_mul_right _ (by omega)
    exact absurd h1 (by omega)
end Go.Proofs.YtiopeaponffmdaaDoor.PAll
-- YtiopeaponffmdaaDoorFc
namespace Go.Proofs.YtiopeaponffmdaaDoor.PAll
open Go.RowKit Go.Proofs.YtiopeaponffmdaaDoorW.PrintWords Go.Proofs.YtiopeaponffmdaaDoorW.PrintLast Go.Proofs.YtiopeaponffmdaaDoorW.PrintMore
open Go.Sort Go.Lib


/-- what formatBase10 leaves in the block -/
def FbPost (b d nd : Nat) (c : Array Value) (T : TypeId) (w : World) (e : Ending) (w' : World) : Prop :=
  e = .returned (.tuple #[]) ∧ ∃ c', w'.heap[b]? = some (.cells c' T (0, 0)) ∧ c'.size = c.size ∧ (∀ j, j < nd → c'[j]? = some (.int .u8 ((48 + d / 10 ^ (nd - 1 - j) % 10 : Nat) : Int))) ∧ (∀ j, nd ≤ j → c'[j]? = c[j]?) ∧ KeepBut w w' b none ∧ (∀ B w0, B ≤ b → Below B w0 w → Below B w0 w')

theorem fb10_calls (b d nd cap : Nat) (c : Array Value) (T : TypeId) (w : World) (hb : w.heap[b]? = some (.cells c T (0, 0))) (hz : ∀ j, j < nd → c[j]? = some (.int .u8 0)) (hu : d < 10 ^ nd) (hd2 : d < 18446744073709551616) (hnd : nd ≤ 100) :
    Calls Tryd.prog 78 #[.slice (some ⟨b, 0, none⟩) nd cap, .int .u64 (d : Int)] w (FbPost b d nd c T w) := by
  have h := Tryd.internal_strconv_formatBase10 b 0 cap d (Array.replicate nd (0 : UInt8)) w (fun j hj => by
    have hj' : j < nd := by simpa using hj
    refine ⟨?_, ?_⟩
    · rw [blk_cell hb, Nat.zero_add, hz j hj', getElem!_pos _ j hj]; simp
    · exact blk_frozen hb _) (by simpa using hu) hd2 (by simp; omega)
  rw [Array.size_replicate] at h
  refine h.mono ?_
  rintro e w' ⟨he, n, v', dk, hw, hI⟩
  have hlt : b < w.heap.size := blk_lt hb
  have hh : ∀ i, w'.heap[i]? = if b = i then (w.heap[i]?).map (onCells (putCells (fun (b : UInt8) => Value.int .u8 (b.toNat : Int)) 0 dk)) else w.heap[i]? := fun i => by
    rw [hw]
    show ((putRow (fun (b : UInt8) => Value.int .u8 (b.toNat : Int)) w b 0 dk).heap)[i]? = _
    simp only [putRow, mapBlock, Array.getElem?_modify]
  have hsz : w'.heap.size = w.heap.size := by
    rw [hw]
    show (putRow (fun (b : UInt8) => Value.int .u8 (b.toNat : Int)) w b 0 dk).heap.size = _
    simp
  refine ⟨he, putCells (fun (b : UInt8) => Value.int .u8 (b.toNat : Int)) 0 dk c, ?_, ?_, ?_, ?_, ?_, ?_⟩
  · rw [hh, if_pos rfl, hb]; rfl
  · simp [putCells]
  · intro j hj
    have hs := hI.size
    have hc : j < c.size := by
      have := hz j hj
      rcases Nat.lt_or_ge j c.size with h | h
      · exact h
      · rw [Array.getElem?_eq_none h] at this; cases this
    simp only [putCells, Array.getElem?_mapIdx]
    rw [hz j hj]
    simp only [Option.map_some]
    rw [if_pos ⟨by omega, by omega⟩, Nat.sub_zero, hI.done j (by omega) hj]
    unfold Go.Lib.dg
    congr 2
    rw [UInt8.toNat_ofNat']
    congr 1
    have : d / 10 ^ (nd - 1 - j) % 10 < 10 := Nat.mod_lt _ (by omega)
    omega
  · intro j hj
    have hs := hI.size
    simp only [putCells, Array.getElem?_mapIdx]
    cases c[j]? with
    | none => rfl
    | some y => simp only [Option.map_some]; rw [if_neg (by omega)]
  · exact ⟨by omega, fun i _ hi _ => by rw [hh, if_neg (fun e => hi e.symm)]⟩
  · intro B w0 hB hW
    refine ⟨?_, ?_, ?_, ?_, ?_⟩
    · rw [hw]; exact hW.os
    · rw [hw]; exact hW.tape
    · rw [hw]; exact hW.output
    · rw [hsz]; exact hW.size
    · intro i hi
      rw [hh, if_neg (by omega)]
      exact hW.block i hi


/-- what setDigits leaves: the digits in the block, and how many are left without the zeros behind -/
def SdPost (b d nd : Nat) (p : Int) (c : Array Value) (T : TypeId) (w : World) (e : Ending) (w' : World) : Prop :=
  ∃ k : Nat, e = .returned (.tuple #[.int .i64 ((nd : Int) + p), .int .i64 (k : Int)]) ∧ 1 ≤ k ∧ k ≤ nd ∧ (∀ j, k ≤ j → j < nd → d / 10 ^ (nd - 1 - j) % 10 = 0) ∧ d / 10 ^ (nd - k) % 10 ≠ 0 ∧
    ∃ c', w'.heap[b]? = some (.cells c' T (0, 0)) ∧ c'.size = c.size ∧ (∀ j, j < nd → c'[j]? = some (.int .u8 ((48 + d / 10 ^ (nd - 1 - j) % 10 : Nat) : Int))) ∧ (∀ j, nd ≤ j → c'[j]? = c[j]?) ∧ KeepBut w w' b none ∧ (∀ B w0, B ≤ b → Below B w0 w → Below B w0 w')

set_option maxHeartbeats 800000 in
set_option maxRecDepth 100000 in
theorem setDigits_calls (b d nd : Nat) (p : Int) (c : Array Value) (T : TypeId) (w : World) (hb : w.heap[b]? = some (.cells c T (0, 0))) (hz : ∀ j, j < nd → c[j]? = some (.int .u8 0)) (hu : d < 10 ^ nd) (hl : 10 ^ (nd - 1) ≤ d)
    (hnd1 : 1 ≤ nd) (hnd : nd ≤ 20) (hd2 : d < 18446744073709551616) (hp0 : -2000 ≤ p) (hp1 : p ≤ 2000) :
    Calls Tryd.prog 59 #[.slice (some ⟨b, 0, none⟩) 32 32, .int .u64 (d : Int), .int .i64 p, .int .i64 (nd : Int)] w (SdPost b d nd p c T w) := by
  have HF := Lib.hid (fb10_calls b d nd 32 c T w hb hz hu hd2 (by omega))
  have htop : d / 10 ^ (nd - 1) % 10 ≠ 0 := by
    have h1 : 1 ≤ d / 10 ^ (nd - 1) := (Nat.one_le_div_iff (Nat.pow_pos (by omega))).2 hl
    have h2 : d / 10 ^ (nd - 1) < 10 := by
      rw [Nat.div_lt_iff_lt_mul (Nat.pow_pos (by omega))]
      have : 10 ^ nd = 10 * 10 ^ (nd - 1) := by rw [← Nat.pow_succ', show (nd - 1).succ = nd by omega]
      omega
    rw [Nat.mod_eq_of_lt h2]; omega
  have HT := Lib.hid htop
  clear hu hl htop hb hz
  obtain ⟨n, rfl⟩ : ∃ n, nd = n + 1 := ⟨nd - 1, by omega⟩
  go_enter Tryd.func59, Tryd.ntmps59
  go_wp2_with (fail)
  refine HF.out.mono ?_
  rintro e w' ⟨rfl, c', hb', hsz, hdig, hrest, hkeep, hbel⟩
  have HA := Lib.hid hb'
  have HS := Lib.hid hsz
  have HD := Lib.hid hdig
  have HR := Lib.hid hrest
  have HK := Lib.hid hkeep
  have HB := Lib.hid hbel
  clear hb' hsz hdig hrest hkeep hbel
  go_wp2_with (fail)
  go_loop [3] (fun i => ∃ j : Nat, j ≤ n ∧ i = .int .i64 ((j : Int) + 1) ∧ Hid (∀ t, j + 1 ≤ t → t < n + 1 → d / 10 ^ (n - t) % 10 = 0)) (fun i => (RowKit.intOf i).toNat)
  case atStart => exact ⟨n, Nat.le_refl _, rfl, Lib.hid (fun t h1 h2 => by omega)⟩
  case round =>
    obtain ⟨j, hj, rfl, HZ⟩ := hrel
    obtain ⟨x, hx⟩ : ∃ x, 48 + d / 10 ^ (n - j) % 10 = x := ⟨_, rfl⟩
    have hcell : w'.cell? ⟨b, j, none⟩ = some (.int .u8 (x : Int)) := by
      rw [blk_cell HA.out, HD.out j (by omega), show n + 1 - 1 - j = n - j by omega, hx]
    have bx : x < 58 := by omega
    have HX := Lib.hid hx
    clear hx
    by_cases h48 : x = 48
    · have t0 : ((x : Int) == 48) = true := by rw [beq_iff_eq]; omega
      have hz0 : d / 10 ^ (n - j) % 10 = 0 := by have := HX.out; omega
      have hj1 : 1 ≤ j := by
        refine Nat.pos_of_ne_zero fun h => ?_
        subst h
        have := HT.out
        rw [Nat.add_sub_cancel] at this
        exact this hz0
      have HZ0 := Lib.hid hz0
      clear h48 hz0
      go_wp2_with (fail)
      go_round
      case rel => exact ⟨j - 1, by omega, by rw [show ((j - 1 : Nat) : Int) + 1 = (j : Int) by omega], Lib.hid (fun t h1 h2 => by
        by_cases e : t = j
        · rw [e]; exact HZ0.out
        · exact HZ.out t (by omega) h2)⟩
      case measure => simp [RowKit.intOf]
    · have t0 : ((x : Int) == 48) = false := by rw [beq_eq_false_iff_ne]; omega
      clear h48
      have fin : ∀ v : Value, v = .tuple #[.int .i64 ((n : Int) + 1 + p), .int .i64 ((j : Int) + 1)] → SdPost b d (n + 1) p c T w (.returned v) w' := fun v hv => by
        refine ⟨j + 1, by rw [hv]; simp, by omega, by omega, ?_, ?_, c', HA.out, HS.out, HD.out, HR.out, HK.out, HB.out⟩
        · intro t h1 h2
          rw [Nat.add_sub_cancel]; exact HZ.out t h1 h2
        · have := HX.out
          have e : n + 1 - (j + 1) = n - j := by omega
          rw [e]
          have t1 := beq_eq_false_iff_ne.1 t0
          omega
      have FIN := Lib.hid fin
      clear fin
      go_wp2_with (fail)
      go_ret2
      exact FIN.out _ rfl
end Go.Proofs.YtiopeaponffmdaaDoor.PAll
-- YtiopeaponffmdaaDoorRm
namespace Go.Proofs.YtiopeaponffmdaaDoor.PAll
open Go.RowKit Go.Proofs.YtiopeaponffmdaaDoorW.PrintWords Go.Proofs.YtiopeaponffmdaaDoorW.PrintLast Go.Proofs.YtiopeaponffmdaaDoorW.PrintMore
open Go.Builtin
set_option linter.unusedVariables false

/-- none of the first n cells is frozen -/
def FreeM (fz : Nat × Nat) (n : Nat) : Prop := ∀ k, k < n → ¬ (fz.1 ≤ k ∧ k < fz.2)

def OwnM (w : World) (base : Nat) (e : TypeId) (v : Value) (n : Nat) (xs : List Value) : Prop :=
  xs.length = n ∧
  ((v = .slice none 0 0 ∧ n = 0) ∨
   ∃ g cap cur fz, v = .slice (some ⟨g, 0, none⟩) n cap ∧ base ≤ g ∧ w.heap[g]? = some (.cells cur e fz) ∧ FreeM fz cur.size ∧ n ≤ cap ∧ cap ≤ maxLen ∧ cur.size = cap ∧ cur.toList.take n = xs)

theorem OwnM.of_own {w : World} {base : Nat} {e : TypeId} {v : Value} {n : Nat} {xs : List Value} (h : w.ownsRow base e 1 v n xs) : OwnM w base e v n xs := by
  refine ⟨by have := h.1; simpa using this, ?_⟩
  rcases h.2 with hn | ⟨g, cap, cur, hv, hb, hg, h1, h2, h3, h4⟩
  · exact .inl hn
  · exact .inr ⟨g, cap, cur, (0, 0), hv, hb, hg, fun k _ h => by have := h.2; simp at this, h1, h2, by simpa using h3, by simpa using h4⟩

section
variable {w w' : World} {base : Nat} {e : TypeId} {v : Value} {n : Nat} {xs : List Value}
theorem OwnM.lt (h : OwnM w base e v n xs) : ∀ k, v.ownBlock = some k → base ≤ k ∧ k < w.heap.size := by
  intro k hk
  rcases h.2 with ⟨rfl, _⟩ | ⟨g, cap, cur, fz, rfl, hb, hg, _⟩
  · simp [Value.ownBlock] at hk
  · simp [Value.ownBlock] at hk
    subst hk
    exact ⟨hb, (Array.getElem?_eq_some_iff.1 hg).1⟩
theorem OwnM.move (h : OwnM w base e v n xs) (hm : ∀ k, v.ownBlock = some k → w'.heap[k]? = w.heap[k]?) : OwnM w' base e v n xs := by
  refine ⟨h.1, ?_⟩
  rcases h.2 with hn | ⟨g, cap, cur, fz, rfl, hb, hgg, rest⟩
  · exact .inl hn
  · exact .inr ⟨g, cap, cur, fz, rfl, hb, by rw [hm g (by simp [Value.ownBlock])]; exact hgg, rest⟩
theorem OwnM.cells (h : OwnM w base e v n xs) {g : Nat} (hg : v.ownBlock = some g) : ∀ j u, xs[j]? = some u → w.cell? ((⟨g, 0, none⟩ : Addr).add j) = some u := by
  intro j u hu
  rcases h.2 with ⟨rfl, _⟩ | ⟨g', cap, cur, fz, rfl, _, hgg, _, _, _, _, htake⟩
  · simp [Value.ownBlock] at hg
  · simp [Value.ownBlock] at hg
    subst hg
    have hadd : (⟨g', 0, none⟩ : Addr).add j = ⟨g', j, none⟩ := by unfold Addr.add; split <;> simp_all
    rw [hadd, cell_of_row w g' j cur e fz hgg]
    rw [← htake, List.getElem?_take] at hu
    split at hu
    · simpa using hu
    · cases hu
end

theorem run_storeCells_atM (P : Program) (g o : Nat) (t : TypeId) (fz : Nat × Nat) : ∀ (vs : List Value) (i : Nat) (cur : Array Value) (w : World), w.heap[g]? = some (.cells cur t fz) → FreeM fz cur.size → o + i + vs.length ≤ cur.size → (∀ v ∈ vs, v.oneCell' = true) →
    (storeCells ⟨g, o, none⟩ vs i).run P w = .ok () (w.setRow g (cur.toList.take (o + i) ++ vs ++ cur.toList.drop (o + i + vs.length)).toArray)
  | [], i, cur, w, hg, _, _, _ => by
    simp only [storeCells, List.append_nil, List.length_nil, Nat.add_zero, List.take_append_drop, Array.toArray_toList]
    rw [setRow_self w g cur t fz hg]
    rfl
  | v :: rest, i, cur, w, hg, hfz, hl, h1 => by
    have hi : o + i < cur.size := by simp at hl; omega
    have hadd : (⟨g, o, none⟩ : Addr).add i = ⟨g, o + i, none⟩ := by unfold Addr.add; split <;> simp_all
    have hcell : w.cell? ⟨g, o + i, none⟩ = some cur[o + i] := by simp [World.cell?, hg, hi]
    have hfro : w.frozen? ⟨g, o + i, none⟩ = false := by
      have := hfz (o + i) hi
      obtain ⟨lo, hi'⟩ := fz
      simp only [World.frozen?, hg, Bool.and_eq_false_iff, decide_eq_false_iff_not]
      simp only at this
      omega
    have hst : (store ((⟨g, o, none⟩ : Addr).add i) v).run P w = .ok () (w.setRow g (cur.setIfInBounds (o + i) v)) := by
      rw [hadd, run_store P w _ v _ (h1 v (by simp)), hcell]
      simp [hfro, setCell_eq_setRow w g (o + i) cur t fz v hg]
    have ih := run_storeCells_atM P g o t fz rest (i + 1) (cur.setIfInBounds (o + i) v) (w.setRow g (cur.setIfInBounds (o + i) v)) (setRow_heap w g cur _ t _ hg) (by simpa using hfz) (by simp at hl ⊢; omega) (fun x hx => h1 x (by simp [hx]))
    simp only [storeCells, Sem.run_bind, hst, Result.andThen_ok, ih, setRow_setRow]
    congr 3
    have e := list_seg_step cur.toList (o + i) v rest (by simp at hl ⊢; omega)
    simpa [Array.toList_setIfInBounds, Nat.add_assoc] using e

theorem run_append_M {P : Program} (w : World) (base : Nat) (t ty e : TypeId) (i : TypeInfo) (z : Value) (bytes : Nat) (ht : P.underlying t = some (.slice e)) (hi : P.info? e = some i) (hz : i.zero = some z)
    (hsize : i.size = 1) (hby : i.bytes = bytes) (hzs : z.cells.size = 1)
    (v : Value) (n : Nat) (xs : List Value) (hown : OwnM w base e v n xs)
    (a : Addr) (m c : Nat) (news : List Value) (hl : news.length = m) (hnews : ∀ j u, news[j]? = some u → w.cell? (a.add j) = some u) (h1 : ∀ u ∈ news, u.oneCell' = true)
    (h63 : n + m ≤ maxLen) (hbytes : (n + m) * bytes ≤ 140737488355328) (hbase : base ≤ w.heap.size) :
    ∃ v' w', (Builtin.append_ #[t, t] ty #[v, .slice (some a) m c]).run P w = .ok v' w' ∧ OwnM w' base e v' (n + m) (xs ++ news) ∧ w.grownBy w' v.ownBlock ∧ (v'.ownBlock = v.ownBlock ∨ v'.ownBlock = some w.heap.size) := by
  rcases hown.2 with ⟨rfl, rfl⟩ | ⟨g, cap, cur, fz, rfl, hbg, hg, hfz, hnc, hcm, hcs, htake⟩
  · obtain ⟨v', w', r1, r2, r3, _, r5⟩ := run_append_own_at (P := P) w base t ty e i z 1 bytes ht hi hz hsize hby hzs (by omega) (.slice none 0 0) 0 xs ⟨by have := hown.1; simpa using this, .inl ⟨rfl, rfl⟩⟩ a m c news (by simpa using hl) hnews h1 h63 hbytes hbase
    exact ⟨v', w', r1, OwnM.of_own r2, r3, r5⟩
  · subst hby
    have hsmall : n + m ≤ 9223372036854775807 := by simp only [maxLen] at h63; omega
    have hlen : (xs ++ news).length = n + m := by rw [List.length_append, hown.1, hl]
    by_cases hroom : n + m ≤ cap
    · have hfit : n * i.size + news.length ≤ cur.size := by rw [hl, hcs, hsize]; omega
      have hf := run_firstCells_some (P := P) w i.size m a m c news (by rw [hsize]; simpa using hl) hnews
      have hst := run_storeCells_atM P g (n * i.size) e fz news 0 cur w hg hfz (by simpa using hfit) h1
      simp only [Nat.add_zero] at hst
      have hr : (Builtin.append_ #[t, t] ty #[.slice (some ⟨g, 0, none⟩) n cap, .slice (some a) m c]).run P w =
          .ok (.slice (some ⟨g, 0, none⟩) (n + m) cap) (w.setRow g (cur.toList.take (n * i.size) ++ news ++ cur.toList.drop (n * i.size + news.length)).toArray) := by
        simp [Builtin.append_, run_underlying ht, sizeOf, typeInfo, hi, Builtin.lenOf, hroom, hf, Addr.add_lit, hst]
      rw [hsize, Nat.mul_one] at hr
      have hsz : (cur.toList.take n ++ news ++ cur.toList.drop (n + news.length)).toArray.size = cap := by
        simp only [List.size_toArray, List.length_append, List.length_take, List.length_drop, Array.length_toList]
        omega
      refine ⟨_, _, hr, ⟨hlen, .inr ⟨g, cap, _, fz, rfl, hbg, setRow_heap w g cur _ e _ hg, by rw [hsz]; rw [hcs] at hfz; exact hfz, hroom, hcm, hsz, ?_⟩⟩, ⟨rfl, rfl, rfl, by simp, fun k _ hk => setRow_other w g k _ (fun e => hk (by simp [Value.ownBlock, e]))⟩, .inl rfl⟩
      show (cur.toList.take n ++ news ++ cur.toList.drop (n + news.length)).take (n + m) = xs ++ news
      rw [htake, ← hlen]
      exact List.take_left
    · have holds : ∀ j u, xs[j]? = some u → w.cell? ((⟨g, 0, none⟩ : Addr).add j) = some u := hown.cells (g := g) rfl
      have hr := run_append_grow (P := P) w t ty e i z ht hi hz ⟨g, 0, none⟩ n cap xs (by rw [hsize]; simpa using hown.1) holds a m c news (by rw [hsize]; simpa using hl) hnews (by omega) (by omega) (growslice_fits (by omega) hbytes)
      have hge := grownCap_ge w (n + m) cap e
      have hcm2 : grownCap w (n + m) cap e ≤ maxLen := grownCap_le_maxLen w (n + m) cap e h63
      refine ⟨_, _, hr, ⟨hlen, .inr ⟨w.heap.size, _, _, (0, 0), rfl, hbase, heap_alloc_new w.drew _, fun k _ h => by have := h.2; simp at this, hge, hcm2, ?_, ?_⟩⟩, ⟨rfl, rfl, rfl, by simp, fun k hk _ => heap_alloc_old w.drew _ hk⟩, .inr rfl⟩
      · simp only [Array.size_append, List.size_toArray, size_zeroCells, hzs, hown.1, hl]
        omega
      · simp only [Array.toList_append, List.append_assoc]
        rw [← List.append_assoc, ← hlen]
        exact List.take_left

/-- a row of bytes of one's own, mark or none -/
def RM (e : Nat) (w : World) (base : Nat) (ok : Nat → Prop) (v : Value) (xs : List Int) : Prop :=
  (∀ k, v.ownBlock = some k → ok k) ∧ OwnM w base e v xs.length (nums .u8 xs)
section
variable {w w1 W : World} {e base b : Nat} {ok ok' oku okv : Nat → Prop} {v u : Value} {xs ys : List Int}
theorem RM_mono (h : RM e w base ok v xs) (hok : ∀ k, ok k → ok' k) : RM e w base ok' v xs := ⟨fun k hk => hok k (h.1 k hk), h.2⟩
theorem RM_lt (h : RM e w base ok v xs) : ∀ k, v.ownBlock = some k → k < w.heap.size := fun k hk => (h.2.lt k hk).2
theorem RM_base (h : RM e w base ok v xs) : ∀ k, v.ownBlock = some k → base ≤ k := fun k hk => (h.2.lt k hk).1
theorem RM_step (h : RM e w base ok v xs) (hm : ∀ k, ok k → k < w.heap.size → w1.heap[k]? = w.heap[k]?) : RM e w1 base ok v xs :=
  ⟨h.1, h.2.move (fun k hk => hm k (h.1 k hk) (RM_lt h k hk))⟩
theorem RM_below (h : RM e w base ok v xs) (hb : Below w.heap.size w w1) : RM e w1 base ok v xs := RM_step h (fun k _ hk => hb.block k hk)
theorem RM_alloc (h : RM e w base ok v xs) (o : Obj) : RM e (w.alloc o) base ok v xs := RM_below h (below_alloc (Below.refl _ _) o)
theorem RM_drew (h : RM e w base ok v xs) : RM e w.drew base ok v xs := RM_below h (below_drew (Below.refl _ _))
theorem RM_drewN (h : RM e w base ok v xs) (m : Nat) : RM e (w.drewN m) base ok v xs := RM_below h (pw_below_drewN (Below.refl _ _) m)
theorem RM_bound (h : RM e w base ok v xs) : RM e w base (fun k => ok k ∧ base ≤ k ∧ k < w.heap.size) v xs := ⟨fun k hk => ⟨h.1 k hk, h.2.lt k hk⟩, h.2⟩
theorem RM_elder' (hu : RM e W base ok u xs) (hbase : ∀ k, v.ownBlock = some k → W.heap.size ≤ k) (hb : Below W.heap.size W w1) : RM e w1 base (fun k => ok k ∧ some k ≠ v.ownBlock) u xs :=
  RM_mono (RM_step (RM_bound hu) (fun k hk hlt => hb.block k hlt)) (fun k hk => ⟨hk.1, fun he => by have := hbase k he.symm; have := hk.2.2; omega⟩)
theorem nums_get (xs : List Int) (j : Nat) (h : j < xs.length) : (nums .u8 xs)[j]? = some (.int .u8 (xs.getD j 0)) := by
  simp [nums, List.getD, h]
theorem RM_reads (h : RM e w base ok v xs) : ∃ A c, v = .slice A xs.length c ∧ xs.length ≤ c ∧ Kd.C (Kd.int .u8) w A xs.length xs := by
  rcases h.2.2 with ⟨h1, h2⟩ | ⟨g, cap, cur, fz, h1, hb, hg, hfz, h3, h4, h5, h6⟩
  · refine ⟨none, 0, by rw [h2]; exact h1, by omega, Kd.C_of_reads (enc := Value.int .u8) (d := (0 : Int)) (h1 := fun _ => rfl) ⟨rfl, by omega, fun h => by omega⟩⟩
  · refine ⟨_, _, h1, h3, Kd.C_of_reads (enc := Value.int .u8) (d := (0 : Int)) (h1 := fun _ => rfl) ⟨rfl, by simp only [maxLen] at h4; omega, fun _ => ⟨_, rfl, fun j hj => ?_⟩⟩⟩
    exact h.2.cells (g := g) (by rw [h1]; rfl) j _ (nums_get xs j hj)
end
theorem RM_appended {e base : Nat} {ok : Nat → Prop} {W w1 : World} {v v1 : Value} {xs ys : List Int} (h0 : ∀ k, v.ownBlock = some k → ok k) (hfresh : ∀ k, W.heap.size ≤ k → ok k)
    (h : OwnM w1 base e v1 (xs.length + ys.length) (nums .u8 xs ++ nums .u8 ys)) (hat : v1.ownBlock = v.ownBlock ∨ ∃ b, v1.ownBlock = some b ∧ W.heap.size ≤ b) : RM e w1 base ok v1 (xs ++ ys) := by
  refine ⟨fun k hk => ?_, by rw [nums_append, List.length_append]; exact h⟩
  rcases hat with hat | ⟨b, hb, hle⟩
  · exact h0 k (by rw [← hat]; exact hk)
  · rw [hb] at hk; injection hk with hk; exact hfresh k (by omega)
section
variable {P : Program} {ops : Array Oper} {rest : List Oper} {o : Oper} {a : Act} {Q : Exit → Act → World → Prop}
theorem wpList_append_M (w : World) (hgd : o.guard = none) (s x : Operand) (t : TypeId)
    (ho : o.op = .call { callee := .builtin .append, args := #[s, x], argTypes := #[t, t] })
    (base : Nat) (e : TypeId) (i : TypeInfo) (z : Value) (bytes : Nat) (ht : P.underlying t = some (.slice e)) (hi : P.info? e = some i) (hz : i.zero = some z)
    (hsize : i.size = 1) (hby : i.bytes = bytes) (hzs : z.cells.size = 1)
    (v : Value) (n : Nat) (xs : List Value) (hs : a.eval s = v) (hown : OwnM w base e v n xs)
    (ad : Addr) (m c : Nat) (news : List Value) (hx : a.eval x = .slice (some ad) m c) (hl : news.length = m) (hnews : ∀ j u, news[j]? = some u → w.cell? (ad.add j) = some u) (h1 : ∀ u ∈ news, u.oneCell' = true)
    (h63 : n + m ≤ maxLen) (hbytes : (n + m) * bytes ≤ 140737488355328) (hbase : base ≤ w.heap.size)
    (h : ∀ v' w', OwnM w' base e v' (n + m) (xs ++ news) → w.grownBy w' v.ownBlock → (v'.ownBlock = v.ownBlock ∨ v'.ownBlock = some w.heap.size) → wpList P ops Q rest (a.put o.dst v') w') :
    wpList P ops Q (o :: rest) a w := by
  refine wpList_plain hgd fun K hK => ?_
  obtain ⟨v', w', hr, h2, h3, h5⟩ := run_append_M (P := P) w base t o.type e i z bytes ht hi hz hsize hby hzs v n xs hown ad m c news hl hnews h1 h63 hbytes hbase
  unfold Oper.wp execOp
  simp only [ho, resolve, invoke, builtin, Sem.run_bind, Sem.run_pure, Result.andThen_ok, List.map_toArray, List.map_cons, List.map_nil, hs, hx, hr]
  exact hK _ _ (h v' w' h2 h3 h5)
theorem RM_append {w0 W : World} (base : Nat) (hgd : o.guard = none) (s x : Operand) (t e : TypeId) (z : Value) (bytes : Nat)
    (ho : o.op = .call { callee := .builtin .append, args := #[s, x], argTypes := #[t, t] })
    (ht : P.underlying t = some (.slice e)) (hinfo : (P.info? e).map (fun i => (i.zero, i.size, i.bytes)) = some (some z, 1, bytes)) (hz : z.cells.size = 1) (hb0 : 0 < bytes)
    (v : Value) (xs : List Int) (p : Int) (cs : List Value) (ok okp : Nat → Prop) (hs : a.eval s = v) (hx : a.eval x = .slice (some ⟨W.heap.size, 0, none⟩) 1 1) (hp : cs = [.int .u8 p]) (hokp : ∀ k, okp k → ok k ∧ some k ≠ v.ownBlock) (hfresh : ∀ k, W.heap.size ≤ k → ok k)
    (HO : RM e W base ok v xs) (HB : Below base w0 W) (hbase : base ≤ W.heap.size) (hl : (xs.length + 1) * bytes ≤ 140737488355328)
    (h : ∀ v1 w1, RM e w1 base ok v1 (xs ++ [p]) → Below base w0 w1 → W.grownBy w1 v.ownBlock → (v1.ownBlock = v.ownBlock ∨ ∃ b, v1.ownBlock = some b ∧ W.heap.size ≤ b) → wpList P ops Q rest (a.put o.dst v1) w1) :
    wpList P ops Q (o :: rest) a (W.alloc (.cells cs.toArray e)) := by
  subst hp
  obtain ⟨i0, hi, hzz⟩ := Option.map_eq_some_iff.1 hinfo
  simp only [Prod.mk.injEq] at hzz
  obtain ⟨hz0, hz1, hz2⟩ := hzz
  have hlen : xs.length + 1 ≤ 140737488355328 := Nat.le_trans (Nat.le_mul_of_pos_right _ hb0) hl
  refine wpList_append_M (W.alloc (.cells [.int .u8 p].toArray e)) hgd s x t ho base e i0 z bytes ht hi hz0 hz1 hz2 hz v xs.length (nums .u8 xs) hs (RM_alloc HO _).2 ⟨W.heap.size, 0, none⟩ 1 1 [.int .u8 p] hx rfl
    (by simpa using cell_one_new W (.int .u8 p) e) (by simp [Value.oneCell']) (by simp only [maxLen]; omega) hl (by simp; omega) ?_
  intro v1 w1 hown hg hat
  have hat' : v1.ownBlock = v.ownBlock ∨ ∃ b, v1.ownBlock = some b ∧ W.heap.size ≤ b := by
    rcases hat with hat | hat
    · exact .inl hat
    · exact .inr ⟨_, hat, by simp⟩
  exact h v1 w1 (RM_appended (ys := [p]) HO.1 hfresh hown hat') ((HB.alloc hbase _).grown hg (by simp; omega) (RM_base HO)) (World.grownBy.trans (World.grownBy_alloc W _ _) hg) hat'
theorem RM_append_rows {w0 W : World} (base : Nat) (hgd : o.guard = none) (s x : Operand) (t e : TypeId) (z : Value) (bytes : Nat)
    (ho : o.op = .call { callee := .builtin .append, args := #[s, x], argTypes := #[t, t] })
    (ht : P.underlying t = some (.slice e)) (hinfo : (P.info? e).map (fun i => (i.zero, i.size, i.bytes)) = some (some z, 1, bytes)) (hz : z.cells.size = 1) (hb0 : 0 < bytes)
    (v : Value) (xs ys : List Int) (A : Option Addr) (m c : Nat) (ok okp : Nat → Prop) (hs : a.eval s = v) (hx : a.eval x = .slice A m c)
    (HO : RM e W base ok v xs) (HR : Kd.C (Kd.int .u8) W A m ys) (hfresh : ∀ k, W.heap.size ≤ k → ok k)
    (HB : Below base w0 W) (hbase : base ≤ W.heap.size) (hl : (xs.length + m) * bytes ≤ 140737488355328)
    (h : ∀ v1 w1, RM e w1 base ok v1 (xs ++ ys) → Below base w0 w1 → W.grownBy w1 v.ownBlock → (v1.ownBlock = v.ownBlock ∨ ∃ b, v1.ownBlock = some b ∧ W.heap.size ≤ b) → wpList P ops Q rest (a.put o.dst v1) w1) :
    wpList P ops Q (o :: rest) a W := by
  obtain ⟨i0, hi, hzz⟩ := Option.map_eq_some_iff.1 hinfo
  simp only [Prod.mk.injEq] at hzz
  obtain ⟨hz0, hz1, hz2⟩ := hzz
  have hlen : xs.length + m ≤ 140737488355328 := Nat.le_trans (Nat.le_mul_of_pos_right _ hb0) hl
  have hm : ys.length = m := HR.1
  rcases A with _ | ad
  · have h0 : m = 0 := by
      rcases Nat.eq_zero_or_pos m with h0 | h0
      · exact h0
      · obtain ⟨ad, h, _⟩ := HR.2.2 h0
        cases h
    subst h0
    obtain rfl : ys = [] := List.eq_nil_of_length_eq_zero hm
    refine wpList_plain hgd fun K hK => ?_
    have hr : (Builtin.append_ #[t, t] o.type #[v, .slice none 0 c]).run P W = .ok v W := by
      rcases HO.2.2 with ⟨rfl, hn⟩ | ⟨g, cap, cur, fz, rfl, _, _, _, hnc, _⟩
      · simp [Builtin.append_, run_underlying ht, sizeOf, typeInfo, hi, Builtin.lenOf, Builtin.firstCells]
      · simp [Builtin.append_, run_underlying ht, sizeOf, typeInfo, hi, Builtin.lenOf, Builtin.firstCells, hnc, storeCells]
    unfold Oper.wp execOp
    simp only [ho, resolve, invoke, builtin, Sem.run_bind, Sem.run_pure, Result.andThen_ok, List.map_toArray, List.map_cons, List.map_nil, hs, hx, hr]
    exact hK _ _ (h v W (by rw [List.append_nil]; exact HO) HB (World.grownBy.refl W _) (.inl rfl))
  · refine wpList_append_M W hgd s x t ho base e i0 z bytes ht hi hz0 hz1 hz2 hz v xs.length (nums .u8 xs) hs HO.2 ad m c (nums .u8 ys) hx (by rw [nums_length]; exact hm) ?_ (by simp [nums, Value.oneCell']) (by simp only [maxLen]; omega) hl hbase ?_
    · intro j u hu
      have hj : j < ys.length := by
        have := (List.getElem?_eq_some_iff.1 hu).1
        rw [nums_length] at this; exact this
      obtain ⟨ad', he, hc⟩ := HR.2.2 (by omega)
      injection he with he
      subst he
      obtain ⟨cs, _, hcs, hcell⟩ := hc j _ (List.getElem?_eq_getElem hj)
      have hcs' : cs = [Value.int .u8 ys[j]] := hcs
      subst hcs'
      have hu' : u = .int .u8 ys[j] := by
        simp only [nums, List.getElem?_map, List.getElem?_eq_getElem hj, Option.map_some, Option.some.injEq] at hu
        exact hu.symm
      have := hcell 0 u (by rw [hu']; rfl)
      simpa [Kd.int, Kd.scalar] using this
    · intro v1 w1 hown hg hat
      have hat' : v1.ownBlock = v.ownBlock ∨ ∃ b, v1.ownBlock = some b ∧ W.heap.size ≤ b := by
        rcases hat with hat | hat
        · exact .inl hat
        · exact .inr ⟨_, hat, Nat.le_refl _⟩
      exact h v1 w1 (RM_appended HO.1 hfresh (by rw [hm]; exact hown) hat') (HB.grown hg hbase (RM_base HO)) hg hat'
end
end Go.Proofs.YtiopeaponffmdaaDoor.PAll
-- YtiopeaponffmdaaDoorPAllx5
namespace Go.Proofs.YtiopeaponffmdaaDoor.PAll
open Go.RowKit Go.Proofs.YtiopeaponffmdaaDoorW.PrintWords Go.Proofs.YtiopeaponffmdaaDoorW.PrintLast Go.Proofs.YtiopeaponffmdaaDoorW.PrintMore
attribute [local go_sem] max2_int min2_int max_two min_two max_three min_three max_four min_four   -- for this text's walks alone
set_option linter.unusedVariables false
set_option linter.unusedSimpArgs false

mutual
def strconv_fmtEFG.j0 : Nat → List Int → Bool → List Int → Int → Int → Int → Int → Bool → Bool → Option (List Int)
  | 0, _, _, _, _, _, _, _, _, _ => none
  | k + 1, x0, x1, x2, x3, x4, x5, x6, x7, x36 => if x36 = true then (if x5 > x4 then (strconv_fmtEFG.j1 k x0 x1 x2 x3 x4 x5 x6 x7 x5 (decide (x4 ≥ x3))) else (strconv_fmtEFG.j1 k x0 x1 x2 x3 x4 x5 x6 x7 x5 false)) else (strconv_fmtEFG.j5 k x0 x1 x2 x3 x4 x5 x6)
def strconv_fmtEFG.j5 : Nat → List Int → Bool → List Int → Int → Int → Int → Int → Option (List Int)
  | 0, _, _, _, _, _, _, _ => none
  | k + 1, x0, x1, x2, x3, x4, x5, x6 => if x6 = 101 then (strconv_fmtEFG.j6 k x0 x1 x2 x3 x4 x5 x6 x6 (x6 == 101)) else (strconv_fmtEFG.j6 k x0 x1 x2 x3 x4 x5 x6 x6 (x6 == 69))
def strconv_fmtEFG.j6 : Nat → List Int → Bool → List Int → Int → Int → Int → Int → Int → Bool → Option (List Int)
  | 0, _, _, _, _, _, _, _, _, _ => none
  | k + 1, x0, x1, x2, x3, x4, x5, x6, x74, x75 => if x75 = true then (if x1 = true then (if x0.length < 140737488355328 then (strconv_fmtEFG.j7 k (x0 ++ [45]) x2 x3 x4 x5 x6) else (none)) else (strconv_fmtEFG.j7 k x0 x2 x3 x4 x5 x6)) else (if x74 = 102 then (if x1 = true then (if x0.length < 140737488355328 then (strconv_fmtEFG.j14 k (x0 ++ [45]) x2 x3 x4 x5) else (none)) else (strconv_fmtEFG.j14 k x0 x2 x3 x4 x5)) else ((some (([37, x6] : List Int) : List Int)).bind fun y250 => (if x0.length + y250.length < 140737488355328 then (some (x0 ++ y250)) else (none))))
def strconv_fmtEFG.j7 : Nat → List Int → List Int → Int → Int → Int → Int → Option (List Int)
  | 0, _, _, _, _, _, _ => none
  | k + 1, x0, x2, x3, x4, x5, x6 => if x4 = 0 then (strconv_fmtEFG.j8 k x0 x2 x3 x4 x5 x6 48) else (if 0 < (x2.length : Int) then (strconv_fmtEFG.j8 k x0 x2 x3 x4 x5 x6 (rd x2 0)) else (none))
def strconv_fmtEFG.j8 : Nat → List Int → List Int → Int → Int → Int → Int → Int → Option (List Int)
  | 0, _, _, _, _, _, _, _ => none
  | k + 1, x0, x2, x3, x4, x5, x6, x19 => if x0.length < 140737488355328 then ((some (x0 ++ [x19] : List Int)).bind fun y180 => (if x5 > 0 then (if y180.length < 140737488355328 then ((some (y180 ++ [46] : List Int)).bind fun y183 => (if 1 < (mn x4 (wrap64 (x5 + 1))) then (if 1 ≤ (mn x4 (wrap64 (x5 + 1))) then (if (mn x4 (wrap64 (x5 + 1))) ≤ (x2.length : Int) then ((some ((x2.take ((mn x4 (wrap64 (x5 + 1))) : Int).toNat).drop 1 : List Int)).bind fun y186 => (if y183.length + y186.length < 140737488355328 then (strconv_fmtEFG.j9 k (y183 ++ y186) x3 x4 x5 x6 (mn x4 (wrap64 (x5 + 1)))) else (none))) else (none)) else (none)) else (strconv_fmtEFG.j9 k y183 x3 x4 x5 x6 1))) else (none)) else (strconv_fmtEFG.j11 k y180 x3 x4 x6))) else (none)
def strconv_fmtEFG.j11 : Nat → List Int → Int → Int → Int → Option (List Int)
  | 0, _, _, _, _ => none
  | k + 1, x0, x3, x4, x6 => if x0.length < 140737488355328 then ((some (x0 ++ [x6] : List Int)).bind fun y196 => (if x4 = 0 then (strconv_fmtEFG.j12 k y196 0) else (strconv_fmtEFG.j12 k y196 (wrap64 (x3 - 1))))) else (none)
def strconv_fmtEFG.j12 : Nat → List Int → Int → Option (List Int)
  | 0, _, _ => none
  | k + 1, x0, x22 => if x22 < 0 then (strconv_fmtEFG.j13 k x0 45 (wrap64 (-x22))) else (strconv_fmtEFG.j13 k x0 43 x22)
def strconv_fmtEFG.j13 : Nat → List Int → Int → Int → Option (List Int)
  | 0, _, _, _ => none
  | k + 1, x0, x19, x22 => if x0.length < 140737488355328 then ((some (x0 ++ [x19] : List Int)).bind fun y199 => (if x22 < 10 then ((some (([48, (((x22) % 256) + 48) % 256] : List Int) : List Int)).bind fun y202 => (if y199.length + y202.length < 140737488355328 then (some (y199 ++ y202)) else (none))) else (if x22 < 100 then ((some (([(((wrap64 (Int.tdiv x22 10)) % 256) + 48) % 256, (((Int.tmod x22 10) % 256) + 48) % 256] : List Int) : List Int)).bind fun y208 => (if y199.length + y208.length < 140737488355328 then (some (y199 ++ y208)) else (none))) else ((some (([(((wrap64 (Int.tdiv x22 100)) % 256) + 48) % 256, (((wrap64 (Int.tdiv x22 10)) % 256) % 10) + 48, (((Int.tmod x22 10) % 256) + 48) % 256] : List Int) : List Int)).bind fun y214 => (if y199.length + y214.length < 140737488355328 then (some (y199 ++ y214)) else (none)))))) else (none)
def strconv_fmtEFG.j9 : Nat → List Int → Int → Int → Int → Int → Int → Option (List Int)
  | 0, _, _, _, _, _, _ => none
  | k + 1, x0, x3, x4, x5, x6, x20 => strconv_fmtEFG.l0 k x0 x3 x4 x6 (wrap64 ((wrap64 (x5 + 1)) - x20)) 0
def strconv_fmtEFG.l0 : Nat → List Int → Int → Int → Int → Int → Int → Option (List Int)
  | 0, _, _, _, _, _, _ => none
  | k + 1, x0, x3, x4, x6, x113, x114 => if x114 < x113 then (if x0.length < 140737488355328 then (strconv_fmtEFG.l0 k (x0 ++ [48]) x3 x4 x6 x113 (wrap64 (x114 + 1))) else (none)) else (strconv_fmtEFG.j11 k x0 x3 x4 x6)
def strconv_fmtEFG.j14 : Nat → List Int → List Int → Int → Int → Int → Option (List Int)
  | 0, _, _, _, _, _ => none
  | k + 1, x0, x2, x3, x4, x5 => if x3 > 0 then (if 0 ≤ (mn x4 x3) then (if (mn x4 x3) ≤ (x2.length : Int) then ((some (x2.take ((mn x4 x3) : Int).toNat : List Int)).bind fun y223 => (strconv_fmtEFG.l1 k x0 x2 x3 x4 x5 (mn x4 x3) y223 (y223.length : Int) 0)) else (none)) else (none)) else (if x0.length < 140737488355328 then (strconv_fmtEFG.j17 k (x0 ++ [48]) x2 x3 x4 x5) else (none))
def strconv_fmtEFG.j17 : Nat → List Int → List Int → Int → Int → Int → Option (List Int)
  | 0, _, _, _, _, _ => none
  | k + 1, x0, x2, x3, x4, x5 => if x5 > 0 then (if x0.length < 140737488355328 then (strconv_fmtEFG.l3 k (x0 ++ [46]) x2 (wrap64 (x3 + (mn x5 (mx 0 (wrap64 (-x3)))))) (mn (wrap64 (x5 - (mn x5 (mx 0 (wrap64 (-x3)))))) (mx 0 (wrap64 (x4 - (wrap64 (x3 + (mn x5 (mx 0 (wrap64 (-x3)))))))))) (mx 0 (wrap64 ((wrap64 (x5 - (mn x5 (mx 0 (wrap64 (-x3)))))) - (mn (wrap64 (x5 - (mn x5 (mx 0 (wrap64 (-x3)))))) (mx 0 (wrap64 (x4 - (wrap64 (x3 + (mn x5 (mx 0 (wrap64 (-x3))))))))))))) (mn x5 (mx 0 (wrap64 (-x3)))) 0) else (none)) else (some x0)
def strconv_fmtEFG.l3 : Nat → List Int → List Int → Int → Int → Int → Int → Int → Option (List Int)
  | 0, _, _, _, _, _, _, _ => none
  | k + 1, x0, x2, x27, x28, x29, x239, x240 => if x240 < x239 then (if x0.length < 140737488355328 then (strconv_fmtEFG.l3 k (x0 ++ [48]) x2 x27 x28 x29 x239 (wrap64 (x240 + 1))) else (none)) else (strconv_fmtEFG.l4 k x0 x2 x27 x29 x28 0)
def strconv_fmtEFG.l4 : Nat → List Int → List Int → Int → Int → Int → Int → Option (List Int)
  | 0, _, _, _, _, _, _ => none
  | k + 1, x0, x2, x27, x29, x246, x247 => if x247 < x246 then (if 0 ≤ (wrap64 (x27 + x247)) then (if (wrap64 (x27 + x247)) < (x2.length : Int) then (if x0.length < 140737488355328 then (strconv_fmtEFG.l4 k (x0 ++ [rd x2 (wrap64 (x27 + x247))]) x2 x27 x29 x246 (wrap64 (x247 + 1))) else (none)) else (none)) else (none)) else (strconv_fmtEFG.l5 k x0 x29 0)
def strconv_fmtEFG.l5 : Nat → List Int → Int → Int → Option (List Int)
  | 0, _, _, _ => none
  | k + 1, x0, x260, x261 => if x261 < x260 then (if x0.length < 140737488355328 then (strconv_fmtEFG.l5 k (x0 ++ [48]) x260 (wrap64 (x261 + 1))) else (none)) else (some x0)
def strconv_fmtEFG.l1 : Nat → List Int → List Int → Int → Int → Int → Int → List Int → Int → Int → Option (List Int)
  | 0, _, _, _, _, _, _, _, _, _ => none
  | k + 1, x0, x2, x3, x4, x5, x23, x189, x190, x191 => if x191 < x190 then (if 0 ≤ x191 then (if x191 < (x189.length : Int) then (if x0.length < 140737488355328 then (strconv_fmtEFG.l1 k (x0 ++ [rd x189 x191]) x2 x3 x4 x5 x23 x189 x190 (wrap64 (x191 + 1))) else (none)) else (none)) else (none)) else (strconv_fmtEFG.l2 k x0 x2 x3 x4 x5 (wrap64 (x3 - x23)) 0)
def strconv_fmtEFG.l2 : Nat → List Int → List Int → Int → Int → Int → Int → Int → Option (List Int)
  | 0, _, _, _, _, _, _, _ => none
  | k + 1, x0, x2, x3, x4, x5, x202, x203 => if x203 < x202 then (if x0.length < 140737488355328 then (strconv_fmtEFG.l2 k (x0 ++ [48]) x2 x3 x4 x5 x202 (wrap64 (x203 + 1))) else (none)) else (strconv_fmtEFG.j17 k x0 x2 x3 x4 x5)
def strconv_fmtEFG.j1 : Nat → List Int → Bool → List Int → Int → Int → Int → Int → Bool → Int → Bool → Option (List Int)
  | 0, _, _, _, _, _, _, _, _, _, _ => none
  | k + 1, x0, x1, x2, x3, x4, x5, x6, x7, x17, x45 => if x45 = true then (strconv_fmtEFG.j2 k x0 x1 x2 x3 x4 x5 x6 x7 x4) else (strconv_fmtEFG.j2 k x0 x1 x2 x3 x4 x5 x6 x7 x17)
def strconv_fmtEFG.j2 : Nat → List Int → Bool → List Int → Int → Int → Int → Int → Bool → Int → Option (List Int)
  | 0, _, _, _, _, _, _, _, _, _ => none
  | k + 1, x0, x1, x2, x3, x4, x5, x6, x7, x17 => if x7 = true then (strconv_fmtEFG.j3 k x0 x1 x2 x3 x4 x5 x6 6) else (strconv_fmtEFG.j3 k x0 x1 x2 x3 x4 x5 x6 x17)
def strconv_fmtEFG.j3 : Nat → List Int → Bool → List Int → Int → Int → Int → Int → Int → Option (List Int)
  | 0, _, _, _, _, _, _, _, _ => none
  | k + 1, x0, x1, x2, x3, x4, x5, x6, x17 => if (wrap64 (x3 - 1)) < (-4) then (strconv_fmtEFG.j4 k x0 x1 x2 x3 x4 x5 x6 true) else (strconv_fmtEFG.j4 k x0 x1 x2 x3 x4 x5 x6 (decide ((wrap64 (x3 - 1)) ≥ x17)))
def strconv_fmtEFG.j4 : Nat → List Int → Bool → List Int → Int → Int → Int → Int → Bool → Option (List Int)
  | 0, _, _, _, _, _, _, _, _ => none
  | k + 1, x0, x1, x2, x3, x4, x5, x6, x56 => if x56 = true then (if x5 > x4 then (strconv_fmtEFG.j5 k x0 x1 x2 x3 x4 (wrap64 (x4 - 1)) ((((x6 + 101) % 256) - 103) % 256)) else (strconv_fmtEFG.j5 k x0 x1 x2 x3 x4 (wrap64 (x5 - 1)) ((((x6 + 101) % 256) - 103) % 256))) else (if x5 > x3 then (strconv_fmtEFG.j5 k x0 x1 x2 x3 x4 (mx (wrap64 (x4 - x3)) 0) 102) else (strconv_fmtEFG.j5 k x0 x1 x2 x3 x4 (mx (wrap64 (x5 - x3)) 0) 102))
end
end Go.Proofs.YtiopeaponffmdaaDoor.PAll
