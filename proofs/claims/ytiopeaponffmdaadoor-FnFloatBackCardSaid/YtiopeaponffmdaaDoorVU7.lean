/- The texts of a proof, its declarations alone: part 7. -/

set_option linter.unusedVariables false
set_option linter.unusedSimpArgs false
-- YtiopeaponffmdaaDoorMa
namespace Go.Proofs.YtiopeaponffmdaaDoor.Fm

/-- Farey neighbours: of the multiples k * (N/M), k at most K < b + d, none lies closely above a whole number. -/
theorem gap_below {a b c d k n N M G K : Int} (hM : 0 < M) (hb : 0 < b) (hd : 0 < d) 
    (hdet : b * c = a * d + 1) (hl : a * M ≤ N * b) (hr : N * d < c * M) (hK : K < b + d) (hk1 : 1 ≤ k) (hk : k ≤ K)
    (hG1 : G * b ≤ M) (hG2 : N * b = a * M ∨ G ≤ N * b - a * M) (hn : n * M ≤ k * N) :
    k * N = n * M ∨ G ≤ k * N - n * M := by
  have h1 : 1 ≤ c * k - n * d := by
    have e1 : n * M * d ≤ k * N * d := Int.mul_le_mul_of_nonneg_right hn (by omega)
    have e2 : k * (N * d) < k * (c * M) := Int.mul_lt_mul_of_pos_left hr (by omega)
    have e3 : (n * d) * M < (c * k) * M := by
      calc (n * d) * M = n * M * d := by grind
        _ ≤ k * N * d := e1
        _ = k * (N * d) := by grind
        _ < k * (c * M) := e2
        _ = (c * k) * M := by grind
    have := Int.lt_of_mul_lt_mul_right e3 (by omega)
    omega
  have h2 : n * b ≤ a * k := by
    refine Int.not_lt.1 fun h => ?_
    have e1 : b * 1 ≤ b * (c * k - n * d) := Int.mul_le_mul_of_nonneg_left h1 (by omega)
    have e2 : d * 1 ≤ d * (n * b - a * k) := Int.mul_le_mul_of_nonneg_left (by omega) (by omega)
    have e3 : b * (c * k - n * d) + d * (n * b - a * k) = k * (b * c - a * d) := by grind
    rw [hdet] at e3
    have e4 : k * (a * d + 1 - a * d) = k := by grind
    omega
  have key : b * (k * N - n * M) = k * (N * b - a * M) + M * (a * k - n * b) := by grind
  have hnn : 0 ≤ N * b - a * M := by omega
  by_cases ht : n * b = a * k
  · have hkj : k = b * (c * k - n * d) := by
      have : b * (c * k - n * d) = k * (b * c) - d * (n * b) := by grind
      rw [this, ht, hdet]; grind
    have e0 : b * (k * N - n * M) = b * ((c * k - n * d) * (N * b - a * M)) := by
      rw [key, ht]
      have : k * (N * b - a * M) = b * (c * k - n * d) * (N * b - a * M) := by rw [← hkj]
      rw [this]; grind
    have e1 := Int.eq_of_mul_eq_mul_left (by omega) e0
    rcases hG2 with hz | hz
    · left
      rw [hz] at e1
      have : (c * k - n * d) * (a * M - a * M) = 0 := by grind
      omega
    · right
      rw [e1]
      have : 1 * (N * b - a * M) ≤ (c * k - n * d) * (N * b - a * M) := Int.mul_le_mul_of_nonneg_right h1 hnn
      omega
  · right
    have e1 : M * 1 ≤ M * (a * k - n * b) := Int.mul_le_mul_of_nonneg_left (by omega) (by omega)
    have e2 : 0 ≤ k * (N * b - a * M) := Int.mul_nonneg (by omega) hnn
    have e3 : b * G ≤ b * (k * N - n * M) := by
      have : b * G = G * b := Int.mul_comm _ _
      omega
    exact Int.le_of_mul_le_mul_left e3 hb

/-- .. nor closely below one. -/
theorem gap_above {a b c d k n N M G K : Int} (hM : 0 < M) (hb : 0 < b) (hd : 0 < d) 
    (hdet : b * c = a * d + 1) (hl : a * M ≤ N * b) (hr : N * d < c * M) (hK : K < b + d) (hk1 : 1 ≤ k) (hk : k ≤ K)
    (hG1 : G * d ≤ M) (hG2 : G ≤ c * M - N * d) (hn : k * N < n * M) :
    G ≤ n * M - k * N := by
  have h1 : 1 ≤ n * b - a * k := by
    have e1 : k * N * b < n * M * b := Int.mul_lt_mul_of_pos_right hn hb
    have e2 : k * (a * M) ≤ k * (N * b) := Int.mul_le_mul_of_nonneg_left hl (by omega)
    have e3 : (a * k) * M < (n * b) * M := by
      calc (a * k) * M = k * (a * M) := by grind
        _ ≤ k * (N * b) := e2
        _ = k * N * b := by grind
        _ < n * M * b := e1
        _ = (n * b) * M := by grind
    have := Int.lt_of_mul_lt_mul_right e3 (by omega)
    omega
  have h2 : c * k ≤ n * d := by
    refine Int.not_lt.1 fun h => ?_
    have e1 : b * 1 ≤ b * (c * k - n * d) := Int.mul_le_mul_of_nonneg_left (by omega) (by omega)
    have e2 : d * 1 ≤ d * (n * b - a * k) := Int.mul_le_mul_of_nonneg_left h1 (by omega)
    have e3 : b * (c * k - n * d) + d * (n * b - a * k) = k * (b * c - a * d) := by grind
    rw [hdet] at e3
    have e4 : k * (a * d + 1 - a * d) = k := by grind
    omega
  have key : d * (n * M - k * N) = k * (c * M - N * d) + M * (n * d - c * k) := by grind
  have hnn : 0 ≤ c * M - N * d := by omega
  by_cases ht : n * d = c * k
  · have hkj : k = d * (n * b - a * k) := by
      have : d * (n * b - a * k) = b * (n * d) - k * (a * d) := by grind
      rw [this, ht]
      have : a * d = b * c - 1 := by omega
      rw [this]; grind
    have e0 : d * (n * M - k * N) = d * ((n * b - a * k) * (c * M - N * d)) := by
      rw [key, ht]
      have : k * (c * M - N * d) = d * (n * b - a * k) * (c * M - N * d) := by rw [← hkj]
      rw [this]; grind
    have e1 := Int.eq_of_mul_eq_mul_left (by omega) e0
    rw [e1]
    have : 1 * (c * M - N * d) ≤ (n * b - a * k) * (c * M - N * d) := Int.mul_le_mul_of_nonneg_right h1 hnn
    omega
  · have e1 : M * 1 ≤ M * (n * d - c * k) := Int.mul_le_mul_of_nonneg_left (by omega) (by omega)
    have e2 : 0 ≤ k * (c * M - N * d) := Int.mul_nonneg (by omega) hnn
    have e3 : d * G ≤ d * (n * M - k * N) := by
      have : d * G = G * d := Int.mul_comm _ _
      omega
    exact Int.le_of_mul_le_mul_left e3 hd

end Go.Proofs.YtiopeaponffmdaaDoor.Fm
