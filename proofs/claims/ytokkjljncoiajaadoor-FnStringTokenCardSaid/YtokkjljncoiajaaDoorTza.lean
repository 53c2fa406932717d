/- The tokens: what the law asks of a string is answered. -/
import Derived.Test.YtokkjljncoiajaaDoorPFnStringTokenx3
import Derived.Test.YtokkjljncoiajaaDoorPFnStringTokenx1
set_option linter.unusedVariables false
set_option linter.unusedSimpArgs false
namespace Go.Proofs.YtokkjljncoiajaaDoor.PFnStringToken
open Go.RowKit Go.Proofs.YtokkjljncoiajaaDoorW.PrintWords Go.Proofs.YtokkjljncoiajaaDoorW.PrintLast Go.Proofs.YtokkjljncoiajaaDoorW.PrintMore

theorem wrap_small {x : Int} (h0 : 0 ≤ x) (h1 : x ≤ 1000) : wrap64 x = x := by
  unfold wrap64
  omega
theorem rl_l0 (x0 : ByteArray) (x3 : Int) (h3 : x3 ≤ 4) (hs : x3 ≤ (x0.size : Int)) : ∀ (k : Nat) (x7 : Int), 2 ≤ x7 → x7 ≤ x3 → x3 - x7 < k → ∃ r, spec_runeLength.l0 k x0 x3 x7 = some r ∧ (r = 0 ∨ r = x3) := by
  intro k
  induction k with
  | zero => intro x7 h0 h1 h2; omega
  | succ k ih =>
    intro x7 h0 h1 h2
    rw [spec_runeLength.l0.eq_def]
    dsimp only
    by_cases c : x7 < x3
    · rw [if_pos c, if_pos (by omega), if_pos (by omega)]
      split
      · exact ⟨0, rfl, .inl rfl⟩
      · split
        · exact ⟨0, rfl, .inl rfl⟩
        · rw [wrap_small (by omega) (by omega)]
          exact ih (x7 + 1) (by omega) (by omega) (by omega)
    · rw [if_neg c]
      exact ⟨x3, rfl, .inr rfl⟩
theorem rl_j4 (x0 : ByteArray) (x3 : Int) (h2 : 2 ≤ x3) (h3 : x3 ≤ 4) (b : Bool) (hs : b = false → x3 ≤ (x0.size : Int)) (k : Nat) (hk : 4 ≤ k) : ∃ r, spec_runeLength.j4 (k + 1) x0 x3 b = some r ∧ (r = 0 ∨ (r = x3 ∧ x3 ≤ (x0.size : Int))) := by
  rw [spec_runeLength.j4.eq_def]
  dsimp only
  cases b with
  | true => exact ⟨0, rfl, .inl rfl⟩
  | false =>
    rw [if_neg (by decide)]
    obtain ⟨r, h, hr⟩ := rl_l0 x0 x3 h3 (hs rfl) k 2 (by omega) h2 (by omega)
    exact ⟨r, h, hr.imp id fun e => ⟨e, hs rfl⟩⟩
theorem rl_j3 (x0 : ByteArray) (x3 a b : Int) (h2 : 2 ≤ x3) (h3 : x3 ≤ 4) (k : Nat) (hk : 5 ≤ k) : ∃ r, spec_runeLength.j3 (k + 1) x0 x3 a b = some r ∧ (r = 0 ∨ (r = x3 ∧ x3 ≤ (x0.size : Int))) := by
  obtain ⟨k, rfl⟩ : ∃ j, k = j + 1 := ⟨k - 1, by omega⟩
  rw [spec_runeLength.j3.eq_def]
  dsimp only
  by_cases c : (x0.size : Int) < x3
  · rw [if_pos c]
    exact rl_j4 x0 x3 h2 h3 true (fun h => by cases h) k (by omega)
  · rw [if_neg c, if_pos (by omega)]
    split
    · exact rl_j4 x0 x3 h2 h3 true (fun h => by cases h) k (by omega)
    · exact rl_j4 x0 x3 h2 h3 _ (fun _ => by omega) k (by omega)
theorem rl_j2 (x0 : ByteArray) (x3 a b : Int) (h1 : 0 < (x0.size : Int)) (h2 : 2 ≤ x3) (h3 : x3 ≤ 4) (k : Nat) (hk : 6 ≤ k) : ∃ r, spec_runeLength.j2 (k + 1) x0 x3 a b = some r ∧ (r = 0 ∨ (r = x3 ∧ x3 ≤ (x0.size : Int))) := by
  obtain ⟨k, rfl⟩ : ∃ j, k = j + 1 := ⟨k - 1, by omega⟩
  rw [spec_runeLength.j2.eq_def]
  dsimp only
  rw [if_pos h1]
  repeat' split
  all_goals exact rl_j3 x0 x3 _ _ h2 h3 k (by omega)
theorem rl_weak {o : Option Int} {x0 : ByteArray} {x3 : Int} (h2 : 2 ≤ x3) (h : ∃ r, o = some r ∧ (r = 0 ∨ (r = x3 ∧ x3 ≤ (x0.size : Int)))) : ∃ r, o = some r ∧ 0 ≤ r ∧ r ≤ (x0.size : Int) := by
  obtain ⟨r, h, e | ⟨e, e2⟩⟩ := h
  · exact ⟨r, h, by omega, by omega⟩
  · exact ⟨r, h, by omega, by omega⟩
theorem rl_j1 (x0 : ByteArray) (a b c : Int) (t : Bool) (h1 : 0 < (x0.size : Int)) (k : Nat) (hk : 7 ≤ k) : ∃ r, spec_runeLength.j1 (k + 1) x0 a b c t = some r ∧ 0 ≤ r ∧ r ≤ (x0.size : Int) := by
  obtain ⟨k, rfl⟩ : ∃ j, k = j + 1 := ⟨k - 1, by omega⟩
  rw [spec_runeLength.j1.eq_def]
  dsimp only
  repeat' split
  · exact rl_weak (x3 := 3) (by omega) (rl_j2 x0 3 _ _ h1 (by omega) (by omega) k (by omega))
  · exact rl_weak (x3 := 4) (by omega) (rl_j2 x0 4 _ _ h1 (by omega) (by omega) k (by omega))
  all_goals exact ⟨0, rfl, by omega, by omega⟩
theorem rl_j0 (x0 : ByteArray) (a b c : Int) (t : Bool) (h1 : 0 < (x0.size : Int)) (k : Nat) (hk : 8 ≤ k) : ∃ r, spec_runeLength.j0 (k + 1) x0 a b c t = some r ∧ 0 ≤ r ∧ r ≤ (x0.size : Int) := by
  obtain ⟨k, rfl⟩ : ∃ j, k = j + 1 := ⟨k - 1, by omega⟩
  rw [spec_runeLength.j0.eq_def]
  dsimp only
  repeat' split
  · exact rl_weak (x3 := 2) (by omega) (rl_j2 x0 2 _ _ h1 (by omega) (by omega) k (by omega))
  all_goals exact rl_j1 x0 _ _ _ _ h1 k (by omega)
theorem rl_f (x0 : ByteArray) (h1 : 0 < (x0.size : Int)) (k : Nat) (hk : 9 ≤ k) : ∃ r, spec_runeLength.f k x0 = some r ∧ 0 ≤ r ∧ r ≤ (x0.size : Int) := by
  obtain ⟨k, rfl⟩ : ∃ j, k = j + 1 := ⟨k - 1, by omega⟩
  unfold spec_runeLength.f
  rw [if_pos h1]
  repeat' split
  · exact ⟨1, rfl, by omega, by omega⟩
  all_goals exact rl_j0 x0 _ _ _ _ h1 k (by omega)
theorem toList_nil (x : ByteArray) (h : x.size = 0) : x.toList = [] := by
  obtain ⟨d⟩ := x
  have : d = #[] := Array.eq_empty_of_size_eq_zero h
  subst this
  decide +kernel
theorem it_l0 : ∀ (n : Nat) (x0 : ByteArray), x0.size ≤ n → ∃ r, spec_IsText.l0 (n + 12) x0 = some r := by
  intro n
  induction n with
  | zero =>
    intro x0 h
    rw [show (0 + 12 : Nat) = 11 + 1 from rfl, spec_IsText.l0, if_pos (toList_nil x0 (by omega))]
    exact ⟨true, rfl⟩
  | succ n ih =>
    intro x0 h
    rw [show (n + 1 + 12 : Nat) = (n + 12) + 1 by omega, spec_IsText.l0]
    by_cases c : x0.toList = []
    · rw [if_pos c]; exact ⟨true, rfl⟩
    · rw [if_neg c]
      have h0 : 0 < x0.size := Nat.pos_of_ne_zero fun e => c (toList_nil x0 e)
      obtain ⟨r, e, r0, r1⟩ := rl_f x0 (by omega) (n + 12) (by omega)
      rw [e, Option.bind_some]
      by_cases cz : r = 0
      · rw [if_pos cz]; exact ⟨false, rfl⟩
      · rw [if_neg cz, if_pos r0, if_pos r1]
        refine ih _ ?_
        rw [ByteArray.size_extract]
        omega
theorem it_f (x0 : ByteArray) : ∃ k r, spec_IsText.f k x0 = some r := by
  obtain ⟨r, h⟩ := it_l0 x0.size x0 (Nat.le_refl _)
  exact ⟨_, r, h⟩
theorem sh_f (s : ByteArray) : ∃ k r, laws_short10.f k [s] = some r := by
  refine ⟨2, ?_⟩
  unfold laws_short10.f
  show ∃ r, laws_short10.l0 2 [s] 1 0 = some r
  rw [laws_short10.l0, if_pos (by decide), if_pos (by decide), if_pos (show (0 : Int) < (([s] : List ByteArray).length : Int) by simp)]
  split
  · exact ⟨_, rfl⟩
  · rw [wrap_small (x := 0 + 1) (by decide) (by decide), laws_short10.l0, if_neg (by decide)]
    exact ⟨_, rfl⟩
end Go.Proofs.YtokkjljncoiajaaDoor.PFnStringToken
