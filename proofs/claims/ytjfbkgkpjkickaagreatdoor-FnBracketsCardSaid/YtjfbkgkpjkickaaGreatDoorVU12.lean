/- The texts of a proof, its declarations alone: part 12. -/
import Derived.Test.YtjfbkgkpjkickaaGreatDoorVU9
import Derived.Test.YtjfbkgkpjkickaaGreatDoorVU10
import Derived.Test.YtjfbkgkpjkickaaGreatDoorVU11
set_option linter.unusedVariables false
set_option linter.unusedSimpArgs false
-- YtjfbkgkpjkickaaGreatDoorPa
set_option linter.unusedVariables false
set_option linter.unusedSimpArgs false
namespace Go.Proofs.YtjfbkgkpjkickaaGreatDoor.PAll
open Go.RowKit Go.Proofs.YtjfbkgkpjkickaaGreatDoorW.PrintWords Go.Proofs.YtjfbkgkpjkickaaGreatDoorW.PrintLast Go.Proofs.YtjfbkgkpjkickaaGreatDoorW.PrintMore

/-- a state and a byte: the next state -/
def nst (s c : Int) : Option Int :=
  if s = 0 ∧ c = 45 then some 1
  else if s ≤ 1 ∧ c = 48 then some 2
  else if (s ≤ 1 ∨ s = 3) ∧ isD c then some 3
  else if (s = 2 ∨ s = 3) ∧ c = 46 then some 4
  else if (s = 4 ∨ s = 5) ∧ isD c then some 5
  else if (s = 2 ∨ s = 3 ∨ s = 5) ∧ (c = 101 ∨ c = 69) then some 6
  else if s = 6 ∧ (c = 43 ∨ c = 45) then some 7
  else if s ≥ 6 ∧ isD c then some 8
  else none
def nrun : Int → List Int → Bool
  | s, [] => decide (s = 2 ∨ s = 3 ∨ s = 5 ∨ s = 8)
  | s, c :: t => match nst s c with
    | none => false
    | some s' => nrun s' t
theorem nrun_some {s c s' : Int} {t : List Int} (h : nst s c = some s') : nrun s (c :: t) = nrun s' t := by
  show (match nst s c with | none => false | some s' => nrun s' t) = _
  rw [h]
theorem nrun_none {s c : Int} {t : List Int} (h : nst s c = none) : nrun s (c :: t) = false := by
  show (match nst s c with | none => false | some s' => nrun s' t) = _
  rw [h]
theorem nst_dig (s c : Int) (hs : s = 3 ∨ s = 5 ∨ s = 8) (hc : isD c) : nst s c = some s := by
  unfold isD at hc
  unfold nst isD
  rcases hs with rfl | rfl | rfl
  · rw [if_neg (by omega), if_neg (by omega), if_pos (by omega)]
  · rw [if_neg (by omega), if_neg (by omega), if_neg (by omega), if_neg (by omega), if_pos (by omega)]
  · rw [if_neg (by omega), if_neg (by omega), if_neg (by omega), if_neg (by omega), if_neg (by omega), if_neg (by omega), if_neg (by omega), if_pos (by omega)]
theorem run_dig (s : Int) (hs : s = 3 ∨ s = 5 ∨ s = 8) (l : List Int) : nrun s l = nrun s (l.drop (digN l)) := by
  induction l with
  | nil => rfl
  | cons c t ih =>
    unfold digN
    split
    · rename_i h
      rw [nrun_some (nst_dig s c hs h), List.drop_succ_cons]; exact ih
    · rfl
theorem dig_stop (l : List Int) (h : digN l < l.length) : ¬ isD (rd l (digN l : Nat)) := by
  induction l with
  | nil => exact absurd h (by decide)
  | cons c t ih =>
    unfold digN at h ⊢
    split
    · rename_i hc
      rw [if_pos hc] at h
      have := ih (by simpa using h)
      rw [rd_getD] at this ⊢
      simpa using this
    · rename_i hc
      rw [rd_getD]
      simpa using hc
theorem dig_stop_at (l : List Int) (n : Nat) (h : n + digN (l.drop n) < l.length) : ¬ isD (rd l ((n + digN (l.drop n) : Nat) : Int)) := by
  have := dig_stop (l.drop n) (by rw [List.length_drop]; omega)
  rwa [rd_getD, getD_drop, ← rd_getD] at this
theorem digAt_le (l : List Int) (n : Nat) (h : n ≤ l.length) : n + digN (l.drop n) ≤ l.length := by
  have := digN_le (l.drop n)
  rw [List.length_drop] at this
  omega
theorem fin_iff (l : List Int) (n : Nat) (h : n ≤ l.length) : nrun 8 (l.drop n) = true ↔ n + digN (l.drop n) = l.length := by
  rw [run_dig 8 (by omega), List.drop_drop]
  have hle := digAt_le l n h
  have hst := dig_stop_at l n
  generalize n + digN (l.drop n) = m at *
  by_cases hm : m < l.length
  · rw [drop_cons l m hm, nrun_none]
    · exact ⟨fun h => absurd h (by decide), fun h => absurd h (by omega)⟩
    · have := hst hm
      generalize rd l (m : Int) = c at *
      unfold isD at this
      unfold nst isD
      repeat rw [if_neg (by omega)]
  · rw [List.drop_of_length_le (by omega)]
    exact ⟨fun _ => by omega, fun _ => by decide⟩
theorem numE_iff (l : List Int) (n : Nat) (s : Int) (hs : s = 2 ∨ s = 3 ∨ s = 5) (hn : n ≤ l.length) (h1 : n < l.length → s ≠ 2 → ¬ isD (rd l (n : Int))) (h2 : n < l.length → s ≠ 5 → rd l (n : Int) ≠ 46) :
    nrun s (l.drop n) = true ↔ numE l n = some l.length := by
  unfold numE
  by_cases hlt : n < l.length
  · rw [drop_cons l n hlt]
    replace h1 := h1 hlt
    replace h2 := h2 hlt
    by_cases he : rd l (n : Int) = 101 ∨ rd l (n : Int) = 69
    · rw [if_pos ⟨hlt, he⟩]
      have e1 : nst s (rd l (n : Int)) = some 6 := by
        generalize rd l (n : Int) = c at *
        unfold nst isD
        rw [if_neg (by omega), if_neg (by omega), if_neg (by omega), if_neg (by omega), if_neg (by omega), if_pos (by omega)]
      rw [nrun_some e1]
      by_cases h3 : n + 1 < l.length
      · rw [drop_cons l (n + 1) h3]
        by_cases hsg : rd l ((n + 1 : Nat) : Int) = 45 ∨ rd l ((n + 1 : Nat) : Int) = 43
        · rw [if_pos ⟨h3, hsg⟩]
          have e2 : nst 6 (rd l ((n + 1 : Nat) : Int)) = some 7 := by
            generalize rd l ((n + 1 : Nat) : Int) = c at *
            unfold nst isD
            rw [if_neg (by omega), if_neg (by omega), if_neg (by omega), if_neg (by omega), if_neg (by omega), if_neg (by omega), if_pos (by omega)]
          rw [nrun_some e2]
          by_cases h4 : n + 2 < l.length
          · rw [drop_cons l (n + 2) h4]
            by_cases hd : isD (rd l ((n + 2 : Nat) : Int))
            · rw [if_pos ⟨h4, hd⟩]
              have e3 : nst 7 (rd l ((n + 2 : Nat) : Int)) = some 8 := by
                generalize rd l ((n + 2 : Nat) : Int) = c at *
                unfold isD at hd
                unfold nst isD
                rw [if_neg (by omega), if_neg (by omega), if_neg (by omega), if_neg (by omega), if_neg (by omega), if_neg (by omega), if_neg (by omega), if_pos (by omega)]
              have es := digN_step l (n + 2) h4
              rw [if_pos hd] at es
              have ed : rd l ((n + 2 : Nat) : Int) :: l.drop (n + 2 + 1) = l.drop (n + 2) := (drop_cons l (n + 2) h4).symm
              rw [nrun_some e3, ed, es, fin_iff l (n + 2 + 1) (by omega), Option.some.injEq]
              omega
            · rw [if_neg (fun h => hd h.2)]
              have e3 : nst 7 (rd l ((n + 2 : Nat) : Int)) = none := by
                generalize rd l ((n + 2 : Nat) : Int) = c at *
                unfold isD at hd
                unfold nst isD
                repeat rw [if_neg (by omega)]
              rw [nrun_none e3]
              exact ⟨fun h => absurd h (by decide), fun h => absurd h (by simp)⟩
          · rw [if_neg (fun h => h4 h.1), List.drop_of_length_le (by omega)]
            exact ⟨fun h => absurd h (by decide), fun h => absurd h (by simp)⟩
        · rw [if_neg (fun h => hsg h.2)]
          by_cases hd : isD (rd l ((n + 1 : Nat) : Int))
          · rw [if_pos ⟨h3, hd⟩]
            have e2 : nst 6 (rd l ((n + 1 : Nat) : Int)) = some 8 := by
              generalize rd l ((n + 1 : Nat) : Int) = c at *
              unfold isD at hd
              unfold nst isD
              rw [if_neg (by omega), if_neg (by omega), if_neg (by omega), if_neg (by omega), if_neg (by omega), if_neg (by omega), if_neg (by omega), if_pos (by omega)]
            have es := digN_step l (n + 1) h3
            rw [if_pos hd] at es
            have ed : rd l ((n + 1 : Nat) : Int) :: l.drop (n + 1 + 1) = l.drop (n + 1) := (drop_cons l (n + 1) h3).symm
            rw [nrun_some e2, ed, es, fin_iff l (n + 1 + 1) (by omega), Option.some.injEq]
            omega
          · rw [if_neg (fun h => hd h.2)]
            have e2 : nst 6 (rd l ((n + 1 : Nat) : Int)) = none := by
              generalize rd l ((n + 1 : Nat) : Int) = c at *
              unfold isD at hd
              unfold nst isD
              repeat rw [if_neg (by omega)]
            rw [nrun_none e2]
            exact ⟨fun h => absurd h (by decide), fun h => absurd h (by simp)⟩
      · rw [if_neg (fun h => h3 h.1), if_neg (fun h => h3 h.1), List.drop_of_length_le (by omega)]
        exact ⟨fun h => absurd h (by decide), fun h => absurd h (by simp)⟩
    · rw [if_neg (fun h => he h.2)]
      have e1 : nst s (rd l (n : Int)) = none := by
        generalize rd l (n : Int) = c at *
        unfold isD at h1
        unfold nst isD
        rw [if_neg (by omega), if_neg (by omega), if_neg (by rcases hs with rfl | rfl | rfl <;> omega), if_neg (by omega), if_neg (by rcases hs with rfl | rfl | rfl <;> omega), if_neg (by omega), if_neg (by omega), if_neg (by omega)]
      rw [nrun_none e1]
      exact ⟨fun h => absurd h (by decide), fun h => by injection h with h; omega⟩
  · rw [if_neg (fun h => hlt h.1), List.drop_of_length_le (by omega)]
    refine ⟨fun _ => by congr 1; omega, fun _ => ?_⟩
    show decide _ = true
    exact decide_eq_true (by omega)
theorem numF_iff (l : List Int) (n : Nat) (s : Int) (hs : s = 2 ∨ s = 3) (hn : n ≤ l.length) (h1 : n < l.length → s ≠ 2 → ¬ isD (rd l (n : Int))) :
    nrun s (l.drop n) = true ↔ numF l n = some l.length := by
  unfold numF
  by_cases hd : n < l.length ∧ rd l (n : Int) = 46
  · obtain ⟨hlt, hc⟩ := hd
    rw [if_pos ⟨hlt, hc⟩, drop_cons l n hlt]
    have e1 : nst s (rd l (n : Int)) = some 4 := by
      generalize rd l (n : Int) = c at *
      unfold nst isD
      rw [if_neg (by omega), if_neg (by omega), if_neg (by omega), if_pos (by omega)]
    rw [nrun_some e1]
    by_cases h3 : n + 1 < l.length
    · rw [drop_cons l (n + 1) h3]
      by_cases hd : isD (rd l ((n + 1 : Nat) : Int))
      · rw [if_pos ⟨h3, hd⟩]
        have e2 : nst 4 (rd l ((n + 1 : Nat) : Int)) = some 5 := by
          generalize rd l ((n + 1 : Nat) : Int) = c at *
          unfold isD at hd
          unfold nst isD
          rw [if_neg (by omega), if_neg (by omega), if_neg (by omega), if_neg (by omega), if_pos (by omega)]
        have es := digN_step l (n + 1) h3
        rw [if_pos hd] at es
        have ed : rd l ((n + 1 : Nat) : Int) :: l.drop (n + 1 + 1) = l.drop (n + 1) := (drop_cons l (n + 1) h3).symm
        rw [nrun_some e2, ed, run_dig 5 (by omega), List.drop_drop, show n + 1 + 1 + digN (l.drop (n + 1 + 1)) = n + 1 + digN (l.drop (n + 1)) by omega]
        exact numE_iff l _ 5 (by omega) (digAt_le l (n + 1) (by omega)) (fun h _ => dig_stop_at l (n + 1) h) (fun _ h => absurd rfl h)
      · rw [if_neg (fun h => hd h.2)]
        have e2 : nst 4 (rd l ((n + 1 : Nat) : Int)) = none := by
          generalize rd l ((n + 1 : Nat) : Int) = c at *
          unfold isD at hd
          unfold nst isD
          rw [if_neg (by omega), if_neg (by omega), if_neg (by omega), if_neg (by omega), if_neg (by omega), if_neg (by omega), if_neg (by omega), if_neg (by omega)]
        rw [nrun_none e2]
        exact ⟨fun h => absurd h (by decide), fun h => absurd h (by simp)⟩
    · rw [if_neg (fun h => h3 h.1), List.drop_of_length_le (by omega)]
      exact ⟨fun h => absurd h (by decide), fun h => absurd h (by simp)⟩
  · rw [if_neg hd]
    exact numE_iff l n s (by omega) hn h1 (fun h _ hc => hd ⟨h, hc⟩)
theorem numI_iff (l : List Int) (a : Nat) (s : Int) (hs : s = 0 ∨ s = 1) (ha : a ≤ l.length) (h0 : a < l.length → s = 0 → rd l (a : Int) ≠ 45) :
    nrun s (l.drop a) = true ↔ numI l a = some l.length := by
  unfold numI
  by_cases hlt : a < l.length
  · rw [if_pos hlt]
    replace h0 := h0 hlt
    by_cases h48 : rd l (a : Int) = 48
    · rw [if_pos h48, drop_cons l a hlt]
      have e1 : nst s (rd l (a : Int)) = some 2 := by
        generalize rd l (a : Int) = c at *
        unfold nst isD
        rw [if_neg (by omega), if_pos (by omega)]
      rw [nrun_some e1]
      exact numF_iff l (a + 1) 2 (by omega) (by omega) (fun _ h => absurd rfl h)
    · rw [if_neg h48]
      by_cases h49 : 49 ≤ rd l (a : Int) ∧ rd l (a : Int) ≤ 57
      · have hd : isD (rd l (a : Int)) := by unfold isD; omega
        have es := digN_step l a hlt
        rw [if_pos hd] at es
        rw [if_pos h49]
        have e1 : nst s (rd l (a : Int)) = some 3 := by
          generalize rd l (a : Int) = c at *
          unfold isD at hd
          unfold nst isD
          rw [if_neg (by omega), if_neg (by omega), if_pos (by omega)]
        have := numF_iff l (a + digN (l.drop a)) 3 (by omega) (digAt_le l a (by omega)) (fun h _ => dig_stop_at l a h)
        rw [← this, drop_cons l a hlt, nrun_some e1, run_dig 3 (by omega), List.drop_drop, ← drop_cons l a hlt, es, show a + 1 + digN (l.drop (a + 1)) = a + (digN (l.drop (a + 1)) + 1) by omega]
      · rw [if_neg h49, drop_cons l a hlt]
        have e1 : nst s (rd l (a : Int)) = none := by
          generalize rd l (a : Int) = c at *
          unfold nst isD
          rw [if_neg (by omega), if_neg (by omega), if_neg (by omega), if_neg (by omega), if_neg (by omega), if_neg (by omega), if_neg (by omega), if_neg (by omega)]
        rw [nrun_none e1]
        exact ⟨fun h => absurd h (by decide), fun h => absurd h (by simp)⟩
  · rw [if_neg hlt, List.drop_of_length_le (by omega)]
    refine ⟨fun h => absurd h ?_, fun h => absurd h (by simp)⟩
    show decide _ ≠ true
    rw [decide_eq_false (by omega)]
    decide
theorem numEnd_iff (l : List Int) : nrun 0 l = true ↔ numEnd l = some l.length := by
  unfold numEnd
  by_cases h : 0 < l.length ∧ rd l 0 = 45
  · rw [if_pos h]
    have e : l = rd l ((0 : Nat) : Int) :: l.drop 1 := by
      have := drop_cons l 0 h.1
      rwa [List.drop_zero] at this
    have e0 : rd l ((0 : Nat) : Int) = 45 := h.2
    rw [← numI_iff l 1 1 (by omega) (by omega) (fun _ h => absurd h (by decide))]
    have : nrun 0 l = nrun 1 (l.drop 1) := by
      conv => lhs; rw [e, e0]
      exact nrun_some (by decide)
    rw [this]
  · rw [if_neg h, ← numI_iff l 0 0 (by omega) (by omega) (fun hl _ hc => h ⟨hl, hc⟩), List.drop_zero]
end Go.Proofs.YtjfbkgkpjkickaaGreatDoor.PAll
-- YtjfbkgkpjkickaaGreatDoorQa
set_option linter.unusedVariables false
set_option linter.unusedSimpArgs false
namespace Go.Proofs.YtjfbkgkpjkickaaGreatDoor.PAll
open Go.RowKit Go.Proofs.YtjfbkgkpjkickaaGreatDoorW.PrintWords Go.Proofs.YtjfbkgkpjkickaaGreatDoorW.PrintLast Go.Proofs.YtjfbkgkpjkickaaGreatDoorW.PrintMore

theorem w64s (n : Nat) (h : n < 9000000000000000000) : wrap64 ((n : Int) + 1) = ((n + 1 : Nat) : Int) := by unfold wrap64; omega
/-- every byte of x stands in y -/
def evr (x y : ByteArray) : Bool := (bytesOf x).all fun b => (bytesOf y).any fun c => b == c
theorem any_drop (y : ByteArray) (j : Nat) (b : Int) (h : j < y.size) : ((bytesOf y).drop j).any (fun c => b == c) = ((b == bt y (j : Int)) || ((bytesOf y).drop (j + 1)).any fun c => b == c) := by
  rw [drop_cons (bytesOf y) j (by rw [bytesOf_length]; exact h), List.any_cons, rd_bytesOf]
theorem ev_in (x y : ByteArray) (hx : x.size ≤ 4000000000) (hy : y.size ≤ 4000000000) (i : Nat) (hi : i < x.size) (r : Bool) (k0 : Nat) (hk0 : laws_every8.l0 k0 x y (x.size : Int) ((i + 1 : Nat) : Int) = some r) :
    ∀ (m j : Nat) (f : Bool), j + m = y.size → ∃ k, laws_every8.l1 k x y (i : Int) f (x.size : Int) (i : Int) (y.size : Int) (j : Int) = some (if (f || ((bytesOf y).drop j).any fun c => bt x (i : Int) == c) = true then r else false) := by
  intro m
  induction m with
  | zero =>
    intro j f hj
    refine ⟨k0 + 1, ?_⟩
    rw [laws_every8.l1, if_neg (by omega), List.drop_of_length_le (by rw [bytesOf_length]; omega), List.any_nil, Bool.or_false, w64s i (by omega)]
    split
    · exact hk0
    · rfl
  | succ m ih =>
    intro j f hj
    cases f with
    | true =>
      obtain ⟨k, hk⟩ := ih (j + 1) true (by omega)
      refine ⟨k + 1, ?_⟩
      rw [laws_every8.l1, if_pos (by omega), if_pos rfl, w64s j (by omega), hk]
      simp
    | false =>
      obtain ⟨k, hk⟩ := ih (j + 1) (bt x (i : Int) == bt y (j : Int)) (by omega)
      refine ⟨k + 1, ?_⟩
      rw [laws_every8.l1, if_pos (by omega), if_neg (by decide), if_pos (by omega), if_pos (by omega), if_pos (by omega), if_pos (by omega), w64s j (by omega), hk, any_drop y j _ (by omega), Bool.false_or]
theorem every8_ev (x y : ByteArray) (hx : x.size ≤ 4000000000) (hy : y.size ≤ 4000000000) : ∃ k, laws_every8.f k x y = some (evr x y) := by
  have main : ∀ m i : Nat, i + m = x.size → ∃ k, laws_every8.l0 k x y (x.size : Int) (i : Int) = some (((bytesOf x).drop i).all fun b => (bytesOf y).any fun c => b == c) := by
    intro m
    induction m with
    | zero =>
      intro i hi
      refine ⟨1, ?_⟩
      rw [laws_every8.l0, if_neg (by omega), List.drop_of_length_le (by rw [bytesOf_length]; omega)]
      rfl
    | succ m ih =>
      intro i hi
      obtain ⟨k, hk⟩ := ih (i + 1) (by omega)
      obtain ⟨k', hk'⟩ := ev_in x y hx hy i (by omega) _ k hk y.size 0 false (by omega)
      refine ⟨k' + 1, ?_⟩
      rw [laws_every8.l0, if_pos (by omega)]
      rw [show ((0 : Nat) : Int) = 0 from rfl] at hk'
      rw [hk', drop_cons (bytesOf x) i (by rw [bytesOf_length]; omega), List.all_cons, rd_bytesOf, List.drop_zero, Bool.false_or]
      cases (bytesOf y).any fun c => bt x (i : Int) == c <;> simp
  obtain ⟨k, hk⟩ := main x.size 0 (by omega)
  exact ⟨k, hk⟩
theorem number8_ev (x : ByteArray) (hx : x.size ≤ 4000000000) : ∃ k, laws_number8.f k x = some (nrun 0 (bytesOf x)) := by
  have main : ∀ m i : Nat, i + m = x.size → ∀ s : Int, 0 ≤ s ∧ s ≤ 8 → ∃ k, laws_number8.l0 k x s (x.size : Int) (i : Int) = some (nrun s ((bytesOf x).drop i)) := by
    intro m
    induction m with
    | zero =>
      intro i hi s hs
      refine ⟨1, ?_⟩
      rw [laws_number8.l0, if_neg (by omega), List.drop_of_length_le (by rw [bytesOf_length]; omega)]
      show _ = some (decide (s = 2 ∨ s = 3 ∨ s = 5 ∨ s = 8))
      by_cases h2 : s = 2
      · rw [if_pos h2, decide_eq_true (.inl h2)]
      · rw [if_neg h2]
        by_cases h3 : s = 3
        · rw [if_pos h3, decide_eq_true (.inr (.inl h3))]
        · rw [if_neg h3]
          by_cases h5 : s = 5
          · rw [if_pos h5, decide_eq_true (.inr (.inr (.inl h5)))]
          · rw [if_neg h5]
            by_cases h8 : s = 8
            · rw [decide_eq_true (.inr (.inr (.inr h8))), h8]; rfl
            · rw [decide_eq_false (by omega), beq_eq_false_iff_ne.2 h8]
    | succ m ih =>
      intro i hi s hs
      have hlt : i < (bytesOf x).length := by rw [bytesOf_length]; omega
      rw [drop_cons (bytesOf x) i hlt, rd_bytesOf]
      have br := bt_range x (i : Int)
      have w1 := w64s i (by omega)
      have d1 : (i : Int) < (x.size : Int) := by omega
      have d2 : (0 : Int) ≤ (i : Int) := by omega
      have one : ∀ k, laws_number8.l0 (k + 1) x s (x.size : Int) (i : Int) = laws_number8.j1 k x s (bt x (i : Int)) (decide (48 ≤ bt x (i : Int) ∧ bt x (i : Int) ≤ 57)) (x.size : Int) (i : Int) := by
        intro k
        rw [laws_number8.l0, if_pos d1, if_pos d2, if_pos d1]
        by_cases h : 48 ≤ bt x (i : Int)
        · rw [if_pos h]
          by_cases h' : bt x (i : Int) ≤ 57
          · rw [decide_eq_true h', decide_eq_true ⟨h, h'⟩]
          · rw [decide_eq_false h', decide_eq_false (fun z => h' z.2)]
        · rw [if_neg h, decide_eq_false (fun z => h z.1)]
      generalize bt x (i : Int) = c at *
      have nx : ∀ s', 0 ≤ s' ∧ s' ≤ 8 → nst s c = some s' → ∃ k, laws_number8.l0 k x s' (x.size : Int) (wrap64 ((i : Int) + 1)) = some (nrun s (c :: (bytesOf x).drop (i + 1))) := by
        intro s' hs' h
        obtain ⟨k, hk⟩ := ih (i + 1) (by omega) s' hs'
        exact ⟨k, by rw [w1, hk, nrun_some h]⟩
      have cn : ∀ (P : Prop) [Decidable P] (a b : Bool), P → (if P then a else b) = a := fun P _ a b h => if_pos h
      have hdig : isD c ↔ (48 ≤ c ∧ c ≤ 57) := Iff.rfl
      by_cases a1 : s = 0 ∧ c = 45
      · obtain ⟨k, hk⟩ := nx 1 (by omega) (by unfold nst; rw [if_pos a1])
        refine ⟨k + 3, ?_⟩
        rw [one, laws_number8.j1, if_pos a1.1, a1.2, laws_number8.j2, if_pos (by decide), hk, a1.2]
      have b1 : ∀ k, laws_number8.j1 (k + 2) x s c (decide (48 ≤ c ∧ c ≤ 57)) (x.size : Int) (i : Int) = (if s ≤ 1 then (laws_number8.j3 k x s c (decide (48 ≤ c ∧ c ≤ 57)) (x.size : Int) (i : Int) (c == 48)) else (laws_number8.j3 k x s c (decide (48 ≤ c ∧ c ≤ 57)) (x.size : Int) (i : Int) false)) := by
        intro k
        rw [laws_number8.j1]
        by_cases h : s = 0
        · rw [if_pos h, laws_number8.j2, if_neg (by rw [beq_iff_eq]; exact fun h' => a1 ⟨h, h'⟩)]
        · rw [if_neg h, laws_number8.j2, if_neg (by decide)]
      by_cases a2 : s ≤ 1 ∧ c = 48
      · obtain ⟨k, hk⟩ := nx 2 (by omega) (by unfold nst; rw [if_neg a1, if_pos a2])
        refine ⟨k + 4, ?_⟩
        rw [one, b1, if_pos a2.1, laws_number8.j3, if_pos (by rw [beq_iff_eq]; exact a2.2), hk]
      have b2 : ∀ k, laws_number8.j1 (k + 3) x s c (decide (48 ≤ c ∧ c ≤ 57)) (x.size : Int) (i : Int) = laws_number8.j4 k x s c (decide (48 ≤ c ∧ c ≤ 57)) (x.size : Int) (i : Int) (decide ((s ≤ 1 ∨ s = 3) ∧ isD c)) := by
        intro k
        rw [b1]
        by_cases h : s ≤ 1
        · rw [if_pos h, laws_number8.j3, if_neg (by rw [beq_iff_eq]; exact fun h' => a2 ⟨h, h'⟩), if_pos h]
          by_cases hd : 48 ≤ c ∧ c ≤ 57
          · rw [if_pos (by rw [decide_eq_true hd]), decide_eq_true (show (s ≤ 1 ∨ s = 3) ∧ isD c from ⟨.inl h, hd⟩)]
          · rw [if_neg (by rw [decide_eq_false hd]; decide), if_neg (by omega), decide_eq_false (show ¬ ((s ≤ 1 ∨ s = 3) ∧ isD c) from fun z => hd z.2)]
        · rw [if_neg h, laws_number8.j3, if_neg (by decide), if_neg h]
          by_cases h3 : s = 3
          · rw [if_pos h3]
            by_cases hd : 48 ≤ c ∧ c ≤ 57
            · rw [decide_eq_true (show (s ≤ 1 ∨ s = 3) ∧ isD c from ⟨.inr h3, hd⟩), decide_eq_true hd]
            · rw [decide_eq_false (show ¬ ((s ≤ 1 ∨ s = 3) ∧ isD c) from fun z => hd z.2), decide_eq_false hd]
          · rw [if_neg h3, decide_eq_false (show ¬ ((s ≤ 1 ∨ s = 3) ∧ isD c) from fun z => by omega)]
      by_cases a3 : (s ≤ 1 ∨ s = 3) ∧ isD c
      · obtain ⟨k, hk⟩ := nx 3 (by omega) (by unfold nst; rw [if_neg a1, if_neg a2, if_pos a3])
        refine ⟨k + 5, ?_⟩
        rw [one, b2, decide_eq_true a3, laws_number8.j4, if_pos rfl, hk]
      rw [decide_eq_false a3] at b2
      have b3 : ∀ k, laws_number8.j1 (k + 4) x s c (decide (48 ≤ c ∧ c ≤ 57)) (x.size : Int) (i : Int) = laws_number8.j5 k x s c (decide (48 ≤ c ∧ c ≤ 57)) (x.size : Int) (i : Int) (decide ((s = 2 ∨ s = 3) ∧ c = 46)) := by
        intro k
        rw [b2, laws_number8.j4, if_neg (by decide)]
        by_cases h2 : s = 2
        · rw [if_pos h2]
          by_cases hc : c = 46
          · rw [beq_iff_eq.2 hc, decide_eq_true (show (s = 2 ∨ s = 3) ∧ c = 46 from ⟨.inl h2, hc⟩)]
          · rw [beq_eq_false_iff_ne.2 hc, decide_eq_false (show ¬ ((s = 2 ∨ s = 3) ∧ c = 46) from fun z => hc z.2)]
        · rw [if_neg h2]
          by_cases h3 : s = 3
          · rw [if_pos h3]
            by_cases hc : c = 46
            · rw [beq_iff_eq.2 hc, decide_eq_true (show (s = 2 ∨ s = 3) ∧ c = 46 from ⟨.inr h3, hc⟩)]
            · rw [beq_eq_false_iff_ne.2 hc, decide_eq_false (show ¬ ((s = 2 ∨ s = 3) ∧ c = 46) from fun z => hc z.2)]
          · rw [if_neg h3, decide_eq_false (show ¬ ((s = 2 ∨ s = 3) ∧ c = 46) from fun z => by omega)]
      by_cases a4 : (s = 2 ∨ s = 3) ∧ c = 46
      · obtain ⟨k, hk⟩ := nx 4 (by omega) (by unfold nst; rw [if_neg a1, if_neg a2, if_neg a3, if_pos a4])
        refine ⟨k + 6, ?_⟩
        rw [one, b3, decide_eq_true a4, laws_number8.j5, if_pos rfl, hk]
      rw [decide_eq_false a4] at b3
      have b4 : ∀ k, laws_number8.j1 (k + 5) x s c (decide (48 ≤ c ∧ c ≤ 57)) (x.size : Int) (i : Int) = laws_number8.j6 k x s c (decide (48 ≤ c ∧ c ≤ 57)) (x.size : Int) (i : Int) (decide ((s = 4 ∨ s = 5) ∧ isD c)) := by
        intro k
        rw [b3, laws_number8.j5, if_neg (by decide)]
        by_cases h2 : s = 4
        · rw [if_pos h2]
          by_cases hd : 48 ≤ c ∧ c ≤ 57
          · rw [decide_eq_true (show (s = 4 ∨ s = 5) ∧ isD c from ⟨.inl h2, hd⟩), decide_eq_true hd]
          · rw [decide_eq_false (show ¬ ((s = 4 ∨ s = 5) ∧ isD c) from fun z => hd z.2), decide_eq_false hd]
        · rw [if_neg h2]
          by_cases h3 : s = 5
          · rw [if_pos h3]
            by_cases hd : 48 ≤ c ∧ c ≤ 57
            · rw [decide_eq_true (show (s = 4 ∨ s = 5) ∧ isD c from ⟨.inr h3, hd⟩), decide_eq_true hd]
            · rw [decide_eq_false (show ¬ ((s = 4 ∨ s = 5) ∧ isD c) from fun z => hd z.2), decide_eq_false hd]
          · rw [if_neg h3, decide_eq_false (show ¬ ((s = 4 ∨ s = 5) ∧ isD c) from fun z => by omega)]
      by_cases a5 : (s = 4 ∨ s = 5) ∧ isD c
      · obtain ⟨k, hk⟩ := nx 5 (by omega) (by unfold nst; rw [if_neg a1, if_neg a2, if_neg a3, if_neg a4, if_pos a5])
        refine ⟨k + 7, ?_⟩
        rw [one, b4, decide_eq_true a5, laws_number8.j6, if_pos rfl, hk]
      rw [decide_eq_false a5] at b4
      have b5 : ∀ k, laws_number8.j1 (k + 6) x s c (decide (48 ≤ c ∧ c ≤ 57)) (x.size : Int) (i : Int) = laws_number8.j7 k x s c (decide (48 ≤ c ∧ c ≤ 57)) (x.size : Int) (i : Int) (decide ((s = 2 ∨ s = 3 ∨ s = 5) ∧ (c = 101 ∨ c = 69))) := by
        intro k
        rw [b4, laws_number8.j6, if_neg (by decide)]
        by_cases hs3 : s = 2 ∨ s = 3 ∨ s = 5
        · by_cases hc1 : c = 101
          · rw [decide_eq_true (show (s = 2 ∨ s = 3 ∨ s = 5) ∧ (c = 101 ∨ c = 69) from ⟨hs3, .inl hc1⟩), if_pos hc1]
            repeat' split
            all_goals first | rfl | omega
          · rw [if_neg hc1]
            by_cases hc2 : c = 69
            · rw [decide_eq_true (show (s = 2 ∨ s = 3 ∨ s = 5) ∧ (c = 101 ∨ c = 69) from ⟨hs3, .inr hc2⟩), beq_iff_eq.2 hc2]
              repeat' split
              all_goals first | rfl | omega
            · rw [decide_eq_false (show ¬ ((s = 2 ∨ s = 3 ∨ s = 5) ∧ (c = 101 ∨ c = 69)) from fun z => by omega), beq_eq_false_iff_ne.2 hc2]
              repeat' split
              all_goals first | rfl | omega
        · rw [decide_eq_false (show ¬ ((s = 2 ∨ s = 3 ∨ s = 5) ∧ (c = 101 ∨ c = 69)) from fun z => hs3 z.1), if_neg (by omega), if_neg (by omega), if_neg (by omega)]
      by_cases a6 : (s = 2 ∨ s = 3 ∨ s = 5) ∧ (c = 101 ∨ c = 69)
      · obtain ⟨k, hk⟩ := nx 6 (by omega) (by unfold nst; rw [if_neg a1, if_neg a2, if_neg a3, if_neg a4, if_neg a5, if_pos a6])
        refine ⟨k + 8, ?_⟩
        rw [one, b5, decide_eq_true a6, laws_number8.j7, if_pos rfl, hk]
      rw [decide_eq_false a6] at b5
      have b6 : ∀ k, laws_number8.j1 (k + 7) x s c (decide (48 ≤ c ∧ c ≤ 57)) (x.size : Int) (i : Int) = laws_number8.j8 k x s (decide (48 ≤ c ∧ c ≤ 57)) (x.size : Int) (i : Int) (decide (s = 6 ∧ (c = 43 ∨ c = 45))) := by
        intro k
        rw [b5, laws_number8.j7, if_neg (by decide)]
        by_cases h6 : s = 6
        · rw [if_pos h6]
          by_cases hc1 : c = 43
          · rw [if_pos hc1, decide_eq_true (show s = 6 ∧ (c = 43 ∨ c = 45) from ⟨h6, .inl hc1⟩)]
          · rw [if_neg hc1]
            by_cases hc2 : c = 45
            · rw [beq_iff_eq.2 hc2, decide_eq_true (show s = 6 ∧ (c = 43 ∨ c = 45) from ⟨h6, .inr hc2⟩)]
            · rw [beq_eq_false_iff_ne.2 hc2, decide_eq_false (show ¬ (s = 6 ∧ (c = 43 ∨ c = 45)) from fun z => by omega)]
        · rw [if_neg h6, decide_eq_false (show ¬ (s = 6 ∧ (c = 43 ∨ c = 45)) from fun z => h6 z.1)]
      by_cases a7 : s = 6 ∧ (c = 43 ∨ c = 45)
      · obtain ⟨k, hk⟩ := nx 7 (by omega) (by unfold nst; rw [if_neg a1, if_neg a2, if_neg a3, if_neg a4, if_neg a5, if_neg a6, if_pos a7])
        refine ⟨k + 9, ?_⟩
        rw [one, b6, decide_eq_true a7, laws_number8.j8, if_pos rfl, hk]
      rw [decide_eq_false a7] at b6
      by_cases a8 : s ≥ 6 ∧ isD c
      · obtain ⟨k, hk⟩ := nx 8 (by omega) (by unfold nst; rw [if_neg a1, if_neg a2, if_neg a3, if_neg a4, if_neg a5, if_neg a6, if_neg a7, if_pos a8])
        refine ⟨k + 9, ?_⟩
        rw [one, b6, laws_number8.j8, if_neg (by decide), if_pos a8.1, if_pos (decide_eq_true (show 48 ≤ c ∧ c ≤ 57 from a8.2)), hk]
      · have hn : nst s c = none := by unfold nst; rw [if_neg a1, if_neg a2, if_neg a3, if_neg a4, if_neg a5, if_neg a6, if_neg a7, if_neg a8]
        refine ⟨9, ?_⟩
        rw [one, b6, laws_number8.j8, if_neg (by decide), nrun_none hn]
        by_cases h6 : s ≥ 6
        · rw [if_pos h6, if_neg (by rw [decide_eq_true_eq]; exact fun z => a8 ⟨h6, z⟩)]
        · rw [if_neg h6]
  obtain ⟨k, hk⟩ := main x.size 0 (by omega) 0 (by omega)
  exact ⟨k, hk⟩
theorem fits8_ev (x : ByteArray) : ∃ k, laws_fits8.f k [x] = some (decide (x.size ≤ 1000)) := by
  refine ⟨2, ?_⟩
  show laws_fits8.l0 2 [x] 1 0 = _
  have l1 : (([x] : List ByteArray).length : Int) = 1 := rfl
  have w0 : wrap64 (0 + 1) = 1 := by unfold wrap64; omega
  rw [laws_fits8.l0, if_pos (by decide), if_pos (by decide), l1, if_pos (by decide), w0]
  have e : rdOf ByteArray.empty [x] 0 = x := rfl
  rw [e]
  by_cases h : (x.size : Int) > 1000
  · rw [if_pos h, decide_eq_false (by omega)]
  · rw [if_neg h, laws_fits8.l0, if_neg (by decide), decide_eq_true (by omega)]
end Go.Proofs.YtjfbkgkpjkickaaGreatDoor.PAll
