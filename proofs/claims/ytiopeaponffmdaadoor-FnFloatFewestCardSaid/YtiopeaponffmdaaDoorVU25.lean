/- The texts of a proof, its declarations alone: part 25. -/
import Derived.Deep.QuietTactic
import Derived.BigQuiet
import Derived.Test.YtiopeaponffmdaaDoorVU21
import Derived.Test.YtiopeaponffmdaaDoorVU23
set_option linter.unusedVariables false
set_option linter.unusedSimpArgs false
-- YtiopeaponffmdaaDoorGk
set_option linter.unusedVariables false
set_option linter.unusedSimpArgs false
namespace Go.Proofs.YtiopeaponffmdaaDoor.PAll
open Go.RowKit Go.Proofs.YtiopeaponffmdaaDoorW.PrintWords Go.Proofs.YtiopeaponffmdaaDoorW.PrintLast Go.Proofs.YtiopeaponffmdaaDoorW.PrintMore
open Fm

theorem cmp_int_eq (v : Int) : ((some (compare v 0) : Option Ordering) == some .eq) = decide (v = 0) := by
  show ((some (compareOfLessAndEq v 0) : Option Ordering) == some .eq) = decide (v = 0)
  unfold compareOfLessAndEq
  by_cases h1 : v < 0
  · rw [if_pos h1, decide_eq_false (by omega)]; rfl
  · rw [if_neg h1]
    by_cases h2 : v = 0
    · rw [if_pos h2, decide_eq_true h2]; rfl
    · rw [if_neg h2, decide_eq_false h2]; rfl
/-- is a finite number 0? -/
theorem eq_zero (x c : Nat) (hx : x < 18446744073709551616) (hc : c = x % 9223372036854775808) (hc1 : c < 9218868437227405312) : (FloatKind.f64.format.order x 0 == some .eq) = decide (c = 0) := by
  have sw : Ieee.double.signWeight = 9223372036854775808 := by decide
  have r1 := read_sgn Ieee.double x (by rw [sw, ← hc]; exact hc1)
  have r2 := read_pos Ieee.double 0 (by decide +kernel) (by decide +kernel)
  rw [sw, ← hc] at r1
  show (Ieee.double.order x 0 == some .eq) = decide (c = 0)
  unfold Ieee.Format.order
  rw [r1, r2]
  unfold Ieee.Datum.order
  dsimp only
  have z : ∀ k, Ieee.signed false (mgP Ieee.double.fractionBits 0).1 k = 0 := fun k => by
    have : (mgP Ieee.double.fractionBits 0).1 = 0 := by decide
    rw [this]
    unfold Ieee.signed
    simp
  rw [z, cmp_int_eq, decide_eq_decide]
  obtain ⟨m, hm⟩ : ∃ m, m = (mgP Ieee.double.fractionBits c).1 := ⟨_, rfl⟩
  have hm0 : m = 0 ↔ c = 0 := by
    rw [hm]
    unfold mgP
    have e : 0 < 2 ^ Ieee.double.fractionBits := Nat.two_pow_pos _
    split
    · exact Iff.rfl
    · rename_i h
      constructor
      · intro h2
        dsimp only at h2
        omega
      · intro h2; omega
  rw [← hm, ← hm0]
  unfold Ieee.signed
  generalize (Ieee.double.leastPlace + ((mgP Ieee.double.fractionBits c).2 : Int) - _).toNat = k
  have hk : 0 < 2 ^ k := Nat.two_pow_pos k
  have hs : m <<< k = 0 ↔ m = 0 := by
    rw [Nat.shiftLeft_eq, Nat.mul_eq_zero]
    constructor
    · intro h; rcases h with h | h
      · exact h
      · omega
    · intro h; exact .inl h
  rw [← hs]
  split <;> omega
/-- the law's digits, laid one ahead of the other -/
def LF (D r : Nat) (l : List Int) : Prop := (0 < r ∧ dec r ++ l = dec D) ∨ (r = 0 ∧ l = if D = 0 then [] else dec D)
theorem LF.start (D : Nat) : LF D D [] := by
  by_cases h : D = 0
  · exact .inr ⟨h, by rw [if_pos h]⟩
  · exact .inl ⟨by omega, by simp⟩
theorem LF.step {D r : Nat} {l : List Int} (h : LF D r l) (hr : 0 < r) : LF D (r / 10) (((48 + r % 10 : Nat) : Int) :: l) := by
  have hd : dec r ++ l = dec D := by
    rcases h with ⟨_, h⟩ | ⟨h, _⟩
    · exact h
    · omega
  have hD : D ≠ 0 := by
    intro h0
    have e0 : dec 0 = [48] := by rw [dec_lt (by decide)]; rfl
    rw [h0, e0] at hd
    by_cases h10 : r < 10
    · rw [dec_lt h10] at hd
      simp at hd
      omega
    · rw [dec_ge (by omega)] at hd
      have := congrArg List.length hd
      have := dec_length_pos (r / 10)
      simp at *
      omega
  by_cases h10 : 10 ≤ r
  · rw [dec_ge h10] at hd
    exact .inl ⟨by omega, by rw [← hd]; simp⟩
  · rw [dec_lt (by omega)] at hd
    exact .inr ⟨by omega, by rw [if_neg hD, ← hd, show r % 10 = r by omega]; rfl⟩
theorem LF.end_ {D r : Nat} {l : List Int} (h : LF D r l) (hr : ¬ 0 < r) : l = if D = 0 then [] else dec D := by
  rcases h with ⟨h, _⟩ | ⟨_, h⟩
  · omega
  · exact h
theorem LF.len {D r : Nat} {l : List Int} (h : LF D r l) (hD : D < 18446744073709551616) : l.length ≤ 20 := by
  have := dec_length_le 19 D (by omega)
  rcases h with ⟨_, h⟩ | ⟨_, rfl⟩
  · rw [← h, List.length_append] at this
    omega
  · split
    · simp
    · exact this
def LFW (n : Nat) (w : World) (kq : Nat) (v r : Value) (wr : World) : Prop := ∃ (l : List Int) (m : Nat), v = .string (strOfNums l) ∧ r = .int .u64 m ∧ LF n m l ∧ m ≤ kq ∧ m ≤ n ∧ Below w.heap.size w wr
theorem LFW.open_ {n : Nat} {w : World} {kq : Nat} {v r : Value} {wr : World} (h : LFW n w kq v r wr) : ∃ (l : List Int) (m : Nat), v = .string (strOfNums l) ∧ r = .int .u64 m ∧ LF n m l ∧ m ≤ kq ∧ m ≤ n ∧ Below w.heap.size w wr := h
set_option maxRecDepth 100000 in
theorem w5A (x D : Nat) (p : Int) (w : World) (hn : 9218868437227405312 ≤ x % 9223372036854775808) : Calls Tryd.prog 5 #[.float .f64 x, .int .u64 D, .int .i64 p] w fun e w' => e = .returned (.bool true) ∧ Below w.heap.size w w' := by
  have HF := Lib.hid (fun w => finite8_no x w hn)
  clear hn
  go_enter Tryd.func5, Tryd.ntmps5
  go_wp2_with (fail)
  refine (HF.out _).mono ?_
  rintro e w'' ⟨rfl, rfl⟩
  go_wp2_with (fail)
  go_ret
  exact ⟨rfl, (Below.refl _ _).drew⟩
set_option maxRecDepth 100000 in
theorem w5Z (x D : Nat) (p : Int) (w : World) (hn : x % 9223372036854775808 < 9218868437227405312) (h : ((FloatKind.f64.format.order x 0 == some .eq) || decide (100000000000000000 < (D : Int)) || decide (p < -400) || decide (400 < p)) = true) : Calls Tryd.prog 5 #[.float .f64 x, .int .u64 D, .int .i64 p] w fun e w' => e = .returned (.bool true) ∧ Below w.heap.size w w' := by
  have HF := Lib.hid (fun w => finite8_yes x w hn)
  clear hn
  by_cases h1 : (FloatKind.f64.format.order x 0 == some .eq) = true
  · clear h
    go_enter Tryd.func5, Tryd.ntmps5
    go_wp2_with (fail)
    refine (HF.out _).mono ?_
    rintro e w'' ⟨rfl, rfl⟩
    go_wp2_with (fail)
    go_ret
    exact ⟨rfl, Below.refl _ _⟩
  · rw [Bool.not_eq_true] at h1
    by_cases h2 : decide (100000000000000000 < (D : Int)) = true
    · clear h
      go_enter Tryd.func5, Tryd.ntmps5
      go_wp2_with (fail)
      refine (HF.out _).mono ?_
      rintro e w'' ⟨rfl, rfl⟩
      go_wp2_with (fail)
      go_ret
      exact ⟨rfl, Below.refl _ _⟩
    · rw [Bool.not_eq_true] at h2
      by_cases h3 : decide (p < -400) = true
      · clear h
        go_enter Tryd.func5, Tryd.ntmps5
        go_wp2_with (fail)
        refine (HF.out _).mono ?_
        rintro e w'' ⟨rfl, rfl⟩
        go_wp2_with (fail)
        go_ret
        exact ⟨rfl, Below.refl _ _⟩
      · rw [Bool.not_eq_true] at h3
        have h4 : decide (400 < p) = true := by rw [h1, h2, h3] at h; simpa using h
        clear h
        go_enter Tryd.func5, Tryd.ntmps5
        go_wp2_with (fail)
        refine (HF.out _).mono ?_
        rintro e w'' ⟨rfl, rfl⟩
        go_wp2_with (fail)
        go_ret
        exact ⟨rfl, Below.refl _ _⟩
/-- what is known behind the law's guards -/
theorem few_ev (c D : Nat) (sg : Bool) (l : List Int) (p : Int) (hc : 1 ≤ c) (hl : NumText 52 c l) (hD : D ≤ 100000000000000000) (hp0 : -400 ≤ p) (hp1 : p ≤ 400) :
    ∃ (a b : Nat) (r : Nat) (over : Bool) (K : Nat), laws_digits8.f K (strOfNums (if D = 0 then [] else dec D)) = some (a : Int) ∧ laws_digits8.f K (strOfNums ((if sg = true then [45] else []) ++ l)) = some (b : Int) ∧ a ≤ 1000 ∧ b ≤ 1000 ∧
      spec_NearestOf.f K (strOfNums (if D = 0 then [] else dec D)) p = some ((r : Int), over) ∧ (a < b → over = false → r ≠ c) := by
  rcases hl with ⟨h, _⟩ | ⟨_, n, k, y, hsh, hy, rfl⟩
  · omega
  · obtain ⟨K2, h2⟩ := digits8_own c sg n k y hsh hy
    have hu := hsh.upper (by decide)
    have hk := hsh.k2
    have hy18 : y < 10 ^ (17 + 1) := Nat.lt_of_le_of_lt hu (Nat.pow_lt_pow_right (by decide) (by omega))
    have hb1 := dec_length_le 17 y hy18
    have hb2 := cutz_len y
    by_cases h0 : D = 0
    · subst h0
      rw [if_pos rfl]
      obtain ⟨K1, h1⟩ := digits8_nil
      obtain ⟨r, over, ⟨K3, h3⟩, _, h5⟩ := nearestOf_ev (strOfNums []) p (by decide) (by intro b hb; simp [bytesOf, strOfNums] at hb) (by omega) (by omega)
      refine ⟨0, (dec (cutz y)).length, r, over, K1 + K2 + K3, h1 _ (by omega), h2 _ (by omega), by omega, by omega, h3 _ (by omega), fun _ ho hr => ?_⟩
      have := (h5 ho (by omega)).1
      exact absurd this (by decide)
    · rw [if_neg h0]
      obtain ⟨K1, h1⟩ := digits8_dec D (by omega) (Nat.lt_of_le_of_lt hD (by decide))
      have hl1 := dec_length_le 19 D (Nat.lt_of_le_of_lt hD (by decide))
      have hl2 := cutz_len D
      obtain ⟨r, over, ⟨K3, h3⟩, _, h5⟩ := nearestOf_ev (strOfNums (dec D)) p (by rw [strOfNums_size]; omega) (str_dec_digit D) (by omega) (by omega)
      refine ⟨(dec (cutz D)).length, (dec (cutz y)).length, r, over, K1 + K2 + K3, h1 _ (by omega), h2 _ (by omega), by omega, by omega, h3 _ (by omega), fun hab ho hr => ?_⟩
      subst hr
      have hr := (h5 ho hc).2.2
      rw [str_dec] at hr
      have := fewest r D p n k y hsh hy hc (by omega) (Nat.le_trans hD (by decide)) hr
      omega
set_option maxRecDepth 100000 in
theorem w5F (x D c : Nat) (p : Int) (t own : ByteArray) (a b r K : Nat) (over : Bool) (w : World) (hn : x % 9223372036854775808 < 9218868437227405312) (hz : (FloatKind.f64.format.order x 0 == some .eq) = false) (hD : D ≤ 100000000000000000) (hp0 : -400 ≤ p) (hp1 : p ≤ 400)
    (ht : t = strOfNums (if D = 0 then [] else dec D)) (habs : bits .andNot .u64 (x : Int) 9223372036854775808 = (c : Int)) (ha : laws_digits8.f K t = some (a : Int)) (hb : laws_digits8.f K own = some (b : Int)) (hab : a ≤ 1000) (hbb : b ≤ 1000)
    (hN : spec_NearestOf.f K t p = some ((r : Int), over)) (hlaw : a < b → over = false → r ≠ c) (hne : own.toList.isEmpty = false)
    (hT : ∀ W, Below w.heap.size w W → Calls Tryd.prog 14 #[.string ⟨#[]⟩, .float .f64 x, .int .i64 64] W fun e w' => e = .returned (.string own) ∧ Below W.heap.size W w') :
    Calls Tryd.prog 5 #[.float .f64 x, .int .u64 D, .int .i64 p] w fun e w' => e = .returned (.bool true) ∧ Below w.heap.size w w' := by
  have HF := Lib.hid (fun w => finite8_yes x w hn)
  have HT := Lib.hid hT
  have HA := Lib.hid ha
  have HB := Lib.hid hb
  have HN := Lib.hid hN
  have HL := Lib.hid hlaw
  have Ht := Lib.hid ht
  have HS := Lib.hid habs
  have h2 : decide (100000000000000000 < (D : Int)) = false := decide_eq_false (by omega)
  have h3 : decide (p < -400) = false := decide_eq_false (by omega)
  have h4 : decide (400 < p) = false := decide_eq_false (by omega)
  have hne2 : ¬ own.toList = [] := fun h => by rw [h] at hne; cases hne
  have hcv := conv1
  have r13 := run13
  clear hn hT ha hb hN hlaw ht habs
  go_enter Tryd.func5, Tryd.ntmps5
  go_wp2_with (fail)
  refine (HF.out _).mono ?_
  rintro e w'' ⟨rfl, rfl⟩
  go_wp2_with (fail)
  go_loopg [7, 8] D (fun kq v r wr => LFW D w kq v r wr)
  case atStart => exact ⟨[], D, rfl, rfl, LF.start D, Nat.le_refl _, Nat.le_refl _, Below.refl _ _⟩
  case round =>
    obtain ⟨l, m, rfl, rfl, hls, hk, hmn, hb⟩ := hrel.open_
    clear hrel
    have HLF := Lib.hid hls
    have HBw := Lib.hid hb
    have HK := Lib.hid hk
    have hs1 : (strOfNums [48 + (m : Int) % 10]).size ≤ 1 := by rw [strOfNums_size]; exact Nat.le_refl _
    have hs2 : (strOfNums l).size ≤ 20 := by rw [strOfNums_size]; exact hls.len (by omega)
    clear hls hb hk
    by_cases hm : 0 < m
    · have hd0 : decide (0 < (m : Int)) = true := decide_eq_true (by omega)
      go_wp2_with (fail)
      go_roundg (m / 10)
      case measure => have := HK.out; omega
      case rel => exact ⟨((48 + m % 10 : Nat) : Int) :: l, m / 10, by rw [cons_dig], by go_num, LF.step HLF.out hm, by omega, by omega, by repeat (first | exact HBw.out | apply below_alloc)⟩
    · have hd0 : decide (0 < (m : Int)) = false := decide_eq_false (by omega)
      have hlt : strOfNums l = t := by rw [HLF.out.end_ hm, Ht.out]
      rw [hlt]
      clear hlt hs1 hs2
      go_wp2_with (fail)
      refine (HT.out _ HBw.out).mono ?_
      rintro e w1 ⟨rfl, hb1⟩
      have HB1 := Lib.hid (HBw.out.trans (hb1.mono HBw.out.size))
      clear hb1
      go_wp2_with (fail)
      refine (laws_digits8.calls K t (a : Int) w1 HA.out).mono ?_
      rintro e w2 ⟨rfl, hb2⟩
      have HB2 := Lib.hid (HB1.out.trans (hb2.mono HB1.out.size))
      clear hb2
      go_wp2_with (fail)
      refine (laws_digits8.calls K own (b : Int) w2 HB.out).mono ?_
      rintro e w3 ⟨rfl, hb3⟩
      have HB3 := Lib.hid (HB2.out.trans (hb3.mono HB2.out.size))
      clear hb3
      by_cases hlt : a < b
      · have d1 : decide ((b : Int) ≤ (a : Int)) = false := decide_eq_false (by omega)
        have d2 : decide (b ≤ a) = false := decide_eq_false (by omega)
        go_wp2_with (fail)
        refine (spec_NearestOf.calls K t p (r : Int) over w3 HN.out).mono ?_
        rintro e w4 ⟨rfl, hb4⟩
        have HB4 := Lib.hid (HB3.out.trans (hb4.mono HB3.out.size))
        clear hb4
        cases over with
        | true =>
          go_wp2_with (fail)
          go_ret
          exact ⟨rfl, HB4.out⟩
        | false =>
          have hrc : ((r : Int) != (c : Int)) = true := by
            have := HL.out hlt rfl
            rw [bne_iff_ne]; omega
          go_wp2_with (fail)
          refine (abs_calls x c _ HS.out).mono ?_
          rintro e w5 ⟨rfl, rfl⟩
          go_wp2_with (fail)
          go_ret
          exact ⟨rfl, HB4.out⟩
      · have d1 : decide ((b : Int) ≤ (a : Int)) = true := decide_eq_true (by omega)
        have d2 : decide (b ≤ a) = true := decide_eq_true (by omega)
        go_wp2_with (fail)
        go_ret
        exact ⟨rfl, HB3.out⟩
theorem w5 (x D : Nat) (p : Int) (w : World) (hx : x < 18446744073709551616) (hR : Rdy w) : Calls Tryd.prog 5 #[.float .f64 x, .int .u64 D, .int .i64 p] w fun e w' => e = .returned (.bool true) ∧ Below w.heap.size w w' := by
  by_cases h3 : 9218868437227405312 ≤ x % 9223372036854775808
  · exact w5A x D p w h3
  · obtain ⟨c, hc⟩ : ∃ c, c = x % 9223372036854775808 := ⟨_, rfl⟩
    have hc1 : c < 9218868437227405312 := by omega
    have hz := eq_zero x c hx hc hc1
    by_cases hg : c = 0 ∨ 100000000000000000 < D ∨ p < -400 ∨ 400 < p
    · refine w5Z x D p w (by omega) ?_
      rw [hz]
      rcases hg with h | h | h | h
      · rw [decide_eq_true h]; rfl
      · rw [decide_eq_true (show (100000000000000000 : Int) < (D : Int) by omega)]; simp
      · rw [decide_eq_true h]; simp
      · rw [decide_eq_true h]; simp
    · obtain ⟨sg, hsg⟩ : ∃ sg : Bool, ((x : Int) / 9223372036854775808 != 0) = sg := ⟨_, rfl⟩
      obtain ⟨l, hl, hne, _, hT⟩ := textAll x c sg w hx hc hc1 hsg hR
      obtain ⟨a, b, r, over, K, e1, e2, e3, e4, e5, e6⟩ := few_ev c D sg l p (by omega) hl (by omega) (by omega) (by omega)
      refine w5F x D c p _ _ a b r K over w (by omega) (by rw [hz, decide_eq_false (by omega)]) (by omega) (by omega) (by omega) rfl ?_ e1 e2 e3 e4 e5 e6 hne hT
      have e := u64_andNot_nat x 9223372036854775808 hx (by decide)
      have e6 : x &&& (18446744073709551615 - 9223372036854775808) = x % 2 ^ 63 := Nat.and_two_pow_sub_one_eq_mod _ 63
      rw [e6] at e
      have e7 : x % 2 ^ 63 = c := by omega
      rw [e7] at e
      exact e
end Go.Proofs.YtiopeaponffmdaaDoor.PAll
