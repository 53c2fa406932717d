/- FnFloat, the tied card: a finite number of 64 bits is written behind a text as the specification writes it, and the law returns true, whatever the input. Conditions: the listed package-level variables hold what the program's text lays in them (the card ties them). -/
import Derived.WalkLawsBesides
import Derived.Test.YtiopeaponffmdaaDoorRows
import Derived.ProofKit
import Derived.Lay
import Derived.OpenVars
import Derived.LaidHandle
import Derived.MakeChecks
import Derived.Lib.LaidU8
import Derived.Lib.LaidTab
import Derived.Stop.Joined
import Derived.Test.YtiopeaponffmdaaDoorCards
import Derived.Test.YtiopeaponffmdaaDoorTie
import Derived.SevenTiedAt
import Derived.Test.YtiopeaponffmdaaDoorVA1
import Derived.Test.YtiopeaponffmdaaDoorVA2
import Derived.Test.YtiopeaponffmdaaDoorVA3
import Derived.Test.YtiopeaponffmdaaDoorVA4
import Derived.Test.YtiopeaponffmdaaDoorVA5
import Derived.Test.YtiopeaponffmdaaDoorVA6
import Derived.Test.YtiopeaponffmdaaDoorVA7
import Derived.Test.YtiopeaponffmdaaDoorVA8
import Derived.Test.YtiopeaponffmdaaDoorVA9
import Derived.Test.YtiopeaponffmdaaDoorVA10
import Derived.Test.YtiopeaponffmdaaDoorVA11
import Derived.Test.YtiopeaponffmdaaDoorVA12
import Derived.Test.YtiopeaponffmdaaDoorVA13
import Derived.Test.YtiopeaponffmdaaDoorVA14
import Derived.Test.YtiopeaponffmdaaDoorVA15
import Derived.Test.YtiopeaponffmdaaDoorVA16
set_option linter.unusedVariables false
set_option linter.unusedSimpArgs false
-- YtiopeaponffmdaaDoorFo
namespace Go.Proofs.YtiopeaponffmdaaDoor.PAll
open Go.RowKit Go.Proofs.YtiopeaponffmdaaDoorW.PrintWords Go.Proofs.YtiopeaponffmdaaDoorW.PrintLast Go.Proofs.YtiopeaponffmdaaDoorW.PrintMore
open Fm

theorem bitLen_of (M : Nat) (h0 : 1 ≤ M) (h1 : M < 18446744073709551616) : ∃ L, Lib.bitLen M = L ∧ 1 ≤ L ∧ L ≤ 64 ∧ 2 ^ (L - 1) ≤ M ∧ M < 2 ^ L := by
  obtain ⟨a, b, d⟩ := Lib.bitLenAux_bounds 64 M (by omega) (by omega)
  refine ⟨Lib.bitLen M, rfl, a, ?_, b, d⟩
  exact Lib.bitLen_le M 64 (Nat.le_refl _) (by omega)
theorem pow2_lt {i j : Nat} (h : (2 : Nat) ^ i < 2 ^ j) : i < j := (Nat.pow_lt_pow_iff_right (by decide)).1 h

theorem num64 (c q m P : Nat) (most : Int) (hP : P = 2 ^ 52) (hc : c = q * P + m) (hm : m < P) (hc0 : 1 ≤ c) (hq : q ≤ 2046) :
    ∃ M L D pp, M = (if q = 0 then m else m + P) ∧ Lib.bitLen M = L ∧ 1 ≤ L ∧ L ≤ 53 ∧ 1 ≤ M ∧ M < 9007199254740992 ∧ M * 2 ^ (64 - L) < 18446744073709551616 ∧
      SfAns 52 66 c (M * 2 ^ (64 - L)) ((if q = 0 then (-1022 : Int) else (q : Int) + -1023) - (64 - (L : Int)) - 52) most D pp := by
  have hPa : 4503599627370495 < P := by rw [hP]; decide
  have hPb : P < 4503599627370497 := by rw [hP]; decide
  obtain ⟨M, hM⟩ : ∃ M, M = (if q = 0 then m else m + P) := ⟨_, rfl⟩
  have hM1 : 1 ≤ M := by
    rw [hM]; split
    · rename_i h; rw [h, Nat.zero_mul] at hc; omega
    · omega
  have hM2 : M < 2 * P := by rw [hM]; split <;> omega
  obtain ⟨L, l1, l2, l3, l4, l5⟩ := bitLen_of M hM1 (by omega)
  have hL53 : L ≤ 53 := by
    have : 2 ^ (L - 1) < 2 ^ 53 := by
      refine Nat.lt_of_le_of_lt l4 (Nat.lt_of_lt_of_le hM2 ?_)
      rw [hP]; decide
    have := pow2_lt this
    omega
  have hmant : M * 2 ^ (64 - L) < 18446744073709551616 := by
    have : M * 2 ^ (64 - L) < 2 ^ L * 2 ^ (64 - L) := Nat.mul_lt_mul_of_pos_right l5 (Nat.two_pow_pos _)
    rw [← Nat.pow_add, show L + (64 - L) = 64 by omega] at this
    exact this
  have hMb : M < 9007199254740992 := by
    have e : 2 * P = 9007199254740992 := by rw [hP]
    omega
  by_cases h0 : q = 0
  · rw [if_pos h0] at hM ⊢
    have hcm : c = m := by rw [hc, h0, Nat.zero_mul, Nat.zero_add]
    have hL52 : L ≤ 52 := by
      have : 2 ^ (L - 1) < 2 ^ 52 := by
        refine Nat.lt_of_le_of_lt l4 ?_
        rw [← hP, hM]; exact hm
      have := pow2_lt this
      omega
    have hMc : M = c := hM.trans hcm.symm
    have hcP : c < 4503599627370496 := by
      have e : P = 4503599627370496 := by rw [hP]
      omega
    rw [hMc] at l4 l5 hmant l1 hMb hM1
    obtain ⟨D, pp, h⟩ := sf64C c L most hc0 hcP l2 hL52 l4 l5
    refine ⟨c, L, D, pp, hcm, l1, l2, hL53, hM1, hMb, hmant, ?_⟩
    rw [if_pos h0, show (-1022 : Int) - (64 - (L : Int)) - 52 = (L : Int) - 1138 by omega]
    exact h
  · rw [if_neg h0] at hM ⊢
    have hL : L = 53 := by
      have : 2 ^ 52 < 2 ^ L := by
        refine Nat.lt_of_le_of_lt ?_ l5
        rw [← hP, hM]; omega
      have := pow2_lt this
      omega
    have e11 : (2 : Nat) ^ (64 - 53) = 2048 := by decide
    have eE : (q : Int) + -1023 - (64 - ((53 : Nat) : Int)) - 52 = (q : Int) - 1086 := by omega
    by_cases hA : m = 0 ∧ 2 ≤ q
    · obtain ⟨D, pp, h⟩ := sf64A q P most hP hA.2 hq
      refine ⟨M, L, D, pp, hM, l1, l2, hL53, hM1, hMb, hmant, ?_⟩
      rw [if_neg h0, hL, e11, eE, hM, hA.1, Nat.zero_add, hc, hA.1, Nat.add_zero]
      have e : P * 2048 = 9223372036854775808 := by rw [hP]
      rw [e]
      exact h
    · obtain ⟨D, pp, h⟩ := sf64B q m P most hP (by omega) hq hm hA
      refine ⟨M, L, D, pp, hM, l1, l2, hL53, hM1, hMb, hmant, ?_⟩
      rw [if_neg h0, hL, e11, eE, hM, hc]
      exact h

/-- the tables lie, now and later -/
def Rdy (w : World) : Prop := ∀ W, Below w.heap.size w W → Tab3 W ∧ Lib.TabIs Tryd.prog W "internal/strconv.uint64pow10" .u64 Lib.pow10Tab
theorem Rdy.mono {w W : World} (h : Rdy w) (hb : Below w.heap.size w W) : Rdy W := fun V hV => h V (hb.trans (hV.mono hb.size))

/-- the parts of a word -/
theorem parts64 (x c q m P : Nat) (hx : x < 18446744073709551616) (hP : P = 2 ^ 52) (hc : c = x % 9223372036854775808) (hcq : c = q * P + m) (hm : m < P) :
    bits .and .i64 ((x : Int) / 4503599627370496) 2047 = (q : Int) ∧ bits .and .u64 (x : Int) 4503599627370495 = (m : Int) ∧ bits .or .u64 (m : Int) 4503599627370496 = ((m + P : Nat) : Int) ∧ q < 2048 ∧
      bits .andNot .u64 (x : Int) 9223372036854775808 = (c : Int) := by
  have hPe : P = 4503599627370496 := by rw [hP]
  have hcq' : c = q * 4503599627370496 + m := by rw [← hPe]; exact hcq
  have e1 := i64_and (x / 4503599627370496) 11 (by omega) (by decide)
  have e2 := u64_and_nat x (2 ^ 52 - 1) hx (by decide)
  rw [Nat.and_two_pow_sub_one_eq_mod] at e2
  have e3 := u64_or_nat m (2 ^ 52) (by omega) (by decide)
  have e4 : m ||| 2 ^ 52 = m + P := by
    have := Nat.two_pow_add_eq_or_of_lt (b := m) (i := 52) (by rw [← hP]; exact hm) 1
    rw [Nat.mul_one] at this
    rw [Nat.or_comm, ← this, hP, Nat.add_comm]
  have e5 := u64_andNot_nat x 9223372036854775808 hx (by decide)
  have e6 : x &&& (18446744073709551615 - 9223372036854775808) = x % 2 ^ 63 := Nat.and_two_pow_sub_one_eq_mod x 63
  rw [e4] at e3
  rw [e6] at e5
  have q1 : x / 4503599627370496 % 2 ^ 11 = q := by omega
  have q2 : x % 2 ^ 52 = m := by omega
  have q3 : x % 2 ^ 63 = c := by omega
  rw [q1] at e1
  rw [q2] at e2
  rw [q3] at e5
  refine ⟨?_, e2, e3, by omega, e5⟩
  have : ((x / 4503599627370496 : Nat) : Int) = (x : Int) / 4503599627370496 := by omega
  rw [← this]
  exact e1

/-- the digits of a finite number that is not 0 -/
structure N64 (c : Nat) (most : Int) (q m P M L D : Nat) (pp : Int) : Prop where
  hP : P = 2 ^ 52
  hcq : c = q * P + m
  hmP : m < P
  hq : q ≤ 2046
  hM : M = (if q = 0 then m else m + P)
  l1 : Lib.bitLen M = L
  l2 : 1 ≤ L
  l3 : L ≤ 53
  hM1 : 1 ≤ M
  hM2 : M < 9007199254740992
  hmant : M * 2 ^ (64 - L) < 18446744073709551616
  hS : SfAns 52 66 c (M * 2 ^ (64 - L)) ((if q = 0 then (-1022 : Int) else (q : Int) + -1023) - (64 - (L : Int)) - 52) most D pp
theorem n64 (c : Nat) (most : Int) (hc0 : 1 ≤ c) (hc1 : c < 9218868437227405312) : ∃ q m P M L D pp, N64 c most q m P M L D pp := by
  obtain ⟨P, hP⟩ : ∃ P : Nat, P = 2 ^ 52 := ⟨_, rfl⟩
  have hPe : P = 4503599627370496 := by rw [hP]
  obtain ⟨q, hq⟩ : ∃ q, q = c / P := ⟨_, rfl⟩
  obtain ⟨m, hm⟩ : ∃ m, m = c % P := ⟨_, rfl⟩
  have hcq : c = q * P + m := by rw [hq, hm, Nat.mul_comm]; exact (Nat.div_add_mod _ _).symm
  have hmP : m < P := by rw [hm]; exact Nat.mod_lt _ (by omega)
  have hq46 : q ≤ 2046 := by
    refine Nat.le_of_lt_succ ?_
    rw [hq]
    exact Nat.div_lt_of_lt_mul (by omega)
  obtain ⟨M, L, D, pp, hM, l1, l2, l3, hM1, hM2, hmant, hS⟩ := num64 c q m P most hP hcq hmP hc0 hq46
  exact ⟨q, m, P, M, L, D, pp, hP, hcq, hmP, hq46, hM, l1, l2, l3, hM1, hM2, hmant, hS⟩

section
variable (P0_ : Nat → Prop) (v0 : Value) (l0 : List Int) (x c : Nat) (most : Int) (sg : Bool) (w0 w : World) (hx : x < 18446744073709551616) (hc : c = x % 9223372036854775808) {q m P M L D : Nat} {pp : Int} (N : N64 c most q m P M L D pp)
    (hsg : ((x : Int) / 9223372036854775808 != 0) = sg) (hB : Below w0.heap.size w0 w) (ho : RM 5 w w0.heap.size P0_ v0 l0) (hR : Rdy w) (hl : l0.length ≤ 5000000000)
include hx hc N hsg hB ho hR hl

/-- its text in either format -/
theorem ftoa64_any : (-6 < ((dec D).length : Int) + pp → ((dec D).length : Int) + pp ≤ 21 →
        Calls Tryd.prog 51 #[v0, .float .f64 x, .int .u8 102, .int .i64 (-1)] w (FtPost w0 (fun r => r = l0 ++ ((if sg = true then [45] else []) ++ laidL (dec (cutz D)) (((dec D).length : Int) + pp))))) ∧
      (((dec D).length : Int) + pp ≤ -6 ∨ 21 < ((dec D).length : Int) + pp →
        Calls Tryd.prog 51 #[v0, .float .f64 x, .int .u8 101, .int .i64 (-1)] w (FtPost w0 (fun r => (∃ q a b c d, r = q ++ [a, b, c, d] ∧ q.length ≤ 140737488355328) ∧ fixE r = l0 ++ ((if sg = true then [45] else []) ++ laidL (dec (cutz D)) (((dec D).length : Int) + pp))))) := by
  obtain ⟨hP, hcq, hmP, hq46, hM, l1, l2, l3, hM1, hM2, hmant, hS⟩ := N
  obtain ⟨b1, b2, b3, b4, b5⟩ := parts64 x c q m P hx hP hc hcq hmP
  obtain ⟨nd, hnd⟩ : ∃ nd, nd = (dec D).length := ⟨_, rfl⟩
  have hnd2 : nd ≤ 18 := by rw [hnd]; exact dec_length_le 17 D hS.lt
  have hnd1 : 1 ≤ nd := by rw [hnd]; exact dec_length_pos D
  have hD1 : 10 ^ (nd - 1) ≤ D := by rw [hnd]; exact dec_lower D hS.pos
  have hD2 : D < 10 ^ nd := by rw [hnd]; exact dec_upper D
  have hD3 : D < 18446744073709551616 := Nat.lt_trans hS.lt (by decide)
  have hp0 := hS.p0
  have hp1 := hS.p1
  have hND : ∀ W, Below w.heap.size w W → Calls Tryd.prog 60 #[.int .u64 (D : Int)] W fun e W' => e = .returned (.int .i64 (nd : Int)) ∧ W = W' := fun W hb => by
    have h := Tryd.internal_strconv_numDigits D hS.pos hD3 W (hR W hb).2
    rw [nDigits_dec, ← hnd] at h
    exact h.mono fun _ _ h => ⟨h.1, h.2.symm⟩
  have hSF : ∀ W, Below w.heap.size w W → Calls Tryd.prog 66 #[.int .u64 ((M * 2 ^ (64 - L) : Nat) : Int), .int .i64 ((if q = 0 then (-1022 : Int) else (q : Int) + -1023) - (64 - (L : Int)) - 52)] W fun e W' => e = .returned (.tuple #[.int .u64 (D : Int), .int .i64 pp]) ∧ Below W.heap.size W W' := fun W hb => hS.calls W (hR W hb).1
  have hwr : IntKind.u64.wrap ((M : Int) * 2 ^ (64 - L)) = ((M * 2 ^ (64 - L) : Nat) : Int) := by rw [pow_cast]; exact wrapuN _ hmant
  have hbuf : ∀ k, Left D nd k → (bufL D nd).take k = dec (cutz D) := fun k hk => buf_take D nd k hnd hk (by omega)
  have hF : -6 < (nd : Int) + pp → (nd : Int) + pp ≤ 21 → ∀ k, Left D nd k → ∃ K r, fmtF.f K l0 sg (bufL D nd) ((nd : Int) + pp) k (mx ((k : Int) - ((nd : Int) + pp)) 0) = some r ∧ r = l0 ++ ((if sg = true then [45] else []) ++ laidL (dec (cutz D)) ((nd : Int) + pp)) := fun d1 d2 k hk => by
    have k2 := hk.2.1
    obtain ⟨K, h⟩ := fmtF_ev l0 (bufL D nd) sg k ((nd : Int) + pp) hk.1 (by rw [bufL_length]; omega) (by rw [bufL_length]; decide) hl d1 d2
    rw [hbuf k hk] at h
    exact ⟨K, _, h, rfl⟩
  have hE : (nd : Int) + pp ≤ -6 ∨ 21 < (nd : Int) + pp → ∀ k, Left D nd k → ∃ K r, fmtE.f K l0 sg (bufL D nd) ((nd : Int) + pp) k ((k : Int) - 1) = some r ∧ (∃ q a b c d, r = q ++ [a, b, c, d] ∧ q.length ≤ 140737488355328) ∧ fixE r = l0 ++ ((if sg = true then [45] else []) ++ laidL (dec (cutz D)) ((nd : Int) + pp)) := fun d k hk => by
    have k2 := hk.2.1
    obtain ⟨K, r, h1, h2, h3⟩ := fmtE_ev l0 (bufL D nd) sg k ((nd : Int) + pp) hk.1 (by rw [bufL_length]; omega) (by rw [bufL_length]; decide) hl (by omega)
    rw [hbuf k hk] at h3
    exact ⟨K, r, h1, h2, h3⟩
  rw [← hnd]
  by_cases h0 : q = 0
  · rw [if_pos h0] at hM
    rw [h0] at b1
    rw [← hM] at b2
    refine ⟨fun d1 d2 => ?_, fun d => ?_⟩
    · exact ftoa64FS P0_ v0 l0 _ x M L (M * 2 ^ (64 - L)) D nd _ pp sg w0 w hx hB ho hsg b1 b2 hM1 hM2 l1 l2 l3 hwr rfl (by rw [if_pos h0] at hSF; exact hSF) hND hD1 hD2 hD3 hnd1 (by omega) (by omega) (by omega) (hF d1 d2)
    · exact ftoa64ES P0_ v0 l0 _ x M L (M * 2 ^ (64 - L)) D nd _ pp sg w0 w hx hB ho hsg b1 b2 hM1 hM2 l1 l2 l3 hwr rfl (by rw [if_pos h0] at hSF; exact hSF) hND hD1 hD2 hD3 hnd1 (by omega) (by omega) (by omega) (hE d)
  · rw [if_neg h0] at hM
    rw [← hM] at b3
    refine ⟨fun d1 d2 => ?_, fun d => ?_⟩
    · exact ftoa64FN P0_ v0 l0 _ x q m M L (M * 2 ^ (64 - L)) D nd _ pp sg w0 w hx hB ho hsg b1 b2 (by omega) (by omega) b3 hM1 hM2 l1 l2 l3 hwr rfl (by rw [if_neg h0] at hSF; exact hSF) hND hD1 hD2 hD3 hnd1 (by omega) (by omega) (by omega) (hF d1 d2)
    · exact ftoa64EN P0_ v0 l0 _ x q m M L (M * 2 ^ (64 - L)) D nd _ pp sg w0 w hx hB ho hsg b1 b2 (by omega) (by omega) b3 hM1 hM2 l1 l2 l3 hwr rfl (by rw [if_neg h0] at hSF; exact hSF) hND hD1 hD2 hD3 hnd1 (by omega) (by omega) (by omega) (hE d)
end

theorem cutz_le (D : Nat) : cutz D ≤ D := by
  induction D using Nat.strongRecOn with
  | ind D ih =>
    by_cases h : 10 ≤ D ∧ D % 10 = 0
    · rw [cutz_pos h.1 h.2]
      have := ih (D / 10) (by omega)
      omega
    · rw [cutz_neg h]; exact Nat.le_refl _
theorem laidL_len (ds : List Int) (n : Int) (h1 : ds.length ≤ 20) (h2 : -1000 ≤ n) (h3 : n ≤ 1000) : (laidL ds n).length ≤ 100 := by
  have d20 : ∀ k : Nat, k ≤ 2000 → (dec k).length ≤ 4 := fun k hk => dec_length_le 3 k (Nat.lt_of_le_of_lt hk (by decide))
  unfold laidL
  split
  · simp only [List.length_append, List.length_replicate]; omega
  · split
    · simp only [List.length_append, List.length_take, List.length_drop, List.length_cons, List.length_nil]; omega
    · split
      · simp only [List.length_append, List.length_replicate, List.length_cons, List.length_nil]; omega
      · have e1 := d20 (1 - n).toNat (by omega)
        have e2 := d20 (n - 1).toNat (by omega)
        rw [List.length_append]
        have g1 : (if ds.length = 1 then ds else ds.take 1 ++ [46] ++ ds.drop 1).length ≤ 42 := by
          split
          · omega
          · simp only [List.length_append, List.length_take, List.length_drop, List.length_cons, List.length_nil]; omega
        have g2 : (if n - 1 < 0 then [101, 45] ++ dec (1 - n).toNat else [101, 43] ++ dec (n - 1).toNat).length ≤ 6 := by
          split <;> simp only [List.length_append, List.length_cons, List.length_nil] <;> omega
        omega

theorem order64 (c y : Nat) (hc : c < 9218868437227405312) (hy : y < 9218868437227405312) : (c < y → FloatKind.f64.format.order c y = some .lt) ∧ (c = y → FloatKind.f64.format.order c y = some .eq) ∧ (y < c → FloatKind.f64.format.order c y = some .gt) := by
  have h := order_pos FloatKind.f64.format c y (by decide +kernel) (Nat.lt_of_lt_of_le hc (by decide +kernel)) (Nat.lt_of_lt_of_le hy (by decide +kernel))
  refine ⟨fun e => ?_, fun e => ?_, fun e => ?_⟩
  · rw [h, if_pos (T2_strict _ e)]
  · rw [h, e, if_neg (Nat.lt_irrefl _), if_pos rfl]
  · have := T2_strict FloatKind.f64.format.fractionBits e
    rw [h, if_neg (Nat.lt_asymm this), if_neg (Nat.ne_of_gt this)]

/-- FloatText at a finite number that is not 0 -/
theorem text64N (tt : ByteArray) (x c : Nat) (most : Int) (sg : Bool) (w : World) (hto : tt.size ≤ 4000000000) (hx : x < 18446744073709551616) (hc : c = x % 9223372036854775808) (hc0 : 1 ≤ c) (hc1 : c < 9218868437227405312) {q m P M L D : Nat} {pp : Int} (N : N64 c most q m P M L D pp)
    (hsg : ((x : Int) / 9223372036854775808 != 0) = sg) (hR : Rdy w) :
    Calls Tryd.prog 14 #[.string tt, .float .f64 x, .int .i64 64] w fun e w' => e = .returned (.string (strOfNums (bytesOf tt ++ ((if sg = true then [45] else []) ++ laidL (dec (cutz D)) (((dec D).length : Int) + pp))))) ∧ Below w.heap.size w w' := by
  obtain ⟨n, k, y, hsh, hy, hy0, hpl⟩ := N.hS.sh
  have pl := place64 rfl hsh hy0
  rw [hpl] at pl
  have b5 := (parts64 x c q m P hx N.hP hc N.hcq N.hmP).2.2.2.2
  have o0 := (order64 c 0 hc1 (by decide)).2.2 hc0
  have o1 := order64 c 4517329193108106637 hc1 (by decide)
  have o2 := order64 c 4921056587992461136 hc1 (by decide)
  refine (floatText tt x w (fun r => r = bytesOf tt ++ ((if sg = true then [45] else []) ++ laidL (dec (cutz D)) (((dec D).length : Int) + pp))) (by omega) (fun W v hB ho => ?_)).mono ?_
  · refine af25 v _ w W _ ?_
    have hRW := hR.mono hB
    obtain ⟨F, E⟩ := ftoa64_any (fun _ => True) v (bytesOf tt) x c most sg w W hx hc N hsg hB ho hRW (by rw [bytesOf_length]; omega)
    generalize ((dec D).length : Int) + pp = dp at *
    have post : ∀ e w', (FtPost w (fun r => ∃ r', ((∃ q a b c d, r' = q ++ [a, b, c, d] ∧ q.length ≤ 140737488355328) ∧ fixE r' = bytesOf tt ++ ((if sg = true then [45] else []) ++ laidL (dec (cutz D)) dp)) ∧ r = fixE r')) e w' → FtPost w (fun r => r = bytesOf tt ++ ((if sg = true then [45] else []) ++ laidL (dec (cutz D)) dp)) e w' := by
      rintro e w' ⟨v', r, h1, ⟨r', ⟨g1, g2⟩, rfl⟩, h3, h4⟩
      exact ⟨v', _, h1, g2, h3, h4⟩
    by_cases d1 : dp ≤ -6
    · have hlt := pl.1.1 d1
      exact (af33E1 v x c w W _ b5 o0 (o1.1 hlt) (E (.inl d1)) (fun r hr => hr.1)).mono post
    · have hge : 4517329193108106637 ≤ c := Nat.not_lt.1 fun h => d1 (pl.1.2 h)
      by_cases d2 : dp ≤ 21
      · have hlt := pl.2.1 d2
        rcases Nat.lt_or_ge 4517329193108106637 c with hgt | hle
        · exact af33F1 v x c w W _ b5 o0 (o1.2.2 hgt) (o2.1 hlt) (F (by omega) d2)
        · exact af33F2 v x c w W _ b5 o0 (o1.2.1 (Nat.le_antisymm hle hge)) (o2.1 hlt) (F (by omega) d2)
      · have hge2 : 4921056587992461136 ≤ c := Nat.not_lt.1 fun h => d2 (pl.2.2 h)
        have hgt1 : 4517329193108106637 < c := Nat.lt_of_lt_of_le (by decide) hge2
        rcases Nat.lt_or_ge 4921056587992461136 c with hgt | hle
        · exact (af33E2 v x c w W _ b5 o0 (o1.2.2 hgt1) (o2.2.2 hgt) (E (.inr (by omega))) (fun r hr => hr.1)).mono post
        · exact (af33E3 v x c w W _ b5 o0 (o1.2.2 hgt1) (o2.2.1 (Nat.le_antisymm hle hge2)) (E (.inr (by omega))) (fun r hr => hr.1)).mono post
  · rintro e w' ⟨r, rfl, h2, h3⟩
    exact ⟨h2, h3⟩

/-- FloatText at a zero -/
theorem text64Z (tt : ByteArray) (x : Nat) (sg : Bool) (w : World) (hto : tt.size ≤ 4000000000) (hx : x < 18446744073709551616) (hc : 0 = x % 9223372036854775808)
    (hsg : ((x : Int) / 9223372036854775808 != 0) = sg) :
    Calls Tryd.prog 14 #[.string tt, .float .f64 x, .int .i64 64] w fun e w' => e = .returned (.string (strOfNums (bytesOf tt ++ ((if sg = true then [45] else []) ++ [48])))) ∧ Below w.heap.size w w' := by
  obtain ⟨b1, b2, b3, b4, b5⟩ := parts64 x 0 0 0 (2 ^ 52) hx rfl hc (by decide) (by decide)
  have o0 := (order64 0 0 (by decide) (by decide)).2.1 rfl
  refine (floatText tt x w (fun r => r = bytesOf tt ++ ((if sg = true then [45] else []) ++ [48])) (by omega) (fun W v hB ho => ?_)).mono ?_
  · refine af25 v _ w W _ ?_
    obtain ⟨K, h⟩ := fmtF_zero (bytesOf tt) sg (by rw [bytesOf_length]; omega)
    exact af33Z v x 0 w W _ b5 o0 (ftoa64Z (fun _ => True) v (bytesOf tt) _ x sg w W hx hB ho hsg b1 b2 ⟨K, _, h, rfl⟩)
  · rintro e w' ⟨r, rfl, h2, h3⟩
    exact ⟨h2, h3⟩

/-- FloatText at a finite number: the reference's text behind what was there -/
theorem text64 (tt : ByteArray) (x c : Nat) (most : Int) (sg : Bool) (w : World) (hto : tt.size ≤ 4000000000) (hx : x < 18446744073709551616) (hc : c = x % 9223372036854775808) (hc1 : c < 9218868437227405312)
    (hsg : ((x : Int) / 9223372036854775808 != 0) = sg) (hR : Rdy w) :
    ∃ l : List Int, l.length ≤ 100 ∧ Ev (fun k => spec_Form_Text.f k ((52 : Nat) : Int) most (c : Int)) (strOfNums l) ∧
      Calls Tryd.prog 14 #[.string tt, .float .f64 x, .int .i64 64] w fun e w' => e = .returned (.string (strOfNums (bytesOf tt ++ ((if sg = true then [45] else []) ++ l)))) ∧ Below w.heap.size w w' := by
  by_cases h0 : c = 0
  · subst h0
    exact ⟨[48], by decide, Text_zero 52 most, text64Z tt x sg w hto hx hc hsg⟩
  · obtain ⟨q, m, P, M, L, D, pp, N⟩ := n64 c most (by omega) hc1
    have hS := N.hS
    have hlt := Nat.lt_of_le_of_lt (cutz_le D) hS.lt
    have h18 : (dec (cutz D)).length ≤ 18 := dec_length_le 17 _ hlt
    have hD18 : (dec D).length ≤ 18 := dec_length_le 17 _ hS.lt
    have hp0 := hS.p0
    have hp1 := hS.p1
    refine ⟨_, laidL_len (dec (cutz D)) (((dec D).length : Int) + pp) (by omega) (by omega) (by omega), Text_ev 52 c most _ _ (by omega) hS.ev (dec_length_pos _) (by omega) (by omega) (by omega), ?_⟩
    exact text64N tt x c most sg w hto hx hc (by omega) hc1 N hsg hR
end Go.Proofs.YtiopeaponffmdaaDoor.PAll
-- YtiopeaponffmdaaDoorPAllx1
namespace Go.Proofs.YtiopeaponffmdaaDoor.PAll
open Go.RowKit Go.Proofs.YtiopeaponffmdaaDoorW.PrintWords Go.Proofs.YtiopeaponffmdaaDoorW.PrintLast Go.Proofs.YtiopeaponffmdaaDoorW.PrintMore
attribute [local go_sem] max2_int min2_int max_two min_two max_three min_three max_four min_four   -- for this text's walks alone
set_option linter.unusedVariables false
set_option linter.unusedSimpArgs false

def laws_fits8.l0 : Nat → List ByteArray → Int → Int → Option (Bool)
  | 0, _, _, _ => none
  | k + 1, x5, x6, x7 => if x7 < x6 then (if 0 ≤ x7 then (if x7 < (x5.length : Int) then (if ((rdOf ByteArray.empty x5 x7).size : Int) > 1000 then (some false) else (laws_fits8.l0 k x5 x6 (wrap64 (x7 + 1)))) else (none)) else (none)) else (some true)
def laws_fits8.f (k : Nat) (l0 : List ByteArray) : Option (Bool) := laws_fits8.l0 k l0 (l0.length : Int) 0
theorem laws_fits8.mono_l : ∀ k, (∀ y0 y1 y2, LeO (laws_fits8.l0 k y0 y1 y2) (laws_fits8.l0 (k + 1) y0 y1 y2))
  | 0 => fun _ _ _ r h => by simp [laws_fits8.l0] at h
  | k + 1 => by
    have ih0 := laws_fits8.mono_l k
    · intro y0 y1 y2
      unfold laws_fits8.l0
      repeat' first
      | (with_reducible exact ih0 _ _ _)
      | (with_reducible exact LeO.refl _)
      | (with_reducible exact LeO.none _)
      | (with_reducible refine LeO.ite ?_ ?_)
      | (with_reducible refine LeO.bind ?_ (fun _ => ?_))
      | exact ih0 _ _ _
      | exact LeO.none _
      | refine LeO.ite ?_ ?_
      | refine LeO.bind ?_ (fun _ => ?_)
theorem laws_fits8.mono : ∀ a0 k, LeO (laws_fits8.f k a0) (laws_fits8.f (k + 1) a0) := by
  intro a0 k
  have ih0 := laws_fits8.mono_l k
  unfold laws_fits8.f
  repeat' first
      | (with_reducible exact ih0 _ _ _)
      | (with_reducible exact LeO.refl _)
      | (with_reducible exact LeO.none _)
      | (with_reducible refine LeO.ite ?_ ?_)
      | (with_reducible refine LeO.bind ?_ (fun _ => ?_))
      | exact ih0 _ _ _
      | exact LeO.none _
      | refine LeO.ite ?_ ?_
      | refine LeO.bind ?_ (fun _ => ?_)
set_option maxHeartbeats 8000000 in
set_option maxRecDepth 100000 in
theorem laws_fits8.calls (k : Nat) (A0 : Option Addr) (c0 : Nat) (l0 : List ByteArray) (r : Bool) (w : World) (hr0 : Kd.C Kd.string w A0 l0.length l0) (hc0 : l0.length ≤ c0) (h : laws_fits8.f k l0 = some r) :
    Calls Tryd.prog 11 #[.slice A0 l0.length c0] w fun e w' => e = .returned (.bool r) ∧ Drawn0 w w' := by
  have HR0 := Aside0.mk hr0
  have HC0 := Aside0.mk hc0
  clear hr0 hc0
  have H : (laws_fits8.l0 k l0 (l0.length : Int) 0) = some r := h
  clear h
  have H' := Aside0.mk H
  clear H
  go_enter Tryd.func11, Tryd.ntmps11
  go_wp2
  go_loopg [7] k (fun kq v7 w' => ∃ (x7_1 : Int), v7 = .int .i64 x7_1 ∧ Aside0 (laws_fits8.l0 kq l0 (l0.length : Int) x7_1 = some r) ∧ Aside0 (kq ≤ k) ∧ Drawn0 w w')
  case atStart => exact ⟨(0), (by first | rfl | (simp; done) | (simp [*]; done)), H', ⟨Nat.le_refl _⟩, by repeat (first | exact Drawn0.refl _ | apply Drawn0.step)⟩
  case round =>
    clear H'
    try clear c1
    obtain ⟨x7_1, rfl, HA, HK1, ⟨m1, rfl⟩⟩ := hrel
    cases gk with
    | zero => exact absurd HA.out (by simp [laws_fits8.l0])
    | succ k1 =>
      have H := HA.out
      clear HA
      simp only [laws_fits8.l0] at H
      by_cases c2 : x7_1 < (l0.length : Int)
      · rw [if_pos c2] at H
        have c2b0 : decide (x7_1 < (l0.length : Int)) = true := decide_eq_true c2
        clear c2
        by_cases c3 : 0 ≤ x7_1
        · rw [if_pos c3] at H
          have c3b0 : decide (0 ≤ x7_1) = true := decide_eq_true c3
          clear c3
          by_cases c4 : x7_1 < (l0.length : Int)
          · rw [if_pos c4] at H
            have c4b0 : decide (x7_1 < (l0.length : Int)) = true := decide_eq_true c4
            clear c4
            by_cases c5 : ((rdOf ByteArray.empty l0 x7_1).size : Int) > 1000
            · rw [if_pos c5] at H
              have c5b0 : decide (1000 < ((rdOf ByteArray.empty l0 x7_1).size : Int)) = true := decide_eq_true c5
              have c5b1 : decide (1000 < (rdOf ByteArray.empty l0 x7_1).size) = true := decide_eq_true (by omega)
              clear c5
              obtain rfl := Option.some.inj H
              have p101 : 0 ≤ (x7_1 : Int) := of_decide_eq_true (by first | (with_reducible assumption) | assumption)
              have q101 : x7_1 < (l0.length : Int) := of_decide_eq_true (by first | (with_reducible assumption) | assumption)
              obtain ⟨ad101, e101, hx101_0⟩ := Kd.at_string HR0.out x7_1 p101 q101
              cases e101
              replace p101 := eq_true p101
              replace q101 := eq_true q101
              go_wp2
              go_ret
              exact ⟨by first | rfl | (simp; done) | (simp [*]; done), by repeat (first | exact Drawn0.refl _ | apply Drawn0.step)⟩
            · rw [if_neg c5] at H
              have c5b0 : decide (1000 < ((rdOf ByteArray.empty l0 x7_1).size : Int)) = false := decide_eq_false c5
              have c5b1 : decide (1000 < (rdOf ByteArray.empty l0 x7_1).size) = false := decide_eq_false (by omega)
              clear c5
              have H' := Aside0.mk H
              clear H
              have p101 : 0 ≤ (x7_1 : Int) := of_decide_eq_true (by first | (with_reducible assumption) | assumption)
              have q101 : x7_1 < (l0.length : Int) := of_decide_eq_true (by first | (with_reducible assumption) | assumption)
              obtain ⟨ad101, e101, hx101_0⟩ := Kd.at_string HR0.out x7_1 p101 q101
              cases e101
              replace p101 := eq_true p101
              replace q101 := eq_true q101
              go_wp2
              go_roundg k1
              case measure => have := HK1.out; omega
              case rel => exact ⟨(wrap64 (x7_1 + 1)), (by first | rfl | (simp; done) | (simp [*]; done)), H', ⟨by have := HK1.out; omega⟩, by repeat (first | exact Drawn0.refl _ | apply Drawn0.step)⟩
          · rw [if_neg c4] at H
            exact absurd H (by simp)
        · rw [if_neg c3] at H
          exact absurd H (by simp)
      · rw [if_neg c2] at H
        have c2b0 : decide (x7_1 < (l0.length : Int)) = false := decide_eq_false c2
        clear c2
        obtain rfl := Option.some.inj H
        go_wp2
        go_ret
        exact ⟨by first | rfl | (simp; done) | (simp [*]; done), by repeat (first | exact Drawn0.refl _ | apply Drawn0.step)⟩

end Go.Proofs.YtiopeaponffmdaaDoor.PAll
-- YtiopeaponffmdaaDoorFp
namespace Go.Proofs.YtiopeaponffmdaaDoor.PAll
open Go.RowKit Go.Proofs.YtiopeaponffmdaaDoorW.PrintWords Go.Proofs.YtiopeaponffmdaaDoorW.PrintLast Go.Proofs.YtiopeaponffmdaaDoorW.PrintMore

/-- x - x, x finite -/
theorem sub_self (F : Ieee.Format) (s : Bool) (m : Nat) (i : Int) (x : Nat) (h : F.read x = .number s m i) : F.sub x x = some 0 := by
  unfold Ieee.Format.sub
  rw [h]
  have e : (Ieee.signed s m (i - i).toNat + Ieee.signed (!s) m (i - i).toNat) = 0 := by
    unfold Ieee.signed
    cases s <;> simp <;> omega
  have h2 : (Ieee.Datum.number s m i).sum (Ieee.Datum.number s m i).opposite = some (.number false 0 (min i i)) := by
    unfold Ieee.Datum.opposite Ieee.Datum.sum
    simp only [Int.min_self]
    rw [e, if_pos rfl]
    cases s <;> rfl
  rw [h2]
  rfl

theorem read_fin (F : Ieee.Format) (x : Nat) (h : x % F.signWeight < F.infRung) : ∃ s m i, F.read x = .number s m i := by
  unfold Ieee.Format.read
  dsimp only
  split
  · exact ⟨_, _, _, rfl⟩
  · exact ⟨_, _, _, rfl⟩
theorem read_nonfin (F : Ieee.Format) (x : Nat) (h : F.infRung ≤ x % F.signWeight) (hb : F.binade ≤ F.infRung) : (∃ s, F.read x = .infinity s) ∨ ∃ s t, F.read x = .nan s t := by
  unfold Ieee.Format.read
  dsimp only
  rw [if_neg (by omega), if_neg (by omega)]
  split
  · exact .inl ⟨_, rfl⟩
  · exact .inr ⟨_, _, rfl⟩
theorem read_nan (F : Ieee.Format) (x : Nat) (h : F.infRung < x % F.signWeight) (hb : F.binade ≤ F.infRung) : ∃ s t, F.read x = .nan s t := by
  unfold Ieee.Format.read
  dsimp only
  rw [if_neg (by omega), if_neg (by omega), if_neg (by omega)]
  exact ⟨_, _, rfl⟩
theorem sub_self_none (F : Ieee.Format) (x : Nat) (h : F.infRung ≤ x % F.signWeight) (hb : F.binade ≤ F.infRung) : F.sub x x = none := by
  unfold Ieee.Format.sub
  rcases read_nonfin F x h hb with ⟨s, e⟩ | ⟨s, t, e⟩
  · rw [e]
    unfold Ieee.Datum.opposite Ieee.Datum.sum
    cases s <;> rfl
  · rw [e]; rfl

theorem finite8_yes (x : Nat) (w : World) (h : x % 9223372036854775808 < 9218868437227405312) : Calls Tryd.prog 12 #[.float .f64 x] w fun e w' => e = .returned (.bool true) ∧ w = w' := by
  obtain ⟨s, m, i, hr⟩ := read_fin FloatKind.f64.format x (Nat.lt_of_le_of_lt (Nat.le_of_eq (by rfl)) (Nat.lt_of_lt_of_le h (by decide +kernel)))
  have hs := sub_self FloatKind.f64.format s m i x hr
  have hrun := fun w : World => run_float_arith (P := Tryd.prog) w .sub 22 .f64 x x 0 hs
  have heq := fun w : World => (show (binOp BinOp.eql 22 (Value.float FloatKind.f64 0) (Value.float FloatKind.f64 0)).run Tryd.prog w = .ok (.bool true) w from by kernel_rfl)
  clear hs hr h
  go_enter Tryd.func12, Tryd.ntmps12
  go_wp2_with (fail)
  go_ret
  exact ⟨rfl, rfl⟩

theorem nan_cut (x y t : Nat) : 9218868437227405312 < (Question.nanBits FloatKind.f64 x y).cut t % 9223372036854775808 := by
  unfold Question.cut
  have : t / 2 % (2 ^ 52 - 1) < 2 ^ 52 - 1 := Nat.mod_lt _ (by decide)
  have e : (2 : Nat) ^ 52 - 1 = 4503599627370495 := by decide
  have e2 : (2 : Nat) ^ 63 = 9223372036854775808 := by decide
  rw [e] at this
  dsimp only
  rw [e, e2]
  generalize t / 2 % 4503599627370495 = r at *
  have : t % 2 < 2 := Nat.mod_lt _ (by decide)
  omega

theorem finite8_no (x : Nat) (w : World) (h : 9218868437227405312 ≤ x % 9223372036854775808) : Calls Tryd.prog 12 #[.float .f64 x] w fun e w' => e = .returned (.bool false) ∧ w.drew = w' := by
  have hs := sub_self_none FloatKind.f64.format x (Nat.le_trans (by decide +kernel) h) (by decide +kernel)
  obtain ⟨nb, hnb⟩ : ∃ nb, nb = (Question.nanBits FloatKind.f64 x x).cut (w.tape w.drawn (Question.nanBits FloatKind.f64 x x)) := ⟨_, rfl⟩
  have hrun : (binOp BinOp.sub 22 (Value.float FloatKind.f64 x) (Value.float FloatKind.f64 x)).run Tryd.prog w = .ok (.float .f64 nb) w.drew := by
    rw [hnb]
    simp [binOp, Op.floatArith, hs, Question.forced]
  have hn := nan_cut x x (w.tape w.drawn (Question.nanBits FloatKind.f64 x x))
  rw [← hnb] at hn
  obtain ⟨s, t, hr⟩ := read_nan FloatKind.f64.format nb (Nat.lt_of_le_of_lt (by decide +kernel) hn) (by decide +kernel)
  have ho : FloatKind.f64.format.order nb 0 = none := by
    unfold Ieee.Format.order
    rw [hr]; rfl
  have ho2 : (FloatKind.f64.format.order nb 0 == some Ordering.eq) = false := by rw [ho]; rfl
  clear hs hr h hnb hn ho
  go_enter Tryd.func12, Tryd.ntmps12
  go_wp2_with (fail)
  go_ret
  exact ⟨rfl, rfl⟩

theorem fits8_ev (s : ByteArray) : ∃ k, laws_fits8.f k [s] = some (decide (s.size ≤ 1000)) := by
  have h1 : (0 : Int) < (([s] : List ByteArray).length : Int) := by simp
  have h2 : (rdOf ByteArray.empty [s] 0) = s := rfl
  by_cases h : s.size ≤ 1000
  · refine ⟨2, ?_⟩
    rw [decide_eq_true h]
    show laws_fits8.l0 2 [s] 1 0 = _
    rw [laws_fits8.l0, if_pos (by decide), if_pos (by decide), if_pos h1, h2, if_neg (by omega), w64 _ (by decide) (by decide), laws_fits8.l0, if_neg (by decide)]
  · refine ⟨1, ?_⟩
    rw [decide_eq_false h]
    show laws_fits8.l0 1 [s] 1 0 = _
    rw [laws_fits8.l0, if_pos (by decide), if_pos (by decide), if_pos h1, h2, if_pos (by omega)]
end Go.Proofs.YtiopeaponffmdaaDoor.PAll
-- YtiopeaponffmdaaDoorFq
namespace Go.Proofs.YtiopeaponffmdaaDoor.PAll
open Go.RowKit Go.Proofs.YtiopeaponffmdaaDoorW.PrintWords Go.Proofs.YtiopeaponffmdaaDoorW.PrintLast Go.Proofs.YtiopeaponffmdaaDoorW.PrintMore
theorem one_string (W : World) (g : Nat) (T : TypeId) (s : ByteArray) (hb : W.heap[g]? = some (.cells #[.string s] T (0, 0))) : Kd.C Kd.string W (some ⟨g, 0, none⟩) ([s] : List ByteArray).length [s] := by
  refine Kd.C_of_reads (enc := Value.string) (d := ByteArray.empty) (h1 := fun _ => rfl) ?_
  refine ⟨rfl, by simp, fun _ => ⟨_, rfl, fun j hj => ?_⟩⟩
  have hj0 : j = 0 := by simp at hj; exact hj
  subst hj0
  simp [World.cell?, Addr.add, hb]
theorem fits8_calls (s : ByteArray) (w : World) (T : TypeId) : Calls Tryd.prog 11 #[.slice (some ⟨w.heap.size, 0, none⟩) 1 1] (w.alloc (.cells #[.string s] T)) fun e w' => e = .returned (.bool (decide (s.size ≤ 1000))) ∧ Below w.heap.size w w' := by
  obtain ⟨k, hk⟩ := fits8_ev s
  have h := laws_fits8.calls k (some ⟨w.heap.size, 0, none⟩) 1 [s] _ (w.alloc (.cells #[.string s] T)) (one_string _ _ T s (heap_alloc_new w _)) (Nat.le_refl _) hk
  refine h.mono fun e w' ⟨h1, h2⟩ => ⟨h1, ?_⟩
  obtain ⟨n, rfl⟩ := h2
  exact pw_below_drewN ((Below.refl w.heap.size w).alloc (Nat.le_refl _) _) _
set_option maxRecDepth 100000 in
theorem w3A (tt : ByteArray) (x : Nat) (w : World) (hs : 2147483647 < tt.size) : Calls Tryd.prog 3 #[.string tt, .float .f64 x] w fun e w' => e = .returned (.bool true) ∧ Below w.heap.size w w' := by
  go_enter Tryd.func3, Tryd.ntmps3
  go_wp2_with (fail)
  go_ret
  exact ⟨rfl, Below.refl _ _⟩
set_option maxRecDepth 100000 in
theorem w3B (tt : ByteArray) (x : Nat) (w : World) (hs : 1000 < tt.size) (hs2 : tt.size ≤ 2147483647) : Calls Tryd.prog 3 #[.string tt, .float .f64 x] w fun e w' => e = .returned (.bool true) ∧ Below w.heap.size w w' := by
  have hk := fits8_calls tt w 9
  rw [decide_eq_false (show ¬ tt.size ≤ 1000 by omega)] at hk
  have HK := Lib.hid hk
  clear hk hs
  go_enter Tryd.func3, Tryd.ntmps3
  go_wp2_with (fail)
  refine HK.out.mono ?_
  rintro e w' ⟨rfl, hb⟩
  go_wp2_with (fail)
  go_ret
  exact ⟨rfl, hb⟩
set_option maxRecDepth 100000 in
theorem w3C (tt : ByteArray) (x : Nat) (w : World) (hs : tt.size ≤ 1000) (hn : 9218868437227405312 ≤ x % 9223372036854775808) : Calls Tryd.prog 3 #[.string tt, .float .f64 x] w fun e w' => e = .returned (.bool true) ∧ Below w.heap.size w w' := by
  have hk := fits8_calls tt w 9
  rw [decide_eq_true hs] at hk
  have HK := Lib.hid hk
  have HF := Lib.hid (fun w => finite8_no x w hn)
  have hs2 : tt.size ≤ 2147483647 := by omega
  clear hk hn hs
  go_enter Tryd.func3, Tryd.ntmps3
  go_wp2_with (fail)
  refine HK.out.mono ?_
  rintro e w' ⟨rfl, hb⟩
  go_wp2_with (fail)
  refine (HF.out _).mono ?_
  rintro e w'' ⟨rfl, rfl⟩
  go_wp2_with (fail)
  go_ret
  exact ⟨rfl, hb.drew⟩
/-- the law's two texts are one -/
theorem law_texts (tt : ByteArray) (x c : Nat) (most : Int) (sg : Bool) (w : World) (hto : tt.size ≤ 4000000000) (hx : x < 18446744073709551616) (hc : c = x % 9223372036854775808) (hc1 : c < 9218868437227405312)
    (hsg : ((x : Int) / 9223372036854775808 != 0) = sg) (hR : Rdy w) :
    ∃ r : ByteArray, r.size ≤ 200 ∧ (∃ k, laws_floatText8.f k sg 52 most (c : Int) = some r) ∧
      Calls Tryd.prog 14 #[.string tt, .float .f64 x, .int .i64 64] w fun e w' => e = .returned (.string (tt ++ r)) ∧ Below w.heap.size w w' := by
  obtain ⟨l, hl, hE, hC⟩ := text64 tt x c most sg w hto hx hc hc1 hsg hR
  obtain ⟨K, hK⟩ := floatText8_ev sg 52 c most l (by omega) hE
  refine ⟨strOfNums ((if sg = true then [45] else []) ++ l), ?_, ⟨K, hK K (Nat.le_refl _)⟩, hC.mono fun e w' ⟨h1, h2⟩ => ⟨?_, h2⟩⟩
  · rw [strOfNums_size, List.length_append]
    have : (if sg = true then [45] else [] : List Int).length ≤ 1 := by split <;> simp
    omega
  · rw [h1, ← str_append, strOfNums_bytesOf]
set_option maxRecDepth 100000 in
theorem w3D (tt : ByteArray) (x c : Nat) (sg : Bool) (w : World) (hs : tt.size ≤ 1000) (hx : x < 18446744073709551616) (hc : c = x % 9223372036854775808) (hc1 : c < 9218868437227405312) (hsg : ((x : Int) / 9223372036854775808 != 0) = sg) (hsg1 : ((x : Int) / 9223372036854775808 == 1) = sg) (hR : Rdy w) :
    Calls Tryd.prog 3 #[.string tt, .float .f64 x] w fun e w' => e = .returned (.bool true) ∧ Below w.heap.size w w' := by
  have hk := fits8_calls tt w 9
  rw [decide_eq_true hs] at hk
  have HK := Lib.hid hk
  have HF := Lib.hid (fun w => finite8_yes x w (hc ▸ hc1))
  have r13 := run13
  have hs2 : tt.size ≤ 2147483647 := by omega
  have ha : bits .and .u64 (x : Int) 9223372036854775807 = (c : Int) := by
    have e := u64_and_nat x (2 ^ 63 - 1) hx (by decide)
    rw [Nat.and_two_pow_sub_one_eq_mod] at e
    have e2 : x % 2 ^ 63 = c := by omega
    rw [e2] at e
    exact e
  have HT := Lib.hid (fun (w : World) (hR : Rdy w) => law_texts tt x c 9218868437227405311 sg w (by omega) hx hc hc1 hsg hR)
  have HR := Lib.hid hR
  clear hk hs hR hc hc1 hsg
  go_enter Tryd.func3, Tryd.ntmps3
  go_wp2_with (fail)
  refine HK.out.mono ?_
  rintro e w' ⟨rfl, hb⟩
  have HB := Lib.hid hb
  clear hb
  go_wp2_with (fail)
  refine (HF.out _).mono ?_
  rintro e w'' ⟨rfl, rfl⟩
  go_wp2_with (fail)
  obtain ⟨r, hr, ⟨k, hk⟩, hC⟩ := HT.out w' (HR.out.mono HB.out)
  have HL := Lib.hid hk
  refine hC.mono ?_
  clear hk hC
  rintro e w1 ⟨rfl, hb1⟩
  have HB1 := Lib.hid (HB.out.trans (hb1.mono HB.out.size))
  clear hb1
  go_wp2_with (fail)
  refine (spec_Double.calls 52 9218868437227405311 w1 rfl).mono ?_
  rintro e w2 ⟨rfl, hb2⟩
  go_wp2_with (fail)
  refine (laws_floatText8.calls k sg 52 9218868437227405311 (c : Int) r _ HL.out).mono ?_
  rintro e w3 ⟨rfl, hb3⟩
  go_wp2_with (fail)
  go_ret
  exact ⟨rfl, HB1.out.trans ((hb2.trans (hb3.mono hb2.size)).mono HB1.out.size)⟩
theorem w3 (tt : ByteArray) (x : Nat) (w : World) (hx : x < 18446744073709551616) (hR : Rdy w) : Calls Tryd.prog 3 #[.string tt, .float .f64 x] w fun e w' => e = .returned (.bool true) ∧ Below w.heap.size w w' := by
  by_cases h1 : 2147483647 < tt.size
  · exact w3A tt x w h1
  · by_cases h2 : 1000 < tt.size
    · exact w3B tt x w h2 (by omega)
    · by_cases h3 : 9218868437227405312 ≤ x % 9223372036854775808
      · exact w3C tt x w (by omega) h3
      · by_cases h4 : 9223372036854775808 ≤ x
        · exact w3D tt x _ true w (by omega) hx rfl (by omega) (by rw [bne_iff_ne]; omega) (by rw [beq_iff_eq]; omega) hR
        · exact w3D tt x _ false w (by omega) hx rfl (by omega) (by rw [bne_eq_false_iff_eq]; omega) (by rw [beq_eq_false_iff_ne]; omega) hR
end Go.Proofs.YtiopeaponffmdaaDoor.PAll
-- YtiopeaponffmdaaDoorRa
namespace Go.Proofs.YtiopeaponffmdaaDoor
open Go.ChangeShapes Go.WideShapes Go.ChangeAt Go.RowKit

/-- AN ARRAY OF PAIRS -/
theorem cells_of_pairs {H : Type} {enc : TypeId × Value → H} {P : Program} {w : World} {base : Nat} {sp : Nat → Bool} {held : Bool} {fuel : Nat} {t e : TypeId} {n : Nat} {k : IntKind} {cs : List Value} {zs : List (Int × Int)} {p : List MemPlace}
    (ht : P.underlying t = some (.array n e)) {fs : Array Field} (he : P.underlying e = some (.struct fs)) (hf : ∀ (i : Nat) (f : Field), fs[i]? = some f → P.underlying f.type = some (.int k) ∧ f.offset = i ∧ P.cellsOf f.type = 1) (hfs : fs.size = 2) (hce : P.cellsOf e = 2)
    (h : DataW.trod enc P w base sp held fuel t cs = some (.agg (zs.map fun z => .agg [.lit (.int k z.1), .lit (.int k z.2)]), p)) :
    ∀ i z, zs[i]? = some z → cs[i * 2]? = some (.int k z.1) ∧ cs[i * 2 + 1]? = some (.int k z.2) := by
  cases fuel with
  | zero => simp [DataW.trod] at h
  | succ fuel =>
    simp only [DataW.trod, ht, hce] at h
    split at h
    · rename_i hl
      obtain ⟨xs, hm, hx⟩ := Option.map_eq_some_iff.1 h
      have hxs : xs.map (·.1) = zs.map fun z => (DataW.agg [.lit (.int k z.1), .lit (.int k z.2)] : DataW H) := by
        have := congrArg Prod.fst hx
        simpa using this
      have hxl : xs.length = n := by simpa using Lib.mapM_length hm
      have hzl : zs.length = n := by
        have := congrArg List.length hxs
        simp at this
        omega
      intro i z hz
      have hi : i < n := by
        have := (List.getElem?_eq_some_iff.1 hz).1
        omega
      obtain ⟨b, hb, hfb⟩ := Lib.mapM_at hm i i (by simp [hi])
      have h2 : (xs.map (·.1))[i]? = some b.1 := by simp [hb]
      rw [hxs, List.getElem?_map, hz] at h2
      simp only [Option.map_some, Option.some.injEq] at h2
      obtain ⟨b1, b2⟩ := b
      simp only at h2
      subst h2
      have hc := Lib.ints_of_struct (zs := [z.1, z.2]) he hf (by rw [hce, hfs]) hfb
      constructor
      · have := congrArg (·[0]?) hc
        simpa [List.getElem?_take, List.getElem?_drop] using this
      · have := congrArg (·[1]?) hc
        simpa [List.getElem?_take, List.getElem?_drop] using this
    · cases h

theorem own : ownKnob Tryd.prog.godebug = none := by kernel_rfl
theorem laidOut : laidOutB Tryd.prog = true := by kernel_rfl
theorem p10Ok : Tryd.prog.globalNamed "internal/strconv.pow10Tab" = some 3 := by kernel_rfl
theorem p10Ty : (Tryd.prog.globals[3]?).map (·.type) = some 118 := by kernel_rfl
theorem u10Ok : Tryd.prog.globalNamed "internal/strconv.uint64pow10" = some 2 := by kernel_rfl
theorem u10Ty : (Tryd.prog.globals[2]?).map (·.type) = some 109 := by kernel_rfl
theorem cells25 : Tryd.prog.cellsOf 25 = 1 := by kernel_rfl
theorem cells117 : Tryd.prog.cellsOf 117 = 2 := by kernel_rfl
theorem cells109 : Tryd.prog.cellsOf 109 = 20 := by kernel_rfl
theorem und118 : Tryd.prog.underlying 118 = some (.array 696 117) := by kernel_rfl
theorem fields117 : ∀ (i : Nat) (f : Field), (#[{ name := "hi", type := 25, offset := 0, embedded := false, tag := "", pkgPath := "internal/strconv", byteOffset := 0 }, { name := "lo", type := 25, offset := 1, embedded := false, tag := "", pkgPath := "internal/strconv", byteOffset := 8 }] : Array Field)[i]? = some f → Tryd.prog.underlying f.type = some (.int .u64) ∧ f.offset = i ∧ Tryd.prog.cellsOf f.type = 1 := by
  intro i f h
  match i, h with
  | 0, h => cases h; exact ⟨Tryd.underlying25, rfl, cells25⟩
  | 1, h => cases h; exact ⟨Tryd.underlying25, rfl, cells25⟩
  | i + 2, h => simp at h
theorem und109 : Tryd.prog.underlying 109 = some (.array 20 25) := by kernel_rfl

/-- the tables, out of the row's condition -/
theorem rdy_of {W : World} {l : List (String × DataW Unit)} (hd : laidMet Tryd.prog l W) (h1 : ("internal/strconv.uint64pow10", (Rows.laid_internal_strconv_uint64pow10 : DataW Unit)) ∈ l) (h2 : ("internal/strconv.pow10Tab", Rows.laid_internal_strconv_pow10Tab) ∈ l) : PAll.Rdy W := by
  obtain ⟨g, t, cs, fuel, p, a1, a2, a3, a4⟩ := Lib.laidMet.reads hd h1
  obtain rfl := Option.some.inj (u10Ok.symm.trans a1)
  obtain rfl := Option.some.inj (u10Ty.symm.trans a2)
  have e1 : (Rows.laid_internal_strconv_uint64pow10 : DataW Unit) = Lib.tabData .u64 Lib.pow10Tab := by kernel_rfl
  rw [e1] at a4
  have hc1 := Lib.cells_of_tab und109 Tryd.underlying25 cells25 cells109 a4
  obtain ⟨g, t, cs', fuel', p', b1, b2, b3, b4⟩ := Lib.laidMet.reads hd h2
  obtain rfl := Option.some.inj (p10Ok.symm.trans b1)
  obtain rfl := Option.some.inj (p10Ty.symm.trans b2)
  have e2 : Rows.laid_internal_strconv_pow10Tab = .agg ((Go.Pinned.pow10Rows.map fun x => (((x.1 : Int), (x.2 : Int)) : Int × Int)).map fun z => .agg [.lit (.int .u64 z.1), .lit (.int .u64 z.2)]) := by
    show Go.Pinned.pow10Tab = _
    unfold Go.Pinned.pow10Tab
    rw [List.map_map]
    rfl
  rw [e2] at b4
  have hc2 := cells_of_pairs und118 Tryd.underlying117 fields117 rfl cells117 b4
  have tab1 : Lib.TabIs Tryd.prog W "internal/strconv.uint64pow10" .u64 Lib.pow10Tab := by
    unfold Lib.TabIs
    rw [a3, ← hc1]
  have len : Go.Pinned.pow10Rows.length = 696 := by kernel_rfl
  have s3 : 3 < W.heap.size := by
    refine Nat.not_le.1 fun hle => ?_
    have : W.heap[3]? = none := Array.getElem?_eq_none hle
    simp [World.var?, p10Ok, this] at b3
  have cell : ∀ i, i < 696 → W.cell? ⟨3, i * 2, none⟩ = some (.int .u64 ((Go.Pinned.pow10Rows.getD i (0, 0)).1 : Int)) ∧ W.cell? ⟨3, i * 2 + 1, none⟩ = some (.int .u64 ((Go.Pinned.pow10Rows.getD i (0, 0)).2 : Int)) := by
    intro i hi
    have hz : (Go.Pinned.pow10Rows.map fun x => (((x.1 : Int), (x.2 : Int)) : Int × Int))[i]? = some (((Go.Pinned.pow10Rows.getD i (0, 0)).1 : Int), ((Go.Pinned.pow10Rows.getD i (0, 0)).2 : Int)) := by
      rw [List.getElem?_map, List.getD_eq_getElem?_getD, List.getElem?_eq_getElem (by rw [len]; exact hi)]
      rfl
    obtain ⟨c1, c2⟩ := hc2 i _ hz
    rw [World.var?_cell p10Ok b3, World.var?_cell p10Ok b3]
    exact ⟨by simpa using c1, by simpa using c2⟩
  intro V hV
  have k3 : V.heap[3]? = W.heap[3]? := hV.block 3 s3
  have k2 : V.heap[2]? = W.heap[2]? := hV.block 2 (by omega)
  refine ⟨⟨Nat.lt_of_lt_of_le s3 hV.size, fun i hi => ?_⟩, ?_⟩
  · have := cell i hi
    simp only [World.cell?, k3] at this ⊢
    exact this
  · unfold Lib.TabIs at tab1 ⊢
    rw [← tab1]
    simp only [World.var?, u10Ok, Option.bind_some, k2]
end Go.Proofs.YtiopeaponffmdaaDoor
-- YtiopeaponffmdaaDoorLFnFloat
namespace Go.Proofs.YtiopeaponffmdaaDoor
open Go Go.ChangeShapes Go.WideShapes Go.ChangeAt Go.RowKit Go.ChangeMaps

theorem varsOkFnFloat : varsRowed Tryd.prog Rows.fnFloatSpec.vars = true := by kernel_rfl
set_option maxRecDepth 100000 in
theorem liftedFnFloat (os : Os) (started : os.Started) (H : Type) (enc : TypeId × Value → H) :
    ReturnsInHanded {} Tryd.checked os 3 .any (fun w args => (Rows.fnFloatSpec.pre enc Tryd.prog Tryd.f3 Rows.fnFloatRow.domain false w args ∧ laidMetH Tryd.prog Rows.fnFloatRow.laid w) ∧ sizedMet enc Tryd.prog Tryd.f3 (OpenSpec.ofChange Rows.fnFloatSpec) false w args)
      (Rows.fnFloatSpec.post enc Tryd.prog Tryd.f3 false true false false) := by
  refine returnsInHanded_of_change_and (C := Tryd.checked) (X := fun w _ => laidMetH Tryd.prog Rows.fnFloatRow.laid w) (fun _ _ _ hh h => h.of_heap hh) own started (by kernel_rfl) Tryd.func3
    (ChangeSpec.witness_shaped (enc := enc) (C := Tryd.checked) (os := os) (X := fun w _ => laidMetH Tryd.prog Rows.fnFloatRow.laid w) false (World.laidAll Tryd.prog os Rows.fnFloatRow.laid) #[.string ⟨#[]⟩, .float .f64 0] 8 (World.laidAll_os _ _ _)
      (World.shaped_of_ZipB (by kernel_rfl) (by kernel_rfl)) (by kernel_rfl) (by kernel_rfl) (by kernel_rfl)
      (by rw [MakeChecks.laidMetH_plain _ _ _ (by kernel_rfl)]; exact laidMet_laidAll _ (by kernel_rfl) (by kernel_rfl))) ?_
  intro W base args ds gs before hval0 hW hc _ hL _
  have hval : ∀ (j : Nat) t v, Tryd.f3.params[j]? = some t → args[j]? = some v → Value.okWide Tryd.prog W .any base t v := hval0
  have hW' := hW
  obtain ⟨p, q, hA0, hV, rfl, _, _⟩ := hW
  have hA : DataW.TrodAll enc Tryd.prog W 0 (fun _ => true) true Tryd.f3.params.toList args.toList ds p := hA0
  rw [Tryd.params3] at hA hval
  obtain ⟨v0, v1, d0, d1, p0, p1, rfl, rfl, rfl, h0, h1⟩ := trodAll_two hA
  obtain ⟨x0, rfl, rfl, rfl, wx0⟩ := open_string Tryd.underlying9 (hval 0 9 v0 rfl rfl) h0
  obtain ⟨x1, rfl, rfl, rfl, wx1⟩ := open_float Tryd.underlying22 (hval 1 22 v1 rfl rfl) h1
  obtain ⟨rfl, rfl⟩ := trodVars_none hV
  rw [MakeChecks.laidMetH_plain _ _ _ (by kernel_rfl)] at hL
  have hR : PAll.Rdy W := rdy_of hL (by simp [Rows.fnFloatRow]) (by simp [Rows.fnFloatRow])
  have fin : Calls Tryd.prog 3 #[.string x0, .float .f64 x1] W fun e w' => e = .returned (.bool true) ∧ Below W.heap.size W w' := by
    exact PAll.w3 x0 x1 W (by have := wx1; simp [Lit.wf] at this; omega) hR
  refine fin.mono fun e W' ⟨he, hb⟩ => ?_
  subst he
  exact ⟨_, rfl, _, _, _, [], [], _, hW', trodAll_mk1 (shut_bool Tryd.underlying4 true), trodAll_mk2 (shut_string Tryd.underlying9 wx0) (shut_float Tryd.underlying22 wx1), Below.trodVars laidOut hb varsOkFnFloat hV, hb.frame _, fun h => by cases h⟩

theorem fnFloat_holds : Rows.FnFloatSaid :=
  OpenClaim.holds_of_wide 3 Tryd.f3 rfl rfl rfl rfl rfl rfl rfl ⟨rfl, rfl, rfl, rfl, rfl⟩ rfl rfl rfl rfl rfl (by kernel_rfl) Tryd.func3 (by kernel_rfl)
    (of_decide_eq_true (by kernel_rfl)) (by unfold Func.isWrapper; first | (rw [if_pos (by decide +kernel)]; kernel_rfl) | (rw [if_neg (by decide +kernel)]; exact ⟨rfl, rfl⟩))
    (fun os started H enc _ => liftedFnFloat os started H enc)
theorem fnFloat_card : Rows.FnFloatCardSaid :=
  Claim7.holds_tied_plain_at .later [] [.data, .data, .data, .data, .pinned, .pinned] true (true, "de90ebed450df59327ce393381191af0e1580690049105112f683f9df6acb66c") false
    fnFloat_holds (fun _ h => by cases h) (by kernel_rfl) (fun _ h => by cases h) fnFloat_row_tie rfl ⟨rfl, rfl⟩ (by kernel_rfl) rfl
    (fun f fn hf hfn => by
      obtain rfl : f = 3 := Option.some.inj ((show Tryd.prog.funcNamed "loop.example/pub-g01450/laws.FnFloat" = some 3 by kernel_rfl).symm.trans hf) |>.symm
      obtain rfl : fn = Tryd.f3 := (Option.some.inj (Tryd.func3.symm.trans hfn)).symm
      exact ⟨by kernel_rfl, fun j t ht => by
        rw [Tryd.params3] at ht
        have h4 : t = 9 ∨ t = 22 := by
          rcases j with _ | j
          · simp at ht; subst ht; simp
          rcases j with _ | j
          · simp at ht; subst ht; simp
          · simp at ht
        rcases h4 with rfl | rfl
        · exact (show Tryd.prog.wantsStandIn 9 = false by kernel_rfl)
        · exact (show Tryd.prog.wantsStandIn 22 = false by kernel_rfl)⟩)
    (by kernel_rfl)
end Go.Proofs.YtiopeaponffmdaaDoor
