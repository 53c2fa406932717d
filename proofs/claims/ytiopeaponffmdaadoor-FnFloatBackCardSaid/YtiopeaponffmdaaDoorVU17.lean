/- The texts of a proof, its declarations alone: part 17. -/
import Derived.Test.YtiopeaponffmdaaDoorVU3
import Derived.Test.YtiopeaponffmdaaDoorVU16
set_option linter.unusedVariables false
set_option linter.unusedSimpArgs false
-- YtiopeaponffmdaaDoorFs
set_option linter.unusedVariables false
set_option linter.unusedSimpArgs false
namespace Go.Proofs.YtiopeaponffmdaaDoor.PAll
open Go.RowKit Go.Proofs.YtiopeaponffmdaaDoorW.PrintWords Go.Proofs.YtiopeaponffmdaaDoorW.PrintLast Go.Proofs.YtiopeaponffmdaaDoorW.PrintMore
open Fm
theorem empty_app (s : ByteArray) : (⟨#[]⟩ : ByteArray) ++ s = s := by
  refine bytes_eq ?_
  rw [ByteArray.data_append, Array.toList_append]
  rfl
/-- the text alone -/
theorem textE (x c : Nat) (sg : Bool) (w : World) (hx : x < 18446744073709551616) (hc : c = x % 9223372036854775808) (hc1 : c < 9218868437227405312)
    (hsg : ((x : Int) / 9223372036854775808 != 0) = sg) (hR : Rdy w) :
    ∃ l : List Int, NumText 52 c l ∧
      Calls Tryd.prog 14 #[.string ⟨#[]⟩, .float .f64 x, .int .i64 64] w fun e w' => e = .returned (.string (strOfNums ((if sg = true then [45] else []) ++ l))) ∧ Below w.heap.size w w' := by
  obtain ⟨l, hl, hC⟩ := text64F ⟨#[]⟩ x c sg w (by decide) hx hc hc1 hsg hR
  exact ⟨l, hl, hC.mono fun e w' ⟨h1, h2⟩ => ⟨by rw [h1, empty_app], h2⟩⟩
end Go.Proofs.YtiopeaponffmdaaDoor.PAll
-- YtiopeaponffmdaaDoorGg
set_option linter.unusedVariables false
set_option linter.unusedSimpArgs false
namespace Go.Proofs.YtiopeaponffmdaaDoor.PAll
open Go.RowKit Go.Proofs.YtiopeaponffmdaaDoorW.PrintWords Go.Proofs.YtiopeaponffmdaaDoorW.PrintLast Go.Proofs.YtiopeaponffmdaaDoorW.PrintMore
open Fm

/-- a whole number of at most 2^53, made a number of double precision: its text is its digits -/
theorem conv_whole (n : Int) (hlo : -9007199254740992 ≤ n) (hhi : n ≤ 9007199254740992) :
    ∃ (x c : Nat) (sg : Bool), floatOfInt .f64 n = x ∧ x < 18446744073709551616 ∧ c = x % 9223372036854775808 ∧ c < 9218868437227405312 ∧ ((x : Int) / 9223372036854775808 != 0) = sg ∧ sg = decide (n < 0) ∧
      ∀ l, NumText 52 c l → l = dec n.natAbs := by
  have sw : Ieee.double.signWeight = 9223372036854775808 := by decide
  -- a number with a code
  have one : ∀ c : Nat, c < 9218868437227405312 → Ieee.double.nearest (decide (n < 0)) n.natAbs 0 = Ieee.double.word (decide (n < 0)) c → (∀ l, NumText 52 c l → l = dec n.natAbs) →
      ∃ (x c : Nat) (sg : Bool), floatOfInt .f64 n = x ∧ x < 18446744073709551616 ∧ c = x % 9223372036854775808 ∧ c < 9218868437227405312 ∧ ((x : Int) / 9223372036854775808 != 0) = sg ∧ sg = decide (n < 0) ∧
        ∀ l, NumText 52 c l → l = dec n.natAbs := by
    intro c hc hn ht
    have hw : Ieee.double.word (decide (n < 0)) c = (if decide (n < 0) = true then 9223372036854775808 else 0) + c := by
      unfold Ieee.Format.word
      rw [sw]
      cases decide (n < 0) <;> simp
    refine ⟨Ieee.double.word (decide (n < 0)) c, c, decide (n < 0), hn, ?_, ?_, hc, ?_, rfl, ht⟩
    · rw [hw]; split <;> omega
    · rw [hw]; split <;> omega
    · rw [hw]
      cases decide (n < 0)
      · rw [bne_eq_false_iff_eq]; simp; omega
      · rw [bne_iff_ne]; simp; omega
  obtain ⟨N, hN⟩ : ∃ N, N = n.natAbs := ⟨_, rfl⟩
  by_cases h0 : n = 0
  · subst h0
    refine one 0 (by decide) (by decide +kernel) (fun l hl => ?_)
    rcases hl with ⟨_, rfl⟩ | ⟨h, _⟩
    · rw [show (0 : Int).natAbs = 0 from rfl, dec_lt (by decide)]; rfl
    · omega
  · rw [← hN] at one ⊢
    have N0 : 0 < N := by omega
    by_cases h53 : N = 9007199254740992
    · refine one 4845873199050653696 (by decide) ?_ (fun l hl => by rw [h53]; exact whole_text53 l hl)
      rw [h53]
      cases decide (n < 0) <;> decide +kernel
    · obtain ⟨g, hg⟩ : ∃ g, g = N.log2 := ⟨_, rfl⟩
      have hg1 : 2 ^ g ≤ N := by rw [hg]; exact Nat.log2_self_le (by omega)
      have hg2 : N < 2 ^ (g + 1) := by rw [hg]; exact Nat.lt_log2_self
      have hg52 : g ≤ 52 := by
        have h1 : 2 ^ g < 2 ^ 53 := Nat.lt_of_le_of_lt hg1 (by
          have e53 : (2 : Nat) ^ 53 = 9007199254740992 := by decide
          omega)
        have := pow2_lt h1
        omega
      obtain ⟨B, hB⟩ : ∃ B, B = N * 2 ^ (52 - g) := ⟨_, rfl⟩
      have hk2 : N * 2 ^ (52 - g) < 2 ^ 53 := by
        have := Nat.mul_lt_mul_of_pos_right hg2 (Nat.two_pow_pos (52 - g))
        rwa [← Nat.pow_add, show g + 1 + (52 - g) = 53 by omega] at this
      have e52 : (2 : Nat) ^ 52 = 4503599627370496 := by decide
      have e53 : (2 : Nat) ^ 53 = 9007199254740992 := by decide
      have hf : (1022 + g) * 2 ^ 52 + N * 2 ^ (52 - g) ≤ 9218868437227405311 := by rw [← hB] at hk2 ⊢; omega
      refine one ((1022 + g) * 2 ^ 52 + N * 2 ^ (52 - g)) (Nat.lt_succ_of_le hf) ?_ (fun l hl => whole_text N g _ hg52 hg1 hg2 rfl l hl)
      exact nearest_exact Ieee.double (decide (n < 0)) N 0 (52 - g) (1022 + g) N0 (by rw [← hg]; show g + (52 - g) = 52; omega) (by show (0 : Int) - ((52 - g : Nat) : Int) = -1074 + ((1022 + g : Nat) : Int); omega) (by show (1022 + g) * 2 ^ 52 + N * 2 ^ (52 - g) ≤ 9218868437227405312; omega)
end Go.Proofs.YtiopeaponffmdaaDoor.PAll
-- YtiopeaponffmdaaDoorPAllx29
namespace Go.Proofs.YtiopeaponffmdaaDoor.PAll
open Go.RowKit Go.Proofs.YtiopeaponffmdaaDoorW.PrintWords Go.Proofs.YtiopeaponffmdaaDoorW.PrintLast Go.Proofs.YtiopeaponffmdaaDoorW.PrintMore
attribute [local go_sem] max2_int min2_int max_two min_two max_three min_three max_four min_four   -- for this text's walks alone
set_option linter.unusedVariables false
set_option linter.unusedSimpArgs false

mutual
def spec_DecimalOf.j0 : Nat → ByteArray → Bool → Option (ByteArray × Int × Bool)
  | 0, _, _ => none
  | k + 1, x0, x4 => spec_DecimalOf.l0 k x0 x4 (([] : List Int)) 0 false 0
def spec_DecimalOf.l0 : Nat → ByteArray → Bool → List Int → Int → Bool → Int → Option (ByteArray × Int × Bool)
  | 0, _, _, _, _, _, _ => none
  | k + 1, x0, x4, x5, x6, x7, x8 => if x8 < (x0.size : Int) then (if 0 ≤ x8 then (if (bt x0 x8) = 101 then (spec_DecimalOf.j2 k x0 x4 x5 x6 x7 x8 false) else (spec_DecimalOf.j2 k x0 x4 x5 x6 x7 x8 ((bt x0 x8) != 69))) else (none)) else (spec_DecimalOf.j2 k x0 x4 x5 x6 x7 x8 false)
def spec_DecimalOf.j2 : Nat → ByteArray → Bool → List Int → Int → Bool → Int → Bool → Option (ByteArray × Int × Bool)
  | 0, _, _, _, _, _, _, _ => none
  | k + 1, x0, x4, x5, x6, x7, x8, x35 => if x35 = true then (if 0 ≤ x8 then (if x8 < (x0.size : Int) then (if (bt x0 x8) = 46 then (spec_DecimalOf.l0 k x0 x4 x5 x6 true (wrap64 (x8 + 1))) else (if (bt x0 x8) ≥ 48 then (spec_DecimalOf.j3 k x0 x4 x5 x6 x7 x8 (decide ((bt x0 x8) ≤ 57))) else (spec_DecimalOf.j3 k x0 x4 x5 x6 x7 x8 false))) else (none)) else (none)) else (spec_DecimalOf.l1 k x0 x4 x5 x6 x8 0 false)
def spec_DecimalOf.j3 : Nat → ByteArray → Bool → List Int → Int → Bool → Int → Bool → Option (ByteArray × Int × Bool)
  | 0, _, _, _, _, _, _, _ => none
  | k + 1, x0, x4, x5, x6, x7, x8, x43 => if x43 = true then (if (x5.length : Int) > 0 then (spec_DecimalOf.j4 k x0 x4 x5 x6 x7 x8 true) else (if 0 ≤ x8 then (if x8 < (x0.size : Int) then (spec_DecimalOf.j4 k x0 x4 x5 x6 x7 x8 ((bt x0 x8) != 48)) else (none)) else (none))) else (spec_DecimalOf.l0 k x0 x4 x5 x6 x7 (wrap64 (x8 + 1)))
def spec_DecimalOf.j4 : Nat → ByteArray → Bool → List Int → Int → Bool → Int → Bool → Option (ByteArray × Int × Bool)
  | 0, _, _, _, _, _, _, _ => none
  | k + 1, x0, x4, x5, x6, x7, x8, x62 => if x62 = true then (if 0 ≤ x8 then (if x8 < (x0.size : Int) then (if x5.length < 140737488355328 then ((some (x5 ++ [bt x0 x8] : List Int)).bind fun y465 => (if x7 = true then (spec_DecimalOf.l0 k x0 x4 y465 (wrap64 (x6 - 1)) x7 (wrap64 (x8 + 1))) else (spec_DecimalOf.l0 k x0 x4 y465 x6 x7 (wrap64 (x8 + 1))))) else (none)) else (none)) else (none)) else (if x7 = true then (spec_DecimalOf.l0 k x0 x4 x5 (wrap64 (x6 - 1)) x7 (wrap64 (x8 + 1))) else (spec_DecimalOf.l0 k x0 x4 x5 x6 x7 (wrap64 (x8 + 1))))
def spec_DecimalOf.l1 : Nat → ByteArray → Bool → List Int → Int → Int → Int → Bool → Option (ByteArray × Int × Bool)
  | 0, _, _, _, _, _, _, _ => none
  | k + 1, x0, x4, x5, x6, x8, x9, x10 => if x8 < (x0.size : Int) then (if 0 ≤ x8 then (if (bt x0 x8) = 45 then (if (bt x0 x8) ≥ 48 then (if (bt x0 x8) ≤ 57 then (spec_DecimalOf.l1 k x0 x4 x5 x6 (wrap64 (x8 + 1)) (mn (wrap64 ((wrap64 (10 * x9)) + (((bt x0 x8) - 48) % 256))) 100000) true) else (spec_DecimalOf.l1 k x0 x4 x5 x6 (wrap64 (x8 + 1)) x9 true)) else (spec_DecimalOf.l1 k x0 x4 x5 x6 (wrap64 (x8 + 1)) x9 true)) else (if (bt x0 x8) ≥ 48 then (if (bt x0 x8) ≤ 57 then (spec_DecimalOf.l1 k x0 x4 x5 x6 (wrap64 (x8 + 1)) (mn (wrap64 ((wrap64 (10 * x9)) + (((bt x0 x8) - 48) % 256))) 100000) x10) else (spec_DecimalOf.l1 k x0 x4 x5 x6 (wrap64 (x8 + 1)) x9 x10)) else (spec_DecimalOf.l1 k x0 x4 x5 x6 (wrap64 (x8 + 1)) x9 x10))) else (none)) else (if x10 = true then (some (strOfNums x5, wrap64 (x6 + (wrap64 (-x9))), x4)) else (some (strOfNums x5, wrap64 (x6 + x9), x4)))
end
def spec_DecimalOf.f (k : Nat) (a0 : ByteArray) : Option (ByteArray × Int × Bool) := if (a0.size : Int) > 0 then (if 0 < (a0.size : Int) then (spec_DecimalOf.j0 k a0 ((bt a0 0) == 45)) else (none)) else (spec_DecimalOf.j0 k a0 false)
set_option maxHeartbeats 8000000 in
set_option maxRecDepth 100000 in
theorem spec_DecimalOf.calls (k : Nat) (a0 : ByteArray) (r1 : ByteArray) (r2 : Int) (r3 : Bool) (w : World) (h : spec_DecimalOf.f k a0 = some (r1, r2, r3)) :
    Calls Tryd.prog 17 #[.string a0] w fun e w' => e = .returned (.tuple #[.agg #[.string r1, .int .i64 r2], .bool r3]) ∧ Below w.heap.size w w' := by
  have hu35 := Tryd.underlying35
  have HB := Aside0.mk (Below.refl w.heap.size w)
  have H : (if (a0.size : Int) > 0 then (if 0 < (a0.size : Int) then (spec_DecimalOf.j0 k a0 ((bt a0 0) == 45)) else (none)) else (spec_DecimalOf.j0 k a0 false)) = some (r1, r2, r3) := h
  clear h
  have HC2 := Aside0.mk H
  clear H
  go_enter Tryd.func17, Tryd.ntmps17
  go_upto_region 1 with (first | ((with_reducible refine gate_dst (N := 2) rfl ?_); refine box_event ?hg (N := 2) ?hd (cs := #[.string (⟨#[]⟩ : ByteArray), .int .i64 0]) (t := 35) ?hr ?_; (case hd => rfl); (case hg => rfl); (case hr => first | (go_simp; done) | (go_simp; rfl)); intro gb461 hg w3 hbox hb; have n0_ := Aside0.mk (below_step (by repeat (first | (with_reducible first | exact HB.out | apply below_alloc | apply pw_below_drewN | apply below_drew1) | exact HB.out)) hb); have n1_ := Aside0.mk (hbox); have n2_ := Aside0.mk ((by rw [hg]; exact (below_size (by repeat (first | (with_reducible first | exact HB.out | apply below_alloc | apply pw_below_drewN | apply below_drew1) | exact HB.out))) : w.heap.size ≤ gb461)); have n3_ := Aside0.mk ((by rw [hg]; exact (below_size (by repeat (first | (with_reducible first | exact HB.out | apply below_alloc | apply pw_below_drewN | apply below_drew1) | exact HB.out))) : w.heap.size ≤ gb461)); clear HB; have HB := n0_; have BK461 := n1_; have GW461 := n2_; have GE461 := n3_; clear n0_ n1_ n2_ n3_; clear hb hbox hg))
  (try simp only [Act.put, List.setIfInBounds_toArray, List.set_cons_zero, List.set_cons_succ])
  go_cut [4] (fun v4 wc => ∃ (kq : Nat) (x4_1 : Bool), v4 = .bool x4_1 ∧ Aside0 (spec_DecimalOf.j0 kq a0 x4_1 = some (r1, r2, r3)) ∧ Aside0 (kq ≤ k) ∧ Aside0 (wc.heap[gb461]? = some (.cells #[.string (⟨#[]⟩ : ByteArray), .int .i64 0] 35 (0, 0))) ∧ Aside0 (Below w.heap.size w wc))
  case first =>
    have H := HC2.out
    clear HC2
    by_cases c4 : (a0.size : Int) > 0
    · rw [if_pos c4] at H
      have c4b0 : decide (0 < (a0.size : Int)) = true := decide_eq_true c4
      have c4b1 : decide (0 < a0.size) = true := decide_eq_true (by omega)
      clear c4
      (first | rw [c4b0] | (simp only [i64_w, i32_w]; rw [c4b0]) | skip)
      by_cases c5 : 0 < (a0.size : Int)
      · rw [if_pos c5] at H
        have c5b0 : decide (0 < (a0.size : Int)) = true := decide_eq_true c5
        have c5b1 : decide (0 < a0.size) = true := decide_eq_true (by omega)
        clear c5
        have H' := Aside0.mk H
        clear H
        have p6 : 0 ≤ (0 : Int) := (by omega)
        have q6 : 0 < a0.size := (by have : (0 : Int) < (a0.size : Int) := of_decide_eq_true (by first | (with_reducible assumption) | assumption); omega)
        have hx6 : ∀ h : 0 < a0.size, ((a0[0]'h).toNat : Int) = bt a0 0 := bt_at a0 0
        clear p6
        have qi6 : (0 < (a0.size : Int)) = True := eq_true (of_decide_eq_true (by first | (with_reducible assumption) | assumption))
        replace q6 := eq_true q6
        go_wp2
        go_meet
        case rel => exact ⟨_, (((bt a0 0) == 45)), (by first | rfl | (simp; done) | (simp [*]; done)), H', ⟨by first | omega | exact Nat.le_refl _⟩, ⟨by (with_reducible repeat (first | refine blk_drewN ?_ _ | refine blk_drew ?_ | refine blk_alloc ?_ _)); exact BK461.out⟩, ⟨by repeat (first | (with_reducible first | exact HB.out | apply below_alloc | apply pw_below_drewN | apply below_drew1 | refine below_set ?_ GE461.out) | exact HB.out)⟩⟩
      · rw [if_neg c5] at H
        exact absurd H (by simp)
    · rw [if_neg c4] at H
      have c4b0 : decide (0 < (a0.size : Int)) = false := decide_eq_false c4
      have c4b1 : decide (0 < a0.size) = false := decide_eq_false (by omega)
      clear c4
      (first | rw [c4b0] | (simp only [i64_w, i32_w]; rw [c4b0]) | skip)
      have H' := Aside0.mk H
      clear H
      go_wp2
      go_meet
      case rel => exact ⟨_, (false), (by first | rfl | (simp; done) | (simp [*]; done)), H', ⟨by first | omega | exact Nat.le_refl _⟩, ⟨by (with_reducible repeat (first | refine blk_drewN ?_ _ | refine blk_drew ?_ | refine blk_alloc ?_ _)); exact BK461.out⟩, ⟨by repeat (first | (with_reducible first | exact HB.out | apply below_alloc | apply pw_below_drewN | apply below_drew1 | refine below_set ?_ GE461.out) | exact HB.out)⟩⟩
  case rest =>
    clear HC2
    try clear c1
    try clear p2
    try clear c4
    try clear c4b0
    try clear c4b1
    try clear c5
    try clear c5b0
    try clear c5b1
    try clear p6
    try clear q6
    try clear hx6
    try clear qi6
    try clear p6
    try clear q6
    obtain ⟨kq, x4_1, rfl, HA, HJ1, BK461, HB⟩ := hcut
    cases kq with
    | zero => exact absurd HA.out (by simp [spec_DecimalOf.j0])
    | succ kj1 =>
      have H := HA.out
      clear HA
      simp only [spec_DecimalOf.j0] at H
      obtain ⟨y462, hy462⟩ : ∃ y_ : List Int, y_ = (([] : List Int)) := ⟨_, rfl⟩
      replace H : (spec_DecimalOf.l0 kj1 a0 x4_1 y462 0 false 0) = some (r1, r2, r3) := by first | (rw [hy462]; with_reducible exact H) | (have H2_ := (Option.bind_some _ _).symm.trans H; rw [hy462]; with_reducible exact H2_) | (have H2_ := (Option.bind_some _ _).symm.trans H; with_reducible exact H2_) | with_reducible exact H | (rw [hy462]; exact H) | exact H
      have Ny462 := Aside0.mk hy462
      clear hy462
      have H' := Aside0.mk H
      clear H
      go_wp2_with (first | ((with_reducible refine gate_dst (N := 19) rfl ?_); refine Kd.R_lit (Kd.int .u8) _ 5 ?hg (N := 19) ?hd (xs := ([] : List Int)) (inner := []) (ok := fun _ => True) (okp := fun _ => True) ?hr ?hp (fun _ hk => hk) trivial (Below.refl _ _) (Nat.le_refl _) (by simp) ?_; (case hd => rfl); (case hg => rfl); (case hr => first | (go_simp; done) | (go_simp; rfl)); (case hp => exact (Reps.none _ _)); intro v463 w7 ho8 hb hg_ hnew_; clear hg_ hnew_; (first | rw [← Ny462.out] at ho8 | (simp only [Int.reduceToNat] at ho8; rw [← Ny462.out] at ho8)); have n0_ := Aside0.mk (Kd.R_lower ho8 (below_size (by repeat (first | (with_reducible first | exact HB.out | apply below_alloc | apply pw_below_drewN | apply below_drew1 | refine below_set ?_ GE461.out) | exact HB.out)))); have n1_ := Aside0.mk (blk_below (g := gb461) (o := .cells #[.string (⟨#[]⟩ : ByteArray), .int .i64 0] 35 (0, 0)) (by (with_reducible repeat (first | refine blk_drewN ?_ _ | refine blk_drew ?_ | refine blk_alloc ?_ _)); exact BK461.out) hb); have n2_ := Aside0.mk (below_step (by repeat (first | (with_reducible first | exact HB.out | apply below_alloc | apply pw_below_drewN | apply below_drew1 | refine below_set ?_ GE461.out) | exact HB.out)) hb); clear BK461; clear HB; have HO464 := n0_; have BK461 := n1_; have HB := n2_; clear n0_ n1_ n2_; clear hb ho8))
      go_loopg [5, 6, 7, 8] kj1 (fun kq v5 v6 v7 v8 w' => ∃ (x5_2 : List Int) (x6_2 : Int) (x7_2 : Bool) (x8_2 : Int), v6 = .int .i64 x6_2 ∧ v7 = .bool x7_2 ∧ v8 = .int .i64 x8_2 ∧ Aside0 (spec_DecimalOf.l0 kq a0 x4_1 x5_2 x6_2 x7_2 x8_2 = some (r1, r2, r3)) ∧ Aside0 (kq ≤ kj1) ∧ Aside0 (Kd.R (Kd.int .u8) 5 w' w.heap.size (fun _ => True) v5 x5_2) ∧ Aside0 (w'.heap[gb461]? = some (.cells #[.string (⟨#[]⟩ : ByteArray), .int .i64 0] 35 (0, 0))) ∧ Aside0 (Below w.heap.size w w'))
      case atStart => exact ⟨(y462), (0), (false), (0), (by first | rfl | (simp; done) | (simp [*]; done)), (by first | rfl | (simp; done) | (simp [*]; done)), (by first | rfl | (simp; done) | (simp [*]; done)), H', ⟨Nat.le_refl _⟩, ⟨by (with_reducible repeat (first | apply Kd.R_alloc | apply Kd.R_drewN | apply Kd.R_drew)); exact HO464.out⟩, ⟨by (with_reducible repeat (first | refine blk_drewN ?_ _ | refine blk_drew ?_ | refine blk_alloc ?_ _)); exact BK461.out⟩, ⟨by repeat (first | (with_reducible first | exact HB.out | apply below_alloc | apply pw_below_drewN | apply below_drew1 | refine below_set ?_ GE461.out) | exact HB.out)⟩⟩
      case round =>
        clear H'
        try clear c1
        try clear p2
        try clear c4
        try clear c4b0
        try clear c4b1
        try clear c5
        try clear c5b0
        try clear c5b1
        try clear p6
        try clear q6
        try clear hx6
        try clear qi6
        try clear p2
        try clear p6
        try clear q6
        obtain ⟨x5_2, x6_2, x7_2, x8_2, rfl, rfl, rfl, HA, HK2, HO_5, BK461, HB⟩ := hrel
        cases gk with
        | zero => exact absurd HA.out (by simp [spec_DecimalOf.l0])
        | succ k2 =>
          have H := HA.out
          clear HA
          simp only [spec_DecimalOf.l0] at H
          have HC9 := Aside0.mk H
          clear H
          go_upto_region 4 with (fail)
          go_cut [35] (fun v35 wc => ∃ (kq : Nat) (x35_8 : Bool), v35 = .bool x35_8 ∧ Aside0 (spec_DecimalOf.j2 kq a0 x4_1 x5_2 x6_2 x7_2 x8_2 x35_8 = some (r1, r2, r3)) ∧ Aside0 (kq ≤ k2) ∧ Aside0 (Kd.R (Kd.int .u8) 5 wc w.heap.size (fun _ => True) u5 x5_2) ∧ Aside0 (wc.heap[gb461]? = some (.cells #[.string (⟨#[]⟩ : ByteArray), .int .i64 0] 35 (0, 0))) ∧ Aside0 (Below w.heap.size w wc))
          case first =>
            have H := HC9.out
            clear HC9
            by_cases c10 : x8_2 < (a0.size : Int)
            · rw [if_pos c10] at H
              have c10b0 : decide (x8_2 < (a0.size : Int)) = true := decide_eq_true c10
              clear c10
              (first | rw [c10b0] | (simp only [i64_w, i32_w]; rw [c10b0]) | skip)
              by_cases c11 : 0 ≤ x8_2
              · rw [if_pos c11] at H
                have c11b0 : decide (0 ≤ x8_2) = true := decide_eq_true c11
                clear c11
                by_cases c13 : (bt a0 x8_2) = 101
                · rw [if_pos c13] at H
                  have c13b0 : ((bt a0 x8_2) == 101) = true := beq_iff_eq.mpr c13
                  have c13b1 : ((bt a0 x8_2) != 101) = false := bne_eq_false_iff_eq.mpr c13
                  clear c13
                  have H' := Aside0.mk H
                  clear H
                  have p12 : 0 ≤ (x8_2 : Int) := of_decide_eq_true (by first | (with_reducible assumption) | assumption)
                  have q12 : x8_2 < (a0.size : Int) := of_decide_eq_true (by first | (with_reducible assumption) | assumption)
                  have hx12 := bt_at a0 x8_2
                  replace p12 := eq_true p12
                  replace q12 := eq_true q12
                  go_wp2
                  go_meet
                  case rel => exact ⟨_, (false), (by first | rfl | (simp; done) | (simp [*]; done)), H', ⟨by have := HJ1.out; have := HK2.out; first | omega | exact Nat.le_refl _⟩, ⟨by (with_reducible repeat (first | apply Kd.R_alloc | apply Kd.R_drewN | apply Kd.R_drew)); exact HO_5.out⟩, ⟨by (with_reducible repeat (first | refine blk_drewN ?_ _ | refine blk_drew ?_ | refine blk_alloc ?_ _)); exact BK461.out⟩, ⟨by repeat (first | (with_reducible first | exact HB.out | apply below_alloc | apply pw_below_drewN | apply below_drew1 | refine below_set ?_ GE461.out) | exact HB.out)⟩⟩
                · rw [if_neg c13] at H
                  have c13b0 : ((bt a0 x8_2) == 101) = false := beq_eq_false_iff_ne.mpr c13
                  have c13b1 : ((bt a0 x8_2) != 101) = true := bne_iff_ne.mpr c13
                  have H' := Aside0.mk H
                  clear H
                  have p12 : 0 ≤ (x8_2 : Int) := of_decide_eq_true (by first | (with_reducible assumption) | assumption)
                  have q12 : x8_2 < (a0.size : Int) := of_decide_eq_true (by first | (with_reducible assumption) | assumption)
                  have hx12 := bt_at a0 x8_2
                  replace p12 := eq_true p12
                  replace q12 := eq_true q12
                  have p14 : 0 ≤ (x8_2 : Int) := of_decide_eq_true (by first | (with_reducible assumption) | assumption)
                  have q14 : x8_2 < (a0.size : Int) := of_decide_eq_true (by first | (with_reducible assumption) | assumption)
                  have hx14 := bt_at a0 x8_2
                  replace p14 := eq_true p14
                  replace q14 := eq_true q14
                  go_wp2
                  go_meet
                  case rel => exact ⟨_, (((bt a0 x8_2) != 69)), (by first | rfl | (simp; done) | (simp [*]; done)), H', ⟨by have := HJ1.out; have := HK2.out; first | omega | exact Nat.le_refl _⟩, ⟨by (with_reducible repeat (first | apply Kd.R_alloc | apply Kd.R_drewN | apply Kd.R_drew)); exact HO_5.out⟩, ⟨by (with_reducible repeat (first | refine blk_drewN ?_ _ | refine blk_drew ?_ | refine blk_alloc ?_ _)); exact BK461.out⟩, ⟨by repeat (first | (with_reducible first | exact HB.out | apply below_alloc | apply pw_below_drewN | apply below_drew1 | refine below_set ?_ GE461.out) | exact HB.out)⟩⟩
              · rw [if_neg c11] at H
                exact absurd H (by simp)
            · rw [if_neg c10] at H
              have c10b0 : decide (x8_2 < (a0.size : Int)) = false := decide_eq_false c10
              clear c10
              (first | rw [c10b0] | (simp only [i64_w, i32_w]; rw [c10b0]) | skip)
              have H' := Aside0.mk H
              clear H
              go_wp2
              go_meet
              case rel => exact ⟨_, (false), (by first | rfl | (simp; done) | (simp [*]; done)), H', ⟨by have := HJ1.out; have := HK2.out; first | omega | exact Nat.le_refl _⟩, ⟨by (with_reducible repeat (first | apply Kd.R_alloc | apply Kd.R_drewN | apply Kd.R_drew)); exact HO_5.out⟩, ⟨by (with_reducible repeat (first | refine blk_drewN ?_ _ | refine blk_drew ?_ | refine blk_alloc ?_ _)); exact BK461.out⟩, ⟨by repeat (first | (with_reducible first | exact HB.out | apply below_alloc | apply pw_below_drewN | apply below_drew1 | refine below_set ?_ GE461.out) | exact HB.out)⟩⟩
          case rest =>
            clear HC9
            try clear c1
            try clear p1
            try clear q1
            try clear hx1
            try clear p2
            try clear c4
            try clear c4b0
            try clear c4b1
            try clear c5
            try clear c5b0
            try clear c5b1
            try clear p6
            try clear q6
            try clear hx6
            try clear qi6
            try clear c10
            try clear c10b0
            try clear c11
            try clear c11b0
            try clear p12
            try clear q12
            try clear hx12
            try clear c13
            try clear c13b0
            try clear c13b1
            try clear p14
            try clear q14
            try clear hx14
            try clear p12
            try clear p14
            try clear p2
            try clear p6
            try clear q12
            try clear q14
            try clear q6
            obtain ⟨kq, x35_8, rfl, HA, HJ8, HO_5, BK461, HB⟩ := hcut
            cases kq with
            | zero => exact absurd HA.out (by simp [spec_DecimalOf.j2])
            | succ kj8 =>
              have H := HA.out
              clear HA
              simp only [spec_DecimalOf.j2] at H
              by_cases c15 : x35_8 = true
              · subst c15
                have H1 : (if 0 ≤ x8_2 then (if x8_2 < (a0.size : Int) then (if (bt a0 x8_2) = 46 then (spec_DecimalOf.l0 kj8 a0 x4_1 x5_2 x6_2 true (wrap64 (x8_2 + 1))) else (if (bt a0 x8_2) ≥ 48 then (spec_DecimalOf.j3 kj8 a0 x4_1 x5_2 x6_2 x7_2 x8_2 (decide ((bt a0 x8_2) ≤ 57))) else (spec_DecimalOf.j3 kj8 a0 x4_1 x5_2 x6_2 x7_2 x8_2 false))) else (none)) else (none)) = some (r1, r2, r3) := by rw [if_pos rfl] at H; exact H
                clear H
                have H := H1
                clear H1
                by_cases c16 : 0 ≤ x8_2
                · rw [if_pos c16] at H
                  have c16b0 : decide (0 ≤ x8_2) = true := decide_eq_true c16
                  clear c16
                  by_cases c17 : x8_2 < (a0.size : Int)
                  · rw [if_pos c17] at H
                    have c17b0 : decide (x8_2 < (a0.size : Int)) = true := decide_eq_true c17
                    clear c17
                    by_cases c19 : (bt a0 x8_2) = 46
                    · rw [if_pos c19] at H
                      have c19b0 : ((bt a0 x8_2) == 46) = true := beq_iff_eq.mpr c19
                      have c19b1 : ((bt a0 x8_2) != 46) = false := bne_eq_false_iff_eq.mpr c19
                      clear c19
                      have H' := Aside0.mk H
                      clear H
                      have p18 : 0 ≤ (x8_2 : Int) := of_decide_eq_true (by first | (with_reducible assumption) | assumption)
                      have q18 : x8_2 < (a0.size : Int) := of_decide_eq_true (by first | (with_reducible assumption) | assumption)
                      have hx18 := bt_at a0 x8_2
                      replace p18 := eq_true p18
                      replace q18 := eq_true q18
                      go_wp2
                      go_roundg kj8
                      case measure => have := HJ1.out; have := HK2.out; have := HJ8.out; omega
                      case rel => exact ⟨(x5_2), (x6_2), (true), (wrap64 (x8_2 + 1)), (by first | rfl | (simp; done) | (simp [*]; done)), (by first | rfl | (simp; done) | (simp [*]; done)), (by first | rfl | (simp; done) | (simp [*]; done)), H', ⟨by have := HJ1.out; have := HK2.out; have := HJ8.out; omega⟩, ⟨by (with_reducible repeat (first | apply Kd.R_alloc | apply Kd.R_drewN | apply Kd.R_drew)); exact HO_5.out⟩, ⟨by (with_reducible repeat (first | refine blk_drewN ?_ _ | refine blk_drew ?_ | refine blk_alloc ?_ _)); exact BK461.out⟩, ⟨by repeat (first | (with_reducible first | exact HB.out | apply below_alloc | apply pw_below_drewN | apply below_drew1 | refine below_set ?_ GE461.out) | exact HB.out)⟩⟩
                    · rw [if_neg c19] at H
                      have c19b0 : ((bt a0 x8_2) == 46) = false := beq_eq_false_iff_ne.mpr c19
                      have c19b1 : ((bt a0 x8_2) != 46) = true := bne_iff_ne.mpr c19
                      have HC20 := Aside0.mk H
                      clear H
                      have p18 : 0 ≤ (x8_2 : Int) := of_decide_eq_true (by first | (with_reducible assumption) | assumption)
                      have q18 : x8_2 < (a0.size : Int) := of_decide_eq_true (by first | (with_reducible assumption) | assumption)
                      have hx18 := bt_at a0 x8_2
                      replace p18 := eq_true p18
                      replace q18 := eq_true q18
                      go_upto_region 8 with (fail)
                      go_cut [43] (fun v43 wc => ∃ (kq : Nat) (x43_19 : Bool), v43 = .bool x43_19 ∧ Aside0 (spec_DecimalOf.j3 kq a0 x4_1 x5_2 x6_2 x7_2 x8_2 x43_19 = some (r1, r2, r3)) ∧ Aside0 (kq ≤ kj8) ∧ Aside0 (Kd.R (Kd.int .u8) 5 wc w.heap.size (fun _ => True) u5 x5_2) ∧ Aside0 (wc.heap[gb461]? = some (.cells #[.string (⟨#[]⟩ : ByteArray), .int .i64 0] 35 (0, 0))) ∧ Aside0 (Below w.heap.size w wc))
                      case first =>
                        have H := HC20.out
                        clear HC20
                        by_cases c22 : (bt a0 x8_2) ≥ 48
                        · rw [if_pos c22] at H
                          have c22b0 : decide (48 ≤ (bt a0 x8_2)) = true := decide_eq_true c22
                          clear c22
                          (first | rw [c22b0] | (simp only [i64_w, i32_w]; rw [c22b0]) | skip)
                          have H' := Aside0.mk H
                          clear H
                          have p21 : 0 ≤ (x8_2 : Int) := of_decide_eq_true (by first | (with_reducible assumption) | assumption)
                          have q21 : x8_2 < (a0.size : Int) := of_decide_eq_true (by first | (with_reducible assumption) | assumption)
                          have hx21 := bt_at a0 x8_2
                          replace p21 := eq_true p21
                          replace q21 := eq_true q21
                          have p23 : 0 ≤ (x8_2 : Int) := of_decide_eq_true (by first | (with_reducible assumption) | assumption)
                          have q23 : x8_2 < (a0.size : Int) := of_decide_eq_true (by first | (with_reducible assumption) | assumption)
                          have hx23 := bt_at a0 x8_2
                          replace p23 := eq_true p23
                          replace q23 := eq_true q23
                          go_wp2
                          go_meet
                          case rel => exact ⟨_, (decide ((bt a0 x8_2) ≤ 57)), (by first | rfl | (simp; done) | (simp [*]; done)), H', ⟨by have := HJ1.out; have := HK2.out; have := HJ8.out; first | omega | exact Nat.le_refl _⟩, ⟨by (with_reducible repeat (first | apply Kd.R_alloc | apply Kd.R_drewN | apply Kd.R_drew)); exact HO_5.out⟩, ⟨by (with_reducible repeat (first | refine blk_drewN ?_ _ | refine blk_drew ?_ | refine blk_alloc ?_ _)); exact BK461.out⟩, ⟨by repeat (first | (with_reducible first | exact HB.out | apply below_alloc | apply pw_below_drewN | apply below_drew1 | refine below_set ?_ GE461.out) | exact HB.out)⟩⟩
                        · rw [if_neg c22] at H
                          have c22b0 : decide (48 ≤ (bt a0 x8_2)) = false := decide_eq_false c22
                          clear c22
                          (first | rw [c22b0] | (simp only [i64_w, i32_w]; rw [c22b0]) | skip)
                          have H' := Aside0.mk H
                          clear H
                          have p21 : 0 ≤ (x8_2 : Int) := of_decide_eq_true (by first | (with_reducible assumption) | assumption)
                          have q21 : x8_2 < (a0.size : Int) := of_decide_eq_true (by first | (with_reducible assumption) | assumption)
                          have hx21 := bt_at a0 x8_2
                          replace p21 := eq_true p21
                          replace q21 := eq_true q21
                          go_wp2
                          go_meet
                          case rel => exact ⟨_, (false), (by first | rfl | (simp; done) | (simp [*]; done)), H', ⟨by have := HJ1.out; have := HK2.out; have := HJ8.out; first | omega | exact Nat.le_refl _⟩, ⟨by (with_reducible repeat (first | apply Kd.R_alloc | apply Kd.R_drewN | apply Kd.R_drew)); exact HO_5.out⟩, ⟨by (with_reducible repeat (first | refine blk_drewN ?_ _ | refine blk_drew ?_ | refine blk_alloc ?_ _)); exact BK461.out⟩, ⟨by repeat (first | (with_reducible first | exact HB.out | apply below_alloc | apply pw_below_drewN | apply below_drew1 | refine below_set ?_ GE461.out) | exact HB.out)⟩⟩
                      case rest =>
                        clear HC20
                        try clear c1
                        try clear p1
                        try clear q1
                        try clear hx1
                        try clear c2
                        try clear p2
                        try clear q2
                        try clear hx2
                        try clear c4
                        try clear c4b0
                        try clear c4b1
                        try clear c5
                        try clear c5b0
                        try clear c5b1
                        try clear p6
                        try clear q6
                        try clear hx6
                        try clear qi6
                        try clear c10
                        try clear c10b0
                        try clear c11
                        try clear c11b0
                        try clear p12
                        try clear q12
                        try clear hx12
                        try clear c13
                        try clear c13b0
                        try clear c13b1
                        try clear p14
                        try clear q14
                        try clear hx14
                        try clear c15
                        try clear c16
                        try clear c16b0
                        try clear c17
                        try clear c17b0
                        try clear p18
                        try clear q18
                        try clear hx18
                        try clear c19
                        try clear c19b0
                        try clear c19b1
                        try clear p21
                        try clear q21
                        try clear hx21
                        try clear c22
                        try clear c22b0
                        try clear p23
                        try clear q23
                        try clear hx23
                        try clear p1
                        try clear p12
                        try clear p14
                        try clear p18
                        try clear p2
                        try clear p21
                        try clear p23
                        try clear p6
                        try clear q1
                        try clear q12
                        try clear q14
                        try clear q18
                        try clear q21
                        try clear q23
                        try clear q6
                        obtain ⟨kq, x43_19, rfl, HA, HJ19, HO_5, BK461, HB⟩ := hcut
                        cases kq with
                        | zero => exact absurd HA.out (by simp [spec_DecimalOf.j3])
                        | succ kj19 =>
                          have H := HA.out
                          clear HA
                          simp only [spec_DecimalOf.j3] at H
                          by_cases c24 : x43_19 = true
                          · subst c24
                            have H1 : (if (x5_2.length : Int) > 0 then (spec_DecimalOf.j4 kj19 a0 x4_1 x5_2 x6_2 x7_2 x8_2 true) else (if 0 ≤ x8_2 then (if x8_2 < (a0.size : Int) then (spec_DecimalOf.j4 kj19 a0 x4_1 x5_2 x6_2 x7_2 x8_2 ((bt a0 x8_2) != 48)) else (none)) else (none))) = some (r1, r2, r3) := by rw [if_pos rfl] at H; exact H
                            clear H
                            have H := H1
                            clear H1
                            have HC25 := Aside0.mk H
                            clear H
                            go_upto_region 9 with (fail)
                            go_cut [62] (fun v62 wc => ∃ (kq : Nat) (x62_24 : Bool), v62 = .bool x62_24 ∧ Aside0 (spec_DecimalOf.j4 kq a0 x4_1 x5_2 x6_2 x7_2 x8_2 x62_24 = some (r1, r2, r3)) ∧ Aside0 (kq ≤ kj19) ∧ Aside0 (Kd.R (Kd.int .u8) 5 wc w.heap.size (fun _ => True) u5 x5_2) ∧ Aside0 (wc.heap[gb461]? = some (.cells #[.string (⟨#[]⟩ : ByteArray), .int .i64 0] 35 (0, 0))) ∧ Aside0 (Below w.heap.size w wc))
                            case first =>
                              have H := HC25.out
                              clear HC25
                              by_cases c26 : (x5_2.length : Int) > 0
                              · rw [if_pos c26] at H
                                have c26b0 : decide (0 < (x5_2.length : Int)) = true := decide_eq_true c26
                                have c26b1 : decide (0 < x5_2.length) = true := decide_eq_true (by omega)
                                clear c26
                                (first | rw [c26b0] | (simp only [i64_w, i32_w]; rw [c26b0]) | skip)
                                have H' := Aside0.mk H
                                clear H
                                obtain ⟨Ao27, co27, eo27⟩ := Kd.R_slice HO_5.out
                                subst eo27
                                go_wp2
                                go_meet
                                case rel => exact ⟨_, (true), (by first | rfl | (simp; done) | (simp [*]; done)), H', ⟨by have := HJ1.out; have := HK2.out; have := HJ8.out; have := HJ19.out; first | omega | exact Nat.le_refl _⟩, ⟨by (with_reducible repeat (first | apply Kd.R_alloc | apply Kd.R_drewN | apply Kd.R_drew)); exact HO_5.out⟩, ⟨by (with_reducible repeat (first | refine blk_drewN ?_ _ | refine blk_drew ?_ | refine blk_alloc ?_ _)); exact BK461.out⟩, ⟨by repeat (first | (with_reducible first | exact HB.out | apply below_alloc | apply pw_below_drewN | apply below_drew1 | refine below_set ?_ GE461.out) | exact HB.out)⟩⟩
                              · rw [if_neg c26] at H
                                have c26b0 : decide (0 < (x5_2.length : Int)) = false := decide_eq_false c26
                                have c26b1 : decide (0 < x5_2.length) = false := decide_eq_false (by omega)
                                clear c26
                                (first | rw [c26b0] | (simp only [i64_w, i32_w]; rw [c26b0]) | skip)
                                by_cases c28 : 0 ≤ x8_2
                                · rw [if_pos c28] at H
                                  have c28b0 : decide (0 ≤ x8_2) = true := decide_eq_true c28
                                  clear c28
                                  by_cases c29 : x8_2 < (a0.size : Int)
                                  · rw [if_pos c29] at H
                                    have c29b0 : decide (x8_2 < (a0.size : Int)) = true := decide_eq_true c29
                                    clear c29
                                    have H' := Aside0.mk H
                                    clear H
                                    obtain ⟨Ao31, co31, eo31⟩ := Kd.R_slice HO_5.out
                                    subst eo31
                                    have p30 : 0 ≤ (x8_2 : Int) := of_decide_eq_true (by first | (with_reducible assumption) | assumption)
                                    have q30 : x8_2 < (a0.size : Int) := of_decide_eq_true (by first | (with_reducible assumption) | assumption)
                                    have hx30 := bt_at a0 x8_2
                                    replace p30 := eq_true p30
                                    replace q30 := eq_true q30
                                    go_wp2
                                    go_meet
                                    case rel => exact ⟨_, (((bt a0 x8_2) != 48)), (by first | rfl | (simp; done) | (simp [*]; done)), H', ⟨by have := HJ1.out; have := HK2.out; have := HJ8.out; have := HJ19.out; first | omega | exact Nat.le_refl _⟩, ⟨by (with_reducible repeat (first | apply Kd.R_alloc | apply Kd.R_drewN | apply Kd.R_drew)); exact HO_5.out⟩, ⟨by (with_reducible repeat (first | refine blk_drewN ?_ _ | refine blk_drew ?_ | refine blk_alloc ?_ _)); exact BK461.out⟩, ⟨by repeat (first | (with_reducible first | exact HB.out | apply below_alloc | apply pw_below_drewN | apply below_drew1 | refine below_set ?_ GE461.out) | exact HB.out)⟩⟩
                                  · rw [if_neg c29] at H
                                    exact absurd H (by simp)
                                · rw [if_neg c28] at H
                                  exact absurd H (by simp)
                            case rest =>
                              clear HC25
                              try clear c1
                              try clear p1
                              try clear q1
                              try clear hx1
                              try clear c2
                              try clear p2
                              try clear q2
                              try clear hx2
                              try clear p3
                              try clear q3
                              try clear hx3
                              try clear c4
                              try clear c4b0
                              try clear c4b1
                              try clear c5
                              try clear c5b0
                              try clear c5b1
                              try clear p6
                              try clear q6
                              try clear hx6
                              try clear qi6
                              try clear c10
                              try clear c10b0
                              try clear c11
                              try clear c11b0
                              try clear p12
                              try clear q12
                              try clear hx12
                              try clear c13
                              try clear c13b0
                              try clear c13b1
                              try clear p14
                              try clear q14
                              try clear hx14
                              try clear c15
                              try clear c16
                              try clear c16b0
                              try clear c17
                              try clear c17b0
                              try clear p18
                              try clear q18
                              try clear hx18
                              try clear c19
                              try clear c19b0
                              try clear c19b1
                              try clear p21
                              try clear q21
                              try clear hx21
                              try clear c22
                              try clear c22b0
                              try clear p23
                              try clear q23
                              try clear hx23
                              try clear c24
                              try clear c26
                              try clear c26b0
                              try clear c26b1
                              try clear c28
                              try clear c28b0
                              try clear c29
                              try clear c29b0
                              try clear p30
                              try clear q30
                              try clear hx30
                              try clear p1
                              try clear p12
                              try clear p14
                              try clear p18
                              try clear p2
                              try clear p21
                              try clear p23
                              try clear p30
                              try clear p6
                              try clear q1
                              try clear q12
                              try clear q14
                              try clear q18
                              try clear q2
                              try clear q21
                              try clear q23
                              try clear q30
                              try clear q6
                              obtain ⟨kq, x62_24, rfl, HA, HJ24, HO_5, BK461, HB⟩ := hcut
                              cases kq with
                              | zero => exact absurd HA.out (by simp [spec_DecimalOf.j4])
                              | succ kj24 =>
                                have H := HA.out
                                clear HA
                                simp only [spec_DecimalOf.j4] at H
                                by_cases c32 : x62_24 = true
                                · subst c32
                                  have H1 : (if 0 ≤ x8_2 then (if x8_2 < (a0.size : Int) then (if x5_2.length < 140737488355328 then ((some (x5_2 ++ [bt a0 x8_2] : List Int)).bind fun y465 => (if x7_2 = true then (spec_DecimalOf.l0 kj24 a0 x4_1 y465 (wrap64 (x6_2 - 1)) x7_2 (wrap64 (x8_2 + 1))) else (spec_DecimalOf.l0 kj24 a0 x4_1 y465 x6_2 x7_2 (wrap64 (x8_2 + 1))))) else (none)) else (none)) else (none)) = some (r1, r2, r3) := by rw [if_pos rfl] at H; exact H
                                  clear H
                                  have H := H1
                                  clear H1
                                  by_cases c33 : 0 ≤ x8_2
                                  · rw [if_pos c33] at H
                                    have c33b0 : decide (0 ≤ x8_2) = true := decide_eq_true c33
                                    clear c33
                                    by_cases c34 : x8_2 < (a0.size : Int)
                                    · rw [if_pos c34] at H
                                      have c34b0 : decide (x8_2 < (a0.size : Int)) = true := decide_eq_true c34
                                      clear c34
                                      by_cases c36 : x5_2.length < 140737488355328
                                      · rw [if_pos c36] at H
                                        have LMc36 := Aside0.mk c36
                                        clear c36
                                        obtain ⟨y465, hy465⟩ : ∃ y_ : List Int, y_ = (x5_2 ++ [bt a0 x8_2]) := ⟨_, rfl⟩
                                        replace H : (if x7_2 = true then (spec_DecimalOf.l0 kj24 a0 x4_1 y465 (wrap64 (x6_2 - 1)) x7_2 (wrap64 (x8_2 + 1))) else (spec_DecimalOf.l0 kj24 a0 x4_1 y465 x6_2 x7_2 (wrap64 (x8_2 + 1)))) = some (r1, r2, r3) := by first | (rw [hy465]; with_reducible exact H) | (have H2_ := (Option.bind_some _ _).symm.trans H; rw [hy465]; with_reducible exact H2_) | (have H2_ := (Option.bind_some _ _).symm.trans H; with_reducible exact H2_) | with_reducible exact H | (rw [hy465]; exact H) | exact H
                                        have Ny465 := Aside0.mk hy465
                                        clear hy465
                                        by_cases c37 : x7_2 = true
                                        · subst c37
                                          have H1 : (spec_DecimalOf.l0 kj24 a0 x4_1 y465 (wrap64 (x6_2 - 1)) true (wrap64 (x8_2 + 1))) = some (r1, r2, r3) := by rw [if_pos rfl] at H; exact H
                                          clear H
                                          have H := H1
                                          clear H1
                                          have H' := Aside0.mk H
                                          clear H
                                          have p35 : 0 ≤ (x8_2 : Int) := of_decide_eq_true (by first | (with_reducible assumption) | assumption)
                                          have q35 : x8_2 < (a0.size : Int) := of_decide_eq_true (by first | (with_reducible assumption) | assumption)
                                          have hx35 := bt_at a0 x8_2
                                          replace p35 := eq_true p35
                                          replace q35 := eq_true q35
                                          go_wp2_with (first | ((with_reducible refine gate_builtin (b := .append) (xs := #[.tmp 63, .tmp 67]) rfl ?_); at_builtin; refine Kd.R_append (Kd.int .u8) (w0 := w) w.heap.size rfl (.tmp 63) (.tmp 67) 39 5 (.int .u8 0) 1 rfl Tryd.underlying39 info5 rfl (by decide) (by omega) u5 x5_2 (bt a0 x8_2) [.int .u8 (bt a0 x8_2)] (fun _ => True) (fun _ => False) rfl rfl ?aP (fun _ hk => hk.elim) ?aF ?aO ?aB ?aS ?aL ?_; (case aP => exact rfl); (case aB => exact (by repeat (first | (with_reducible first | exact HB.out | apply below_alloc | apply pw_below_drewN | apply below_drew1 | refine below_set ?_ GE461.out) | exact HB.out))); (case aF => exact (fun _ _ => trivial)); (case aO => exact (by (with_reducible repeat (first | apply Kd.R_alloc | apply Kd.R_drewN | apply Kd.R_drew)); exact HO_5.out)); (case aS => exact (below_size (by repeat (first | (with_reducible first | exact HB.out | apply below_alloc | apply pw_below_drewN | apply below_drew1 | refine below_set ?_ GE461.out) | exact HB.out)))); (case aL => have := LMc36.out; omega); intro v466 w38 ho hb hg hat; rw [← Ny465.out] at ho; have n0_ := Aside0.mk (blk_grown (g := gb461) (o := .cells #[.string (⟨#[]⟩ : ByteArray), .int .i64 0] 35 (0, 0)) (by (with_reducible repeat (first | refine blk_drewN ?_ _ | refine blk_drew ?_ | refine blk_alloc ?_ _)); exact BK461.out) hg (Kd.R_ne HO_5.out BK461.out (by decide))); have n1_ := Aside0.mk (hb); have n2_ := Aside0.mk (ho); clear BK461; clear HB; clear HO_5; have BK461 := n0_; have HB := n1_; have HO467 := n2_; clear n0_ n1_ n2_; clear ho hb hg hat))
                                          go_roundg kj24
                                          case measure => have := HJ1.out; have := HK2.out; have := HJ8.out; have := HJ19.out; have := HJ24.out; omega
                                          case rel => exact ⟨(y465), (wrap64 (x6_2 - 1)), (true), (wrap64 (x8_2 + 1)), (by first | rfl | (simp; done) | (simp [*]; done)), (by first | rfl | (simp; done) | (simp [*]; done)), (by first | rfl | (simp; done) | (simp [*]; done)), H', ⟨by have := HJ1.out; have := HK2.out; have := HJ8.out; have := HJ19.out; have := HJ24.out; omega⟩, ⟨by (with_reducible repeat (first | apply Kd.R_alloc | apply Kd.R_drewN | apply Kd.R_drew)); exact HO467.out⟩, ⟨by (with_reducible repeat (first | refine blk_drewN ?_ _ | refine blk_drew ?_ | refine blk_alloc ?_ _)); exact BK461.out⟩, ⟨by repeat (first | (with_reducible first | exact HB.out | apply below_alloc | apply pw_below_drewN | apply below_drew1 | refine below_set ?_ GE461.out) | exact HB.out)⟩⟩
                                        · replace c37 := Bool.eq_false_iff.mpr c37
                                          subst c37
                                          have H1 : (spec_DecimalOf.l0 kj24 a0 x4_1 y465 x6_2 false (wrap64 (x8_2 + 1))) = some (r1, r2, r3) := by rw [if_neg (show ¬ (false = true) by decide)] at H; exact H
                                          clear H
                                          have H := H1
                                          clear H1
                                          have H' := Aside0.mk H
                                          clear H
                                          have p35 : 0 ≤ (x8_2 : Int) := of_decide_eq_true (by first | (with_reducible assumption) | assumption)
                                          have q35 : x8_2 < (a0.size : Int) := of_decide_eq_true (by first | (with_reducible assumption) | assumption)
                                          have hx35 := bt_at a0 x8_2
                                          replace p35 := eq_true p35
                                          replace q35 := eq_true q35
                                          go_wp2_with (first | ((with_reducible refine gate_builtin (b := .append) (xs := #[.tmp 63, .tmp 67]) rfl ?_); at_builtin; refine Kd.R_append (Kd.int .u8) (w0 := w) w.heap.size rfl (.tmp 63) (.tmp 67) 39 5 (.int .u8 0) 1 rfl Tryd.underlying39 info5 rfl (by decide) (by omega) u5 x5_2 (bt a0 x8_2) [.int .u8 (bt a0 x8_2)] (fun _ => True) (fun _ => False) rfl rfl ?aP (fun _ hk => hk.elim) ?aF ?aO ?aB ?aS ?aL ?_; (case aP => exact rfl); (case aB => exact (by repeat (first | (with_reducible first | exact HB.out | apply below_alloc | apply pw_below_drewN | apply below_drew1 | refine below_set ?_ GE461.out) | exact HB.out))); (case aF => exact (fun _ _ => trivial)); (case aO => exact (by (with_reducible repeat (first | apply Kd.R_alloc | apply Kd.R_drewN | apply Kd.R_drew)); exact HO_5.out)); (case aS => exact (below_size (by repeat (first | (with_reducible first | exact HB.out | apply below_alloc | apply pw_below_drewN | apply below_drew1 | refine below_set ?_ GE461.out) | exact HB.out)))); (case aL => have := LMc36.out; omega); intro v466 w39 ho hb hg hat; rw [← Ny465.out] at ho; have n0_ := Aside0.mk (blk_grown (g := gb461) (o := .cells #[.string (⟨#[]⟩ : ByteArray), .int .i64 0] 35 (0, 0)) (by (with_reducible repeat (first | refine blk_drewN ?_ _ | refine blk_drew ?_ | refine blk_alloc ?_ _)); exact BK461.out) hg (Kd.R_ne HO_5.out BK461.out (by decide))); have n1_ := Aside0.mk (hb); have n2_ := Aside0.mk (ho); clear BK461; clear HB; clear HO_5; have BK461 := n0_; have HB := n1_; have HO467 := n2_; clear n0_ n1_ n2_; clear ho hb hg hat))
                                          go_roundg kj24
                                          case measure => have := HJ1.out; have := HK2.out; have := HJ8.out; have := HJ19.out; have := HJ24.out; omega
                                          case rel => exact ⟨(y465), (x6_2), (false), (wrap64 (x8_2 + 1)), (by first | rfl | (simp; done) | (simp [*]; done)), (by first | rfl | (simp; done) | (simp [*]; done)), (by first | rfl | (simp; done) | (simp [*]; done)), H', ⟨by have := HJ1.out; have := HK2.out; have := HJ8.out; have := HJ19.out; have := HJ24.out; omega⟩, ⟨by (with_reducible repeat (first | apply Kd.R_alloc | apply Kd.R_drewN | apply Kd.R_drew)); exact HO467.out⟩, ⟨by (with_reducible repeat (first | refine blk_drewN ?_ _ | refine blk_drew ?_ | refine blk_alloc ?_ _)); exact BK461.out⟩, ⟨by repeat (first | (with_reducible first | exact HB.out | apply below_alloc | apply pw_below_drewN | apply below_drew1 | refine below_set ?_ GE461.out) | exact HB.out)⟩⟩
                                      · rw [if_neg c36] at H
                                        exact absurd H (by simp)
                                    · rw [if_neg c34] at H
                                      exact absurd H (by simp)
                                  · rw [if_neg c33] at H
                                    exact absurd H (by simp)
                                · replace c32 := Bool.eq_false_iff.mpr c32
                                  subst c32
                                  have H1 : (if x7_2 = true then (spec_DecimalOf.l0 kj24 a0 x4_1 x5_2 (wrap64 (x6_2 - 1)) x7_2 (wrap64 (x8_2 + 1))) else (spec_DecimalOf.l0 kj24 a0 x4_1 x5_2 x6_2 x7_2 (wrap64 (x8_2 + 1)))) = some (r1, r2, r3) := by rw [if_neg (show ¬ (false = true) by decide)] at H; exact H
                                  clear H
                                  have H := H1
                                  clear H1
                                  by_cases c40 : x7_2 = true
                                  · subst c40
                                    have H1 : (spec_DecimalOf.l0 kj24 a0 x4_1 x5_2 (wrap64 (x6_2 - 1)) true (wrap64 (x8_2 + 1))) = some (r1, r2, r3) := by rw [if_pos rfl] at H; exact H
                                    clear H
                                    have H := H1
                                    clear H1
                                    have H' := Aside0.mk H
                                    clear H
                                    go_wp2
                                    go_roundg kj24
                                    case measure => have := HJ1.out; have := HK2.out; have := HJ8.out; have := HJ19.out; have := HJ24.out; omega
                                    case rel => exact ⟨(x5_2), (wrap64 (x6_2 - 1)), (true), (wrap64 (x8_2 + 1)), (by first | rfl | (simp; done) | (simp [*]; done)), (by first | rfl | (simp; done) | (simp [*]; done)), (by first | rfl | (simp; done) | (simp [*]; done)), H', ⟨by have := HJ1.out; have := HK2.out; have := HJ8.out; have := HJ19.out; have := HJ24.out; omega⟩, ⟨by (with_reducible repeat (first | apply Kd.R_alloc | apply Kd.R_drewN | apply Kd.R_drew)); exact HO_5.out⟩, ⟨by (with_reducible repeat (first | refine blk_drewN ?_ _ | refine blk_drew ?_ | refine blk_alloc ?_ _)); exact BK461.out⟩, ⟨by repeat (first | (with_reducible first | exact HB.out | apply below_alloc | apply pw_below_drewN | apply below_drew1 | refine below_set ?_ GE461.out) | exact HB.out)⟩⟩
                                  · replace c40 := Bool.eq_false_iff.mpr c40
                                    subst c40
                                    have H1 : (spec_DecimalOf.l0 kj24 a0 x4_1 x5_2 x6_2 false (wrap64 (x8_2 + 1))) = some (r1, r2, r3) := by rw [if_neg (show ¬ (false = true) by decide)] at H; exact H
                                    clear H
                                    have H := H1
                                    clear H1
                                    have H' := Aside0.mk H
                                    clear H
                                    go_wp2
                                    go_roundg kj24
                                    case measure => have := HJ1.out; have := HK2.out; have := HJ8.out; have := HJ19.out; have := HJ24.out; omega
                                    case rel => exact ⟨(x5_2), (x6_2), (false), (wrap64 (x8_2 + 1)), (by first | rfl | (simp; done) | (simp [*]; done)), (by first | rfl | (simp; done) | (simp [*]; done)), (by first | rfl | (simp; done) | (simp [*]; done)), H', ⟨by have := HJ1.out; have := HK2.out; have := HJ8.out; have := HJ19.out; have := HJ24.out; omega⟩, ⟨by (with_reducible repeat (first | apply Kd.R_alloc | apply Kd.R_drewN | apply Kd.R_drew)); exact HO_5.out⟩, ⟨by (with_reducible repeat (first | refine blk_drewN ?_ _ | refine blk_drew ?_ | refine blk_alloc ?_ _)); exact BK461.out⟩, ⟨by repeat (first | (with_reducible first | exact HB.out | apply below_alloc | apply pw_below_drewN | apply below_drew1 | refine below_set ?_ GE461.out) | exact HB.out)⟩⟩
                          · replace c24 := Bool.eq_false_iff.mpr c24
                            subst c24
                            have H1 : (spec_DecimalOf.l0 kj19 a0 x4_1 x5_2 x6_2 x7_2 (wrap64 (x8_2 + 1))) = some (r1, r2, r3) := by rw [if_neg (show ¬ (false = true) by decide)] at H; exact H
                            clear H
                            have H := H1
                            clear H1
                            have H' := Aside0.mk H
                            clear H
                            go_wp2
                            go_roundg kj19
                            case measure => have := HJ1.out; have := HK2.out; have := HJ8.out; have := HJ19.out; omega
                            case rel => exact ⟨(x5_2), (x6_2), (x7_2), (wrap64 (x8_2 + 1)), (by first | rfl | (simp; done) | (simp [*]; done)), (by first | rfl | (simp; done) | (simp [*]; done)), (by first | rfl | (simp; done) | (simp [*]; done)), H', ⟨by have := HJ1.out; have := HK2.out; have := HJ8.out; have := HJ19.out; omega⟩, ⟨by (with_reducible repeat (first | apply Kd.R_alloc | apply Kd.R_drewN | apply Kd.R_drew)); exact HO_5.out⟩, ⟨by (with_reducible repeat (first | refine blk_drewN ?_ _ | refine blk_drew ?_ | refine blk_alloc ?_ _)); exact BK461.out⟩, ⟨by repeat (first | (with_reducible first | exact HB.out | apply below_alloc | apply pw_below_drewN | apply below_drew1 | refine below_set ?_ GE461.out) | exact HB.out)⟩⟩
                  · rw [if_neg c17] at H
                    exact absurd H (by simp)
                · rw [if_neg c16] at H
                  exact absurd H (by simp)
              · replace c15 := Bool.eq_false_iff.mpr c15
                subst c15
                have H1 : (spec_DecimalOf.l1 kj8 a0 x4_1 x5_2 x6_2 x8_2 0 false) = some (r1, r2, r3) := by rw [if_neg (show ¬ (false = true) by decide)] at H; exact H
                clear H
                have H := H1
                clear H1
                have H' := Aside0.mk H
                clear H
                go_wp2
                go_loopg [8, 9, 10] kj8 (fun kq v8 v9 v10 w' => ∃ (x8_4 : Int) (x9_4 : Int) (x10_4 : Bool), v8 = .int .i64 x8_4 ∧ v9 = .int .i64 x9_4 ∧ v10 = .bool x10_4 ∧ Aside0 (spec_DecimalOf.l1 kq a0 x4_1 x5_2 x6_2 x8_4 x9_4 x10_4 = some (r1, r2, r3)) ∧ Aside0 (kq ≤ kj8) ∧ Aside0 (Kd.R (Kd.int .u8) 5 w' w.heap.size (fun _ => True) u5 x5_2) ∧ Aside0 (w'.heap[gb461]? = some (.cells #[.string (⟨#[]⟩ : ByteArray), .int .i64 0] 35 (0, 0))) ∧ Aside0 (Below w.heap.size w w'))
                case atStart => exact ⟨(x8_2), (0), (false), (by first | rfl | (simp; done) | (simp [*]; done)), (by first | rfl | (simp; done) | (simp [*]; done)), (by first | rfl | (simp; done) | (simp [*]; done)), H', ⟨Nat.le_refl _⟩, ⟨by (with_reducible repeat (first | apply Kd.R_alloc | apply Kd.R_drewN | apply Kd.R_drew)); exact HO_5.out⟩, ⟨by (with_reducible repeat (first | refine blk_drewN ?_ _ | refine blk_drew ?_ | refine blk_alloc ?_ _)); exact BK461.out⟩, ⟨by repeat (first | (with_reducible first | exact HB.out | apply below_alloc | apply pw_below_drewN | apply below_drew1 | refine below_set ?_ GE461.out) | exact HB.out)⟩⟩
                case round =>
                  clear H'
                  try clear c1
                  try clear p1
                  try clear q1
                  try clear hx1
                  try clear c2
                  try clear p2
                  try clear q2
                  try clear hx2
                  try clear c3
                  try clear p3
                  try clear q3
                  try clear hx3
                  try clear c4
                  try clear c4b0
                  try clear c4b1
                  try clear c5
                  try clear c5b0
                  try clear c5b1
                  try clear p6
                  try clear q6
                  try clear hx6
                  try clear qi6
                  try clear c10
                  try clear c10b0
                  try clear c11
                  try clear c11b0
                  try clear p12
                  try clear q12
                  try clear hx12
                  try clear c13
                  try clear c13b0
                  try clear c13b1
                  try clear p14
                  try clear q14
                  try clear hx14
                  try clear c15
                  try clear c16
                  try clear c16b0
                  try clear c17
                  try clear c17b0
                  try clear p18
                  try clear q18
                  try clear hx18
                  try clear c19
                  try clear c19b0
                  try clear c19b1
                  try clear p21
                  try clear q21
                  try clear hx21
                  try clear c22
                  try clear c22b0
                  try clear p23
                  try clear q23
                  try clear hx23
                  try clear c24
                  try clear c26
                  try clear c26b0
                  try clear c26b1
                  try clear c28
                  try clear c28b0
                  try clear c29
                  try clear c29b0
                  try clear p30
                  try clear q30
                  try clear hx30
                  try clear c32
                  try clear c33
                  try clear c33b0
                  try clear c34
                  try clear c34b0
                  try clear p35
                  try clear q35
                  try clear hx35
                  try clear c36
                  try clear c37
                  try clear c40
                  try clear p1
                  try clear p12
                  try clear p14
                  try clear p18
                  try clear p2
                  try clear p21
                  try clear p23
                  try clear p3
                  try clear p30
                  try clear p35
                  try clear p6
                  try clear q1
                  try clear q12
                  try clear q14
                  try clear q18
                  try clear q2
                  try clear q21
                  try clear q23
                  try clear q3
                  try clear q30
                  try clear q35
                  try clear q6
                  obtain ⟨x8_4, x9_4, x10_4, rfl, rfl, rfl, HA, HK4, HO_5, BK461, HB⟩ := hrel
                  cases gk with
                  | zero => exact absurd HA.out (by simp [spec_DecimalOf.l1])
                  | succ k4 =>
                    have H := HA.out
                    clear HA
                    simp only [spec_DecimalOf.l1] at H
                    by_cases c41 : x8_4 < (a0.size : Int)
                    · rw [if_pos c41] at H
                      have c41b0 : decide (x8_4 < (a0.size : Int)) = true := decide_eq_true c41
                      clear c41
                      by_cases c42 : 0 ≤ x8_4
                      · rw [if_pos c42] at H
                        have c42b0 : decide (0 ≤ x8_4) = true := decide_eq_true c42
                        clear c42
                        by_cases c44 : (bt a0 x8_4) = 45
                        · rw [if_pos c44] at H
                          have c44b0 : ((bt a0 x8_4) == 45) = true := beq_iff_eq.mpr c44
                          have c44b1 : ((bt a0 x8_4) != 45) = false := bne_eq_false_iff_eq.mpr c44
                          clear c44
                          by_cases c46 : (bt a0 x8_4) ≥ 48
                          · rw [if_pos c46] at H
                            have c46b0 : decide (48 ≤ (bt a0 x8_4)) = true := decide_eq_true c46
                            clear c46
                            by_cases c48 : (bt a0 x8_4) ≤ 57
                            · rw [if_pos c48] at H
                              have c48b0 : decide ((bt a0 x8_4) ≤ 57) = true := decide_eq_true c48
                              clear c48
                              obtain ⟨ji50, hji50⟩ : ∃ j_ : Int, (mn (wrap64 ((wrap64 (10 * x9_4)) + (((bt a0 x8_4) - 48) % 256))) 100000) = j_ := ⟨_, rfl⟩
                              replace H : (spec_DecimalOf.l1 k4 a0 x4_1 x5_2 x6_2 (wrap64 (x8_4 + 1)) ji50 true) = some (r1, r2, r3) := by first | (rw [hji50] at H; exact H) | (simp only [hji50] at H ⊢; exact H)
                              have hji50_ : (if 100000 < (wrap64 ((wrap64 (10 * x9_4)) + (((bt a0 x8_4) - 48) % 256))) then 100000 else (wrap64 ((wrap64 (10 * x9_4)) + (((bt a0 x8_4) - 48) % 256)))) = ji50 := hji50
                              have H' := Aside0.mk H
                              clear H
                              have p43 : 0 ≤ (x8_4 : Int) := of_decide_eq_true (by first | (with_reducible assumption) | assumption)
                              have q43 : x8_4 < (a0.size : Int) := of_decide_eq_true (by first | (with_reducible assumption) | assumption)
                              have hx43 := bt_at a0 x8_4
                              replace p43 := eq_true p43
                              replace q43 := eq_true q43
                              have p45 : 0 ≤ (x8_4 : Int) := of_decide_eq_true (by first | (with_reducible assumption) | assumption)
                              have q45 : x8_4 < (a0.size : Int) := of_decide_eq_true (by first | (with_reducible assumption) | assumption)
                              have hx45 := bt_at a0 x8_4
                              replace p45 := eq_true p45
                              replace q45 := eq_true q45
                              have p47 : 0 ≤ (x8_4 : Int) := of_decide_eq_true (by first | (with_reducible assumption) | assumption)
                              have q47 : x8_4 < (a0.size : Int) := of_decide_eq_true (by first | (with_reducible assumption) | assumption)
                              have hx47 := bt_at a0 x8_4
                              replace p47 := eq_true p47
                              replace q47 := eq_true q47
                              have p49 : 0 ≤ (x8_4 : Int) := of_decide_eq_true (by first | (with_reducible assumption) | assumption)
                              have q49 : x8_4 < (a0.size : Int) := of_decide_eq_true (by first | (with_reducible assumption) | assumption)
                              have hx49 := bt_at a0 x8_4
                              replace p49 := eq_true p49
                              replace q49 := eq_true q49
                              go_wp2
                              go_roundg k4
                              case measure => have := HJ1.out; have := HK2.out; have := HJ8.out; have := HK4.out; omega
                              case rel => exact ⟨(wrap64 (x8_4 + 1)), (ji50), (true), (by first | rfl | (simp; done) | (simp [*]; done)), (by first | rfl | (simp; done) | (simp only [← hji50] <;> (first | rfl | simp)) | (simp [*]; done)), (by first | rfl | (simp; done) | (simp [*]; done)), H', ⟨by have := HJ1.out; have := HK2.out; have := HJ8.out; have := HK4.out; omega⟩, ⟨by (with_reducible repeat (first | apply Kd.R_alloc | apply Kd.R_drewN | apply Kd.R_drew)); exact HO_5.out⟩, ⟨by (with_reducible repeat (first | refine blk_drewN ?_ _ | refine blk_drew ?_ | refine blk_alloc ?_ _)); exact BK461.out⟩, ⟨by repeat (first | (with_reducible first | exact HB.out | apply below_alloc | apply pw_below_drewN | apply below_drew1 | refine below_set ?_ GE461.out) | exact HB.out)⟩⟩
                            · rw [if_neg c48] at H
                              have c48b0 : decide ((bt a0 x8_4) ≤ 57) = false := decide_eq_false c48
                              clear c48
                              have H' := Aside0.mk H
                              clear H
                              have p43 : 0 ≤ (x8_4 : Int) := of_decide_eq_true (by first | (with_reducible assumption) | assumption)
                              have q43 : x8_4 < (a0.size : Int) := of_decide_eq_true (by first | (with_reducible assumption) | assumption)
                              have hx43 := bt_at a0 x8_4
                              replace p43 := eq_true p43
                              replace q43 := eq_true q43
                              have p45 : 0 ≤ (x8_4 : Int) := of_decide_eq_true (by first | (with_reducible assumption) | assumption)
                              have q45 : x8_4 < (a0.size : Int) := of_decide_eq_true (by first | (with_reducible assumption) | assumption)
                              have hx45 := bt_at a0 x8_4
                              replace p45 := eq_true p45
                              replace q45 := eq_true q45
                              have p47 : 0 ≤ (x8_4 : Int) := of_decide_eq_true (by first | (with_reducible assumption) | assumption)
                              have q47 : x8_4 < (a0.size : Int) := of_decide_eq_true (by first | (with_reducible assumption) | assumption)
                              have hx47 := bt_at a0 x8_4
                              replace p47 := eq_true p47
                              replace q47 := eq_true q47
                              go_wp2
                              go_roundg k4
                              case measure => have := HJ1.out; have := HK2.out; have := HJ8.out; have := HK4.out; omega
                              case rel => exact ⟨(wrap64 (x8_4 + 1)), (x9_4), (true), (by first | rfl | (simp; done) | (simp [*]; done)), (by first | rfl | (simp; done) | (simp [*]; done)), (by first | rfl | (simp; done) | (simp [*]; done)), H', ⟨by have := HJ1.out; have := HK2.out; have := HJ8.out; have := HK4.out; omega⟩, ⟨by (with_reducible repeat (first | apply Kd.R_alloc | apply Kd.R_drewN | apply Kd.R_drew)); exact HO_5.out⟩, ⟨by (with_reducible repeat (first | refine blk_drewN ?_ _ | refine blk_drew ?_ | refine blk_alloc ?_ _)); exact BK461.out⟩, ⟨by repeat (first | (with_reducible first | exact HB.out | apply below_alloc | apply pw_below_drewN | apply below_drew1 | refine below_set ?_ GE461.out) | exact HB.out)⟩⟩
                          · rw [if_neg c46] at H
                            have c46b0 : decide (48 ≤ (bt a0 x8_4)) = false := decide_eq_false c46
                            clear c46
                            have H' := Aside0.mk H
                            clear H
                            have p43 : 0 ≤ (x8_4 : Int) := of_decide_eq_true (by first | (with_reducible assumption) | assumption)
                            have q43 : x8_4 < (a0.size : Int) := of_decide_eq_true (by first | (with_reducible assumption) | assumption)
                            have hx43 := bt_at a0 x8_4
                            replace p43 := eq_true p43
                            replace q43 := eq_true q43
                            have p45 : 0 ≤ (x8_4 : Int) := of_decide_eq_true (by first | (with_reducible assumption) | assumption)
                            have q45 : x8_4 < (a0.size : Int) := of_decide_eq_true (by first | (with_reducible assumption) | assumption)
                            have hx45 := bt_at a0 x8_4
                            replace p45 := eq_true p45
                            replace q45 := eq_true q45
                            go_wp2
                            go_roundg k4
                            case measure => have := HJ1.out; have := HK2.out; have := HJ8.out; have := HK4.out; omega
                            case rel => exact ⟨(wrap64 (x8_4 + 1)), (x9_4), (true), (by first | rfl | (simp; done) | (simp [*]; done)), (by first | rfl | (simp; done) | (simp [*]; done)), (by first | rfl | (simp; done) | (simp [*]; done)), H', ⟨by have := HJ1.out; have := HK2.out; have := HJ8.out; have := HK4.out; omega⟩, ⟨by (with_reducible repeat (first | apply Kd.R_alloc | apply Kd.R_drewN | apply Kd.R_drew)); exact HO_5.out⟩, ⟨by (with_reducible repeat (first | refine blk_drewN ?_ _ | refine blk_drew ?_ | refine blk_alloc ?_ _)); exact BK461.out⟩, ⟨by repeat (first | (with_reducible first | exact HB.out | apply below_alloc | apply pw_below_drewN | apply below_drew1 | refine below_set ?_ GE461.out) | exact HB.out)⟩⟩
                        · rw [if_neg c44] at H
                          have c44b0 : ((bt a0 x8_4) == 45) = false := beq_eq_false_iff_ne.mpr c44
                          have c44b1 : ((bt a0 x8_4) != 45) = true := bne_iff_ne.mpr c44
                          by_cases c52 : (bt a0 x8_4) ≥ 48
                          · rw [if_pos c52] at H
                            have c52b0 : decide (48 ≤ (bt a0 x8_4)) = true := decide_eq_true c52
                            clear c52
                            by_cases c54 : (bt a0 x8_4) ≤ 57
                            · rw [if_pos c54] at H
                              have c54b0 : decide ((bt a0 x8_4) ≤ 57) = true := decide_eq_true c54
                              clear c54
                              obtain ⟨ji56, hji56⟩ : ∃ j_ : Int, (mn (wrap64 ((wrap64 (10 * x9_4)) + (((bt a0 x8_4) - 48) % 256))) 100000) = j_ := ⟨_, rfl⟩
                              replace H : (spec_DecimalOf.l1 k4 a0 x4_1 x5_2 x6_2 (wrap64 (x8_4 + 1)) ji56 x10_4) = some (r1, r2, r3) := by first | (rw [hji56] at H; exact H) | (simp only [hji56] at H ⊢; exact H)
                              have hji56_ : (if 100000 < (wrap64 ((wrap64 (10 * x9_4)) + (((bt a0 x8_4) - 48) % 256))) then 100000 else (wrap64 ((wrap64 (10 * x9_4)) + (((bt a0 x8_4) - 48) % 256)))) = ji56 := hji56
                              have H' := Aside0.mk H
                              clear H
                              have p43 : 0 ≤ (x8_4 : Int) := of_decide_eq_true (by first | (with_reducible assumption) | assumption)
                              have q43 : x8_4 < (a0.size : Int) := of_decide_eq_true (by first | (with_reducible assumption) | assumption)
                              have hx43 := bt_at a0 x8_4
                              replace p43 := eq_true p43
                              replace q43 := eq_true q43
                              have p51 : 0 ≤ (x8_4 : Int) := of_decide_eq_true (by first | (with_reducible assumption) | assumption)
                              have q51 : x8_4 < (a0.size : Int) := of_decide_eq_true (by first | (with_reducible assumption) | assumption)
                              have hx51 := bt_at a0 x8_4
                              replace p51 := eq_true p51
                              replace q51 := eq_true q51
                              have p53 : 0 ≤ (x8_4 : Int) := of_decide_eq_true (by first | (with_reducible assumption) | assumption)
                              have q53 : x8_4 < (a0.size : Int) := of_decide_eq_true (by first | (with_reducible assumption) | assumption)
                              have hx53 := bt_at a0 x8_4
                              replace p53 := eq_true p53
                              replace q53 := eq_true q53
                              have p55 : 0 ≤ (x8_4 : Int) := of_decide_eq_true (by first | (with_reducible assumption) | assumption)
                              have q55 : x8_4 < (a0.size : Int) := of_decide_eq_true (by first | (with_reducible assumption) | assumption)
                              have hx55 := bt_at a0 x8_4
                              replace p55 := eq_true p55
                              replace q55 := eq_true q55
                              go_wp2
                              go_roundg k4
                              case measure => have := HJ1.out; have := HK2.out; have := HJ8.out; have := HK4.out; omega
                              case rel => exact ⟨(wrap64 (x8_4 + 1)), (ji56), (x10_4), (by first | rfl | (simp; done) | (simp [*]; done)), (by first | rfl | (simp; done) | (simp only [← hji56] <;> (first | rfl | simp)) | (simp [*]; done)), (by first | rfl | (simp; done) | (simp [*]; done)), H', ⟨by have := HJ1.out; have := HK2.out; have := HJ8.out; have := HK4.out; omega⟩, ⟨by (with_reducible repeat (first | apply Kd.R_alloc | apply Kd.R_drewN | apply Kd.R_drew)); exact HO_5.out⟩, ⟨by (with_reducible repeat (first | refine blk_drewN ?_ _ | refine blk_drew ?_ | refine blk_alloc ?_ _)); exact BK461.out⟩, ⟨by repeat (first | (with_reducible first | exact HB.out | apply below_alloc | apply pw_below_drewN | apply below_drew1 | refine below_set ?_ GE461.out) | exact HB.out)⟩⟩
                            · rw [if_neg c54] at H
                              have c54b0 : decide ((bt a0 x8_4) ≤ 57) = false := decide_eq_false c54
                              clear c54
                              have H' := Aside0.mk H
                              clear H
                              have p43 : 0 ≤ (x8_4 : Int) := of_decide_eq_true (by first | (with_reducible assumption) | assumption)
                              have q43 : x8_4 < (a0.size : Int) := of_decide_eq_true (by first | (with_reducible assumption) | assumption)
                              have hx43 := bt_at a0 x8_4
                              replace p43 := eq_true p43
                              replace q43 := eq_true q43
                              have p51 : 0 ≤ (x8_4 : Int) := of_decide_eq_true (by first | (with_reducible assumption) | assumption)
                              have q51 : x8_4 < (a0.size : Int) := of_decide_eq_true (by first | (with_reducible assumption) | assumption)
                              have hx51 := bt_at a0 x8_4
                              replace p51 := eq_true p51
                              replace q51 := eq_true q51
                              have p53 : 0 ≤ (x8_4 : Int) := of_decide_eq_true (by first | (with_reducible assumption) | assumption)
                              have q53 : x8_4 < (a0.size : Int) := of_decide_eq_true (by first | (with_reducible assumption) | assumption)
                              have hx53 := bt_at a0 x8_4
                              replace p53 := eq_true p53
                              replace q53 := eq_true q53
                              go_wp2
                              go_roundg k4
                              case measure => have := HJ1.out; have := HK2.out; have := HJ8.out; have := HK4.out; omega
                              case rel => exact ⟨(wrap64 (x8_4 + 1)), (x9_4), (x10_4), (by first | rfl | (simp; done) | (simp [*]; done)), (by first | rfl | (simp; done) | (simp [*]; done)), (by first | rfl | (simp; done) | (simp [*]; done)), H', ⟨by have := HJ1.out; have := HK2.out; have := HJ8.out; have := HK4.out; omega⟩, ⟨by (with_reducible repeat (first | apply Kd.R_alloc | apply Kd.R_drewN | apply Kd.R_drew)); exact HO_5.out⟩, ⟨by (with_reducible repeat (first | refine blk_drewN ?_ _ | refine blk_drew ?_ | refine blk_alloc ?_ _)); exact BK461.out⟩, ⟨by repeat (first | (with_reducible first | exact HB.out | apply below_alloc | apply pw_below_drewN | apply below_drew1 | refine below_set ?_ GE461.out) | exact HB.out)⟩⟩
                          · rw [if_neg c52] at H
                            have c52b0 : decide (48 ≤ (bt a0 x8_4)) = false := decide_eq_false c52
                            clear c52
                            have H' := Aside0.mk H
                            clear H
                            have p43 : 0 ≤ (x8_4 : Int) := of_decide_eq_true (by first | (with_reducible assumption) | assumption)
                            have q43 : x8_4 < (a0.size : Int) := of_decide_eq_true (by first | (with_reducible assumption) | assumption)
                            have hx43 := bt_at a0 x8_4
                            replace p43 := eq_true p43
                            replace q43 := eq_true q43
                            have p51 : 0 ≤ (x8_4 : Int) := of_decide_eq_true (by first | (with_reducible assumption) | assumption)
                            have q51 : x8_4 < (a0.size : Int) := of_decide_eq_true (by first | (with_reducible assumption) | assumption)
                            have hx51 := bt_at a0 x8_4
                            replace p51 := eq_true p51
                            replace q51 := eq_true q51
                            go_wp2
                            go_roundg k4
                            case measure => have := HJ1.out; have := HK2.out; have := HJ8.out; have := HK4.out; omega
                            case rel => exact ⟨(wrap64 (x8_4 + 1)), (x9_4), (x10_4), (by first | rfl | (simp; done) | (simp [*]; done)), (by first | rfl | (simp; done) | (simp [*]; done)), (by first | rfl | (simp; done) | (simp [*]; done)), H', ⟨by have := HJ1.out; have := HK2.out; have := HJ8.out; have := HK4.out; omega⟩, ⟨by (with_reducible repeat (first | apply Kd.R_alloc | apply Kd.R_drewN | apply Kd.R_drew)); exact HO_5.out⟩, ⟨by (with_reducible repeat (first | refine blk_drewN ?_ _ | refine blk_drew ?_ | refine blk_alloc ?_ _)); exact BK461.out⟩, ⟨by repeat (first | (with_reducible first | exact HB.out | apply below_alloc | apply pw_below_drewN | apply below_drew1 | refine below_set ?_ GE461.out) | exact HB.out)⟩⟩
                      · rw [if_neg c42] at H
                        exact absurd H (by simp)
                    · rw [if_neg c41] at H
                      have c41b0 : decide (x8_4 < (a0.size : Int)) = false := decide_eq_false c41
                      clear c41
                      by_cases c57 : x10_4 = true
                      · subst c57
                        have H1 : (some (strOfNums x5_2, wrap64 (x6_2 + (wrap64 (-x9_4))), x4_1)) = some (r1, r2, r3) := by rw [if_pos rfl] at H; exact H
                        clear H
                        have H := H1
                        clear H1
                        simp only [Option.some.injEq, Prod.mk.injEq] at H
                        obtain ⟨rfl, rfl, rfl⟩ := H
                        have hcv58 := own_string (P := Tryd.prog) Tryd.underlying39 Tryd.underlying5 Tryd.underlying9 (Kd.own_of_R HO_5.out)
                        have hcz59_0 : wr.cell? ⟨gb461, 0, none⟩ = some (.string (⟨#[]⟩ : ByteArray)) := (blk_cell BK461.out 0).trans rfl
                        have hcz59_1 : wr.cell? ⟨gb461, 1, none⟩ = some (.int .i64 0) := (blk_cell BK461.out 1).trans rfl
                        have hfz59_0 := blk_frozen BK461.out 0
                        have hfz59_1 := blk_frozen BK461.out 1
                        go_wp2
                        refine bodyPost_ret (results_ct rfl _ _ gb461 35 #[.string (strOfNums x5_2), .int .i64 (wrap64 (x6_2 + (wrap64 (-x9_4))))] (0, 0) _ rfl (by (with_reducible repeat (first | refine blk_drewN ?_ _ | refine blk_drew ?_ | refine blk_alloc ?_ _)); refine blk_put (cs := #[.string (strOfNums x5_2), .int .i64 0]) ?_ 1 _ rfl; (with_reducible repeat (first | refine blk_drewN ?_ _ | refine blk_drew ?_ | refine blk_alloc ?_ _)); refine blk_put (cs := #[.string (⟨#[]⟩ : ByteArray), .int .i64 0]) ?_ 0 _ rfl; (with_reducible repeat (first | refine blk_drewN ?_ _ | refine blk_drew ?_ | refine blk_alloc ?_ _)); exact BK461.out) Tryd.underlying35 rfl (by kernel_rfl)) rfl ?_
                        exact ⟨by first | rfl | (simp [errW_none, errW_some] <;> rfl) | (simp [*, errW_none, errW_some] <;> rfl), by repeat (first | (with_reducible first | exact HB.out | apply below_alloc | apply pw_below_drewN | apply below_drew1 | refine below_set ?_ GE461.out) | exact HB.out)⟩
                      · replace c57 := Bool.eq_false_iff.mpr c57
                        subst c57
                        have H1 : (some (strOfNums x5_2, wrap64 (x6_2 + x9_4), x4_1)) = some (r1, r2, r3) := by rw [if_neg (show ¬ (false = true) by decide)] at H; exact H
                        clear H
                        have H := H1
                        clear H1
                        simp only [Option.some.injEq, Prod.mk.injEq] at H
                        obtain ⟨rfl, rfl, rfl⟩ := H
                        have hcv60 := own_string (P := Tryd.prog) Tryd.underlying39 Tryd.underlying5 Tryd.underlying9 (Kd.own_of_R HO_5.out)
                        have hcz61_0 : wr.cell? ⟨gb461, 0, none⟩ = some (.string (⟨#[]⟩ : ByteArray)) := (blk_cell BK461.out 0).trans rfl
                        have hcz61_1 : wr.cell? ⟨gb461, 1, none⟩ = some (.int .i64 0) := (blk_cell BK461.out 1).trans rfl
                        have hfz61_0 := blk_frozen BK461.out 0
                        have hfz61_1 := blk_frozen BK461.out 1
                        go_wp2
                        refine bodyPost_ret (results_ct rfl _ _ gb461 35 #[.string (strOfNums x5_2), .int .i64 (wrap64 (x6_2 + x9_4))] (0, 0) _ rfl (by (with_reducible repeat (first | refine blk_drewN ?_ _ | refine blk_drew ?_ | refine blk_alloc ?_ _)); refine blk_put (cs := #[.string (strOfNums x5_2), .int .i64 0]) ?_ 1 _ rfl; (with_reducible repeat (first | refine blk_drewN ?_ _ | refine blk_drew ?_ | refine blk_alloc ?_ _)); refine blk_put (cs := #[.string (⟨#[]⟩ : ByteArray), .int .i64 0]) ?_ 0 _ rfl; (with_reducible repeat (first | refine blk_drewN ?_ _ | refine blk_drew ?_ | refine blk_alloc ?_ _)); exact BK461.out) Tryd.underlying35 rfl (by kernel_rfl)) rfl ?_
                        exact ⟨by first | rfl | (simp [errW_none, errW_some] <;> rfl) | (simp [*, errW_none, errW_some] <;> rfl), by repeat (first | (with_reducible first | exact HB.out | apply below_alloc | apply pw_below_drewN | apply below_drew1 | refine below_set ?_ GE461.out) | exact HB.out)⟩

end Go.Proofs.YtiopeaponffmdaaDoor.PAll
-- YtiopeaponffmdaaDoorGc
set_option linter.unusedVariables false
set_option linter.unusedSimpArgs false
namespace Go.Proofs.YtiopeaponffmdaaDoor.PAll
open Go.RowKit Go.Proofs.YtiopeaponffmdaaDoorW.PrintWords Go.Proofs.YtiopeaponffmdaaDoorW.PrintLast Go.Proofs.YtiopeaponffmdaaDoorW.PrintMore
open Fm

/-- a byte ahead of the exponent -/
def stA (st : List Int × Int × Bool) (b : Int) : List Int × Int × Bool :=
  if b = 46 then (st.1, st.2.1, true)
  else if 48 ≤ b ∧ b ≤ 57 then ((if st.1 ≠ [] ∨ b ≠ 48 then st.1 ++ [b] else st.1), (if st.2.2 = true then st.2.1 - 1 else st.2.1), st.2.2)
  else st
/-- a byte of the exponent -/
def stB (st : Int × Bool) (b : Int) : Int × Bool :=
  if b = 45 then (st.1, true) else if 48 ≤ b ∧ b ≤ 57 then (mn (10 * st.1 + (b - 48)) 100000, st.2) else st

theorem stA_pt (ds : List Int) (p : Int) (bh : Bool) : stA (ds, p, bh) 46 = (ds, p, true) := by unfold stA; rw [if_pos rfl]
theorem stA_dig (ds : List Int) (p : Int) (bh : Bool) (b : Int) (h1 : 48 ≤ b) (h2 : b ≤ 57) : stA (ds, p, bh) b = ((if ds ≠ [] ∨ b ≠ 48 then ds ++ [b] else ds), (if bh = true then p - 1 else p), bh) := by
  unfold stA; rw [if_neg (by omega), if_pos ⟨h1, h2⟩]
theorem stA_other (ds : List Int) (p : Int) (bh : Bool) (b : Int) (h0 : b ≠ 46) (h : ¬ (48 ≤ b ∧ b ≤ 57)) : stA (ds, p, bh) b = (ds, p, bh) := by
  unfold stA; rw [if_neg h0, if_neg h]

theorem dec_l0_step (s : ByteArray) (mi : Bool) (ds : List Int) (p : Int) (bh : Bool) (i : Nat) (R : ByteArray × Int × Bool) (hs : s.size ≤ 1000) (hi : i < s.size) (b : Int) (hb : bt s (i : Int) = b) (h1 : b ≠ 101) (h2 : b ≠ 69)
    (hds : ds.length ≤ i) (hp0 : -(i : Int) ≤ p) (hp1 : p ≤ 0) (ds' : List Int) (p' : Int) (bh' : Bool) (hst : stA (ds, p, bh) b = (ds', p', bh'))
    (h : Ev (fun k => spec_DecimalOf.l0 k s mi ds' p' bh' ((i + 1 : Nat) : Int)) R) : Ev (fun k => spec_DecimalOf.l0 k s mi ds p bh (i : Int)) R := by
  have gi : (i : Int) < (s.size : Int) := Int.ofNat_lt.2 hi
  have g0 : (0 : Int) ≤ (i : Int) := Int.natCast_nonneg i
  have w1 : wrap64 ((i : Int) + 1) = ((i + 1 : Nat) : Int) := w64a i (by omega)
  have wp : wrap64 (p - 1) = p - 1 := w64 _ (by omega) (by omega)
  refine Ev.succ (g := fun k => spec_DecimalOf.j2 k s mi ds p bh (i : Int) true) (fun k => ?_) ?_
  · rw [spec_DecimalOf.l0, if_pos gi, if_pos g0, hb, if_neg h1]
    have : (b != 69) = true := by rw [bne_iff_ne]; exact h2
    rw [this]
  by_cases h46 : b = 46
  · rw [h46, stA_pt] at hst
    obtain ⟨rfl, rfl, rfl⟩ : ds = ds' ∧ p = p' ∧ true = bh' := by
      simpa using hst
    refine Ev.succ (fun k => ?_) h
    rw [spec_DecimalOf.j2, if_pos rfl, if_pos g0, if_pos gi, hb, if_pos h46, w1]
  · have hj4 : 48 ≤ b → b ≤ 57 → ∀ t : Bool, (t = true ↔ (ds ≠ [] ∨ b ≠ 48)) → Ev (fun k => spec_DecimalOf.j4 k s mi ds p bh (i : Int) t) R := by
      intro d1 d2 t ht
      rw [stA_dig ds p bh b d1 d2] at hst
      by_cases hq : ds ≠ [] ∨ b ≠ 48
      · obtain rfl := ht.2 hq
        rw [if_pos hq] at hst
        obtain ⟨rfl, rfl, rfl⟩ : ds ++ [b] = ds' ∧ (if bh = true then p - 1 else p) = p' ∧ bh = bh' := by simpa using hst
        refine Ev.succ (fun k => ?_) h
        rw [spec_DecimalOf.j4, if_pos rfl, if_pos g0, if_pos gi, if_pos (by omega), hb, Option.bind_some, w1, wp]
        cases bh <;> rfl
      · have : t = false := by
          cases t
          · rfl
          · exact absurd (ht.1 rfl) hq
        subst this
        rw [if_neg hq] at hst
        obtain ⟨rfl, rfl, rfl⟩ : ds = ds' ∧ (if bh = true then p - 1 else p) = p' ∧ bh = bh' := by simpa using hst
        refine Ev.succ (fun k => ?_) h
        rw [spec_DecimalOf.j4, if_neg (by decide), w1, wp]
        cases bh <;> rfl
    have hj3 : ∀ t : Bool, (t = true ↔ (48 ≤ b ∧ b ≤ 57)) → Ev (fun k => spec_DecimalOf.j3 k s mi ds p bh (i : Int) t) R := by
      intro t ht
      by_cases hq : 48 ≤ b ∧ b ≤ 57
      · obtain rfl := ht.2 hq
        by_cases hn : ds = []
        · refine Ev.succ (fun k => ?_) (hj4 hq.1 hq.2 (b != 48) (by rw [bne_iff_ne]; simp [hn]))
          rw [spec_DecimalOf.j3, if_pos rfl, if_neg (by rw [hn]; simp), if_pos g0, if_pos gi, hb]
        · refine Ev.succ (fun k => ?_) (hj4 hq.1 hq.2 true (by simp [hn]))
          have : 0 < ds.length := List.length_pos_iff.2 hn
          rw [spec_DecimalOf.j3, if_pos rfl, if_pos (by omega)]
      · have : t = false := by
          cases t
          · rfl
          · exact absurd (ht.1 rfl) hq
        subst this
        rw [stA_other ds p bh b h46 hq] at hst
        obtain ⟨rfl, rfl, rfl⟩ : ds = ds' ∧ p = p' ∧ bh = bh' := by simpa using hst
        refine Ev.succ (fun k => ?_) h
        rw [spec_DecimalOf.j3, if_neg (by decide), w1]
    by_cases h48 : 48 ≤ b
    · refine Ev.succ (fun k => ?_) (hj3 (decide (b ≤ 57)) (by simp [h48]))
      rw [spec_DecimalOf.j2, if_pos rfl, if_pos g0, if_pos gi, hb, if_neg h46, if_pos h48]
    · refine Ev.succ (fun k => ?_) (hj3 false (by simp; omega))
      rw [spec_DecimalOf.j2, if_pos rfl, if_pos g0, if_pos gi, hb, if_neg h46, if_neg (by omega)]

theorem drop_bt {s : ByteArray} {i : Nat} {b : Int} {t : List Int} (h : (bytesOf s).drop i = b :: t) : i < s.size ∧ bt s (i : Int) = b ∧ (bytesOf s).drop (i + 1) = t := by
  have hl : i < (bytesOf s).length := by
    refine Nat.lt_of_not_le fun hh => ?_
    rw [List.drop_of_length_le hh] at h; cases h
  have e := drop_rd (bytesOf s) i hl
  rw [h, rd_bytesOf] at e
  rw [bytesOf_length] at hl
  injection e with e1 e2
  exact ⟨hl, e1.symm, e2.symm⟩

theorem stA_inv (ds : List Int) (p : Int) (bh : Bool) (b : Int) (i : Nat) (h1 : ds.length ≤ i) (h2 : -(i : Int) ≤ p) (h3 : p ≤ 0) :
    (stA (ds, p, bh) b).1.length ≤ i + 1 ∧ -((i + 1 : Nat) : Int) ≤ (stA (ds, p, bh) b).2.1 ∧ (stA (ds, p, bh) b).2.1 ≤ 0 := by
  unfold stA
  split
  · exact ⟨by dsimp only; omega, by dsimp only; omega, h3⟩
  · split
    · dsimp only
      refine ⟨?_, ?_, ?_⟩
      · split
        · rw [List.length_append]; simp; omega
        · omega
      · split <;> omega
      · split <;> omega
    · exact ⟨by dsimp only; omega, by dsimp only; omega, h3⟩

theorem dec_l0_fold (s : ByteArray) (mi : Bool) (R : ByteArray × Int × Bool) (hs : s.size ≤ 1000) : ∀ (seg rest : List Int) (ds : List Int) (p : Int) (bh : Bool) (i : Nat), (bytesOf s).drop i = seg ++ rest → (∀ b ∈ seg, b ≠ 101 ∧ b ≠ 69) →
    ds.length ≤ i → -(i : Int) ≤ p → p ≤ 0 → ∀ (ds' : List Int) (p' : Int) (bh' : Bool), seg.foldl stA (ds, p, bh) = (ds', p', bh') →
    Ev (fun k => spec_DecimalOf.l0 k s mi ds' p' bh' ((i + seg.length : Nat) : Int)) R → Ev (fun k => spec_DecimalOf.l0 k s mi ds p bh (i : Int)) R := by
  intro seg
  induction seg with
  | nil =>
    intro rest ds p bh i _ _ _ _ _ ds' p' bh' hf h
    obtain ⟨rfl, rfl, rfl⟩ : ds = ds' ∧ p = p' ∧ bh = bh' := by simpa using hf
    exact h
  | cons b seg ih =>
    intro rest ds p bh i hd hb h1 h2 h3 ds' p' bh' hf h
    obtain ⟨d1, d2, d3⟩ := drop_bt hd
    obtain ⟨q1, q2⟩ := hb b (by simp)
    obtain ⟨i1, i2, i3⟩ := stA_inv ds p bh b i h1 h2 h3
    refine dec_l0_step s mi ds p bh i R hs d1 b d2 q1 q2 h1 h2 h3 _ _ _ rfl ?_
    refine ih rest _ _ _ (i + 1) d3 (fun x hx => hb x (List.mem_cons_of_mem _ hx)) i1 i2 i3 ds' p' bh' hf ?_
    rw [show i + 1 + seg.length = i + (b :: seg).length by simp; omega]
    exact h

theorem dec_l0_end (s : ByteArray) (mi : Bool) (ds : List Int) (p : Int) (bh : Bool) (i : Nat) (R : ByteArray × Int × Bool) (h : i = s.size ∨ (i < s.size ∧ bt s (i : Int) = 101))
    (hE : Ev (fun k => spec_DecimalOf.l1 k s mi ds p (i : Int) 0 false) R) : Ev (fun k => spec_DecimalOf.l0 k s mi ds p bh (i : Int)) R := by
  have g0 : (0 : Int) ≤ (i : Int) := Int.natCast_nonneg i
  refine Ev.succ (g := fun k => spec_DecimalOf.j2 k s mi ds p bh (i : Int) false) (fun k => ?_) (Ev.succ (fun k => ?_) hE)
  · rcases h with h | ⟨h, hb⟩
    · rw [spec_DecimalOf.l0, if_neg (by omega)]
    · rw [spec_DecimalOf.l0, if_pos (by omega), if_pos g0, hb, if_pos rfl]
  · rw [spec_DecimalOf.j2, if_neg (by decide)]

theorem dec_l1_step (s : ByteArray) (mi : Bool) (ds : List Int) (p e : Int) (dn : Bool) (i : Nat) (R : ByteArray × Int × Bool) (hs : s.size ≤ 1000) (hi : i < s.size) (b : Int) (hb : bt s (i : Int) = b)
    (he0 : 0 ≤ e) (he1 : e ≤ 100000) (e' : Int) (dn' : Bool) (hst : stB (e, dn) b = (e', dn'))
    (h : Ev (fun k => spec_DecimalOf.l1 k s mi ds p ((i + 1 : Nat) : Int) e' dn') R) : Ev (fun k => spec_DecimalOf.l1 k s mi ds p (i : Int) e dn) R := by
  have gi : (i : Int) < (s.size : Int) := Int.ofNat_lt.2 hi
  have g0 : (0 : Int) ≤ (i : Int) := Int.natCast_nonneg i
  have w1 : wrap64 ((i : Int) + 1) = ((i + 1 : Nat) : Int) := w64a i (by omega)
  have we : wrap64 (10 * e) = 10 * e := w64 _ (by omega) (by omega)
  refine Ev.succ (fun k => ?_) h
  unfold stB at hst
  by_cases h45 : b = 45
  · rw [if_pos h45] at hst
    obtain ⟨rfl, rfl⟩ : e = e' ∧ true = dn' := by simpa using hst
    rw [spec_DecimalOf.l1, if_pos gi, if_pos g0, hb, if_pos h45, if_neg (by omega), w1]
  · rw [if_neg h45] at hst
    by_cases hd : 48 ≤ b ∧ b ≤ 57
    · rw [if_pos hd] at hst
      obtain ⟨rfl, rfl⟩ : mn (10 * e + (b - 48)) 100000 = e' ∧ dn = dn' := by simpa using hst
      have e1 : (b - 48) % 256 = b - 48 := by omega
      have e2 : wrap64 (10 * e + (b - 48)) = 10 * e + (b - 48) := w64 _ (by omega) (by omega)
      rw [spec_DecimalOf.l1, if_pos gi, if_pos g0, hb, if_neg h45, if_pos hd.1, if_pos hd.2, w1, we, e1, e2]
    · rw [if_neg hd] at hst
      obtain ⟨rfl, rfl⟩ : e = e' ∧ dn = dn' := by simpa using hst
      by_cases h48 : 48 ≤ b
      · rw [spec_DecimalOf.l1, if_pos gi, if_pos g0, hb, if_neg h45, if_pos h48, if_neg (by omega), w1]
      · rw [spec_DecimalOf.l1, if_pos gi, if_pos g0, hb, if_neg h45, if_neg (by omega), w1]
theorem stB_inv (e : Int) (dn : Bool) (b : Int) (h0 : 0 ≤ e) (h1 : e ≤ 100000) : 0 ≤ (stB (e, dn) b).1 ∧ (stB (e, dn) b).1 ≤ 100000 := by
  unfold stB mn
  split
  · exact ⟨h0, h1⟩
  · split
    · dsimp only; split <;> omega
    · exact ⟨h0, h1⟩
theorem dec_l1_fold (s : ByteArray) (mi : Bool) (ds : List Int) (p : Int) (R : ByteArray × Int × Bool) (hs : s.size ≤ 1000) : ∀ (seg rest : List Int) (e : Int) (dn : Bool) (i : Nat), (bytesOf s).drop i = seg ++ rest →
    0 ≤ e → e ≤ 100000 → ∀ (e' : Int) (dn' : Bool), seg.foldl stB (e, dn) = (e', dn') →
    Ev (fun k => spec_DecimalOf.l1 k s mi ds p ((i + seg.length : Nat) : Int) e' dn') R → Ev (fun k => spec_DecimalOf.l1 k s mi ds p (i : Int) e dn) R := by
  intro seg
  induction seg with
  | nil =>
    intro rest e dn i _ _ _ e' dn' hf h
    obtain ⟨rfl, rfl⟩ : e = e' ∧ dn = dn' := by simpa using hf
    exact h
  | cons b seg ih =>
    intro rest e dn i hd h1 h2 e' dn' hf h
    obtain ⟨d1, d2, d3⟩ := drop_bt hd
    obtain ⟨i1, i2⟩ := stB_inv e dn b h1 h2
    refine dec_l1_step s mi ds p e dn i R hs d1 b d2 h1 h2 _ _ rfl ?_
    refine ih rest _ _ (i + 1) d3 i1 i2 e' dn' hf ?_
    rw [show i + 1 + seg.length = i + (b :: seg).length by simp; omega]
    exact h
theorem dec_l1_end (s : ByteArray) (mi : Bool) (ds : List Int) (p e : Int) (dn : Bool) (i : Nat) (hi : i = s.size) (he0 : 0 ≤ e) (he1 : e ≤ 100000) (hp0 : -1000 ≤ p) (hp1 : p ≤ 0) :
    Ev (fun k => spec_DecimalOf.l1 k s mi ds p (i : Int) e dn) (strOfNums ds, (if dn = true then p - e else p + e), mi) := by
  refine Ev.succ (g := fun _ => some (strOfNums ds, (if dn = true then p - e else p + e), mi)) (fun k => ?_) (Ev.pure _)
  rw [spec_DecimalOf.l1, if_neg (by omega), w64 (-e) (by omega) (by omega), w64 (p + -e) (by omega) (by omega), w64 (p + e) (by omega) (by omega)]
  cases dn
  · rfl
  · rw [if_pos rfl, if_pos rfl]; rfl
end Go.Proofs.YtiopeaponffmdaaDoor.PAll
