/- The texts of a proof, its declarations alone: part 9. -/
import Derived.Test.YtiopeaponffmdaaDoorVS4
import Derived.Test.YtiopeaponffmdaaDoorVS5
import Derived.Test.YtiopeaponffmdaaDoorVS6
set_option linter.unusedVariables false
set_option linter.unusedSimpArgs false
-- YtiopeaponffmdaaDoorPAllx23
namespace Go.Proofs.YtiopeaponffmdaaDoor.PAll
open Go.RowKit Go.Proofs.YtiopeaponffmdaaDoorW.PrintWords Go.Proofs.YtiopeaponffmdaaDoorW.PrintLast Go.Proofs.YtiopeaponffmdaaDoorW.PrintMore
attribute [local go_sem] max2_int min2_int max_two min_two max_three min_three max_four min_four   -- for this text's walks alone
set_option linter.unusedVariables false
set_option linter.unusedSimpArgs false

def spec_Form_reads.j0 : Nat → Int → Int → Int → ByteArray → Int → Option (Bool)
  | 0, _, _, _, _, _ => none
  | k + 1, x2, x410000, x410001, x411000, x411001 => (spec_Form_Times2.f k x410000 x410001 x2).bind fun t421 => ((spec_Form_Times2.f k x410000 x410001 (IntKind.u64.wrap (x2 + 1))).bind fun t424 => ((spec_Add.f k t421 t424).bind fun t427 => ((spec_Form_against.f k x410000 x410001 x411000 x411001 t427).bind fun t430 => (if t430 < 0 then (some true) else (if t430 = 0 then (some ((Int.tmod x2 2) == 0)) else (some false))))))
def spec_Form_reads.f (k : Nat) (a0_0 : Int) (a0_1 : Int) (a1_0 : ByteArray) (a1_1 : Int) (a2 : Int) : Option (Bool) := if a2 > 0 then ((spec_Form_Times2.f k a0_0 a0_1 (IntKind.u64.wrap (a2 - 1))).bind fun t411 => ((spec_Form_Times2.f k a0_0 a0_1 a2).bind fun t414 => ((spec_Add.f k t411 t414).bind fun t417 => ((spec_Form_against.f k a0_0 a0_1 a1_0 a1_1 t417).bind fun t420 => (if t420 < 0 then (some false) else (if t420 = 0 then (if (Int.tmod a2 2) = 1 then (some false) else (spec_Form_reads.j0 k a2 a0_0 a0_1 a1_0 a1_1)) else (spec_Form_reads.j0 k a2 a0_0 a0_1 a1_0 a1_1))))))) else (spec_Form_reads.j0 k a2 a0_0 a0_1 a1_0 a1_1)
theorem spec_Form_reads.mono_l : ∀ k, (∀ y0 y1 y2 y3 y4, LeO (spec_Form_reads.j0 k y0 y1 y2 y3 y4) (spec_Form_reads.j0 (k + 1) y0 y1 y2 y3 y4))
  | 0 => fun _ _ _ _ _ r h => by simp [spec_Form_reads.j0] at h
  | k + 1 => by
    have ih0 := spec_Form_reads.mono_l k
    · intro y0 y1 y2 y3 y4
      unfold spec_Form_reads.j0
      repeat' first
      | (with_reducible exact ih0 _ _ _ _ _)
      | (with_reducible exact spec_Add.mono _ _ _)
      | (with_reducible exact spec_Form_Times2.mono _ _ _ _)
      | (with_reducible exact spec_Form_against.mono _ _ _ _ _ _)
      | (with_reducible exact LeO.refl _)
      | (with_reducible exact LeO.none _)
      | (with_reducible refine LeO.ite ?_ ?_)
      | (with_reducible refine LeO.bind ?_ (fun _ => ?_))
      | exact ih0 _ _ _ _ _
      | exact spec_Add.mono _ _ _
      | exact spec_Form_Times2.mono _ _ _ _
      | exact spec_Form_against.mono _ _ _ _ _ _
      | exact LeO.none _
      | refine LeO.ite ?_ ?_
      | refine LeO.bind ?_ (fun _ => ?_)
theorem spec_Form_reads.mono : ∀ a0 a1 a2 a3 a4 k, LeO (spec_Form_reads.f k a0 a1 a2 a3 a4) (spec_Form_reads.f (k + 1) a0 a1 a2 a3 a4) := by
  intro a0 a1 a2 a3 a4 k
  have ih0 := spec_Form_reads.mono_l k
  unfold spec_Form_reads.f
  repeat' first
      | (with_reducible exact ih0 _ _ _ _ _)
      | (with_reducible exact spec_Add.mono _ _ _)
      | (with_reducible exact spec_Form_Times2.mono _ _ _ _)
      | (with_reducible exact spec_Form_against.mono _ _ _ _ _ _)
      | (with_reducible exact LeO.refl _)
      | (with_reducible exact LeO.none _)
      | (with_reducible refine LeO.ite ?_ ?_)
      | (with_reducible refine LeO.bind ?_ (fun _ => ?_))
      | exact ih0 _ _ _ _ _
      | exact spec_Add.mono _ _ _
      | exact spec_Form_Times2.mono _ _ _ _
      | exact spec_Form_against.mono _ _ _ _ _ _
      | exact LeO.none _
      | refine LeO.ite ?_ ?_
      | refine LeO.bind ?_ (fun _ => ?_)
def spec_Form_reads.T2 : Bool × List (List Nat × List Nat) := (true, [([], []), ([], []), ([], []), ([], []), ([3], [3]), ([2, 4], [2, 4]), ([], []), ([], []), ([6, 7, 5], [6, 7]), ([5, 8, 8], [5, 8]), ([0, 1, 9, 9], [0, 1, 9]), ([10, 10, 0, 1, 2, 3, 4, 5, 6, 7, 8, 9, 10], [10])])
def spec_Form_reads.B2 : List Nat := [0, 0, 0, 0, 8, 28, 0, 0, 252, 508, 1023, 2047]
theorem spec_Form_reads.tab2 : rtab .any (opsOf Tryd.f45 2) = spec_Form_reads.T2 := by kernel_rfl
theorem spec_Form_reads.bits2 : waitsOk spec_Form_reads.T2.2 spec_Form_reads.B2 = true := by kernel_rfl
def spec_Form_reads.T5 : Bool × List (List Nat × List Nat) := (true, [([], []), ([], []), ([], []), ([], []), ([2, 3], [2, 3]), ([], []), ([], []), ([6], [6]), ([5, 7, 4], [5, 7]), ([4, 8, 8], [4, 8]), ([0, 1, 9, 9], [0, 1, 9]), ([10, 10, 0, 1, 2, 3, 4, 5, 6, 7, 8, 9, 10], [10])])
def spec_Form_reads.B5 : List Nat := [0, 0, 0, 0, 12, 0, 0, 64, 252, 508, 1023, 2047]
theorem spec_Form_reads.tab5 : rtab .any (opsOf Tryd.f45 5) = spec_Form_reads.T5 := by kernel_rfl
theorem spec_Form_reads.bits5 : waitsOk spec_Form_reads.T5.2 spec_Form_reads.B5 = true := by kernel_rfl
set_option maxHeartbeats 8000000 in
set_option maxRecDepth 100000 in
theorem spec_Form_reads.calls (k : Nat) (a0_0 : Int) (a0_1 : Int) (a1_0 : ByteArray) (a1_1 : Int) (a2 : Int) (r : Bool) (w : World) (h : spec_Form_reads.f k a0_0 a0_1 a1_0 a1_1 a2 = some r) :
    Calls Tryd.prog 45 #[.agg #[.int .i64 a0_0, .int .u64 a0_1], .agg #[.string a1_0, .int .i64 a1_1], .int .u64 a2] w fun e w' => e = .returned (.bool r) ∧ Below w.heap.size w w' := by
  have hu31 := Tryd.underlying31
  have hu35 := Tryd.underlying35
  have HB := Aside0.mk (Below.refl w.heap.size w)
  have H : (if a2 > 0 then ((spec_Form_Times2.f k a0_0 a0_1 (IntKind.u64.wrap (a2 - 1))).bind fun t411 => ((spec_Form_Times2.f k a0_0 a0_1 a2).bind fun t414 => ((spec_Add.f k t411 t414).bind fun t417 => ((spec_Form_against.f k a0_0 a0_1 a1_0 a1_1 t417).bind fun t420 => (if t420 < 0 then (some false) else (if t420 = 0 then (if (Int.tmod a2 2) = 1 then (some false) else (spec_Form_reads.j0 k a2 a0_0 a0_1 a1_0 a1_1)) else (spec_Form_reads.j0 k a2 a0_0 a0_1 a1_0 a1_1))))))) else (spec_Form_reads.j0 k a2 a0_0 a0_1 a1_0 a1_1)) = some r := h
  clear h
  have HC4 := Aside0.mk H
  clear H
  go_enter Tryd.func45, Tryd.ntmps45
  go_upto_if 10 with (first | ((with_reducible refine gate_dst (N := 3) rfl ?_); refine box_event ?hg (N := 3) ?hd (cs := #[.int .i64 a0_0, .int .u64 a0_1]) (t := 31) ?hr ?_; (case hd => rfl); (case hg => rfl); (case hr => first | (go_simp; done) | (go_simp; rfl)); intro gb409 hg w5 hbox hb; have n0_ := Aside0.mk (below_step (by repeat (first | (with_reducible first | exact HB.out | apply below_alloc | apply pw_below_drewN | apply below_drew1) | exact HB.out)) hb); have n1_ := Aside0.mk (hbox); have n2_ := Aside0.mk ((by rw [hg]; exact (below_size (by repeat (first | (with_reducible first | exact HB.out | apply below_alloc | apply pw_below_drewN | apply below_drew1) | exact HB.out))) : w.heap.size ≤ gb409)); have n3_ := Aside0.mk ((by rw [hg]; exact (below_size (by repeat (first | (with_reducible first | exact HB.out | apply below_alloc | apply pw_below_drewN | apply below_drew1) | exact HB.out))) : w.heap.size ≤ gb409)); clear HB; have HB := n0_; have BK409 := n1_; have GW409 := n2_; have GE409 := n3_; clear n0_ n1_ n2_ n3_; clear hb hbox hg) | ((with_reducible refine gate_dst (N := 4) rfl ?_); refine box_event ?hg (N := 4) ?hd (cs := #[.string a1_0, .int .i64 a1_1]) (t := 35) ?hr ?_; (case hd => rfl); (case hg => rfl); (case hr => first | (go_simp; done) | (go_simp; rfl)); intro gb410 hg w6 hbox hb; have n0_ := Aside0.mk (blk_below (g := gb409) (o := .cells #[.int .i64 a0_0, .int .u64 a0_1] 31 (0, 0)) (by (with_reducible repeat (first | refine blk_drewN ?_ _ | refine blk_drew ?_ | refine blk_alloc ?_ _)); exact BK409.out) hb); have n1_ := Aside0.mk (below_step (by repeat (first | (with_reducible first | exact HB.out | apply below_alloc | apply pw_below_drewN | apply below_drew1 | refine below_set ?_ GE409.out) | exact HB.out)) hb); have n2_ := Aside0.mk (hbox); have n3_ := Aside0.mk ((by rw [hg]; exact (below_size (by repeat (first | (with_reducible first | exact HB.out | apply below_alloc | apply pw_below_drewN | apply below_drew1 | refine below_set ?_ GE409.out) | exact HB.out))) : w.heap.size ≤ gb410)); have n4_ := Aside0.mk ((by rw [hg]; exact (below_size (by repeat (first | (with_reducible first | exact HB.out | apply below_alloc | apply pw_below_drewN | apply below_drew1 | refine below_set ?_ GE409.out) | exact HB.out))) : w.heap.size ≤ gb410)); have n5_ := Aside0.mk ((by rw [hg]; exact Nat.ne_of_lt (blk_lt (g := gb409) (o := .cells #[.int .i64 a0_0, .int .u64 a0_1] 31 (0, 0)) (by (with_reducible repeat (first | refine blk_drewN ?_ _ | refine blk_drew ?_ | refine blk_alloc ?_ _)); exact BK409.out)) : gb409 ≠ gb410)); have n6_ := Aside0.mk ((by rw [hg]; exact Nat.ne_of_gt (blk_lt (g := gb409) (o := .cells #[.int .i64 a0_0, .int .u64 a0_1] 31 (0, 0)) (by (with_reducible repeat (first | refine blk_drewN ?_ _ | refine blk_drew ?_ | refine blk_alloc ?_ _)); exact BK409.out)) : gb410 ≠ gb409)); clear BK409; clear HB; have BK409 := n0_; have HB := n1_; have BK410 := n2_; have GW410 := n3_; have GE410 := n4_; have NB409_410 := n5_; have NB410_409 := n6_; clear n0_ n1_ n2_ n3_ n4_ n5_ n6_; clear hb hbox hg))
  (try simp only [Act.put, List.setIfInBounds_toArray, List.set_cons_zero, List.set_cons_succ])
  go_cut [] (fun wc => ∃ (kq : Nat), Aside0 (spec_Form_reads.j0 kq a2 a0_0 a0_1 a1_0 a1_1 = some r) ∧ Aside0 (kq ≤ k) ∧ Aside0 (wc.heap[gb409]? = some (.cells #[.int .i64 a0_0, .int .u64 a0_1] 31 (0, 0))) ∧ Aside0 (wc.heap[gb410]? = some (.cells #[.string a1_0, .int .i64 a1_1] 35 (0, 0))) ∧ Aside0 (Below w.heap.size w wc))
  case first =>
    have H := HC4.out
    clear HC4
    by_cases c7 : a2 > 0
    · rw [if_pos c7] at H
      have c7b0 : decide (0 < a2) = true := decide_eq_true c7
      clear c7
      (first | rw [c7b0] | (simp only [i64_w, i32_w]; rw [c7b0]) | skip)
      replace H := Option.bind_eq_some_iff.mp H
      obtain ⟨t411, A80, H⟩ := H
      replace H : ((spec_Form_Times2.f k a0_0 a0_1 a2).bind fun t414 => ((spec_Add.f k t411 t414).bind fun t417 => ((spec_Form_against.f k a0_0 a0_1 a1_0 a1_1 t417).bind fun t420 => (if t420 < 0 then (some false) else (if t420 = 0 then (if (Int.tmod a2 2) = 1 then (some false) else (spec_Form_reads.j0 k a2 a0_0 a0_1 a1_0 a1_1)) else (spec_Form_reads.j0 k a2 a0_0 a0_1 a1_0 a1_1)))))) = some r := H
      have A8 := Aside0.mk A80
      clear A80
      replace H := Option.bind_eq_some_iff.mp H
      obtain ⟨t414, A90, H⟩ := H
      replace H : ((spec_Add.f k t411 t414).bind fun t417 => ((spec_Form_against.f k a0_0 a0_1 a1_0 a1_1 t417).bind fun t420 => (if t420 < 0 then (some false) else (if t420 = 0 then (if (Int.tmod a2 2) = 1 then (some false) else (spec_Form_reads.j0 k a2 a0_0 a0_1 a1_0 a1_1)) else (spec_Form_reads.j0 k a2 a0_0 a0_1 a1_0 a1_1))))) = some r := H
      have A9 := Aside0.mk A90
      clear A90
      replace H := Option.bind_eq_some_iff.mp H
      obtain ⟨t417, A100, H⟩ := H
      replace H : ((spec_Form_against.f k a0_0 a0_1 a1_0 a1_1 t417).bind fun t420 => (if t420 < 0 then (some false) else (if t420 = 0 then (if (Int.tmod a2 2) = 1 then (some false) else (spec_Form_reads.j0 k a2 a0_0 a0_1 a1_0 a1_1)) else (spec_Form_reads.j0 k a2 a0_0 a0_1 a1_0 a1_1)))) = some r := H
      have A10 := Aside0.mk A100
      clear A100
      replace H := Option.bind_eq_some_iff.mp H
      obtain ⟨t420, A110, H⟩ := H
      replace H : (if t420 < 0 then (some false) else (if t420 = 0 then (if (Int.tmod a2 2) = 1 then (some false) else (spec_Form_reads.j0 k a2 a0_0 a0_1 a1_0 a1_1)) else (spec_Form_reads.j0 k a2 a0_0 a0_1 a1_0 a1_1))) = some r := H
      have A11 := Aside0.mk A110
      clear A110
      by_cases c12 : t420 < 0
      · rw [if_pos c12] at H
        have c12b0 : decide (t420 < 0) = true := decide_eq_true c12
        clear c12
        obtain rfl := Option.some.inj H
        try go_wp2
        have n0_ := Aside0.mk (blk_drew BK409.out)
        have n1_ := Aside0.mk (blk_drew BK410.out)
        have n2_ := Aside0.mk (below_drew1 HB.out)
        clear BK409
        clear BK410
        clear HB
        have BK409 := n0_
        have BK410 := n1_
        have HB := n2_
        clear n0_ n1_ n2_
        refine start_ (n := 12) (S := fun w' => w'.cell? ⟨gb409, 0, none⟩ = some (.int .i64 a0_0) ∧ w'.cell? ⟨gb409, 1, none⟩ = some (.int .u64 a0_1) ∧ w'.cell? ⟨gb410, 0, none⟩ = some (.string a1_0) ∧ w'.cell? ⟨gb410, 1, none⟩ = some (.int .i64 a1_1)) (ds := []) #[false, false, false, false, false, false, false, false, false, false, false, false] (by kernel_rfl) rfl rfl ⟨(blk_cell BK409.out 0).trans rfl, (blk_cell BK409.out 1).trans rfl, (blk_cell BK410.out 0).trans rfl, (blk_cell BK410.out 1).trans rfl⟩ (fun hHeld => ?_); refine with_tabW spec_Form_reads.tab2 spec_Form_reads.bits2 (fun HT_ HW_ => ?_)
        generalize w6.drew = w13 at BK409 BK410 HB hHeld ⊢
        refine pure_ (i := 3) (N := some 14) (v := ?_) (a' := ?_) #[false, false, false, true, false, false, false, false, false, false, false, false] rfl rfl (any_of HT_.out (by kernel_rfl)) (fun _ _ _ h => h) (Or.inl ⟨by rfl, ?_⟩) ?_ ?_
        rotate_left
        · intro w'
          go_simp
          with_reducible rfl
        rotate_left
        · simp only [Act.put, List.setIfInBounds_toArray, List.set_cons_zero, List.set_cons_succ, i64_w, i32_w]
          rfl
        refine pure_ (i := 4) (N := some 15) (v := ?_) (a' := ?_) #[false, false, false, true, true, false, false, false, false, false, false, false] rfl rfl (any_of HT_.out (by kernel_rfl)) (fun _ _ _ h => h) (Or.inl ⟨by rfl, ?_⟩) ?_ ?_
        rotate_left
        · intro w'
          go_simp
          with_reducible rfl
        rotate_left
        · simp only [Act.put, List.setIfInBounds_toArray, List.set_cons_zero, List.set_cons_succ, i64_w, i32_w]
          rfl
        refine pure_ (i := 7) (N := some 18) (v := ?_) (a' := ?_) #[false, false, false, true, true, false, false, true, false, false, false, false] rfl rfl (any_of HT_.out (by kernel_rfl)) (fun _ _ _ h => h) (Or.inl ⟨by rfl, ?_⟩) ?_ ?_
        rotate_left
        · intro w'
          go_simp
          with_reducible rfl
        rotate_left
        · simp only [Act.put, List.setIfInBounds_toArray, List.set_cons_zero, List.set_cons_succ, i64_w, i32_w]
          rfl
        refine take_ (i := 0) (N := some 11) (v := ?_) (a' := ?_) #[true, false, false, true, true, false, false, true, false, false, false, false] rfl rfl (take_ofW HT_.out HW_.out (by kernel_rfl)) (fun _ _ _ h => h) (Or.inl ⟨by rfl, ?_⟩) hHeld ?_ ?_
        rotate_left
        · rintro w' ⟨s0, s1, s2, s3⟩
          go_simp
          with_reducible rfl
        rotate_left
        · simp only [Act.put, List.setIfInBounds_toArray, List.set_cons_zero, List.set_cons_succ, i64_w, i32_w]
          rfl
        refine take_ (i := 1) (N := some 12) (v := ?_) (a' := ?_) #[true, true, false, true, true, false, false, true, false, false, false, false] rfl rfl (take_ofW HT_.out HW_.out (by kernel_rfl)) (fun _ _ _ h => h) (Or.inl ⟨by rfl, ?_⟩) hHeld ?_ ?_
        rotate_left
        · rintro w' ⟨s0, s1, s2, s3⟩
          go_simp
          with_reducible rfl
        rotate_left
        · simp only [Act.put, List.setIfInBounds_toArray, List.set_cons_zero, List.set_cons_succ, i64_w, i32_w]
          rfl
        refine take_ (i := 2) (N := some 13) (v := ?_) (a' := ?_) #[true, true, true, true, true, false, false, true, false, false, false, false] rfl rfl (take_ofW HT_.out HW_.out (by kernel_rfl)) (fun _ _ _ h => h) (Or.inl ⟨by rfl, ?_⟩) hHeld ?_ ?_
        rotate_left
        · rintro w' ⟨s0, s1, s2, s3⟩
          go_simp
          with_reducible rfl
        rotate_left
        · simp only [Act.put, List.setIfInBounds_toArray, List.set_cons_zero, List.set_cons_succ, i64_w, i32_w]
          rfl
        refine take_ (i := 6) (N := some 17) (v := ?_) (a' := ?_) #[true, true, true, true, true, false, true, true, false, false, false, false] rfl rfl (take_ofW HT_.out HW_.out (by kernel_rfl)) (fun _ _ _ h => h) (Or.inl ⟨by rfl, ?_⟩) hHeld ?_ ?_
        rotate_left
        · rintro w' ⟨s0, s1, s2, s3⟩
          go_simp
          with_reducible rfl
        rotate_left
        · simp only [Act.put, List.setIfInBounds_toArray, List.set_cons_zero, List.set_cons_succ, i64_w, i32_w]
          rfl
        refine one_ (i := 5) (N := some 16) #[true, true, true, true, true, true, true, true, false, false, false, false] rfl rfl (one_of HT_.out (by kernel_rfl)) (by decide) (fun K hK => ?_)
        refine goes_ Tryd.func29 (by kernel_rfl) rfl #[.agg #[.int .i64 a0_0, .int .u64 a0_1], .int .u64 (IntKind.u64.wrap (a2 - 1))] (by rfl) rfl rfl (by (try simp only [List.map_toArray, List.map_cons, List.map_nil]); first | done | rfl | (simp only [List.length_drop, List.length_take]; rfl)) ?_
        with_reducible refine (spec_Form_Times2.calls k a0_0 a0_1 (IntKind.u64.wrap (a2 - 1)) t411 _ A8.out).mono ?_
        rintro e w14 ⟨v412, rfl, ho0, hb⟩
        refine ⟨_, rfl, ?_⟩
        have n0_ := Aside0.mk (Kd.R_lower ho0 (below_size (by repeat (first | (with_reducible first | exact HB.out | apply below_alloc | apply pw_below_drewN | apply below_drew1 | refine below_set ?_ GE409.out | refine below_set ?_ GE410.out) | exact HB.out))))
        have n1_ := Aside0.mk (blk_below (g := gb409) (o := .cells #[.int .i64 a0_0, .int .u64 a0_1] 31 (0, 0)) (by (with_reducible repeat (first | refine blk_drewN ?_ _ | refine blk_drew ?_ | refine blk_alloc ?_ _)); exact BK409.out) hb)
        have n2_ := Aside0.mk (blk_below (g := gb410) (o := .cells #[.string a1_0, .int .i64 a1_1] 35 (0, 0)) (by (with_reducible repeat (first | refine blk_drewN ?_ _ | refine blk_drew ?_ | refine blk_alloc ?_ _)); exact BK410.out) hb)
        have n3_ := Aside0.mk (below_step (by repeat (first | (with_reducible first | exact HB.out | apply below_alloc | apply pw_below_drewN | apply below_drew1 | refine below_set ?_ GE409.out | refine below_set ?_ GE410.out) | exact HB.out)) hb)
        clear BK409
        clear BK410
        clear HB
        have HO413 := n0_
        have BK409 := n1_
        have BK410 := n2_
        have HB := n3_
        clear n0_ n1_ n2_ n3_
        (try clear hb)
        (try clear hb2)
        (try clear hk)
        (try clear hi)
        (try clear ho0)
        refine hK.out _ _ ⟨(blk_cell BK409.out 0).trans rfl, (blk_cell BK409.out 1).trans rfl, (blk_cell BK410.out 0).trans rfl, (blk_cell BK410.out 1).trans rfl⟩ (fun hHeld => ?_)
        clear hK K
        refine norm_ (a' := ?_) ?_ ?_
        rotate_left
        · show Act.put _ (some 16) _ = _
          simp only [Act.put, List.setIfInBounds_toArray, List.set_cons_zero, List.set_cons_succ, i64_w, i32_w]
          rfl
        refine one_ (i := 8) (N := some 19) #[true, true, true, true, true, true, true, true, true, false, false, false] rfl rfl (one_of HT_.out (by kernel_rfl)) (by decide) (fun K hK => ?_)
        refine goes_ Tryd.func29 (by kernel_rfl) rfl #[.agg #[.int .i64 a0_0, .int .u64 a0_1], .int .u64 a2] (by rfl) rfl rfl (by (try simp only [List.map_toArray, List.map_cons, List.map_nil]); first | done | rfl | (simp only [List.length_drop, List.length_take]; rfl)) ?_
        with_reducible refine (spec_Form_Times2.calls k a0_0 a0_1 a2 t414 _ A9.out).mono ?_
        rintro e w15 ⟨v415, rfl, ho0, hb⟩
        refine ⟨_, rfl, ?_⟩
        have n0_ := Aside0.mk (Kd.R_elder' (by (with_reducible repeat (first | apply Kd.R_alloc | apply Kd.R_drewN | apply Kd.R_drew)); exact HO413.out) (Kd.R_base ho0) hb)
        have n1_ := Aside0.mk (Kd.R_lower (Kd.R_new' ho0 (Kd.R_lt (by (with_reducible repeat (first | apply Kd.R_alloc | apply Kd.R_drewN | apply Kd.R_drew)); exact HO413.out))) (below_size (by repeat (first | (with_reducible first | exact HB.out | apply below_alloc | apply pw_below_drewN | apply below_drew1 | refine below_set ?_ GE409.out | refine below_set ?_ GE410.out) | exact HB.out))))
        have n2_ := Aside0.mk (blk_below (g := gb409) (o := .cells #[.int .i64 a0_0, .int .u64 a0_1] 31 (0, 0)) (by (with_reducible repeat (first | refine blk_drewN ?_ _ | refine blk_drew ?_ | refine blk_alloc ?_ _)); exact BK409.out) hb)
        have n3_ := Aside0.mk (blk_below (g := gb410) (o := .cells #[.string a1_0, .int .i64 a1_1] 35 (0, 0)) (by (with_reducible repeat (first | refine blk_drewN ?_ _ | refine blk_drew ?_ | refine blk_alloc ?_ _)); exact BK410.out) hb)
        have n4_ := Aside0.mk (below_step (by repeat (first | (with_reducible first | exact HB.out | apply below_alloc | apply pw_below_drewN | apply below_drew1 | refine below_set ?_ GE409.out | refine below_set ?_ GE410.out) | exact HB.out)) hb)
        clear HO413
        clear BK409
        clear BK410
        clear HB
        have HO413 := n0_
        have HO416 := n1_
        have BK409 := n2_
        have BK410 := n3_
        have HB := n4_
        clear n0_ n1_ n2_ n3_ n4_
        (try clear hb)
        (try clear hb2)
        (try clear hk)
        (try clear hi)
        (try clear ho0)
        obtain ⟨Ao16, co16, eo16⟩ := Kd.R_slice HO413.out
        (first | subst eo16 | (injection eo16 with f1_ f2_ f3_; have f4_ := f1_.symm; have f5_ := f3_.symm; clear f1_ f2_ f3_; subst f4_; subst f5_))
        obtain ⟨Ao17, co17, eo17⟩ := Kd.R_slice HO416.out
        (first | subst eo17 | (injection eo17 with f1_ f2_ f3_; have f4_ := f1_.symm; have f5_ := f3_.symm; clear f1_ f2_ f3_; subst f4_; subst f5_))
        refine hK.out _ _ ⟨(blk_cell BK409.out 0).trans rfl, (blk_cell BK409.out 1).trans rfl, (blk_cell BK410.out 0).trans rfl, (blk_cell BK410.out 1).trans rfl⟩ (fun hHeld => ?_)
        clear hK K
        refine norm_ (a' := ?_) ?_ ?_
        rotate_left
        · show Act.put _ (some 19) _ = _
          simp only [Act.put, List.setIfInBounds_toArray, List.set_cons_zero, List.set_cons_succ, i64_w, i32_w]
          rfl
        refine one_ (i := 9) (N := some 20) #[true, true, true, true, true, true, true, true, true, true, false, false] rfl rfl (one_of HT_.out (by kernel_rfl)) (by decide) (fun K hK => ?_)
        refine goes_ Tryd.func30 (by kernel_rfl) rfl #[.slice Ao16 t411.length co16, .slice Ao17 t414.length co17] (by rfl) rfl rfl (by (try simp only [List.map_toArray, List.map_cons, List.map_nil]); first | done | rfl | (simp only [List.length_drop, List.length_take]; rfl)) ?_
        with_reducible refine (spec_Add.calls k _ _ t411 _ _ t414 t417 _ ?side1 ?side2 ?side3 ?side4 A10.out).mono ?_
        (case side1 => repeat (first | exact (Kd.R_reads' HO413.out).2.2 | (with_reducible refine Kd.C_alloc ?_ _) | (with_reducible refine Kd.C_drewN ?_ _) | (with_reducible refine Kd.C_drew ?_)))
        (case side2 => exact (Kd.R_reads' HO413.out).2.1)
        (case side3 => repeat (first | exact (Kd.R_reads' HO416.out).2.2 | (with_reducible refine Kd.C_alloc ?_ _) | (with_reducible refine Kd.C_drewN ?_ _) | (with_reducible refine Kd.C_drew ?_)))
        (case side4 => exact (Kd.R_reads' HO416.out).2.1)
        rintro e w18 ⟨v418, rfl, ho0, hb⟩
        refine ⟨_, rfl, ?_⟩
        have n0_ := Aside0.mk (Kd.R_elder' (by (with_reducible repeat (first | apply Kd.R_alloc | apply Kd.R_drewN | apply Kd.R_drew)); exact HO413.out) (Kd.R_base ho0) hb)
        have n1_ := Aside0.mk (Kd.R_elder' (by (with_reducible repeat (first | apply Kd.R_alloc | apply Kd.R_drewN | apply Kd.R_drew)); exact HO416.out) (Kd.R_base ho0) hb)
        have n2_ := Aside0.mk (Kd.R_lower (Kd.R_new' (Kd.R_new' ho0 (Kd.R_lt (by (with_reducible repeat (first | apply Kd.R_alloc | apply Kd.R_drewN | apply Kd.R_drew)); exact HO413.out))) (Kd.R_lt (by (with_reducible repeat (first | apply Kd.R_alloc | apply Kd.R_drewN | apply Kd.R_drew)); exact HO416.out))) (below_size (by repeat (first | (with_reducible first | exact HB.out | apply below_alloc | apply pw_below_drewN | apply below_drew1 | refine below_set ?_ GE409.out | refine below_set ?_ GE410.out) | exact HB.out))))
        have n3_ := Aside0.mk (blk_below (g := gb409) (o := .cells #[.int .i64 a0_0, .int .u64 a0_1] 31 (0, 0)) (by (with_reducible repeat (first | refine blk_drewN ?_ _ | refine blk_drew ?_ | refine blk_alloc ?_ _)); exact BK409.out) hb)
        have n4_ := Aside0.mk (blk_below (g := gb410) (o := .cells #[.string a1_0, .int .i64 a1_1] 35 (0, 0)) (by (with_reducible repeat (first | refine blk_drewN ?_ _ | refine blk_drew ?_ | refine blk_alloc ?_ _)); exact BK410.out) hb)
        have n5_ := Aside0.mk (below_step (by repeat (first | (with_reducible first | exact HB.out | apply below_alloc | apply pw_below_drewN | apply below_drew1 | refine below_set ?_ GE409.out | refine below_set ?_ GE410.out) | exact HB.out)) hb)
        clear HO413
        clear HO416
        clear BK409
        clear BK410
        clear HB
        have HO413 := n0_
        have HO416 := n1_
        have HO419 := n2_
        have BK409 := n3_
        have BK410 := n4_
        have HB := n5_
        clear n0_ n1_ n2_ n3_ n4_ n5_
        (try clear hb)
        (try clear hb2)
        (try clear hk)
        (try clear hi)
        (try clear ho0)
        obtain ⟨Ao19, co19, eo19⟩ := Kd.R_slice HO419.out
        (first | subst eo19 | (injection eo19 with f1_ f2_ f3_; have f4_ := f1_.symm; have f5_ := f3_.symm; clear f1_ f2_ f3_; subst f4_; subst f5_))
        refine hK.out _ _ ⟨(blk_cell BK409.out 0).trans rfl, (blk_cell BK409.out 1).trans rfl, (blk_cell BK410.out 0).trans rfl, (blk_cell BK410.out 1).trans rfl⟩ (fun hHeld => ?_)
        clear hK K
        refine norm_ (a' := ?_) ?_ ?_
        rotate_left
        · show Act.put _ (some 20) _ = _
          simp only [Act.put, List.setIfInBounds_toArray, List.set_cons_zero, List.set_cons_succ, i64_w, i32_w]
          rfl
        refine one_ (i := 10) (N := some 21) #[true, true, true, true, true, true, true, true, true, true, true, false] rfl rfl (one_of HT_.out (by kernel_rfl)) (by decide) (fun K hK => ?_)
        refine goes_ Tryd.func27 (by kernel_rfl) rfl #[.agg #[.int .i64 a0_0, .int .u64 a0_1], .agg #[.string a1_0, .int .i64 a1_1], .slice Ao19 t417.length co19] (by rfl) rfl rfl (by (try simp only [List.map_toArray, List.map_cons, List.map_nil]); first | done | rfl | (simp only [List.length_drop, List.length_take]; rfl)) ?_
        with_reducible refine (spec_Form_against.calls k a0_0 a0_1 a1_0 a1_1 _ _ t417 t420 _ ?side1 ?side2 A11.out).mono ?_
        (case side1 => repeat (first | exact (Kd.R_reads' HO419.out).2.2 | (with_reducible refine Kd.C_alloc ?_ _) | (with_reducible refine Kd.C_drewN ?_ _) | (with_reducible refine Kd.C_drew ?_)))
        (case side2 => exact (Kd.R_reads' HO419.out).2.1)
        rintro e w20 ⟨rfl, hb⟩
        refine ⟨_, rfl, ?_⟩
        have n0_ := Aside0.mk (Kd.R_below (by (with_reducible repeat (first | apply Kd.R_alloc | apply Kd.R_drewN | apply Kd.R_drew)); exact HO413.out) hb)
        have n1_ := Aside0.mk (Kd.R_below (by (with_reducible repeat (first | apply Kd.R_alloc | apply Kd.R_drewN | apply Kd.R_drew)); exact HO416.out) hb)
        have n2_ := Aside0.mk (Kd.R_below (by (with_reducible repeat (first | apply Kd.R_alloc | apply Kd.R_drewN | apply Kd.R_drew)); exact HO419.out) hb)
        have n3_ := Aside0.mk (blk_below (g := gb409) (o := .cells #[.int .i64 a0_0, .int .u64 a0_1] 31 (0, 0)) (by (with_reducible repeat (first | refine blk_drewN ?_ _ | refine blk_drew ?_ | refine blk_alloc ?_ _)); exact BK409.out) hb)
        have n4_ := Aside0.mk (blk_below (g := gb410) (o := .cells #[.string a1_0, .int .i64 a1_1] 35 (0, 0)) (by (with_reducible repeat (first | refine blk_drewN ?_ _ | refine blk_drew ?_ | refine blk_alloc ?_ _)); exact BK410.out) hb)
        have n5_ := Aside0.mk (below_step (by repeat (first | (with_reducible first | exact HB.out | apply below_alloc | apply pw_below_drewN | apply below_drew1 | refine below_set ?_ GE409.out | refine below_set ?_ GE410.out) | exact HB.out)) hb)
        clear HO413
        clear HO416
        clear HO419
        clear BK409
        clear BK410
        clear HB
        have HO413 := n0_
        have HO416 := n1_
        have HO419 := n2_
        have BK409 := n3_
        have BK410 := n4_
        have HB := n5_
        clear n0_ n1_ n2_ n3_ n4_ n5_
        (try clear hb)
        (try clear hb2)
        (try clear hk)
        (try clear hi)
        refine hK.out _ _ ⟨(blk_cell BK409.out 0).trans rfl, (blk_cell BK409.out 1).trans rfl, (blk_cell BK410.out 0).trans rfl, (blk_cell BK410.out 1).trans rfl⟩ (fun hHeld => ?_)
        clear hK K
        refine norm_ (a' := ?_) ?_ ?_
        rotate_left
        · show Act.put _ (some 21) _ = _
          simp only [Act.put, List.setIfInBounds_toArray, List.set_cons_zero, List.set_cons_succ, i64_w, i32_w]
          rfl
        refine pure_ (i := 11) (N := some 7) (v := ?_) (a' := ?_) #[true, true, true, true, true, true, true, true, true, true, true, true] rfl rfl (any_of HT_.out (by kernel_rfl)) (fun _ _ _ h => h) (Or.inl ⟨by rfl, ?_⟩) ?_ ?_
        rotate_left
        · intro w'
          go_simp
          with_reducible rfl
        rotate_left
        · simp only [Act.put, List.setIfInBounds_toArray, List.set_cons_zero, List.set_cons_succ, i64_w, i32_w]
          rfl
        refine done_ (done_of HT_.out (by kernel_rfl)) ?_
        try go_wp2
        go_ret
        exact ⟨by first | rfl | (simp [errW_none, errW_some] <;> rfl) | (simp [*, errW_none, errW_some] <;> rfl), by repeat (first | (with_reducible first | exact HB.out | apply below_alloc | apply pw_below_drewN | apply below_drew1 | refine below_set ?_ GE409.out | refine below_set ?_ GE410.out) | exact HB.out)⟩
      · rw [if_neg c12] at H
        have c12b0 : decide (t420 < 0) = false := decide_eq_false c12
        clear c12
        by_cases c21 : t420 = 0
        · rw [if_pos c21] at H
          have c21b0 : (t420 == 0) = true := beq_iff_eq.mpr c21
          have c21b1 : (t420 != 0) = false := bne_eq_false_iff_eq.mpr c21
          clear c21
          by_cases c22 : (Int.tmod a2 2) = 1
          · rw [if_pos c22] at H
            have c22b0 : ((Int.tmod a2 2) == 1) = true := beq_iff_eq.mpr c22
            have c22b1 : ((Int.tmod a2 2) != 1) = false := bne_eq_false_iff_eq.mpr c22
            clear c22
            obtain rfl := Option.some.inj H
            try go_wp2
            have n0_ := Aside0.mk (blk_drew BK409.out)
            have n1_ := Aside0.mk (blk_drew BK410.out)
            have n2_ := Aside0.mk (below_drew1 HB.out)
            clear BK409
            clear BK410
            clear HB
            have BK409 := n0_
            have BK410 := n1_
            have HB := n2_
            clear n0_ n1_ n2_
            refine start_ (n := 12) (S := fun w' => w'.cell? ⟨gb409, 0, none⟩ = some (.int .i64 a0_0) ∧ w'.cell? ⟨gb409, 1, none⟩ = some (.int .u64 a0_1) ∧ w'.cell? ⟨gb410, 0, none⟩ = some (.string a1_0) ∧ w'.cell? ⟨gb410, 1, none⟩ = some (.int .i64 a1_1)) (ds := []) #[false, false, false, false, false, false, false, false, false, false, false, false] (by kernel_rfl) rfl rfl ⟨(blk_cell BK409.out 0).trans rfl, (blk_cell BK409.out 1).trans rfl, (blk_cell BK410.out 0).trans rfl, (blk_cell BK410.out 1).trans rfl⟩ (fun hHeld => ?_); refine with_tabW spec_Form_reads.tab2 spec_Form_reads.bits2 (fun HT_ HW_ => ?_)
            generalize w6.drew = w23 at BK409 BK410 HB hHeld ⊢
            refine pure_ (i := 3) (N := some 14) (v := ?_) (a' := ?_) #[false, false, false, true, false, false, false, false, false, false, false, false] rfl rfl (any_of HT_.out (by kernel_rfl)) (fun _ _ _ h => h) (Or.inl ⟨by rfl, ?_⟩) ?_ ?_
            rotate_left
            · intro w'
              go_simp
              with_reducible rfl
            rotate_left
            · simp only [Act.put, List.setIfInBounds_toArray, List.set_cons_zero, List.set_cons_succ, i64_w, i32_w]
              rfl
            refine pure_ (i := 4) (N := some 15) (v := ?_) (a' := ?_) #[false, false, false, true, true, false, false, false, false, false, false, false] rfl rfl (any_of HT_.out (by kernel_rfl)) (fun _ _ _ h => h) (Or.inl ⟨by rfl, ?_⟩) ?_ ?_
            rotate_left
            · intro w'
              go_simp
              with_reducible rfl
            rotate_left
            · simp only [Act.put, List.setIfInBounds_toArray, List.set_cons_zero, List.set_cons_succ, i64_w, i32_w]
              rfl
            refine pure_ (i := 7) (N := some 18) (v := ?_) (a' := ?_) #[false, false, false, true, true, false, false, true, false, false, false, false] rfl rfl (any_of HT_.out (by kernel_rfl)) (fun _ _ _ h => h) (Or.inl ⟨by rfl, ?_⟩) ?_ ?_
            rotate_left
            · intro w'
              go_simp
              with_reducible rfl
            rotate_left
            · simp only [Act.put, List.setIfInBounds_toArray, List.set_cons_zero, List.set_cons_succ, i64_w, i32_w]
              rfl
            refine take_ (i := 0) (N := some 11) (v := ?_) (a' := ?_) #[true, false, false, true, true, false, false, true, false, false, false, false] rfl rfl (take_ofW HT_.out HW_.out (by kernel_rfl)) (fun _ _ _ h => h) (Or.inl ⟨by rfl, ?_⟩) hHeld ?_ ?_
            rotate_left
            · rintro w' ⟨s0, s1, s2, s3⟩
              go_simp
              with_reducible rfl
            rotate_left
            · simp only [Act.put, List.setIfInBounds_toArray, List.set_cons_zero, List.set_cons_succ, i64_w, i32_w]
              rfl
            refine take_ (i := 1) (N := some 12) (v := ?_) (a' := ?_) #[true, true, false, true, true, false, false, true, false, false, false, false] rfl rfl (take_ofW HT_.out HW_.out (by kernel_rfl)) (fun _ _ _ h => h) (Or.inl ⟨by rfl, ?_⟩) hHeld ?_ ?_
            rotate_left
            · rintro w' ⟨s0, s1, s2, s3⟩
              go_simp
              with_reducible rfl
            rotate_left
            · simp only [Act.put, List.setIfInBounds_toArray, List.set_cons_zero, List.set_cons_succ, i64_w, i32_w]
              rfl
            refine take_ (i := 2) (N := some 13) (v := ?_) (a' := ?_) #[true, true, true, true, true, false, false, true, false, false, false, false] rfl rfl (take_ofW HT_.out HW_.out (by kernel_rfl)) (fun _ _ _ h => h) (Or.inl ⟨by rfl, ?_⟩) hHeld ?_ ?_
            rotate_left
            · rintro w' ⟨s0, s1, s2, s3⟩
              go_simp
              with_reducible rfl
            rotate_left
            · simp only [Act.put, List.setIfInBounds_toArray, List.set_cons_zero, List.set_cons_succ, i64_w, i32_w]
              rfl
            refine take_ (i := 6) (N := some 17) (v := ?_) (a' := ?_) #[true, true, true, true, true, false, true, true, false, false, false, false] rfl rfl (take_ofW HT_.out HW_.out (by kernel_rfl)) (fun _ _ _ h => h) (Or.inl ⟨by rfl, ?_⟩) hHeld ?_ ?_
            rotate_left
            · rintro w' ⟨s0, s1, s2, s3⟩
              go_simp
              with_reducible rfl
            rotate_left
            · simp only [Act.put, List.setIfInBounds_toArray, List.set_cons_zero, List.set_cons_succ, i64_w, i32_w]
              rfl
            refine one_ (i := 5) (N := some 16) #[true, true, true, true, true, true, true, true, false, false, false, false] rfl rfl (one_of HT_.out (by kernel_rfl)) (by decide) (fun K hK => ?_)
            refine goes_ Tryd.func29 (by kernel_rfl) rfl #[.agg #[.int .i64 a0_0, .int .u64 a0_1], .int .u64 (IntKind.u64.wrap (a2 - 1))] (by rfl) rfl rfl (by (try simp only [List.map_toArray, List.map_cons, List.map_nil]); first | done | rfl | (simp only [List.length_drop, List.length_take]; rfl)) ?_
            with_reducible refine (spec_Form_Times2.calls k a0_0 a0_1 (IntKind.u64.wrap (a2 - 1)) t411 _ A8.out).mono ?_
            rintro e w24 ⟨v412, rfl, ho0, hb⟩
            refine ⟨_, rfl, ?_⟩
            have n0_ := Aside0.mk (Kd.R_lower ho0 (below_size (by repeat (first | (with_reducible first | exact HB.out | apply below_alloc | apply pw_below_drewN | apply below_drew1 | refine below_set ?_ GE409.out | refine below_set ?_ GE410.out) | exact HB.out))))
            have n1_ := Aside0.mk (blk_below (g := gb409) (o := .cells #[.int .i64 a0_0, .int .u64 a0_1] 31 (0, 0)) (by (with_reducible repeat (first | refine blk_drewN ?_ _ | refine blk_drew ?_ | refine blk_alloc ?_ _)); exact BK409.out) hb)
            have n2_ := Aside0.mk (blk_below (g := gb410) (o := .cells #[.string a1_0, .int .i64 a1_1] 35 (0, 0)) (by (with_reducible repeat (first | refine blk_drewN ?_ _ | refine blk_drew ?_ | refine blk_alloc ?_ _)); exact BK410.out) hb)
            have n3_ := Aside0.mk (below_step (by repeat (first | (with_reducible first | exact HB.out | apply below_alloc | apply pw_below_drewN | apply below_drew1 | refine below_set ?_ GE409.out | refine below_set ?_ GE410.out) | exact HB.out)) hb)
            clear BK409
            clear BK410
            clear HB
            have HO413 := n0_
            have BK409 := n1_
            have BK410 := n2_
            have HB := n3_
            clear n0_ n1_ n2_ n3_
            (try clear hb)
            (try clear hb2)
            (try clear hk)
            (try clear hi)
            (try clear ho0)
            refine hK.out _ _ ⟨(blk_cell BK409.out 0).trans rfl, (blk_cell BK409.out 1).trans rfl, (blk_cell BK410.out 0).trans rfl, (blk_cell BK410.out 1).trans rfl⟩ (fun hHeld => ?_)
            clear hK K
            refine norm_ (a' := ?_) ?_ ?_
            rotate_left
            · show Act.put _ (some 16) _ = _
              simp only [Act.put, List.setIfInBounds_toArray, List.set_cons_zero, List.set_cons_succ, i64_w, i32_w]
              rfl
            refine one_ (i := 8) (N := some 19) #[true, true, true, true, true, true, true, true, true, false, false, false] rfl rfl (one_of HT_.out (by kernel_rfl)) (by decide) (fun K hK => ?_)
            refine goes_ Tryd.func29 (by kernel_rfl) rfl #[.agg #[.int .i64 a0_0, .int .u64 a0_1], .int .u64 a2] (by rfl) rfl rfl (by (try simp only [List.map_toArray, List.map_cons, List.map_nil]); first | done | rfl | (simp only [List.length_drop, List.length_take]; rfl)) ?_
            with_reducible refine (spec_Form_Times2.calls k a0_0 a0_1 a2 t414 _ A9.out).mono ?_
            rintro e w25 ⟨v415, rfl, ho0, hb⟩
            refine ⟨_, rfl, ?_⟩
            have n0_ := Aside0.mk (Kd.R_elder' (by (with_reducible repeat (first | apply Kd.R_alloc | apply Kd.R_drewN | apply Kd.R_drew)); exact HO413.out) (Kd.R_base ho0) hb)
            have n1_ := Aside0.mk (Kd.R_lower (Kd.R_new' ho0 (Kd.R_lt (by (with_reducible repeat (first | apply Kd.R_alloc | apply Kd.R_drewN | apply Kd.R_drew)); exact HO413.out))) (below_size (by repeat (first | (with_reducible first | exact HB.out | apply below_alloc | apply pw_below_drewN | apply below_drew1 | refine below_set ?_ GE409.out | refine below_set ?_ GE410.out) | exact HB.out))))
            have n2_ := Aside0.mk (blk_below (g := gb409) (o := .cells #[.int .i64 a0_0, .int .u64 a0_1] 31 (0, 0)) (by (with_reducible repeat (first | refine blk_drewN ?_ _ | refine blk_drew ?_ | refine blk_alloc ?_ _)); exact BK409.out) hb)
            have n3_ := Aside0.mk (blk_below (g := gb410) (o := .cells #[.string a1_0, .int .i64 a1_1] 35 (0, 0)) (by (with_reducible repeat (first | refine blk_drewN ?_ _ | refine blk_drew ?_ | refine blk_alloc ?_ _)); exact BK410.out) hb)
            have n4_ := Aside0.mk (below_step (by repeat (first | (with_reducible first | exact HB.out | apply below_alloc | apply pw_below_drewN | apply below_drew1 | refine below_set ?_ GE409.out | refine below_set ?_ GE410.out) | exact HB.out)) hb)
            clear HO413
            clear BK409
            clear BK410
            clear HB
            have HO413 := n0_
            have HO416 := n1_
            have BK409 := n2_
            have BK410 := n3_
            have HB := n4_
            clear n0_ n1_ n2_ n3_ n4_
            (try clear hb)
            (try clear hb2)
            (try clear hk)
            (try clear hi)
            (try clear ho0)
            obtain ⟨Ao26, co26, eo26⟩ := Kd.R_slice HO413.out
            (first | subst eo26 | (injection eo26 with f1_ f2_ f3_; have f4_ := f1_.symm; have f5_ := f3_.symm; clear f1_ f2_ f3_; subst f4_; subst f5_))
            obtain ⟨Ao27, co27, eo27⟩ := Kd.R_slice HO416.out
            (first | subst eo27 | (injection eo27 with f1_ f2_ f3_; have f4_ := f1_.symm; have f5_ := f3_.symm; clear f1_ f2_ f3_; subst f4_; subst f5_))
            refine hK.out _ _ ⟨(blk_cell BK409.out 0).trans rfl, (blk_cell BK409.out 1).trans rfl, (blk_cell BK410.out 0).trans rfl, (blk_cell BK410.out 1).trans rfl⟩ (fun hHeld => ?_)
            clear hK K
            refine norm_ (a' := ?_) ?_ ?_
            rotate_left
            · show Act.put _ (some 19) _ = _
              simp only [Act.put, List.setIfInBounds_toArray, List.set_cons_zero, List.set_cons_succ, i64_w, i32_w]
              rfl
            refine one_ (i := 9) (N := some 20) #[true, true, true, true, true, true, true, true, true, true, false, false] rfl rfl (one_of HT_.out (by kernel_rfl)) (by decide) (fun K hK => ?_)
            refine goes_ Tryd.func30 (by kernel_rfl) rfl #[.slice Ao26 t411.length co26, .slice Ao27 t414.length co27] (by rfl) rfl rfl (by (try simp only [List.map_toArray, List.map_cons, List.map_nil]); first | done | rfl | (simp only [List.length_drop, List.length_take]; rfl)) ?_
            with_reducible refine (spec_Add.calls k _ _ t411 _ _ t414 t417 _ ?side1 ?side2 ?side3 ?side4 A10.out).mono ?_
            (case side1 => repeat (first | exact (Kd.R_reads' HO413.out).2.2 | (with_reducible refine Kd.C_alloc ?_ _) | (with_reducible refine Kd.C_drewN ?_ _) | (with_reducible refine Kd.C_drew ?_)))
            (case side2 => exact (Kd.R_reads' HO413.out).2.1)
            (case side3 => repeat (first | exact (Kd.R_reads' HO416.out).2.2 | (with_reducible refine Kd.C_alloc ?_ _) | (with_reducible refine Kd.C_drewN ?_ _) | (with_reducible refine Kd.C_drew ?_)))
            (case side4 => exact (Kd.R_reads' HO416.out).2.1)
            rintro e w28 ⟨v418, rfl, ho0, hb⟩
            refine ⟨_, rfl, ?_⟩
            have n0_ := Aside0.mk (Kd.R_elder' (by (with_reducible repeat (first | apply Kd.R_alloc | apply Kd.R_drewN | apply Kd.R_drew)); exact HO413.out) (Kd.R_base ho0) hb)
            have n1_ := Aside0.mk (Kd.R_elder' (by (with_reducible repeat (first | apply Kd.R_alloc | apply Kd.R_drewN | apply Kd.R_drew)); exact HO416.out) (Kd.R_base ho0) hb)
            have n2_ := Aside0.mk (Kd.R_lower (Kd.R_new' (Kd.R_new' ho0 (Kd.R_lt (by (with_reducible repeat (first | apply Kd.R_alloc | apply Kd.R_drewN | apply Kd.R_drew)); exact HO413.out))) (Kd.R_lt (by (with_reducible repeat (first | apply Kd.R_alloc | apply Kd.R_drewN | apply Kd.R_drew)); exact HO416.out))) (below_size (by repeat (first | (with_reducible first | exact HB.out | apply below_alloc | apply pw_below_drewN | apply below_drew1 | refine below_set ?_ GE409.out | refine below_set ?_ GE410.out) | exact HB.out))))
            have n3_ := Aside0.mk (blk_below (g := gb409) (o := .cells #[.int .i64 a0_0, .int .u64 a0_1] 31 (0, 0)) (by (with_reducible repeat (first | refine blk_drewN ?_ _ | refine blk_drew ?_ | refine blk_alloc ?_ _)); exact BK409.out) hb)
            have n4_ := Aside0.mk (blk_below (g := gb410) (o := .cells #[.string a1_0, .int .i64 a1_1] 35 (0, 0)) (by (with_reducible repeat (first | refine blk_drewN ?_ _ | refine blk_drew ?_ | refine blk_alloc ?_ _)); exact BK410.out) hb)
            have n5_ := Aside0.mk (below_step (by repeat (first | (with_reducible first | exact HB.out | apply below_alloc | apply pw_below_drewN | apply below_drew1 | refine below_set ?_ GE409.out | refine below_set ?_ GE410.out) | exact HB.out)) hb)
            clear HO413
            clear HO416
            clear BK409
            clear BK410
            clear HB
            have HO413 := n0_
            have HO416 := n1_
            have HO419 := n2_
            have BK409 := n3_
            have BK410 := n4_
            have HB := n5_
            clear n0_ n1_ n2_ n3_ n4_ n5_
            (try clear hb)
            (try clear hb2)
            (try clear hk)
            (try clear hi)
            (try clear ho0)
            obtain ⟨Ao29, co29, eo29⟩ := Kd.R_slice HO419.out
            (first | subst eo29 | (injection eo29 with f1_ f2_ f3_; have f4_ := f1_.symm; have f5_ := f3_.symm; clear f1_ f2_ f3_; subst f4_; subst f5_))
            refine hK.out _ _ ⟨(blk_cell BK409.out 0).trans rfl, (blk_cell BK409.out 1).trans rfl, (blk_cell BK410.out 0).trans rfl, (blk_cell BK410.out 1).trans rfl⟩ (fun hHeld => ?_)
            clear hK K
            refine norm_ (a' := ?_) ?_ ?_
            rotate_left
            · show Act.put _ (some 20) _ = _
              simp only [Act.put, List.setIfInBounds_toArray, List.set_cons_zero, List.set_cons_succ, i64_w, i32_w]
              rfl
            refine one_ (i := 10) (N := some 21) #[true, true, true, true, true, true, true, true, true, true, true, false] rfl rfl (one_of HT_.out (by kernel_rfl)) (by decide) (fun K hK => ?_)
            refine goes_ Tryd.func27 (by kernel_rfl) rfl #[.agg #[.int .i64 a0_0, .int .u64 a0_1], .agg #[.string a1_0, .int .i64 a1_1], .slice Ao29 t417.length co29] (by rfl) rfl rfl (by (try simp only [List.map_toArray, List.map_cons, List.map_nil]); first | done | rfl | (simp only [List.length_drop, List.length_take]; rfl)) ?_
            with_reducible refine (spec_Form_against.calls k a0_0 a0_1 a1_0 a1_1 _ _ t417 t420 _ ?side1 ?side2 A11.out).mono ?_
            (case side1 => repeat (first | exact (Kd.R_reads' HO419.out).2.2 | (with_reducible refine Kd.C_alloc ?_ _) | (with_reducible refine Kd.C_drewN ?_ _) | (with_reducible refine Kd.C_drew ?_)))
            (case side2 => exact (Kd.R_reads' HO419.out).2.1)
            rintro e w30 ⟨rfl, hb⟩
            refine ⟨_, rfl, ?_⟩
            have n0_ := Aside0.mk (Kd.R_below (by (with_reducible repeat (first | apply Kd.R_alloc | apply Kd.R_drewN | apply Kd.R_drew)); exact HO413.out) hb)
            have n1_ := Aside0.mk (Kd.R_below (by (with_reducible repeat (first | apply Kd.R_alloc | apply Kd.R_drewN | apply Kd.R_drew)); exact HO416.out) hb)
            have n2_ := Aside0.mk (Kd.R_below (by (with_reducible repeat (first | apply Kd.R_alloc | apply Kd.R_drewN | apply Kd.R_drew)); exact HO419.out) hb)
            have n3_ := Aside0.mk (blk_below (g := gb409) (o := .cells #[.int .i64 a0_0, .int .u64 a0_1] 31 (0, 0)) (by (with_reducible repeat (first | refine blk_drewN ?_ _ | refine blk_drew ?_ | refine blk_alloc ?_ _)); exact BK409.out) hb)
            have n4_ := Aside0.mk (blk_below (g := gb410) (o := .cells #[.string a1_0, .int .i64 a1_1] 35 (0, 0)) (by (with_reducible repeat (first | refine blk_drewN ?_ _ | refine blk_drew ?_ | refine blk_alloc ?_ _)); exact BK410.out) hb)
            have n5_ := Aside0.mk (below_step (by repeat (first | (with_reducible first | exact HB.out | apply below_alloc | apply pw_below_drewN | apply below_drew1 | refine below_set ?_ GE409.out | refine below_set ?_ GE410.out) | exact HB.out)) hb)
            clear HO413
            clear HO416
            clear HO419
            clear BK409
            clear BK410
            clear HB
            have HO413 := n0_
            have HO416 := n1_
            have HO419 := n2_
            have BK409 := n3_
            have BK410 := n4_
            have HB := n5_
            clear n0_ n1_ n2_ n3_ n4_ n5_
            (try clear hb)
            (try clear hb2)
            (try clear hk)
            (try clear hi)
            refine hK.out _ _ ⟨(blk_cell BK409.out 0).trans rfl, (blk_cell BK409.out 1).trans rfl, (blk_cell BK410.out 0).trans rfl, (blk_cell BK410.out 1).trans rfl⟩ (fun hHeld => ?_)
            clear hK K
            refine norm_ (a' := ?_) ?_ ?_
            rotate_left
            · show Act.put _ (some 21) _ = _
              simp only [Act.put, List.setIfInBounds_toArray, List.set_cons_zero, List.set_cons_succ, i64_w, i32_w]
              rfl
            refine pure_ (i := 11) (N := some 7) (v := ?_) (a' := ?_) #[true, true, true, true, true, true, true, true, true, true, true, true] rfl rfl (any_of HT_.out (by kernel_rfl)) (fun _ _ _ h => h) (Or.inl ⟨by rfl, ?_⟩) ?_ ?_
            rotate_left
            · intro w'
              go_simp
              with_reducible rfl
            rotate_left
            · simp only [Act.put, List.setIfInBounds_toArray, List.set_cons_zero, List.set_cons_succ, i64_w, i32_w]
              rfl
            refine done_ (done_of HT_.out (by kernel_rfl)) ?_
            try go_wp2
            go_ret
            exact ⟨by first | rfl | (simp [errW_none, errW_some] <;> rfl) | (simp [*, errW_none, errW_some] <;> rfl), by repeat (first | (with_reducible first | exact HB.out | apply below_alloc | apply pw_below_drewN | apply below_drew1 | refine below_set ?_ GE409.out | refine below_set ?_ GE410.out) | exact HB.out)⟩
          · rw [if_neg c22] at H
            have c22b0 : ((Int.tmod a2 2) == 1) = false := beq_eq_false_iff_ne.mpr c22
            have c22b1 : ((Int.tmod a2 2) != 1) = true := bne_iff_ne.mpr c22
            have H' := Aside0.mk H
            clear H
            try go_wp2
            have n0_ := Aside0.mk (blk_drew BK409.out)
            have n1_ := Aside0.mk (blk_drew BK410.out)
            have n2_ := Aside0.mk (below_drew1 HB.out)
            clear BK409
            clear BK410
            clear HB
            have BK409 := n0_
            have BK410 := n1_
            have HB := n2_
            clear n0_ n1_ n2_
            refine start_ (n := 12) (S := fun w' => w'.cell? ⟨gb409, 0, none⟩ = some (.int .i64 a0_0) ∧ w'.cell? ⟨gb409, 1, none⟩ = some (.int .u64 a0_1) ∧ w'.cell? ⟨gb410, 0, none⟩ = some (.string a1_0) ∧ w'.cell? ⟨gb410, 1, none⟩ = some (.int .i64 a1_1)) (ds := []) #[false, false, false, false, false, false, false, false, false, false, false, false] (by kernel_rfl) rfl rfl ⟨(blk_cell BK409.out 0).trans rfl, (blk_cell BK409.out 1).trans rfl, (blk_cell BK410.out 0).trans rfl, (blk_cell BK410.out 1).trans rfl⟩ (fun hHeld => ?_); refine with_tabW spec_Form_reads.tab2 spec_Form_reads.bits2 (fun HT_ HW_ => ?_)
            generalize w6.drew = w31 at BK409 BK410 HB hHeld ⊢
            refine pure_ (i := 3) (N := some 14) (v := ?_) (a' := ?_) #[false, false, false, true, false, false, false, false, false, false, false, false] rfl rfl (any_of HT_.out (by kernel_rfl)) (fun _ _ _ h => h) (Or.inl ⟨by rfl, ?_⟩) ?_ ?_
            rotate_left
            · intro w'
              go_simp
              with_reducible rfl
            rotate_left
            · simp only [Act.put, List.setIfInBounds_toArray, List.set_cons_zero, List.set_cons_succ, i64_w, i32_w]
              rfl
            refine pure_ (i := 4) (N := some 15) (v := ?_) (a' := ?_) #[false, false, false, true, true, false, false, false, false, false, false, false] rfl rfl (any_of HT_.out (by kernel_rfl)) (fun _ _ _ h => h) (Or.inl ⟨by rfl, ?_⟩) ?_ ?_
            rotate_left
            · intro w'
              go_simp
              with_reducible rfl
            rotate_left
            · simp only [Act.put, List.setIfInBounds_toArray, List.set_cons_zero, List.set_cons_succ, i64_w, i32_w]
              rfl
            refine pure_ (i := 7) (N := some 18) (v := ?_) (a' := ?_) #[false, false, false, true, true, false, false, true, false, false, false, false] rfl rfl (any_of HT_.out (by kernel_rfl)) (fun _ _ _ h => h) (Or.inl ⟨by rfl, ?_⟩) ?_ ?_
            rotate_left
            · intro w'
              go_simp
              with_reducible rfl
            rotate_left
            · simp only [Act.put, List.setIfInBounds_toArray, List.set_cons_zero, List.set_cons_succ, i64_w, i32_w]
              rfl
            refine take_ (i := 0) (N := some 11) (v := ?_) (a' := ?_) #[true, false, false, true, true, false, false, true, false, false, false, false] rfl rfl (take_ofW HT_.out HW_.out (by kernel_rfl)) (fun _ _ _ h => h) (Or.inl ⟨by rfl, ?_⟩) hHeld ?_ ?_
            rotate_left
            · rintro w' ⟨s0, s1, s2, s3⟩
              go_simp
              with_reducible rfl
            rotate_left
            · simp only [Act.put, List.setIfInBounds_toArray, List.set_cons_zero, List.set_cons_succ, i64_w, i32_w]
              rfl
            refine take_ (i := 1) (N := some 12) (v := ?_) (a' := ?_) #[true, true, false, true, true, false, false, true, false, false, false, false] rfl rfl (take_ofW HT_.out HW_.out (by kernel_rfl)) (fun _ _ _ h => h) (Or.inl ⟨by rfl, ?_⟩) hHeld ?_ ?_
            rotate_left
            · rintro w' ⟨s0, s1, s2, s3⟩
              go_simp
              with_reducible rfl
            rotate_left
            · simp only [Act.put, List.setIfInBounds_toArray, List.set_cons_zero, List.set_cons_succ, i64_w, i32_w]
              rfl
            refine take_ (i := 2) (N := some 13) (v := ?_) (a' := ?_) #[true, true, true, true, true, false, false, true, false, false, false, false] rfl rfl (take_ofW HT_.out HW_.out (by kernel_rfl)) (fun _ _ _ h => h) (Or.inl ⟨by rfl, ?_⟩) hHeld ?_ ?_
            rotate_left
            · rintro w' ⟨s0, s1, s2, s3⟩
              go_simp
              with_reducible rfl
            rotate_left
            · simp only [Act.put, List.setIfInBounds_toArray, List.set_cons_zero, List.set_cons_succ, i64_w, i32_w]
              rfl
            refine take_ (i := 6) (N := some 17) (v := ?_) (a' := ?_) #[true, true, true, true, true, false, true, true, false, false, false, false] rfl rfl (take_ofW HT_.out HW_.out (by kernel_rfl)) (fun _ _ _ h => h) (Or.inl ⟨by rfl, ?_⟩) hHeld ?_ ?_
            rotate_left
            · rintro w' ⟨s0, s1, s2, s3⟩
              go_simp
              with_reducible rfl
            rotate_left
            · simp only [Act.put, List.setIfInBounds_toArray, List.set_cons_zero, List.set_cons_succ, i64_w, i32_w]
              rfl
            refine one_ (i := 5) (N := some 16) #[true, true, true, true, true, true, true, true, false, false, false, false] rfl rfl (one_of HT_.out (by kernel_rfl)) (by decide) (fun K hK => ?_)
            refine goes_ Tryd.func29 (by kernel_rfl) rfl #[.agg #[.int .i64 a0_0, .int .u64 a0_1], .int .u64 (IntKind.u64.wrap (a2 - 1))] (by rfl) rfl rfl (by (try simp only [List.map_toArray, List.map_cons, List.map_nil]); first | done | rfl | (simp only [List.length_drop, List.length_take]; rfl)) ?_
            with_reducible refine (spec_Form_Times2.calls k a0_0 a0_1 (IntKind.u64.wrap (a2 - 1)) t411 _ A8.out).mono ?_
            rintro e w32 ⟨v412, rfl, ho0, hb⟩
            refine ⟨_, rfl, ?_⟩
            have n0_ := Aside0.mk (Kd.R_lower ho0 (below_size (by repeat (first | (with_reducible first | exact HB.out | apply below_alloc | apply pw_below_drewN | apply below_drew1 | refine below_set ?_ GE409.out | refine below_set ?_ GE410.out) | exact HB.out))))
            have n1_ := Aside0.mk (blk_below (g := gb409) (o := .cells #[.int .i64 a0_0, .int .u64 a0_1] 31 (0, 0)) (by (with_reducible repeat (first | refine blk_drewN ?_ _ | refine blk_drew ?_ | refine blk_alloc ?_ _)); exact BK409.out) hb)
            have n2_ := Aside0.mk (blk_below (g := gb410) (o := .cells #[.string a1_0, .int .i64 a1_1] 35 (0, 0)) (by (with_reducible repeat (first | refine blk_drewN ?_ _ | refine blk_drew ?_ | refine blk_alloc ?_ _)); exact BK410.out) hb)
            have n3_ := Aside0.mk (below_step (by repeat (first | (with_reducible first | exact HB.out | apply below_alloc | apply pw_below_drewN | apply below_drew1 | refine below_set ?_ GE409.out | refine below_set ?_ GE410.out) | exact HB.out)) hb)
            clear BK409
            clear BK410
            clear HB
            have HO413 := n0_
            have BK409 := n1_
            have BK410 := n2_
            have HB := n3_
            clear n0_ n1_ n2_ n3_
            (try clear hb)
            (try clear hb2)
            (try clear hk)
            (try clear hi)
            (try clear ho0)
            refine hK.out _ _ ⟨(blk_cell BK409.out 0).trans rfl, (blk_cell BK409.out 1).trans rfl, (blk_cell BK410.out 0).trans rfl, (blk_cell BK410.out 1).trans rfl⟩ (fun hHeld => ?_)
            clear hK K
            refine norm_ (a' := ?_) ?_ ?_
            rotate_left
            · show Act.put _ (some 16) _ = _
              simp only [Act.put, List.setIfInBounds_toArray, List.set_cons_zero, List.set_cons_succ, i64_w, i32_w]
              rfl
            refine one_ (i := 8) (N := some 19) #[true, true, true, true, true, true, true, true, true, false, false, false] rfl rfl (one_of HT_.out (by kernel_rfl)) (by decide) (fun K hK => ?_)
            refine goes_ Tryd.func29 (by kernel_rfl) rfl #[.agg #[.int .i64 a0_0, .int .u64 a0_1], .int .u64 a2] (by rfl) rfl rfl (by (try simp only [List.map_toArray, List.map_cons, List.map_nil]); first | done | rfl | (simp only [List.length_drop, List.length_take]; rfl)) ?_
            with_reducible refine (spec_Form_Times2.calls k a0_0 a0_1 a2 t414 _ A9.out).mono ?_
            rintro e w33 ⟨v415, rfl, ho0, hb⟩
            refine ⟨_, rfl, ?_⟩
            have n0_ := Aside0.mk (Kd.R_elder' (by (with_reducible repeat (first | apply Kd.R_alloc | apply Kd.R_drewN | apply Kd.R_drew)); exact HO413.out) (Kd.R_base ho0) hb)
            have n1_ := Aside0.mk (Kd.R_lower (Kd.R_new' ho0 (Kd.R_lt (by (with_reducible repeat (first | apply Kd.R_alloc | apply Kd.R_drewN | apply Kd.R_drew)); exact HO413.out))) (below_size (by repeat (first | (with_reducible first | exact HB.out | apply below_alloc | apply pw_below_drewN | apply below_drew1 | refine below_set ?_ GE409.out | refine below_set ?_ GE410.out) | exact HB.out))))
            have n2_ := Aside0.mk (blk_below (g := gb409) (o := .cells #[.int .i64 a0_0, .int .u64 a0_1] 31 (0, 0)) (by (with_reducible repeat (first | refine blk_drewN ?_ _ | refine blk_drew ?_ | refine blk_alloc ?_ _)); exact BK409.out) hb)
            have n3_ := Aside0.mk (blk_below (g := gb410) (o := .cells #[.string a1_0, .int .i64 a1_1] 35 (0, 0)) (by (with_reducible repeat (first | refine blk_drewN ?_ _ | refine blk_drew ?_ | refine blk_alloc ?_ _)); exact BK410.out) hb)
            have n4_ := Aside0.mk (below_step (by repeat (first | (with_reducible first | exact HB.out | apply below_alloc | apply pw_below_drewN | apply below_drew1 | refine below_set ?_ GE409.out | refine below_set ?_ GE410.out) | exact HB.out)) hb)
            clear HO413
            clear BK409
            clear BK410
            clear HB
            have HO413 := n0_
            have HO416 := n1_
            have BK409 := n2_
            have BK410 := n3_
            have HB := n4_
            clear n0_ n1_ n2_ n3_ n4_
            (try clear hb)
            (try clear hb2)
            (try clear hk)
            (try clear hi)
            (try clear ho0)
            obtain ⟨Ao34, co34, eo34⟩ := Kd.R_slice HO413.out
            (first | subst eo34 | (injection eo34 with f1_ f2_ f3_; have f4_ := f1_.symm; have f5_ := f3_.symm; clear f1_ f2_ f3_; subst f4_; subst f5_))
            obtain ⟨Ao35, co35, eo35⟩ := Kd.R_slice HO416.out
            (first | subst eo35 | (injection eo35 with f1_ f2_ f3_; have f4_ := f1_.symm; have f5_ := f3_.symm; clear f1_ f2_ f3_; subst f4_; subst f5_))
            refine hK.out _ _ ⟨(blk_cell BK409.out 0).trans rfl, (blk_cell BK409.out 1).trans rfl, (blk_cell BK410.out 0).trans rfl, (blk_cell BK410.out 1).trans rfl⟩ (fun hHeld => ?_)
            clear hK K
            refine norm_ (a' := ?_) ?_ ?_
            rotate_left
            · show Act.put _ (some 19) _ = _
              simp only [Act.put, List.setIfInBounds_toArray, List.set_cons_zero, List.set_cons_succ, i64_w, i32_w]
              rfl
            refine one_ (i := 9) (N := some 20) #[true, true, true, true, true, true, true, true, true, true, false, false] rfl rfl (one_of HT_.out (by kernel_rfl)) (by decide) (fun K hK => ?_)
            refine goes_ Tryd.func30 (by kernel_rfl) rfl #[.slice Ao34 t411.length co34, .slice Ao35 t414.length co35] (by rfl) rfl rfl (by (try simp only [List.map_toArray, List.map_cons, List.map_nil]); first | done | rfl | (simp only [List.length_drop, List.length_take]; rfl)) ?_
            with_reducible refine (spec_Add.calls k _ _ t411 _ _ t414 t417 _ ?side1 ?side2 ?side3 ?side4 A10.out).mono ?_
            (case side1 => repeat (first | exact (Kd.R_reads' HO413.out).2.2 | (with_reducible refine Kd.C_alloc ?_ _) | (with_reducible refine Kd.C_drewN ?_ _) | (with_reducible refine Kd.C_drew ?_)))
            (case side2 => exact (Kd.R_reads' HO413.out).2.1)
            (case side3 => repeat (first | exact (Kd.R_reads' HO416.out).2.2 | (with_reducible refine Kd.C_alloc ?_ _) | (with_reducible refine Kd.C_drewN ?_ _) | (with_reducible refine Kd.C_drew ?_)))
            (case side4 => exact (Kd.R_reads' HO416.out).2.1)
            rintro e w36 ⟨v418, rfl, ho0, hb⟩
            refine ⟨_, rfl, ?_⟩
            have n0_ := Aside0.mk (Kd.R_elder' (by (with_reducible repeat (first | apply Kd.R_alloc | apply Kd.R_drewN | apply Kd.R_drew)); exact HO413.out) (Kd.R_base ho0) hb)
            have n1_ := Aside0.mk (Kd.R_elder' (by (with_reducible repeat (first | apply Kd.R_alloc | apply Kd.R_drewN | apply Kd.R_drew)); exact HO416.out) (Kd.R_base ho0) hb)
            have n2_ := Aside0.mk (Kd.R_lower (Kd.R_new' (Kd.R_new' ho0 (Kd.R_lt (by (with_reducible repeat (first | apply Kd.R_alloc | apply Kd.R_drewN | apply Kd.R_drew)); exact HO413.out))) (Kd.R_lt (by (with_reducible repeat (first | apply Kd.R_alloc | apply Kd.R_drewN | apply Kd.R_drew)); exact HO416.out))) (below_size (by repeat (first | (with_reducible first | exact HB.out | apply below_alloc | apply pw_below_drewN | apply below_drew1 | refine below_set ?_ GE409.out | refine below_set ?_ GE410.out) | exact HB.out))))
            have n3_ := Aside0.mk (blk_below (g := gb409) (o := .cells #[.int .i64 a0_0, .int .u64 a0_1] 31 (0, 0)) (by (with_reducible repeat (first | refine blk_drewN ?_ _ | refine blk_drew ?_ | refine blk_alloc ?_ _)); exact BK409.out) hb)
            have n4_ := Aside0.mk (blk_below (g := gb410) (o := .cells #[.string a1_0, .int .i64 a1_1] 35 (0, 0)) (by (with_reducible repeat (first | refine blk_drewN ?_ _ | refine blk_drew ?_ | refine blk_alloc ?_ _)); exact BK410.out) hb)
            have n5_ := Aside0.mk (below_step (by repeat (first | (with_reducible first | exact HB.out | apply below_alloc | apply pw_below_drewN | apply below_drew1 | refine below_set ?_ GE409.out | refine below_set ?_ GE410.out) | exact HB.out)) hb)
            clear HO413
            clear HO416
            clear BK409
            clear BK410
            clear HB
            have HO413 := n0_
            have HO416 := n1_
            have HO419 := n2_
            have BK409 := n3_
            have BK410 := n4_
            have HB := n5_
            clear n0_ n1_ n2_ n3_ n4_ n5_
            (try clear hb)
            (try clear hb2)
            (try clear hk)
            (try clear hi)
            (try clear ho0)
            obtain ⟨Ao37, co37, eo37⟩ := Kd.R_slice HO419.out
            (first | subst eo37 | (injection eo37 with f1_ f2_ f3_; have f4_ := f1_.symm; have f5_ := f3_.symm; clear f1_ f2_ f3_; subst f4_; subst f5_))
            refine hK.out _ _ ⟨(blk_cell BK409.out 0).trans rfl, (blk_cell BK409.out 1).trans rfl, (blk_cell BK410.out 0).trans rfl, (blk_cell BK410.out 1).trans rfl⟩ (fun hHeld => ?_)
            clear hK K
            refine norm_ (a' := ?_) ?_ ?_
            rotate_left
            · show Act.put _ (some 20) _ = _
              simp only [Act.put, List.setIfInBounds_toArray, List.set_cons_zero, List.set_cons_succ, i64_w, i32_w]
              rfl
            refine one_ (i := 10) (N := some 21) #[true, true, true, true, true, true, true, true, true, true, true, false] rfl rfl (one_of HT_.out (by kernel_rfl)) (by decide) (fun K hK => ?_)
            refine goes_ Tryd.func27 (by kernel_rfl) rfl #[.agg #[.int .i64 a0_0, .int .u64 a0_1], .agg #[.string a1_0, .int .i64 a1_1], .slice Ao37 t417.length co37] (by rfl) rfl rfl (by (try simp only [List.map_toArray, List.map_cons, List.map_nil]); first | done | rfl | (simp only [List.length_drop, List.length_take]; rfl)) ?_
            with_reducible refine (spec_Form_against.calls k a0_0 a0_1 a1_0 a1_1 _ _ t417 t420 _ ?side1 ?side2 A11.out).mono ?_
            (case side1 => repeat (first | exact (Kd.R_reads' HO419.out).2.2 | (with_reducible refine Kd.C_alloc ?_ _) | (with_reducible refine Kd.C_drewN ?_ _) | (with_reducible refine Kd.C_drew ?_)))
            (case side2 => exact (Kd.R_reads' HO419.out).2.1)
            rintro e w38 ⟨rfl, hb⟩
            refine ⟨_, rfl, ?_⟩
            have n0_ := Aside0.mk (Kd.R_below (by (with_reducible repeat (first | apply Kd.R_alloc | apply Kd.R_drewN | apply Kd.R_drew)); exact HO413.out) hb)
            have n1_ := Aside0.mk (Kd.R_below (by (with_reducible repeat (first | apply Kd.R_alloc | apply Kd.R_drewN | apply Kd.R_drew)); exact HO416.out) hb)
            have n2_ := Aside0.mk (Kd.R_below (by (with_reducible repeat (first | apply Kd.R_alloc | apply Kd.R_drewN | apply Kd.R_drew)); exact HO419.out) hb)
            have n3_ := Aside0.mk (blk_below (g := gb409) (o := .cells #[.int .i64 a0_0, .int .u64 a0_1] 31 (0, 0)) (by (with_reducible repeat (first | refine blk_drewN ?_ _ | refine blk_drew ?_ | refine blk_alloc ?_ _)); exact BK409.out) hb)
            have n4_ := Aside0.mk (blk_below (g := gb410) (o := .cells #[.string a1_0, .int .i64 a1_1] 35 (0, 0)) (by (with_reducible repeat (first | refine blk_drewN ?_ _ | refine blk_drew ?_ | refine blk_alloc ?_ _)); exact BK410.out) hb)
            have n5_ := Aside0.mk (below_step (by repeat (first | (with_reducible first | exact HB.out | apply below_alloc | apply pw_below_drewN | apply below_drew1 | refine below_set ?_ GE409.out | refine below_set ?_ GE410.out) | exact HB.out)) hb)
            clear HO413
            clear HO416
            clear HO419
            clear BK409
            clear BK410
            clear HB
            have HO413 := n0_
            have HO416 := n1_
            have HO419 := n2_
            have BK409 := n3_
            have BK410 := n4_
            have HB := n5_
            clear n0_ n1_ n2_ n3_ n4_ n5_
            (try clear hb)
            (try clear hb2)
            (try clear hk)
            (try clear hi)
            refine hK.out _ _ ⟨(blk_cell BK409.out 0).trans rfl, (blk_cell BK409.out 1).trans rfl, (blk_cell BK410.out 0).trans rfl, (blk_cell BK410.out 1).trans rfl⟩ (fun hHeld => ?_)
            clear hK K
            refine norm_ (a' := ?_) ?_ ?_
            rotate_left
            · show Act.put _ (some 21) _ = _
              simp only [Act.put, List.setIfInBounds_toArray, List.set_cons_zero, List.set_cons_succ, i64_w, i32_w]
              rfl
            refine pure_ (i := 11) (N := some 7) (v := ?_) (a' := ?_) #[true, true, true, true, true, true, true, true, true, true, true, true] rfl rfl (any_of HT_.out (by kernel_rfl)) (fun _ _ _ h => h) (Or.inl ⟨by rfl, ?_⟩) ?_ ?_
            rotate_left
            · intro w'
              go_simp
              with_reducible rfl
            rotate_left
            · simp only [Act.put, List.setIfInBounds_toArray, List.set_cons_zero, List.set_cons_succ, i64_w, i32_w]
              rfl
            refine done_ (done_of HT_.out (by kernel_rfl)) ?_
            try go_wp2
            go_meet
            case rel => exact ⟨_, H', ⟨by first | omega | exact Nat.le_refl _⟩, ⟨by (with_reducible repeat (first | refine blk_drewN ?_ _ | refine blk_drew ?_ | refine blk_alloc ?_ _)); exact BK409.out⟩, ⟨by (with_reducible repeat (first | refine blk_drewN ?_ _ | refine blk_drew ?_ | refine blk_alloc ?_ _)); exact BK410.out⟩, ⟨by repeat (first | (with_reducible first | exact HB.out | apply below_alloc | apply pw_below_drewN | apply below_drew1 | refine below_set ?_ GE409.out | refine below_set ?_ GE410.out) | exact HB.out)⟩⟩
        · rw [if_neg c21] at H
          have c21b0 : (t420 == 0) = false := beq_eq_false_iff_ne.mpr c21
          have c21b1 : (t420 != 0) = true := bne_iff_ne.mpr c21
          have H' := Aside0.mk H
          clear H
          try go_wp2
          have n0_ := Aside0.mk (blk_drew BK409.out)
          have n1_ := Aside0.mk (blk_drew BK410.out)
          have n2_ := Aside0.mk (below_drew1 HB.out)
          clear BK409
          clear BK410
          clear HB
          have BK409 := n0_
          have BK410 := n1_
          have HB := n2_
          clear n0_ n1_ n2_
          refine start_ (n := 12) (S := fun w' => w'.cell? ⟨gb409, 0, none⟩ = some (.int .i64 a0_0) ∧ w'.cell? ⟨gb409, 1, none⟩ = some (.int .u64 a0_1) ∧ w'.cell? ⟨gb410, 0, none⟩ = some (.string a1_0) ∧ w'.cell? ⟨gb410, 1, none⟩ = some (.int .i64 a1_1)) (ds := []) #[false, false, false, false, false, false, false, false, false, false, false, false] (by kernel_rfl) rfl rfl ⟨(blk_cell BK409.out 0).trans rfl, (blk_cell BK409.out 1).trans rfl, (blk_cell BK410.out 0).trans rfl, (blk_cell BK410.out 1).trans rfl⟩ (fun hHeld => ?_); refine with_tabW spec_Form_reads.tab2 spec_Form_reads.bits2 (fun HT_ HW_ => ?_)
          generalize w6.drew = w39 at BK409 BK410 HB hHeld ⊢
          refine pure_ (i := 3) (N := some 14) (v := ?_) (a' := ?_) #[false, false, false, true, false, false, false, false, false, false, false, false] rfl rfl (any_of HT_.out (by kernel_rfl)) (fun _ _ _ h => h) (Or.inl ⟨by rfl, ?_⟩) ?_ ?_
          rotate_left
          · intro w'
            go_simp
            with_reducible rfl
          rotate_left
          · simp only [Act.put, List.setIfInBounds_toArray, List.set_cons_zero, List.set_cons_succ, i64_w, i32_w]
            rfl
          refine pure_ (i := 4) (N := some 15) (v := ?_) (a' := ?_) #[false, false, false, true, true, false, false, false, false, false, false, false] rfl rfl (any_of HT_.out (by kernel_rfl)) (fun _ _ _ h => h) (Or.inl ⟨by rfl, ?_⟩) ?_ ?_
          rotate_left
          · intro w'
            go_simp
            with_reducible rfl
          rotate_left
          · simp only [Act.put, List.setIfInBounds_toArray, List.set_cons_zero, List.set_cons_succ, i64_w, i32_w]
            rfl
          refine pure_ (i := 7) (N := some 18) (v := ?_) (a' := ?_) #[false, false, false, true, true, false, false, true, false, false, false, false] rfl rfl (any_of HT_.out (by kernel_rfl)) (fun _ _ _ h => h) (Or.inl ⟨by rfl, ?_⟩) ?_ ?_
          rotate_left
          · intro w'
            go_simp
            with_reducible rfl
          rotate_left
          · simp only [Act.put, List.setIfInBounds_toArray, List.set_cons_zero, List.set_cons_succ, i64_w, i32_w]
            rfl
          refine take_ (i := 0) (N := some 11) (v := ?_) (a' := ?_) #[true, false, false, true, true, false, false, true, false, false, false, false] rfl rfl (take_ofW HT_.out HW_.out (by kernel_rfl)) (fun _ _ _ h => h) (Or.inl ⟨by rfl, ?_⟩) hHeld ?_ ?_
          rotate_left
          · rintro w' ⟨s0, s1, s2, s3⟩
            go_simp
            with_reducible rfl
          rotate_left
          · simp only [Act.put, List.setIfInBounds_toArray, List.set_cons_zero, List.set_cons_succ, i64_w, i32_w]
            rfl
          refine take_ (i := 1) (N := some 12) (v := ?_) (a' := ?_) #[true, true, false, true, true, false, false, true, false, false, false, false] rfl rfl (take_ofW HT_.out HW_.out (by kernel_rfl)) (fun _ _ _ h => h) (Or.inl ⟨by rfl, ?_⟩) hHeld ?_ ?_
          rotate_left
          · rintro w' ⟨s0, s1, s2, s3⟩
            go_simp
            with_reducible rfl
          rotate_left
          · simp only [Act.put, List.setIfInBounds_toArray, List.set_cons_zero, List.set_cons_succ, i64_w, i32_w]
            rfl
          refine take_ (i := 2) (N := some 13) (v := ?_) (a' := ?_) #[true, true, true, true, true, false, false, true, false, false, false, false] rfl rfl (take_ofW HT_.out HW_.out (by kernel_rfl)) (fun _ _ _ h => h) (Or.inl ⟨by rfl, ?_⟩) hHeld ?_ ?_
          rotate_left
          · rintro w' ⟨s0, s1, s2, s3⟩
            go_simp
            with_reducible rfl
          rotate_left
          · simp only [Act.put, List.setIfInBounds_toArray, List.set_cons_zero, List.set_cons_succ, i64_w, i32_w]
            rfl
          refine take_ (i := 6) (N := some 17) (v := ?_) (a' := ?_) #[true, true, true, true, true, false, true, true, false, false, false, false] rfl rfl (take_ofW HT_.out HW_.out (by kernel_rfl)) (fun _ _ _ h => h) (Or.inl ⟨by rfl, ?_⟩) hHeld ?_ ?_
          rotate_left
          · rintro w' ⟨s0, s1, s2, s3⟩
            go_simp
            with_reducible rfl
          rotate_left
          · simp only [Act.put, List.setIfInBounds_toArray, List.set_cons_zero, List.set_cons_succ, i64_w, i32_w]
            rfl
          refine one_ (i := 5) (N := some 16) #[true, true, true, true, true, true, true, true, false, false, false, false] rfl rfl (one_of HT_.out (by kernel_rfl)) (by decide) (fun K hK => ?_)
          refine goes_ Tryd.func29 (by kernel_rfl) rfl #[.agg #[.int .i64 a0_0, .int .u64 a0_1], .int .u64 (IntKind.u64.wrap (a2 - 1))] (by rfl) rfl rfl (by (try simp only [List.map_toArray, List.map_cons, List.map_nil]); first | done | rfl | (simp only [List.length_drop, List.length_take]; rfl)) ?_
          with_reducible refine (spec_Form_Times2.calls k a0_0 a0_1 (IntKind.u64.wrap (a2 - 1)) t411 _ A8.out).mono ?_
          rintro e w40 ⟨v412, rfl, ho0, hb⟩
          refine ⟨_, rfl, ?_⟩
          have n0_ := Aside0.mk (Kd.R_lower ho0 (below_size (by repeat (first | (with_reducible first | exact HB.out | apply below_alloc | apply pw_below_drewN | apply below_drew1 | refine below_set ?_ GE409.out | refine below_set ?_ GE410.out) | exact HB.out))))
          have n1_ := Aside0.mk (blk_below (g := gb409) (o := .cells #[.int .i64 a0_0, .int .u64 a0_1] 31 (0, 0)) (by (with_reducible repeat (first | refine blk_drewN ?_ _ | refine blk_drew ?_ | refine blk_alloc ?_ _)); exact BK409.out) hb)
          have n2_ := Aside0.mk (blk_below (g := gb410) (o := .cells #[.string a1_0, .int .i64 a1_1] 35 (0, 0)) (by (with_reducible repeat (first | refine blk_drewN ?_ _ | refine blk_drew ?_ | refine blk_alloc ?_ _)); exact BK410.out) hb)
          have n3_ := Aside0.mk (below_step (by repeat (first | (with_reducible first | exact HB.out | apply below_alloc | apply pw_below_drewN | apply below_drew1 | refine below_set ?_ GE409.out | refine below_set ?_ GE410.out) | exact HB.out)) hb)
          clear BK409
          clear BK410
          clear HB
          have HO413 := n0_
          have BK409 := n1_
          have BK410 := n2_
          have HB := n3_
          clear n0_ n1_ n2_ n3_
          (try clear hb)
          (try clear hb2)
          (try clear hk)
          (try clear hi)
          (try clear ho0)
          refine hK.out _ _ ⟨(blk_cell BK409.out 0).trans rfl, (blk_cell BK409.out 1).trans rfl, (blk_cell BK410.out 0).trans rfl, (blk_cell BK410.out 1).trans rfl⟩ (fun hHeld => ?_)
          clear hK K
          refine norm_ (a' := ?_) ?_ ?_
          rotate_left
          · show Act.put _ (some 16) _ = _
            simp only [Act.put, List.setIfInBounds_toArray, List.set_cons_zero, List.set_cons_succ, i64_w, i32_w]
            rfl
          refine one_ (i := 8) (N := some 19) #[true, true, true, true, true, true, true, true, true, false, false, false] rfl rfl (one_of HT_.out (by kernel_rfl)) (by decide) (fun K hK => ?_)
          refine goes_ Tryd.func29 (by kernel_rfl) rfl #[.agg #[.int .i64 a0_0, .int .u64 a0_1], .int .u64 a2] (by rfl) rfl rfl (by (try simp only [List.map_toArray, List.map_cons, List.map_nil]); first | done | rfl | (simp only [List.length_drop, List.length_take]; rfl)) ?_
          with_reducible refine (spec_Form_Times2.calls k a0_0 a0_1 a2 t414 _ A9.out).mono ?_
          rintro e w41 ⟨v415, rfl, ho0, hb⟩
          refine ⟨_, rfl, ?_⟩
          have n0_ := Aside0.mk (Kd.R_elder' (by (with_reducible repeat (first | apply Kd.R_alloc | apply Kd.R_drewN | apply Kd.R_drew)); exact HO413.out) (Kd.R_base ho0) hb)
          have n1_ := Aside0.mk (Kd.R_lower (Kd.R_new' ho0 (Kd.R_lt (by (with_reducible repeat (first | apply Kd.R_alloc | apply Kd.R_drewN | apply Kd.R_drew)); exact HO413.out))) (below_size (by repeat (first | (with_reducible first | exact HB.out | apply below_alloc | apply pw_below_drewN | apply below_drew1 | refine below_set ?_ GE409.out | refine below_set ?_ GE410.out) | exact HB.out))))
          have n2_ := Aside0.mk (blk_below (g := gb409) (o := .cells #[.int .i64 a0_0, .int .u64 a0_1] 31 (0, 0)) (by (with_reducible repeat (first | refine blk_drewN ?_ _ | refine blk_drew ?_ | refine blk_alloc ?_ _)); exact BK409.out) hb)
          have n3_ := Aside0.mk (blk_below (g := gb410) (o := .cells #[.string a1_0, .int .i64 a1_1] 35 (0, 0)) (by (with_reducible repeat (first | refine blk_drewN ?_ _ | refine blk_drew ?_ | refine blk_alloc ?_ _)); exact BK410.out) hb)
          have n4_ := Aside0.mk (below_step (by repeat (first | (with_reducible first | exact HB.out | apply below_alloc | apply pw_below_drewN | apply below_drew1 | refine below_set ?_ GE409.out | refine below_set ?_ GE410.out) | exact HB.out)) hb)
          clear HO413
          clear BK409
          clear BK410
          clear HB
          have HO413 := n0_
          have HO416 := n1_
          have BK409 := n2_
          have BK410 := n3_
          have HB := n4_
          clear n0_ n1_ n2_ n3_ n4_
          (try clear hb)
          (try clear hb2)
          (try clear hk)
          (try clear hi)
          (try clear ho0)
          obtain ⟨Ao42, co42, eo42⟩ := Kd.R_slice HO413.out
          (first | subst eo42 | (injection eo42 with f1_ f2_ f3_; have f4_ := f1_.symm; have f5_ := f3_.symm; clear f1_ f2_ f3_; subst f4_; subst f5_))
          obtain ⟨Ao43, co43, eo43⟩ := Kd.R_slice HO416.out
          (first | subst eo43 | (injection eo43 with f1_ f2_ f3_; have f4_ := f1_.symm; have f5_ := f3_.symm; clear f1_ f2_ f3_; subst f4_; subst f5_))
          refine hK.out _ _ ⟨(blk_cell BK409.out 0).trans rfl, (blk_cell BK409.out 1).trans rfl, (blk_cell BK410.out 0).trans rfl, (blk_cell BK410.out 1).trans rfl⟩ (fun hHeld => ?_)
          clear hK K
          refine norm_ (a' := ?_) ?_ ?_
          rotate_left
          · show Act.put _ (some 19) _ = _
            simp only [Act.put, List.setIfInBounds_toArray, List.set_cons_zero, List.set_cons_succ, i64_w, i32_w]
            rfl
          refine one_ (i := 9) (N := some 20) #[true, true, true, true, true, true, true, true, true, true, false, false] rfl rfl (one_of HT_.out (by kernel_rfl)) (by decide) (fun K hK => ?_)
          refine goes_ Tryd.func30 (by kernel_rfl) rfl #[.slice Ao42 t411.length co42, .slice Ao43 t414.length co43] (by rfl) rfl rfl (by (try simp only [List.map_toArray, List.map_cons, List.map_nil]); first | done | rfl | (simp only [List.length_drop, List.length_take]; rfl)) ?_
          with_reducible refine (spec_Add.calls k _ _ t411 _ _ t414 t417 _ ?side1 ?side2 ?side3 ?side4 A10.out).mono ?_
          (case side1 => repeat (first | exact (Kd.R_reads' HO413.out).2.2 | (with_reducible refine Kd.C_alloc ?_ _) | (with_reducible refine Kd.C_drewN ?_ _) | (with_reducible refine Kd.C_drew ?_)))
          (case side2 => exact (Kd.R_reads' HO413.out).2.1)
          (case side3 => repeat (first | exact (Kd.R_reads' HO416.out).2.2 | (with_reducible refine Kd.C_alloc ?_ _) | (with_reducible refine Kd.C_drewN ?_ _) | (with_reducible refine Kd.C_drew ?_)))
          (case side4 => exact (Kd.R_reads' HO416.out).2.1)
          rintro e w44 ⟨v418, rfl, ho0, hb⟩
          refine ⟨_, rfl, ?_⟩
          have n0_ := Aside0.mk (Kd.R_elder' (by (with_reducible repeat (first | apply Kd.R_alloc | apply Kd.R_drewN | apply Kd.R_drew)); exact HO413.out) (Kd.R_base ho0) hb)
          have n1_ := Aside0.mk (Kd.R_elder' (by (with_reducible repeat (first | apply Kd.R_alloc | apply Kd.R_drewN | apply Kd.R_drew)); exact HO416.out) (Kd.R_base ho0) hb)
          have n2_ := Aside0.mk (Kd.R_lower (Kd.R_new' (Kd.R_new' ho0 (Kd.R_lt (by (with_reducible repeat (first | apply Kd.R_alloc | apply Kd.R_drewN | apply Kd.R_drew)); exact HO413.out))) (Kd.R_lt (by (with_reducible repeat (first | apply Kd.R_alloc | apply Kd.R_drewN | apply Kd.R_drew)); exact HO416.out))) (below_size (by repeat (first | (with_reducible first | exact HB.out | apply below_alloc | apply pw_below_drewN | apply below_drew1 | refine below_set ?_ GE409.out | refine below_set ?_ GE410.out) | exact HB.out))))
          have n3_ := Aside0.mk (blk_below (g := gb409) (o := .cells #[.int .i64 a0_0, .int .u64 a0_1] 31 (0, 0)) (by (with_reducible repeat (first | refine blk_drewN ?_ _ | refine blk_drew ?_ | refine blk_alloc ?_ _)); exact BK409.out) hb)
          have n4_ := Aside0.mk (blk_below (g := gb410) (o := .cells #[.string a1_0, .int .i64 a1_1] 35 (0, 0)) (by (with_reducible repeat (first | refine blk_drewN ?_ _ | refine blk_drew ?_ | refine blk_alloc ?_ _)); exact BK410.out) hb)
          have n5_ := Aside0.mk (below_step (by repeat (first | (with_reducible first | exact HB.out | apply below_alloc | apply pw_below_drewN | apply below_drew1 | refine below_set ?_ GE409.out | refine below_set ?_ GE410.out) | exact HB.out)) hb)
          clear HO413
          clear HO416
          clear BK409
          clear BK410
          clear HB
          have HO413 := n0_
          have HO416 := n1_
          have HO419 := n2_
          have BK409 := n3_
          have BK410 := n4_
          have HB := n5_
          clear n0_ n1_ n2_ n3_ n4_ n5_
          (try clear hb)
          (try clear hb2)
          (try clear hk)
          (try clear hi)
          (try clear ho0)
          obtain ⟨Ao45, co45, eo45⟩ := Kd.R_slice HO419.out
          (first | subst eo45 | (injection eo45 with f1_ f2_ f3_; have f4_ := f1_.symm; have f5_ := f3_.symm; clear f1_ f2_ f3_; subst f4_; subst f5_))
          refine hK.out _ _ ⟨(blk_cell BK409.out 0).trans rfl, (blk_cell BK409.out 1).trans rfl, (blk_cell BK410.out 0).trans rfl, (blk_cell BK410.out 1).trans rfl⟩ (fun hHeld => ?_)
          clear hK K
          refine norm_ (a' := ?_) ?_ ?_
          rotate_left
          · show Act.put _ (some 20) _ = _
            simp only [Act.put, List.setIfInBounds_toArray, List.set_cons_zero, List.set_cons_succ, i64_w, i32_w]
            rfl
          refine one_ (i := 10) (N := some 21) #[true, true, true, true, true, true, true, true, true, true, true, false] rfl rfl (one_of HT_.out (by kernel_rfl)) (by decide) (fun K hK => ?_)
          refine goes_ Tryd.func27 (by kernel_rfl) rfl #[.agg #[.int .i64 a0_0, .int .u64 a0_1], .agg #[.string a1_0, .int .i64 a1_1], .slice Ao45 t417.length co45] (by rfl) rfl rfl (by (try simp only [List.map_toArray, List.map_cons, List.map_nil]); first | done | rfl | (simp only [List.length_drop, List.length_take]; rfl)) ?_
          with_reducible refine (spec_Form_against.calls k a0_0 a0_1 a1_0 a1_1 _ _ t417 t420 _ ?side1 ?side2 A11.out).mono ?_
          (case side1 => repeat (first | exact (Kd.R_reads' HO419.out).2.2 | (with_reducible refine Kd.C_alloc ?_ _) | (with_reducible refine Kd.C_drewN ?_ _) | (with_reducible refine Kd.C_drew ?_)))
          (case side2 => exact (Kd.R_reads' HO419.out).2.1)
          rintro e w46 ⟨rfl, hb⟩
          refine ⟨_, rfl, ?_⟩
          have n0_ := Aside0.mk (Kd.R_below (by (with_reducible repeat (first | apply Kd.R_alloc | apply Kd.R_drewN | apply Kd.R_drew)); exact HO413.out) hb)
          have n1_ := Aside0.mk (Kd.R_below (by (with_reducible repeat (first | apply Kd.R_alloc | apply Kd.R_drewN | apply Kd.R_drew)); exact HO416.out) hb)
          have n2_ := Aside0.mk (Kd.R_below (by (with_reducible repeat (first | apply Kd.R_alloc | apply Kd.R_drewN | apply Kd.R_drew)); exact HO419.out) hb)
          have n3_ := Aside0.mk (blk_below (g := gb409) (o := .cells #[.int .i64 a0_0, .int .u64 a0_1] 31 (0, 0)) (by (with_reducible repeat (first | refine blk_drewN ?_ _ | refine blk_drew ?_ | refine blk_alloc ?_ _)); exact BK409.out) hb)
          have n4_ := Aside0.mk (blk_below (g := gb410) (o := .cells #[.string a1_0, .int .i64 a1_1] 35 (0, 0)) (by (with_reducible repeat (first | refine blk_drewN ?_ _ | refine blk_drew ?_ | refine blk_alloc ?_ _)); exact BK410.out) hb)
          have n5_ := Aside0.mk (below_step (by repeat (first | (with_reducible first | exact HB.out | apply below_alloc | apply pw_below_drewN | apply below_drew1 | refine below_set ?_ GE409.out | refine below_set ?_ GE410.out) | exact HB.out)) hb)
          clear HO413
          clear HO416
          clear HO419
          clear BK409
          clear BK410
          clear HB
          have HO413 := n0_
          have HO416 := n1_
          have HO419 := n2_
          have BK409 := n3_
          have BK410 := n4_
          have HB := n5_
          clear n0_ n1_ n2_ n3_ n4_ n5_
          (try clear hb)
          (try clear hb2)
          (try clear hk)
          (try clear hi)
          refine hK.out _ _ ⟨(blk_cell BK409.out 0).trans rfl, (blk_cell BK409.out 1).trans rfl, (blk_cell BK410.out 0).trans rfl, (blk_cell BK410.out 1).trans rfl⟩ (fun hHeld => ?_)
          clear hK K
          refine norm_ (a' := ?_) ?_ ?_
          rotate_left
          · show Act.put _ (some 21) _ = _
            simp only [Act.put, List.setIfInBounds_toArray, List.set_cons_zero, List.set_cons_succ, i64_w, i32_w]
            rfl
          refine pure_ (i := 11) (N := some 7) (v := ?_) (a' := ?_) #[true, true, true, true, true, true, true, true, true, true, true, true] rfl rfl (any_of HT_.out (by kernel_rfl)) (fun _ _ _ h => h) (Or.inl ⟨by rfl, ?_⟩) ?_ ?_
          rotate_left
          · intro w'
            go_simp
            with_reducible rfl
          rotate_left
          · simp only [Act.put, List.setIfInBounds_toArray, List.set_cons_zero, List.set_cons_succ, i64_w, i32_w]
            rfl
          refine done_ (done_of HT_.out (by kernel_rfl)) ?_
          try go_wp2
          go_meet
          case rel => exact ⟨_, H', ⟨by first | omega | exact Nat.le_refl _⟩, ⟨by (with_reducible repeat (first | refine blk_drewN ?_ _ | refine blk_drew ?_ | refine blk_alloc ?_ _)); exact BK409.out⟩, ⟨by (with_reducible repeat (first | refine blk_drewN ?_ _ | refine blk_drew ?_ | refine blk_alloc ?_ _)); exact BK410.out⟩, ⟨by repeat (first | (with_reducible first | exact HB.out | apply below_alloc | apply pw_below_drewN | apply below_drew1 | refine below_set ?_ GE409.out | refine below_set ?_ GE410.out) | exact HB.out)⟩⟩
    · rw [if_neg c7] at H
      have c7b0 : decide (0 < a2) = false := decide_eq_false c7
      clear c7
      (first | rw [c7b0] | (simp only [i64_w, i32_w]; rw [c7b0]) | skip)
      have H' := Aside0.mk H
      clear H
      go_wp2
      go_meet
      case rel => exact ⟨_, H', ⟨by first | omega | exact Nat.le_refl _⟩, ⟨by (with_reducible repeat (first | refine blk_drewN ?_ _ | refine blk_drew ?_ | refine blk_alloc ?_ _)); exact BK409.out⟩, ⟨by (with_reducible repeat (first | refine blk_drewN ?_ _ | refine blk_drew ?_ | refine blk_alloc ?_ _)); exact BK410.out⟩, ⟨by repeat (first | (with_reducible first | exact HB.out | apply below_alloc | apply pw_below_drewN | apply below_drew1 | refine below_set ?_ GE409.out | refine below_set ?_ GE410.out) | exact HB.out)⟩⟩
  case rest =>
    clear HC4
    try clear c2
    try clear p2
    try clear c3
    try clear c7
    try clear c7b0
    try clear c21
    try clear c21b0
    try clear c21b1
    try clear c22
    try clear c22b0
    try clear c22b1
    try clear c27
    try clear c29
    try clear c30
    obtain ⟨kq, HA, HJ3, BK409, BK410, HB⟩ := hcut
    cases kq with
    | zero => exact absurd HA.out (by simp [spec_Form_reads.j0])
    | succ kj3 =>
      have H := HA.out
      clear HA
      simp only [spec_Form_reads.j0] at H
      replace H := Option.bind_eq_some_iff.mp H
      obtain ⟨t421, A470, H⟩ := H
      replace H : ((spec_Form_Times2.f kj3 a0_0 a0_1 (IntKind.u64.wrap (a2 + 1))).bind fun t424 => ((spec_Add.f kj3 t421 t424).bind fun t427 => ((spec_Form_against.f kj3 a0_0 a0_1 a1_0 a1_1 t427).bind fun t430 => (if t430 < 0 then (some true) else (if t430 = 0 then (some ((Int.tmod a2 2) == 0)) else (some false)))))) = some r := H
      have A47 := Aside0.mk A470
      clear A470
      replace H := Option.bind_eq_some_iff.mp H
      obtain ⟨t424, A480, H⟩ := H
      replace H : ((spec_Add.f kj3 t421 t424).bind fun t427 => ((spec_Form_against.f kj3 a0_0 a0_1 a1_0 a1_1 t427).bind fun t430 => (if t430 < 0 then (some true) else (if t430 = 0 then (some ((Int.tmod a2 2) == 0)) else (some false))))) = some r := H
      have A48 := Aside0.mk A480
      clear A480
      replace H := Option.bind_eq_some_iff.mp H
      obtain ⟨t427, A490, H⟩ := H
      replace H : ((spec_Form_against.f kj3 a0_0 a0_1 a1_0 a1_1 t427).bind fun t430 => (if t430 < 0 then (some true) else (if t430 = 0 then (some ((Int.tmod a2 2) == 0)) else (some false)))) = some r := H
      have A49 := Aside0.mk A490
      clear A490
      replace H := Option.bind_eq_some_iff.mp H
      obtain ⟨t430, A500, H⟩ := H
      replace H : (if t430 < 0 then (some true) else (if t430 = 0 then (some ((Int.tmod a2 2) == 0)) else (some false))) = some r := H
      have A50 := Aside0.mk A500
      clear A500
      by_cases c51 : t430 < 0
      · rw [if_pos c51] at H
        have c51b0 : decide (t430 < 0) = true := decide_eq_true c51
        clear c51
        obtain rfl := Option.some.inj H
        try go_wp2
        have n0_ := Aside0.mk (blk_drew BK409.out)
        have n1_ := Aside0.mk (blk_drew BK410.out)
        have n2_ := Aside0.mk (below_drew1 HB.out)
        clear BK409
        clear BK410
        clear HB
        have BK409 := n0_
        have BK410 := n1_
        have HB := n2_
        clear n0_ n1_ n2_
        refine start_ (n := 12) (S := fun w' => w'.cell? ⟨gb409, 0, none⟩ = some (.int .i64 a0_0) ∧ w'.cell? ⟨gb409, 1, none⟩ = some (.int .u64 a0_1) ∧ w'.cell? ⟨gb410, 0, none⟩ = some (.string a1_0) ∧ w'.cell? ⟨gb410, 1, none⟩ = some (.int .i64 a1_1)) (ds := []) #[false, false, false, false, false, false, false, false, false, false, false, false] (by kernel_rfl) rfl rfl ⟨(blk_cell BK409.out 0).trans rfl, (blk_cell BK409.out 1).trans rfl, (blk_cell BK410.out 0).trans rfl, (blk_cell BK410.out 1).trans rfl⟩ (fun hHeld => ?_); refine with_tabW spec_Form_reads.tab5 spec_Form_reads.bits5 (fun HT_ HW_ => ?_)
        generalize wc.drew = w52 at BK409 BK410 HB hHeld ⊢
        refine pure_ (i := 3) (N := some 36) (v := ?_) (a' := ?_) #[false, false, false, true, false, false, false, false, false, false, false, false] rfl rfl (any_of HT_.out (by kernel_rfl)) (fun _ _ _ h => h) (Or.inl ⟨by rfl, ?_⟩) ?_ ?_
        rotate_left
        · intro w'
          go_simp
          with_reducible rfl
        rotate_left
        · simp only [Act.put, List.setIfInBounds_toArray, List.set_cons_zero, List.set_cons_succ, i64_w, i32_w]
          rfl
        refine pure_ (i := 6) (N := some 39) (v := ?_) (a' := ?_) #[false, false, false, true, false, false, true, false, false, false, false, false] rfl rfl (any_of HT_.out (by kernel_rfl)) (fun _ _ _ h => h) (Or.inl ⟨by rfl, ?_⟩) ?_ ?_
        rotate_left
        · intro w'
          go_simp
          with_reducible rfl
        rotate_left
        · simp only [Act.put, List.setIfInBounds_toArray, List.set_cons_zero, List.set_cons_succ, i64_w, i32_w]
          rfl
        refine pure_ (i := 7) (N := some 40) (v := ?_) (a' := ?_) #[false, false, false, true, false, false, true, true, false, false, false, false] rfl rfl (any_of HT_.out (by kernel_rfl)) (fun _ _ _ h => h) (Or.inl ⟨by rfl, ?_⟩) ?_ ?_
        rotate_left
        · intro w'
          go_simp
          with_reducible rfl
        rotate_left
        · simp only [Act.put, List.setIfInBounds_toArray, List.set_cons_zero, List.set_cons_succ, i64_w, i32_w]
          rfl
        refine take_ (i := 0) (N := some 33) (v := ?_) (a' := ?_) #[true, false, false, true, false, false, true, true, false, false, false, false] rfl rfl (take_ofW HT_.out HW_.out (by kernel_rfl)) (fun _ _ _ h => h) (Or.inl ⟨by rfl, ?_⟩) hHeld ?_ ?_
        rotate_left
        · rintro w' ⟨s0, s1, s2, s3⟩
          go_simp
          with_reducible rfl
        rotate_left
        · simp only [Act.put, List.setIfInBounds_toArray, List.set_cons_zero, List.set_cons_succ, i64_w, i32_w]
          rfl
        refine take_ (i := 1) (N := some 34) (v := ?_) (a' := ?_) #[true, true, false, true, false, false, true, true, false, false, false, false] rfl rfl (take_ofW HT_.out HW_.out (by kernel_rfl)) (fun _ _ _ h => h) (Or.inl ⟨by rfl, ?_⟩) hHeld ?_ ?_
        rotate_left
        · rintro w' ⟨s0, s1, s2, s3⟩
          go_simp
          with_reducible rfl
        rotate_left
        · simp only [Act.put, List.setIfInBounds_toArray, List.set_cons_zero, List.set_cons_succ, i64_w, i32_w]
          rfl
        refine take_ (i := 2) (N := some 35) (v := ?_) (a' := ?_) #[true, true, true, true, false, false, true, true, false, false, false, false] rfl rfl (take_ofW HT_.out HW_.out (by kernel_rfl)) (fun _ _ _ h => h) (Or.inl ⟨by rfl, ?_⟩) hHeld ?_ ?_
        rotate_left
        · rintro w' ⟨s0, s1, s2, s3⟩
          go_simp
          with_reducible rfl
        rotate_left
        · simp only [Act.put, List.setIfInBounds_toArray, List.set_cons_zero, List.set_cons_succ, i64_w, i32_w]
          rfl
        refine take_ (i := 5) (N := some 38) (v := ?_) (a' := ?_) #[true, true, true, true, false, true, true, true, false, false, false, false] rfl rfl (take_ofW HT_.out HW_.out (by kernel_rfl)) (fun _ _ _ h => h) (Or.inl ⟨by rfl, ?_⟩) hHeld ?_ ?_
        rotate_left
        · rintro w' ⟨s0, s1, s2, s3⟩
          go_simp
          with_reducible rfl
        rotate_left
        · simp only [Act.put, List.setIfInBounds_toArray, List.set_cons_zero, List.set_cons_succ, i64_w, i32_w]
          rfl
        refine one_ (i := 4) (N := some 37) #[true, true, true, true, true, true, true, true, false, false, false, false] rfl rfl (one_of HT_.out (by kernel_rfl)) (by decide) (fun K hK => ?_)
        refine goes_ Tryd.func29 (by kernel_rfl) rfl #[.agg #[.int .i64 a0_0, .int .u64 a0_1], .int .u64 a2] (by rfl) rfl rfl (by (try simp only [List.map_toArray, List.map_cons, List.map_nil]); first | done | rfl | (simp only [List.length_drop, List.length_take]; rfl)) ?_
        with_reducible refine (spec_Form_Times2.calls kj3 a0_0 a0_1 a2 t421 _ A47.out).mono ?_
        rintro e w53 ⟨v422, rfl, ho0, hb⟩
        refine ⟨_, rfl, ?_⟩
        have n0_ := Aside0.mk (Kd.R_lower ho0 (below_size (by repeat (first | (with_reducible first | exact HB.out | apply below_alloc | apply pw_below_drewN | apply below_drew1 | refine below_set ?_ GE409.out | refine below_set ?_ GE410.out) | exact HB.out))))
        have n1_ := Aside0.mk (blk_below (g := gb409) (o := .cells #[.int .i64 a0_0, .int .u64 a0_1] 31 (0, 0)) (by (with_reducible repeat (first | refine blk_drewN ?_ _ | refine blk_drew ?_ | refine blk_alloc ?_ _)); exact BK409.out) hb)
        have n2_ := Aside0.mk (blk_below (g := gb410) (o := .cells #[.string a1_0, .int .i64 a1_1] 35 (0, 0)) (by (with_reducible repeat (first | refine blk_drewN ?_ _ | refine blk_drew ?_ | refine blk_alloc ?_ _)); exact BK410.out) hb)
        have n3_ := Aside0.mk (below_step (by repeat (first | (with_reducible first | exact HB.out | apply below_alloc | apply pw_below_drewN | apply below_drew1 | refine below_set ?_ GE409.out | refine below_set ?_ GE410.out) | exact HB.out)) hb)
        clear BK409
        clear BK410
        clear HB
        have HO423 := n0_
        have BK409 := n1_
        have BK410 := n2_
        have HB := n3_
        clear n0_ n1_ n2_ n3_
        (try clear hb)
        (try clear hb2)
        (try clear hk)
        (try clear hi)
        (try clear ho0)
        refine hK.out _ _ ⟨(blk_cell BK409.out 0).trans rfl, (blk_cell BK409.out 1).trans rfl, (blk_cell BK410.out 0).trans rfl, (blk_cell BK410.out 1).trans rfl⟩ (fun hHeld => ?_)
        clear hK K
        refine norm_ (a' := ?_) ?_ ?_
        rotate_left
        · show Act.put _ (some 37) _ = _
          simp only [Act.put, List.setIfInBounds_toArray, List.set_cons_zero, List.set_cons_succ, i64_w, i32_w]
          rfl
        refine one_ (i := 8) (N := some 41) #[true, true, true, true, true, true, true, true, true, false, false, false] rfl rfl (one_of HT_.out (by kernel_rfl)) (by decide) (fun K hK => ?_)
        refine goes_ Tryd.func29 (by kernel_rfl) rfl #[.agg #[.int .i64 a0_0, .int .u64 a0_1], .int .u64 (IntKind.u64.wrap (a2 + 1))] (by rfl) rfl rfl (by (try simp only [List.map_toArray, List.map_cons, List.map_nil]); first | done | rfl | (simp only [List.length_drop, List.length_take]; rfl)) ?_
        with_reducible refine (spec_Form_Times2.calls kj3 a0_0 a0_1 (IntKind.u64.wrap (a2 + 1)) t424 _ A48.out).mono ?_
        rintro e w54 ⟨v425, rfl, ho0, hb⟩
        refine ⟨_, rfl, ?_⟩
        have n0_ := Aside0.mk (Kd.R_elder' (by (with_reducible repeat (first | apply Kd.R_alloc | apply Kd.R_drewN | apply Kd.R_drew)); exact HO423.out) (Kd.R_base ho0) hb)
        have n1_ := Aside0.mk (Kd.R_lower (Kd.R_new' ho0 (Kd.R_lt (by (with_reducible repeat (first | apply Kd.R_alloc | apply Kd.R_drewN | apply Kd.R_drew)); exact HO423.out))) (below_size (by repeat (first | (with_reducible first | exact HB.out | apply below_alloc | apply pw_below_drewN | apply below_drew1 | refine below_set ?_ GE409.out | refine below_set ?_ GE410.out) | exact HB.out))))
        have n2_ := Aside0.mk (blk_below (g := gb409) (o := .cells #[.int .i64 a0_0, .int .u64 a0_1] 31 (0, 0)) (by (with_reducible repeat (first | refine blk_drewN ?_ _ | refine blk_drew ?_ | refine blk_alloc ?_ _)); exact BK409.out) hb)
        have n3_ := Aside0.mk (blk_below (g := gb410) (o := .cells #[.string a1_0, .int .i64 a1_1] 35 (0, 0)) (by (with_reducible repeat (first | refine blk_drewN ?_ _ | refine blk_drew ?_ | refine blk_alloc ?_ _)); exact BK410.out) hb)
        have n4_ := Aside0.mk (below_step (by repeat (first | (with_reducible first | exact HB.out | apply below_alloc | apply pw_below_drewN | apply below_drew1 | refine below_set ?_ GE409.out | refine below_set ?_ GE410.out) | exact HB.out)) hb)
        clear HO423
        clear BK409
        clear BK410
        clear HB
        have HO423 := n0_
        have HO426 := n1_
        have BK409 := n2_
        have BK410 := n3_
        have HB := n4_
        clear n0_ n1_ n2_ n3_ n4_
        (try clear hb)
        (try clear hb2)
        (try clear hk)
        (try clear hi)
        (try clear ho0)
        obtain ⟨Ao55, co55, eo55⟩ := Kd.R_slice HO423.out
        (first | subst eo55 | (injection eo55 with f1_ f2_ f3_; have f4_ := f1_.symm; have f5_ := f3_.symm; clear f1_ f2_ f3_; subst f4_; subst f5_))
        obtain ⟨Ao56, co56, eo56⟩ := Kd.R_slice HO426.out
        (first | subst eo56 | (injection eo56 with f1_ f2_ f3_; have f4_ := f1_.symm; have f5_ := f3_.symm; clear f1_ f2_ f3_; subst f4_; subst f5_))
        refine hK.out _ _ ⟨(blk_cell BK409.out 0).trans rfl, (blk_cell BK409.out 1).trans rfl, (blk_cell BK410.out 0).trans rfl, (blk_cell BK410.out 1).trans rfl⟩ (fun hHeld => ?_)
        clear hK K
        refine norm_ (a' := ?_) ?_ ?_
        rotate_left
        · show Act.put _ (some 41) _ = _
          simp only [Act.put, List.setIfInBounds_toArray, List.set_cons_zero, List.set_cons_succ, i64_w, i32_w]
          rfl
        refine one_ (i := 9) (N := some 42) #[true, true, true, true, true, true, true, true, true, true, false, false] rfl rfl (one_of HT_.out (by kernel_rfl)) (by decide) (fun K hK => ?_)
        refine goes_ Tryd.func30 (by kernel_rfl) rfl #[.slice Ao55 t421.length co55, .slice Ao56 t424.length co56] (by rfl) rfl rfl (by (try simp only [List.map_toArray, List.map_cons, List.map_nil]); first | done | rfl | (simp only [List.length_drop, List.length_take]; rfl)) ?_
        with_reducible refine (spec_Add.calls kj3 _ _ t421 _ _ t424 t427 _ ?side1 ?side2 ?side3 ?side4 A49.out).mono ?_
        (case side1 => repeat (first | exact (Kd.R_reads' HO423.out).2.2 | (with_reducible refine Kd.C_alloc ?_ _) | (with_reducible refine Kd.C_drewN ?_ _) | (with_reducible refine Kd.C_drew ?_)))
        (case side2 => exact (Kd.R_reads' HO423.out).2.1)
        (case side3 => repeat (first | exact (Kd.R_reads' HO426.out).2.2 | (with_reducible refine Kd.C_alloc ?_ _) | (with_reducible refine Kd.C_drewN ?_ _) | (with_reducible refine Kd.C_drew ?_)))
        (case side4 => exact (Kd.R_reads' HO426.out).2.1)
        rintro e w57 ⟨v428, rfl, ho0, hb⟩
        refine ⟨_, rfl, ?_⟩
        have n0_ := Aside0.mk (Kd.R_elder' (by (with_reducible repeat (first | apply Kd.R_alloc | apply Kd.R_drewN | apply Kd.R_drew)); exact HO423.out) (Kd.R_base ho0) hb)
        have n1_ := Aside0.mk (Kd.R_elder' (by (with_reducible repeat (first | apply Kd.R_alloc | apply Kd.R_drewN | apply Kd.R_drew)); exact HO426.out) (Kd.R_base ho0) hb)
        have n2_ := Aside0.mk (Kd.R_lower (Kd.R_new' (Kd.R_new' ho0 (Kd.R_lt (by (with_reducible repeat (first | apply Kd.R_alloc | apply Kd.R_drewN | apply Kd.R_drew)); exact HO423.out))) (Kd.R_lt (by (with_reducible repeat (first | apply Kd.R_alloc | apply Kd.R_drewN | apply Kd.R_drew)); exact HO426.out))) (below_size (by repeat (first | (with_reducible first | exact HB.out | apply below_alloc | apply pw_below_drewN | apply below_drew1 | refine below_set ?_ GE409.out | refine below_set ?_ GE410.out) | exact HB.out))))
        have n3_ := Aside0.mk (blk_below (g := gb409) (o := .cells #[.int .i64 a0_0, .int .u64 a0_1] 31 (0, 0)) (by (with_reducible repeat (first | refine blk_drewN ?_ _ | refine blk_drew ?_ | refine blk_alloc ?_ _)); exact BK409.out) hb)
        have n4_ := Aside0.mk (blk_below (g := gb410) (o := .cells #[.string a1_0, .int .i64 a1_1] 35 (0, 0)) (by (with_reducible repeat (first | refine blk_drewN ?_ _ | refine blk_drew ?_ | refine blk_alloc ?_ _)); exact BK410.out) hb)
        have n5_ := Aside0.mk (below_step (by repeat (first | (with_reducible first | exact HB.out | apply below_alloc | apply pw_below_drewN | apply below_drew1 | refine below_set ?_ GE409.out | refine below_set ?_ GE410.out) | exact HB.out)) hb)
        clear HO423
        clear HO426
        clear BK409
        clear BK410
        clear HB
        have HO423 := n0_
        have HO426 := n1_
        have HO429 := n2_
        have BK409 := n3_
        have BK410 := n4_
        have HB := n5_
        clear n0_ n1_ n2_ n3_ n4_ n5_
        (try clear hb)
        (try clear hb2)
        (try clear hk)
        (try clear hi)
        (try clear ho0)
        obtain ⟨Ao58, co58, eo58⟩ := Kd.R_slice HO429.out
        (first | subst eo58 | (injection eo58 with f1_ f2_ f3_; have f4_ := f1_.symm; have f5_ := f3_.symm; clear f1_ f2_ f3_; subst f4_; subst f5_))
        refine hK.out _ _ ⟨(blk_cell BK409.out 0).trans rfl, (blk_cell BK409.out 1).trans rfl, (blk_cell BK410.out 0).trans rfl, (blk_cell BK410.out 1).trans rfl⟩ (fun hHeld => ?_)
        clear hK K
        refine norm_ (a' := ?_) ?_ ?_
        rotate_left
        · show Act.put _ (some 42) _ = _
          simp only [Act.put, List.setIfInBounds_toArray, List.set_cons_zero, List.set_cons_succ, i64_w, i32_w]
          rfl
        refine one_ (i := 10) (N := some 43) #[true, true, true, true, true, true, true, true, true, true, true, false] rfl rfl (one_of HT_.out (by kernel_rfl)) (by decide) (fun K hK => ?_)
        refine goes_ Tryd.func27 (by kernel_rfl) rfl #[.agg #[.int .i64 a0_0, .int .u64 a0_1], .agg #[.string a1_0, .int .i64 a1_1], .slice Ao58 t427.length co58] (by rfl) rfl rfl (by (try simp only [List.map_toArray, List.map_cons, List.map_nil]); first | done | rfl | (simp only [List.length_drop, List.length_take]; rfl)) ?_
        with_reducible refine (spec_Form_against.calls kj3 a0_0 a0_1 a1_0 a1_1 _ _ t427 t430 _ ?side1 ?side2 A50.out).mono ?_
        (case side1 => repeat (first | exact (Kd.R_reads' HO429.out).2.2 | (with_reducible refine Kd.C_alloc ?_ _) | (with_reducible refine Kd.C_drewN ?_ _) | (with_reducible refine Kd.C_drew ?_)))
        (case side2 => exact (Kd.R_reads' HO429.out).2.1)
        rintro e w59 ⟨rfl, hb⟩
        refine ⟨_, rfl, ?_⟩
        have n0_ := Aside0.mk (Kd.R_below (by (with_reducible repeat (first | apply Kd.R_alloc | apply Kd.R_drewN | apply Kd.R_drew)); exact HO423.out) hb)
        have n1_ := Aside0.mk (Kd.R_below (by (with_reducible repeat (first | apply Kd.R_alloc | apply Kd.R_drewN | apply Kd.R_drew)); exact HO426.out) hb)
        have n2_ := Aside0.mk (Kd.R_below (by (with_reducible repeat (first | apply Kd.R_alloc | apply Kd.R_drewN | apply Kd.R_drew)); exact HO429.out) hb)
        have n3_ := Aside0.mk (blk_below (g := gb409) (o := .cells #[.int .i64 a0_0, .int .u64 a0_1] 31 (0, 0)) (by (with_reducible repeat (first | refine blk_drewN ?_ _ | refine blk_drew ?_ | refine blk_alloc ?_ _)); exact BK409.out) hb)
        have n4_ := Aside0.mk (blk_below (g := gb410) (o := .cells #[.string a1_0, .int .i64 a1_1] 35 (0, 0)) (by (with_reducible repeat (first | refine blk_drewN ?_ _ | refine blk_drew ?_ | refine blk_alloc ?_ _)); exact BK410.out) hb)
        have n5_ := Aside0.mk (below_step (by repeat (first | (with_reducible first | exact HB.out | apply below_alloc | apply pw_below_drewN | apply below_drew1 | refine below_set ?_ GE409.out | refine below_set ?_ GE410.out) | exact HB.out)) hb)
        clear HO423
        clear HO426
        clear HO429
        clear BK409
        clear BK410
        clear HB
        have HO423 := n0_
        have HO426 := n1_
        have HO429 := n2_
        have BK409 := n3_
        have BK410 := n4_
        have HB := n5_
        clear n0_ n1_ n2_ n3_ n4_ n5_
        (try clear hb)
        (try clear hb2)
        (try clear hk)
        (try clear hi)
        refine hK.out _ _ ⟨(blk_cell BK409.out 0).trans rfl, (blk_cell BK409.out 1).trans rfl, (blk_cell BK410.out 0).trans rfl, (blk_cell BK410.out 1).trans rfl⟩ (fun hHeld => ?_)
        clear hK K
        refine norm_ (a' := ?_) ?_ ?_
        rotate_left
        · show Act.put _ (some 43) _ = _
          simp only [Act.put, List.setIfInBounds_toArray, List.set_cons_zero, List.set_cons_succ, i64_w, i32_w]
          rfl
        refine pure_ (i := 11) (N := some 8) (v := ?_) (a' := ?_) #[true, true, true, true, true, true, true, true, true, true, true, true] rfl rfl (any_of HT_.out (by kernel_rfl)) (fun _ _ _ h => h) (Or.inl ⟨by rfl, ?_⟩) ?_ ?_
        rotate_left
        · intro w'
          go_simp
          with_reducible rfl
        rotate_left
        · simp only [Act.put, List.setIfInBounds_toArray, List.set_cons_zero, List.set_cons_succ, i64_w, i32_w]
          rfl
        refine done_ (done_of HT_.out (by kernel_rfl)) ?_
        try go_wp2
        go_ret
        exact ⟨by first | rfl | (simp [errW_none, errW_some] <;> rfl) | (simp [*, errW_none, errW_some] <;> rfl), by repeat (first | (with_reducible first | exact HB.out | apply below_alloc | apply pw_below_drewN | apply below_drew1 | refine below_set ?_ GE409.out | refine below_set ?_ GE410.out) | exact HB.out)⟩
      · rw [if_neg c51] at H
        have c51b0 : decide (t430 < 0) = false := decide_eq_false c51
        clear c51
        by_cases c60 : t430 = 0
        · rw [if_pos c60] at H
          have c60b0 : (t430 == 0) = true := beq_iff_eq.mpr c60
          have c60b1 : (t430 != 0) = false := bne_eq_false_iff_eq.mpr c60
          clear c60
          obtain rfl := Option.some.inj H
          try go_wp2
          have n0_ := Aside0.mk (blk_drew BK409.out)
          have n1_ := Aside0.mk (blk_drew BK410.out)
          have n2_ := Aside0.mk (below_drew1 HB.out)
          clear BK409
          clear BK410
          clear HB
          have BK409 := n0_
          have BK410 := n1_
          have HB := n2_
          clear n0_ n1_ n2_
          refine start_ (n := 12) (S := fun w' => w'.cell? ⟨gb409, 0, none⟩ = some (.int .i64 a0_0) ∧ w'.cell? ⟨gb409, 1, none⟩ = some (.int .u64 a0_1) ∧ w'.cell? ⟨gb410, 0, none⟩ = some (.string a1_0) ∧ w'.cell? ⟨gb410, 1, none⟩ = some (.int .i64 a1_1)) (ds := []) #[false, false, false, false, false, false, false, false, false, false, false, false] (by kernel_rfl) rfl rfl ⟨(blk_cell BK409.out 0).trans rfl, (blk_cell BK409.out 1).trans rfl, (blk_cell BK410.out 0).trans rfl, (blk_cell BK410.out 1).trans rfl⟩ (fun hHeld => ?_); refine with_tabW spec_Form_reads.tab5 spec_Form_reads.bits5 (fun HT_ HW_ => ?_)
          generalize wc.drew = w61 at BK409 BK410 HB hHeld ⊢
          refine pure_ (i := 3) (N := some 36) (v := ?_) (a' := ?_) #[false, false, false, true, false, false, false, false, false, false, false, false] rfl rfl (any_of HT_.out (by kernel_rfl)) (fun _ _ _ h => h) (Or.inl ⟨by rfl, ?_⟩) ?_ ?_
          rotate_left
          · intro w'
            go_simp
            with_reducible rfl
          rotate_left
          · simp only [Act.put, List.setIfInBounds_toArray, List.set_cons_zero, List.set_cons_succ, i64_w, i32_w]
            rfl
          refine pure_ (i := 6) (N := some 39) (v := ?_) (a' := ?_) #[false, false, false, true, false, false, true, false, false, false, false, false] rfl rfl (any_of HT_.out (by kernel_rfl)) (fun _ _ _ h => h) (Or.inl ⟨by rfl, ?_⟩) ?_ ?_
          rotate_left
          · intro w'
            go_simp
            with_reducible rfl
          rotate_left
          · simp only [Act.put, List.setIfInBounds_toArray, List.set_cons_zero, List.set_cons_succ, i64_w, i32_w]
            rfl
          refine pure_ (i := 7) (N := some 40) (v := ?_) (a' := ?_) #[false, false, false, true, false, false, true, true, false, false, false, false] rfl rfl (any_of HT_.out (by kernel_rfl)) (fun _ _ _ h => h) (Or.inl ⟨by rfl, ?_⟩) ?_ ?_
          rotate_left
          · intro w'
            go_simp
            with_reducible rfl
          rotate_left
          · simp only [Act.put, List.setIfInBounds_toArray, List.set_cons_zero, List.set_cons_succ, i64_w, i32_w]
            rfl
          refine take_ (i := 0) (N := some 33) (v := ?_) (a' := ?_) #[true, false, false, true, false, false, true, true, false, false, false, false] rfl rfl (take_ofW HT_.out HW_.out (by kernel_rfl)) (fun _ _ _ h => h) (Or.inl ⟨by rfl, ?_⟩) hHeld ?_ ?_
          rotate_left
          · rintro w' ⟨s0, s1, s2, s3⟩
            go_simp
            with_reducible rfl
          rotate_left
          · simp only [Act.put, List.setIfInBounds_toArray, List.set_cons_zero, List.set_cons_succ, i64_w, i32_w]
            rfl
          refine take_ (i := 1) (N := some 34) (v := ?_) (a' := ?_) #[true, true, false, true, false, false, true, true, false, false, false, false] rfl rfl (take_ofW HT_.out HW_.out (by kernel_rfl)) (fun _ _ _ h => h) (Or.inl ⟨by rfl, ?_⟩) hHeld ?_ ?_
          rotate_left
          · rintro w' ⟨s0, s1, s2, s3⟩
            go_simp
            with_reducible rfl
          rotate_left
          · simp only [Act.put, List.setIfInBounds_toArray, List.set_cons_zero, List.set_cons_succ, i64_w, i32_w]
            rfl
          refine take_ (i := 2) (N := some 35) (v := ?_) (a' := ?_) #[true, true, true, true, false, false, true, true, false, false, false, false] rfl rfl (take_ofW HT_.out HW_.out (by kernel_rfl)) (fun _ _ _ h => h) (Or.inl ⟨by rfl, ?_⟩) hHeld ?_ ?_
          rotate_left
          · rintro w' ⟨s0, s1, s2, s3⟩
            go_simp
            with_reducible rfl
          rotate_left
          · simp only [Act.put, List.setIfInBounds_toArray, List.set_cons_zero, List.set_cons_succ, i64_w, i32_w]
            rfl
          refine take_ (i := 5) (N := some 38) (v := ?_) (a' := ?_) #[true, true, true, true, false, true, true, true, false, false, false, false] rfl rfl (take_ofW HT_.out HW_.out (by kernel_rfl)) (fun _ _ _ h => h) (Or.inl ⟨by rfl, ?_⟩) hHeld ?_ ?_
          rotate_left
          · rintro w' ⟨s0, s1, s2, s3⟩
            go_simp
            with_reducible rfl
          rotate_left
          · simp only [Act.put, List.setIfInBounds_toArray, List.set_cons_zero, List.set_cons_succ, i64_w, i32_w]
            rfl
          refine one_ (i := 4) (N := some 37) #[true, true, true, true, true, true, true, true, false, false, false, false] rfl rfl (one_of HT_.out (by kernel_rfl)) (by decide) (fun K hK => ?_)
          refine goes_ Tryd.func29 (by kernel_rfl) rfl #[.agg #[.int .i64 a0_0, .int .u64 a0_1], .int .u64 a2] (by rfl) rfl rfl (by (try simp only [List.map_toArray, List.map_cons, List.map_nil]); first | done | rfl | (simp only [List.length_drop, List.length_take]; rfl)) ?_
          with_reducible refine (spec_Form_Times2.calls kj3 a0_0 a0_1 a2 t421 _ A47.out).mono ?_
          rintro e w62 ⟨v422, rfl, ho0, hb⟩
          refine ⟨_, rfl, ?_⟩
          have n0_ := Aside0.mk (Kd.R_lower ho0 (below_size (by repeat (first | (with_reducible first | exact HB.out | apply below_alloc | apply pw_below_drewN | apply below_drew1 | refine below_set ?_ GE409.out | refine below_set ?_ GE410.out) | exact HB.out))))
          have n1_ := Aside0.mk (blk_below (g := gb409) (o := .cells #[.int .i64 a0_0, .int .u64 a0_1] 31 (0, 0)) (by (with_reducible repeat (first | refine blk_drewN ?_ _ | refine blk_drew ?_ | refine blk_alloc ?_ _)); exact BK409.out) hb)
          have n2_ := Aside0.mk (blk_below (g := gb410) (o := .cells #[.string a1_0, .int .i64 a1_1] 35 (0, 0)) (by (with_reducible repeat (first | refine blk_drewN ?_ _ | refine blk_drew ?_ | refine blk_alloc ?_ _)); exact BK410.out) hb)
          have n3_ := Aside0.mk (below_step (by repeat (first | (with_reducible first | exact HB.out | apply below_alloc | apply pw_below_drewN | apply below_drew1 | refine below_set ?_ GE409.out | refine below_set ?_ GE410.out) | exact HB.out)) hb)
          clear BK409
          clear BK410
          clear HB
          have HO423 := n0_
          have BK409 := n1_
          have BK410 := n2_
          have HB := n3_
          clear n0_ n1_ n2_ n3_
          (try clear hb)
          (try clear hb2)
          (try clear hk)
          (try clear hi)
          (try clear ho0)
          refine hK.out _ _ ⟨(blk_cell BK409.out 0).trans rfl, (blk_cell BK409.out 1).trans rfl, (blk_cell BK410.out 0).trans rfl, (blk_cell BK410.out 1).trans rfl⟩ (fun hHeld => ?_)
          clear hK K
          refine norm_ (a' := ?_) ?_ ?_
          rotate_left
          · show Act.put _ (some 37) _ = _
            simp only [Act.put, List.setIfInBounds_toArray, List.set_cons_zero, List.set_cons_succ, i64_w, i32_w]
            rfl
          refine one_ (i := 8) (N := some 41) #[true, true, true, true, true, true, true, true, true, false, false, false] rfl rfl (one_of HT_.out (by kernel_rfl)) (by decide) (fun K hK => ?_)
          refine goes_ Tryd.func29 (by kernel_rfl) rfl #[.agg #[.int .i64 a0_0, .int .u64 a0_1], .int .u64 (IntKind.u64.wrap (a2 + 1))] (by rfl) rfl rfl (by (try simp only [List.map_toArray, List.map_cons, List.map_nil]); first | done | rfl | (simp only [List.length_drop, List.length_take]; rfl)) ?_
          with_reducible refine (spec_Form_Times2.calls kj3 a0_0 a0_1 (IntKind.u64.wrap (a2 + 1)) t424 _ A48.out).mono ?_
          rintro e w63 ⟨v425, rfl, ho0, hb⟩
          refine ⟨_, rfl, ?_⟩
          have n0_ := Aside0.mk (Kd.R_elder' (by (with_reducible repeat (first | apply Kd.R_alloc | apply Kd.R_drewN | apply Kd.R_drew)); exact HO423.out) (Kd.R_base ho0) hb)
          have n1_ := Aside0.mk (Kd.R_lower (Kd.R_new' ho0 (Kd.R_lt (by (with_reducible repeat (first | apply Kd.R_alloc | apply Kd.R_drewN | apply Kd.R_drew)); exact HO423.out))) (below_size (by repeat (first | (with_reducible first | exact HB.out | apply below_alloc | apply pw_below_drewN | apply below_drew1 | refine below_set ?_ GE409.out | refine below_set ?_ GE410.out) | exact HB.out))))
          have n2_ := Aside0.mk (blk_below (g := gb409) (o := .cells #[.int .i64 a0_0, .int .u64 a0_1] 31 (0, 0)) (by (with_reducible repeat (first | refine blk_drewN ?_ _ | refine blk_drew ?_ | refine blk_alloc ?_ _)); exact BK409.out) hb)
          have n3_ := Aside0.mk (blk_below (g := gb410) (o := .cells #[.string a1_0, .int .i64 a1_1] 35 (0, 0)) (by (with_reducible repeat (first | refine blk_drewN ?_ _ | refine blk_drew ?_ | refine blk_alloc ?_ _)); exact BK410.out) hb)
          have n4_ := Aside0.mk (below_step (by repeat (first | (with_reducible first | exact HB.out | apply below_alloc | apply pw_below_drewN | apply below_drew1 | refine below_set ?_ GE409.out | refine below_set ?_ GE410.out) | exact HB.out)) hb)
          clear HO423
          clear BK409
          clear BK410
          clear HB
          have HO423 := n0_
          have HO426 := n1_
          have BK409 := n2_
          have BK410 := n3_
          have HB := n4_
          clear n0_ n1_ n2_ n3_ n4_
          (try clear hb)
          (try clear hb2)
          (try clear hk)
          (try clear hi)
          (try clear ho0)
          obtain ⟨Ao64, co64, eo64⟩ := Kd.R_slice HO423.out
          (first | subst eo64 | (injection eo64 with f1_ f2_ f3_; have f4_ := f1_.symm; have f5_ := f3_.symm; clear f1_ f2_ f3_; subst f4_; subst f5_))
          obtain ⟨Ao65, co65, eo65⟩ := Kd.R_slice HO426.out
          (first | subst eo65 | (injection eo65 with f1_ f2_ f3_; have f4_ := f1_.symm; have f5_ := f3_.symm; clear f1_ f2_ f3_; subst f4_; subst f5_))
          refine hK.out _ _ ⟨(blk_cell BK409.out 0).trans rfl, (blk_cell BK409.out 1).trans rfl, (blk_cell BK410.out 0).trans rfl, (blk_cell BK410.out 1).trans rfl⟩ (fun hHeld => ?_)
          clear hK K
          refine norm_ (a' := ?_) ?_ ?_
          rotate_left
          · show Act.put _ (some 41) _ = _
            simp only [Act.put, List.setIfInBounds_toArray, List.set_cons_zero, List.set_cons_succ, i64_w, i32_w]
            rfl
          refine one_ (i := 9) (N := some 42) #[true, true, true, true, true, true, true, true, true, true, false, false] rfl rfl (one_of HT_.out (by kernel_rfl)) (by decide) (fun K hK => ?_)
          refine goes_ Tryd.func30 (by kernel_rfl) rfl #[.slice Ao64 t421.length co64, .slice Ao65 t424.length co65] (by rfl) rfl rfl (by (try simp only [List.map_toArray, List.map_cons, List.map_nil]); first | done | rfl | (simp only [List.length_drop, List.length_take]; rfl)) ?_
          with_reducible refine (spec_Add.calls kj3 _ _ t421 _ _ t424 t427 _ ?side1 ?side2 ?side3 ?side4 A49.out).mono ?_
          (case side1 => repeat (first | exact (Kd.R_reads' HO423.out).2.2 | (with_reducible refine Kd.C_alloc ?_ _) | (with_reducible refine Kd.C_drewN ?_ _) | (with_reducible refine Kd.C_drew ?_)))
          (case side2 => exact (Kd.R_reads' HO423.out).2.1)
          (case side3 => repeat (first | exact (Kd.R_reads' HO426.out).2.2 | (with_reducible refine Kd.C_alloc ?_ _) | (with_reducible refine Kd.C_drewN ?_ _) | (with_reducible refine Kd.C_drew ?_)))
          (case side4 => exact (Kd.R_reads' HO426.out).2.1)
          rintro e w66 ⟨v428, rfl, ho0, hb⟩
          refine ⟨_, rfl, ?_⟩
          have n0_ := Aside0.mk (Kd.R_elder' (by (with_reducible repeat (first | apply Kd.R_alloc | apply Kd.R_drewN | apply Kd.R_drew)); exact HO423.out) (Kd.R_base ho0) hb)
          have n1_ := Aside0.mk (Kd.R_elder' (by (with_reducible repeat (first | apply Kd.R_alloc | apply Kd.R_drewN | apply Kd.R_drew)); exact HO426.out) (Kd.R_base ho0) hb)
          have n2_ := Aside0.mk (Kd.R_lower (Kd.R_new' (Kd.R_new' ho0 (Kd.R_lt (by (with_reducible repeat (first | apply Kd.R_alloc | apply Kd.R_drewN | apply Kd.R_drew)); exact HO423.out))) (Kd.R_lt (by (with_reducible repeat (first | apply Kd.R_alloc | apply Kd.R_drewN | apply Kd.R_drew)); exact HO426.out))) (below_size (by repeat (first | (with_reducible first | exact HB.out | apply below_alloc | apply pw_below_drewN | apply below_drew1 | refine below_set ?_ GE409.out | refine below_set ?_ GE410.out) | exact HB.out))))
          have n3_ := Aside0.mk (blk_below (g := gb409) (o := .cells #[.int .i64 a0_0, .int .u64 a0_1] 31 (0, 0)) (by (with_reducible repeat (first | refine blk_drewN ?_ _ | refine blk_drew ?_ | refine blk_alloc ?_ _)); exact BK409.out) hb)
          have n4_ := Aside0.mk (blk_below (g := gb410) (o := .cells #[.string a1_0, .int .i64 a1_1] 35 (0, 0)) (by (with_reducible repeat (first | refine blk_drewN ?_ _ | refine blk_drew ?_ | refine blk_alloc ?_ _)); exact BK410.out) hb)
          have n5_ := Aside0.mk (below_step (by repeat (first | (with_reducible first | exact HB.out | apply below_alloc | apply pw_below_drewN | apply below_drew1 | refine below_set ?_ GE409.out | refine below_set ?_ GE410.out) | exact HB.out)) hb)
          clear HO423
          clear HO426
          clear BK409
          clear BK410
          clear HB
          have HO423 := n0_
          have HO426 := n1_
          have HO429 := n2_
          have BK409 := n3_
          have BK410 := n4_
          have HB := n5_
          clear n0_ n1_ n2_ n3_ n4_ n5_
          (try clear hb)
          (try clear hb2)
          (try clear hk)
          (try clear hi)
          (try clear ho0)
          obtain ⟨Ao67, co67, eo67⟩ := Kd.R_slice HO429.out
          (first | subst eo67 | (injection eo67 with f1_ f2_ f3_; have f4_ := f1_.symm; have f5_ := f3_.symm; clear f1_ f2_ f3_; subst f4_; subst f5_))
          refine hK.out _ _ ⟨(blk_cell BK409.out 0).trans rfl, (blk_cell BK409.out 1).trans rfl, (blk_cell BK410.out 0).trans rfl, (blk_cell BK410.out 1).trans rfl⟩ (fun hHeld => ?_)
          clear hK K
          refine norm_ (a' := ?_) ?_ ?_
          rotate_left
          · show Act.put _ (some 42) _ = _
            simp only [Act.put, List.setIfInBounds_toArray, List.set_cons_zero, List.set_cons_succ, i64_w, i32_w]
            rfl
          refine one_ (i := 10) (N := some 43) #[true, true, true, true, true, true, true, true, true, true, true, false] rfl rfl (one_of HT_.out (by kernel_rfl)) (by decide) (fun K hK => ?_)
          refine goes_ Tryd.func27 (by kernel_rfl) rfl #[.agg #[.int .i64 a0_0, .int .u64 a0_1], .agg #[.string a1_0, .int .i64 a1_1], .slice Ao67 t427.length co67] (by rfl) rfl rfl (by (try simp only [List.map_toArray, List.map_cons, List.map_nil]); first | done | rfl | (simp only [List.length_drop, List.length_take]; rfl)) ?_
          with_reducible refine (spec_Form_against.calls kj3 a0_0 a0_1 a1_0 a1_1 _ _ t427 t430 _ ?side1 ?side2 A50.out).mono ?_
          (case side1 => repeat (first | exact (Kd.R_reads' HO429.out).2.2 | (with_reducible refine Kd.C_alloc ?_ _) | (with_reducible refine Kd.C_drewN ?_ _) | (with_reducible refine Kd.C_drew ?_)))
          (case side2 => exact (Kd.R_reads' HO429.out).2.1)
          rintro e w68 ⟨rfl, hb⟩
          refine ⟨_, rfl, ?_⟩
          have n0_ := Aside0.mk (Kd.R_below (by (with_reducible repeat (first | apply Kd.R_alloc | apply Kd.R_drewN | apply Kd.R_drew)); exact HO423.out) hb)
          have n1_ := Aside0.mk (Kd.R_below (by (with_reducible repeat (first | apply Kd.R_alloc | apply Kd.R_drewN | apply Kd.R_drew)); exact HO426.out) hb)
          have n2_ := Aside0.mk (Kd.R_below (by (with_reducible repeat (first | apply Kd.R_alloc | apply Kd.R_drewN | apply Kd.R_drew)); exact HO429.out) hb)
          have n3_ := Aside0.mk (blk_below (g := gb409) (o := .cells #[.int .i64 a0_0, .int .u64 a0_1] 31 (0, 0)) (by (with_reducible repeat (first | refine blk_drewN ?_ _ | refine blk_drew ?_ | refine blk_alloc ?_ _)); exact BK409.out) hb)
          have n4_ := Aside0.mk (blk_below (g := gb410) (o := .cells #[.string a1_0, .int .i64 a1_1] 35 (0, 0)) (by (with_reducible repeat (first | refine blk_drewN ?_ _ | refine blk_drew ?_ | refine blk_alloc ?_ _)); exact BK410.out) hb)
          have n5_ := Aside0.mk (below_step (by repeat (first | (with_reducible first | exact HB.out | apply below_alloc | apply pw_below_drewN | apply below_drew1 | refine below_set ?_ GE409.out | refine below_set ?_ GE410.out) | exact HB.out)) hb)
          clear HO423
          clear HO426
          clear HO429
          clear BK409
          clear BK410
          clear HB
          have HO423 := n0_
          have HO426 := n1_
          have HO429 := n2_
          have BK409 := n3_
          have BK410 := n4_
          have HB := n5_
          clear n0_ n1_ n2_ n3_ n4_ n5_
          (try clear hb)
          (try clear hb2)
          (try clear hk)
          (try clear hi)
          refine hK.out _ _ ⟨(blk_cell BK409.out 0).trans rfl, (blk_cell BK409.out 1).trans rfl, (blk_cell BK410.out 0).trans rfl, (blk_cell BK410.out 1).trans rfl⟩ (fun hHeld => ?_)
          clear hK K
          refine norm_ (a' := ?_) ?_ ?_
          rotate_left
          · show Act.put _ (some 43) _ = _
            simp only [Act.put, List.setIfInBounds_toArray, List.set_cons_zero, List.set_cons_succ, i64_w, i32_w]
            rfl
          refine pure_ (i := 11) (N := some 8) (v := ?_) (a' := ?_) #[true, true, true, true, true, true, true, true, true, true, true, true] rfl rfl (any_of HT_.out (by kernel_rfl)) (fun _ _ _ h => h) (Or.inl ⟨by rfl, ?_⟩) ?_ ?_
          rotate_left
          · intro w'
            go_simp
            with_reducible rfl
          rotate_left
          · simp only [Act.put, List.setIfInBounds_toArray, List.set_cons_zero, List.set_cons_succ, i64_w, i32_w]
            rfl
          refine done_ (done_of HT_.out (by kernel_rfl)) ?_
          try go_wp2
          go_ret
          exact ⟨by first | rfl | (simp [errW_none, errW_some] <;> rfl) | (simp [*, errW_none, errW_some] <;> rfl), by repeat (first | (with_reducible first | exact HB.out | apply below_alloc | apply pw_below_drewN | apply below_drew1 | refine below_set ?_ GE409.out | refine below_set ?_ GE410.out) | exact HB.out)⟩
        · rw [if_neg c60] at H
          have c60b0 : (t430 == 0) = false := beq_eq_false_iff_ne.mpr c60
          have c60b1 : (t430 != 0) = true := bne_iff_ne.mpr c60
          obtain rfl := Option.some.inj H
          try go_wp2
          have n0_ := Aside0.mk (blk_drew BK409.out)
          have n1_ := Aside0.mk (blk_drew BK410.out)
          have n2_ := Aside0.mk (below_drew1 HB.out)
          clear BK409
          clear BK410
          clear HB
          have BK409 := n0_
          have BK410 := n1_
          have HB := n2_
          clear n0_ n1_ n2_
          refine start_ (n := 12) (S := fun w' => w'.cell? ⟨gb409, 0, none⟩ = some (.int .i64 a0_0) ∧ w'.cell? ⟨gb409, 1, none⟩ = some (.int .u64 a0_1) ∧ w'.cell? ⟨gb410, 0, none⟩ = some (.string a1_0) ∧ w'.cell? ⟨gb410, 1, none⟩ = some (.int .i64 a1_1)) (ds := []) #[false, false, false, false, false, false, false, false, false, false, false, false] (by kernel_rfl) rfl rfl ⟨(blk_cell BK409.out 0).trans rfl, (blk_cell BK409.out 1).trans rfl, (blk_cell BK410.out 0).trans rfl, (blk_cell BK410.out 1).trans rfl⟩ (fun hHeld => ?_); refine with_tabW spec_Form_reads.tab5 spec_Form_reads.bits5 (fun HT_ HW_ => ?_)
          generalize wc.drew = w69 at BK409 BK410 HB hHeld ⊢
          refine pure_ (i := 3) (N := some 36) (v := ?_) (a' := ?_) #[false, false, false, true, false, false, false, false, false, false, false, false] rfl rfl (any_of HT_.out (by kernel_rfl)) (fun _ _ _ h => h) (Or.inl ⟨by rfl, ?_⟩) ?_ ?_
          rotate_left
          · intro w'
            go_simp
            with_reducible rfl
          rotate_left
          · simp only [Act.put, List.setIfInBounds_toArray, List.set_cons_zero, List.set_cons_succ, i64_w, i32_w]
            rfl
          refine pure_ (i := 6) (N := some 39) (v := ?_) (a' := ?_) #[false, false, false, true, false, false, true, false, false, false, false, false] rfl rfl (any_of HT_.out (by kernel_rfl)) (fun _ _ _ h => h) (Or.inl ⟨by rfl, ?_⟩) ?_ ?_
          rotate_left
          · intro w'
            go_simp
            with_reducible rfl
          rotate_left
          · simp only [Act.put, List.setIfInBounds_toArray, List.set_cons_zero, List.set_cons_succ, i64_w, i32_w]
            rfl
          refine pure_ (i := 7) (N := some 40) (v := ?_) (a' := ?_) #[false, false, false, true, false, false, true, true, false, false, false, false] rfl rfl (any_of HT_.out (by kernel_rfl)) (fun _ _ _ h => h) (Or.inl ⟨by rfl, ?_⟩) ?_ ?_
          rotate_left
          · intro w'
            go_simp
            with_reducible rfl
          rotate_left
          · simp only [Act.put, List.setIfInBounds_toArray, List.set_cons_zero, List.set_cons_succ, i64_w, i32_w]
            rfl
          refine take_ (i := 0) (N := some 33) (v := ?_) (a' := ?_) #[true, false, false, true, false, false, true, true, false, false, false, false] rfl rfl (take_ofW HT_.out HW_.out (by kernel_rfl)) (fun _ _ _ h => h) (Or.inl ⟨by rfl, ?_⟩) hHeld ?_ ?_
          rotate_left
          · rintro w' ⟨s0, s1, s2, s3⟩
            go_simp
            with_reducible rfl
          rotate_left
          · simp only [Act.put, List.setIfInBounds_toArray, List.set_cons_zero, List.set_cons_succ, i64_w, i32_w]
            rfl
          refine take_ (i := 1) (N := some 34) (v := ?_) (a' := ?_) #[true, true, false, true, false, false, true, true, false, false, false, false] rfl rfl (take_ofW HT_.out HW_.out (by kernel_rfl)) (fun _ _ _ h => h) (Or.inl ⟨by rfl, ?_⟩) hHeld ?_ ?_
          rotate_left
          · rintro w' ⟨s0, s1, s2, s3⟩
            go_simp
            with_reducible rfl
          rotate_left
          · simp only [Act.put, List.setIfInBounds_toArray, List.set_cons_zero, List.set_cons_succ, i64_w, i32_w]
            rfl
          refine take_ (i := 2) (N := some 35) (v := ?_) (a' := ?_) #[true, true, true, true, false, false, true, true, false, false, false, false] rfl rfl (take_ofW HT_.out HW_.out (by kernel_rfl)) (fun _ _ _ h => h) (Or.inl ⟨by rfl, ?_⟩) hHeld ?_ ?_
          rotate_left
          · rintro w' ⟨s0, s1, s2, s3⟩
            go_simp
            with_reducible rfl
          rotate_left
          · simp only [Act.put, List.setIfInBounds_toArray, List.set_cons_zero, List.set_cons_succ, i64_w, i32_w]
            rfl
          refine take_ (i := 5) (N := some 38) (v := ?_) (a' := ?_) #[true, true, true, true, false, true, true, true, false, false, false, false] rfl rfl (take_ofW HT_.out HW_.out (by kernel_rfl)) (fun _ _ _ h => h) (Or.inl ⟨by rfl, ?_⟩) hHeld ?_ ?_
          rotate_left
          · rintro w' ⟨s0, s1, s2, s3⟩
            go_simp
            with_reducible rfl
          rotate_left
          · simp only [Act.put, List.setIfInBounds_toArray, List.set_cons_zero, List.set_cons_succ, i64_w, i32_w]
            rfl
          refine one_ (i := 4) (N := some 37) #[true, true, true, true, true, true, true, true, false, false, false, false] rfl rfl (one_of HT_.out (by kernel_rfl)) (by decide) (fun K hK => ?_)
          refine goes_ Tryd.func29 (by kernel_rfl) rfl #[.agg #[.int .i64 a0_0, .int .u64 a0_1], .int .u64 a2] (by rfl) rfl rfl (by (try simp only [List.map_toArray, List.map_cons, List.map_nil]); first | done | rfl | (simp only [List.length_drop, List.length_take]; rfl)) ?_
          with_reducible refine (spec_Form_Times2.calls kj3 a0_0 a0_1 a2 t421 _ A47.out).mono ?_
          rintro e w70 ⟨v422, rfl, ho0, hb⟩
          refine ⟨_, rfl, ?_⟩
          have n0_ := Aside0.mk (Kd.R_lower ho0 (below_size (by repeat (first | (with_reducible first | exact HB.out | apply below_alloc | apply pw_below_drewN | apply below_drew1 | refine below_set ?_ GE409.out | refine below_set ?_ GE410.out) | exact HB.out))))
          have n1_ := Aside0.mk (blk_below (g := gb409) (o := .cells #[.int .i64 a0_0, .int .u64 a0_1] 31 (0, 0)) (by (with_reducible repeat (first | refine blk_drewN ?_ _ | refine blk_drew ?_ | refine blk_alloc ?_ _)); exact BK409.out) hb)
          have n2_ := Aside0.mk (blk_below (g := gb410) (o := .cells #[.string a1_0, .int .i64 a1_1] 35 (0, 0)) (by (with_reducible repeat (first | refine blk_drewN ?_ _ | refine blk_drew ?_ | refine blk_alloc ?_ _)); exact BK410.out) hb)
          have n3_ := Aside0.mk (below_step (by repeat (first | (with_reducible first | exact HB.out | apply below_alloc | apply pw_below_drewN | apply below_drew1 | refine below_set ?_ GE409.out | refine below_set ?_ GE410.out) | exact HB.out)) hb)
          clear BK409
          clear BK410
          clear HB
          have HO423 := n0_
          have BK409 := n1_
          have BK410 := n2_
          have HB := n3_
          clear n0_ n1_ n2_ n3_
          (try clear hb)
          (try clear hb2)
          (try clear hk)
          (try clear hi)
          (try clear ho0)
          refine hK.out _ _ ⟨(blk_cell BK409.out 0).trans rfl, (blk_cell BK409.out 1).trans rfl, (blk_cell BK410.out 0).trans rfl, (blk_cell BK410.out 1).trans rfl⟩ (fun hHeld => ?_)
          clear hK K
          refine norm_ (a' := ?_) ?_ ?_
          rotate_left
          · show Act.put _ (some 37) _ = _
            simp only [Act.put, List.setIfInBounds_toArray, List.set_cons_zero, List.set_cons_succ, i64_w, i32_w]
            rfl
          refine one_ (i := 8) (N := some 41) #[true, true, true, true, true, true, true, true, true, false, false, false] rfl rfl (one_of HT_.out (by kernel_rfl)) (by decide) (fun K hK => ?_)
          refine goes_ Tryd.func29 (by kernel_rfl) rfl #[.agg #[.int .i64 a0_0, .int .u64 a0_1], .int .u64 (IntKind.u64.wrap (a2 + 1))] (by rfl) rfl rfl (by (try simp only [List.map_toArray, List.map_cons, List.map_nil]); first | done | rfl | (simp only [List.length_drop, List.length_take]; rfl)) ?_
          with_reducible refine (spec_Form_Times2.calls kj3 a0_0 a0_1 (IntKind.u64.wrap (a2 + 1)) t424 _ A48.out).mono ?_
          rintro e w71 ⟨v425, rfl, ho0, hb⟩
          refine ⟨_, rfl, ?_⟩
          have n0_ := Aside0.mk (Kd.R_elder' (by (with_reducible repeat (first | apply Kd.R_alloc | apply Kd.R_drewN | apply Kd.R_drew)); exact HO423.out) (Kd.R_base ho0) hb)
          have n1_ := Aside0.mk (Kd.R_lower (Kd.R_new' ho0 (Kd.R_lt (by (with_reducible repeat (first | apply Kd.R_alloc | apply Kd.R_drewN | apply Kd.R_drew)); exact HO423.out))) (below_size (by repeat (first | (with_reducible first | exact HB.out | apply below_alloc | apply pw_below_drewN | apply below_drew1 | refine below_set ?_ GE409.out | refine below_set ?_ GE410.out) | exact HB.out))))
          have n2_ := Aside0.mk (blk_below (g := gb409) (o := .cells #[.int .i64 a0_0, .int .u64 a0_1] 31 (0, 0)) (by (with_reducible repeat (first | refine blk_drewN ?_ _ | refine blk_drew ?_ | refine blk_alloc ?_ _)); exact BK409.out) hb)
          have n3_ := Aside0.mk (blk_below (g := gb410) (o := .cells #[.string a1_0, .int .i64 a1_1] 35 (0, 0)) (by (with_reducible repeat (first | refine blk_drewN ?_ _ | refine blk_drew ?_ | refine blk_alloc ?_ _)); exact BK410.out) hb)
          have n4_ := Aside0.mk (below_step (by repeat (first | (with_reducible first | exact HB.out | apply below_alloc | apply pw_below_drewN | apply below_drew1 | refine below_set ?_ GE409.out | refine below_set ?_ GE410.out) | exact HB.out)) hb)
          clear HO423
          clear BK409
          clear BK410
          clear HB
          have HO423 := n0_
          have HO426 := n1_
          have BK409 := n2_
          have BK410 := n3_
          have HB := n4_
          clear n0_ n1_ n2_ n3_ n4_
          (try clear hb)
          (try clear hb2)
          (try clear hk)
          (try clear hi)
          (try clear ho0)
          obtain ⟨Ao72, co72, eo72⟩ := Kd.R_slice HO423.out
          (first | subst eo72 | (injection eo72 with f1_ f2_ f3_; have f4_ := f1_.symm; have f5_ := f3_.symm; clear f1_ f2_ f3_; subst f4_; subst f5_))
          obtain ⟨Ao73, co73, eo73⟩ := Kd.R_slice HO426.out
          (first | subst eo73 | (injection eo73 with f1_ f2_ f3_; have f4_ := f1_.symm; have f5_ := f3_.symm; clear f1_ f2_ f3_; subst f4_; subst f5_))
          refine hK.out _ _ ⟨(blk_cell BK409.out 0).trans rfl, (blk_cell BK409.out 1).trans rfl, (blk_cell BK410.out 0).trans rfl, (blk_cell BK410.out 1).trans rfl⟩ (fun hHeld => ?_)
          clear hK K
          refine norm_ (a' := ?_) ?_ ?_
          rotate_left
          · show Act.put _ (some 41) _ = _
            simp only [Act.put, List.setIfInBounds_toArray, List.set_cons_zero, List.set_cons_succ, i64_w, i32_w]
            rfl
          refine one_ (i := 9) (N := some 42) #[true, true, true, true, true, true, true, true, true, true, false, false] rfl rfl (one_of HT_.out (by kernel_rfl)) (by decide) (fun K hK => ?_)
          refine goes_ Tryd.func30 (by kernel_rfl) rfl #[.slice Ao72 t421.length co72, .slice Ao73 t424.length co73] (by rfl) rfl rfl (by (try simp only [List.map_toArray, List.map_cons, List.map_nil]); first | done | rfl | (simp only [List.length_drop, List.length_take]; rfl)) ?_
          with_reducible refine (spec_Add.calls kj3 _ _ t421 _ _ t424 t427 _ ?side1 ?side2 ?side3 ?side4 A49.out).mono ?_
          (case side1 => repeat (first | exact (Kd.R_reads' HO423.out).2.2 | (with_reducible refine Kd.C_alloc ?_ _) | (with_reducible refine Kd.C_drewN ?_ _) | (with_reducible refine Kd.C_drew ?_)))
          (case side2 => exact (Kd.R_reads' HO423.out).2.1)
          (case side3 => repeat (first | exact (Kd.R_reads' HO426.out).2.2 | (with_reducible refine Kd.C_alloc ?_ _) | (with_reducible refine Kd.C_drewN ?_ _) | (with_reducible refine Kd.C_drew ?_)))
          (case side4 => exact (Kd.R_reads' HO426.out).2.1)
          rintro e w74 ⟨v428, rfl, ho0, hb⟩
          refine ⟨_, rfl, ?_⟩
          have n0_ := Aside0.mk (Kd.R_elder' (by (with_reducible repeat (first | apply Kd.R_alloc | apply Kd.R_drewN | apply Kd.R_drew)); exact HO423.out) (Kd.R_base ho0) hb)
          have n1_ := Aside0.mk (Kd.R_elder' (by (with_reducible repeat (first | apply Kd.R_alloc | apply Kd.R_drewN | apply Kd.R_drew)); exact HO426.out) (Kd.R_base ho0) hb)
          have n2_ := Aside0.mk (Kd.R_lower (Kd.R_new' (Kd.R_new' ho0 (Kd.R_lt (by (with_reducible repeat (first | apply Kd.R_alloc | apply Kd.R_drewN | apply Kd.R_drew)); exact HO423.out))) (Kd.R_lt (by (with_reducible repeat (first | apply Kd.R_alloc | apply Kd.R_drewN | apply Kd.R_drew)); exact HO426.out))) (below_size (by repeat (first | (with_reducible first | exact HB.out | apply below_alloc | apply pw_below_drewN | apply below_drew1 | refine below_set ?_ GE409.out | refine below_set ?_ GE410.out) | exact HB.out))))
          have n3_ := Aside0.mk (blk_below (g := gb409) (o := .cells #[.int .i64 a0_0, .int .u64 a0_1] 31 (0, 0)) (by (with_reducible repeat (first | refine blk_drewN ?_ _ | refine blk_drew ?_ | refine blk_alloc ?_ _)); exact BK409.out) hb)
          have n4_ := Aside0.mk (blk_below (g := gb410) (o := .cells #[.string a1_0, .int .i64 a1_1] 35 (0, 0)) (by (with_reducible repeat (first | refine blk_drewN ?_ _ | refine blk_drew ?_ | refine blk_alloc ?_ _)); exact BK410.out) hb)
          have n5_ := Aside0.mk (below_step (by repeat (first | (with_reducible first | exact HB.out | apply below_alloc | apply pw_below_drewN | apply below_drew1 | refine below_set ?_ GE409.out | refine below_set ?_ GE410.out) | exact HB.out)) hb)
          clear HO423
          clear HO426
          clear BK409
          clear BK410
          clear HB
          have HO423 := n0_
          have HO426 := n1_
          have HO429 := n2_
          have BK409 := n3_
          have BK410 := n4_
          have HB := n5_
          clear n0_ n1_ n2_ n3_ n4_ n5_
          (try clear hb)
          (try clear hb2)
          (try clear hk)
          (try clear hi)
          (try clear ho0)
          obtain ⟨Ao75, co75, eo75⟩ := Kd.R_slice HO429.out
          (first | subst eo75 | (injection eo75 with f1_ f2_ f3_; have f4_ := f1_.symm; have f5_ := f3_.symm; clear f1_ f2_ f3_; subst f4_; subst f5_))
          refine hK.out _ _ ⟨(blk_cell BK409.out 0).trans rfl, (blk_cell BK409.out 1).trans rfl, (blk_cell BK410.out 0).trans rfl, (blk_cell BK410.out 1).trans rfl⟩ (fun hHeld => ?_)
          clear hK K
          refine norm_ (a' := ?_) ?_ ?_
          rotate_left
          · show Act.put _ (some 42) _ = _
            simp only [Act.put, List.setIfInBounds_toArray, List.set_cons_zero, List.set_cons_succ, i64_w, i32_w]
            rfl
          refine one_ (i := 10) (N := some 43) #[true, true, true, true, true, true, true, true, true, true, true, false] rfl rfl (one_of HT_.out (by kernel_rfl)) (by decide) (fun K hK => ?_)
          refine goes_ Tryd.func27 (by kernel_rfl) rfl #[.agg #[.int .i64 a0_0, .int .u64 a0_1], .agg #[.string a1_0, .int .i64 a1_1], .slice Ao75 t427.length co75] (by rfl) rfl rfl (by (try simp only [List.map_toArray, List.map_cons, List.map_nil]); first | done | rfl | (simp only [List.length_drop, List.length_take]; rfl)) ?_
          with_reducible refine (spec_Form_against.calls kj3 a0_0 a0_1 a1_0 a1_1 _ _ t427 t430 _ ?side1 ?side2 A50.out).mono ?_
          (case side1 => repeat (first | exact (Kd.R_reads' HO429.out).2.2 | (with_reducible refine Kd.C_alloc ?_ _) | (with_reducible refine Kd.C_drewN ?_ _) | (with_reducible refine Kd.C_drew ?_)))
          (case side2 => exact (Kd.R_reads' HO429.out).2.1)
          rintro e w76 ⟨rfl, hb⟩
          refine ⟨_, rfl, ?_⟩
          have n0_ := Aside0.mk (Kd.R_below (by (with_reducible repeat (first | apply Kd.R_alloc | apply Kd.R_drewN | apply Kd.R_drew)); exact HO423.out) hb)
          have n1_ := Aside0.mk (Kd.R_below (by (with_reducible repeat (first | apply Kd.R_alloc | apply Kd.R_drewN | apply Kd.R_drew)); exact HO426.out) hb)
          have n2_ := Aside0.mk (Kd.R_below (by (with_reducible repeat (first | apply Kd.R_alloc | apply Kd.R_drewN | apply Kd.R_drew)); exact HO429.out) hb)
          have n3_ := Aside0.mk (blk_below (g := gb409) (o := .cells #[.int .i64 a0_0, .int .u64 a0_1] 31 (0, 0)) (by (with_reducible repeat (first | refine blk_drewN ?_ _ | refine blk_drew ?_ | refine blk_alloc ?_ _)); exact BK409.out) hb)
          have n4_ := Aside0.mk (blk_below (g := gb410) (o := .cells #[.string a1_0, .int .i64 a1_1] 35 (0, 0)) (by (with_reducible repeat (first | refine blk_drewN ?_ _ | refine blk_drew ?_ | refine blk_alloc ?_ _)); exact BK410.out) hb)
          have n5_ := Aside0.mk (below_step (by repeat (first | (with_reducible first | exact HB.out | apply below_alloc | apply pw_below_drewN | apply below_drew1 | refine below_set ?_ GE409.out | refine below_set ?_ GE410.out) | exact HB.out)) hb)
          clear HO423
          clear HO426
          clear HO429
          clear BK409
          clear BK410
          clear HB
          have HO423 := n0_
          have HO426 := n1_
          have HO429 := n2_
          have BK409 := n3_
          have BK410 := n4_
          have HB := n5_
          clear n0_ n1_ n2_ n3_ n4_ n5_
          (try clear hb)
          (try clear hb2)
          (try clear hk)
          (try clear hi)
          refine hK.out _ _ ⟨(blk_cell BK409.out 0).trans rfl, (blk_cell BK409.out 1).trans rfl, (blk_cell BK410.out 0).trans rfl, (blk_cell BK410.out 1).trans rfl⟩ (fun hHeld => ?_)
          clear hK K
          refine norm_ (a' := ?_) ?_ ?_
          rotate_left
          · show Act.put _ (some 43) _ = _
            simp only [Act.put, List.setIfInBounds_toArray, List.set_cons_zero, List.set_cons_succ, i64_w, i32_w]
            rfl
          refine pure_ (i := 11) (N := some 8) (v := ?_) (a' := ?_) #[true, true, true, true, true, true, true, true, true, true, true, true] rfl rfl (any_of HT_.out (by kernel_rfl)) (fun _ _ _ h => h) (Or.inl ⟨by rfl, ?_⟩) ?_ ?_
          rotate_left
          · intro w'
            go_simp
            with_reducible rfl
          rotate_left
          · simp only [Act.put, List.setIfInBounds_toArray, List.set_cons_zero, List.set_cons_succ, i64_w, i32_w]
            rfl
          refine done_ (done_of HT_.out (by kernel_rfl)) ?_
          try go_wp2
          go_ret
          exact ⟨by first | rfl | (simp [errW_none, errW_some] <;> rfl) | (simp [*, errW_none, errW_some] <;> rfl), by repeat (first | (with_reducible first | exact HB.out | apply below_alloc | apply pw_below_drewN | apply below_drew1 | refine below_set ?_ GE409.out | refine below_set ?_ GE410.out) | exact HB.out)⟩

end Go.Proofs.YtiopeaponffmdaaDoor.PAll
