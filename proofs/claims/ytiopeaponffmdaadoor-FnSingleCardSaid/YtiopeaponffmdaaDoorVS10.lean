/- The texts of a proof, its declarations alone: part 10. -/
import Derived.Test.YtiopeaponffmdaaDoorVS4
import Derived.Test.YtiopeaponffmdaaDoorVS6
import Derived.Test.YtiopeaponffmdaaDoorVS7
import Derived.Test.YtiopeaponffmdaaDoorVS8
import Derived.Test.YtiopeaponffmdaaDoorVS9
set_option linter.unusedVariables false
set_option linter.unusedSimpArgs false
-- YtiopeaponffmdaaDoorPAllx24
namespace Go.Proofs.YtiopeaponffmdaaDoor.PAll
open Go.RowKit Go.Proofs.YtiopeaponffmdaaDoorW.PrintWords Go.Proofs.YtiopeaponffmdaaDoorW.PrintLast Go.Proofs.YtiopeaponffmdaaDoorW.PrintMore
attribute [local go_sem] max2_int min2_int max_two min_two max_three min_three max_four min_four   -- for this text's walks alone
set_option linter.unusedVariables false
set_option linter.unusedSimpArgs false

def spec_Form_closer.f (k : Nat) (a0_0 : Int) (a0_1 : Int) (a1 : Int) (a2 : Int) (a3 : Int) : Option (Bool) := (spec_decimals.f k (IntKind.u64.wrap ((IntKind.u64.wrap (2 * a2)) + 1))).bind fun t432 => ((spec_Form_Times2.f k a0_0 a0_1 a1).bind fun t433 => ((spec_Shifted.f k t433 2).bind fun t436 => ((spec_Form_against.f k a0_0 a0_1 t432 a3 t436).bind fun t439 => (if t439 < 0 then (some true) else (if t439 = 0 then (some ((Int.tmod a2 2) == 1)) else (some false))))))
theorem spec_Form_closer.mono : ∀ a0 a1 a2 a3 a4 k, LeO (spec_Form_closer.f k a0 a1 a2 a3 a4) (spec_Form_closer.f (k + 1) a0 a1 a2 a3 a4) := by
  intro a0 a1 a2 a3 a4 k
  unfold spec_Form_closer.f
  repeat' first
      | (with_reducible exact spec_Form_Times2.mono _ _ _ _)
      | (with_reducible exact spec_Form_against.mono _ _ _ _ _ _)
      | (with_reducible exact spec_Shifted.mono _ _ _)
      | (with_reducible exact spec_decimals.mono _ _)
      | (with_reducible exact LeO.refl _)
      | (with_reducible exact LeO.none _)
      | (with_reducible refine LeO.ite ?_ ?_)
      | (with_reducible refine LeO.bind ?_ (fun _ => ?_))
      | exact spec_Form_Times2.mono _ _ _ _
      | exact spec_Form_against.mono _ _ _ _ _ _
      | exact spec_Shifted.mono _ _ _
      | exact spec_decimals.mono _ _
      | exact LeO.none _
      | refine LeO.ite ?_ ?_
      | refine LeO.bind ?_ (fun _ => ?_)
def spec_Form_closer.T1 : Bool × List (List Nat × List Nat) := (true, [([], []), ([], []), ([1], [1]), ([2], [2]), ([3], [3]), ([], []), ([4, 5], [4, 5]), ([], []), ([], []), ([7, 8, 4], [7, 8]), ([9, 9], [9]), ([0, 6, 10, 10], [0, 6, 10]), ([11, 11, 0, 1, 2, 3, 4, 5, 6, 7, 8, 9, 10, 11], [11])])
def spec_Form_closer.B1 : List Nat := [0, 0, 2, 6, 14, 0, 62, 0, 0, 414, 926, 2047, 4095]
theorem spec_Form_closer.tab1 : rtab .any (opsOf Tryd.f47 1) = spec_Form_closer.T1 := by kernel_rfl
theorem spec_Form_closer.bits1 : waitsOk spec_Form_closer.T1.2 spec_Form_closer.B1 = true := by kernel_rfl
set_option maxHeartbeats 8000000 in
set_option maxRecDepth 100000 in
theorem spec_Form_closer.calls (k : Nat) (a0_0 : Int) (a0_1 : Int) (a1 : Int) (a2 : Int) (a3 : Int) (r : Bool) (w : World) (h : spec_Form_closer.f k a0_0 a0_1 a1 a2 a3 = some r) :
    Calls Tryd.prog 47 #[.agg #[.int .i64 a0_0, .int .u64 a0_1], .int .u64 a1, .int .u64 a2, .int .i64 a3] w fun e w' => e = .returned (.bool r) ∧ Below w.heap.size w w' := by
  have hu31 := Tryd.underlying31
  have hu35 := Tryd.underlying35
  have HB := Aside0.mk (Below.refl w.heap.size w)
  have H : ((spec_decimals.f k (IntKind.u64.wrap ((IntKind.u64.wrap (2 * a2)) + 1))).bind fun t432 => ((spec_Form_Times2.f k a0_0 a0_1 a1).bind fun t433 => ((spec_Shifted.f k t433 2).bind fun t436 => ((spec_Form_against.f k a0_0 a0_1 t432 a3 t436).bind fun t439 => (if t439 < 0 then (some true) else (if t439 = 0 then (some ((Int.tmod a2 2) == 1)) else (some false))))))) = some r := h
  clear h
  replace H := Option.bind_eq_some_iff.mp H
  obtain ⟨t432, A50, H⟩ := H
  replace H : ((spec_Form_Times2.f k a0_0 a0_1 a1).bind fun t433 => ((spec_Shifted.f k t433 2).bind fun t436 => ((spec_Form_against.f k a0_0 a0_1 t432 a3 t436).bind fun t439 => (if t439 < 0 then (some true) else (if t439 = 0 then (some ((Int.tmod a2 2) == 1)) else (some false)))))) = some r := H
  have A5 := Aside0.mk A50
  clear A50
  replace H := Option.bind_eq_some_iff.mp H
  obtain ⟨t433, A60, H⟩ := H
  replace H : ((spec_Shifted.f k t433 2).bind fun t436 => ((spec_Form_against.f k a0_0 a0_1 t432 a3 t436).bind fun t439 => (if t439 < 0 then (some true) else (if t439 = 0 then (some ((Int.tmod a2 2) == 1)) else (some false))))) = some r := H
  have A6 := Aside0.mk A60
  clear A60
  replace H := Option.bind_eq_some_iff.mp H
  obtain ⟨t436, A70, H⟩ := H
  replace H : ((spec_Form_against.f k a0_0 a0_1 t432 a3 t436).bind fun t439 => (if t439 < 0 then (some true) else (if t439 = 0 then (some ((Int.tmod a2 2) == 1)) else (some false)))) = some r := H
  have A7 := Aside0.mk A70
  clear A70
  replace H := Option.bind_eq_some_iff.mp H
  obtain ⟨t439, A80, H⟩ := H
  replace H : (if t439 < 0 then (some true) else (if t439 = 0 then (some ((Int.tmod a2 2) == 1)) else (some false))) = some r := H
  have A8 := Aside0.mk A80
  clear A80
  by_cases c9 : t439 < 0
  · rw [if_pos c9] at H
    have c9b0 : decide (t439 < 0) = true := decide_eq_true c9
    clear c9
    obtain rfl := Option.some.inj H
    go_enter Tryd.func47, Tryd.ntmps47
    try go_wp2_with (first | ((with_reducible refine gate_dst (N := 4) rfl ?_); refine box_event ?hg (N := 4) ?hd (cs := #[.int .i64 a0_0, .int .u64 a0_1]) (t := 31) ?hr ?_; (case hd => rfl); (case hg => rfl); (case hr => first | (go_simp; done) | (go_simp; rfl)); intro gb431 hg w10 hbox hb; have n0_ := Aside0.mk (below_step (by repeat (first | (with_reducible first | exact HB.out | apply below_alloc | apply pw_below_drewN | apply below_drew1) | exact HB.out)) hb); have n1_ := Aside0.mk (hbox); have n2_ := Aside0.mk ((by rw [hg]; exact (below_size (by repeat (first | (with_reducible first | exact HB.out | apply below_alloc | apply pw_below_drewN | apply below_drew1) | exact HB.out))) : w.heap.size ≤ gb431)); have n3_ := Aside0.mk ((by rw [hg]; exact (below_size (by repeat (first | (with_reducible first | exact HB.out | apply below_alloc | apply pw_below_drewN | apply below_drew1) | exact HB.out))) : w.heap.size ≤ gb431)); clear HB; have HB := n0_; have BK431 := n1_; have GW431 := n2_; have GE431 := n3_; clear n0_ n1_ n2_ n3_; clear hb hbox hg))
    have n0_ := Aside0.mk (blk_drew BK431.out)
    have n1_ := Aside0.mk (below_drew1 HB.out)
    clear BK431
    clear HB
    have BK431 := n0_
    have HB := n1_
    clear n0_ n1_
    refine start_ (n := 13) (S := fun w' => w'.cell? ⟨gb431, 0, none⟩ = some (.int .i64 a0_0) ∧ w'.cell? ⟨gb431, 1, none⟩ = some (.int .u64 a0_1)) (ds := []) #[false, false, false, false, false, false, false, false, false, false, false, false, false] (by kernel_rfl) rfl rfl ⟨(blk_cell BK431.out 0).trans rfl, (blk_cell BK431.out 1).trans rfl⟩ (fun hHeld => ?_); refine with_tabW spec_Form_closer.tab1 spec_Form_closer.bits1 (fun HT_ HW_ => ?_)
    generalize w10.drew = w11 at BK431 HB hHeld ⊢
    refine pure_ (i := 1) (N := some 11) (v := ?_) (a' := ?_) #[false, true, false, false, false, false, false, false, false, false, false, false, false] rfl rfl (any_of HT_.out (by kernel_rfl)) (fun _ _ _ h => h) (Or.inl ⟨by rfl, ?_⟩) ?_ ?_
    rotate_left
    · intro w'
      go_simp
      with_reducible rfl
    rotate_left
    · simp only [Act.put, List.setIfInBounds_toArray, List.set_cons_zero, List.set_cons_succ, i64_w, i32_w]
      rfl
    refine pure_ (i := 2) (N := some 12) (v := ?_) (a' := ?_) #[false, true, true, false, false, false, false, false, false, false, false, false, false] rfl rfl (any_of HT_.out (by kernel_rfl)) (fun _ _ _ h => h) (Or.inl ⟨by rfl, ?_⟩) ?_ ?_
    rotate_left
    · intro w'
      go_simp
      with_reducible rfl
    rotate_left
    · simp only [Act.put, List.setIfInBounds_toArray, List.set_cons_zero, List.set_cons_succ, i64_w, i32_w]
      rfl
    refine pure_ (i := 3) (N := some 13) (v := ?_) (a' := ?_) #[false, true, true, true, false, false, false, false, false, false, false, false, false] rfl rfl (any_of HT_.out (by kernel_rfl)) (fun _ _ _ h => h) (Or.inl ⟨by rfl, ?_⟩) ?_ ?_
    rotate_left
    · intro w'
      go_simp
      with_reducible rfl
    rotate_left
    · simp only [Act.put, List.setIfInBounds_toArray, List.set_cons_zero, List.set_cons_succ, i64_w, i32_w]
      rfl
    refine pure_ (i := 5) (N := some 15) (v := ?_) (a' := ?_) #[false, true, true, true, false, true, false, false, false, false, false, false, false] rfl rfl (any_of HT_.out (by kernel_rfl)) (fun _ _ _ h => h) (Or.inl ⟨by rfl, ?_⟩) ?_ ?_
    rotate_left
    · intro w'
      go_simp
      with_reducible rfl
    rotate_left
    · simp only [Act.put, List.setIfInBounds_toArray, List.set_cons_zero, List.set_cons_succ, i64_w, i32_w]
      rfl
    refine pure_ (i := 8) (N := some 18) (v := ?_) (a' := ?_) #[false, true, true, true, false, true, false, false, true, false, false, false, false] rfl rfl (any_of HT_.out (by kernel_rfl)) (fun _ _ _ h => h) (Or.inl ⟨by rfl, ?_⟩) ?_ ?_
    rotate_left
    · intro w'
      go_simp
      with_reducible rfl
    rotate_left
    · simp only [Act.put, List.setIfInBounds_toArray, List.set_cons_zero, List.set_cons_succ, i64_w, i32_w]
      rfl
    refine take_ (i := 0) (N := some 10) (v := ?_) (a' := ?_) #[true, true, true, true, false, true, false, false, true, false, false, false, false] rfl rfl (take_ofW HT_.out HW_.out (by kernel_rfl)) (fun _ _ _ h => h) (Or.inl ⟨by rfl, ?_⟩) hHeld ?_ ?_
    rotate_left
    · rintro w' ⟨s0, s1⟩
      go_simp
      with_reducible rfl
    rotate_left
    · simp only [Act.put, List.setIfInBounds_toArray, List.set_cons_zero, List.set_cons_succ, i64_w, i32_w]
      rfl
    refine take_ (i := 7) (N := some 17) (v := ?_) (a' := ?_) #[true, true, true, true, false, true, false, true, true, false, false, false, false] rfl rfl (take_ofW HT_.out HW_.out (by kernel_rfl)) (fun _ _ _ h => h) (Or.inl ⟨by rfl, ?_⟩) hHeld ?_ ?_
    rotate_left
    · rintro w' ⟨s0, s1⟩
      go_simp
      with_reducible rfl
    rotate_left
    · simp only [Act.put, List.setIfInBounds_toArray, List.set_cons_zero, List.set_cons_succ, i64_w, i32_w]
      rfl
    refine one_ (i := 4) (N := some 14) #[true, true, true, true, true, true, false, true, true, false, false, false, false] rfl rfl (one_of HT_.out (by kernel_rfl)) (by decide) (fun K hK => ?_)
    refine goes_ Tryd.func46 (by kernel_rfl) rfl #[.int .u64 (IntKind.u64.wrap ((IntKind.u64.wrap (2 * a2)) + 1))] (by rfl) rfl rfl (by (try simp only [List.map_toArray, List.map_cons, List.map_nil]); first | done | rfl | (simp only [List.length_drop, List.length_take]; rfl)) ?_
    with_reducible refine (spec_decimals.calls k (IntKind.u64.wrap ((IntKind.u64.wrap (2 * a2)) + 1)) t432 _ A5.out).mono ?_
    rintro e w12 ⟨rfl, hb⟩
    refine ⟨_, rfl, ?_⟩
    have n0_ := Aside0.mk (blk_below (g := gb431) (o := .cells #[.int .i64 a0_0, .int .u64 a0_1] 31 (0, 0)) (by (with_reducible repeat (first | refine blk_drewN ?_ _ | refine blk_drew ?_ | refine blk_alloc ?_ _)); exact BK431.out) hb)
    have n1_ := Aside0.mk (below_step (by repeat (first | (with_reducible first | exact HB.out | apply below_alloc | apply pw_below_drewN | apply below_drew1 | refine below_set ?_ GE431.out) | exact HB.out)) hb)
    clear BK431
    clear HB
    have BK431 := n0_
    have HB := n1_
    clear n0_ n1_
    (try clear hb)
    (try clear hb2)
    (try clear hk)
    (try clear hi)
    refine hK.out _ _ ⟨(blk_cell BK431.out 0).trans rfl, (blk_cell BK431.out 1).trans rfl⟩ (fun hHeld => ?_)
    clear hK K
    refine norm_ (a' := ?_) ?_ ?_
    rotate_left
    · show Act.put _ (some 14) _ = _
      simp only [Act.put, List.setIfInBounds_toArray, List.set_cons_zero, List.set_cons_succ, i64_w, i32_w]
      rfl
    refine pure_ (i := 6) (N := some 16) (v := ?_) (a' := ?_) #[true, true, true, true, true, true, true, true, true, false, false, false, false] rfl rfl (any_of HT_.out (by kernel_rfl)) (fun _ _ _ h => h) (Or.inl ⟨by rfl, ?_⟩) ?_ ?_
    rotate_left
    · intro w'
      go_simp
      with_reducible rfl
    rotate_left
    · simp only [Act.put, List.setIfInBounds_toArray, List.set_cons_zero, List.set_cons_succ, i64_w, i32_w]
      rfl
    refine one_ (i := 9) (N := some 19) #[true, true, true, true, true, true, true, true, true, true, false, false, false] rfl rfl (one_of HT_.out (by kernel_rfl)) (by decide) (fun K hK => ?_)
    refine goes_ Tryd.func29 (by kernel_rfl) rfl #[.agg #[.int .i64 a0_0, .int .u64 a0_1], .int .u64 a1] (by rfl) rfl rfl (by (try simp only [List.map_toArray, List.map_cons, List.map_nil]); first | done | rfl | (simp only [List.length_drop, List.length_take]; rfl)) ?_
    with_reducible refine (spec_Form_Times2.calls k a0_0 a0_1 a1 t433 _ A6.out).mono ?_
    rintro e w13 ⟨v434, rfl, ho0, hb⟩
    refine ⟨_, rfl, ?_⟩
    have n0_ := Aside0.mk (Kd.R_lower ho0 (below_size (by repeat (first | (with_reducible first | exact HB.out | apply below_alloc | apply pw_below_drewN | apply below_drew1 | refine below_set ?_ GE431.out) | exact HB.out))))
    have n1_ := Aside0.mk (blk_below (g := gb431) (o := .cells #[.int .i64 a0_0, .int .u64 a0_1] 31 (0, 0)) (by (with_reducible repeat (first | refine blk_drewN ?_ _ | refine blk_drew ?_ | refine blk_alloc ?_ _)); exact BK431.out) hb)
    have n2_ := Aside0.mk (below_step (by repeat (first | (with_reducible first | exact HB.out | apply below_alloc | apply pw_below_drewN | apply below_drew1 | refine below_set ?_ GE431.out) | exact HB.out)) hb)
    clear BK431
    clear HB
    have HO435 := n0_
    have BK431 := n1_
    have HB := n2_
    clear n0_ n1_ n2_
    (try clear hb)
    (try clear hb2)
    (try clear hk)
    (try clear hi)
    (try clear ho0)
    obtain ⟨Ao14, co14, eo14⟩ := Kd.R_slice HO435.out
    (first | subst eo14 | (injection eo14 with f1_ f2_ f3_; have f4_ := f1_.symm; have f5_ := f3_.symm; clear f1_ f2_ f3_; subst f4_; subst f5_))
    refine hK.out _ _ ⟨(blk_cell BK431.out 0).trans rfl, (blk_cell BK431.out 1).trans rfl⟩ (fun hHeld => ?_)
    clear hK K
    refine norm_ (a' := ?_) ?_ ?_
    rotate_left
    · show Act.put _ (some 19) _ = _
      simp only [Act.put, List.setIfInBounds_toArray, List.set_cons_zero, List.set_cons_succ, i64_w, i32_w]
      rfl
    refine one_ (i := 10) (N := some 20) #[true, true, true, true, true, true, true, true, true, true, true, false, false] rfl rfl (one_of HT_.out (by kernel_rfl)) (by decide) (fun K hK => ?_)
    refine goes_ Tryd.func28 (by kernel_rfl) rfl #[.slice Ao14 t433.length co14, .int .i64 2] (by rfl) rfl rfl (by (try simp only [List.map_toArray, List.map_cons, List.map_nil]); first | done | rfl | (simp only [List.length_drop, List.length_take]; rfl)) ?_
    with_reducible refine (spec_Shifted.calls k _ _ t433 2 t436 _ ?side1 ?side2 A7.out).mono ?_
    (case side1 => repeat (first | exact (Kd.R_reads' HO435.out).2.2 | (with_reducible refine Kd.C_alloc ?_ _) | (with_reducible refine Kd.C_drewN ?_ _) | (with_reducible refine Kd.C_drew ?_)))
    (case side2 => exact (Kd.R_reads' HO435.out).2.1)
    rintro e w15 ⟨v437, rfl, ho0, hb⟩
    refine ⟨_, rfl, ?_⟩
    have n0_ := Aside0.mk (Kd.R_elder' (by (with_reducible repeat (first | apply Kd.R_alloc | apply Kd.R_drewN | apply Kd.R_drew)); exact HO435.out) (Kd.R_base ho0) hb)
    have n1_ := Aside0.mk (Kd.R_lower (Kd.R_new' ho0 (Kd.R_lt (by (with_reducible repeat (first | apply Kd.R_alloc | apply Kd.R_drewN | apply Kd.R_drew)); exact HO435.out))) (below_size (by repeat (first | (with_reducible first | exact HB.out | apply below_alloc | apply pw_below_drewN | apply below_drew1 | refine below_set ?_ GE431.out) | exact HB.out))))
    have n2_ := Aside0.mk (blk_below (g := gb431) (o := .cells #[.int .i64 a0_0, .int .u64 a0_1] 31 (0, 0)) (by (with_reducible repeat (first | refine blk_drewN ?_ _ | refine blk_drew ?_ | refine blk_alloc ?_ _)); exact BK431.out) hb)
    have n3_ := Aside0.mk (below_step (by repeat (first | (with_reducible first | exact HB.out | apply below_alloc | apply pw_below_drewN | apply below_drew1 | refine below_set ?_ GE431.out) | exact HB.out)) hb)
    clear HO435
    clear BK431
    clear HB
    have HO435 := n0_
    have HO438 := n1_
    have BK431 := n2_
    have HB := n3_
    clear n0_ n1_ n2_ n3_
    (try clear hb)
    (try clear hb2)
    (try clear hk)
    (try clear hi)
    (try clear ho0)
    obtain ⟨Ao16, co16, eo16⟩ := Kd.R_slice HO438.out
    (first | subst eo16 | (injection eo16 with f1_ f2_ f3_; have f4_ := f1_.symm; have f5_ := f3_.symm; clear f1_ f2_ f3_; subst f4_; subst f5_))
    refine hK.out _ _ ⟨(blk_cell BK431.out 0).trans rfl, (blk_cell BK431.out 1).trans rfl⟩ (fun hHeld => ?_)
    clear hK K
    refine norm_ (a' := ?_) ?_ ?_
    rotate_left
    · show Act.put _ (some 20) _ = _
      simp only [Act.put, List.setIfInBounds_toArray, List.set_cons_zero, List.set_cons_succ, i64_w, i32_w]
      rfl
    refine one_ (i := 11) (N := some 21) #[true, true, true, true, true, true, true, true, true, true, true, true, false] rfl rfl (one_of HT_.out (by kernel_rfl)) (by decide) (fun K hK => ?_)
    refine goes_ Tryd.func27 (by kernel_rfl) rfl #[.agg #[.int .i64 a0_0, .int .u64 a0_1], .agg #[.string t432, .int .i64 a3], .slice Ao16 t436.length co16] (by rfl) rfl rfl (by (try simp only [List.map_toArray, List.map_cons, List.map_nil]); first | done | rfl | (simp only [List.length_drop, List.length_take]; rfl)) ?_
    with_reducible refine (spec_Form_against.calls k a0_0 a0_1 t432 a3 _ _ t436 t439 _ ?side1 ?side2 A8.out).mono ?_
    (case side1 => repeat (first | exact (Kd.R_reads' HO438.out).2.2 | (with_reducible refine Kd.C_alloc ?_ _) | (with_reducible refine Kd.C_drewN ?_ _) | (with_reducible refine Kd.C_drew ?_)))
    (case side2 => exact (Kd.R_reads' HO438.out).2.1)
    rintro e w17 ⟨rfl, hb⟩
    refine ⟨_, rfl, ?_⟩
    have n0_ := Aside0.mk (Kd.R_below (by (with_reducible repeat (first | apply Kd.R_alloc | apply Kd.R_drewN | apply Kd.R_drew)); exact HO435.out) hb)
    have n1_ := Aside0.mk (Kd.R_below (by (with_reducible repeat (first | apply Kd.R_alloc | apply Kd.R_drewN | apply Kd.R_drew)); exact HO438.out) hb)
    have n2_ := Aside0.mk (blk_below (g := gb431) (o := .cells #[.int .i64 a0_0, .int .u64 a0_1] 31 (0, 0)) (by (with_reducible repeat (first | refine blk_drewN ?_ _ | refine blk_drew ?_ | refine blk_alloc ?_ _)); exact BK431.out) hb)
    have n3_ := Aside0.mk (below_step (by repeat (first | (with_reducible first | exact HB.out | apply below_alloc | apply pw_below_drewN | apply below_drew1 | refine below_set ?_ GE431.out) | exact HB.out)) hb)
    clear HO435
    clear HO438
    clear BK431
    clear HB
    have HO435 := n0_
    have HO438 := n1_
    have BK431 := n2_
    have HB := n3_
    clear n0_ n1_ n2_ n3_
    (try clear hb)
    (try clear hb2)
    (try clear hk)
    (try clear hi)
    refine hK.out _ _ ⟨(blk_cell BK431.out 0).trans rfl, (blk_cell BK431.out 1).trans rfl⟩ (fun hHeld => ?_)
    clear hK K
    refine norm_ (a' := ?_) ?_ ?_
    rotate_left
    · show Act.put _ (some 21) _ = _
      simp only [Act.put, List.setIfInBounds_toArray, List.set_cons_zero, List.set_cons_succ, i64_w, i32_w]
      rfl
    refine pure_ (i := 12) (N := some 9) (v := ?_) (a' := ?_) #[true, true, true, true, true, true, true, true, true, true, true, true, true] rfl rfl (any_of HT_.out (by kernel_rfl)) (fun _ _ _ h => h) (Or.inl ⟨by rfl, ?_⟩) ?_ ?_
    rotate_left
    · intro w'
      go_simp
      with_reducible rfl
    rotate_left
    · simp only [Act.put, List.setIfInBounds_toArray, List.set_cons_zero, List.set_cons_succ, i64_w, i32_w]
      rfl
    refine done_ (done_of HT_.out (by kernel_rfl)) ?_
    try go_wp2
    go_ret
    exact ⟨by first | rfl | (simp [errW_none, errW_some] <;> rfl) | (simp [*, errW_none, errW_some] <;> rfl), by repeat (first | (with_reducible first | exact HB.out | apply below_alloc | apply pw_below_drewN | apply below_drew1 | refine below_set ?_ GE431.out) | exact HB.out)⟩
  · rw [if_neg c9] at H
    have c9b0 : decide (t439 < 0) = false := decide_eq_false c9
    clear c9
    by_cases c18 : t439 = 0
    · rw [if_pos c18] at H
      have c18b0 : (t439 == 0) = true := beq_iff_eq.mpr c18
      have c18b1 : (t439 != 0) = false := bne_eq_false_iff_eq.mpr c18
      clear c18
      obtain rfl := Option.some.inj H
      go_enter Tryd.func47, Tryd.ntmps47
      try go_wp2_with (first | ((with_reducible refine gate_dst (N := 4) rfl ?_); refine box_event ?hg (N := 4) ?hd (cs := #[.int .i64 a0_0, .int .u64 a0_1]) (t := 31) ?hr ?_; (case hd => rfl); (case hg => rfl); (case hr => first | (go_simp; done) | (go_simp; rfl)); intro gb431 hg w19 hbox hb; have n0_ := Aside0.mk (below_step (by repeat (first | (with_reducible first | exact HB.out | apply below_alloc | apply pw_below_drewN | apply below_drew1) | exact HB.out)) hb); have n1_ := Aside0.mk (hbox); have n2_ := Aside0.mk ((by rw [hg]; exact (below_size (by repeat (first | (with_reducible first | exact HB.out | apply below_alloc | apply pw_below_drewN | apply below_drew1) | exact HB.out))) : w.heap.size ≤ gb431)); have n3_ := Aside0.mk ((by rw [hg]; exact (below_size (by repeat (first | (with_reducible first | exact HB.out | apply below_alloc | apply pw_below_drewN | apply below_drew1) | exact HB.out))) : w.heap.size ≤ gb431)); clear HB; have HB := n0_; have BK431 := n1_; have GW431 := n2_; have GE431 := n3_; clear n0_ n1_ n2_ n3_; clear hb hbox hg))
      have n0_ := Aside0.mk (blk_drew BK431.out)
      have n1_ := Aside0.mk (below_drew1 HB.out)
      clear BK431
      clear HB
      have BK431 := n0_
      have HB := n1_
      clear n0_ n1_
      refine start_ (n := 13) (S := fun w' => w'.cell? ⟨gb431, 0, none⟩ = some (.int .i64 a0_0) ∧ w'.cell? ⟨gb431, 1, none⟩ = some (.int .u64 a0_1)) (ds := []) #[false, false, false, false, false, false, false, false, false, false, false, false, false] (by kernel_rfl) rfl rfl ⟨(blk_cell BK431.out 0).trans rfl, (blk_cell BK431.out 1).trans rfl⟩ (fun hHeld => ?_); refine with_tabW spec_Form_closer.tab1 spec_Form_closer.bits1 (fun HT_ HW_ => ?_)
      generalize w19.drew = w20 at BK431 HB hHeld ⊢
      refine pure_ (i := 1) (N := some 11) (v := ?_) (a' := ?_) #[false, true, false, false, false, false, false, false, false, false, false, false, false] rfl rfl (any_of HT_.out (by kernel_rfl)) (fun _ _ _ h => h) (Or.inl ⟨by rfl, ?_⟩) ?_ ?_
      rotate_left
      · intro w'
        go_simp
        with_reducible rfl
      rotate_left
      · simp only [Act.put, List.setIfInBounds_toArray, List.set_cons_zero, List.set_cons_succ, i64_w, i32_w]
        rfl
      refine pure_ (i := 2) (N := some 12) (v := ?_) (a' := ?_) #[false, true, true, false, false, false, false, false, false, false, false, false, false] rfl rfl (any_of HT_.out (by kernel_rfl)) (fun _ _ _ h => h) (Or.inl ⟨by rfl, ?_⟩) ?_ ?_
      rotate_left
      · intro w'
        go_simp
        with_reducible rfl
      rotate_left
      · simp only [Act.put, List.setIfInBounds_toArray, List.set_cons_zero, List.set_cons_succ, i64_w, i32_w]
        rfl
      refine pure_ (i := 3) (N := some 13) (v := ?_) (a' := ?_) #[false, true, true, true, false, false, false, false, false, false, false, false, false] rfl rfl (any_of HT_.out (by kernel_rfl)) (fun _ _ _ h => h) (Or.inl ⟨by rfl, ?_⟩) ?_ ?_
      rotate_left
      · intro w'
        go_simp
        with_reducible rfl
      rotate_left
      · simp only [Act.put, List.setIfInBounds_toArray, List.set_cons_zero, List.set_cons_succ, i64_w, i32_w]
        rfl
      refine pure_ (i := 5) (N := some 15) (v := ?_) (a' := ?_) #[false, true, true, true, false, true, false, false, false, false, false, false, false] rfl rfl (any_of HT_.out (by kernel_rfl)) (fun _ _ _ h => h) (Or.inl ⟨by rfl, ?_⟩) ?_ ?_
      rotate_left
      · intro w'
        go_simp
        with_reducible rfl
      rotate_left
      · simp only [Act.put, List.setIfInBounds_toArray, List.set_cons_zero, List.set_cons_succ, i64_w, i32_w]
        rfl
      refine pure_ (i := 8) (N := some 18) (v := ?_) (a' := ?_) #[false, true, true, true, false, true, false, false, true, false, false, false, false] rfl rfl (any_of HT_.out (by kernel_rfl)) (fun _ _ _ h => h) (Or.inl ⟨by rfl, ?_⟩) ?_ ?_
      rotate_left
      · intro w'
        go_simp
        with_reducible rfl
      rotate_left
      · simp only [Act.put, List.setIfInBounds_toArray, List.set_cons_zero, List.set_cons_succ, i64_w, i32_w]
        rfl
      refine take_ (i := 0) (N := some 10) (v := ?_) (a' := ?_) #[true, true, true, true, false, true, false, false, true, false, false, false, false] rfl rfl (take_ofW HT_.out HW_.out (by kernel_rfl)) (fun _ _ _ h => h) (Or.inl ⟨by rfl, ?_⟩) hHeld ?_ ?_
      rotate_left
      · rintro w' ⟨s0, s1⟩
        go_simp
        with_reducible rfl
      rotate_left
      · simp only [Act.put, List.setIfInBounds_toArray, List.set_cons_zero, List.set_cons_succ, i64_w, i32_w]
        rfl
      refine take_ (i := 7) (N := some 17) (v := ?_) (a' := ?_) #[true, true, true, true, false, true, false, true, true, false, false, false, false] rfl rfl (take_ofW HT_.out HW_.out (by kernel_rfl)) (fun _ _ _ h => h) (Or.inl ⟨by rfl, ?_⟩) hHeld ?_ ?_
      rotate_left
      · rintro w' ⟨s0, s1⟩
        go_simp
        with_reducible rfl
      rotate_left
      · simp only [Act.put, List.setIfInBounds_toArray, List.set_cons_zero, List.set_cons_succ, i64_w, i32_w]
        rfl
      refine one_ (i := 4) (N := some 14) #[true, true, true, true, true, true, false, true, true, false, false, false, false] rfl rfl (one_of HT_.out (by kernel_rfl)) (by decide) (fun K hK => ?_)
      refine goes_ Tryd.func46 (by kernel_rfl) rfl #[.int .u64 (IntKind.u64.wrap ((IntKind.u64.wrap (2 * a2)) + 1))] (by rfl) rfl rfl (by (try simp only [List.map_toArray, List.map_cons, List.map_nil]); first | done | rfl | (simp only [List.length_drop, List.length_take]; rfl)) ?_
      with_reducible refine (spec_decimals.calls k (IntKind.u64.wrap ((IntKind.u64.wrap (2 * a2)) + 1)) t432 _ A5.out).mono ?_
      rintro e w21 ⟨rfl, hb⟩
      refine ⟨_, rfl, ?_⟩
      have n0_ := Aside0.mk (blk_below (g := gb431) (o := .cells #[.int .i64 a0_0, .int .u64 a0_1] 31 (0, 0)) (by (with_reducible repeat (first | refine blk_drewN ?_ _ | refine blk_drew ?_ | refine blk_alloc ?_ _)); exact BK431.out) hb)
      have n1_ := Aside0.mk (below_step (by repeat (first | (with_reducible first | exact HB.out | apply below_alloc | apply pw_below_drewN | apply below_drew1 | refine below_set ?_ GE431.out) | exact HB.out)) hb)
      clear BK431
      clear HB
      have BK431 := n0_
      have HB := n1_
      clear n0_ n1_
      (try clear hb)
      (try clear hb2)
      (try clear hk)
      (try clear hi)
      refine hK.out _ _ ⟨(blk_cell BK431.out 0).trans rfl, (blk_cell BK431.out 1).trans rfl⟩ (fun hHeld => ?_)
      clear hK K
      refine norm_ (a' := ?_) ?_ ?_
      rotate_left
      · show Act.put _ (some 14) _ = _
        simp only [Act.put, List.setIfInBounds_toArray, List.set_cons_zero, List.set_cons_succ, i64_w, i32_w]
        rfl
      refine pure_ (i := 6) (N := some 16) (v := ?_) (a' := ?_) #[true, true, true, true, true, true, true, true, true, false, false, false, false] rfl rfl (any_of HT_.out (by kernel_rfl)) (fun _ _ _ h => h) (Or.inl ⟨by rfl, ?_⟩) ?_ ?_
      rotate_left
      · intro w'
        go_simp
        with_reducible rfl
      rotate_left
      · simp only [Act.put, List.setIfInBounds_toArray, List.set_cons_zero, List.set_cons_succ, i64_w, i32_w]
        rfl
      refine one_ (i := 9) (N := some 19) #[true, true, true, true, true, true, true, true, true, true, false, false, false] rfl rfl (one_of HT_.out (by kernel_rfl)) (by decide) (fun K hK => ?_)
      refine goes_ Tryd.func29 (by kernel_rfl) rfl #[.agg #[.int .i64 a0_0, .int .u64 a0_1], .int .u64 a1] (by rfl) rfl rfl (by (try simp only [List.map_toArray, List.map_cons, List.map_nil]); first | done | rfl | (simp only [List.length_drop, List.length_take]; rfl)) ?_
      with_reducible refine (spec_Form_Times2.calls k a0_0 a0_1 a1 t433 _ A6.out).mono ?_
      rintro e w22 ⟨v434, rfl, ho0, hb⟩
      refine ⟨_, rfl, ?_⟩
      have n0_ := Aside0.mk (Kd.R_lower ho0 (below_size (by repeat (first | (with_reducible first | exact HB.out | apply below_alloc | apply pw_below_drewN | apply below_drew1 | refine below_set ?_ GE431.out) | exact HB.out))))
      have n1_ := Aside0.mk (blk_below (g := gb431) (o := .cells #[.int .i64 a0_0, .int .u64 a0_1] 31 (0, 0)) (by (with_reducible repeat (first | refine blk_drewN ?_ _ | refine blk_drew ?_ | refine blk_alloc ?_ _)); exact BK431.out) hb)
      have n2_ := Aside0.mk (below_step (by repeat (first | (with_reducible first | exact HB.out | apply below_alloc | apply pw_below_drewN | apply below_drew1 | refine below_set ?_ GE431.out) | exact HB.out)) hb)
      clear BK431
      clear HB
      have HO435 := n0_
      have BK431 := n1_
      have HB := n2_
      clear n0_ n1_ n2_
      (try clear hb)
      (try clear hb2)
      (try clear hk)
      (try clear hi)
      (try clear ho0)
      obtain ⟨Ao23, co23, eo23⟩ := Kd.R_slice HO435.out
      (first | subst eo23 | (injection eo23 with f1_ f2_ f3_; have f4_ := f1_.symm; have f5_ := f3_.symm; clear f1_ f2_ f3_; subst f4_; subst f5_))
      refine hK.out _ _ ⟨(blk_cell BK431.out 0).trans rfl, (blk_cell BK431.out 1).trans rfl⟩ (fun hHeld => ?_)
      clear hK K
      refine norm_ (a' := ?_) ?_ ?_
      rotate_left
      · show Act.put _ (some 19) _ = _
        simp only [Act.put, List.setIfInBounds_toArray, List.set_cons_zero, List.set_cons_succ, i64_w, i32_w]
        rfl
      refine one_ (i := 10) (N := some 20) #[true, true, true, true, true, true, true, true, true, true, true, false, false] rfl rfl (one_of HT_.out (by kernel_rfl)) (by decide) (fun K hK => ?_)
      refine goes_ Tryd.func28 (by kernel_rfl) rfl #[.slice Ao23 t433.length co23, .int .i64 2] (by rfl) rfl rfl (by (try simp only [List.map_toArray, List.map_cons, List.map_nil]); first | done | rfl | (simp only [List.length_drop, List.length_take]; rfl)) ?_
      with_reducible refine (spec_Shifted.calls k _ _ t433 2 t436 _ ?side1 ?side2 A7.out).mono ?_
      (case side1 => repeat (first | exact (Kd.R_reads' HO435.out).2.2 | (with_reducible refine Kd.C_alloc ?_ _) | (with_reducible refine Kd.C_drewN ?_ _) | (with_reducible refine Kd.C_drew ?_)))
      (case side2 => exact (Kd.R_reads' HO435.out).2.1)
      rintro e w24 ⟨v437, rfl, ho0, hb⟩
      refine ⟨_, rfl, ?_⟩
      have n0_ := Aside0.mk (Kd.R_elder' (by (with_reducible repeat (first | apply Kd.R_alloc | apply Kd.R_drewN | apply Kd.R_drew)); exact HO435.out) (Kd.R_base ho0) hb)
      have n1_ := Aside0.mk (Kd.R_lower (Kd.R_new' ho0 (Kd.R_lt (by (with_reducible repeat (first | apply Kd.R_alloc | apply Kd.R_drewN | apply Kd.R_drew)); exact HO435.out))) (below_size (by repeat (first | (with_reducible first | exact HB.out | apply below_alloc | apply pw_below_drewN | apply below_drew1 | refine below_set ?_ GE431.out) | exact HB.out))))
      have n2_ := Aside0.mk (blk_below (g := gb431) (o := .cells #[.int .i64 a0_0, .int .u64 a0_1] 31 (0, 0)) (by (with_reducible repeat (first | refine blk_drewN ?_ _ | refine blk_drew ?_ | refine blk_alloc ?_ _)); exact BK431.out) hb)
      have n3_ := Aside0.mk (below_step (by repeat (first | (with_reducible first | exact HB.out | apply below_alloc | apply pw_below_drewN | apply below_drew1 | refine below_set ?_ GE431.out) | exact HB.out)) hb)
      clear HO435
      clear BK431
      clear HB
      have HO435 := n0_
      have HO438 := n1_
      have BK431 := n2_
      have HB := n3_
      clear n0_ n1_ n2_ n3_
      (try clear hb)
      (try clear hb2)
      (try clear hk)
      (try clear hi)
      (try clear ho0)
      obtain ⟨Ao25, co25, eo25⟩ := Kd.R_slice HO438.out
      (first | subst eo25 | (injection eo25 with f1_ f2_ f3_; have f4_ := f1_.symm; have f5_ := f3_.symm; clear f1_ f2_ f3_; subst f4_; subst f5_))
      refine hK.out _ _ ⟨(blk_cell BK431.out 0).trans rfl, (blk_cell BK431.out 1).trans rfl⟩ (fun hHeld => ?_)
      clear hK K
      refine norm_ (a' := ?_) ?_ ?_
      rotate_left
      · show Act.put _ (some 20) _ = _
        simp only [Act.put, List.setIfInBounds_toArray, List.set_cons_zero, List.set_cons_succ, i64_w, i32_w]
        rfl
      refine one_ (i := 11) (N := some 21) #[true, true, true, true, true, true, true, true, true, true, true, true, false] rfl rfl (one_of HT_.out (by kernel_rfl)) (by decide) (fun K hK => ?_)
      refine goes_ Tryd.func27 (by kernel_rfl) rfl #[.agg #[.int .i64 a0_0, .int .u64 a0_1], .agg #[.string t432, .int .i64 a3], .slice Ao25 t436.length co25] (by rfl) rfl rfl (by (try simp only [List.map_toArray, List.map_cons, List.map_nil]); first | done | rfl | (simp only [List.length_drop, List.length_take]; rfl)) ?_
      with_reducible refine (spec_Form_against.calls k a0_0 a0_1 t432 a3 _ _ t436 t439 _ ?side1 ?side2 A8.out).mono ?_
      (case side1 => repeat (first | exact (Kd.R_reads' HO438.out).2.2 | (with_reducible refine Kd.C_alloc ?_ _) | (with_reducible refine Kd.C_drewN ?_ _) | (with_reducible refine Kd.C_drew ?_)))
      (case side2 => exact (Kd.R_reads' HO438.out).2.1)
      rintro e w26 ⟨rfl, hb⟩
      refine ⟨_, rfl, ?_⟩
      have n0_ := Aside0.mk (Kd.R_below (by (with_reducible repeat (first | apply Kd.R_alloc | apply Kd.R_drewN | apply Kd.R_drew)); exact HO435.out) hb)
      have n1_ := Aside0.mk (Kd.R_below (by (with_reducible repeat (first | apply Kd.R_alloc | apply Kd.R_drewN | apply Kd.R_drew)); exact HO438.out) hb)
      have n2_ := Aside0.mk (blk_below (g := gb431) (o := .cells #[.int .i64 a0_0, .int .u64 a0_1] 31 (0, 0)) (by (with_reducible repeat (first | refine blk_drewN ?_ _ | refine blk_drew ?_ | refine blk_alloc ?_ _)); exact BK431.out) hb)
      have n3_ := Aside0.mk (below_step (by repeat (first | (with_reducible first | exact HB.out | apply below_alloc | apply pw_below_drewN | apply below_drew1 | refine below_set ?_ GE431.out) | exact HB.out)) hb)
      clear HO435
      clear HO438
      clear BK431
      clear HB
      have HO435 := n0_
      have HO438 := n1_
      have BK431 := n2_
      have HB := n3_
      clear n0_ n1_ n2_ n3_
      (try clear hb)
      (try clear hb2)
      (try clear hk)
      (try clear hi)
      refine hK.out _ _ ⟨(blk_cell BK431.out 0).trans rfl, (blk_cell BK431.out 1).trans rfl⟩ (fun hHeld => ?_)
      clear hK K
      refine norm_ (a' := ?_) ?_ ?_
      rotate_left
      · show Act.put _ (some 21) _ = _
        simp only [Act.put, List.setIfInBounds_toArray, List.set_cons_zero, List.set_cons_succ, i64_w, i32_w]
        rfl
      refine pure_ (i := 12) (N := some 9) (v := ?_) (a' := ?_) #[true, true, true, true, true, true, true, true, true, true, true, true, true] rfl rfl (any_of HT_.out (by kernel_rfl)) (fun _ _ _ h => h) (Or.inl ⟨by rfl, ?_⟩) ?_ ?_
      rotate_left
      · intro w'
        go_simp
        with_reducible rfl
      rotate_left
      · simp only [Act.put, List.setIfInBounds_toArray, List.set_cons_zero, List.set_cons_succ, i64_w, i32_w]
        rfl
      refine done_ (done_of HT_.out (by kernel_rfl)) ?_
      try go_wp2
      go_ret
      exact ⟨by first | rfl | (simp [errW_none, errW_some] <;> rfl) | (simp [*, errW_none, errW_some] <;> rfl), by repeat (first | (with_reducible first | exact HB.out | apply below_alloc | apply pw_below_drewN | apply below_drew1 | refine below_set ?_ GE431.out) | exact HB.out)⟩
    · rw [if_neg c18] at H
      have c18b0 : (t439 == 0) = false := beq_eq_false_iff_ne.mpr c18
      have c18b1 : (t439 != 0) = true := bne_iff_ne.mpr c18
      obtain rfl := Option.some.inj H
      go_enter Tryd.func47, Tryd.ntmps47
      try go_wp2_with (first | ((with_reducible refine gate_dst (N := 4) rfl ?_); refine box_event ?hg (N := 4) ?hd (cs := #[.int .i64 a0_0, .int .u64 a0_1]) (t := 31) ?hr ?_; (case hd => rfl); (case hg => rfl); (case hr => first | (go_simp; done) | (go_simp; rfl)); intro gb431 hg w27 hbox hb; have n0_ := Aside0.mk (below_step (by repeat (first | (with_reducible first | exact HB.out | apply below_alloc | apply pw_below_drewN | apply below_drew1) | exact HB.out)) hb); have n1_ := Aside0.mk (hbox); have n2_ := Aside0.mk ((by rw [hg]; exact (below_size (by repeat (first | (with_reducible first | exact HB.out | apply below_alloc | apply pw_below_drewN | apply below_drew1) | exact HB.out))) : w.heap.size ≤ gb431)); have n3_ := Aside0.mk ((by rw [hg]; exact (below_size (by repeat (first | (with_reducible first | exact HB.out | apply below_alloc | apply pw_below_drewN | apply below_drew1) | exact HB.out))) : w.heap.size ≤ gb431)); clear HB; have HB := n0_; have BK431 := n1_; have GW431 := n2_; have GE431 := n3_; clear n0_ n1_ n2_ n3_; clear hb hbox hg))
      have n0_ := Aside0.mk (blk_drew BK431.out)
      have n1_ := Aside0.mk (below_drew1 HB.out)
      clear BK431
      clear HB
      have BK431 := n0_
      have HB := n1_
      clear n0_ n1_
      refine start_ (n := 13) (S := fun w' => w'.cell? ⟨gb431, 0, none⟩ = some (.int .i64 a0_0) ∧ w'.cell? ⟨gb431, 1, none⟩ = some (.int .u64 a0_1)) (ds := []) #[false, false, false, false, false, false, false, false, false, false, false, false, false] (by kernel_rfl) rfl rfl ⟨(blk_cell BK431.out 0).trans rfl, (blk_cell BK431.out 1).trans rfl⟩ (fun hHeld => ?_); refine with_tabW spec_Form_closer.tab1 spec_Form_closer.bits1 (fun HT_ HW_ => ?_)
      generalize w27.drew = w28 at BK431 HB hHeld ⊢
      refine pure_ (i := 1) (N := some 11) (v := ?_) (a' := ?_) #[false, true, false, false, false, false, false, false, false, false, false, false, false] rfl rfl (any_of HT_.out (by kernel_rfl)) (fun _ _ _ h => h) (Or.inl ⟨by rfl, ?_⟩) ?_ ?_
      rotate_left
      · intro w'
        go_simp
        with_reducible rfl
      rotate_left
      · simp only [Act.put, List.setIfInBounds_toArray, List.set_cons_zero, List.set_cons_succ, i64_w, i32_w]
        rfl
      refine pure_ (i := 2) (N := some 12) (v := ?_) (a' := ?_) #[false, true, true, false, false, false, false, false, false, false, false, false, false] rfl rfl (any_of HT_.out (by kernel_rfl)) (fun _ _ _ h => h) (Or.inl ⟨by rfl, ?_⟩) ?_ ?_
      rotate_left
      · intro w'
        go_simp
        with_reducible rfl
      rotate_left
      · simp only [Act.put, List.setIfInBounds_toArray, List.set_cons_zero, List.set_cons_succ, i64_w, i32_w]
        rfl
      refine pure_ (i := 3) (N := some 13) (v := ?_) (a' := ?_) #[false, true, true, true, false, false, false, false, false, false, false, false, false] rfl rfl (any_of HT_.out (by kernel_rfl)) (fun _ _ _ h => h) (Or.inl ⟨by rfl, ?_⟩) ?_ ?_
      rotate_left
      · intro w'
        go_simp
        with_reducible rfl
      rotate_left
      · simp only [Act.put, List.setIfInBounds_toArray, List.set_cons_zero, List.set_cons_succ, i64_w, i32_w]
        rfl
      refine pure_ (i := 5) (N := some 15) (v := ?_) (a' := ?_) #[false, true, true, true, false, true, false, false, false, false, false, false, false] rfl rfl (any_of HT_.out (by kernel_rfl)) (fun _ _ _ h => h) (Or.inl ⟨by rfl, ?_⟩) ?_ ?_
      rotate_left
      · intro w'
        go_simp
        with_reducible rfl
      rotate_left
      · simp only [Act.put, List.setIfInBounds_toArray, List.set_cons_zero, List.set_cons_succ, i64_w, i32_w]
        rfl
      refine pure_ (i := 8) (N := some 18) (v := ?_) (a' := ?_) #[false, true, true, true, false, true, false, false, true, false, false, false, false] rfl rfl (any_of HT_.out (by kernel_rfl)) (fun _ _ _ h => h) (Or.inl ⟨by rfl, ?_⟩) ?_ ?_
      rotate_left
      · intro w'
        go_simp
        with_reducible rfl
      rotate_left
      · simp only [Act.put, List.setIfInBounds_toArray, List.set_cons_zero, List.set_cons_succ, i64_w, i32_w]
        rfl
      refine take_ (i := 0) (N := some 10) (v := ?_) (a' := ?_) #[true, true, true, true, false, true, false, false, true, false, false, false, false] rfl rfl (take_ofW HT_.out HW_.out (by kernel_rfl)) (fun _ _ _ h => h) (Or.inl ⟨by rfl, ?_⟩) hHeld ?_ ?_
      rotate_left
      · rintro w' ⟨s0, s1⟩
        go_simp
        with_reducible rfl
      rotate_left
      · simp only [Act.put, List.setIfInBounds_toArray, List.set_cons_zero, List.set_cons_succ, i64_w, i32_w]
        rfl
      refine take_ (i := 7) (N := some 17) (v := ?_) (a' := ?_) #[true, true, true, true, false, true, false, true, true, false, false, false, false] rfl rfl (take_ofW HT_.out HW_.out (by kernel_rfl)) (fun _ _ _ h => h) (Or.inl ⟨by rfl, ?_⟩) hHeld ?_ ?_
      rotate_left
      · rintro w' ⟨s0, s1⟩
        go_simp
        with_reducible rfl
      rotate_left
      · simp only [Act.put, List.setIfInBounds_toArray, List.set_cons_zero, List.set_cons_succ, i64_w, i32_w]
        rfl
      refine one_ (i := 4) (N := some 14) #[true, true, true, true, true, true, false, true, true, false, false, false, false] rfl rfl (one_of HT_.out (by kernel_rfl)) (by decide) (fun K hK => ?_)
      refine goes_ Tryd.func46 (by kernel_rfl) rfl #[.int .u64 (IntKind.u64.wrap ((IntKind.u64.wrap (2 * a2)) + 1))] (by rfl) rfl rfl (by (try simp only [List.map_toArray, List.map_cons, List.map_nil]); first | done | rfl | (simp only [List.length_drop, List.length_take]; rfl)) ?_
      with_reducible refine (spec_decimals.calls k (IntKind.u64.wrap ((IntKind.u64.wrap (2 * a2)) + 1)) t432 _ A5.out).mono ?_
      rintro e w29 ⟨rfl, hb⟩
      refine ⟨_, rfl, ?_⟩
      have n0_ := Aside0.mk (blk_below (g := gb431) (o := .cells #[.int .i64 a0_0, .int .u64 a0_1] 31 (0, 0)) (by (with_reducible repeat (first | refine blk_drewN ?_ _ | refine blk_drew ?_ | refine blk_alloc ?_ _)); exact BK431.out) hb)
      have n1_ := Aside0.mk (below_step (by repeat (first | (with_reducible first | exact HB.out | apply below_alloc | apply pw_below_drewN | apply below_drew1 | refine below_set ?_ GE431.out) | exact HB.out)) hb)
      clear BK431
      clear HB
      have BK431 := n0_
      have HB := n1_
      clear n0_ n1_
      (try clear hb)
      (try clear hb2)
      (try clear hk)
      (try clear hi)
      refine hK.out _ _ ⟨(blk_cell BK431.out 0).trans rfl, (blk_cell BK431.out 1).trans rfl⟩ (fun hHeld => ?_)
      clear hK K
      refine norm_ (a' := ?_) ?_ ?_
      rotate_left
      · show Act.put _ (some 14) _ = _
        simp only [Act.put, List.setIfInBounds_toArray, List.set_cons_zero, List.set_cons_succ, i64_w, i32_w]
        rfl
      refine pure_ (i := 6) (N := some 16) (v := ?_) (a' := ?_) #[true, true, true, true, true, true, true, true, true, false, false, false, false] rfl rfl (any_of HT_.out (by kernel_rfl)) (fun _ _ _ h => h) (Or.inl ⟨by rfl, ?_⟩) ?_ ?_
      rotate_left
      · intro w'
        go_simp
        with_reducible rfl
      rotate_left
      · simp only [Act.put, List.setIfInBounds_toArray, List.set_cons_zero, List.set_cons_succ, i64_w, i32_w]
        rfl
      refine one_ (i := 9) (N := some 19) #[true, true, true, true, true, true, true, true, true, true, false, false, false] rfl rfl (one_of HT_.out (by kernel_rfl)) (by decide) (fun K hK => ?_)
      refine goes_ Tryd.func29 (by kernel_rfl) rfl #[.agg #[.int .i64 a0_0, .int .u64 a0_1], .int .u64 a1] (by rfl) rfl rfl (by (try simp only [List.map_toArray, List.map_cons, List.map_nil]); first | done | rfl | (simp only [List.length_drop, List.length_take]; rfl)) ?_
      with_reducible refine (spec_Form_Times2.calls k a0_0 a0_1 a1 t433 _ A6.out).mono ?_
      rintro e w30 ⟨v434, rfl, ho0, hb⟩
      refine ⟨_, rfl, ?_⟩
      have n0_ := Aside0.mk (Kd.R_lower ho0 (below_size (by repeat (first | (with_reducible first | exact HB.out | apply below_alloc | apply pw_below_drewN | apply below_drew1 | refine below_set ?_ GE431.out) | exact HB.out))))
      have n1_ := Aside0.mk (blk_below (g := gb431) (o := .cells #[.int .i64 a0_0, .int .u64 a0_1] 31 (0, 0)) (by (with_reducible repeat (first | refine blk_drewN ?_ _ | refine blk_drew ?_ | refine blk_alloc ?_ _)); exact BK431.out) hb)
      have n2_ := Aside0.mk (below_step (by repeat (first | (with_reducible first | exact HB.out | apply below_alloc | apply pw_below_drewN | apply below_drew1 | refine below_set ?_ GE431.out) | exact HB.out)) hb)
      clear BK431
      clear HB
      have HO435 := n0_
      have BK431 := n1_
      have HB := n2_
      clear n0_ n1_ n2_
      (try clear hb)
      (try clear hb2)
      (try clear hk)
      (try clear hi)
      (try clear ho0)
      obtain ⟨Ao31, co31, eo31⟩ := Kd.R_slice HO435.out
      (first | subst eo31 | (injection eo31 with f1_ f2_ f3_; have f4_ := f1_.symm; have f5_ := f3_.symm; clear f1_ f2_ f3_; subst f4_; subst f5_))
      refine hK.out _ _ ⟨(blk_cell BK431.out 0).trans rfl, (blk_cell BK431.out 1).trans rfl⟩ (fun hHeld => ?_)
      clear hK K
      refine norm_ (a' := ?_) ?_ ?_
      rotate_left
      · show Act.put _ (some 19) _ = _
        simp only [Act.put, List.setIfInBounds_toArray, List.set_cons_zero, List.set_cons_succ, i64_w, i32_w]
        rfl
      refine one_ (i := 10) (N := some 20) #[true, true, true, true, true, true, true, true, true, true, true, false, false] rfl rfl (one_of HT_.out (by kernel_rfl)) (by decide) (fun K hK => ?_)
      refine goes_ Tryd.func28 (by kernel_rfl) rfl #[.slice Ao31 t433.length co31, .int .i64 2] (by rfl) rfl rfl (by (try simp only [List.map_toArray, List.map_cons, List.map_nil]); first | done | rfl | (simp only [List.length_drop, List.length_take]; rfl)) ?_
      with_reducible refine (spec_Shifted.calls k _ _ t433 2 t436 _ ?side1 ?side2 A7.out).mono ?_
      (case side1 => repeat (first | exact (Kd.R_reads' HO435.out).2.2 | (with_reducible refine Kd.C_alloc ?_ _) | (with_reducible refine Kd.C_drewN ?_ _) | (with_reducible refine Kd.C_drew ?_)))
      (case side2 => exact (Kd.R_reads' HO435.out).2.1)
      rintro e w32 ⟨v437, rfl, ho0, hb⟩
      refine ⟨_, rfl, ?_⟩
      have n0_ := Aside0.mk (Kd.R_elder' (by (with_reducible repeat (first | apply Kd.R_alloc | apply Kd.R_drewN | apply Kd.R_drew)); exact HO435.out) (Kd.R_base ho0) hb)
      have n1_ := Aside0.mk (Kd.R_lower (Kd.R_new' ho0 (Kd.R_lt (by (with_reducible repeat (first | apply Kd.R_alloc | apply Kd.R_drewN | apply Kd.R_drew)); exact HO435.out))) (below_size (by repeat (first | (with_reducible first | exact HB.out | apply below_alloc | apply pw_below_drewN | apply below_drew1 | refine below_set ?_ GE431.out) | exact HB.out))))
      have n2_ := Aside0.mk (blk_below (g := gb431) (o := .cells #[.int .i64 a0_0, .int .u64 a0_1] 31 (0, 0)) (by (with_reducible repeat (first | refine blk_drewN ?_ _ | refine blk_drew ?_ | refine blk_alloc ?_ _)); exact BK431.out) hb)
      have n3_ := Aside0.mk (below_step (by repeat (first | (with_reducible first | exact HB.out | apply below_alloc | apply pw_below_drewN | apply below_drew1 | refine below_set ?_ GE431.out) | exact HB.out)) hb)
      clear HO435
      clear BK431
      clear HB
      have HO435 := n0_
      have HO438 := n1_
      have BK431 := n2_
      have HB := n3_
      clear n0_ n1_ n2_ n3_
      (try clear hb)
      (try clear hb2)
      (try clear hk)
      (try clear hi)
      (try clear ho0)
      obtain ⟨Ao33, co33, eo33⟩ := Kd.R_slice HO438.out
      (first | subst eo33 | (injection eo33 with f1_ f2_ f3_; have f4_ := f1_.symm; have f5_ := f3_.symm; clear f1_ f2_ f3_; subst f4_; subst f5_))
      refine hK.out _ _ ⟨(blk_cell BK431.out 0).trans rfl, (blk_cell BK431.out 1).trans rfl⟩ (fun hHeld => ?_)
      clear hK K
      refine norm_ (a' := ?_) ?_ ?_
      rotate_left
      · show Act.put _ (some 20) _ = _
        simp only [Act.put, List.setIfInBounds_toArray, List.set_cons_zero, List.set_cons_succ, i64_w, i32_w]
        rfl
      refine one_ (i := 11) (N := some 21) #[true, true, true, true, true, true, true, true, true, true, true, true, false] rfl rfl (one_of HT_.out (by kernel_rfl)) (by decide) (fun K hK => ?_)
      refine goes_ Tryd.func27 (by kernel_rfl) rfl #[.agg #[.int .i64 a0_0, .int .u64 a0_1], .agg #[.string t432, .int .i64 a3], .slice Ao33 t436.length co33] (by rfl) rfl rfl (by (try simp only [List.map_toArray, List.map_cons, List.map_nil]); first | done | rfl | (simp only [List.length_drop, List.length_take]; rfl)) ?_
      with_reducible refine (spec_Form_against.calls k a0_0 a0_1 t432 a3 _ _ t436 t439 _ ?side1 ?side2 A8.out).mono ?_
      (case side1 => repeat (first | exact (Kd.R_reads' HO438.out).2.2 | (with_reducible refine Kd.C_alloc ?_ _) | (with_reducible refine Kd.C_drewN ?_ _) | (with_reducible refine Kd.C_drew ?_)))
      (case side2 => exact (Kd.R_reads' HO438.out).2.1)
      rintro e w34 ⟨rfl, hb⟩
      refine ⟨_, rfl, ?_⟩
      have n0_ := Aside0.mk (Kd.R_below (by (with_reducible repeat (first | apply Kd.R_alloc | apply Kd.R_drewN | apply Kd.R_drew)); exact HO435.out) hb)
      have n1_ := Aside0.mk (Kd.R_below (by (with_reducible repeat (first | apply Kd.R_alloc | apply Kd.R_drewN | apply Kd.R_drew)); exact HO438.out) hb)
      have n2_ := Aside0.mk (blk_below (g := gb431) (o := .cells #[.int .i64 a0_0, .int .u64 a0_1] 31 (0, 0)) (by (with_reducible repeat (first | refine blk_drewN ?_ _ | refine blk_drew ?_ | refine blk_alloc ?_ _)); exact BK431.out) hb)
      have n3_ := Aside0.mk (below_step (by repeat (first | (with_reducible first | exact HB.out | apply below_alloc | apply pw_below_drewN | apply below_drew1 | refine below_set ?_ GE431.out) | exact HB.out)) hb)
      clear HO435
      clear HO438
      clear BK431
      clear HB
      have HO435 := n0_
      have HO438 := n1_
      have BK431 := n2_
      have HB := n3_
      clear n0_ n1_ n2_ n3_
      (try clear hb)
      (try clear hb2)
      (try clear hk)
      (try clear hi)
      refine hK.out _ _ ⟨(blk_cell BK431.out 0).trans rfl, (blk_cell BK431.out 1).trans rfl⟩ (fun hHeld => ?_)
      clear hK K
      refine norm_ (a' := ?_) ?_ ?_
      rotate_left
      · show Act.put _ (some 21) _ = _
        simp only [Act.put, List.setIfInBounds_toArray, List.set_cons_zero, List.set_cons_succ, i64_w, i32_w]
        rfl
      refine pure_ (i := 12) (N := some 9) (v := ?_) (a' := ?_) #[true, true, true, true, true, true, true, true, true, true, true, true, true] rfl rfl (any_of HT_.out (by kernel_rfl)) (fun _ _ _ h => h) (Or.inl ⟨by rfl, ?_⟩) ?_ ?_
      rotate_left
      · intro w'
        go_simp
        with_reducible rfl
      rotate_left
      · simp only [Act.put, List.setIfInBounds_toArray, List.set_cons_zero, List.set_cons_succ, i64_w, i32_w]
        rfl
      refine done_ (done_of HT_.out (by kernel_rfl)) ?_
      try go_wp2
      go_ret
      exact ⟨by first | rfl | (simp [errW_none, errW_some] <;> rfl) | (simp [*, errW_none, errW_some] <;> rfl), by repeat (first | (with_reducible first | exact HB.out | apply below_alloc | apply pw_below_drewN | apply below_drew1 | refine below_set ?_ GE431.out) | exact HB.out)⟩

end Go.Proofs.YtiopeaponffmdaaDoor.PAll
-- YtiopeaponffmdaaDoorNd
namespace Go.Proofs.YtiopeaponffmdaaDoor.PAll
open Go.RowKit Go.Proofs.YtiopeaponffmdaaDoorW.PrintWords Go.Proofs.YtiopeaponffmdaaDoorW.PrintLast Go.Proofs.YtiopeaponffmdaaDoorW.PrintMore

theorem w64 (x : Int) (h0 : -1000000000 ≤ x) (h1 : x ≤ 1000000000) : wrap64 x = x := by unfold wrap64; omega
theorem str_dec (n : Nat) : dvl (bytesOf (strOfNums (dec n))) = n := by rw [bt_dec_strOfNums (dec_digit n), dvl_dec]
theorem str_dec_digit (n : Nat) : ∀ b ∈ bytesOf (strOfNums (dec n)), 48 ≤ b ∧ b ≤ 57 := by rw [bt_dec_strOfNums (dec_digit n)]; exact dec_digit n
theorem str_dec_size (n : Nat) (hn : n < 18446744073709551616) : (strOfNums (dec n)).size ≤ 20 := by
  rw [strOfNums_size]
  exact dec_length_le 19 n (Nat.lt_trans hn (by decide))
theorem dg_two_mul (H m : Nat) (h : (dg H).length ≤ m) : (dg (H * 2 ^ 1)).length ≤ m + 2 := by
  have h1 := dg_mul_len H (2 ^ 1)
  have h2 := dg_pow_len 2 1 (by decide)
  omega

theorem top_ev (f code : Nat) (most : Int) (hf : f = 52 ∨ f = 23) (hc : code < 18446744073709551616) (hc2 : code / 2 ^ f ≤ 2100) :
    ∃ r : Int, -330 ≤ r ∧ r ≤ 310 ∧ (r = -330 ∨ agn f 1 r (T2 f code * 2 ^ 1) ≤ 0) ∧ (r = 310 ∨ ¬ agn f 1 (r + 1) (T2 f code * 2 ^ 1) ≤ 0) ∧
      Ev (fun k => spec_Form_top.f k (f : Int) most (code : Int)) (r + 1) := by
  have hT := T2_len f code hf hc2
  have hS := Shifted_ev (dg (T2 f code)) 1 (Dg_dg _) (by omega) (by decide)
  rw [nv_dg] at hS
  obtain ⟨H, hH⟩ : ∃ H, H = T2 f code * 2 ^ 1 := ⟨_, rfl⟩
  have hHl : (dg H).length ≤ 1000 := by
    have := dg_two_mul _ _ hT
    rw [hH]; omega
  rw [← hH] at hS ⊢
  have stop : ∀ lo : Int, -330 ≤ lo → lo ≤ 310 → Ev (fun k => spec_Form_top.l0 k lo lo (dg H) (f : Int) most) (lo + 1) := by
    intro lo h1 h2
    refine Ev.succ (g := fun _ => some (lo + 1)) (fun k => ?_) (Ev.pure _)
    rw [spec_Form_top.l0, if_neg (by omega), w64 _ (by omega) (by omega)]
  have main : ∀ (n : Nat) (lo hi : Int), (hi - lo).toNat ≤ n → -330 ≤ lo → lo ≤ hi → hi ≤ 310 →
      ∃ r : Int, lo ≤ r ∧ r ≤ hi ∧ (r = lo ∨ agn f 1 r H ≤ 0) ∧ (r = hi ∨ ¬ agn f 1 (r + 1) H ≤ 0) ∧ Ev (fun k => spec_Form_top.l0 k lo hi (dg H) (f : Int) most) (r + 1) := by
    intro n
    induction n with
    | zero =>
      intro lo hi h1 h2 h3 h4
      obtain rfl : hi = lo := by omega
      exact ⟨hi, by omega, by omega, .inl rfl, .inl rfl, stop hi h2 h4⟩
    | succ n ih =>
      intro lo hi h1 h2 h3 h4
      by_cases hlt : lo < hi
      · obtain ⟨mid, hmid⟩ : ∃ m, m = lo + (hi - lo + 1) / 2 := ⟨_, rfl⟩
        have em : wrap64 (lo + (wrap64 (Int.tdiv (wrap64 ((wrap64 (hi - lo)) + 1)) 2))) = mid := by
          rw [w64 (hi - lo) (by omega) (by omega), w64 (hi - lo + 1) (by omega) (by omega), Int.tdiv_eq_ediv_of_nonneg (by omega), w64 ((hi - lo + 1) / 2) (by omega) (by omega), ← hmid, w64 _ (by omega) (by omega)]
        have em2 : wrap64 (mid - 1) = mid - 1 := w64 _ (by omega) (by omega)
        have eb : bytesOf (⟨#[49]⟩ : ByteArray) = [49] := rfl
        have hA := against_ev f most mid (⟨#[49]⟩ : ByteArray) H (by decide) (by rw [eb]; simp) (by omega) (by omega) hHl
        rw [eb, show dvl [49] = 1 from rfl] at hA
        have hg : ∀ k, spec_Form_top.l0 (k + 1) lo hi (dg H) (f : Int) most = (spec_Form_against.f k (f : Int) most (⟨#[49]⟩ : ByteArray) mid (dg H)).bind fun t => if t ≤ 0 then spec_Form_top.l0 k mid hi (dg H) (f : Int) most else spec_Form_top.l0 k lo (mid - 1) (dg H) (f : Int) most := by
          intro k
          rw [spec_Form_top.l0, if_pos hlt, em, em2]
        by_cases ht : agn f 1 mid H ≤ 0
        · obtain ⟨r, r1, r2, r3, r4, r5⟩ := ih mid hi (by omega) (by omega) (by omega) (by omega)
          refine ⟨r, by omega, r2, .inr ?_, r4, Ev.succ hg (Ev.bind hA (Ev.congr r5 (fun k => if_pos ht)))⟩
          rcases r3 with rfl | r3
          · exact ht
          · exact r3
        · obtain ⟨r, r1, r2, r3, r4, r5⟩ := ih lo (mid - 1) (by omega) (by omega) (by omega) (by omega)
          refine ⟨r, r1, by omega, r3, .inr ?_, Ev.succ hg (Ev.bind hA (Ev.congr r5 (fun k => if_neg ht)))⟩
          rcases r4 with rfl | r4
          · rw [show mid - 1 + 1 = mid by omega]; exact ht
          · exact r4
      · obtain rfl : hi = lo := by omega
        exact ⟨hi, by omega, by omega, .inl rfl, .inl rfl, stop hi h2 h4⟩
  obtain ⟨r, r1, r2, r3, r4, r5⟩ := main 640 (-330) 310 (by decide) (by decide) (by decide) (by decide)
  refine ⟨r, r1, r2, r3, r4, ?_⟩
  exact Ev.congr (Ev.bind (h := fun k t => (spec_Shifted.f k t ((1 : Nat) : Int)).bind fun u => spec_Form_top.l0 k (-330) 310 u (f : Int) most) (Times2_ev f code most hf hc hc2) (Ev.bind hS r5)) (fun k => rfl)

theorem below_ev (f code : Nat) (most pw : Int) (hf : f = 52 ∨ f = 23) (hc : code < 18446744073709551616) (hc2 : code / 2 ^ f ≤ 2100) (hp0 : -3000 ≤ pw) (hp1 : pw ≤ 3000) :
    ∃ r : Nat, r ≤ 99999999999999999 ∧ (r = 0 ∨ agn f r pw (T2 f code * 2 ^ 1) ≤ 0) ∧ (r = 99999999999999999 ∨ ¬ agn f (r + 1) pw (T2 f code * 2 ^ 1) ≤ 0) ∧
      Ev (fun k => spec_Form_below.f k (f : Int) most (code : Int) pw) (r : Int) := by
  have hT := T2_len f code hf hc2
  have hS := Shifted_ev (dg (T2 f code)) 1 (Dg_dg _) (by omega) (by decide)
  rw [nv_dg] at hS
  obtain ⟨H, hH⟩ : ∃ H, H = T2 f code * 2 ^ 1 := ⟨_, rfl⟩
  have hHl : (dg H).length ≤ 1000 := by
    have := dg_two_mul _ _ hT
    rw [hH]; omega
  rw [← hH] at hS ⊢
  have stop : ∀ lo : Nat, Ev (fun k => spec_Form_below.l0 k pw (lo : Int) (lo : Int) (dg H) (f : Int) most) (lo : Int) := by
    intro lo
    refine Ev.succ (g := fun _ => some (lo : Int)) (fun k => ?_) (Ev.pure _)
    rw [spec_Form_below.l0, if_neg (by omega)]
  have main : ∀ (n lo hi : Nat), hi - lo < 2 ^ n → lo ≤ hi → hi ≤ 99999999999999999 →
      ∃ r : Nat, lo ≤ r ∧ r ≤ hi ∧ (r = lo ∨ agn f r pw H ≤ 0) ∧ (r = hi ∨ ¬ agn f (r + 1) pw H ≤ 0) ∧ Ev (fun k => spec_Form_below.l0 k pw (lo : Int) (hi : Int) (dg H) (f : Int) most) (r : Int) := by
    intro n
    induction n with
    | zero =>
      intro lo hi h1 h3 h4
      obtain rfl : hi = lo := by rw [Nat.pow_zero] at h1; omega
      exact ⟨hi, by omega, by omega, .inl rfl, .inl rfl, stop hi⟩
    | succ n ih =>
      intro lo hi h1 h3 h4
      rw [Nat.pow_succ] at h1
      by_cases hlt : lo < hi
      · obtain ⟨mid, hmid⟩ : ∃ m, m = lo + (hi - lo + 1) / 2 := ⟨_, rfl⟩
        have em : (IntKind.u64.wrap ((lo : Int) + (IntKind.u64.wrap (Int.tdiv (IntKind.u64.wrap ((IntKind.u64.wrap ((hi : Int) - (lo : Int))) + 1)) 2)))) = (mid : Int) := by
          rw [wrapu ((hi : Int) - (lo : Int)) (by omega) (by omega), wrapu ((hi : Int) - (lo : Int) + 1) (by omega) (by omega), Int.tdiv_eq_ediv_of_nonneg (by omega), wrapu (((hi : Int) - (lo : Int) + 1) / 2) (by omega) (by omega), wrapu _ (by omega) (by omega)]
          omega
        have em2 : IntKind.u64.wrap ((mid : Int) - 1) = ((mid - 1 : Nat) : Int) := by rw [wrapu _ (by omega) (by omega)]; omega
        have hD := decimals_ev mid (by omega)
        have hA := against_ev f most pw (strOfNums (dec mid)) H (by have := str_dec_size mid (by omega); omega) (str_dec_digit mid) hp0 hp1 hHl
        rw [str_dec] at hA
        have hg : ∀ k, spec_Form_below.l0 (k + 1) pw (lo : Int) (hi : Int) (dg H) (f : Int) most = (spec_decimals.f k (mid : Int)).bind fun s => (spec_Form_against.f k (f : Int) most s pw (dg H)).bind fun t => if t ≤ 0 then spec_Form_below.l0 k pw (mid : Int) (hi : Int) (dg H) (f : Int) most else spec_Form_below.l0 k pw (lo : Int) ((mid - 1 : Nat) : Int) (dg H) (f : Int) most := by
          intro k
          rw [spec_Form_below.l0, if_pos (by omega), em, em2]
        by_cases ht : agn f mid pw H ≤ 0
        · obtain ⟨r, r1, r2, r3, r4, r5⟩ := ih mid hi (by omega) (by omega) (by omega)
          refine ⟨r, by omega, r2, .inr ?_, r4, Ev.succ hg (Ev.bind (h := fun k s => (spec_Form_against.f k (f : Int) most s pw (dg H)).bind fun t => if t ≤ 0 then spec_Form_below.l0 k pw (mid : Int) (hi : Int) (dg H) (f : Int) most else spec_Form_below.l0 k pw (lo : Int) ((mid - 1 : Nat) : Int) (dg H) (f : Int) most) hD (Ev.bind hA (Ev.congr r5 (fun k => if_pos ht))))⟩
          rcases r3 with rfl | r3
          · exact ht
          · exact r3
        · obtain ⟨r, r1, r2, r3, r4, r5⟩ := ih lo (mid - 1) (by omega) (by omega) (by omega)
          refine ⟨r, r1, by omega, r3, .inr ?_, Ev.succ hg (Ev.bind (h := fun k s => (spec_Form_against.f k (f : Int) most s pw (dg H)).bind fun t => if t ≤ 0 then spec_Form_below.l0 k pw (mid : Int) (hi : Int) (dg H) (f : Int) most else spec_Form_below.l0 k pw (lo : Int) ((mid - 1 : Nat) : Int) (dg H) (f : Int) most) hD (Ev.bind hA (Ev.congr r5 (fun k => if_neg ht))))⟩
          rcases r4 with rfl | r4
          · rw [show mid - 1 + 1 = mid by omega]; exact ht
          · exact r4
      · obtain rfl : hi = lo := by omega
        exact ⟨hi, by omega, by omega, .inl rfl, .inl rfl, stop hi⟩
  obtain ⟨r, r1, r2, r3, r4, r5⟩ := main 57 0 99999999999999999 (by decide) (by decide) (by decide)
  refine ⟨r, r2, r3, r4, ?_⟩
  exact Ev.congr (Ev.bind (h := fun k t => (spec_Shifted.f k t ((1 : Nat) : Int)).bind fun u => spec_Form_below.l0 k pw ((0 : Nat) : Int) ((99999999999999999 : Nat) : Int) u (f : Int) most) (Times2_ev f code most hf hc hc2) (Ev.bind hS r5)) (fun k => rfl)

/-- is D * 10^p read as the number with a code? -/
def readsB (f code D : Nat) (p : Int) : Bool :=
  decide ((0 < agn f D p (T2 f (code - 1) + T2 f code) ∨ (code % 2 = 0 ∧ agn f D p (T2 f (code - 1) + T2 f code) = 0)) ∧
    (agn f D p (T2 f code + T2 f (code + 1)) < 0 ∨ (code % 2 = 0 ∧ agn f D p (T2 f code + T2 f (code + 1)) = 0)))

theorem T2_add_len (f a b : Nat) (hf : f = 52 ∨ f = 23) (ha : a / 2 ^ f ≤ 2100) (hb : b / 2 ^ f ≤ 2100) : (dg (T2 f a + T2 f b)).length ≤ 1000 := by
  have h1 := lt_dg_length (T2 f a)
  have h2 := lt_dg_length (T2 f b)
  have h3 := T2_len f a hf ha
  have h4 := T2_len f b hf hb
  have k1 : T2 f a < 4294967296 ^ 200 := Nat.lt_of_lt_of_le h1 (Nat.pow_le_pow_right (by decide) h3)
  have k2 : T2 f b < 4294967296 ^ 200 := Nat.lt_of_lt_of_le h2 (Nat.pow_le_pow_right (by decide) h4)
  refine Nat.le_trans (dg_length (m := 201) ?_) (by decide)
  rw [Nat.pow_succ]
  omega

theorem reads_ev (f code : Nat) (most p : Int) (s : ByteArray) (hf : f = 52 ∨ f = 23) (h0 : 1 ≤ code) (hc : code < 18446744073709551000) (hc2 : (code + 1) / 2 ^ f ≤ 2100)
    (hs : s.size ≤ 1000) (hd : ∀ b ∈ bytesOf s, 48 ≤ b ∧ b ≤ 57) (hp0 : -3000 ≤ p) (hp1 : p ≤ 3000) :
    Ev (fun k => spec_Form_reads.f k (f : Int) most s p (code : Int)) (readsB f code (dvl (bytesOf s)) p) := by
  have q1 : code / 2 ^ f ≤ 2100 := Nat.le_trans (Nat.div_le_div_right (by omega)) hc2
  have q0 : (code - 1) / 2 ^ f ≤ 2100 := Nat.le_trans (Nat.div_le_div_right (by omega)) hc2
  have t0 := Times2_ev f (code - 1) most hf (by omega) q0
  have t1 := Times2_ev f code most hf (by omega) q1
  have t2 := Times2_ev f (code + 1) most hf (by omega) hc2
  have l0 := T2_add_len f (code - 1) code hf q0 q1
  have l1 := T2_add_len f code (code + 1) hf q1 hc2
  have a0 := Add_ev (dg (T2 f (code - 1))) (dg (T2 f code)) (Dg_dg _) (Dg_dg _) (by have := T2_len f (code - 1) hf q0; omega) (by have := T2_len f code hf q1; omega)
  have a1 := Add_ev (dg (T2 f code)) (dg (T2 f (code + 1))) (Dg_dg _) (Dg_dg _) (by have := T2_len f code hf q1; omega) (by have := T2_len f (code + 1) hf hc2; omega)
  rw [nv_dg, nv_dg] at a0 a1
  have g0 := against_ev f most p s (T2 f (code - 1) + T2 f code) hs hd hp0 hp1 l0
  have g1 := against_ev f most p s (T2 f code + T2 f (code + 1)) hs hd hp0 hp1 l1
  have e1 : IntKind.u64.wrap ((code : Int) + 1) = ((code + 1 : Nat) : Int) := by rw [wrapu _ (by omega) (by omega)]; omega
  have e0 : IntKind.u64.wrap ((code : Int) - 1) = ((code - 1 : Nat) : Int) := by rw [wrapu _ (by omega) (by omega)]; omega
  have em : Int.tmod (code : Int) 2 = ((code % 2 : Nat) : Int) := rfl
  unfold readsB
  generalize agn f (dvl (bytesOf s)) p (T2 f (code - 1) + T2 f code) = c0 at *
  generalize agn f (dvl (bytesOf s)) p (T2 f code + T2 f (code + 1)) = c1 at *
  -- the second half
  have half : Ev (fun k => spec_Form_reads.j0 k (code : Int) (f : Int) most s p) (decide (c1 < 0 ∨ (code % 2 = 0 ∧ c1 = 0))) := by
    refine Ev.succ (g := fun k => (spec_Form_Times2.f k (f : Int) most (code : Int)).bind fun t421 => (spec_Form_Times2.f k (f : Int) most ((code + 1 : Nat) : Int)).bind fun t424 => (spec_Add.f k t421 t424).bind fun t427 => (spec_Form_against.f k (f : Int) most s p t427).bind fun t430 => if t430 < 0 then some true else if t430 = 0 then some (Int.tmod (code : Int) 2 == 0) else some false) (fun k => ?_) ?_
    · rw [spec_Form_reads.j0, e1]
    · refine Ev.bind t1 (Ev.bind t2 (Ev.bind a1 (Ev.bind g1 (Ev.congr (Ev.pure _) (fun k => ?_)))))
      rw [em]
      by_cases h : c1 < 0
      · rw [if_pos h]; simp [h]
      · rw [if_neg h]
        by_cases hz : c1 = 0
        · rw [if_pos hz]
          congr 1
          by_cases hm : code % 2 = 0
          · simp [hz, hm]
          · have : (((code % 2 : Nat) : Int) == 0) = false := by rw [beq_eq_false_iff_ne]; omega
            rw [this]; simp [hz, hm]
        · rw [if_neg hz]; simp [h, hz]
  refine Ev.congr (f := fun k => spec_Form_reads.f k (f : Int) most s p (code : Int)) (g := fun k => (spec_Form_Times2.f k (f : Int) most ((code - 1 : Nat) : Int)).bind fun t411 => (spec_Form_Times2.f k (f : Int) most (code : Int)).bind fun t414 => (spec_Add.f k t411 t414).bind fun t417 => (spec_Form_against.f k (f : Int) most s p t417).bind fun t420 => if t420 < 0 then some false else if t420 = 0 then (if Int.tmod (code : Int) 2 = 1 then some false else spec_Form_reads.j0 k (code : Int) (f : Int) most s p) else spec_Form_reads.j0 k (code : Int) (f : Int) most s p) ?_ (fun k => ?_)
  · refine Ev.bind t0 (Ev.bind t1 (Ev.bind a0 (Ev.bind g0 ?_)))
    rw [em]
    by_cases h : c0 < 0
    · refine Ev.congr (g := fun _ => some false) ?_ (fun k => by rw [if_pos h])
      have : decide ((0 < c0 ∨ code % 2 = 0 ∧ c0 = 0) ∧ (c1 < 0 ∨ code % 2 = 0 ∧ c1 = 0)) = false := by rw [decide_eq_false_iff_not]; omega
      rw [this]; exact Ev.pure _
    · by_cases hz : c0 = 0
      · by_cases hm : code % 2 = 1
        · refine Ev.congr (g := fun _ => some false) ?_ (fun k => by rw [if_neg h, if_pos hz, if_pos (by omega)])
          have : decide ((0 < c0 ∨ code % 2 = 0 ∧ c0 = 0) ∧ (c1 < 0 ∨ code % 2 = 0 ∧ c1 = 0)) = false := by rw [decide_eq_false_iff_not]; omega
          rw [this]; exact Ev.pure _
        · refine Ev.congr (g := fun k => spec_Form_reads.j0 k (code : Int) (f : Int) most s p) ?_ (fun k => by rw [if_neg h, if_pos hz, if_neg (by omega)])
          have : decide ((0 < c0 ∨ code % 2 = 0 ∧ c0 = 0) ∧ (c1 < 0 ∨ code % 2 = 0 ∧ c1 = 0)) = decide (c1 < 0 ∨ code % 2 = 0 ∧ c1 = 0) := by
            rw [decide_eq_decide]
            exact ⟨fun x => x.2, fun x => ⟨.inr ⟨by omega, hz⟩, x⟩⟩
          rw [this]; exact half
      · refine Ev.congr (g := fun k => spec_Form_reads.j0 k (code : Int) (f : Int) most s p) ?_ (fun k => by rw [if_neg h, if_neg hz])
        have : decide ((0 < c0 ∨ code % 2 = 0 ∧ c0 = 0) ∧ (c1 < 0 ∨ code % 2 = 0 ∧ c1 = 0)) = decide (c1 < 0 ∨ code % 2 = 0 ∧ c1 = 0) := by
          rw [decide_eq_decide]
          exact ⟨fun x => x.2, fun x => ⟨.inl (by omega), x⟩⟩
        rw [this]; exact half
  · rw [spec_Form_reads.f, if_pos (by omega), e0]

theorem closer_ev (f code q : Nat) (most p : Int) (hf : f = 52 ∨ f = 23) (hc : code < 18446744073709551616) (hc2 : code / 2 ^ f ≤ 2100) (hq : q ≤ 1000000000000000000) (hp0 : -3000 ≤ p) (hp1 : p ≤ 3000) :
    Ev (fun k => spec_Form_closer.f k (f : Int) most (code : Int) (q : Int) p) (decide (agn f (2 * q + 1) p (T2 f code * 2 ^ 2) < 0 ∨ (agn f (2 * q + 1) p (T2 f code * 2 ^ 2) = 0 ∧ q % 2 = 1))) := by
  have hT := T2_len f code hf hc2
  have hS := Shifted_ev (dg (T2 f code)) 2 (Dg_dg _) (by omega) (by decide)
  rw [nv_dg] at hS
  have hl : (dg (T2 f code * 2 ^ 2)).length ≤ 1000 := by
    have h1 := dg_mul_len (T2 f code) (2 ^ 2)
    have h2 := dg_pow_len 2 2 (by decide)
    omega
  have hD := decimals_ev (2 * q + 1) (by omega)
  have hA := against_ev f most p (strOfNums (dec (2 * q + 1))) (T2 f code * 2 ^ 2) (by have := str_dec_size (2 * q + 1) (by omega); omega) (str_dec_digit _) hp0 hp1 hl
  rw [str_dec] at hA
  have e1 : IntKind.u64.wrap ((IntKind.u64.wrap (2 * (q : Int))) + 1) = ((2 * q + 1 : Nat) : Int) := by
    rw [wrapu (2 * (q : Int)) (by omega) (by omega), wrapu _ (by omega) (by omega)]; omega
  have em : Int.tmod (q : Int) 2 = ((q % 2 : Nat) : Int) := rfl
  generalize agn f (2 * q + 1) p (T2 f code * 2 ^ 2) = c at *
  refine Ev.congr (g := fun k => (spec_decimals.f k ((2 * q + 1 : Nat) : Int)).bind fun t432 => (spec_Form_Times2.f k (f : Int) most (code : Int)).bind fun t433 => (spec_Shifted.f k t433 ((2 : Nat) : Int)).bind fun t436 => (spec_Form_against.f k (f : Int) most t432 p t436).bind fun t439 => if t439 < 0 then some true else if t439 = 0 then some (Int.tmod (q : Int) 2 == 1) else some false) ?_ (fun k => ?_)
  · refine Ev.bind (h := fun k t432 => (spec_Form_Times2.f k (f : Int) most (code : Int)).bind fun t433 => (spec_Shifted.f k t433 ((2 : Nat) : Int)).bind fun t436 => (spec_Form_against.f k (f : Int) most t432 p t436).bind fun t439 => if t439 < 0 then some true else if t439 = 0 then some (Int.tmod (q : Int) 2 == 1) else some false) hD (Ev.bind (Times2_ev f code most hf hc hc2) (Ev.bind hS (Ev.bind hA (Ev.congr (Ev.pure _) (fun k => ?_)))))
    rw [em]
    by_cases h : c < 0
    · rw [if_pos h]; simp [h]
    · rw [if_neg h]
      by_cases hz : c = 0
      · rw [if_pos hz]
        congr 1
        by_cases hm : q % 2 = 1
        · simp [hz, hm]
        · have : (((q % 2 : Nat) : Int) == 1) = false := by rw [beq_eq_false_iff_ne]; omega
          rw [this]; simp [hz, hm]
      · rw [if_neg hz]; simp [h, hz]
  · rw [spec_Form_closer.f, e1]
    rfl
end Go.Proofs.YtiopeaponffmdaaDoor.PAll
