/- The texts of a proof, its declarations alone: part 19. -/
import Derived.Test.YtiopeaponffmdaaDoorVU3
import Derived.Test.YtiopeaponffmdaaDoorVU4
set_option linter.unusedVariables false
set_option linter.unusedSimpArgs false
-- YtiopeaponffmdaaDoorPAllx30
namespace Go.Proofs.YtiopeaponffmdaaDoor.PAll
open Go.RowKit Go.Proofs.YtiopeaponffmdaaDoorW.PrintWords Go.Proofs.YtiopeaponffmdaaDoorW.PrintLast Go.Proofs.YtiopeaponffmdaaDoorW.PrintMore
attribute [local go_sem] max2_int min2_int max_two min_two max_three min_three max_four min_four   -- for this text's walks alone
set_option linter.unusedVariables false
set_option linter.unusedSimpArgs false

mutual
def spec_Form_Nearest.j0 : Nat → Bool → Int → Int → ByteArray → Int → Option (Int)
  | 0, _, _, _, _, _ => none
  | k + 1, x21, x469000, x469001, x470000, x470001 => if x21 = true then (some 0) else (if (wrap64 ((x470000.size : Int) + x470001)) > 400 then (some x469001) else (spec_Form_Nearest.l0 k 0 x469001 x469000 x469001 x470000 x470001))
def spec_Form_Nearest.l0 : Nat → Int → Int → Int → Int → ByteArray → Int → Option (Int)
  | 0, _, _, _, _, _, _ => none
  | k + 1, x5, x6, x469000, x469001, x470000, x470001 => if x5 < x6 then ((spec_Form_Times2.f k x469000 x469001 (IntKind.u64.wrap (x5 + (IntKind.u64.wrap (Int.tdiv (IntKind.u64.wrap ((IntKind.u64.wrap (x6 - x5)) + 1)) 2))))).bind fun t470 => ((spec_Shifted.f k t470 1).bind fun t473 => ((spec_Form_against.f k x469000 x469001 x470000 x470001 t473).bind fun t476 => (if t476 ≥ 0 then (spec_Form_Nearest.l0 k (IntKind.u64.wrap (x5 + (IntKind.u64.wrap (Int.tdiv (IntKind.u64.wrap ((IntKind.u64.wrap (x6 - x5)) + 1)) 2)))) x6 x469000 x469001 x470000 x470001) else (spec_Form_Nearest.l0 k x5 (IntKind.u64.wrap ((IntKind.u64.wrap (x5 + (IntKind.u64.wrap (Int.tdiv (IntKind.u64.wrap ((IntKind.u64.wrap (x6 - x5)) + 1)) 2)))) - 1)) x469000 x469001 x470000 x470001))))) else (if x5 = x469001 then (some x5) else ((spec_Form_Times2.f k x469000 x469001 x5).bind fun t477 => ((spec_Form_Times2.f k x469000 x469001 (IntKind.u64.wrap (x5 + 1))).bind fun t480 => ((spec_Add.f k t477 t480).bind fun t483 => ((spec_Form_against.f k x469000 x469001 x470000 x470001 t483).bind fun t486 => (if t486 > 0 then (some (IntKind.u64.wrap (x5 + 1))) else (if t486 = 0 then (if (Int.tmod x5 2) = 1 then (some (IntKind.u64.wrap (x5 + 1))) else (some x5)) else (some x5))))))))
end
def spec_Form_Nearest.f (k : Nat) (a0_0 : Int) (a0_1 : Int) (a1_0 : ByteArray) (a1_1 : Int) : Option (Int) := if (a1_0.size : Int) = 0 then (spec_Form_Nearest.j0 k true a0_0 a0_1 a1_0 a1_1) else (spec_Form_Nearest.j0 k (decide ((wrap64 ((a1_0.size : Int) + a1_1)) < (-400))) a0_0 a0_1 a1_0 a1_1)
def spec_Form_Nearest.T8 : Bool × List (List Nat × List Nat) := (true, [([], []), ([], []), ([], []), ([], []), ([2, 3], [2, 3]), ([4, 4], [4]), ([0, 1, 5, 5], [0, 1, 5]), ([6], [6])])
def spec_Form_Nearest.B8 : List Nat := [0, 0, 0, 0, 12, 28, 63, 127]
theorem spec_Form_Nearest.tab8 : rtab .any (opsOf Tryd.f18 8) = spec_Form_Nearest.T8 := by kernel_rfl
theorem spec_Form_Nearest.bits8 : waitsOk spec_Form_Nearest.T8.2 spec_Form_Nearest.B8 = true := by kernel_rfl
def spec_Form_Nearest.T13 : Bool × List (List Nat × List Nat) := (true, [([], []), ([], []), ([], []), ([], []), ([2, 3], [2, 3]), ([], []), ([], []), ([6], [6]), ([5, 7, 4], [5, 7]), ([4, 8, 8], [4, 8]), ([0, 1, 9, 9], [0, 1, 9]), ([10, 10, 0, 1, 2, 3, 4, 5, 6, 7, 8, 9, 10], [10])])
def spec_Form_Nearest.B13 : List Nat := [0, 0, 0, 0, 12, 0, 0, 64, 252, 508, 1023, 2047]
theorem spec_Form_Nearest.tab13 : rtab .any (opsOf Tryd.f18 13) = spec_Form_Nearest.T13 := by kernel_rfl
theorem spec_Form_Nearest.bits13 : waitsOk spec_Form_Nearest.T13.2 spec_Form_Nearest.B13 = true := by kernel_rfl
set_option maxHeartbeats 8000000 in
set_option maxRecDepth 100000 in
theorem spec_Form_Nearest.calls (k : Nat) (a0_0 : Int) (a0_1 : Int) (a1_0 : ByteArray) (a1_1 : Int) (r : Int) (w : World) (h : spec_Form_Nearest.f k a0_0 a0_1 a1_0 a1_1 = some r) :
    Calls Tryd.prog 18 #[.agg #[.int .i64 a0_0, .int .u64 a0_1], .agg #[.string a1_0, .int .i64 a1_1]] w fun e w' => e = .returned (.int .u64 r) ∧ Below w.heap.size w w' := by
  have hu31 := Tryd.underlying31
  have hu35 := Tryd.underlying35
  have HB := Aside0.mk (Below.refl w.heap.size w)
  have H : (if (a1_0.size : Int) = 0 then (spec_Form_Nearest.j0 k true a0_0 a0_1 a1_0 a1_1) else (spec_Form_Nearest.j0 k (decide ((wrap64 ((a1_0.size : Int) + a1_1)) < (-400))) a0_0 a0_1 a1_0 a1_1)) = some r := h
  clear h
  have HC3 := Aside0.mk H
  clear H
  go_enter Tryd.func18, Tryd.ntmps18
  go_upto_region 1 with (first | ((with_reducible refine gate_dst (N := 2) rfl ?_); (try (refine gate_guard (by rfl) ?_; dsimp only)); refine box_event ?hg (N := 2) ?hd (cs := #[.int .i64 a0_0, .int .u64 a0_1]) (t := 31) ?hr ?_; (case hd => rfl); (case hg => rfl); (case hr => first | (go_simp; done) | (go_simp; rfl)); intro gb468 hg w4 hbox hb; have n0_ := Aside0.mk (below_step (by repeat (first | (with_reducible first | exact HB.out | apply below_alloc | apply pw_below_drewN | apply below_drew1) | exact HB.out)) hb); have n1_ := Aside0.mk (hbox); have n2_ := Aside0.mk ((by rw [hg]; exact (below_size (by repeat (first | (with_reducible first | exact HB.out | apply below_alloc | apply pw_below_drewN | apply below_drew1) | exact HB.out))) : w.heap.size ≤ gb468)); have n3_ := Aside0.mk ((by rw [hg]; exact (below_size (by repeat (first | (with_reducible first | exact HB.out | apply below_alloc | apply pw_below_drewN | apply below_drew1) | exact HB.out))) : w.heap.size ≤ gb468)); clear HB; have HB := n0_; have BK468 := n1_; have GW468 := n2_; have GE468 := n3_; clear n0_ n1_ n2_ n3_; clear hb hbox hg) | ((with_reducible refine gate_dst (N := 3) rfl ?_); (try (refine gate_guard (by rfl) ?_; dsimp only)); refine box_event ?hg (N := 3) ?hd (cs := #[.string a1_0, .int .i64 a1_1]) (t := 35) ?hr ?_; (case hd => rfl); (case hg => rfl); (case hr => first | (go_simp; done) | (go_simp; rfl)); intro gb469 hg w5 hbox hb; have n0_ := Aside0.mk (blk_below (g := gb468) (o := .cells #[.int .i64 a0_0, .int .u64 a0_1] 31 (0, 0)) (by (with_reducible repeat (first | refine blk_drewN ?_ _ | refine blk_drew ?_ | refine blk_alloc ?_ _)); exact BK468.out) hb); have n1_ := Aside0.mk (below_step (by repeat (first | (with_reducible first | exact HB.out | apply below_alloc | apply pw_below_drewN | apply below_drew1 | refine below_set ?_ GE468.out) | exact HB.out)) hb); have n2_ := Aside0.mk (hbox); have n3_ := Aside0.mk ((by rw [hg]; exact (below_size (by repeat (first | (with_reducible first | exact HB.out | apply below_alloc | apply pw_below_drewN | apply below_drew1 | refine below_set ?_ GE468.out) | exact HB.out))) : w.heap.size ≤ gb469)); have n4_ := Aside0.mk ((by rw [hg]; exact (below_size (by repeat (first | (with_reducible first | exact HB.out | apply below_alloc | apply pw_below_drewN | apply below_drew1 | refine below_set ?_ GE468.out) | exact HB.out))) : w.heap.size ≤ gb469)); have n5_ := Aside0.mk ((by rw [hg]; exact Nat.ne_of_lt (blk_lt (g := gb468) (o := .cells #[.int .i64 a0_0, .int .u64 a0_1] 31 (0, 0)) (by (with_reducible repeat (first | refine blk_drewN ?_ _ | refine blk_drew ?_ | refine blk_alloc ?_ _)); exact BK468.out)) : gb468 ≠ gb469)); have n6_ := Aside0.mk ((by rw [hg]; exact Nat.ne_of_gt (blk_lt (g := gb468) (o := .cells #[.int .i64 a0_0, .int .u64 a0_1] 31 (0, 0)) (by (with_reducible repeat (first | refine blk_drewN ?_ _ | refine blk_drew ?_ | refine blk_alloc ?_ _)); exact BK468.out)) : gb469 ≠ gb468)); clear BK468; clear HB; have BK468 := n0_; have HB := n1_; have BK469 := n2_; have GW469 := n3_; have GE469 := n4_; have NB468_469 := n5_; have NB469_468 := n6_; clear n0_ n1_ n2_ n3_ n4_ n5_ n6_; clear hb hbox hg))
  (try simp only [Act.put, List.setIfInBounds_toArray, List.set_cons_zero, List.set_cons_succ])
  go_cut [21] (fun v21 wc => ∃ (kq : Nat) (x21_2 : Bool), v21 = .bool x21_2 ∧ Aside0 (spec_Form_Nearest.j0 kq x21_2 a0_0 a0_1 a1_0 a1_1 = some r) ∧ Aside0 (kq ≤ k) ∧ Aside0 (wc.heap[gb468]? = some (.cells #[.int .i64 a0_0, .int .u64 a0_1] 31 (0, 0))) ∧ Aside0 (wc.heap[gb469]? = some (.cells #[.string a1_0, .int .i64 a1_1] 35 (0, 0))) ∧ Aside0 (Below w.heap.size w wc))
  case first =>
    have H := HC3.out
    clear HC3
    by_cases c6 : (a1_0.size : Int) = 0
    · rw [if_pos c6] at H
      have c6b0 : ((a1_0.size : Int) == 0) = true := beq_iff_eq.mpr c6
      have c6b1 : ((a1_0.size : Int) != 0) = false := bne_eq_false_iff_eq.mpr c6
      clear c6
      (first | rw [c6b0] | (simp only [i64_w, i32_w]; rw [c6b0]) | skip)
      have H' := Aside0.mk H
      clear H
      have hnb7 := NB469_468.out
      have hnc7 := NB468_469.out
      have hcz8_0 : w5.cell? ⟨gb469, 0, none⟩ = some (.string a1_0) := (blk_cell BK469.out 0).trans rfl
      have hcz8_1 : w5.cell? ⟨gb469, 1, none⟩ = some (.int .i64 a1_1) := (blk_cell BK469.out 1).trans rfl
      have hfz8_0 := blk_frozen BK469.out 0
      have hfz8_1 := blk_frozen BK469.out 1
      go_wp2
      go_meet
      case rel => exact ⟨_, (true), (by first | rfl | (simp; done) | (simp [*]; done)), H', ⟨by first | omega | exact Nat.le_refl _⟩, ⟨by (with_reducible repeat (first | refine blk_drewN ?_ _ | refine blk_drew ?_ | refine blk_alloc ?_ _)); exact BK468.out⟩, ⟨by (with_reducible repeat (first | refine blk_drewN ?_ _ | refine blk_drew ?_ | refine blk_alloc ?_ _)); exact BK469.out⟩, ⟨by repeat (first | (with_reducible first | exact HB.out | apply below_alloc | apply pw_below_drewN | apply below_drew1 | refine below_set ?_ GE468.out | refine below_set ?_ GE469.out) | exact HB.out)⟩⟩
    · rw [if_neg c6] at H
      have c6b0 : ((a1_0.size : Int) == 0) = false := beq_eq_false_iff_ne.mpr c6
      have c6b1 : ((a1_0.size : Int) != 0) = true := bne_iff_ne.mpr c6
      (first | rw [c6b0] | (simp only [i64_w, i32_w]; rw [c6b0]) | skip)
      have H' := Aside0.mk H
      clear H
      have hnb9 := NB469_468.out
      have hnc9 := NB468_469.out
      have hcz10_0 : w5.cell? ⟨gb469, 0, none⟩ = some (.string a1_0) := (blk_cell BK469.out 0).trans rfl
      have hcz10_1 : w5.cell? ⟨gb469, 1, none⟩ = some (.int .i64 a1_1) := (blk_cell BK469.out 1).trans rfl
      have hfz10_0 := blk_frozen BK469.out 0
      have hfz10_1 := blk_frozen BK469.out 1
      go_wp2
      go_meet
      case rel => exact ⟨_, (decide ((wrap64 ((a1_0.size : Int) + a1_1)) < (-400))), (by first | rfl | (simp; done) | (simp [*]; done)), H', ⟨by first | omega | exact Nat.le_refl _⟩, ⟨by (with_reducible repeat (first | refine blk_drewN ?_ _ | refine blk_drew ?_ | refine blk_alloc ?_ _)); exact BK468.out⟩, ⟨by (with_reducible repeat (first | refine blk_drewN ?_ _ | refine blk_drew ?_ | refine blk_alloc ?_ _)); exact BK469.out⟩, ⟨by repeat (first | (with_reducible first | exact HB.out | apply below_alloc | apply pw_below_drewN | apply below_drew1 | refine below_set ?_ GE468.out | refine below_set ?_ GE469.out) | exact HB.out)⟩⟩
  case rest =>
    clear HC3
    try clear c1
    try clear p2
    try clear c6
    try clear c6b0
    try clear c6b1
    try clear p6
    try clear c7
    try clear c9
    try clear hcz10_0
    try clear hcz10_1
    try clear hcz8_0
    try clear hcz8_1
    try clear hfz10_0
    try clear hfz10_1
    try clear hfz8_0
    try clear hfz8_1
    obtain ⟨kq, x21_2, rfl, HA, HJ2, BK468, BK469, HB⟩ := hcut
    cases kq with
    | zero => exact absurd HA.out (by simp [spec_Form_Nearest.j0])
    | succ kj2 =>
      have H := HA.out
      clear HA
      simp only [spec_Form_Nearest.j0] at H
      by_cases c11 : x21_2 = true
      · subst c11
        have H1 : (some 0) = some r := by rw [if_pos rfl] at H; exact H
        clear H
        have H := H1
        clear H1
        obtain rfl := Option.some.inj H
        go_wp2
        go_ret
        exact ⟨by first | rfl | (simp [errW_none, errW_some] <;> rfl) | (simp [*, errW_none, errW_some] <;> rfl), by repeat (first | (with_reducible first | exact HB.out | apply below_alloc | apply pw_below_drewN | apply below_drew1 | refine below_set ?_ GE468.out | refine below_set ?_ GE469.out) | exact HB.out)⟩
      · replace c11 := Bool.eq_false_iff.mpr c11
        subst c11
        have H1 : (if (wrap64 ((a1_0.size : Int) + a1_1)) > 400 then (some a0_1) else (spec_Form_Nearest.l0 kj2 0 a0_1 a0_0 a0_1 a1_0 a1_1)) = some r := by rw [if_neg (show ¬ (false = true) by decide)] at H; exact H
        clear H
        have H := H1
        clear H1
        by_cases c12 : (wrap64 ((a1_0.size : Int) + a1_1)) > 400
        · rw [if_pos c12] at H
          have c12b0 : decide (400 < (wrap64 ((a1_0.size : Int) + a1_1))) = true := decide_eq_true c12
          clear c12
          obtain rfl := Option.some.inj H
          have hnb13 := NB469_468.out
          have hnc13 := NB468_469.out
          have hcz14_0 : wc.cell? ⟨gb469, 0, none⟩ = some (.string a1_0) := (blk_cell BK469.out 0).trans rfl
          have hcz14_1 : wc.cell? ⟨gb469, 1, none⟩ = some (.int .i64 a1_1) := (blk_cell BK469.out 1).trans rfl
          have hfz14_0 := blk_frozen BK469.out 0
          have hfz14_1 := blk_frozen BK469.out 1
          have hcz15_0 : wc.cell? ⟨gb468, 0, none⟩ = some (.int .i64 a0_0) := (blk_cell BK468.out 0).trans rfl
          have hcz15_1 : wc.cell? ⟨gb468, 1, none⟩ = some (.int .u64 a0_1) := (blk_cell BK468.out 1).trans rfl
          have hfz15_0 := blk_frozen BK468.out 0
          have hfz15_1 := blk_frozen BK468.out 1
          go_wp2
          go_ret
          exact ⟨by first | rfl | (simp [errW_none, errW_some] <;> rfl) | (simp [*, errW_none, errW_some] <;> rfl), by repeat (first | (with_reducible first | exact HB.out | apply below_alloc | apply pw_below_drewN | apply below_drew1 | refine below_set ?_ GE468.out | refine below_set ?_ GE469.out) | exact HB.out)⟩
        · rw [if_neg c12] at H
          have c12b0 : decide (400 < (wrap64 ((a1_0.size : Int) + a1_1))) = false := decide_eq_false c12
          clear c12
          have H' := Aside0.mk H
          clear H
          have hnb16 := NB469_468.out
          have hnc16 := NB468_469.out
          have hcz17_0 : wc.cell? ⟨gb469, 0, none⟩ = some (.string a1_0) := (blk_cell BK469.out 0).trans rfl
          have hcz17_1 : wc.cell? ⟨gb469, 1, none⟩ = some (.int .i64 a1_1) := (blk_cell BK469.out 1).trans rfl
          have hfz17_0 := blk_frozen BK469.out 0
          have hfz17_1 := blk_frozen BK469.out 1
          try go_wp2
          have n0_ := Aside0.mk (blk_drew BK468.out)
          have n1_ := Aside0.mk (blk_drew BK469.out)
          have n2_ := Aside0.mk (below_drew1 HB.out)
          clear BK468
          clear BK469
          clear HB
          have BK468 := n0_
          have BK469 := n1_
          have HB := n2_
          clear n0_ n1_ n2_
          refine start_ (n := 4) (S := fun w' => w'.cell? ⟨gb468, 0, none⟩ = some (.int .i64 a0_0) ∧ w'.cell? ⟨gb468, 1, none⟩ = some (.int .u64 a0_1)) (ds := []) #[false, false, false, false] (by kernel_rfl) rfl rfl ⟨(blk_cell BK468.out 0).trans rfl, (blk_cell BK468.out 1).trans rfl⟩ (fun hHeld => ?_)
          generalize wc.drew = w18 at BK468 BK469 HB hHeld ⊢
          refine pure_ (i := 0) (N := some 31) (v := ?_) (a' := ?_) #[true, false, false, false] rfl rfl (by kernel_rfl) (fun _ _ _ h => h) (Or.inl ⟨by rfl, ?_⟩) ?_ ?_
          rotate_left
          · intro w'
            go_simp
            with_reducible rfl
          rotate_left
          · simp only [Act.put, List.setIfInBounds_toArray, List.set_cons_zero, List.set_cons_succ, i64_w, i32_w]
            rfl
          refine pure_ (i := 2) (N := some 5) (v := ?_) (a' := ?_) #[true, false, true, false] rfl rfl (by kernel_rfl) (fun _ _ _ h => h) (Or.inl ⟨by rfl, ?_⟩) ?_ ?_
          rotate_left
          · intro w'
            go_simp
            with_reducible rfl
          rotate_left
          · simp only [Act.put, List.setIfInBounds_toArray, List.set_cons_zero, List.set_cons_succ, i64_w, i32_w]
            rfl
          refine take_ (i := 1) (N := some 32) (v := ?_) (a' := ?_) #[true, true, true, false] rfl rfl (by kernel_rfl) (fun _ _ _ h => h) (Or.inl ⟨by rfl, ?_⟩) hHeld ?_ ?_
          rotate_left
          · rintro w' ⟨s0, s1⟩
            go_simp
            with_reducible rfl
          rotate_left
          · simp only [Act.put, List.setIfInBounds_toArray, List.set_cons_zero, List.set_cons_succ, i64_w, i32_w]
            rfl
          refine pure_ (i := 3) (N := some 6) (v := ?_) (a' := ?_) #[true, true, true, true] rfl rfl (by kernel_rfl) (fun _ _ _ h => h) (Or.inl ⟨by rfl, ?_⟩) ?_ ?_
          rotate_left
          · intro w'
            go_simp
            with_reducible rfl
          rotate_left
          · simp only [Act.put, List.setIfInBounds_toArray, List.set_cons_zero, List.set_cons_succ, i64_w, i32_w]
            rfl
          refine done_ (by kernel_rfl) ?_
          try go_wp2
          go_loopg [5, 6] kj2 (fun kq v5 v6 w' => ∃ (x5_2 : Int) (x6_2 : Int), v5 = .int .u64 x5_2 ∧ v6 = .int .u64 x6_2 ∧ Aside0 (spec_Form_Nearest.l0 kq x5_2 x6_2 a0_0 a0_1 a1_0 a1_1 = some r) ∧ Aside0 (kq ≤ kj2) ∧ Aside0 (w'.heap[gb468]? = some (.cells #[.int .i64 a0_0, .int .u64 a0_1] 31 (0, 0))) ∧ Aside0 (w'.heap[gb469]? = some (.cells #[.string a1_0, .int .i64 a1_1] 35 (0, 0))) ∧ Aside0 (Below w.heap.size w w'))
          case atStart => exact ⟨(0), (a0_1), (by first | rfl | (simp; done) | (simp [*]; done)), (by first | rfl | (simp; done) | (simp [*]; done)), H', ⟨Nat.le_refl _⟩, ⟨by (with_reducible repeat (first | refine blk_drewN ?_ _ | refine blk_drew ?_ | refine blk_alloc ?_ _)); exact BK468.out⟩, ⟨by (with_reducible repeat (first | refine blk_drewN ?_ _ | refine blk_drew ?_ | refine blk_alloc ?_ _)); exact BK469.out⟩, ⟨by repeat (first | (with_reducible first | exact HB.out | apply below_alloc | apply pw_below_drewN | apply below_drew1 | refine below_set ?_ GE468.out | refine below_set ?_ GE469.out) | exact HB.out)⟩⟩
          case round =>
            clear H'
            try clear c1
            try clear p2
            try clear c6
            try clear c6b0
            try clear c6b1
            try clear p6
            try clear c7
            try clear c9
            try clear c11
            try clear c12
            try clear c12b0
            try clear c13
            try clear c16
            try clear c18
            try clear hcz10_0
            try clear hcz10_1
            try clear hcz14_0
            try clear hcz14_1
            try clear hcz15_0
            try clear hcz15_1
            try clear hcz17_0
            try clear hcz17_1
            try clear hcz8_0
            try clear hcz8_1
            try clear hfz10_0
            try clear hfz10_1
            try clear hfz14_0
            try clear hfz14_1
            try clear hfz15_0
            try clear hfz15_1
            try clear hfz17_0
            try clear hfz17_1
            try clear hfz8_0
            try clear hfz8_1
            try clear p2
            try clear p6
            obtain ⟨x5_2, x6_2, rfl, rfl, HA, HK2, BK468, BK469, HB⟩ := hrel
            cases gk with
            | zero => exact absurd HA.out (by simp [spec_Form_Nearest.l0])
            | succ k2 =>
              have H := HA.out
              clear HA
              simp only [spec_Form_Nearest.l0] at H
              by_cases c19 : x5_2 < x6_2
              · rw [if_pos c19] at H
                have c19b0 : decide (x5_2 < x6_2) = true := decide_eq_true c19
                clear c19
                replace H := Option.bind_eq_some_iff.mp H
                obtain ⟨t470, A200, H⟩ := H
                replace H : ((spec_Shifted.f k2 t470 1).bind fun t473 => ((spec_Form_against.f k2 a0_0 a0_1 a1_0 a1_1 t473).bind fun t476 => (if t476 ≥ 0 then (spec_Form_Nearest.l0 k2 (IntKind.u64.wrap (x5_2 + (IntKind.u64.wrap (Int.tdiv (IntKind.u64.wrap ((IntKind.u64.wrap (x6_2 - x5_2)) + 1)) 2)))) x6_2 a0_0 a0_1 a1_0 a1_1) else (spec_Form_Nearest.l0 k2 x5_2 (IntKind.u64.wrap ((IntKind.u64.wrap (x5_2 + (IntKind.u64.wrap (Int.tdiv (IntKind.u64.wrap ((IntKind.u64.wrap (x6_2 - x5_2)) + 1)) 2)))) - 1)) a0_0 a0_1 a1_0 a1_1)))) = some r := H
                have A20 := Aside0.mk A200
                clear A200
                replace H := Option.bind_eq_some_iff.mp H
                obtain ⟨t473, A210, H⟩ := H
                replace H : ((spec_Form_against.f k2 a0_0 a0_1 a1_0 a1_1 t473).bind fun t476 => (if t476 ≥ 0 then (spec_Form_Nearest.l0 k2 (IntKind.u64.wrap (x5_2 + (IntKind.u64.wrap (Int.tdiv (IntKind.u64.wrap ((IntKind.u64.wrap (x6_2 - x5_2)) + 1)) 2)))) x6_2 a0_0 a0_1 a1_0 a1_1) else (spec_Form_Nearest.l0 k2 x5_2 (IntKind.u64.wrap ((IntKind.u64.wrap (x5_2 + (IntKind.u64.wrap (Int.tdiv (IntKind.u64.wrap ((IntKind.u64.wrap (x6_2 - x5_2)) + 1)) 2)))) - 1)) a0_0 a0_1 a1_0 a1_1))) = some r := H
                have A21 := Aside0.mk A210
                clear A210
                replace H := Option.bind_eq_some_iff.mp H
                obtain ⟨t476, A220, H⟩ := H
                replace H : (if t476 ≥ 0 then (spec_Form_Nearest.l0 k2 (IntKind.u64.wrap (x5_2 + (IntKind.u64.wrap (Int.tdiv (IntKind.u64.wrap ((IntKind.u64.wrap (x6_2 - x5_2)) + 1)) 2)))) x6_2 a0_0 a0_1 a1_0 a1_1) else (spec_Form_Nearest.l0 k2 x5_2 (IntKind.u64.wrap ((IntKind.u64.wrap (x5_2 + (IntKind.u64.wrap (Int.tdiv (IntKind.u64.wrap ((IntKind.u64.wrap (x6_2 - x5_2)) + 1)) 2)))) - 1)) a0_0 a0_1 a1_0 a1_1)) = some r := H
                have A22 := Aside0.mk A220
                clear A220
                by_cases c23 : t476 ≥ 0
                · rw [if_pos c23] at H
                  have c23b0 : decide (0 ≤ t476) = true := decide_eq_true c23
                  clear c23
                  have H' := Aside0.mk H
                  clear H
                  try go_wp2
                  have n0_ := Aside0.mk (blk_drew BK468.out)
                  have n1_ := Aside0.mk (blk_drew BK469.out)
                  have n2_ := Aside0.mk (below_drew1 HB.out)
                  clear BK468
                  clear BK469
                  clear HB
                  have BK468 := n0_
                  have BK469 := n1_
                  have HB := n2_
                  clear n0_ n1_ n2_
                  refine start_ (n := 8) (S := fun w' => w'.cell? ⟨gb468, 0, none⟩ = some (.int .i64 a0_0) ∧ w'.cell? ⟨gb468, 1, none⟩ = some (.int .u64 a0_1) ∧ w'.cell? ⟨gb469, 0, none⟩ = some (.string a1_0) ∧ w'.cell? ⟨gb469, 1, none⟩ = some (.int .i64 a1_1)) (ds := []) #[false, false, false, false, false, false, false, false] (by kernel_rfl) rfl rfl ⟨(blk_cell BK468.out 0).trans rfl, (blk_cell BK468.out 1).trans rfl, (blk_cell BK469.out 0).trans rfl, (blk_cell BK469.out 1).trans rfl⟩ (fun hHeld => ?_); refine with_tabW spec_Form_Nearest.tab8 spec_Form_Nearest.bits8 (fun HT_ HW_ => ?_)
                  generalize wr.drew = w24 at BK468 BK469 HB hHeld ⊢
                  refine pure_ (i := 3) (N := some 46) (v := ?_) (a' := ?_) #[false, false, false, true, false, false, false, false] rfl rfl (any_of HT_.out (by kernel_rfl)) (fun _ _ _ h => h) (Or.inl ⟨by rfl, ?_⟩) ?_ ?_
                  rotate_left
                  · intro w'
                    go_simp
                    with_reducible rfl
                  rotate_left
                  · simp only [Act.put, List.setIfInBounds_toArray, List.set_cons_zero, List.set_cons_succ, i64_w, i32_w]
                    rfl
                  refine take_ (i := 0) (N := some 43) (v := ?_) (a' := ?_) #[true, false, false, true, false, false, false, false] rfl rfl (take_ofW HT_.out HW_.out (by kernel_rfl)) (fun _ _ _ h => h) (Or.inl ⟨by rfl, ?_⟩) hHeld ?_ ?_
                  rotate_left
                  · rintro w' ⟨s0, s1, s2, s3⟩
                    go_simp
                    with_reducible rfl
                  rotate_left
                  · simp only [Act.put, List.setIfInBounds_toArray, List.set_cons_zero, List.set_cons_succ, i64_w, i32_w]
                    rfl
                  refine take_ (i := 1) (N := some 44) (v := ?_) (a' := ?_) #[true, true, false, true, false, false, false, false] rfl rfl (take_ofW HT_.out HW_.out (by kernel_rfl)) (fun _ _ _ h => h) (Or.inl ⟨by rfl, ?_⟩) hHeld ?_ ?_
                  rotate_left
                  · rintro w' ⟨s0, s1, s2, s3⟩
                    go_simp
                    with_reducible rfl
                  rotate_left
                  · simp only [Act.put, List.setIfInBounds_toArray, List.set_cons_zero, List.set_cons_succ, i64_w, i32_w]
                    rfl
                  refine take_ (i := 2) (N := some 45) (v := ?_) (a' := ?_) #[true, true, true, true, false, false, false, false] rfl rfl (take_ofW HT_.out HW_.out (by kernel_rfl)) (fun _ _ _ h => h) (Or.inl ⟨by rfl, ?_⟩) hHeld ?_ ?_
                  rotate_left
                  · rintro w' ⟨s0, s1, s2, s3⟩
                    go_simp
                    with_reducible rfl
                  rotate_left
                  · simp only [Act.put, List.setIfInBounds_toArray, List.set_cons_zero, List.set_cons_succ, i64_w, i32_w]
                    rfl
                  refine one_ (i := 4) (N := some 47) #[true, true, true, true, true, false, false, false] rfl rfl (one_of HT_.out (by kernel_rfl)) (by decide) (fun K hK => ?_)
                  refine goes_ Tryd.func29 (by kernel_rfl) rfl #[.agg #[.int .i64 a0_0, .int .u64 a0_1], .int .u64 (IntKind.u64.wrap (x5_2 + (IntKind.u64.wrap (Int.tdiv (IntKind.u64.wrap ((IntKind.u64.wrap (x6_2 - x5_2)) + 1)) 2))))] (by rfl) rfl rfl (by (try simp only [List.map_toArray, List.map_cons, List.map_nil]); first | done | rfl | (simp only [List.length_drop, List.length_take]; rfl)) ?_
                  with_reducible refine (spec_Form_Times2.calls k2 a0_0 a0_1 (IntKind.u64.wrap (x5_2 + (IntKind.u64.wrap (Int.tdiv (IntKind.u64.wrap ((IntKind.u64.wrap (x6_2 - x5_2)) + 1)) 2)))) t470 _ A20.out).mono ?_
                  rintro e w25 ⟨v471, rfl, ho0, hb⟩
                  refine ⟨_, rfl, ?_⟩
                  have n0_ := Aside0.mk (Kd.R_lower ho0 (below_size (by repeat (first | (with_reducible first | exact HB.out | apply below_alloc | apply pw_below_drewN | apply below_drew1 | refine below_set ?_ GE468.out | refine below_set ?_ GE469.out) | exact HB.out))))
                  have n1_ := Aside0.mk (blk_below (g := gb468) (o := .cells #[.int .i64 a0_0, .int .u64 a0_1] 31 (0, 0)) (by (with_reducible repeat (first | refine blk_drewN ?_ _ | refine blk_drew ?_ | refine blk_alloc ?_ _)); exact BK468.out) hb)
                  have n2_ := Aside0.mk (blk_below (g := gb469) (o := .cells #[.string a1_0, .int .i64 a1_1] 35 (0, 0)) (by (with_reducible repeat (first | refine blk_drewN ?_ _ | refine blk_drew ?_ | refine blk_alloc ?_ _)); exact BK469.out) hb)
                  have n3_ := Aside0.mk (below_step (by repeat (first | (with_reducible first | exact HB.out | apply below_alloc | apply pw_below_drewN | apply below_drew1 | refine below_set ?_ GE468.out | refine below_set ?_ GE469.out) | exact HB.out)) hb)
                  clear BK468
                  clear BK469
                  clear HB
                  have HO472 := n0_
                  have BK468 := n1_
                  have BK469 := n2_
                  have HB := n3_
                  clear n0_ n1_ n2_ n3_
                  (try clear hb)
                  (try clear hb2)
                  (try clear hk)
                  (try clear hi)
                  (try clear ho0)
                  obtain ⟨Ao26, co26, eo26⟩ := Kd.R_slice HO472.out
                  (first | subst eo26 | (injection eo26 with f1_ f2_ f3_; have f4_ := f1_.symm; have f5_ := f3_.symm; clear f1_ f2_ f3_; subst f4_; subst f5_))
                  refine hK.out _ _ ⟨(blk_cell BK468.out 0).trans rfl, (blk_cell BK468.out 1).trans rfl, (blk_cell BK469.out 0).trans rfl, (blk_cell BK469.out 1).trans rfl⟩ (fun hHeld => ?_)
                  clear hK K
                  refine norm_ (a' := ?_) ?_ ?_
                  rotate_left
                  · show Act.put _ (some 47) _ = _
                    simp only [Act.put, List.setIfInBounds_toArray, List.set_cons_zero, List.set_cons_succ, i64_w, i32_w]
                    rfl
                  refine one_ (i := 5) (N := some 48) #[true, true, true, true, true, true, false, false] rfl rfl (one_of HT_.out (by kernel_rfl)) (by decide) (fun K hK => ?_)
                  refine goes_ Tryd.func28 (by kernel_rfl) rfl #[.slice Ao26 t470.length co26, .int .i64 1] (by rfl) rfl rfl (by (try simp only [List.map_toArray, List.map_cons, List.map_nil]); first | done | rfl | (simp only [List.length_drop, List.length_take]; rfl)) ?_
                  with_reducible refine (spec_Shifted.calls k2 _ _ t470 1 t473 _ ?side1 ?side2 A21.out).mono ?_
                  (case side1 => repeat (first | exact (Kd.R_reads' HO472.out).2.2 | (with_reducible refine Kd.C_alloc ?_ _) | (with_reducible refine Kd.C_drewN ?_ _) | (with_reducible refine Kd.C_drew ?_)))
                  (case side2 => exact (Kd.R_reads' HO472.out).2.1)
                  rintro e w27 ⟨v474, rfl, ho0, hb⟩
                  refine ⟨_, rfl, ?_⟩
                  have n0_ := Aside0.mk (Kd.R_elder' (by (with_reducible repeat (first | apply Kd.R_alloc | apply Kd.R_drewN | apply Kd.R_drew)); exact HO472.out) (Kd.R_base ho0) hb)
                  have n1_ := Aside0.mk (Kd.R_lower (Kd.R_new' ho0 (Kd.R_lt (by (with_reducible repeat (first | apply Kd.R_alloc | apply Kd.R_drewN | apply Kd.R_drew)); exact HO472.out))) (below_size (by repeat (first | (with_reducible first | exact HB.out | apply below_alloc | apply pw_below_drewN | apply below_drew1 | refine below_set ?_ GE468.out | refine below_set ?_ GE469.out) | exact HB.out))))
                  have n2_ := Aside0.mk (blk_below (g := gb468) (o := .cells #[.int .i64 a0_0, .int .u64 a0_1] 31 (0, 0)) (by (with_reducible repeat (first | refine blk_drewN ?_ _ | refine blk_drew ?_ | refine blk_alloc ?_ _)); exact BK468.out) hb)
                  have n3_ := Aside0.mk (blk_below (g := gb469) (o := .cells #[.string a1_0, .int .i64 a1_1] 35 (0, 0)) (by (with_reducible repeat (first | refine blk_drewN ?_ _ | refine blk_drew ?_ | refine blk_alloc ?_ _)); exact BK469.out) hb)
                  have n4_ := Aside0.mk (below_step (by repeat (first | (with_reducible first | exact HB.out | apply below_alloc | apply pw_below_drewN | apply below_drew1 | refine below_set ?_ GE468.out | refine below_set ?_ GE469.out) | exact HB.out)) hb)
                  clear HO472
                  clear BK468
                  clear BK469
                  clear HB
                  have HO472 := n0_
                  have HO475 := n1_
                  have BK468 := n2_
                  have BK469 := n3_
                  have HB := n4_
                  clear n0_ n1_ n2_ n3_ n4_
                  (try clear hb)
                  (try clear hb2)
                  (try clear hk)
                  (try clear hi)
                  (try clear ho0)
                  obtain ⟨Ao28, co28, eo28⟩ := Kd.R_slice HO475.out
                  (first | subst eo28 | (injection eo28 with f1_ f2_ f3_; have f4_ := f1_.symm; have f5_ := f3_.symm; clear f1_ f2_ f3_; subst f4_; subst f5_))
                  refine hK.out _ _ ⟨(blk_cell BK468.out 0).trans rfl, (blk_cell BK468.out 1).trans rfl, (blk_cell BK469.out 0).trans rfl, (blk_cell BK469.out 1).trans rfl⟩ (fun hHeld => ?_)
                  clear hK K
                  refine norm_ (a' := ?_) ?_ ?_
                  rotate_left
                  · show Act.put _ (some 48) _ = _
                    simp only [Act.put, List.setIfInBounds_toArray, List.set_cons_zero, List.set_cons_succ, i64_w, i32_w]
                    rfl
                  refine one_ (i := 6) (N := some 49) #[true, true, true, true, true, true, true, false] rfl rfl (one_of HT_.out (by kernel_rfl)) (by decide) (fun K hK => ?_)
                  refine goes_ Tryd.func27 (by kernel_rfl) rfl #[.agg #[.int .i64 a0_0, .int .u64 a0_1], .agg #[.string a1_0, .int .i64 a1_1], .slice Ao28 t473.length co28] (by rfl) rfl rfl (by (try simp only [List.map_toArray, List.map_cons, List.map_nil]); first | done | rfl | (simp only [List.length_drop, List.length_take]; rfl)) ?_
                  with_reducible refine (spec_Form_against.calls k2 a0_0 a0_1 a1_0 a1_1 _ _ t473 t476 _ ?side1 ?side2 A22.out).mono ?_
                  (case side1 => repeat (first | exact (Kd.R_reads' HO475.out).2.2 | (with_reducible refine Kd.C_alloc ?_ _) | (with_reducible refine Kd.C_drewN ?_ _) | (with_reducible refine Kd.C_drew ?_)))
                  (case side2 => exact (Kd.R_reads' HO475.out).2.1)
                  rintro e w29 ⟨rfl, hb⟩
                  refine ⟨_, rfl, ?_⟩
                  have n0_ := Aside0.mk (Kd.R_below (by (with_reducible repeat (first | apply Kd.R_alloc | apply Kd.R_drewN | apply Kd.R_drew)); exact HO472.out) hb)
                  have n1_ := Aside0.mk (Kd.R_below (by (with_reducible repeat (first | apply Kd.R_alloc | apply Kd.R_drewN | apply Kd.R_drew)); exact HO475.out) hb)
                  have n2_ := Aside0.mk (blk_below (g := gb468) (o := .cells #[.int .i64 a0_0, .int .u64 a0_1] 31 (0, 0)) (by (with_reducible repeat (first | refine blk_drewN ?_ _ | refine blk_drew ?_ | refine blk_alloc ?_ _)); exact BK468.out) hb)
                  have n3_ := Aside0.mk (blk_below (g := gb469) (o := .cells #[.string a1_0, .int .i64 a1_1] 35 (0, 0)) (by (with_reducible repeat (first | refine blk_drewN ?_ _ | refine blk_drew ?_ | refine blk_alloc ?_ _)); exact BK469.out) hb)
                  have n4_ := Aside0.mk (below_step (by repeat (first | (with_reducible first | exact HB.out | apply below_alloc | apply pw_below_drewN | apply below_drew1 | refine below_set ?_ GE468.out | refine below_set ?_ GE469.out) | exact HB.out)) hb)
                  clear HO472
                  clear HO475
                  clear BK468
                  clear BK469
                  clear HB
                  have HO472 := n0_
                  have HO475 := n1_
                  have BK468 := n2_
                  have BK469 := n3_
                  have HB := n4_
                  clear n0_ n1_ n2_ n3_ n4_
                  (try clear hb)
                  (try clear hb2)
                  (try clear hk)
                  (try clear hi)
                  refine hK.out _ _ ⟨(blk_cell BK468.out 0).trans rfl, (blk_cell BK468.out 1).trans rfl, (blk_cell BK469.out 0).trans rfl, (blk_cell BK469.out 1).trans rfl⟩ (fun hHeld => ?_)
                  clear hK K
                  refine norm_ (a' := ?_) ?_ ?_
                  rotate_left
                  · show Act.put _ (some 49) _ = _
                    simp only [Act.put, List.setIfInBounds_toArray, List.set_cons_zero, List.set_cons_succ, i64_w, i32_w]
                    rfl
                  refine pure_ (i := 7) (N := some 50) (v := ?_) (a' := ?_) #[true, true, true, true, true, true, true, true] rfl rfl (any_of HT_.out (by kernel_rfl)) (fun _ _ _ h => h) (Or.inl ⟨by rfl, ?_⟩) ?_ ?_
                  rotate_left
                  · intro w'
                    go_simp
                    with_reducible rfl
                  rotate_left
                  · simp only [Act.put, List.setIfInBounds_toArray, List.set_cons_zero, List.set_cons_succ, i64_w, i32_w]
                    rfl
                  refine done_ (done_of HT_.out (by kernel_rfl)) ?_
                  try go_wp2
                  go_roundg k2
                  case measure => have := HJ2.out; have := HK2.out; omega
                  case rel => exact ⟨(IntKind.u64.wrap (x5_2 + (IntKind.u64.wrap (Int.tdiv (IntKind.u64.wrap ((IntKind.u64.wrap (x6_2 - x5_2)) + 1)) 2)))), (x6_2), (by first | rfl | (simp; done) | (simp [*]; done)), (by first | rfl | (simp; done) | (simp [*]; done)), H', ⟨by have := HJ2.out; have := HK2.out; omega⟩, ⟨by (with_reducible repeat (first | refine blk_drewN ?_ _ | refine blk_drew ?_ | refine blk_alloc ?_ _)); exact BK468.out⟩, ⟨by (with_reducible repeat (first | refine blk_drewN ?_ _ | refine blk_drew ?_ | refine blk_alloc ?_ _)); exact BK469.out⟩, ⟨by repeat (first | (with_reducible first | exact HB.out | apply below_alloc | apply pw_below_drewN | apply below_drew1 | refine below_set ?_ GE468.out | refine below_set ?_ GE469.out) | exact HB.out)⟩⟩
                · rw [if_neg c23] at H
                  have c23b0 : decide (0 ≤ t476) = false := decide_eq_false c23
                  clear c23
                  have H' := Aside0.mk H
                  clear H
                  try go_wp2
                  have n0_ := Aside0.mk (blk_drew BK468.out)
                  have n1_ := Aside0.mk (blk_drew BK469.out)
                  have n2_ := Aside0.mk (below_drew1 HB.out)
                  clear BK468
                  clear BK469
                  clear HB
                  have BK468 := n0_
                  have BK469 := n1_
                  have HB := n2_
                  clear n0_ n1_ n2_
                  refine start_ (n := 8) (S := fun w' => w'.cell? ⟨gb468, 0, none⟩ = some (.int .i64 a0_0) ∧ w'.cell? ⟨gb468, 1, none⟩ = some (.int .u64 a0_1) ∧ w'.cell? ⟨gb469, 0, none⟩ = some (.string a1_0) ∧ w'.cell? ⟨gb469, 1, none⟩ = some (.int .i64 a1_1)) (ds := []) #[false, false, false, false, false, false, false, false] (by kernel_rfl) rfl rfl ⟨(blk_cell BK468.out 0).trans rfl, (blk_cell BK468.out 1).trans rfl, (blk_cell BK469.out 0).trans rfl, (blk_cell BK469.out 1).trans rfl⟩ (fun hHeld => ?_); refine with_tabW spec_Form_Nearest.tab8 spec_Form_Nearest.bits8 (fun HT_ HW_ => ?_)
                  generalize wr.drew = w30 at BK468 BK469 HB hHeld ⊢
                  refine pure_ (i := 3) (N := some 46) (v := ?_) (a' := ?_) #[false, false, false, true, false, false, false, false] rfl rfl (any_of HT_.out (by kernel_rfl)) (fun _ _ _ h => h) (Or.inl ⟨by rfl, ?_⟩) ?_ ?_
                  rotate_left
                  · intro w'
                    go_simp
                    with_reducible rfl
                  rotate_left
                  · simp only [Act.put, List.setIfInBounds_toArray, List.set_cons_zero, List.set_cons_succ, i64_w, i32_w]
                    rfl
                  refine take_ (i := 0) (N := some 43) (v := ?_) (a' := ?_) #[true, false, false, true, false, false, false, false] rfl rfl (take_ofW HT_.out HW_.out (by kernel_rfl)) (fun _ _ _ h => h) (Or.inl ⟨by rfl, ?_⟩) hHeld ?_ ?_
                  rotate_left
                  · rintro w' ⟨s0, s1, s2, s3⟩
                    go_simp
                    with_reducible rfl
                  rotate_left
                  · simp only [Act.put, List.setIfInBounds_toArray, List.set_cons_zero, List.set_cons_succ, i64_w, i32_w]
                    rfl
                  refine take_ (i := 1) (N := some 44) (v := ?_) (a' := ?_) #[true, true, false, true, false, false, false, false] rfl rfl (take_ofW HT_.out HW_.out (by kernel_rfl)) (fun _ _ _ h => h) (Or.inl ⟨by rfl, ?_⟩) hHeld ?_ ?_
                  rotate_left
                  · rintro w' ⟨s0, s1, s2, s3⟩
                    go_simp
                    with_reducible rfl
                  rotate_left
                  · simp only [Act.put, List.setIfInBounds_toArray, List.set_cons_zero, List.set_cons_succ, i64_w, i32_w]
                    rfl
                  refine take_ (i := 2) (N := some 45) (v := ?_) (a' := ?_) #[true, true, true, true, false, false, false, false] rfl rfl (take_ofW HT_.out HW_.out (by kernel_rfl)) (fun _ _ _ h => h) (Or.inl ⟨by rfl, ?_⟩) hHeld ?_ ?_
                  rotate_left
                  · rintro w' ⟨s0, s1, s2, s3⟩
                    go_simp
                    with_reducible rfl
                  rotate_left
                  · simp only [Act.put, List.setIfInBounds_toArray, List.set_cons_zero, List.set_cons_succ, i64_w, i32_w]
                    rfl
                  refine one_ (i := 4) (N := some 47) #[true, true, true, true, true, false, false, false] rfl rfl (one_of HT_.out (by kernel_rfl)) (by decide) (fun K hK => ?_)
                  refine goes_ Tryd.func29 (by kernel_rfl) rfl #[.agg #[.int .i64 a0_0, .int .u64 a0_1], .int .u64 (IntKind.u64.wrap (x5_2 + (IntKind.u64.wrap (Int.tdiv (IntKind.u64.wrap ((IntKind.u64.wrap (x6_2 - x5_2)) + 1)) 2))))] (by rfl) rfl rfl (by (try simp only [List.map_toArray, List.map_cons, List.map_nil]); first | done | rfl | (simp only [List.length_drop, List.length_take]; rfl)) ?_
                  with_reducible refine (spec_Form_Times2.calls k2 a0_0 a0_1 (IntKind.u64.wrap (x5_2 + (IntKind.u64.wrap (Int.tdiv (IntKind.u64.wrap ((IntKind.u64.wrap (x6_2 - x5_2)) + 1)) 2)))) t470 _ A20.out).mono ?_
                  rintro e w31 ⟨v471, rfl, ho0, hb⟩
                  refine ⟨_, rfl, ?_⟩
                  have n0_ := Aside0.mk (Kd.R_lower ho0 (below_size (by repeat (first | (with_reducible first | exact HB.out | apply below_alloc | apply pw_below_drewN | apply below_drew1 | refine below_set ?_ GE468.out | refine below_set ?_ GE469.out) | exact HB.out))))
                  have n1_ := Aside0.mk (blk_below (g := gb468) (o := .cells #[.int .i64 a0_0, .int .u64 a0_1] 31 (0, 0)) (by (with_reducible repeat (first | refine blk_drewN ?_ _ | refine blk_drew ?_ | refine blk_alloc ?_ _)); exact BK468.out) hb)
                  have n2_ := Aside0.mk (blk_below (g := gb469) (o := .cells #[.string a1_0, .int .i64 a1_1] 35 (0, 0)) (by (with_reducible repeat (first | refine blk_drewN ?_ _ | refine blk_drew ?_ | refine blk_alloc ?_ _)); exact BK469.out) hb)
                  have n3_ := Aside0.mk (below_step (by repeat (first | (with_reducible first | exact HB.out | apply below_alloc | apply pw_below_drewN | apply below_drew1 | refine below_set ?_ GE468.out | refine below_set ?_ GE469.out) | exact HB.out)) hb)
                  clear BK468
                  clear BK469
                  clear HB
                  have HO472 := n0_
                  have BK468 := n1_
                  have BK469 := n2_
                  have HB := n3_
                  clear n0_ n1_ n2_ n3_
                  (try clear hb)
                  (try clear hb2)
                  (try clear hk)
                  (try clear hi)
                  (try clear ho0)
                  obtain ⟨Ao32, co32, eo32⟩ := Kd.R_slice HO472.out
                  (first | subst eo32 | (injection eo32 with f1_ f2_ f3_; have f4_ := f1_.symm; have f5_ := f3_.symm; clear f1_ f2_ f3_; subst f4_; subst f5_))
                  refine hK.out _ _ ⟨(blk_cell BK468.out 0).trans rfl, (blk_cell BK468.out 1).trans rfl, (blk_cell BK469.out 0).trans rfl, (blk_cell BK469.out 1).trans rfl⟩ (fun hHeld => ?_)
                  clear hK K
                  refine norm_ (a' := ?_) ?_ ?_
                  rotate_left
                  · show Act.put _ (some 47) _ = _
                    simp only [Act.put, List.setIfInBounds_toArray, List.set_cons_zero, List.set_cons_succ, i64_w, i32_w]
                    rfl
                  refine one_ (i := 5) (N := some 48) #[true, true, true, true, true, true, false, false] rfl rfl (one_of HT_.out (by kernel_rfl)) (by decide) (fun K hK => ?_)
                  refine goes_ Tryd.func28 (by kernel_rfl) rfl #[.slice Ao32 t470.length co32, .int .i64 1] (by rfl) rfl rfl (by (try simp only [List.map_toArray, List.map_cons, List.map_nil]); first | done | rfl | (simp only [List.length_drop, List.length_take]; rfl)) ?_
                  with_reducible refine (spec_Shifted.calls k2 _ _ t470 1 t473 _ ?side1 ?side2 A21.out).mono ?_
                  (case side1 => repeat (first | exact (Kd.R_reads' HO472.out).2.2 | (with_reducible refine Kd.C_alloc ?_ _) | (with_reducible refine Kd.C_drewN ?_ _) | (with_reducible refine Kd.C_drew ?_)))
                  (case side2 => exact (Kd.R_reads' HO472.out).2.1)
                  rintro e w33 ⟨v474, rfl, ho0, hb⟩
                  refine ⟨_, rfl, ?_⟩
                  have n0_ := Aside0.mk (Kd.R_elder' (by (with_reducible repeat (first | apply Kd.R_alloc | apply Kd.R_drewN | apply Kd.R_drew)); exact HO472.out) (Kd.R_base ho0) hb)
                  have n1_ := Aside0.mk (Kd.R_lower (Kd.R_new' ho0 (Kd.R_lt (by (with_reducible repeat (first | apply Kd.R_alloc | apply Kd.R_drewN | apply Kd.R_drew)); exact HO472.out))) (below_size (by repeat (first | (with_reducible first | exact HB.out | apply below_alloc | apply pw_below_drewN | apply below_drew1 | refine below_set ?_ GE468.out | refine below_set ?_ GE469.out) | exact HB.out))))
                  have n2_ := Aside0.mk (blk_below (g := gb468) (o := .cells #[.int .i64 a0_0, .int .u64 a0_1] 31 (0, 0)) (by (with_reducible repeat (first | refine blk_drewN ?_ _ | refine blk_drew ?_ | refine blk_alloc ?_ _)); exact BK468.out) hb)
                  have n3_ := Aside0.mk (blk_below (g := gb469) (o := .cells #[.string a1_0, .int .i64 a1_1] 35 (0, 0)) (by (with_reducible repeat (first | refine blk_drewN ?_ _ | refine blk_drew ?_ | refine blk_alloc ?_ _)); exact BK469.out) hb)
                  have n4_ := Aside0.mk (below_step (by repeat (first | (with_reducible first | exact HB.out | apply below_alloc | apply pw_below_drewN | apply below_drew1 | refine below_set ?_ GE468.out | refine below_set ?_ GE469.out) | exact HB.out)) hb)
                  clear HO472
                  clear BK468
                  clear BK469
                  clear HB
                  have HO472 := n0_
                  have HO475 := n1_
                  have BK468 := n2_
                  have BK469 := n3_
                  have HB := n4_
                  clear n0_ n1_ n2_ n3_ n4_
                  (try clear hb)
                  (try clear hb2)
                  (try clear hk)
                  (try clear hi)
                  (try clear ho0)
                  obtain ⟨Ao34, co34, eo34⟩ := Kd.R_slice HO475.out
                  (first | subst eo34 | (injection eo34 with f1_ f2_ f3_; have f4_ := f1_.symm; have f5_ := f3_.symm; clear f1_ f2_ f3_; subst f4_; subst f5_))
                  refine hK.out _ _ ⟨(blk_cell BK468.out 0).trans rfl, (blk_cell BK468.out 1).trans rfl, (blk_cell BK469.out 0).trans rfl, (blk_cell BK469.out 1).trans rfl⟩ (fun hHeld => ?_)
                  clear hK K
                  refine norm_ (a' := ?_) ?_ ?_
                  rotate_left
                  · show Act.put _ (some 48) _ = _
                    simp only [Act.put, List.setIfInBounds_toArray, List.set_cons_zero, List.set_cons_succ, i64_w, i32_w]
                    rfl
                  refine one_ (i := 6) (N := some 49) #[true, true, true, true, true, true, true, false] rfl rfl (one_of HT_.out (by kernel_rfl)) (by decide) (fun K hK => ?_)
                  refine goes_ Tryd.func27 (by kernel_rfl) rfl #[.agg #[.int .i64 a0_0, .int .u64 a0_1], .agg #[.string a1_0, .int .i64 a1_1], .slice Ao34 t473.length co34] (by rfl) rfl rfl (by (try simp only [List.map_toArray, List.map_cons, List.map_nil]); first | done | rfl | (simp only [List.length_drop, List.length_take]; rfl)) ?_
                  with_reducible refine (spec_Form_against.calls k2 a0_0 a0_1 a1_0 a1_1 _ _ t473 t476 _ ?side1 ?side2 A22.out).mono ?_
                  (case side1 => repeat (first | exact (Kd.R_reads' HO475.out).2.2 | (with_reducible refine Kd.C_alloc ?_ _) | (with_reducible refine Kd.C_drewN ?_ _) | (with_reducible refine Kd.C_drew ?_)))
                  (case side2 => exact (Kd.R_reads' HO475.out).2.1)
                  rintro e w35 ⟨rfl, hb⟩
                  refine ⟨_, rfl, ?_⟩
                  have n0_ := Aside0.mk (Kd.R_below (by (with_reducible repeat (first | apply Kd.R_alloc | apply Kd.R_drewN | apply Kd.R_drew)); exact HO472.out) hb)
                  have n1_ := Aside0.mk (Kd.R_below (by (with_reducible repeat (first | apply Kd.R_alloc | apply Kd.R_drewN | apply Kd.R_drew)); exact HO475.out) hb)
                  have n2_ := Aside0.mk (blk_below (g := gb468) (o := .cells #[.int .i64 a0_0, .int .u64 a0_1] 31 (0, 0)) (by (with_reducible repeat (first | refine blk_drewN ?_ _ | refine blk_drew ?_ | refine blk_alloc ?_ _)); exact BK468.out) hb)
                  have n3_ := Aside0.mk (blk_below (g := gb469) (o := .cells #[.string a1_0, .int .i64 a1_1] 35 (0, 0)) (by (with_reducible repeat (first | refine blk_drewN ?_ _ | refine blk_drew ?_ | refine blk_alloc ?_ _)); exact BK469.out) hb)
                  have n4_ := Aside0.mk (below_step (by repeat (first | (with_reducible first | exact HB.out | apply below_alloc | apply pw_below_drewN | apply below_drew1 | refine below_set ?_ GE468.out | refine below_set ?_ GE469.out) | exact HB.out)) hb)
                  clear HO472
                  clear HO475
                  clear BK468
                  clear BK469
                  clear HB
                  have HO472 := n0_
                  have HO475 := n1_
                  have BK468 := n2_
                  have BK469 := n3_
                  have HB := n4_
                  clear n0_ n1_ n2_ n3_ n4_
                  (try clear hb)
                  (try clear hb2)
                  (try clear hk)
                  (try clear hi)
                  refine hK.out _ _ ⟨(blk_cell BK468.out 0).trans rfl, (blk_cell BK468.out 1).trans rfl, (blk_cell BK469.out 0).trans rfl, (blk_cell BK469.out 1).trans rfl⟩ (fun hHeld => ?_)
                  clear hK K
                  refine norm_ (a' := ?_) ?_ ?_
                  rotate_left
                  · show Act.put _ (some 49) _ = _
                    simp only [Act.put, List.setIfInBounds_toArray, List.set_cons_zero, List.set_cons_succ, i64_w, i32_w]
                    rfl
                  refine pure_ (i := 7) (N := some 50) (v := ?_) (a' := ?_) #[true, true, true, true, true, true, true, true] rfl rfl (any_of HT_.out (by kernel_rfl)) (fun _ _ _ h => h) (Or.inl ⟨by rfl, ?_⟩) ?_ ?_
                  rotate_left
                  · intro w'
                    go_simp
                    with_reducible rfl
                  rotate_left
                  · simp only [Act.put, List.setIfInBounds_toArray, List.set_cons_zero, List.set_cons_succ, i64_w, i32_w]
                    rfl
                  refine done_ (done_of HT_.out (by kernel_rfl)) ?_
                  try go_wp2
                  go_roundg k2
                  case measure => have := HJ2.out; have := HK2.out; omega
                  case rel => exact ⟨(x5_2), (IntKind.u64.wrap ((IntKind.u64.wrap (x5_2 + (IntKind.u64.wrap (Int.tdiv (IntKind.u64.wrap ((IntKind.u64.wrap (x6_2 - x5_2)) + 1)) 2)))) - 1)), (by first | rfl | (simp; done) | (simp [*]; done)), (by first | rfl | (simp; done) | (simp [*]; done)), H', ⟨by have := HJ2.out; have := HK2.out; omega⟩, ⟨by (with_reducible repeat (first | refine blk_drewN ?_ _ | refine blk_drew ?_ | refine blk_alloc ?_ _)); exact BK468.out⟩, ⟨by (with_reducible repeat (first | refine blk_drewN ?_ _ | refine blk_drew ?_ | refine blk_alloc ?_ _)); exact BK469.out⟩, ⟨by repeat (first | (with_reducible first | exact HB.out | apply below_alloc | apply pw_below_drewN | apply below_drew1 | refine below_set ?_ GE468.out | refine below_set ?_ GE469.out) | exact HB.out)⟩⟩
              · rw [if_neg c19] at H
                have c19b0 : decide (x5_2 < x6_2) = false := decide_eq_false c19
                clear c19
                by_cases c36 : x5_2 = a0_1
                · rw [if_pos c36] at H
                  have c36b0 : (x5_2 == a0_1) = true := beq_iff_eq.mpr c36
                  have c36b1 : (x5_2 != a0_1) = false := bne_eq_false_iff_eq.mpr c36
                  clear c36
                  obtain rfl := Option.some.inj H
                  have hnb37 := NB468_469.out
                  have hnc37 := NB469_468.out
                  have hcz38_0 : wr.cell? ⟨gb468, 0, none⟩ = some (.int .i64 a0_0) := (blk_cell BK468.out 0).trans rfl
                  have hcz38_1 : wr.cell? ⟨gb468, 1, none⟩ = some (.int .u64 a0_1) := (blk_cell BK468.out 1).trans rfl
                  have hfz38_0 := blk_frozen BK468.out 0
                  have hfz38_1 := blk_frozen BK468.out 1
                  go_wp2
                  go_ret
                  exact ⟨by first | rfl | (simp [errW_none, errW_some] <;> rfl) | (simp [*, errW_none, errW_some] <;> rfl), by repeat (first | (with_reducible first | exact HB.out | apply below_alloc | apply pw_below_drewN | apply below_drew1 | refine below_set ?_ GE468.out | refine below_set ?_ GE469.out) | exact HB.out)⟩
                · rw [if_neg c36] at H
                  have c36b0 : (x5_2 == a0_1) = false := beq_eq_false_iff_ne.mpr c36
                  have c36b1 : (x5_2 != a0_1) = true := bne_iff_ne.mpr c36
                  replace H := Option.bind_eq_some_iff.mp H
                  obtain ⟨t477, A390, H⟩ := H
                  replace H : ((spec_Form_Times2.f k2 a0_0 a0_1 (IntKind.u64.wrap (x5_2 + 1))).bind fun t480 => ((spec_Add.f k2 t477 t480).bind fun t483 => ((spec_Form_against.f k2 a0_0 a0_1 a1_0 a1_1 t483).bind fun t486 => (if t486 > 0 then (some (IntKind.u64.wrap (x5_2 + 1))) else (if t486 = 0 then (if (Int.tmod x5_2 2) = 1 then (some (IntKind.u64.wrap (x5_2 + 1))) else (some x5_2)) else (some x5_2)))))) = some r := H
                  have A39 := Aside0.mk A390
                  clear A390
                  replace H := Option.bind_eq_some_iff.mp H
                  obtain ⟨t480, A400, H⟩ := H
                  replace H : ((spec_Add.f k2 t477 t480).bind fun t483 => ((spec_Form_against.f k2 a0_0 a0_1 a1_0 a1_1 t483).bind fun t486 => (if t486 > 0 then (some (IntKind.u64.wrap (x5_2 + 1))) else (if t486 = 0 then (if (Int.tmod x5_2 2) = 1 then (some (IntKind.u64.wrap (x5_2 + 1))) else (some x5_2)) else (some x5_2))))) = some r := H
                  have A40 := Aside0.mk A400
                  clear A400
                  replace H := Option.bind_eq_some_iff.mp H
                  obtain ⟨t483, A410, H⟩ := H
                  replace H : ((spec_Form_against.f k2 a0_0 a0_1 a1_0 a1_1 t483).bind fun t486 => (if t486 > 0 then (some (IntKind.u64.wrap (x5_2 + 1))) else (if t486 = 0 then (if (Int.tmod x5_2 2) = 1 then (some (IntKind.u64.wrap (x5_2 + 1))) else (some x5_2)) else (some x5_2)))) = some r := H
                  have A41 := Aside0.mk A410
                  clear A410
                  replace H := Option.bind_eq_some_iff.mp H
                  obtain ⟨t486, A420, H⟩ := H
                  replace H : (if t486 > 0 then (some (IntKind.u64.wrap (x5_2 + 1))) else (if t486 = 0 then (if (Int.tmod x5_2 2) = 1 then (some (IntKind.u64.wrap (x5_2 + 1))) else (some x5_2)) else (some x5_2))) = some r := H
                  have A42 := Aside0.mk A420
                  clear A420
                  by_cases c43 : t486 > 0
                  · rw [if_pos c43] at H
                    have c43b0 : decide (0 < t486) = true := decide_eq_true c43
                    clear c43
                    obtain rfl := Option.some.inj H
                    have hnb44 := NB468_469.out
                    have hnc44 := NB469_468.out
                    have hcz45_0 : wr.cell? ⟨gb468, 0, none⟩ = some (.int .i64 a0_0) := (blk_cell BK468.out 0).trans rfl
                    have hcz45_1 : wr.cell? ⟨gb468, 1, none⟩ = some (.int .u64 a0_1) := (blk_cell BK468.out 1).trans rfl
                    have hfz45_0 := blk_frozen BK468.out 0
                    have hfz45_1 := blk_frozen BK468.out 1
                    try go_wp2
                    have n0_ := Aside0.mk (blk_drew BK468.out)
                    have n1_ := Aside0.mk (blk_drew BK469.out)
                    have n2_ := Aside0.mk (below_drew1 HB.out)
                    clear BK468
                    clear BK469
                    clear HB
                    have BK468 := n0_
                    have BK469 := n1_
                    have HB := n2_
                    clear n0_ n1_ n2_
                    refine start_ (n := 12) (S := fun w' => w'.cell? ⟨gb468, 0, none⟩ = some (.int .i64 a0_0) ∧ w'.cell? ⟨gb468, 1, none⟩ = some (.int .u64 a0_1) ∧ w'.cell? ⟨gb469, 0, none⟩ = some (.string a1_0) ∧ w'.cell? ⟨gb469, 1, none⟩ = some (.int .i64 a1_1)) (ds := []) #[false, false, false, false, false, false, false, false, false, false, false, false] (by kernel_rfl) rfl rfl ⟨(blk_cell BK468.out 0).trans rfl, (blk_cell BK468.out 1).trans rfl, (blk_cell BK469.out 0).trans rfl, (blk_cell BK469.out 1).trans rfl⟩ (fun hHeld => ?_); refine with_tabW spec_Form_Nearest.tab13 spec_Form_Nearest.bits13 (fun HT_ HW_ => ?_)
                    generalize wr.drew = w46 at BK468 BK469 HB hHeld ⊢
                    refine pure_ (i := 3) (N := some 62) (v := ?_) (a' := ?_) #[false, false, false, true, false, false, false, false, false, false, false, false] rfl rfl (any_of HT_.out (by kernel_rfl)) (fun _ _ _ h => h) (Or.inl ⟨by rfl, ?_⟩) ?_ ?_
                    rotate_left
                    · intro w'
                      go_simp
                      with_reducible rfl
                    rotate_left
                    · simp only [Act.put, List.setIfInBounds_toArray, List.set_cons_zero, List.set_cons_succ, i64_w, i32_w]
                      rfl
                    refine pure_ (i := 6) (N := some 65) (v := ?_) (a' := ?_) #[false, false, false, true, false, false, true, false, false, false, false, false] rfl rfl (any_of HT_.out (by kernel_rfl)) (fun _ _ _ h => h) (Or.inl ⟨by rfl, ?_⟩) ?_ ?_
                    rotate_left
                    · intro w'
                      go_simp
                      with_reducible rfl
                    rotate_left
                    · simp only [Act.put, List.setIfInBounds_toArray, List.set_cons_zero, List.set_cons_succ, i64_w, i32_w]
                      rfl
                    refine pure_ (i := 7) (N := some 66) (v := ?_) (a' := ?_) #[false, false, false, true, false, false, true, true, false, false, false, false] rfl rfl (any_of HT_.out (by kernel_rfl)) (fun _ _ _ h => h) (Or.inl ⟨by rfl, ?_⟩) ?_ ?_
                    rotate_left
                    · intro w'
                      go_simp
                      with_reducible rfl
                    rotate_left
                    · simp only [Act.put, List.setIfInBounds_toArray, List.set_cons_zero, List.set_cons_succ, i64_w, i32_w]
                      rfl
                    refine take_ (i := 0) (N := some 59) (v := ?_) (a' := ?_) #[true, false, false, true, false, false, true, true, false, false, false, false] rfl rfl (take_ofW HT_.out HW_.out (by kernel_rfl)) (fun _ _ _ h => h) (Or.inl ⟨by rfl, ?_⟩) hHeld ?_ ?_
                    rotate_left
                    · rintro w' ⟨s0, s1, s2, s3⟩
                      go_simp
                      with_reducible rfl
                    rotate_left
                    · simp only [Act.put, List.setIfInBounds_toArray, List.set_cons_zero, List.set_cons_succ, i64_w, i32_w]
                      rfl
                    refine take_ (i := 1) (N := some 60) (v := ?_) (a' := ?_) #[true, true, false, true, false, false, true, true, false, false, false, false] rfl rfl (take_ofW HT_.out HW_.out (by kernel_rfl)) (fun _ _ _ h => h) (Or.inl ⟨by rfl, ?_⟩) hHeld ?_ ?_
                    rotate_left
                    · rintro w' ⟨s0, s1, s2, s3⟩
                      go_simp
                      with_reducible rfl
                    rotate_left
                    · simp only [Act.put, List.setIfInBounds_toArray, List.set_cons_zero, List.set_cons_succ, i64_w, i32_w]
                      rfl
                    refine take_ (i := 2) (N := some 61) (v := ?_) (a' := ?_) #[true, true, true, true, false, false, true, true, false, false, false, false] rfl rfl (take_ofW HT_.out HW_.out (by kernel_rfl)) (fun _ _ _ h => h) (Or.inl ⟨by rfl, ?_⟩) hHeld ?_ ?_
                    rotate_left
                    · rintro w' ⟨s0, s1, s2, s3⟩
                      go_simp
                      with_reducible rfl
                    rotate_left
                    · simp only [Act.put, List.setIfInBounds_toArray, List.set_cons_zero, List.set_cons_succ, i64_w, i32_w]
                      rfl
                    refine take_ (i := 5) (N := some 64) (v := ?_) (a' := ?_) #[true, true, true, true, false, true, true, true, false, false, false, false] rfl rfl (take_ofW HT_.out HW_.out (by kernel_rfl)) (fun _ _ _ h => h) (Or.inl ⟨by rfl, ?_⟩) hHeld ?_ ?_
                    rotate_left
                    · rintro w' ⟨s0, s1, s2, s3⟩
                      go_simp
                      with_reducible rfl
                    rotate_left
                    · simp only [Act.put, List.setIfInBounds_toArray, List.set_cons_zero, List.set_cons_succ, i64_w, i32_w]
                      rfl
                    refine one_ (i := 4) (N := some 63) #[true, true, true, true, true, true, true, true, false, false, false, false] rfl rfl (one_of HT_.out (by kernel_rfl)) (by decide) (fun K hK => ?_)
                    refine goes_ Tryd.func29 (by kernel_rfl) rfl #[.agg #[.int .i64 a0_0, .int .u64 a0_1], .int .u64 x5_2] (by rfl) rfl rfl (by (try simp only [List.map_toArray, List.map_cons, List.map_nil]); first | done | rfl | (simp only [List.length_drop, List.length_take]; rfl)) ?_
                    with_reducible refine (spec_Form_Times2.calls k2 a0_0 a0_1 x5_2 t477 _ A39.out).mono ?_
                    rintro e w47 ⟨v478, rfl, ho0, hb⟩
                    refine ⟨_, rfl, ?_⟩
                    have n0_ := Aside0.mk (Kd.R_lower ho0 (below_size (by repeat (first | (with_reducible first | exact HB.out | apply below_alloc | apply pw_below_drewN | apply below_drew1 | refine below_set ?_ GE468.out | refine below_set ?_ GE469.out) | exact HB.out))))
                    have n1_ := Aside0.mk (blk_below (g := gb468) (o := .cells #[.int .i64 a0_0, .int .u64 a0_1] 31 (0, 0)) (by (with_reducible repeat (first | refine blk_drewN ?_ _ | refine blk_drew ?_ | refine blk_alloc ?_ _)); exact BK468.out) hb)
                    have n2_ := Aside0.mk (blk_below (g := gb469) (o := .cells #[.string a1_0, .int .i64 a1_1] 35 (0, 0)) (by (with_reducible repeat (first | refine blk_drewN ?_ _ | refine blk_drew ?_ | refine blk_alloc ?_ _)); exact BK469.out) hb)
                    have n3_ := Aside0.mk (below_step (by repeat (first | (with_reducible first | exact HB.out | apply below_alloc | apply pw_below_drewN | apply below_drew1 | refine below_set ?_ GE468.out | refine below_set ?_ GE469.out) | exact HB.out)) hb)
                    clear BK468
                    clear BK469
                    clear HB
                    have HO479 := n0_
                    have BK468 := n1_
                    have BK469 := n2_
                    have HB := n3_
                    clear n0_ n1_ n2_ n3_
                    (try clear hb)
                    (try clear hb2)
                    (try clear hk)
                    (try clear hi)
                    (try clear ho0)
                    refine hK.out _ _ ⟨(blk_cell BK468.out 0).trans rfl, (blk_cell BK468.out 1).trans rfl, (blk_cell BK469.out 0).trans rfl, (blk_cell BK469.out 1).trans rfl⟩ (fun hHeld => ?_)
                    clear hK K
                    refine norm_ (a' := ?_) ?_ ?_
                    rotate_left
                    · show Act.put _ (some 63) _ = _
                      simp only [Act.put, List.setIfInBounds_toArray, List.set_cons_zero, List.set_cons_succ, i64_w, i32_w]
                      rfl
                    refine one_ (i := 8) (N := some 67) #[true, true, true, true, true, true, true, true, true, false, false, false] rfl rfl (one_of HT_.out (by kernel_rfl)) (by decide) (fun K hK => ?_)
                    refine goes_ Tryd.func29 (by kernel_rfl) rfl #[.agg #[.int .i64 a0_0, .int .u64 a0_1], .int .u64 (IntKind.u64.wrap (x5_2 + 1))] (by rfl) rfl rfl (by (try simp only [List.map_toArray, List.map_cons, List.map_nil]); first | done | rfl | (simp only [List.length_drop, List.length_take]; rfl)) ?_
                    with_reducible refine (spec_Form_Times2.calls k2 a0_0 a0_1 (IntKind.u64.wrap (x5_2 + 1)) t480 _ A40.out).mono ?_
                    rintro e w48 ⟨v481, rfl, ho0, hb⟩
                    refine ⟨_, rfl, ?_⟩
                    have n0_ := Aside0.mk (Kd.R_elder' (by (with_reducible repeat (first | apply Kd.R_alloc | apply Kd.R_drewN | apply Kd.R_drew)); exact HO479.out) (Kd.R_base ho0) hb)
                    have n1_ := Aside0.mk (Kd.R_lower (Kd.R_new' ho0 (Kd.R_lt (by (with_reducible repeat (first | apply Kd.R_alloc | apply Kd.R_drewN | apply Kd.R_drew)); exact HO479.out))) (below_size (by repeat (first | (with_reducible first | exact HB.out | apply below_alloc | apply pw_below_drewN | apply below_drew1 | refine below_set ?_ GE468.out | refine below_set ?_ GE469.out) | exact HB.out))))
                    have n2_ := Aside0.mk (blk_below (g := gb468) (o := .cells #[.int .i64 a0_0, .int .u64 a0_1] 31 (0, 0)) (by (with_reducible repeat (first | refine blk_drewN ?_ _ | refine blk_drew ?_ | refine blk_alloc ?_ _)); exact BK468.out) hb)
                    have n3_ := Aside0.mk (blk_below (g := gb469) (o := .cells #[.string a1_0, .int .i64 a1_1] 35 (0, 0)) (by (with_reducible repeat (first | refine blk_drewN ?_ _ | refine blk_drew ?_ | refine blk_alloc ?_ _)); exact BK469.out) hb)
                    have n4_ := Aside0.mk (below_step (by repeat (first | (with_reducible first | exact HB.out | apply below_alloc | apply pw_below_drewN | apply below_drew1 | refine below_set ?_ GE468.out | refine below_set ?_ GE469.out) | exact HB.out)) hb)
                    clear HO479
                    clear BK468
                    clear BK469
                    clear HB
                    have HO479 := n0_
                    have HO482 := n1_
                    have BK468 := n2_
                    have BK469 := n3_
                    have HB := n4_
                    clear n0_ n1_ n2_ n3_ n4_
                    (try clear hb)
                    (try clear hb2)
                    (try clear hk)
                    (try clear hi)
                    (try clear ho0)
                    obtain ⟨Ao49, co49, eo49⟩ := Kd.R_slice HO479.out
                    (first | subst eo49 | (injection eo49 with f1_ f2_ f3_; have f4_ := f1_.symm; have f5_ := f3_.symm; clear f1_ f2_ f3_; subst f4_; subst f5_))
                    obtain ⟨Ao50, co50, eo50⟩ := Kd.R_slice HO482.out
                    (first | subst eo50 | (injection eo50 with f1_ f2_ f3_; have f4_ := f1_.symm; have f5_ := f3_.symm; clear f1_ f2_ f3_; subst f4_; subst f5_))
                    refine hK.out _ _ ⟨(blk_cell BK468.out 0).trans rfl, (blk_cell BK468.out 1).trans rfl, (blk_cell BK469.out 0).trans rfl, (blk_cell BK469.out 1).trans rfl⟩ (fun hHeld => ?_)
                    clear hK K
                    refine norm_ (a' := ?_) ?_ ?_
                    rotate_left
                    · show Act.put _ (some 67) _ = _
                      simp only [Act.put, List.setIfInBounds_toArray, List.set_cons_zero, List.set_cons_succ, i64_w, i32_w]
                      rfl
                    refine one_ (i := 9) (N := some 68) #[true, true, true, true, true, true, true, true, true, true, false, false] rfl rfl (one_of HT_.out (by kernel_rfl)) (by decide) (fun K hK => ?_)
                    refine goes_ Tryd.func30 (by kernel_rfl) rfl #[.slice Ao49 t477.length co49, .slice Ao50 t480.length co50] (by rfl) rfl rfl (by (try simp only [List.map_toArray, List.map_cons, List.map_nil]); first | done | rfl | (simp only [List.length_drop, List.length_take]; rfl)) ?_
                    with_reducible refine (spec_Add.calls k2 _ _ t477 _ _ t480 t483 _ ?side1 ?side2 ?side3 ?side4 A41.out).mono ?_
                    (case side1 => repeat (first | exact (Kd.R_reads' HO479.out).2.2 | (with_reducible refine Kd.C_alloc ?_ _) | (with_reducible refine Kd.C_drewN ?_ _) | (with_reducible refine Kd.C_drew ?_)))
                    (case side2 => exact (Kd.R_reads' HO479.out).2.1)
                    (case side3 => repeat (first | exact (Kd.R_reads' HO482.out).2.2 | (with_reducible refine Kd.C_alloc ?_ _) | (with_reducible refine Kd.C_drewN ?_ _) | (with_reducible refine Kd.C_drew ?_)))
                    (case side4 => exact (Kd.R_reads' HO482.out).2.1)
                    rintro e w51 ⟨v484, rfl, ho0, hb⟩
                    refine ⟨_, rfl, ?_⟩
                    have n0_ := Aside0.mk (Kd.R_elder' (by (with_reducible repeat (first | apply Kd.R_alloc | apply Kd.R_drewN | apply Kd.R_drew)); exact HO479.out) (Kd.R_base ho0) hb)
                    have n1_ := Aside0.mk (Kd.R_elder' (by (with_reducible repeat (first | apply Kd.R_alloc | apply Kd.R_drewN | apply Kd.R_drew)); exact HO482.out) (Kd.R_base ho0) hb)
                    have n2_ := Aside0.mk (Kd.R_lower (Kd.R_new' (Kd.R_new' ho0 (Kd.R_lt (by (with_reducible repeat (first | apply Kd.R_alloc | apply Kd.R_drewN | apply Kd.R_drew)); exact HO479.out))) (Kd.R_lt (by (with_reducible repeat (first | apply Kd.R_alloc | apply Kd.R_drewN | apply Kd.R_drew)); exact HO482.out))) (below_size (by repeat (first | (with_reducible first | exact HB.out | apply below_alloc | apply pw_below_drewN | apply below_drew1 | refine below_set ?_ GE468.out | refine below_set ?_ GE469.out) | exact HB.out))))
                    have n3_ := Aside0.mk (blk_below (g := gb468) (o := .cells #[.int .i64 a0_0, .int .u64 a0_1] 31 (0, 0)) (by (with_reducible repeat (first | refine blk_drewN ?_ _ | refine blk_drew ?_ | refine blk_alloc ?_ _)); exact BK468.out) hb)
                    have n4_ := Aside0.mk (blk_below (g := gb469) (o := .cells #[.string a1_0, .int .i64 a1_1] 35 (0, 0)) (by (with_reducible repeat (first | refine blk_drewN ?_ _ | refine blk_drew ?_ | refine blk_alloc ?_ _)); exact BK469.out) hb)
                    have n5_ := Aside0.mk (below_step (by repeat (first | (with_reducible first | exact HB.out | apply below_alloc | apply pw_below_drewN | apply below_drew1 | refine below_set ?_ GE468.out | refine below_set ?_ GE469.out) | exact HB.out)) hb)
                    clear HO479
                    clear HO482
                    clear BK468
                    clear BK469
                    clear HB
                    have HO479 := n0_
                    have HO482 := n1_
                    have HO485 := n2_
                    have BK468 := n3_
                    have BK469 := n4_
                    have HB := n5_
                    clear n0_ n1_ n2_ n3_ n4_ n5_
                    (try clear hb)
                    (try clear hb2)
                    (try clear hk)
                    (try clear hi)
                    (try clear ho0)
                    obtain ⟨Ao52, co52, eo52⟩ := Kd.R_slice HO485.out
                    (first | subst eo52 | (injection eo52 with f1_ f2_ f3_; have f4_ := f1_.symm; have f5_ := f3_.symm; clear f1_ f2_ f3_; subst f4_; subst f5_))
                    refine hK.out _ _ ⟨(blk_cell BK468.out 0).trans rfl, (blk_cell BK468.out 1).trans rfl, (blk_cell BK469.out 0).trans rfl, (blk_cell BK469.out 1).trans rfl⟩ (fun hHeld => ?_)
                    clear hK K
                    refine norm_ (a' := ?_) ?_ ?_
                    rotate_left
                    · show Act.put _ (some 68) _ = _
                      simp only [Act.put, List.setIfInBounds_toArray, List.set_cons_zero, List.set_cons_succ, i64_w, i32_w]
                      rfl
                    refine one_ (i := 10) (N := some 69) #[true, true, true, true, true, true, true, true, true, true, true, false] rfl rfl (one_of HT_.out (by kernel_rfl)) (by decide) (fun K hK => ?_)
                    refine goes_ Tryd.func27 (by kernel_rfl) rfl #[.agg #[.int .i64 a0_0, .int .u64 a0_1], .agg #[.string a1_0, .int .i64 a1_1], .slice Ao52 t483.length co52] (by rfl) rfl rfl (by (try simp only [List.map_toArray, List.map_cons, List.map_nil]); first | done | rfl | (simp only [List.length_drop, List.length_take]; rfl)) ?_
                    with_reducible refine (spec_Form_against.calls k2 a0_0 a0_1 a1_0 a1_1 _ _ t483 t486 _ ?side1 ?side2 A42.out).mono ?_
                    (case side1 => repeat (first | exact (Kd.R_reads' HO485.out).2.2 | (with_reducible refine Kd.C_alloc ?_ _) | (with_reducible refine Kd.C_drewN ?_ _) | (with_reducible refine Kd.C_drew ?_)))
                    (case side2 => exact (Kd.R_reads' HO485.out).2.1)
                    rintro e w53 ⟨rfl, hb⟩
                    refine ⟨_, rfl, ?_⟩
                    have n0_ := Aside0.mk (Kd.R_below (by (with_reducible repeat (first | apply Kd.R_alloc | apply Kd.R_drewN | apply Kd.R_drew)); exact HO479.out) hb)
                    have n1_ := Aside0.mk (Kd.R_below (by (with_reducible repeat (first | apply Kd.R_alloc | apply Kd.R_drewN | apply Kd.R_drew)); exact HO482.out) hb)
                    have n2_ := Aside0.mk (Kd.R_below (by (with_reducible repeat (first | apply Kd.R_alloc | apply Kd.R_drewN | apply Kd.R_drew)); exact HO485.out) hb)
                    have n3_ := Aside0.mk (blk_below (g := gb468) (o := .cells #[.int .i64 a0_0, .int .u64 a0_1] 31 (0, 0)) (by (with_reducible repeat (first | refine blk_drewN ?_ _ | refine blk_drew ?_ | refine blk_alloc ?_ _)); exact BK468.out) hb)
                    have n4_ := Aside0.mk (blk_below (g := gb469) (o := .cells #[.string a1_0, .int .i64 a1_1] 35 (0, 0)) (by (with_reducible repeat (first | refine blk_drewN ?_ _ | refine blk_drew ?_ | refine blk_alloc ?_ _)); exact BK469.out) hb)
                    have n5_ := Aside0.mk (below_step (by repeat (first | (with_reducible first | exact HB.out | apply below_alloc | apply pw_below_drewN | apply below_drew1 | refine below_set ?_ GE468.out | refine below_set ?_ GE469.out) | exact HB.out)) hb)
                    clear HO479
                    clear HO482
                    clear HO485
                    clear BK468
                    clear BK469
                    clear HB
                    have HO479 := n0_
                    have HO482 := n1_
                    have HO485 := n2_
                    have BK468 := n3_
                    have BK469 := n4_
                    have HB := n5_
                    clear n0_ n1_ n2_ n3_ n4_ n5_
                    (try clear hb)
                    (try clear hb2)
                    (try clear hk)
                    (try clear hi)
                    refine hK.out _ _ ⟨(blk_cell BK468.out 0).trans rfl, (blk_cell BK468.out 1).trans rfl, (blk_cell BK469.out 0).trans rfl, (blk_cell BK469.out 1).trans rfl⟩ (fun hHeld => ?_)
                    clear hK K
                    refine norm_ (a' := ?_) ?_ ?_
                    rotate_left
                    · show Act.put _ (some 69) _ = _
                      simp only [Act.put, List.setIfInBounds_toArray, List.set_cons_zero, List.set_cons_succ, i64_w, i32_w]
                      rfl
                    refine pure_ (i := 11) (N := some 8) (v := ?_) (a' := ?_) #[true, true, true, true, true, true, true, true, true, true, true, true] rfl rfl (any_of HT_.out (by kernel_rfl)) (fun _ _ _ h => h) (Or.inl ⟨by rfl, ?_⟩) ?_ ?_
                    rotate_left
                    · intro w'
                      go_simp
                      with_reducible rfl
                    rotate_left
                    · simp only [Act.put, List.setIfInBounds_toArray, List.set_cons_zero, List.set_cons_succ, i64_w, i32_w]
                      rfl
                    refine done_ (done_of HT_.out (by kernel_rfl)) ?_
                    try go_wp2
                    go_ret
                    exact ⟨by first | rfl | (simp [errW_none, errW_some] <;> rfl) | (simp [*, errW_none, errW_some] <;> rfl), by repeat (first | (with_reducible first | exact HB.out | apply below_alloc | apply pw_below_drewN | apply below_drew1 | refine below_set ?_ GE468.out | refine below_set ?_ GE469.out) | exact HB.out)⟩
                  · rw [if_neg c43] at H
                    have c43b0 : decide (0 < t486) = false := decide_eq_false c43
                    clear c43
                    by_cases c54 : t486 = 0
                    · rw [if_pos c54] at H
                      have c54b0 : (t486 == 0) = true := beq_iff_eq.mpr c54
                      have c54b1 : (t486 != 0) = false := bne_eq_false_iff_eq.mpr c54
                      clear c54
                      by_cases c55 : (Int.tmod x5_2 2) = 1
                      · rw [if_pos c55] at H
                        have c55b0 : ((Int.tmod x5_2 2) == 1) = true := beq_iff_eq.mpr c55
                        have c55b1 : ((Int.tmod x5_2 2) != 1) = false := bne_eq_false_iff_eq.mpr c55
                        clear c55
                        obtain rfl := Option.some.inj H
                        have hnb56 := NB468_469.out
                        have hnc56 := NB469_468.out
                        have hcz57_0 : wr.cell? ⟨gb468, 0, none⟩ = some (.int .i64 a0_0) := (blk_cell BK468.out 0).trans rfl
                        have hcz57_1 : wr.cell? ⟨gb468, 1, none⟩ = some (.int .u64 a0_1) := (blk_cell BK468.out 1).trans rfl
                        have hfz57_0 := blk_frozen BK468.out 0
                        have hfz57_1 := blk_frozen BK468.out 1
                        try go_wp2
                        have n0_ := Aside0.mk (blk_drew BK468.out)
                        have n1_ := Aside0.mk (blk_drew BK469.out)
                        have n2_ := Aside0.mk (below_drew1 HB.out)
                        clear BK468
                        clear BK469
                        clear HB
                        have BK468 := n0_
                        have BK469 := n1_
                        have HB := n2_
                        clear n0_ n1_ n2_
                        refine start_ (n := 12) (S := fun w' => w'.cell? ⟨gb468, 0, none⟩ = some (.int .i64 a0_0) ∧ w'.cell? ⟨gb468, 1, none⟩ = some (.int .u64 a0_1) ∧ w'.cell? ⟨gb469, 0, none⟩ = some (.string a1_0) ∧ w'.cell? ⟨gb469, 1, none⟩ = some (.int .i64 a1_1)) (ds := []) #[false, false, false, false, false, false, false, false, false, false, false, false] (by kernel_rfl) rfl rfl ⟨(blk_cell BK468.out 0).trans rfl, (blk_cell BK468.out 1).trans rfl, (blk_cell BK469.out 0).trans rfl, (blk_cell BK469.out 1).trans rfl⟩ (fun hHeld => ?_); refine with_tabW spec_Form_Nearest.tab13 spec_Form_Nearest.bits13 (fun HT_ HW_ => ?_)
                        generalize wr.drew = w58 at BK468 BK469 HB hHeld ⊢
                        refine pure_ (i := 3) (N := some 62) (v := ?_) (a' := ?_) #[false, false, false, true, false, false, false, false, false, false, false, false] rfl rfl (any_of HT_.out (by kernel_rfl)) (fun _ _ _ h => h) (Or.inl ⟨by rfl, ?_⟩) ?_ ?_
                        rotate_left
                        · intro w'
                          go_simp
                          with_reducible rfl
                        rotate_left
                        · simp only [Act.put, List.setIfInBounds_toArray, List.set_cons_zero, List.set_cons_succ, i64_w, i32_w]
                          rfl
                        refine pure_ (i := 6) (N := some 65) (v := ?_) (a' := ?_) #[false, false, false, true, false, false, true, false, false, false, false, false] rfl rfl (any_of HT_.out (by kernel_rfl)) (fun _ _ _ h => h) (Or.inl ⟨by rfl, ?_⟩) ?_ ?_
                        rotate_left
                        · intro w'
                          go_simp
                          with_reducible rfl
                        rotate_left
                        · simp only [Act.put, List.setIfInBounds_toArray, List.set_cons_zero, List.set_cons_succ, i64_w, i32_w]
                          rfl
                        refine pure_ (i := 7) (N := some 66) (v := ?_) (a' := ?_) #[false, false, false, true, false, false, true, true, false, false, false, false] rfl rfl (any_of HT_.out (by kernel_rfl)) (fun _ _ _ h => h) (Or.inl ⟨by rfl, ?_⟩) ?_ ?_
                        rotate_left
                        · intro w'
                          go_simp
                          with_reducible rfl
                        rotate_left
                        · simp only [Act.put, List.setIfInBounds_toArray, List.set_cons_zero, List.set_cons_succ, i64_w, i32_w]
                          rfl
                        refine take_ (i := 0) (N := some 59) (v := ?_) (a' := ?_) #[true, false, false, true, false, false, true, true, false, false, false, false] rfl rfl (take_ofW HT_.out HW_.out (by kernel_rfl)) (fun _ _ _ h => h) (Or.inl ⟨by rfl, ?_⟩) hHeld ?_ ?_
                        rotate_left
                        · rintro w' ⟨s0, s1, s2, s3⟩
                          go_simp
                          with_reducible rfl
                        rotate_left
                        · simp only [Act.put, List.setIfInBounds_toArray, List.set_cons_zero, List.set_cons_succ, i64_w, i32_w]
                          rfl
                        refine take_ (i := 1) (N := some 60) (v := ?_) (a' := ?_) #[true, true, false, true, false, false, true, true, false, false, false, false] rfl rfl (take_ofW HT_.out HW_.out (by kernel_rfl)) (fun _ _ _ h => h) (Or.inl ⟨by rfl, ?_⟩) hHeld ?_ ?_
                        rotate_left
                        · rintro w' ⟨s0, s1, s2, s3⟩
                          go_simp
                          with_reducible rfl
                        rotate_left
                        · simp only [Act.put, List.setIfInBounds_toArray, List.set_cons_zero, List.set_cons_succ, i64_w, i32_w]
                          rfl
                        refine take_ (i := 2) (N := some 61) (v := ?_) (a' := ?_) #[true, true, true, true, false, false, true, true, false, false, false, false] rfl rfl (take_ofW HT_.out HW_.out (by kernel_rfl)) (fun _ _ _ h => h) (Or.inl ⟨by rfl, ?_⟩) hHeld ?_ ?_
                        rotate_left
                        · rintro w' ⟨s0, s1, s2, s3⟩
                          go_simp
                          with_reducible rfl
                        rotate_left
                        · simp only [Act.put, List.setIfInBounds_toArray, List.set_cons_zero, List.set_cons_succ, i64_w, i32_w]
                          rfl
                        refine take_ (i := 5) (N := some 64) (v := ?_) (a' := ?_) #[true, true, true, true, false, true, true, true, false, false, false, false] rfl rfl (take_ofW HT_.out HW_.out (by kernel_rfl)) (fun _ _ _ h => h) (Or.inl ⟨by rfl, ?_⟩) hHeld ?_ ?_
                        rotate_left
                        · rintro w' ⟨s0, s1, s2, s3⟩
                          go_simp
                          with_reducible rfl
                        rotate_left
                        · simp only [Act.put, List.setIfInBounds_toArray, List.set_cons_zero, List.set_cons_succ, i64_w, i32_w]
                          rfl
                        refine one_ (i := 4) (N := some 63) #[true, true, true, true, true, true, true, true, false, false, false, false] rfl rfl (one_of HT_.out (by kernel_rfl)) (by decide) (fun K hK => ?_)
                        refine goes_ Tryd.func29 (by kernel_rfl) rfl #[.agg #[.int .i64 a0_0, .int .u64 a0_1], .int .u64 x5_2] (by rfl) rfl rfl (by (try simp only [List.map_toArray, List.map_cons, List.map_nil]); first | done | rfl | (simp only [List.length_drop, List.length_take]; rfl)) ?_
                        with_reducible refine (spec_Form_Times2.calls k2 a0_0 a0_1 x5_2 t477 _ A39.out).mono ?_
                        rintro e w59 ⟨v478, rfl, ho0, hb⟩
                        refine ⟨_, rfl, ?_⟩
                        have n0_ := Aside0.mk (Kd.R_lower ho0 (below_size (by repeat (first | (with_reducible first | exact HB.out | apply below_alloc | apply pw_below_drewN | apply below_drew1 | refine below_set ?_ GE468.out | refine below_set ?_ GE469.out) | exact HB.out))))
                        have n1_ := Aside0.mk (blk_below (g := gb468) (o := .cells #[.int .i64 a0_0, .int .u64 a0_1] 31 (0, 0)) (by (with_reducible repeat (first | refine blk_drewN ?_ _ | refine blk_drew ?_ | refine blk_alloc ?_ _)); exact BK468.out) hb)
                        have n2_ := Aside0.mk (blk_below (g := gb469) (o := .cells #[.string a1_0, .int .i64 a1_1] 35 (0, 0)) (by (with_reducible repeat (first | refine blk_drewN ?_ _ | refine blk_drew ?_ | refine blk_alloc ?_ _)); exact BK469.out) hb)
                        have n3_ := Aside0.mk (below_step (by repeat (first | (with_reducible first | exact HB.out | apply below_alloc | apply pw_below_drewN | apply below_drew1 | refine below_set ?_ GE468.out | refine below_set ?_ GE469.out) | exact HB.out)) hb)
                        clear BK468
                        clear BK469
                        clear HB
                        have HO479 := n0_
                        have BK468 := n1_
                        have BK469 := n2_
                        have HB := n3_
                        clear n0_ n1_ n2_ n3_
                        (try clear hb)
                        (try clear hb2)
                        (try clear hk)
                        (try clear hi)
                        (try clear ho0)
                        refine hK.out _ _ ⟨(blk_cell BK468.out 0).trans rfl, (blk_cell BK468.out 1).trans rfl, (blk_cell BK469.out 0).trans rfl, (blk_cell BK469.out 1).trans rfl⟩ (fun hHeld => ?_)
                        clear hK K
                        refine norm_ (a' := ?_) ?_ ?_
                        rotate_left
                        · show Act.put _ (some 63) _ = _
                          simp only [Act.put, List.setIfInBounds_toArray, List.set_cons_zero, List.set_cons_succ, i64_w, i32_w]
                          rfl
                        refine one_ (i := 8) (N := some 67) #[true, true, true, true, true, true, true, true, true, false, false, false] rfl rfl (one_of HT_.out (by kernel_rfl)) (by decide) (fun K hK => ?_)
                        refine goes_ Tryd.func29 (by kernel_rfl) rfl #[.agg #[.int .i64 a0_0, .int .u64 a0_1], .int .u64 (IntKind.u64.wrap (x5_2 + 1))] (by rfl) rfl rfl (by (try simp only [List.map_toArray, List.map_cons, List.map_nil]); first | done | rfl | (simp only [List.length_drop, List.length_take]; rfl)) ?_
                        with_reducible refine (spec_Form_Times2.calls k2 a0_0 a0_1 (IntKind.u64.wrap (x5_2 + 1)) t480 _ A40.out).mono ?_
                        rintro e w60 ⟨v481, rfl, ho0, hb⟩
                        refine ⟨_, rfl, ?_⟩
                        have n0_ := Aside0.mk (Kd.R_elder' (by (with_reducible repeat (first | apply Kd.R_alloc | apply Kd.R_drewN | apply Kd.R_drew)); exact HO479.out) (Kd.R_base ho0) hb)
                        have n1_ := Aside0.mk (Kd.R_lower (Kd.R_new' ho0 (Kd.R_lt (by (with_reducible repeat (first | apply Kd.R_alloc | apply Kd.R_drewN | apply Kd.R_drew)); exact HO479.out))) (below_size (by repeat (first | (with_reducible first | exact HB.out | apply below_alloc | apply pw_below_drewN | apply below_drew1 | refine below_set ?_ GE468.out | refine below_set ?_ GE469.out) | exact HB.out))))
                        have n2_ := Aside0.mk (blk_below (g := gb468) (o := .cells #[.int .i64 a0_0, .int .u64 a0_1] 31 (0, 0)) (by (with_reducible repeat (first | refine blk_drewN ?_ _ | refine blk_drew ?_ | refine blk_alloc ?_ _)); exact BK468.out) hb)
                        have n3_ := Aside0.mk (blk_below (g := gb469) (o := .cells #[.string a1_0, .int .i64 a1_1] 35 (0, 0)) (by (with_reducible repeat (first | refine blk_drewN ?_ _ | refine blk_drew ?_ | refine blk_alloc ?_ _)); exact BK469.out) hb)
                        have n4_ := Aside0.mk (below_step (by repeat (first | (with_reducible first | exact HB.out | apply below_alloc | apply pw_below_drewN | apply below_drew1 | refine below_set ?_ GE468.out | refine below_set ?_ GE469.out) | exact HB.out)) hb)
                        clear HO479
                        clear BK468
                        clear BK469
                        clear HB
                        have HO479 := n0_
                        have HO482 := n1_
                        have BK468 := n2_
                        have BK469 := n3_
                        have HB := n4_
                        clear n0_ n1_ n2_ n3_ n4_
                        (try clear hb)
                        (try clear hb2)
                        (try clear hk)
                        (try clear hi)
                        (try clear ho0)
                        obtain ⟨Ao61, co61, eo61⟩ := Kd.R_slice HO479.out
                        (first | subst eo61 | (injection eo61 with f1_ f2_ f3_; have f4_ := f1_.symm; have f5_ := f3_.symm; clear f1_ f2_ f3_; subst f4_; subst f5_))
                        obtain ⟨Ao62, co62, eo62⟩ := Kd.R_slice HO482.out
                        (first | subst eo62 | (injection eo62 with f1_ f2_ f3_; have f4_ := f1_.symm; have f5_ := f3_.symm; clear f1_ f2_ f3_; subst f4_; subst f5_))
                        refine hK.out _ _ ⟨(blk_cell BK468.out 0).trans rfl, (blk_cell BK468.out 1).trans rfl, (blk_cell BK469.out 0).trans rfl, (blk_cell BK469.out 1).trans rfl⟩ (fun hHeld => ?_)
                        clear hK K
                        refine norm_ (a' := ?_) ?_ ?_
                        rotate_left
                        · show Act.put _ (some 67) _ = _
                          simp only [Act.put, List.setIfInBounds_toArray, List.set_cons_zero, List.set_cons_succ, i64_w, i32_w]
                          rfl
                        refine one_ (i := 9) (N := some 68) #[true, true, true, true, true, true, true, true, true, true, false, false] rfl rfl (one_of HT_.out (by kernel_rfl)) (by decide) (fun K hK => ?_)
                        refine goes_ Tryd.func30 (by kernel_rfl) rfl #[.slice Ao61 t477.length co61, .slice Ao62 t480.length co62] (by rfl) rfl rfl (by (try simp only [List.map_toArray, List.map_cons, List.map_nil]); first | done | rfl | (simp only [List.length_drop, List.length_take]; rfl)) ?_
                        with_reducible refine (spec_Add.calls k2 _ _ t477 _ _ t480 t483 _ ?side1 ?side2 ?side3 ?side4 A41.out).mono ?_
                        (case side1 => repeat (first | exact (Kd.R_reads' HO479.out).2.2 | (with_reducible refine Kd.C_alloc ?_ _) | (with_reducible refine Kd.C_drewN ?_ _) | (with_reducible refine Kd.C_drew ?_)))
                        (case side2 => exact (Kd.R_reads' HO479.out).2.1)
                        (case side3 => repeat (first | exact (Kd.R_reads' HO482.out).2.2 | (with_reducible refine Kd.C_alloc ?_ _) | (with_reducible refine Kd.C_drewN ?_ _) | (with_reducible refine Kd.C_drew ?_)))
                        (case side4 => exact (Kd.R_reads' HO482.out).2.1)
                        rintro e w63 ⟨v484, rfl, ho0, hb⟩
                        refine ⟨_, rfl, ?_⟩
                        have n0_ := Aside0.mk (Kd.R_elder' (by (with_reducible repeat (first | apply Kd.R_alloc | apply Kd.R_drewN | apply Kd.R_drew)); exact HO479.out) (Kd.R_base ho0) hb)
                        have n1_ := Aside0.mk (Kd.R_elder' (by (with_reducible repeat (first | apply Kd.R_alloc | apply Kd.R_drewN | apply Kd.R_drew)); exact HO482.out) (Kd.R_base ho0) hb)
                        have n2_ := Aside0.mk (Kd.R_lower (Kd.R_new' (Kd.R_new' ho0 (Kd.R_lt (by (with_reducible repeat (first | apply Kd.R_alloc | apply Kd.R_drewN | apply Kd.R_drew)); exact HO479.out))) (Kd.R_lt (by (with_reducible repeat (first | apply Kd.R_alloc | apply Kd.R_drewN | apply Kd.R_drew)); exact HO482.out))) (below_size (by repeat (first | (with_reducible first | exact HB.out | apply below_alloc | apply pw_below_drewN | apply below_drew1 | refine below_set ?_ GE468.out | refine below_set ?_ GE469.out) | exact HB.out))))
                        have n3_ := Aside0.mk (blk_below (g := gb468) (o := .cells #[.int .i64 a0_0, .int .u64 a0_1] 31 (0, 0)) (by (with_reducible repeat (first | refine blk_drewN ?_ _ | refine blk_drew ?_ | refine blk_alloc ?_ _)); exact BK468.out) hb)
                        have n4_ := Aside0.mk (blk_below (g := gb469) (o := .cells #[.string a1_0, .int .i64 a1_1] 35 (0, 0)) (by (with_reducible repeat (first | refine blk_drewN ?_ _ | refine blk_drew ?_ | refine blk_alloc ?_ _)); exact BK469.out) hb)
                        have n5_ := Aside0.mk (below_step (by repeat (first | (with_reducible first | exact HB.out | apply below_alloc | apply pw_below_drewN | apply below_drew1 | refine below_set ?_ GE468.out | refine below_set ?_ GE469.out) | exact HB.out)) hb)
                        clear HO479
                        clear HO482
                        clear BK468
                        clear BK469
                        clear HB
                        have HO479 := n0_
                        have HO482 := n1_
                        have HO485 := n2_
                        have BK468 := n3_
                        have BK469 := n4_
                        have HB := n5_
                        clear n0_ n1_ n2_ n3_ n4_ n5_
                        (try clear hb)
                        (try clear hb2)
                        (try clear hk)
                        (try clear hi)
                        (try clear ho0)
                        obtain ⟨Ao64, co64, eo64⟩ := Kd.R_slice HO485.out
                        (first | subst eo64 | (injection eo64 with f1_ f2_ f3_; have f4_ := f1_.symm; have f5_ := f3_.symm; clear f1_ f2_ f3_; subst f4_; subst f5_))
                        refine hK.out _ _ ⟨(blk_cell BK468.out 0).trans rfl, (blk_cell BK468.out 1).trans rfl, (blk_cell BK469.out 0).trans rfl, (blk_cell BK469.out 1).trans rfl⟩ (fun hHeld => ?_)
                        clear hK K
                        refine norm_ (a' := ?_) ?_ ?_
                        rotate_left
                        · show Act.put _ (some 68) _ = _
                          simp only [Act.put, List.setIfInBounds_toArray, List.set_cons_zero, List.set_cons_succ, i64_w, i32_w]
                          rfl
                        refine one_ (i := 10) (N := some 69) #[true, true, true, true, true, true, true, true, true, true, true, false] rfl rfl (one_of HT_.out (by kernel_rfl)) (by decide) (fun K hK => ?_)
                        refine goes_ Tryd.func27 (by kernel_rfl) rfl #[.agg #[.int .i64 a0_0, .int .u64 a0_1], .agg #[.string a1_0, .int .i64 a1_1], .slice Ao64 t483.length co64] (by rfl) rfl rfl (by (try simp only [List.map_toArray, List.map_cons, List.map_nil]); first | done | rfl | (simp only [List.length_drop, List.length_take]; rfl)) ?_
                        with_reducible refine (spec_Form_against.calls k2 a0_0 a0_1 a1_0 a1_1 _ _ t483 t486 _ ?side1 ?side2 A42.out).mono ?_
                        (case side1 => repeat (first | exact (Kd.R_reads' HO485.out).2.2 | (with_reducible refine Kd.C_alloc ?_ _) | (with_reducible refine Kd.C_drewN ?_ _) | (with_reducible refine Kd.C_drew ?_)))
                        (case side2 => exact (Kd.R_reads' HO485.out).2.1)
                        rintro e w65 ⟨rfl, hb⟩
                        refine ⟨_, rfl, ?_⟩
                        have n0_ := Aside0.mk (Kd.R_below (by (with_reducible repeat (first | apply Kd.R_alloc | apply Kd.R_drewN | apply Kd.R_drew)); exact HO479.out) hb)
                        have n1_ := Aside0.mk (Kd.R_below (by (with_reducible repeat (first | apply Kd.R_alloc | apply Kd.R_drewN | apply Kd.R_drew)); exact HO482.out) hb)
                        have n2_ := Aside0.mk (Kd.R_below (by (with_reducible repeat (first | apply Kd.R_alloc | apply Kd.R_drewN | apply Kd.R_drew)); exact HO485.out) hb)
                        have n3_ := Aside0.mk (blk_below (g := gb468) (o := .cells #[.int .i64 a0_0, .int .u64 a0_1] 31 (0, 0)) (by (with_reducible repeat (first | refine blk_drewN ?_ _ | refine blk_drew ?_ | refine blk_alloc ?_ _)); exact BK468.out) hb)
                        have n4_ := Aside0.mk (blk_below (g := gb469) (o := .cells #[.string a1_0, .int .i64 a1_1] 35 (0, 0)) (by (with_reducible repeat (first | refine blk_drewN ?_ _ | refine blk_drew ?_ | refine blk_alloc ?_ _)); exact BK469.out) hb)
                        have n5_ := Aside0.mk (below_step (by repeat (first | (with_reducible first | exact HB.out | apply below_alloc | apply pw_below_drewN | apply below_drew1 | refine below_set ?_ GE468.out | refine below_set ?_ GE469.out) | exact HB.out)) hb)
                        clear HO479
                        clear HO482
                        clear HO485
                        clear BK468
                        clear BK469
                        clear HB
                        have HO479 := n0_
                        have HO482 := n1_
                        have HO485 := n2_
                        have BK468 := n3_
                        have BK469 := n4_
                        have HB := n5_
                        clear n0_ n1_ n2_ n3_ n4_ n5_
                        (try clear hb)
                        (try clear hb2)
                        (try clear hk)
                        (try clear hi)
                        refine hK.out _ _ ⟨(blk_cell BK468.out 0).trans rfl, (blk_cell BK468.out 1).trans rfl, (blk_cell BK469.out 0).trans rfl, (blk_cell BK469.out 1).trans rfl⟩ (fun hHeld => ?_)
                        clear hK K
                        refine norm_ (a' := ?_) ?_ ?_
                        rotate_left
                        · show Act.put _ (some 69) _ = _
                          simp only [Act.put, List.setIfInBounds_toArray, List.set_cons_zero, List.set_cons_succ, i64_w, i32_w]
                          rfl
                        refine pure_ (i := 11) (N := some 8) (v := ?_) (a' := ?_) #[true, true, true, true, true, true, true, true, true, true, true, true] rfl rfl (any_of HT_.out (by kernel_rfl)) (fun _ _ _ h => h) (Or.inl ⟨by rfl, ?_⟩) ?_ ?_
                        rotate_left
                        · intro w'
                          go_simp
                          with_reducible rfl
                        rotate_left
                        · simp only [Act.put, List.setIfInBounds_toArray, List.set_cons_zero, List.set_cons_succ, i64_w, i32_w]
                          rfl
                        refine done_ (done_of HT_.out (by kernel_rfl)) ?_
                        try go_wp2
                        go_ret
                        exact ⟨by first | rfl | (simp [errW_none, errW_some] <;> rfl) | (simp [*, errW_none, errW_some] <;> rfl), by repeat (first | (with_reducible first | exact HB.out | apply below_alloc | apply pw_below_drewN | apply below_drew1 | refine below_set ?_ GE468.out | refine below_set ?_ GE469.out) | exact HB.out)⟩
                      · rw [if_neg c55] at H
                        have c55b0 : ((Int.tmod x5_2 2) == 1) = false := beq_eq_false_iff_ne.mpr c55
                        have c55b1 : ((Int.tmod x5_2 2) != 1) = true := bne_iff_ne.mpr c55
                        obtain rfl := Option.some.inj H
                        have hnb66 := NB468_469.out
                        have hnc66 := NB469_468.out
                        have hcz67_0 : wr.cell? ⟨gb468, 0, none⟩ = some (.int .i64 a0_0) := (blk_cell BK468.out 0).trans rfl
                        have hcz67_1 : wr.cell? ⟨gb468, 1, none⟩ = some (.int .u64 a0_1) := (blk_cell BK468.out 1).trans rfl
                        have hfz67_0 := blk_frozen BK468.out 0
                        have hfz67_1 := blk_frozen BK468.out 1
                        try go_wp2
                        have n0_ := Aside0.mk (blk_drew BK468.out)
                        have n1_ := Aside0.mk (blk_drew BK469.out)
                        have n2_ := Aside0.mk (below_drew1 HB.out)
                        clear BK468
                        clear BK469
                        clear HB
                        have BK468 := n0_
                        have BK469 := n1_
                        have HB := n2_
                        clear n0_ n1_ n2_
                        refine start_ (n := 12) (S := fun w' => w'.cell? ⟨gb468, 0, none⟩ = some (.int .i64 a0_0) ∧ w'.cell? ⟨gb468, 1, none⟩ = some (.int .u64 a0_1) ∧ w'.cell? ⟨gb469, 0, none⟩ = some (.string a1_0) ∧ w'.cell? ⟨gb469, 1, none⟩ = some (.int .i64 a1_1)) (ds := []) #[false, false, false, false, false, false, false, false, false, false, false, false] (by kernel_rfl) rfl rfl ⟨(blk_cell BK468.out 0).trans rfl, (blk_cell BK468.out 1).trans rfl, (blk_cell BK469.out 0).trans rfl, (blk_cell BK469.out 1).trans rfl⟩ (fun hHeld => ?_); refine with_tabW spec_Form_Nearest.tab13 spec_Form_Nearest.bits13 (fun HT_ HW_ => ?_)
                        generalize wr.drew = w68 at BK468 BK469 HB hHeld ⊢
                        refine pure_ (i := 3) (N := some 62) (v := ?_) (a' := ?_) #[false, false, false, true, false, false, false, false, false, false, false, false] rfl rfl (any_of HT_.out (by kernel_rfl)) (fun _ _ _ h => h) (Or.inl ⟨by rfl, ?_⟩) ?_ ?_
                        rotate_left
                        · intro w'
                          go_simp
                          with_reducible rfl
                        rotate_left
                        · simp only [Act.put, List.setIfInBounds_toArray, List.set_cons_zero, List.set_cons_succ, i64_w, i32_w]
                          rfl
                        refine pure_ (i := 6) (N := some 65) (v := ?_) (a' := ?_) #[false, false, false, true, false, false, true, false, false, false, false, false] rfl rfl (any_of HT_.out (by kernel_rfl)) (fun _ _ _ h => h) (Or.inl ⟨by rfl, ?_⟩) ?_ ?_
                        rotate_left
                        · intro w'
                          go_simp
                          with_reducible rfl
                        rotate_left
                        · simp only [Act.put, List.setIfInBounds_toArray, List.set_cons_zero, List.set_cons_succ, i64_w, i32_w]
                          rfl
                        refine pure_ (i := 7) (N := some 66) (v := ?_) (a' := ?_) #[false, false, false, true, false, false, true, true, false, false, false, false] rfl rfl (any_of HT_.out (by kernel_rfl)) (fun _ _ _ h => h) (Or.inl ⟨by rfl, ?_⟩) ?_ ?_
                        rotate_left
                        · intro w'
                          go_simp
                          with_reducible rfl
                        rotate_left
                        · simp only [Act.put, List.setIfInBounds_toArray, List.set_cons_zero, List.set_cons_succ, i64_w, i32_w]
                          rfl
                        refine take_ (i := 0) (N := some 59) (v := ?_) (a' := ?_) #[true, false, false, true, false, false, true, true, false, false, false, false] rfl rfl (take_ofW HT_.out HW_.out (by kernel_rfl)) (fun _ _ _ h => h) (Or.inl ⟨by rfl, ?_⟩) hHeld ?_ ?_
                        rotate_left
                        · rintro w' ⟨s0, s1, s2, s3⟩
                          go_simp
                          with_reducible rfl
                        rotate_left
                        · simp only [Act.put, List.setIfInBounds_toArray, List.set_cons_zero, List.set_cons_succ, i64_w, i32_w]
                          rfl
                        refine take_ (i := 1) (N := some 60) (v := ?_) (a' := ?_) #[true, true, false, true, false, false, true, true, false, false, false, false] rfl rfl (take_ofW HT_.out HW_.out (by kernel_rfl)) (fun _ _ _ h => h) (Or.inl ⟨by rfl, ?_⟩) hHeld ?_ ?_
                        rotate_left
                        · rintro w' ⟨s0, s1, s2, s3⟩
                          go_simp
                          with_reducible rfl
                        rotate_left
                        · simp only [Act.put, List.setIfInBounds_toArray, List.set_cons_zero, List.set_cons_succ, i64_w, i32_w]
                          rfl
                        refine take_ (i := 2) (N := some 61) (v := ?_) (a' := ?_) #[true, true, true, true, false, false, true, true, false, false, false, false] rfl rfl (take_ofW HT_.out HW_.out (by kernel_rfl)) (fun _ _ _ h => h) (Or.inl ⟨by rfl, ?_⟩) hHeld ?_ ?_
                        rotate_left
                        · rintro w' ⟨s0, s1, s2, s3⟩
                          go_simp
                          with_reducible rfl
                        rotate_left
                        · simp only [Act.put, List.setIfInBounds_toArray, List.set_cons_zero, List.set_cons_succ, i64_w, i32_w]
                          rfl
                        refine take_ (i := 5) (N := some 64) (v := ?_) (a' := ?_) #[true, true, true, true, false, true, true, true, false, false, false, false] rfl rfl (take_ofW HT_.out HW_.out (by kernel_rfl)) (fun _ _ _ h => h) (Or.inl ⟨by rfl, ?_⟩) hHeld ?_ ?_
                        rotate_left
                        · rintro w' ⟨s0, s1, s2, s3⟩
                          go_simp
                          with_reducible rfl
                        rotate_left
                        · simp only [Act.put, List.setIfInBounds_toArray, List.set_cons_zero, List.set_cons_succ, i64_w, i32_w]
                          rfl
                        refine one_ (i := 4) (N := some 63) #[true, true, true, true, true, true, true, true, false, false, false, false] rfl rfl (one_of HT_.out (by kernel_rfl)) (by decide) (fun K hK => ?_)
                        refine goes_ Tryd.func29 (by kernel_rfl) rfl #[.agg #[.int .i64 a0_0, .int .u64 a0_1], .int .u64 x5_2] (by rfl) rfl rfl (by (try simp only [List.map_toArray, List.map_cons, List.map_nil]); first | done | rfl | (simp only [List.length_drop, List.length_take]; rfl)) ?_
                        with_reducible refine (spec_Form_Times2.calls k2 a0_0 a0_1 x5_2 t477 _ A39.out).mono ?_
                        rintro e w69 ⟨v478, rfl, ho0, hb⟩
                        refine ⟨_, rfl, ?_⟩
                        have n0_ := Aside0.mk (Kd.R_lower ho0 (below_size (by repeat (first | (with_reducible first | exact HB.out | apply below_alloc | apply pw_below_drewN | apply below_drew1 | refine below_set ?_ GE468.out | refine below_set ?_ GE469.out) | exact HB.out))))
                        have n1_ := Aside0.mk (blk_below (g := gb468) (o := .cells #[.int .i64 a0_0, .int .u64 a0_1] 31 (0, 0)) (by (with_reducible repeat (first | refine blk_drewN ?_ _ | refine blk_drew ?_ | refine blk_alloc ?_ _)); exact BK468.out) hb)
                        have n2_ := Aside0.mk (blk_below (g := gb469) (o := .cells #[.string a1_0, .int .i64 a1_1] 35 (0, 0)) (by (with_reducible repeat (first | refine blk_drewN ?_ _ | refine blk_drew ?_ | refine blk_alloc ?_ _)); exact BK469.out) hb)
                        have n3_ := Aside0.mk (below_step (by repeat (first | (with_reducible first | exact HB.out | apply below_alloc | apply pw_below_drewN | apply below_drew1 | refine below_set ?_ GE468.out | refine below_set ?_ GE469.out) | exact HB.out)) hb)
                        clear BK468
                        clear BK469
                        clear HB
                        have HO479 := n0_
                        have BK468 := n1_
                        have BK469 := n2_
                        have HB := n3_
                        clear n0_ n1_ n2_ n3_
                        (try clear hb)
                        (try clear hb2)
                        (try clear hk)
                        (try clear hi)
                        (try clear ho0)
                        refine hK.out _ _ ⟨(blk_cell BK468.out 0).trans rfl, (blk_cell BK468.out 1).trans rfl, (blk_cell BK469.out 0).trans rfl, (blk_cell BK469.out 1).trans rfl⟩ (fun hHeld => ?_)
                        clear hK K
                        refine norm_ (a' := ?_) ?_ ?_
                        rotate_left
                        · show Act.put _ (some 63) _ = _
                          simp only [Act.put, List.setIfInBounds_toArray, List.set_cons_zero, List.set_cons_succ, i64_w, i32_w]
                          rfl
                        refine one_ (i := 8) (N := some 67) #[true, true, true, true, true, true, true, true, true, false, false, false] rfl rfl (one_of HT_.out (by kernel_rfl)) (by decide) (fun K hK => ?_)
                        refine goes_ Tryd.func29 (by kernel_rfl) rfl #[.agg #[.int .i64 a0_0, .int .u64 a0_1], .int .u64 (IntKind.u64.wrap (x5_2 + 1))] (by rfl) rfl rfl (by (try simp only [List.map_toArray, List.map_cons, List.map_nil]); first | done | rfl | (simp only [List.length_drop, List.length_take]; rfl)) ?_
                        with_reducible refine (spec_Form_Times2.calls k2 a0_0 a0_1 (IntKind.u64.wrap (x5_2 + 1)) t480 _ A40.out).mono ?_
                        rintro e w70 ⟨v481, rfl, ho0, hb⟩
                        refine ⟨_, rfl, ?_⟩
                        have n0_ := Aside0.mk (Kd.R_elder' (by (with_reducible repeat (first | apply Kd.R_alloc | apply Kd.R_drewN | apply Kd.R_drew)); exact HO479.out) (Kd.R_base ho0) hb)
                        have n1_ := Aside0.mk (Kd.R_lower (Kd.R_new' ho0 (Kd.R_lt (by (with_reducible repeat (first | apply Kd.R_alloc | apply Kd.R_drewN | apply Kd.R_drew)); exact HO479.out))) (below_size (by repeat (first | (with_reducible first | exact HB.out | apply below_alloc | apply pw_below_drewN | apply below_drew1 | refine below_set ?_ GE468.out | refine below_set ?_ GE469.out) | exact HB.out))))
                        have n2_ := Aside0.mk (blk_below (g := gb468) (o := .cells #[.int .i64 a0_0, .int .u64 a0_1] 31 (0, 0)) (by (with_reducible repeat (first | refine blk_drewN ?_ _ | refine blk_drew ?_ | refine blk_alloc ?_ _)); exact BK468.out) hb)
                        have n3_ := Aside0.mk (blk_below (g := gb469) (o := .cells #[.string a1_0, .int .i64 a1_1] 35 (0, 0)) (by (with_reducible repeat (first | refine blk_drewN ?_ _ | refine blk_drew ?_ | refine blk_alloc ?_ _)); exact BK469.out) hb)
                        have n4_ := Aside0.mk (below_step (by repeat (first | (with_reducible first | exact HB.out | apply below_alloc | apply pw_below_drewN | apply below_drew1 | refine below_set ?_ GE468.out | refine below_set ?_ GE469.out) | exact HB.out)) hb)
                        clear HO479
                        clear BK468
                        clear BK469
                        clear HB
                        have HO479 := n0_
                        have HO482 := n1_
                        have BK468 := n2_
                        have BK469 := n3_
                        have HB := n4_
                        clear n0_ n1_ n2_ n3_ n4_
                        (try clear hb)
                        (try clear hb2)
                        (try clear hk)
                        (try clear hi)
                        (try clear ho0)
                        obtain ⟨Ao71, co71, eo71⟩ := Kd.R_slice HO479.out
                        (first | subst eo71 | (injection eo71 with f1_ f2_ f3_; have f4_ := f1_.symm; have f5_ := f3_.symm; clear f1_ f2_ f3_; subst f4_; subst f5_))
                        obtain ⟨Ao72, co72, eo72⟩ := Kd.R_slice HO482.out
                        (first | subst eo72 | (injection eo72 with f1_ f2_ f3_; have f4_ := f1_.symm; have f5_ := f3_.symm; clear f1_ f2_ f3_; subst f4_; subst f5_))
                        refine hK.out _ _ ⟨(blk_cell BK468.out 0).trans rfl, (blk_cell BK468.out 1).trans rfl, (blk_cell BK469.out 0).trans rfl, (blk_cell BK469.out 1).trans rfl⟩ (fun hHeld => ?_)
                        clear hK K
                        refine norm_ (a' := ?_) ?_ ?_
                        rotate_left
                        · show Act.put _ (some 67) _ = _
                          simp only [Act.put, List.setIfInBounds_toArray, List.set_cons_zero, List.set_cons_succ, i64_w, i32_w]
                          rfl
                        refine one_ (i := 9) (N := some 68) #[true, true, true, true, true, true, true, true, true, true, false, false] rfl rfl (one_of HT_.out (by kernel_rfl)) (by decide) (fun K hK => ?_)
                        refine goes_ Tryd.func30 (by kernel_rfl) rfl #[.slice Ao71 t477.length co71, .slice Ao72 t480.length co72] (by rfl) rfl rfl (by (try simp only [List.map_toArray, List.map_cons, List.map_nil]); first | done | rfl | (simp only [List.length_drop, List.length_take]; rfl)) ?_
                        with_reducible refine (spec_Add.calls k2 _ _ t477 _ _ t480 t483 _ ?side1 ?side2 ?side3 ?side4 A41.out).mono ?_
                        (case side1 => repeat (first | exact (Kd.R_reads' HO479.out).2.2 | (with_reducible refine Kd.C_alloc ?_ _) | (with_reducible refine Kd.C_drewN ?_ _) | (with_reducible refine Kd.C_drew ?_)))
                        (case side2 => exact (Kd.R_reads' HO479.out).2.1)
                        (case side3 => repeat (first | exact (Kd.R_reads' HO482.out).2.2 | (with_reducible refine Kd.C_alloc ?_ _) | (with_reducible refine Kd.C_drewN ?_ _) | (with_reducible refine Kd.C_drew ?_)))
                        (case side4 => exact (Kd.R_reads' HO482.out).2.1)
                        rintro e w73 ⟨v484, rfl, ho0, hb⟩
                        refine ⟨_, rfl, ?_⟩
                        have n0_ := Aside0.mk (Kd.R_elder' (by (with_reducible repeat (first | apply Kd.R_alloc | apply Kd.R_drewN | apply Kd.R_drew)); exact HO479.out) (Kd.R_base ho0) hb)
                        have n1_ := Aside0.mk (Kd.R_elder' (by (with_reducible repeat (first | apply Kd.R_alloc | apply Kd.R_drewN | apply Kd.R_drew)); exact HO482.out) (Kd.R_base ho0) hb)
                        have n2_ := Aside0.mk (Kd.R_lower (Kd.R_new' (Kd.R_new' ho0 (Kd.R_lt (by (with_reducible repeat (first | apply Kd.R_alloc | apply Kd.R_drewN | apply Kd.R_drew)); exact HO479.out))) (Kd.R_lt (by (with_reducible repeat (first | apply Kd.R_alloc | apply Kd.R_drewN | apply Kd.R_drew)); exact HO482.out))) (below_size (by repeat (first | (with_reducible first | exact HB.out | apply below_alloc | apply pw_below_drewN | apply below_drew1 | refine below_set ?_ GE468.out | refine below_set ?_ GE469.out) | exact HB.out))))
                        have n3_ := Aside0.mk (blk_below (g := gb468) (o := .cells #[.int .i64 a0_0, .int .u64 a0_1] 31 (0, 0)) (by (with_reducible repeat (first | refine blk_drewN ?_ _ | refine blk_drew ?_ | refine blk_alloc ?_ _)); exact BK468.out) hb)
                        have n4_ := Aside0.mk (blk_below (g := gb469) (o := .cells #[.string a1_0, .int .i64 a1_1] 35 (0, 0)) (by (with_reducible repeat (first | refine blk_drewN ?_ _ | refine blk_drew ?_ | refine blk_alloc ?_ _)); exact BK469.out) hb)
                        have n5_ := Aside0.mk (below_step (by repeat (first | (with_reducible first | exact HB.out | apply below_alloc | apply pw_below_drewN | apply below_drew1 | refine below_set ?_ GE468.out | refine below_set ?_ GE469.out) | exact HB.out)) hb)
                        clear HO479
                        clear HO482
                        clear BK468
                        clear BK469
                        clear HB
                        have HO479 := n0_
                        have HO482 := n1_
                        have HO485 := n2_
                        have BK468 := n3_
                        have BK469 := n4_
                        have HB := n5_
                        clear n0_ n1_ n2_ n3_ n4_ n5_
                        (try clear hb)
                        (try clear hb2)
                        (try clear hk)
                        (try clear hi)
                        (try clear ho0)
                        obtain ⟨Ao74, co74, eo74⟩ := Kd.R_slice HO485.out
                        (first | subst eo74 | (injection eo74 with f1_ f2_ f3_; have f4_ := f1_.symm; have f5_ := f3_.symm; clear f1_ f2_ f3_; subst f4_; subst f5_))
                        refine hK.out _ _ ⟨(blk_cell BK468.out 0).trans rfl, (blk_cell BK468.out 1).trans rfl, (blk_cell BK469.out 0).trans rfl, (blk_cell BK469.out 1).trans rfl⟩ (fun hHeld => ?_)
                        clear hK K
                        refine norm_ (a' := ?_) ?_ ?_
                        rotate_left
                        · show Act.put _ (some 68) _ = _
                          simp only [Act.put, List.setIfInBounds_toArray, List.set_cons_zero, List.set_cons_succ, i64_w, i32_w]
                          rfl
                        refine one_ (i := 10) (N := some 69) #[true, true, true, true, true, true, true, true, true, true, true, false] rfl rfl (one_of HT_.out (by kernel_rfl)) (by decide) (fun K hK => ?_)
                        refine goes_ Tryd.func27 (by kernel_rfl) rfl #[.agg #[.int .i64 a0_0, .int .u64 a0_1], .agg #[.string a1_0, .int .i64 a1_1], .slice Ao74 t483.length co74] (by rfl) rfl rfl (by (try simp only [List.map_toArray, List.map_cons, List.map_nil]); first | done | rfl | (simp only [List.length_drop, List.length_take]; rfl)) ?_
                        with_reducible refine (spec_Form_against.calls k2 a0_0 a0_1 a1_0 a1_1 _ _ t483 t486 _ ?side1 ?side2 A42.out).mono ?_
                        (case side1 => repeat (first | exact (Kd.R_reads' HO485.out).2.2 | (with_reducible refine Kd.C_alloc ?_ _) | (with_reducible refine Kd.C_drewN ?_ _) | (with_reducible refine Kd.C_drew ?_)))
                        (case side2 => exact (Kd.R_reads' HO485.out).2.1)
                        rintro e w75 ⟨rfl, hb⟩
                        refine ⟨_, rfl, ?_⟩
                        have n0_ := Aside0.mk (Kd.R_below (by (with_reducible repeat (first | apply Kd.R_alloc | apply Kd.R_drewN | apply Kd.R_drew)); exact HO479.out) hb)
                        have n1_ := Aside0.mk (Kd.R_below (by (with_reducible repeat (first | apply Kd.R_alloc | apply Kd.R_drewN | apply Kd.R_drew)); exact HO482.out) hb)
                        have n2_ := Aside0.mk (Kd.R_below (by (with_reducible repeat (first | apply Kd.R_alloc | apply Kd.R_drewN | apply Kd.R_drew)); exact HO485.out) hb)
                        have n3_ := Aside0.mk (blk_below (g := gb468) (o := .cells #[.int .i64 a0_0, .int .u64 a0_1] 31 (0, 0)) (by (with_reducible repeat (first | refine blk_drewN ?_ _ | refine blk_drew ?_ | refine blk_alloc ?_ _)); exact BK468.out) hb)
                        have n4_ := Aside0.mk (blk_below (g := gb469) (o := .cells #[.string a1_0, .int .i64 a1_1] 35 (0, 0)) (by (with_reducible repeat (first | refine blk_drewN ?_ _ | refine blk_drew ?_ | refine blk_alloc ?_ _)); exact BK469.out) hb)
                        have n5_ := Aside0.mk (below_step (by repeat (first | (with_reducible first | exact HB.out | apply below_alloc | apply pw_below_drewN | apply below_drew1 | refine below_set ?_ GE468.out | refine below_set ?_ GE469.out) | exact HB.out)) hb)
                        clear HO479
                        clear HO482
                        clear HO485
                        clear BK468
                        clear BK469
                        clear HB
                        have HO479 := n0_
                        have HO482 := n1_
                        have HO485 := n2_
                        have BK468 := n3_
                        have BK469 := n4_
                        have HB := n5_
                        clear n0_ n1_ n2_ n3_ n4_ n5_
                        (try clear hb)
                        (try clear hb2)
                        (try clear hk)
                        (try clear hi)
                        refine hK.out _ _ ⟨(blk_cell BK468.out 0).trans rfl, (blk_cell BK468.out 1).trans rfl, (blk_cell BK469.out 0).trans rfl, (blk_cell BK469.out 1).trans rfl⟩ (fun hHeld => ?_)
                        clear hK K
                        refine norm_ (a' := ?_) ?_ ?_
                        rotate_left
                        · show Act.put _ (some 69) _ = _
                          simp only [Act.put, List.setIfInBounds_toArray, List.set_cons_zero, List.set_cons_succ, i64_w, i32_w]
                          rfl
                        refine pure_ (i := 11) (N := some 8) (v := ?_) (a' := ?_) #[true, true, true, true, true, true, true, true, true, true, true, true] rfl rfl (any_of HT_.out (by kernel_rfl)) (fun _ _ _ h => h) (Or.inl ⟨by rfl, ?_⟩) ?_ ?_
                        rotate_left
                        · intro w'
                          go_simp
                          with_reducible rfl
                        rotate_left
                        · simp only [Act.put, List.setIfInBounds_toArray, List.set_cons_zero, List.set_cons_succ, i64_w, i32_w]
                          rfl
                        refine done_ (done_of HT_.out (by kernel_rfl)) ?_
                        try go_wp2
                        go_ret
                        exact ⟨by first | rfl | (simp [errW_none, errW_some] <;> rfl) | (simp [*, errW_none, errW_some] <;> rfl), by repeat (first | (with_reducible first | exact HB.out | apply below_alloc | apply pw_below_drewN | apply below_drew1 | refine below_set ?_ GE468.out | refine below_set ?_ GE469.out) | exact HB.out)⟩
                    · rw [if_neg c54] at H
                      have c54b0 : (t486 == 0) = false := beq_eq_false_iff_ne.mpr c54
                      have c54b1 : (t486 != 0) = true := bne_iff_ne.mpr c54
                      obtain rfl := Option.some.inj H
                      have hnb76 := NB468_469.out
                      have hnc76 := NB469_468.out
                      have hcz77_0 : wr.cell? ⟨gb468, 0, none⟩ = some (.int .i64 a0_0) := (blk_cell BK468.out 0).trans rfl
                      have hcz77_1 : wr.cell? ⟨gb468, 1, none⟩ = some (.int .u64 a0_1) := (blk_cell BK468.out 1).trans rfl
                      have hfz77_0 := blk_frozen BK468.out 0
                      have hfz77_1 := blk_frozen BK468.out 1
                      try go_wp2
                      have n0_ := Aside0.mk (blk_drew BK468.out)
                      have n1_ := Aside0.mk (blk_drew BK469.out)
                      have n2_ := Aside0.mk (below_drew1 HB.out)
                      clear BK468
                      clear BK469
                      clear HB
                      have BK468 := n0_
                      have BK469 := n1_
                      have HB := n2_
                      clear n0_ n1_ n2_
                      refine start_ (n := 12) (S := fun w' => w'.cell? ⟨gb468, 0, none⟩ = some (.int .i64 a0_0) ∧ w'.cell? ⟨gb468, 1, none⟩ = some (.int .u64 a0_1) ∧ w'.cell? ⟨gb469, 0, none⟩ = some (.string a1_0) ∧ w'.cell? ⟨gb469, 1, none⟩ = some (.int .i64 a1_1)) (ds := []) #[false, false, false, false, false, false, false, false, false, false, false, false] (by kernel_rfl) rfl rfl ⟨(blk_cell BK468.out 0).trans rfl, (blk_cell BK468.out 1).trans rfl, (blk_cell BK469.out 0).trans rfl, (blk_cell BK469.out 1).trans rfl⟩ (fun hHeld => ?_); refine with_tabW spec_Form_Nearest.tab13 spec_Form_Nearest.bits13 (fun HT_ HW_ => ?_)
                      generalize wr.drew = w78 at BK468 BK469 HB hHeld ⊢
                      refine pure_ (i := 3) (N := some 62) (v := ?_) (a' := ?_) #[false, false, false, true, false, false, false, false, false, false, false, false] rfl rfl (any_of HT_.out (by kernel_rfl)) (fun _ _ _ h => h) (Or.inl ⟨by rfl, ?_⟩) ?_ ?_
                      rotate_left
                      · intro w'
                        go_simp
                        with_reducible rfl
                      rotate_left
                      · simp only [Act.put, List.setIfInBounds_toArray, List.set_cons_zero, List.set_cons_succ, i64_w, i32_w]
                        rfl
                      refine pure_ (i := 6) (N := some 65) (v := ?_) (a' := ?_) #[false, false, false, true, false, false, true, false, false, false, false, false] rfl rfl (any_of HT_.out (by kernel_rfl)) (fun _ _ _ h => h) (Or.inl ⟨by rfl, ?_⟩) ?_ ?_
                      rotate_left
                      · intro w'
                        go_simp
                        with_reducible rfl
                      rotate_left
                      · simp only [Act.put, List.setIfInBounds_toArray, List.set_cons_zero, List.set_cons_succ, i64_w, i32_w]
                        rfl
                      refine pure_ (i := 7) (N := some 66) (v := ?_) (a' := ?_) #[false, false, false, true, false, false, true, true, false, false, false, false] rfl rfl (any_of HT_.out (by kernel_rfl)) (fun _ _ _ h => h) (Or.inl ⟨by rfl, ?_⟩) ?_ ?_
                      rotate_left
                      · intro w'
                        go_simp
                        with_reducible rfl
                      rotate_left
                      · simp only [Act.put, List.setIfInBounds_toArray, List.set_cons_zero, List.set_cons_succ, i64_w, i32_w]
                        rfl
                      refine take_ (i := 0) (N := some 59) (v := ?_) (a' := ?_) #[true, false, false, true, false, false, true, true, false, false, false, false] rfl rfl (take_ofW HT_.out HW_.out (by kernel_rfl)) (fun _ _ _ h => h) (Or.inl ⟨by rfl, ?_⟩) hHeld ?_ ?_
                      rotate_left
                      · rintro w' ⟨s0, s1, s2, s3⟩
                        go_simp
                        with_reducible rfl
                      rotate_left
                      · simp only [Act.put, List.setIfInBounds_toArray, List.set_cons_zero, List.set_cons_succ, i64_w, i32_w]
                        rfl
                      refine take_ (i := 1) (N := some 60) (v := ?_) (a' := ?_) #[true, true, false, true, false, false, true, true, false, false, false, false] rfl rfl (take_ofW HT_.out HW_.out (by kernel_rfl)) (fun _ _ _ h => h) (Or.inl ⟨by rfl, ?_⟩) hHeld ?_ ?_
                      rotate_left
                      · rintro w' ⟨s0, s1, s2, s3⟩
                        go_simp
                        with_reducible rfl
                      rotate_left
                      · simp only [Act.put, List.setIfInBounds_toArray, List.set_cons_zero, List.set_cons_succ, i64_w, i32_w]
                        rfl
                      refine take_ (i := 2) (N := some 61) (v := ?_) (a' := ?_) #[true, true, true, true, false, false, true, true, false, false, false, false] rfl rfl (take_ofW HT_.out HW_.out (by kernel_rfl)) (fun _ _ _ h => h) (Or.inl ⟨by rfl, ?_⟩) hHeld ?_ ?_
                      rotate_left
                      · rintro w' ⟨s0, s1, s2, s3⟩
                        go_simp
                        with_reducible rfl
                      rotate_left
                      · simp only [Act.put, List.setIfInBounds_toArray, List.set_cons_zero, List.set_cons_succ, i64_w, i32_w]
                        rfl
                      refine take_ (i := 5) (N := some 64) (v := ?_) (a' := ?_) #[true, true, true, true, false, true, true, true, false, false, false, false] rfl rfl (take_ofW HT_.out HW_.out (by kernel_rfl)) (fun _ _ _ h => h) (Or.inl ⟨by rfl, ?_⟩) hHeld ?_ ?_
                      rotate_left
                      · rintro w' ⟨s0, s1, s2, s3⟩
                        go_simp
                        with_reducible rfl
                      rotate_left
                      · simp only [Act.put, List.setIfInBounds_toArray, List.set_cons_zero, List.set_cons_succ, i64_w, i32_w]
                        rfl
                      refine one_ (i := 4) (N := some 63) #[true, true, true, true, true, true, true, true, false, false, false, false] rfl rfl (one_of HT_.out (by kernel_rfl)) (by decide) (fun K hK => ?_)
                      refine goes_ Tryd.func29 (by kernel_rfl) rfl #[.agg #[.int .i64 a0_0, .int .u64 a0_1], .int .u64 x5_2] (by rfl) rfl rfl (by (try simp only [List.map_toArray, List.map_cons, List.map_nil]); first | done | rfl | (simp only [List.length_drop, List.length_take]; rfl)) ?_
                      with_reducible refine (spec_Form_Times2.calls k2 a0_0 a0_1 x5_2 t477 _ A39.out).mono ?_
                      rintro e w79 ⟨v478, rfl, ho0, hb⟩
                      refine ⟨_, rfl, ?_⟩
                      have n0_ := Aside0.mk (Kd.R_lower ho0 (below_size (by repeat (first | (with_reducible first | exact HB.out | apply below_alloc | apply pw_below_drewN | apply below_drew1 | refine below_set ?_ GE468.out | refine below_set ?_ GE469.out) | exact HB.out))))
                      have n1_ := Aside0.mk (blk_below (g := gb468) (o := .cells #[.int .i64 a0_0, .int .u64 a0_1] 31 (0, 0)) (by (with_reducible repeat (first | refine blk_drewN ?_ _ | refine blk_drew ?_ | refine blk_alloc ?_ _)); exact BK468.out) hb)
                      have n2_ := Aside0.mk (blk_below (g := gb469) (o := .cells #[.string a1_0, .int .i64 a1_1] 35 (0, 0)) (by (with_reducible repeat (first | refine blk_drewN ?_ _ | refine blk_drew ?_ | refine blk_alloc ?_ _)); exact BK469.out) hb)
                      have n3_ := Aside0.mk (below_step (by repeat (first | (with_reducible first | exact HB.out | apply below_alloc | apply pw_below_drewN | apply below_drew1 | refine below_set ?_ GE468.out | refine below_set ?_ GE469.out) | exact HB.out)) hb)
                      clear BK468
                      clear BK469
                      clear HB
                      have HO479 := n0_
                      have BK468 := n1_
                      have BK469 := n2_
                      have HB := n3_
                      clear n0_ n1_ n2_ n3_
                      (try clear hb)
                      (try clear hb2)
                      (try clear hk)
                      (try clear hi)
                      (try clear ho0)
                      refine hK.out _ _ ⟨(blk_cell BK468.out 0).trans rfl, (blk_cell BK468.out 1).trans rfl, (blk_cell BK469.out 0).trans rfl, (blk_cell BK469.out 1).trans rfl⟩ (fun hHeld => ?_)
                      clear hK K
                      refine norm_ (a' := ?_) ?_ ?_
                      rotate_left
                      · show Act.put _ (some 63) _ = _
                        simp only [Act.put, List.setIfInBounds_toArray, List.set_cons_zero, List.set_cons_succ, i64_w, i32_w]
                        rfl
                      refine one_ (i := 8) (N := some 67) #[true, true, true, true, true, true, true, true, true, false, false, false] rfl rfl (one_of HT_.out (by kernel_rfl)) (by decide) (fun K hK => ?_)
                      refine goes_ Tryd.func29 (by kernel_rfl) rfl #[.agg #[.int .i64 a0_0, .int .u64 a0_1], .int .u64 (IntKind.u64.wrap (x5_2 + 1))] (by rfl) rfl rfl (by (try simp only [List.map_toArray, List.map_cons, List.map_nil]); first | done | rfl | (simp only [List.length_drop, List.length_take]; rfl)) ?_
                      with_reducible refine (spec_Form_Times2.calls k2 a0_0 a0_1 (IntKind.u64.wrap (x5_2 + 1)) t480 _ A40.out).mono ?_
                      rintro e w80 ⟨v481, rfl, ho0, hb⟩
                      refine ⟨_, rfl, ?_⟩
                      have n0_ := Aside0.mk (Kd.R_elder' (by (with_reducible repeat (first | apply Kd.R_alloc | apply Kd.R_drewN | apply Kd.R_drew)); exact HO479.out) (Kd.R_base ho0) hb)
                      have n1_ := Aside0.mk (Kd.R_lower (Kd.R_new' ho0 (Kd.R_lt (by (with_reducible repeat (first | apply Kd.R_alloc | apply Kd.R_drewN | apply Kd.R_drew)); exact HO479.out))) (below_size (by repeat (first | (with_reducible first | exact HB.out | apply below_alloc | apply pw_below_drewN | apply below_drew1 | refine below_set ?_ GE468.out | refine below_set ?_ GE469.out) | exact HB.out))))
                      have n2_ := Aside0.mk (blk_below (g := gb468) (o := .cells #[.int .i64 a0_0, .int .u64 a0_1] 31 (0, 0)) (by (with_reducible repeat (first | refine blk_drewN ?_ _ | refine blk_drew ?_ | refine blk_alloc ?_ _)); exact BK468.out) hb)
                      have n3_ := Aside0.mk (blk_below (g := gb469) (o := .cells #[.string a1_0, .int .i64 a1_1] 35 (0, 0)) (by (with_reducible repeat (first | refine blk_drewN ?_ _ | refine blk_drew ?_ | refine blk_alloc ?_ _)); exact BK469.out) hb)
                      have n4_ := Aside0.mk (below_step (by repeat (first | (with_reducible first | exact HB.out | apply below_alloc | apply pw_below_drewN | apply below_drew1 | refine below_set ?_ GE468.out | refine below_set ?_ GE469.out) | exact HB.out)) hb)
                      clear HO479
                      clear BK468
                      clear BK469
                      clear HB
                      have HO479 := n0_
                      have HO482 := n1_
                      have BK468 := n2_
                      have BK469 := n3_
                      have HB := n4_
                      clear n0_ n1_ n2_ n3_ n4_
                      (try clear hb)
                      (try clear hb2)
                      (try clear hk)
                      (try clear hi)
                      (try clear ho0)
                      obtain ⟨Ao81, co81, eo81⟩ := Kd.R_slice HO479.out
                      (first | subst eo81 | (injection eo81 with f1_ f2_ f3_; have f4_ := f1_.symm; have f5_ := f3_.symm; clear f1_ f2_ f3_; subst f4_; subst f5_))
                      obtain ⟨Ao82, co82, eo82⟩ := Kd.R_slice HO482.out
                      (first | subst eo82 | (injection eo82 with f1_ f2_ f3_; have f4_ := f1_.symm; have f5_ := f3_.symm; clear f1_ f2_ f3_; subst f4_; subst f5_))
                      refine hK.out _ _ ⟨(blk_cell BK468.out 0).trans rfl, (blk_cell BK468.out 1).trans rfl, (blk_cell BK469.out 0).trans rfl, (blk_cell BK469.out 1).trans rfl⟩ (fun hHeld => ?_)
                      clear hK K
                      refine norm_ (a' := ?_) ?_ ?_
                      rotate_left
                      · show Act.put _ (some 67) _ = _
                        simp only [Act.put, List.setIfInBounds_toArray, List.set_cons_zero, List.set_cons_succ, i64_w, i32_w]
                        rfl
                      refine one_ (i := 9) (N := some 68) #[true, true, true, true, true, true, true, true, true, true, false, false] rfl rfl (one_of HT_.out (by kernel_rfl)) (by decide) (fun K hK => ?_)
                      refine goes_ Tryd.func30 (by kernel_rfl) rfl #[.slice Ao81 t477.length co81, .slice Ao82 t480.length co82] (by rfl) rfl rfl (by (try simp only [List.map_toArray, List.map_cons, List.map_nil]); first | done | rfl | (simp only [List.length_drop, List.length_take]; rfl)) ?_
                      with_reducible refine (spec_Add.calls k2 _ _ t477 _ _ t480 t483 _ ?side1 ?side2 ?side3 ?side4 A41.out).mono ?_
                      (case side1 => repeat (first | exact (Kd.R_reads' HO479.out).2.2 | (with_reducible refine Kd.C_alloc ?_ _) | (with_reducible refine Kd.C_drewN ?_ _) | (with_reducible refine Kd.C_drew ?_)))
                      (case side2 => exact (Kd.R_reads' HO479.out).2.1)
                      (case side3 => repeat (first | exact (Kd.R_reads' HO482.out).2.2 | (with_reducible refine Kd.C_alloc ?_ _) | (with_reducible refine Kd.C_drewN ?_ _) | (with_reducible refine Kd.C_drew ?_)))
                      (case side4 => exact (Kd.R_reads' HO482.out).2.1)
                      rintro e w83 ⟨v484, rfl, ho0, hb⟩
                      refine ⟨_, rfl, ?_⟩
                      have n0_ := Aside0.mk (Kd.R_elder' (by (with_reducible repeat (first | apply Kd.R_alloc | apply Kd.R_drewN | apply Kd.R_drew)); exact HO479.out) (Kd.R_base ho0) hb)
                      have n1_ := Aside0.mk (Kd.R_elder' (by (with_reducible repeat (first | apply Kd.R_alloc | apply Kd.R_drewN | apply Kd.R_drew)); exact HO482.out) (Kd.R_base ho0) hb)
                      have n2_ := Aside0.mk (Kd.R_lower (Kd.R_new' (Kd.R_new' ho0 (Kd.R_lt (by (with_reducible repeat (first | apply Kd.R_alloc | apply Kd.R_drewN | apply Kd.R_drew)); exact HO479.out))) (Kd.R_lt (by (with_reducible repeat (first | apply Kd.R_alloc | apply Kd.R_drewN | apply Kd.R_drew)); exact HO482.out))) (below_size (by repeat (first | (with_reducible first | exact HB.out | apply below_alloc | apply pw_below_drewN | apply below_drew1 | refine below_set ?_ GE468.out | refine below_set ?_ GE469.out) | exact HB.out))))
                      have n3_ := Aside0.mk (blk_below (g := gb468) (o := .cells #[.int .i64 a0_0, .int .u64 a0_1] 31 (0, 0)) (by (with_reducible repeat (first | refine blk_drewN ?_ _ | refine blk_drew ?_ | refine blk_alloc ?_ _)); exact BK468.out) hb)
                      have n4_ := Aside0.mk (blk_below (g := gb469) (o := .cells #[.string a1_0, .int .i64 a1_1] 35 (0, 0)) (by (with_reducible repeat (first | refine blk_drewN ?_ _ | refine blk_drew ?_ | refine blk_alloc ?_ _)); exact BK469.out) hb)
                      have n5_ := Aside0.mk (below_step (by repeat (first | (with_reducible first | exact HB.out | apply below_alloc | apply pw_below_drewN | apply below_drew1 | refine below_set ?_ GE468.out | refine below_set ?_ GE469.out) | exact HB.out)) hb)
                      clear HO479
                      clear HO482
                      clear BK468
                      clear BK469
                      clear HB
                      have HO479 := n0_
                      have HO482 := n1_
                      have HO485 := n2_
                      have BK468 := n3_
                      have BK469 := n4_
                      have HB := n5_
                      clear n0_ n1_ n2_ n3_ n4_ n5_
                      (try clear hb)
                      (try clear hb2)
                      (try clear hk)
                      (try clear hi)
                      (try clear ho0)
                      obtain ⟨Ao84, co84, eo84⟩ := Kd.R_slice HO485.out
                      (first | subst eo84 | (injection eo84 with f1_ f2_ f3_; have f4_ := f1_.symm; have f5_ := f3_.symm; clear f1_ f2_ f3_; subst f4_; subst f5_))
                      refine hK.out _ _ ⟨(blk_cell BK468.out 0).trans rfl, (blk_cell BK468.out 1).trans rfl, (blk_cell BK469.out 0).trans rfl, (blk_cell BK469.out 1).trans rfl⟩ (fun hHeld => ?_)
                      clear hK K
                      refine norm_ (a' := ?_) ?_ ?_
                      rotate_left
                      · show Act.put _ (some 68) _ = _
                        simp only [Act.put, List.setIfInBounds_toArray, List.set_cons_zero, List.set_cons_succ, i64_w, i32_w]
                        rfl
                      refine one_ (i := 10) (N := some 69) #[true, true, true, true, true, true, true, true, true, true, true, false] rfl rfl (one_of HT_.out (by kernel_rfl)) (by decide) (fun K hK => ?_)
                      refine goes_ Tryd.func27 (by kernel_rfl) rfl #[.agg #[.int .i64 a0_0, .int .u64 a0_1], .agg #[.string a1_0, .int .i64 a1_1], .slice Ao84 t483.length co84] (by rfl) rfl rfl (by (try simp only [List.map_toArray, List.map_cons, List.map_nil]); first | done | rfl | (simp only [List.length_drop, List.length_take]; rfl)) ?_
                      with_reducible refine (spec_Form_against.calls k2 a0_0 a0_1 a1_0 a1_1 _ _ t483 t486 _ ?side1 ?side2 A42.out).mono ?_
                      (case side1 => repeat (first | exact (Kd.R_reads' HO485.out).2.2 | (with_reducible refine Kd.C_alloc ?_ _) | (with_reducible refine Kd.C_drewN ?_ _) | (with_reducible refine Kd.C_drew ?_)))
                      (case side2 => exact (Kd.R_reads' HO485.out).2.1)
                      rintro e w85 ⟨rfl, hb⟩
                      refine ⟨_, rfl, ?_⟩
                      have n0_ := Aside0.mk (Kd.R_below (by (with_reducible repeat (first | apply Kd.R_alloc | apply Kd.R_drewN | apply Kd.R_drew)); exact HO479.out) hb)
                      have n1_ := Aside0.mk (Kd.R_below (by (with_reducible repeat (first | apply Kd.R_alloc | apply Kd.R_drewN | apply Kd.R_drew)); exact HO482.out) hb)
                      have n2_ := Aside0.mk (Kd.R_below (by (with_reducible repeat (first | apply Kd.R_alloc | apply Kd.R_drewN | apply Kd.R_drew)); exact HO485.out) hb)
                      have n3_ := Aside0.mk (blk_below (g := gb468) (o := .cells #[.int .i64 a0_0, .int .u64 a0_1] 31 (0, 0)) (by (with_reducible repeat (first | refine blk_drewN ?_ _ | refine blk_drew ?_ | refine blk_alloc ?_ _)); exact BK468.out) hb)
                      have n4_ := Aside0.mk (blk_below (g := gb469) (o := .cells #[.string a1_0, .int .i64 a1_1] 35 (0, 0)) (by (with_reducible repeat (first | refine blk_drewN ?_ _ | refine blk_drew ?_ | refine blk_alloc ?_ _)); exact BK469.out) hb)
                      have n5_ := Aside0.mk (below_step (by repeat (first | (with_reducible first | exact HB.out | apply below_alloc | apply pw_below_drewN | apply below_drew1 | refine below_set ?_ GE468.out | refine below_set ?_ GE469.out) | exact HB.out)) hb)
                      clear HO479
                      clear HO482
                      clear HO485
                      clear BK468
                      clear BK469
                      clear HB
                      have HO479 := n0_
                      have HO482 := n1_
                      have HO485 := n2_
                      have BK468 := n3_
                      have BK469 := n4_
                      have HB := n5_
                      clear n0_ n1_ n2_ n3_ n4_ n5_
                      (try clear hb)
                      (try clear hb2)
                      (try clear hk)
                      (try clear hi)
                      refine hK.out _ _ ⟨(blk_cell BK468.out 0).trans rfl, (blk_cell BK468.out 1).trans rfl, (blk_cell BK469.out 0).trans rfl, (blk_cell BK469.out 1).trans rfl⟩ (fun hHeld => ?_)
                      clear hK K
                      refine norm_ (a' := ?_) ?_ ?_
                      rotate_left
                      · show Act.put _ (some 69) _ = _
                        simp only [Act.put, List.setIfInBounds_toArray, List.set_cons_zero, List.set_cons_succ, i64_w, i32_w]
                        rfl
                      refine pure_ (i := 11) (N := some 8) (v := ?_) (a' := ?_) #[true, true, true, true, true, true, true, true, true, true, true, true] rfl rfl (any_of HT_.out (by kernel_rfl)) (fun _ _ _ h => h) (Or.inl ⟨by rfl, ?_⟩) ?_ ?_
                      rotate_left
                      · intro w'
                        go_simp
                        with_reducible rfl
                      rotate_left
                      · simp only [Act.put, List.setIfInBounds_toArray, List.set_cons_zero, List.set_cons_succ, i64_w, i32_w]
                        rfl
                      refine done_ (done_of HT_.out (by kernel_rfl)) ?_
                      try go_wp2
                      go_ret
                      exact ⟨by first | rfl | (simp [errW_none, errW_some] <;> rfl) | (simp [*, errW_none, errW_some] <;> rfl), by repeat (first | (with_reducible first | exact HB.out | apply below_alloc | apply pw_below_drewN | apply below_drew1 | refine below_set ?_ GE468.out | refine below_set ?_ GE469.out) | exact HB.out)⟩

end Go.Proofs.YtiopeaponffmdaaDoor.PAll
