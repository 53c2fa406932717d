/- The texts of a proof, its declarations alone: part 8. -/
import Derived.Test.YtiopeaponffmdaaDoorVS4
import Derived.Test.YtiopeaponffmdaaDoorVS6
import Derived.Test.YtiopeaponffmdaaDoorVS7
set_option linter.unusedVariables false
set_option linter.unusedSimpArgs false
-- YtiopeaponffmdaaDoorPAllx21
namespace Go.Proofs.YtiopeaponffmdaaDoor.PAll
open Go.RowKit Go.Proofs.YtiopeaponffmdaaDoorW.PrintWords Go.Proofs.YtiopeaponffmdaaDoorW.PrintLast Go.Proofs.YtiopeaponffmdaaDoorW.PrintMore
attribute [local go_sem] max2_int min2_int max_two min_two max_three min_three max_four min_four   -- for this text's walks alone
set_option linter.unusedVariables false
set_option linter.unusedSimpArgs false

def spec_Form_below.l0 : Nat → Int → Int → Int → List Int → Int → Int → Option (Int)
  | 0, _, _, _, _, _, _ => none
  | k + 1, x2, x7, x8, x9, x380000, x380001 => if x7 < x8 then ((spec_decimals.f k (IntKind.u64.wrap (x7 + (IntKind.u64.wrap (Int.tdiv (IntKind.u64.wrap ((IntKind.u64.wrap (x8 - x7)) + 1)) 2))))).bind fun t386 => ((spec_Form_against.f k x380000 x380001 t386 x2 x9).bind fun t387 => (if t387 ≤ 0 then (spec_Form_below.l0 k x2 (IntKind.u64.wrap (x7 + (IntKind.u64.wrap (Int.tdiv (IntKind.u64.wrap ((IntKind.u64.wrap (x8 - x7)) + 1)) 2)))) x8 x9 x380000 x380001) else (spec_Form_below.l0 k x2 x7 (IntKind.u64.wrap ((IntKind.u64.wrap (x7 + (IntKind.u64.wrap (Int.tdiv (IntKind.u64.wrap ((IntKind.u64.wrap (x8 - x7)) + 1)) 2)))) - 1)) x9 x380000 x380001)))) else (some x7)
def spec_Form_below.f (k : Nat) (a0_0 : Int) (a0_1 : Int) (a1 : Int) (a2 : Int) : Option (Int) := (spec_Form_Times2.f k a0_0 a0_1 a1).bind fun t380 => ((spec_Shifted.f k t380 1).bind fun t383 => (spec_Form_below.l0 k a2 0 99999999999999999 t383 a0_0 a0_1))
theorem spec_Form_below.mono_l : ∀ k, (∀ y0 y1 y2 y3 y4 y5, LeO (spec_Form_below.l0 k y0 y1 y2 y3 y4 y5) (spec_Form_below.l0 (k + 1) y0 y1 y2 y3 y4 y5))
  | 0 => fun _ _ _ _ _ _ r h => by simp [spec_Form_below.l0] at h
  | k + 1 => by
    have ih0 := spec_Form_below.mono_l k
    · intro y0 y1 y2 y3 y4 y5
      unfold spec_Form_below.l0
      repeat' first
      | (with_reducible exact ih0 _ _ _ _ _ _)
      | (with_reducible exact spec_Form_Times2.mono _ _ _ _)
      | (with_reducible exact spec_Form_against.mono _ _ _ _ _ _)
      | (with_reducible exact spec_Shifted.mono _ _ _)
      | (with_reducible exact spec_decimals.mono _ _)
      | (with_reducible exact LeO.refl _)
      | (with_reducible exact LeO.none _)
      | (with_reducible refine LeO.ite ?_ ?_)
      | (with_reducible refine LeO.bind ?_ (fun _ => ?_))
      | exact ih0 _ _ _ _ _ _
      | exact spec_Form_Times2.mono _ _ _ _
      | exact spec_Form_against.mono _ _ _ _ _ _
      | exact spec_Shifted.mono _ _ _
      | exact spec_decimals.mono _ _
      | exact LeO.none _
      | refine LeO.ite ?_ ?_
      | refine LeO.bind ?_ (fun _ => ?_)
theorem spec_Form_below.mono : ∀ a0 a1 a2 a3 k, LeO (spec_Form_below.f k a0 a1 a2 a3) (spec_Form_below.f (k + 1) a0 a1 a2 a3) := by
  intro a0 a1 a2 a3 k
  have ih0 := spec_Form_below.mono_l k
  unfold spec_Form_below.f
  repeat' first
      | (with_reducible exact ih0 _ _ _ _ _ _)
      | (with_reducible exact spec_Form_Times2.mono _ _ _ _)
      | (with_reducible exact spec_Form_against.mono _ _ _ _ _ _)
      | (with_reducible exact spec_Shifted.mono _ _ _)
      | (with_reducible exact spec_decimals.mono _ _)
      | (with_reducible exact LeO.refl _)
      | (with_reducible exact LeO.none _)
      | (with_reducible refine LeO.ite ?_ ?_)
      | (with_reducible refine LeO.bind ?_ (fun _ => ?_))
      | exact ih0 _ _ _ _ _ _
      | exact spec_Form_Times2.mono _ _ _ _
      | exact spec_Form_against.mono _ _ _ _ _ _
      | exact spec_Shifted.mono _ _ _
      | exact spec_decimals.mono _ _
      | exact LeO.none _
      | refine LeO.ite ?_ ?_
      | refine LeO.bind ?_ (fun _ => ?_)
def spec_Form_below.T5 : Bool × List (List Nat × List Nat) := (true, [([], []), ([], []), ([1], [1]), ([], []), ([2, 3], [2, 3]), ([], []), ([0, 4, 5, 2], [0, 4, 5]), ([6], [6])])
def spec_Form_below.B5 : List Nat := [0, 0, 2, 0, 14, 0, 63, 127]
theorem spec_Form_below.tab5 : rtab .any (opsOf Tryd.f44 5) = spec_Form_below.T5 := by kernel_rfl
theorem spec_Form_below.bits5 : waitsOk spec_Form_below.T5.2 spec_Form_below.B5 = true := by kernel_rfl
set_option maxHeartbeats 8000000 in
set_option maxRecDepth 100000 in
theorem spec_Form_below.calls (k : Nat) (a0_0 : Int) (a0_1 : Int) (a1 : Int) (a2 : Int) (r : Int) (w : World) (h : spec_Form_below.f k a0_0 a0_1 a1 a2 = some r) :
    Calls Tryd.prog 44 #[.agg #[.int .i64 a0_0, .int .u64 a0_1], .int .u64 a1, .int .i64 a2] w fun e w' => e = .returned (.int .u64 r) ∧ Below w.heap.size w w' := by
  have hu31 := Tryd.underlying31
  have hu35 := Tryd.underlying35
  have HB := Aside0.mk (Below.refl w.heap.size w)
  have H : ((spec_Form_Times2.f k a0_0 a0_1 a1).bind fun t380 => ((spec_Shifted.f k t380 1).bind fun t383 => (spec_Form_below.l0 k a2 0 99999999999999999 t383 a0_0 a0_1))) = some r := h
  clear h
  replace H := Option.bind_eq_some_iff.mp H
  obtain ⟨t380, A40, H⟩ := H
  replace H : ((spec_Shifted.f k t380 1).bind fun t383 => (spec_Form_below.l0 k a2 0 99999999999999999 t383 a0_0 a0_1)) = some r := H
  have A4 := Aside0.mk A40
  clear A40
  replace H := Option.bind_eq_some_iff.mp H
  obtain ⟨t383, A50, H⟩ := H
  replace H : (spec_Form_below.l0 k a2 0 99999999999999999 t383 a0_0 a0_1) = some r := H
  have A5 := Aside0.mk A50
  clear A50
  have H' := Aside0.mk H
  clear H
  go_enter Tryd.func44, Tryd.ntmps44
  go_wp2_with (first | ((with_reducible refine gate_dst (N := 3) rfl ?_); refine box_event ?hg (N := 3) ?hd (cs := #[.int .i64 a0_0, .int .u64 a0_1]) (t := 31) ?hr ?_; (case hd => rfl); (case hg => rfl); (case hr => first | (go_simp; done) | (go_simp; rfl)); intro gb379 hg w6 hbox hb; have n0_ := Aside0.mk (below_step (by repeat (first | (with_reducible first | exact HB.out | apply below_alloc | apply pw_below_drewN | apply below_drew1) | exact HB.out)) hb); have n1_ := Aside0.mk (hbox); have n2_ := Aside0.mk ((by rw [hg]; exact (below_size (by repeat (first | (with_reducible first | exact HB.out | apply below_alloc | apply pw_below_drewN | apply below_drew1) | exact HB.out))) : w.heap.size ≤ gb379)); have n3_ := Aside0.mk ((by rw [hg]; exact (below_size (by repeat (first | (with_reducible first | exact HB.out | apply below_alloc | apply pw_below_drewN | apply below_drew1) | exact HB.out))) : w.heap.size ≤ gb379)); clear HB; have HB := n0_; have BK379 := n1_; have GW379 := n2_; have GE379 := n3_; clear n0_ n1_ n2_ n3_; clear hb hbox hg; have hcz7_0 : w6.cell? ⟨gb379, 0, none⟩ = some (.int .i64 a0_0) := (blk_cell BK379.out 0).trans rfl; have hcz7_1 : w6.cell? ⟨gb379, 1, none⟩ = some (.int .u64 a0_1) := (blk_cell BK379.out 1).trans rfl; have hfz7_0 := blk_frozen BK379.out 0; have hfz7_1 := blk_frozen BK379.out 1) | ((with_reducible refine gate_callee (f := 29) rfl ?_); refine goesL_ (some 13) rfl rfl Tryd.func29 (by kernel_rfl) rfl #[.agg #[.int .i64 a0_0, .int .u64 a0_1], .int .u64 a1] rfl (by (try simp only [List.map_toArray, List.map_cons, List.map_nil]); first | done | rfl | (simp only [List.length_drop, List.length_take]; rfl)) ?_; (with_reducible refine (spec_Form_Times2.calls k a0_0 a0_1 a1 t380 _ A4.out).mono ?_); rintro e w8 ⟨v381, rfl, ho0, hb⟩; refine ⟨_, rfl, ?_⟩; have n0_ := Aside0.mk (Kd.R_lower ho0 (below_size (by repeat (first | (with_reducible first | exact HB.out | apply below_alloc | apply pw_below_drewN | apply below_drew1 | refine below_set ?_ GE379.out) | exact HB.out)))); have n1_ := Aside0.mk (blk_below (g := gb379) (o := .cells #[.int .i64 a0_0, .int .u64 a0_1] 31 (0, 0)) (by (with_reducible repeat (first | refine blk_drewN ?_ _ | refine blk_drew ?_ | refine blk_alloc ?_ _)); exact BK379.out) hb); have n2_ := Aside0.mk (below_step (by repeat (first | (with_reducible first | exact HB.out | apply below_alloc | apply pw_below_drewN | apply below_drew1 | refine below_set ?_ GE379.out) | exact HB.out)) hb); clear BK379; clear HB; have HO382 := n0_; have BK379 := n1_; have HB := n2_; clear n0_ n1_ n2_; (try clear hb); (try clear hb2); (try clear hk); (try clear hi); (try clear ho0); obtain ⟨Ao9, co9, eo9⟩ := Kd.R_slice HO382.out; subst eo9) | ((with_reducible refine gate_callee (f := 28) rfl ?_); refine goesL_ (some 14) rfl rfl Tryd.func28 (by kernel_rfl) rfl #[.slice Ao9 t380.length co9, .int .i64 1] rfl (by (try simp only [List.map_toArray, List.map_cons, List.map_nil]); first | done | rfl | (simp only [List.length_drop, List.length_take]; rfl)) ?_; (with_reducible refine (spec_Shifted.calls k _ _ t380 1 t383 _ ?side1 ?side2 A5.out).mono ?_); (case side1 => repeat (first | exact (Kd.R_reads' HO382.out).2.2 | (with_reducible refine Kd.C_alloc ?_ _) | (with_reducible refine Kd.C_drewN ?_ _) | (with_reducible refine Kd.C_drew ?_))); (case side2 => exact (Kd.R_reads' HO382.out).2.1); rintro e w10 ⟨v384, rfl, ho0, hb⟩; refine ⟨_, rfl, ?_⟩; have n0_ := Aside0.mk (Kd.R_elder' (by (with_reducible repeat (first | apply Kd.R_alloc | apply Kd.R_drewN | apply Kd.R_drew)); exact HO382.out) (Kd.R_base ho0) hb); have n1_ := Aside0.mk (Kd.R_lower (Kd.R_new' ho0 (Kd.R_lt (by (with_reducible repeat (first | apply Kd.R_alloc | apply Kd.R_drewN | apply Kd.R_drew)); exact HO382.out))) (below_size (by repeat (first | (with_reducible first | exact HB.out | apply below_alloc | apply pw_below_drewN | apply below_drew1 | refine below_set ?_ GE379.out) | exact HB.out)))); have n2_ := Aside0.mk (blk_below (g := gb379) (o := .cells #[.int .i64 a0_0, .int .u64 a0_1] 31 (0, 0)) (by (with_reducible repeat (first | refine blk_drewN ?_ _ | refine blk_drew ?_ | refine blk_alloc ?_ _)); exact BK379.out) hb); have n3_ := Aside0.mk (below_step (by repeat (first | (with_reducible first | exact HB.out | apply below_alloc | apply pw_below_drewN | apply below_drew1 | refine below_set ?_ GE379.out) | exact HB.out)) hb); clear HO382; clear BK379; clear HB; have HO382 := n0_; have HO385 := n1_; have BK379 := n2_; have HB := n3_; clear n0_ n1_ n2_ n3_; (try clear hb); (try clear hb2); (try clear hk); (try clear hi); (try clear ho0)))
  go_loopg [7, 8] k (fun kq v7 v8 w' => ∃ (x7_1 : Int) (x8_1 : Int), v7 = .int .u64 x7_1 ∧ v8 = .int .u64 x8_1 ∧ Aside0 (spec_Form_below.l0 kq a2 x7_1 x8_1 t383 a0_0 a0_1 = some r) ∧ Aside0 (kq ≤ k) ∧ Aside0 (Kd.R (Kd.int .u32) 47 w' w.heap.size (fun _ => True) v384 t383) ∧ Aside0 (w'.heap[gb379]? = some (.cells #[.int .i64 a0_0, .int .u64 a0_1] 31 (0, 0))) ∧ Aside0 (Below w.heap.size w w'))
  case atStart => exact ⟨(0), (99999999999999999), (by first | rfl | (simp; done) | (simp [*]; done)), (by first | rfl | (simp; done) | (simp [*]; done)), H', ⟨Nat.le_refl _⟩, ⟨by (with_reducible repeat (first | apply Kd.R_alloc | apply Kd.R_drewN | apply Kd.R_drew)); exact Kd.R_mono HO385.out (fun _ hk => trivial)⟩, ⟨by (with_reducible repeat (first | refine blk_drewN ?_ _ | refine blk_drew ?_ | refine blk_alloc ?_ _)); exact BK379.out⟩, ⟨by repeat (first | (with_reducible first | exact HB.out | apply below_alloc | apply pw_below_drewN | apply below_drew1 | refine below_set ?_ GE379.out) | exact HB.out)⟩⟩
  case round =>
    clear H'
    try clear c2
    try clear p2
    try clear c4
    try clear hcz7_0
    try clear hcz7_1
    try clear hfz7_0
    try clear hfz7_1
    obtain ⟨x7_1, x8_1, rfl, rfl, HA, HK1, HO_9, BK379, HB⟩ := hrel
    cases gk with
    | zero => exact absurd HA.out (by simp [spec_Form_below.l0])
    | succ k1 =>
      have H := HA.out
      clear HA
      simp only [spec_Form_below.l0] at H
      by_cases c11 : x7_1 < x8_1
      · rw [if_pos c11] at H
        have c11b0 : decide (x7_1 < x8_1) = true := decide_eq_true c11
        clear c11
        replace H := Option.bind_eq_some_iff.mp H
        obtain ⟨t386, A120, H⟩ := H
        replace H : ((spec_Form_against.f k1 a0_0 a0_1 t386 a2 t383).bind fun t387 => (if t387 ≤ 0 then (spec_Form_below.l0 k1 a2 (IntKind.u64.wrap (x7_1 + (IntKind.u64.wrap (Int.tdiv (IntKind.u64.wrap ((IntKind.u64.wrap (x8_1 - x7_1)) + 1)) 2)))) x8_1 t383 a0_0 a0_1) else (spec_Form_below.l0 k1 a2 x7_1 (IntKind.u64.wrap ((IntKind.u64.wrap (x7_1 + (IntKind.u64.wrap (Int.tdiv (IntKind.u64.wrap ((IntKind.u64.wrap (x8_1 - x7_1)) + 1)) 2)))) - 1)) t383 a0_0 a0_1))) = some r := H
        have A12 := Aside0.mk A120
        clear A120
        replace H := Option.bind_eq_some_iff.mp H
        obtain ⟨t387, A130, H⟩ := H
        replace H : (if t387 ≤ 0 then (spec_Form_below.l0 k1 a2 (IntKind.u64.wrap (x7_1 + (IntKind.u64.wrap (Int.tdiv (IntKind.u64.wrap ((IntKind.u64.wrap (x8_1 - x7_1)) + 1)) 2)))) x8_1 t383 a0_0 a0_1) else (spec_Form_below.l0 k1 a2 x7_1 (IntKind.u64.wrap ((IntKind.u64.wrap (x7_1 + (IntKind.u64.wrap (Int.tdiv (IntKind.u64.wrap ((IntKind.u64.wrap (x8_1 - x7_1)) + 1)) 2)))) - 1)) t383 a0_0 a0_1)) = some r := H
        have A13 := Aside0.mk A130
        clear A130
        by_cases c14 : t387 ≤ 0
        · rw [if_pos c14] at H
          have c14b0 : decide (t387 ≤ 0) = true := decide_eq_true c14
          clear c14
          have H' := Aside0.mk H
          clear H
          try go_wp2
          have n0_ := Aside0.mk (Kd.R_drew HO_9.out)
          have n1_ := Aside0.mk (blk_drew BK379.out)
          have n2_ := Aside0.mk (below_drew1 HB.out)
          clear HO_9
          clear BK379
          clear HB
          have HO_9 := n0_
          have BK379 := n1_
          have HB := n2_
          clear n0_ n1_ n2_
          refine start_ (n := 8) (S := fun w' => w'.cell? ⟨gb379, 0, none⟩ = some (.int .i64 a0_0) ∧ w'.cell? ⟨gb379, 1, none⟩ = some (.int .u64 a0_1)) (ds := []) #[false, false, false, false, false, false, false, false] (by kernel_rfl) rfl rfl ⟨(blk_cell BK379.out 0).trans rfl, (blk_cell BK379.out 1).trans rfl⟩ (fun hHeld => ?_); refine with_tabW spec_Form_below.tab5 spec_Form_below.bits5 (fun HT_ HW_ => ?_)
          generalize wr.drew = w15 at HO_9 BK379 HB hHeld ⊢
          refine pure_ (i := 1) (N := some 26) (v := ?_) (a' := ?_) #[false, true, false, false, false, false, false, false] rfl rfl (any_of HT_.out (by kernel_rfl)) (fun _ _ _ h => h) (Or.inl ⟨by rfl, ?_⟩) ?_ ?_
          rotate_left
          · intro w'
            go_simp
            with_reducible rfl
          rotate_left
          · simp only [Act.put, List.setIfInBounds_toArray, List.set_cons_zero, List.set_cons_succ, i64_w, i32_w]
            rfl
          refine pure_ (i := 3) (N := some 28) (v := ?_) (a' := ?_) #[false, true, false, true, false, false, false, false] rfl rfl (any_of HT_.out (by kernel_rfl)) (fun _ _ _ h => h) (Or.inl ⟨by rfl, ?_⟩) ?_ ?_
          rotate_left
          · intro w'
            go_simp
            with_reducible rfl
          rotate_left
          · simp only [Act.put, List.setIfInBounds_toArray, List.set_cons_zero, List.set_cons_succ, i64_w, i32_w]
            rfl
          refine pure_ (i := 5) (N := some 30) (v := ?_) (a' := ?_) #[false, true, false, true, false, true, false, false] rfl rfl (any_of HT_.out (by kernel_rfl)) (fun _ _ _ h => h) (Or.inl ⟨by rfl, ?_⟩) ?_ ?_
          rotate_left
          · intro w'
            go_simp
            with_reducible rfl
          rotate_left
          · simp only [Act.put, List.setIfInBounds_toArray, List.set_cons_zero, List.set_cons_succ, i64_w, i32_w]
            rfl
          refine take_ (i := 0) (N := some 25) (v := ?_) (a' := ?_) #[true, true, false, true, false, true, false, false] rfl rfl (take_ofW HT_.out HW_.out (by kernel_rfl)) (fun _ _ _ h => h) (Or.inl ⟨by rfl, ?_⟩) hHeld ?_ ?_
          rotate_left
          · rintro w' ⟨s0, s1⟩
            go_simp
            with_reducible rfl
          rotate_left
          · simp only [Act.put, List.setIfInBounds_toArray, List.set_cons_zero, List.set_cons_succ, i64_w, i32_w]
            rfl
          refine one_ (i := 2) (N := some 27) #[true, true, true, true, false, true, false, false] rfl rfl (one_of HT_.out (by kernel_rfl)) (by decide) (fun K hK => ?_)
          refine goes_ Tryd.func46 (by kernel_rfl) rfl #[.int .u64 (IntKind.u64.wrap (x7_1 + (IntKind.u64.wrap (Int.tdiv (IntKind.u64.wrap ((IntKind.u64.wrap (x8_1 - x7_1)) + 1)) 2))))] (by rfl) rfl rfl (by (try simp only [List.map_toArray, List.map_cons, List.map_nil]); first | done | rfl | (simp only [List.length_drop, List.length_take]; rfl)) ?_
          with_reducible refine (spec_decimals.calls k1 (IntKind.u64.wrap (x7_1 + (IntKind.u64.wrap (Int.tdiv (IntKind.u64.wrap ((IntKind.u64.wrap (x8_1 - x7_1)) + 1)) 2)))) t386 _ A12.out).mono ?_
          rintro e w16 ⟨rfl, hb⟩
          refine ⟨_, rfl, ?_⟩
          have n0_ := Aside0.mk (Kd.R_below (by (with_reducible repeat (first | apply Kd.R_alloc | apply Kd.R_drewN | apply Kd.R_drew)); exact HO_9.out) hb)
          have n1_ := Aside0.mk (blk_below (g := gb379) (o := .cells #[.int .i64 a0_0, .int .u64 a0_1] 31 (0, 0)) (by (with_reducible repeat (first | refine blk_drewN ?_ _ | refine blk_drew ?_ | refine blk_alloc ?_ _)); exact BK379.out) hb)
          have n2_ := Aside0.mk (below_step (by repeat (first | (with_reducible first | exact HB.out | apply below_alloc | apply pw_below_drewN | apply below_drew1 | refine below_set ?_ GE379.out) | exact HB.out)) hb)
          clear HO_9
          clear BK379
          clear HB
          have HO_9 := n0_
          have BK379 := n1_
          have HB := n2_
          clear n0_ n1_ n2_
          (try clear hb)
          (try clear hb2)
          (try clear hk)
          (try clear hi)
          obtain ⟨Ao17, co17, eo17⟩ := Kd.R_slice HO_9.out
          (first | subst eo17 | (injection eo17 with f1_ f2_ f3_; have f4_ := f1_.symm; have f5_ := f3_.symm; clear f1_ f2_ f3_; subst f4_; subst f5_))
          refine hK.out _ _ ⟨(blk_cell BK379.out 0).trans rfl, (blk_cell BK379.out 1).trans rfl⟩ (fun hHeld => ?_)
          clear hK K
          refine norm_ (a' := ?_) ?_ ?_
          rotate_left
          · show Act.put _ (some 27) _ = _
            simp only [Act.put, List.setIfInBounds_toArray, List.set_cons_zero, List.set_cons_succ, i64_w, i32_w]
            rfl
          refine pure_ (i := 4) (N := some 29) (v := ?_) (a' := ?_) #[true, true, true, true, true, true, false, false] rfl rfl (any_of HT_.out (by kernel_rfl)) (fun _ _ _ h => h) (Or.inl ⟨by rfl, ?_⟩) ?_ ?_
          rotate_left
          · intro w'
            go_simp
            with_reducible rfl
          rotate_left
          · simp only [Act.put, List.setIfInBounds_toArray, List.set_cons_zero, List.set_cons_succ, i64_w, i32_w]
            rfl
          refine one_ (i := 6) (N := some 31) #[true, true, true, true, true, true, true, false] rfl rfl (one_of HT_.out (by kernel_rfl)) (by decide) (fun K hK => ?_)
          refine goes_ Tryd.func27 (by kernel_rfl) rfl #[.agg #[.int .i64 a0_0, .int .u64 a0_1], .agg #[.string t386, .int .i64 a2], .slice Ao17 t383.length co17] (by rfl) rfl rfl (by (try simp only [List.map_toArray, List.map_cons, List.map_nil]); first | done | rfl | (simp only [List.length_drop, List.length_take]; rfl)) ?_
          with_reducible refine (spec_Form_against.calls k1 a0_0 a0_1 t386 a2 _ _ t383 t387 _ ?side1 ?side2 A13.out).mono ?_
          (case side1 => repeat (first | exact (Kd.R_reads' HO_9.out).2.2 | (with_reducible refine Kd.C_alloc ?_ _) | (with_reducible refine Kd.C_drewN ?_ _) | (with_reducible refine Kd.C_drew ?_)))
          (case side2 => exact (Kd.R_reads' HO_9.out).2.1)
          rintro e w18 ⟨rfl, hb⟩
          refine ⟨_, rfl, ?_⟩
          have n0_ := Aside0.mk (Kd.R_below (by (with_reducible repeat (first | apply Kd.R_alloc | apply Kd.R_drewN | apply Kd.R_drew)); exact HO_9.out) hb)
          have n1_ := Aside0.mk (blk_below (g := gb379) (o := .cells #[.int .i64 a0_0, .int .u64 a0_1] 31 (0, 0)) (by (with_reducible repeat (first | refine blk_drewN ?_ _ | refine blk_drew ?_ | refine blk_alloc ?_ _)); exact BK379.out) hb)
          have n2_ := Aside0.mk (below_step (by repeat (first | (with_reducible first | exact HB.out | apply below_alloc | apply pw_below_drewN | apply below_drew1 | refine below_set ?_ GE379.out) | exact HB.out)) hb)
          clear HO_9
          clear BK379
          clear HB
          have HO_9 := n0_
          have BK379 := n1_
          have HB := n2_
          clear n0_ n1_ n2_
          (try clear hb)
          (try clear hb2)
          (try clear hk)
          (try clear hi)
          refine hK.out _ _ ⟨(blk_cell BK379.out 0).trans rfl, (blk_cell BK379.out 1).trans rfl⟩ (fun hHeld => ?_)
          clear hK K
          refine norm_ (a' := ?_) ?_ ?_
          rotate_left
          · show Act.put _ (some 31) _ = _
            simp only [Act.put, List.setIfInBounds_toArray, List.set_cons_zero, List.set_cons_succ, i64_w, i32_w]
            rfl
          refine pure_ (i := 7) (N := some 32) (v := ?_) (a' := ?_) #[true, true, true, true, true, true, true, true] rfl rfl (any_of HT_.out (by kernel_rfl)) (fun _ _ _ h => h) (Or.inl ⟨by rfl, ?_⟩) ?_ ?_
          rotate_left
          · intro w'
            go_simp
            with_reducible rfl
          rotate_left
          · simp only [Act.put, List.setIfInBounds_toArray, List.set_cons_zero, List.set_cons_succ, i64_w, i32_w]
            rfl
          refine done_ (done_of HT_.out (by kernel_rfl)) ?_
          try go_wp2
          go_roundg k1
          case measure => have := HK1.out; omega
          case rel => exact ⟨(IntKind.u64.wrap (x7_1 + (IntKind.u64.wrap (Int.tdiv (IntKind.u64.wrap ((IntKind.u64.wrap (x8_1 - x7_1)) + 1)) 2)))), (x8_1), (by first | rfl | (simp; done) | (simp [*]; done)), (by first | rfl | (simp; done) | (simp [*]; done)), H', ⟨by have := HK1.out; omega⟩, ⟨by (with_reducible repeat (first | apply Kd.R_alloc | apply Kd.R_drewN | apply Kd.R_drew)); exact HO_9.out⟩, ⟨by (with_reducible repeat (first | refine blk_drewN ?_ _ | refine blk_drew ?_ | refine blk_alloc ?_ _)); exact BK379.out⟩, ⟨by repeat (first | (with_reducible first | exact HB.out | apply below_alloc | apply pw_below_drewN | apply below_drew1 | refine below_set ?_ GE379.out) | exact HB.out)⟩⟩
        · rw [if_neg c14] at H
          have c14b0 : decide (t387 ≤ 0) = false := decide_eq_false c14
          clear c14
          have H' := Aside0.mk H
          clear H
          try go_wp2
          have n0_ := Aside0.mk (Kd.R_drew HO_9.out)
          have n1_ := Aside0.mk (blk_drew BK379.out)
          have n2_ := Aside0.mk (below_drew1 HB.out)
          clear HO_9
          clear BK379
          clear HB
          have HO_9 := n0_
          have BK379 := n1_
          have HB := n2_
          clear n0_ n1_ n2_
          refine start_ (n := 8) (S := fun w' => w'.cell? ⟨gb379, 0, none⟩ = some (.int .i64 a0_0) ∧ w'.cell? ⟨gb379, 1, none⟩ = some (.int .u64 a0_1)) (ds := []) #[false, false, false, false, false, false, false, false] (by kernel_rfl) rfl rfl ⟨(blk_cell BK379.out 0).trans rfl, (blk_cell BK379.out 1).trans rfl⟩ (fun hHeld => ?_); refine with_tabW spec_Form_below.tab5 spec_Form_below.bits5 (fun HT_ HW_ => ?_)
          generalize wr.drew = w19 at HO_9 BK379 HB hHeld ⊢
          refine pure_ (i := 1) (N := some 26) (v := ?_) (a' := ?_) #[false, true, false, false, false, false, false, false] rfl rfl (any_of HT_.out (by kernel_rfl)) (fun _ _ _ h => h) (Or.inl ⟨by rfl, ?_⟩) ?_ ?_
          rotate_left
          · intro w'
            go_simp
            with_reducible rfl
          rotate_left
          · simp only [Act.put, List.setIfInBounds_toArray, List.set_cons_zero, List.set_cons_succ, i64_w, i32_w]
            rfl
          refine pure_ (i := 3) (N := some 28) (v := ?_) (a' := ?_) #[false, true, false, true, false, false, false, false] rfl rfl (any_of HT_.out (by kernel_rfl)) (fun _ _ _ h => h) (Or.inl ⟨by rfl, ?_⟩) ?_ ?_
          rotate_left
          · intro w'
            go_simp
            with_reducible rfl
          rotate_left
          · simp only [Act.put, List.setIfInBounds_toArray, List.set_cons_zero, List.set_cons_succ, i64_w, i32_w]
            rfl
          refine pure_ (i := 5) (N := some 30) (v := ?_) (a' := ?_) #[false, true, false, true, false, true, false, false] rfl rfl (any_of HT_.out (by kernel_rfl)) (fun _ _ _ h => h) (Or.inl ⟨by rfl, ?_⟩) ?_ ?_
          rotate_left
          · intro w'
            go_simp
            with_reducible rfl
          rotate_left
          · simp only [Act.put, List.setIfInBounds_toArray, List.set_cons_zero, List.set_cons_succ, i64_w, i32_w]
            rfl
          refine take_ (i := 0) (N := some 25) (v := ?_) (a' := ?_) #[true, true, false, true, false, true, false, false] rfl rfl (take_ofW HT_.out HW_.out (by kernel_rfl)) (fun _ _ _ h => h) (Or.inl ⟨by rfl, ?_⟩) hHeld ?_ ?_
          rotate_left
          · rintro w' ⟨s0, s1⟩
            go_simp
            with_reducible rfl
          rotate_left
          · simp only [Act.put, List.setIfInBounds_toArray, List.set_cons_zero, List.set_cons_succ, i64_w, i32_w]
            rfl
          refine one_ (i := 2) (N := some 27) #[true, true, true, true, false, true, false, false] rfl rfl (one_of HT_.out (by kernel_rfl)) (by decide) (fun K hK => ?_)
          refine goes_ Tryd.func46 (by kernel_rfl) rfl #[.int .u64 (IntKind.u64.wrap (x7_1 + (IntKind.u64.wrap (Int.tdiv (IntKind.u64.wrap ((IntKind.u64.wrap (x8_1 - x7_1)) + 1)) 2))))] (by rfl) rfl rfl (by (try simp only [List.map_toArray, List.map_cons, List.map_nil]); first | done | rfl | (simp only [List.length_drop, List.length_take]; rfl)) ?_
          with_reducible refine (spec_decimals.calls k1 (IntKind.u64.wrap (x7_1 + (IntKind.u64.wrap (Int.tdiv (IntKind.u64.wrap ((IntKind.u64.wrap (x8_1 - x7_1)) + 1)) 2)))) t386 _ A12.out).mono ?_
          rintro e w20 ⟨rfl, hb⟩
          refine ⟨_, rfl, ?_⟩
          have n0_ := Aside0.mk (Kd.R_below (by (with_reducible repeat (first | apply Kd.R_alloc | apply Kd.R_drewN | apply Kd.R_drew)); exact HO_9.out) hb)
          have n1_ := Aside0.mk (blk_below (g := gb379) (o := .cells #[.int .i64 a0_0, .int .u64 a0_1] 31 (0, 0)) (by (with_reducible repeat (first | refine blk_drewN ?_ _ | refine blk_drew ?_ | refine blk_alloc ?_ _)); exact BK379.out) hb)
          have n2_ := Aside0.mk (below_step (by repeat (first | (with_reducible first | exact HB.out | apply below_alloc | apply pw_below_drewN | apply below_drew1 | refine below_set ?_ GE379.out) | exact HB.out)) hb)
          clear HO_9
          clear BK379
          clear HB
          have HO_9 := n0_
          have BK379 := n1_
          have HB := n2_
          clear n0_ n1_ n2_
          (try clear hb)
          (try clear hb2)
          (try clear hk)
          (try clear hi)
          obtain ⟨Ao21, co21, eo21⟩ := Kd.R_slice HO_9.out
          (first | subst eo21 | (injection eo21 with f1_ f2_ f3_; have f4_ := f1_.symm; have f5_ := f3_.symm; clear f1_ f2_ f3_; subst f4_; subst f5_))
          refine hK.out _ _ ⟨(blk_cell BK379.out 0).trans rfl, (blk_cell BK379.out 1).trans rfl⟩ (fun hHeld => ?_)
          clear hK K
          refine norm_ (a' := ?_) ?_ ?_
          rotate_left
          · show Act.put _ (some 27) _ = _
            simp only [Act.put, List.setIfInBounds_toArray, List.set_cons_zero, List.set_cons_succ, i64_w, i32_w]
            rfl
          refine pure_ (i := 4) (N := some 29) (v := ?_) (a' := ?_) #[true, true, true, true, true, true, false, false] rfl rfl (any_of HT_.out (by kernel_rfl)) (fun _ _ _ h => h) (Or.inl ⟨by rfl, ?_⟩) ?_ ?_
          rotate_left
          · intro w'
            go_simp
            with_reducible rfl
          rotate_left
          · simp only [Act.put, List.setIfInBounds_toArray, List.set_cons_zero, List.set_cons_succ, i64_w, i32_w]
            rfl
          refine one_ (i := 6) (N := some 31) #[true, true, true, true, true, true, true, false] rfl rfl (one_of HT_.out (by kernel_rfl)) (by decide) (fun K hK => ?_)
          refine goes_ Tryd.func27 (by kernel_rfl) rfl #[.agg #[.int .i64 a0_0, .int .u64 a0_1], .agg #[.string t386, .int .i64 a2], .slice Ao21 t383.length co21] (by rfl) rfl rfl (by (try simp only [List.map_toArray, List.map_cons, List.map_nil]); first | done | rfl | (simp only [List.length_drop, List.length_take]; rfl)) ?_
          with_reducible refine (spec_Form_against.calls k1 a0_0 a0_1 t386 a2 _ _ t383 t387 _ ?side1 ?side2 A13.out).mono ?_
          (case side1 => repeat (first | exact (Kd.R_reads' HO_9.out).2.2 | (with_reducible refine Kd.C_alloc ?_ _) | (with_reducible refine Kd.C_drewN ?_ _) | (with_reducible refine Kd.C_drew ?_)))
          (case side2 => exact (Kd.R_reads' HO_9.out).2.1)
          rintro e w22 ⟨rfl, hb⟩
          refine ⟨_, rfl, ?_⟩
          have n0_ := Aside0.mk (Kd.R_below (by (with_reducible repeat (first | apply Kd.R_alloc | apply Kd.R_drewN | apply Kd.R_drew)); exact HO_9.out) hb)
          have n1_ := Aside0.mk (blk_below (g := gb379) (o := .cells #[.int .i64 a0_0, .int .u64 a0_1] 31 (0, 0)) (by (with_reducible repeat (first | refine blk_drewN ?_ _ | refine blk_drew ?_ | refine blk_alloc ?_ _)); exact BK379.out) hb)
          have n2_ := Aside0.mk (below_step (by repeat (first | (with_reducible first | exact HB.out | apply below_alloc | apply pw_below_drewN | apply below_drew1 | refine below_set ?_ GE379.out) | exact HB.out)) hb)
          clear HO_9
          clear BK379
          clear HB
          have HO_9 := n0_
          have BK379 := n1_
          have HB := n2_
          clear n0_ n1_ n2_
          (try clear hb)
          (try clear hb2)
          (try clear hk)
          (try clear hi)
          refine hK.out _ _ ⟨(blk_cell BK379.out 0).trans rfl, (blk_cell BK379.out 1).trans rfl⟩ (fun hHeld => ?_)
          clear hK K
          refine norm_ (a' := ?_) ?_ ?_
          rotate_left
          · show Act.put _ (some 31) _ = _
            simp only [Act.put, List.setIfInBounds_toArray, List.set_cons_zero, List.set_cons_succ, i64_w, i32_w]
            rfl
          refine pure_ (i := 7) (N := some 32) (v := ?_) (a' := ?_) #[true, true, true, true, true, true, true, true] rfl rfl (any_of HT_.out (by kernel_rfl)) (fun _ _ _ h => h) (Or.inl ⟨by rfl, ?_⟩) ?_ ?_
          rotate_left
          · intro w'
            go_simp
            with_reducible rfl
          rotate_left
          · simp only [Act.put, List.setIfInBounds_toArray, List.set_cons_zero, List.set_cons_succ, i64_w, i32_w]
            rfl
          refine done_ (done_of HT_.out (by kernel_rfl)) ?_
          try go_wp2
          go_roundg k1
          case measure => have := HK1.out; omega
          case rel => exact ⟨(x7_1), (IntKind.u64.wrap ((IntKind.u64.wrap (x7_1 + (IntKind.u64.wrap (Int.tdiv (IntKind.u64.wrap ((IntKind.u64.wrap (x8_1 - x7_1)) + 1)) 2)))) - 1)), (by first | rfl | (simp; done) | (simp [*]; done)), (by first | rfl | (simp; done) | (simp [*]; done)), H', ⟨by have := HK1.out; omega⟩, ⟨by (with_reducible repeat (first | apply Kd.R_alloc | apply Kd.R_drewN | apply Kd.R_drew)); exact HO_9.out⟩, ⟨by (with_reducible repeat (first | refine blk_drewN ?_ _ | refine blk_drew ?_ | refine blk_alloc ?_ _)); exact BK379.out⟩, ⟨by repeat (first | (with_reducible first | exact HB.out | apply below_alloc | apply pw_below_drewN | apply below_drew1 | refine below_set ?_ GE379.out) | exact HB.out)⟩⟩
      · rw [if_neg c11] at H
        have c11b0 : decide (x7_1 < x8_1) = false := decide_eq_false c11
        clear c11
        obtain rfl := Option.some.inj H
        go_wp2
        go_ret
        exact ⟨by first | rfl | (simp [errW_none, errW_some] <;> rfl) | (simp [*, errW_none, errW_some] <;> rfl), by repeat (first | (with_reducible first | exact HB.out | apply below_alloc | apply pw_below_drewN | apply below_drew1 | refine below_set ?_ GE379.out) | exact HB.out)⟩

end Go.Proofs.YtiopeaponffmdaaDoor.PAll
