/- The texts of a proof, its declarations alone: part 7. -/
import Derived.Laws.BitsAllLaws
import Derived.Test.YtiopeaponffmdaaDoorVS4
import Derived.Test.YtiopeaponffmdaaDoorVS5
import Derived.Test.YtiopeaponffmdaaDoorVS6
set_option linter.unusedVariables false
set_option linter.unusedSimpArgs false
-- YtiopeaponffmdaaDoorPAllx20
namespace Go.Proofs.YtiopeaponffmdaaDoor.PAll
open Go.RowKit Go.Proofs.YtiopeaponffmdaaDoorW.PrintWords Go.Proofs.YtiopeaponffmdaaDoorW.PrintLast Go.Proofs.YtiopeaponffmdaaDoorW.PrintMore
attribute [local go_sem] max2_int min2_int max_two min_two max_three min_three max_four min_four   -- for this text's walks alone
set_option linter.unusedVariables false
set_option linter.unusedSimpArgs false

def spec_decimals.l0 : Nat → Int → List Int → Option (ByteArray)
  | 0, _, _ => none
  | k + 1, x0, x3 => if x0 > 0 then ((some (([(IntKind.u64.wrap (48 + (Int.tmod x0 10))) % 256] : List Int) : List Int)).bind fun y367 => (if y367.length + x3.length < 140737488355328 then (spec_decimals.l0 k (IntKind.u64.wrap (Int.tdiv x0 10)) (y367 ++ x3)) else (none))) else (if (x3.length : Int) = 0 then ((some (([(IntKind.u64.wrap (48 + (Int.tmod x0 10))) % 256] : List Int) : List Int)).bind fun y373 => (if y373.length + x3.length < 140737488355328 then (spec_decimals.l0 k (IntKind.u64.wrap (Int.tdiv x0 10)) (y373 ++ x3)) else (none))) else (some (strOfNums x3)))
def spec_decimals.f (k : Nat) (a0 : Int) : Option (ByteArray) := spec_decimals.l0 k a0 (([] : List Int))
theorem spec_decimals.mono_l : ∀ k, (∀ y0 y1, LeO (spec_decimals.l0 k y0 y1) (spec_decimals.l0 (k + 1) y0 y1))
  | 0 => fun _ _ r h => by simp [spec_decimals.l0] at h
  | k + 1 => by
    have ih0 := spec_decimals.mono_l k
    · intro y0 y1
      unfold spec_decimals.l0
      repeat' first
      | (with_reducible exact ih0 _ _)
      | (with_reducible exact LeO.refl _)
      | (with_reducible exact LeO.none _)
      | (with_reducible refine LeO.ite ?_ ?_)
      | (with_reducible refine LeO.bind ?_ (fun _ => ?_))
      | exact ih0 _ _
      | exact LeO.none _
      | refine LeO.ite ?_ ?_
      | refine LeO.bind ?_ (fun _ => ?_)
theorem spec_decimals.mono : ∀ a0 k, LeO (spec_decimals.f k a0) (spec_decimals.f (k + 1) a0) := by
  intro a0 k
  have ih0 := spec_decimals.mono_l k
  unfold spec_decimals.f
  repeat' first
      | (with_reducible exact ih0 _ _)
      | (with_reducible exact LeO.refl _)
      | (with_reducible exact LeO.none _)
      | (with_reducible refine LeO.ite ?_ ?_)
      | (with_reducible refine LeO.bind ?_ (fun _ => ?_))
      | exact ih0 _ _
      | exact LeO.none _
      | refine LeO.ite ?_ ?_
      | refine LeO.bind ?_ (fun _ => ?_)
set_option maxHeartbeats 8000000 in
set_option maxRecDepth 100000 in
theorem spec_decimals.calls (k : Nat) (a0 : Int) (r : ByteArray) (w : World) (h : spec_decimals.f k a0 = some r) :
    Calls Tryd.prog 46 #[.int .u64 a0] w fun e w' => e = .returned (.string r) ∧ Below w.heap.size w w' := by
  have HB := Aside0.mk (Below.refl w.heap.size w)
  have H : (spec_decimals.l0 k a0 (([] : List Int))) = some r := h
  clear h
  obtain ⟨y364, hy364⟩ : ∃ y_ : List Int, y_ = (([] : List Int)) := ⟨_, rfl⟩
  replace H : (spec_decimals.l0 k a0 y364) = some r := by first | (rw [hy364]; with_reducible exact H) | (have H2_ := (Option.bind_some _ _).symm.trans H; rw [hy364]; with_reducible exact H2_) | (have H2_ := (Option.bind_some _ _).symm.trans H; with_reducible exact H2_) | with_reducible exact H | (rw [hy364]; exact H) | exact H
  have Ny364 := Aside0.mk hy364
  clear hy364
  have H' := Aside0.mk H
  clear H
  go_enter Tryd.func46, Tryd.ntmps46
  go_wp2_with (first | ((with_reducible refine gate_dst (N := 4) rfl ?_); (try (refine gate_guard (by rfl) ?_; dsimp only)); refine Kd.R_lit (Kd.int .u8) _ 5 ?hg (N := 4) ?hd (xs := ([] : List Int)) (inner := []) (ok := fun _ => True) (okp := fun _ => True) ?hr ?hp (fun _ hk => hk) trivial (Below.refl _ _) (Nat.le_refl _) (by simp) ?_; (case hd => rfl); (case hg => rfl); (case hr => first | (go_simp; done) | (go_simp; rfl)); (case hp => exact (Reps.none _ _)); intro v365 w2 ho3 hb hg_ hnew_; clear hg_ hnew_; (first | rw [← Ny364.out] at ho3 | (simp only [Int.reduceToNat] at ho3; rw [← Ny364.out] at ho3)); have n0_ := Aside0.mk (Kd.R_lower ho3 (below_size (by repeat (first | (with_reducible first | exact HB.out | apply below_alloc | apply pw_below_drewN | apply below_drew1) | exact HB.out)))); have n1_ := Aside0.mk (below_step (by repeat (first | (with_reducible first | exact HB.out | apply below_alloc | apply pw_below_drewN | apply below_drew1) | exact HB.out)) hb); clear HB; have HO366 := n0_; have HB := n1_; clear n0_ n1_; clear hb ho3))
  go_loopg [0, 3] k (fun kq v0 v3 w' => ∃ (x0_1 : Int) (x3_1 : List Int), v0 = .int .u64 x0_1 ∧ Aside0 (spec_decimals.l0 kq x0_1 x3_1 = some r) ∧ Aside0 (kq ≤ k) ∧ Aside0 (Kd.R (Kd.int .u8) 5 w' w.heap.size (fun _ => True) v3 x3_1) ∧ Aside0 (Below w.heap.size w w'))
  case atStart => exact ⟨(a0), (y364), (by first | rfl | (simp; done) | (simp [*]; done)), H', ⟨Nat.le_refl _⟩, ⟨by (with_reducible repeat (first | apply Kd.R_alloc | apply Kd.R_drewN | apply Kd.R_drew)); exact HO366.out⟩, ⟨by repeat (first | (with_reducible first | exact HB.out | apply below_alloc | apply pw_below_drewN | apply below_drew1) | exact HB.out)⟩⟩
  case round =>
    clear H'
    try clear p2
    obtain ⟨x0_1, x3_1, rfl, HA, HK1, HO_3, HB⟩ := hrel
    cases gk with
    | zero => exact absurd HA.out (by simp [spec_decimals.l0])
    | succ k1 =>
      have H := HA.out
      clear HA
      simp only [spec_decimals.l0] at H
      by_cases c4 : x0_1 > 0
      · rw [if_pos c4] at H
        have c4b0 : decide (0 < x0_1) = true := decide_eq_true c4
        clear c4
        obtain ⟨y367, hy367⟩ : ∃ y_ : List Int, y_ = (([(IntKind.u64.wrap (48 + (Int.tmod x0_1 10))) % 256] : List Int)) := ⟨_, rfl⟩
        replace H : (if y367.length + x3_1.length < 140737488355328 then (spec_decimals.l0 k1 (IntKind.u64.wrap (Int.tdiv x0_1 10)) (y367 ++ x3_1)) else (none)) = some r := by first | (rw [hy367]; with_reducible exact H) | (have H2_ := (Option.bind_some _ _).symm.trans H; rw [hy367]; with_reducible exact H2_) | (have H2_ := (Option.bind_some _ _).symm.trans H; with_reducible exact H2_) | with_reducible exact H | (rw [hy367]; exact H) | exact H
        have Ny367 := Aside0.mk hy367
        clear hy367
        by_cases c5 : y367.length + x3_1.length < 140737488355328
        · rw [if_pos c5] at H
          have LMc5 := Aside0.mk c5
          clear c5
          obtain ⟨y370, hy370⟩ : ∃ y_ : List Int, y_ = (y367 ++ x3_1) := ⟨_, rfl⟩
          replace H : (spec_decimals.l0 k1 (IntKind.u64.wrap (Int.tdiv x0_1 10)) y370) = some r := by first | (rw [hy370]; with_reducible exact H) | (have H2_ := (Option.bind_some _ _).symm.trans H; rw [hy370]; with_reducible exact H2_) | (have H2_ := (Option.bind_some _ _).symm.trans H; with_reducible exact H2_) | with_reducible exact H | (rw [hy370]; exact H) | exact H
          have Ny370 := Aside0.mk hy370
          clear hy370
          have H' := Aside0.mk H
          clear H
          go_wp2_with (first | ((with_reducible refine gate_dst (N := 18) rfl ?_); (try (refine gate_guard (by rfl) ?_; dsimp only)); refine Kd.R_lit (Kd.int .u8) _ 5 ?hg (N := 18) ?hd (xs := ([(IntKind.u64.wrap (48 + (Int.tmod x0_1 10))) % 256] : List Int)) (inner := [.int .u8 ((IntKind.u64.wrap (48 + (Int.tmod x0_1 10))) % 256)]) (ok := fun _ => True) (okp := fun _ => True) ?hr ?hp (fun _ hk => hk) trivial (Below.refl _ _) (Nat.le_refl _) (by simp) ?_; (case hd => rfl); (case hg => rfl); (case hr => first | (go_simp; done) | (go_simp; rfl)); (case hp => exact (Reps.one (show Kd.M (Kd.int .u8) _ _ _ ((IntKind.u64.wrap (48 + (Int.tmod x0_1 10))) % 256) [.int .u8 ((IntKind.u64.wrap (48 + (Int.tmod x0_1 10))) % 256)] from rfl) (Reps.none _ _))); intro v368 w6 ho7 hb hg_ hnew_; clear hg_ hnew_; (first | rw [← Ny367.out] at ho7 | (simp only [Int.reduceToNat] at ho7; rw [← Ny367.out] at ho7)); have n0_ := Aside0.mk (Kd.R_elder' (by (with_reducible repeat (first | apply Kd.R_alloc | apply Kd.R_drewN | apply Kd.R_drew)); exact HO_3.out) (Kd.R_base ho7) hb); have n1_ := Aside0.mk (Kd.R_lower (Kd.R_new' ho7 (Kd.R_lt (by (with_reducible repeat (first | apply Kd.R_alloc | apply Kd.R_drewN | apply Kd.R_drew)); exact HO_3.out))) (below_size (by repeat (first | (with_reducible first | exact HB.out | apply below_alloc | apply pw_below_drewN | apply below_drew1) | exact HB.out)))); have n2_ := Aside0.mk (below_step (by repeat (first | (with_reducible first | exact HB.out | apply below_alloc | apply pw_below_drewN | apply below_drew1) | exact HB.out)) hb); clear HO_3; clear HB; have HO_3 := n0_; have HO369 := n1_; have HB := n2_; clear n0_ n1_ n2_; clear hb ho7; obtain ⟨Ao9, co9, eo9⟩ := Kd.R_slice HO_3.out; subst eo9) | ((with_reducible refine gate_builtin (b := .append) (xs := #[.tmp 18, .tmp 19]) rfl ?_); (try (refine gate_guard (by rfl) ?_; dsimp only)); at_builtin; refine Kd.R_append_rows (Kd.int .u8) (w0 := w) w.heap.size rfl (.tmp 18) (.tmp 19) 39 5 (.int .u8 0) 1 rfl Tryd.underlying39 info5 rfl (by decide) (by omega) v368 y367 x3_1 _ _ _ (fun k_ => some k_ ≠ (.slice Ao9 x3_1.length co9 : Value).ownBlock) (fun _ => False) rfl rfl ?aO ?aR (fun _ _ h => h) (fun _ h => h.elim) ?aF ?aB ?aS ?aL ?_; (case aR => repeat (first | exact (Kd.R_reads' HO_3.out).2.2 | (with_reducible refine Kd.C_alloc ?_ _) | (with_reducible refine Kd.C_drewN ?_ _) | (with_reducible refine Kd.C_drew ?_))); (case aB => exact (by repeat (first | (with_reducible first | exact HB.out | apply below_alloc | apply pw_below_drewN | apply below_drew1) | exact HB.out))); (case aF => exact (fun k_ hk => Kd.fresh' (Kd.R_lt (by (with_reducible repeat (first | apply Kd.R_alloc | apply Kd.R_drewN | apply Kd.R_drew)); exact HO_3.out)) k_ hk)); (case aO => exact (by (with_reducible repeat (first | apply Kd.R_alloc | apply Kd.R_drewN | apply Kd.R_drew)); exact Kd.R_mono HO369.out (fun _ hk => hk.2))); (case aS => exact (below_size (by repeat (first | (with_reducible first | exact HB.out | apply below_alloc | apply pw_below_drewN | apply below_drew1) | exact HB.out)))); (case aL => have := LMc5.out; omega); intro v371 w8 ho hb hg hat; rw [← Ny370.out] at ho; have n0_ := Aside0.mk (Kd.R_after (ok := (fun _ => True)) (by (with_reducible repeat (first | apply Kd.R_alloc | apply Kd.R_drewN | apply Kd.R_drew)); exact HO_3.out) hg hat); have n1_ := Aside0.mk (hb); have n2_ := Aside0.mk (ho); clear HO_3; clear HB; clear HO369; have HO_3 := n0_; have HB := n1_; have HO372 := n2_; clear n0_ n1_ n2_; clear ho hb hg hat))
          go_roundg k1
          case measure => have := HK1.out; omega
          case rel => exact ⟨(IntKind.u64.wrap (Int.tdiv x0_1 10)), (y370), (by first | rfl | (simp; done) | (simp [*]; done)), H', ⟨by have := HK1.out; omega⟩, ⟨by (with_reducible repeat (first | apply Kd.R_alloc | apply Kd.R_drewN | apply Kd.R_drew)); exact Kd.R_mono HO372.out (fun _ hk => trivial)⟩, ⟨by repeat (first | (with_reducible first | exact HB.out | apply below_alloc | apply pw_below_drewN | apply below_drew1) | exact HB.out)⟩⟩
        · rw [if_neg c5] at H
          exact absurd H (by simp)
      · rw [if_neg c4] at H
        have c4b0 : decide (0 < x0_1) = false := decide_eq_false c4
        clear c4
        by_cases c10 : (x3_1.length : Int) = 0
        · rw [if_pos c10] at H
          have c10b0 : ((x3_1.length : Int) == 0) = true := beq_iff_eq.mpr c10
          have c10b1 : ((x3_1.length : Int) != 0) = false := bne_eq_false_iff_eq.mpr c10
          clear c10
          obtain ⟨y373, hy373⟩ : ∃ y_ : List Int, y_ = (([(IntKind.u64.wrap (48 + (Int.tmod x0_1 10))) % 256] : List Int)) := ⟨_, rfl⟩
          replace H : (if y373.length + x3_1.length < 140737488355328 then (spec_decimals.l0 k1 (IntKind.u64.wrap (Int.tdiv x0_1 10)) (y373 ++ x3_1)) else (none)) = some r := by first | (rw [hy373]; with_reducible exact H) | (have H2_ := (Option.bind_some _ _).symm.trans H; rw [hy373]; with_reducible exact H2_) | (have H2_ := (Option.bind_some _ _).symm.trans H; with_reducible exact H2_) | with_reducible exact H | (rw [hy373]; exact H) | exact H
          have Ny373 := Aside0.mk hy373
          clear hy373
          by_cases c11 : y373.length + x3_1.length < 140737488355328
          · rw [if_pos c11] at H
            have LMc11 := Aside0.mk c11
            clear c11
            obtain ⟨y376, hy376⟩ : ∃ y_ : List Int, y_ = (y373 ++ x3_1) := ⟨_, rfl⟩
            replace H : (spec_decimals.l0 k1 (IntKind.u64.wrap (Int.tdiv x0_1 10)) y376) = some r := by first | (rw [hy376]; with_reducible exact H) | (have H2_ := (Option.bind_some _ _).symm.trans H; rw [hy376]; with_reducible exact H2_) | (have H2_ := (Option.bind_some _ _).symm.trans H; with_reducible exact H2_) | with_reducible exact H | (rw [hy376]; exact H) | exact H
            have Ny376 := Aside0.mk hy376
            clear hy376
            have H' := Aside0.mk H
            clear H
            obtain ⟨Ao12, co12, eo12⟩ := Kd.R_slice HO_3.out
            subst eo12
            go_wp2_with (first | ((with_reducible refine gate_dst (N := 18) rfl ?_); (try (refine gate_guard (by rfl) ?_; dsimp only)); refine Kd.R_lit (Kd.int .u8) _ 5 ?hg (N := 18) ?hd (xs := ([(IntKind.u64.wrap (48 + (Int.tmod x0_1 10))) % 256] : List Int)) (inner := [.int .u8 ((IntKind.u64.wrap (48 + (Int.tmod x0_1 10))) % 256)]) (ok := fun _ => True) (okp := fun _ => True) ?hr ?hp (fun _ hk => hk) trivial (Below.refl _ _) (Nat.le_refl _) (by simp) ?_; (case hd => rfl); (case hg => rfl); (case hr => first | (go_simp; done) | (go_simp; rfl)); (case hp => exact (Reps.one (show Kd.M (Kd.int .u8) _ _ _ ((IntKind.u64.wrap (48 + (Int.tmod x0_1 10))) % 256) [.int .u8 ((IntKind.u64.wrap (48 + (Int.tmod x0_1 10))) % 256)] from rfl) (Reps.none _ _))); intro v374 w13 ho14 hb hg_ hnew_; clear hg_ hnew_; (first | rw [← Ny373.out] at ho14 | (simp only [Int.reduceToNat] at ho14; rw [← Ny373.out] at ho14)); have n0_ := Aside0.mk (Kd.R_elder' (by (with_reducible repeat (first | apply Kd.R_alloc | apply Kd.R_drewN | apply Kd.R_drew)); exact HO_3.out) (Kd.R_base ho14) hb); have n1_ := Aside0.mk (Kd.R_lower (Kd.R_new' ho14 (Kd.R_lt (by (with_reducible repeat (first | apply Kd.R_alloc | apply Kd.R_drewN | apply Kd.R_drew)); exact HO_3.out))) (below_size (by repeat (first | (with_reducible first | exact HB.out | apply below_alloc | apply pw_below_drewN | apply below_drew1) | exact HB.out)))); have n2_ := Aside0.mk (below_step (by repeat (first | (with_reducible first | exact HB.out | apply below_alloc | apply pw_below_drewN | apply below_drew1) | exact HB.out)) hb); clear HO_3; clear HB; have HO_3 := n0_; have HO375 := n1_; have HB := n2_; clear n0_ n1_ n2_; clear hb ho14) | ((with_reducible refine gate_builtin (b := .append) (xs := #[.tmp 18, .tmp 19]) rfl ?_); (try (refine gate_guard (by rfl) ?_; dsimp only)); at_builtin; refine Kd.R_append_rows (Kd.int .u8) (w0 := w) w.heap.size rfl (.tmp 18) (.tmp 19) 39 5 (.int .u8 0) 1 rfl Tryd.underlying39 info5 rfl (by decide) (by omega) v374 y373 x3_1 _ _ _ (fun k_ => some k_ ≠ (.slice Ao12 x3_1.length co12 : Value).ownBlock) (fun _ => False) rfl rfl ?aO ?aR (fun _ _ h => h) (fun _ h => h.elim) ?aF ?aB ?aS ?aL ?_; (case aR => repeat (first | exact (Kd.R_reads' HO_3.out).2.2 | (with_reducible refine Kd.C_alloc ?_ _) | (with_reducible refine Kd.C_drewN ?_ _) | (with_reducible refine Kd.C_drew ?_))); (case aB => exact (by repeat (first | (with_reducible first | exact HB.out | apply below_alloc | apply pw_below_drewN | apply below_drew1) | exact HB.out))); (case aF => exact (fun k_ hk => Kd.fresh' (Kd.R_lt (by (with_reducible repeat (first | apply Kd.R_alloc | apply Kd.R_drewN | apply Kd.R_drew)); exact HO_3.out)) k_ hk)); (case aO => exact (by (with_reducible repeat (first | apply Kd.R_alloc | apply Kd.R_drewN | apply Kd.R_drew)); exact Kd.R_mono HO375.out (fun _ hk => hk.2))); (case aS => exact (below_size (by repeat (first | (with_reducible first | exact HB.out | apply below_alloc | apply pw_below_drewN | apply below_drew1) | exact HB.out)))); (case aL => have := LMc11.out; omega); intro v377 w15 ho hb hg hat; rw [← Ny376.out] at ho; have n0_ := Aside0.mk (Kd.R_after (ok := (fun _ => True)) (by (with_reducible repeat (first | apply Kd.R_alloc | apply Kd.R_drewN | apply Kd.R_drew)); exact HO_3.out) hg hat); have n1_ := Aside0.mk (hb); have n2_ := Aside0.mk (ho); clear HO_3; clear HB; clear HO375; have HO_3 := n0_; have HB := n1_; have HO378 := n2_; clear n0_ n1_ n2_; clear ho hb hg hat))
            go_roundg k1
            case measure => have := HK1.out; omega
            case rel => exact ⟨(IntKind.u64.wrap (Int.tdiv x0_1 10)), (y376), (by first | rfl | (simp; done) | (simp [*]; done)), H', ⟨by have := HK1.out; omega⟩, ⟨by (with_reducible repeat (first | apply Kd.R_alloc | apply Kd.R_drewN | apply Kd.R_drew)); exact Kd.R_mono HO378.out (fun _ hk => trivial)⟩, ⟨by repeat (first | (with_reducible first | exact HB.out | apply below_alloc | apply pw_below_drewN | apply below_drew1) | exact HB.out)⟩⟩
          · rw [if_neg c11] at H
            exact absurd H (by simp)
        · rw [if_neg c10] at H
          have c10b0 : ((x3_1.length : Int) == 0) = false := beq_eq_false_iff_ne.mpr c10
          have c10b1 : ((x3_1.length : Int) != 0) = true := bne_iff_ne.mpr c10
          have c10b2 : ¬ (x3_1 = []) := fun h_ => c10 (by rw [h_]; rfl)
          obtain rfl := Option.some.inj H
          obtain ⟨Ao16, co16, eo16⟩ := Kd.R_slice HO_3.out
          subst eo16
          have hcv17 := own_string (P := Tryd.prog) Tryd.underlying39 Tryd.underlying5 Tryd.underlying9 (Kd.own_of_R HO_3.out)
          go_wp2
          go_ret
          exact ⟨by first | rfl | (simp [errW_none, errW_some] <;> rfl) | (simp [*, errW_none, errW_some] <;> rfl), by repeat (first | (with_reducible first | exact HB.out | apply below_alloc | apply pw_below_drewN | apply below_drew1) | exact HB.out)⟩

end Go.Proofs.YtiopeaponffmdaaDoor.PAll
-- YtiopeaponffmdaaDoorNb
namespace Go.Proofs.YtiopeaponffmdaaDoor.PAll
open Go.RowKit Go.Proofs.YtiopeaponffmdaaDoorW.PrintWords Go.Proofs.YtiopeaponffmdaaDoorW.PrintLast Go.Proofs.YtiopeaponffmdaaDoorW.PrintMore

def cmp (a b : Nat) : Int := if a < b then -1 else if a = b then 0 else 1
theorem cmp_lt {a b : Nat} (h : a < b) : cmp a b = -1 := if_pos h
theorem cmp_eq {a b : Nat} (h : a = b) : cmp a b = 0 := by unfold cmp; rw [if_neg (by omega), if_pos h]
theorem cmp_gt {a b : Nat} (h : b < a) : cmp a b = 1 := by unfold cmp; rw [if_neg (by omega), if_neg (by omega)]

theorem dg_mono {a b : Nat} (h : a ≤ b) : (dg a).length ≤ (dg b).length := dg_length (Nat.lt_of_le_of_lt h (lt_dg_length b))
theorem take_snoc (l : List Int) (i : Nat) (h : i < l.length) : l.take (i + 1) = l.take i ++ [rd l (i : Int)] := by
  rw [List.take_add_one, List.getElem?_eq_getElem h]
  simp [rd, List.getD, List.getElem?_eq_getElem h]
theorem rd_mem (l : List Int) (i : Nat) (h : i < l.length) : rd l (i : Int) ∈ l := by
  simp [rd, List.getD, List.getElem?_eq_getElem h]

set_option linter.unusedVariables false in
theorem Compare_ev (a b : Nat) (ha : (dg a).length ≤ 1000000) (hb : (dg b).length ≤ 1000000) : Ev (fun k => spec_Compare.f k (dg a) (dg b)) (cmp a b) := by
  by_cases hl : (dg a).length = (dg b).length
  · obtain ⟨x, hx⟩ : ∃ x, x = dg a := ⟨_, rfl⟩
    obtain ⟨y, hy⟩ : ∃ y, y = dg b := ⟨_, rfl⟩
    have dx : Dg x := hx ▸ Dg_dg a
    have dy : Dg y := hy ▸ Dg_dg b
    have vx : nv x = a := hx ▸ nv_dg a
    have vy : nv y = b := hy ▸ nv_dg b
    rw [← hx, ← hy] at hl ⊢
    rw [← hx] at ha
    have main : ∀ n : Nat, n ≤ x.length → Ev (fun k => spec_Compare.l0 k x y ((n : Int) - 1)) (cmp (nv (x.take n)) (nv (y.take n))) := by
      intro n
      induction n with
      | zero =>
        intro _
        refine Ev.succ (g := fun _ => some 0) (fun k => ?_) (by rw [List.take_zero, List.take_zero, cmp_eq rfl]; exact Ev.pure _)
        rw [spec_Compare.l0, if_neg (by omega)]
      | succ n ih =>
        intro hn
        have rx := dx _ (rd_mem x n (by omega))
        have ry := dy _ (rd_mem y n (by omega))
        have lx := nv_lt (dx.take n)
        have ly := nv_lt (dy.take n)
        rw [List.length_take, Nat.min_eq_left (by omega)] at lx ly
        have ex : nv (x.take (n + 1)) = nv (x.take n) + 4294967296 ^ n * (rd x (n : Int)).toNat := by
          rw [take_snoc x n (by omega), nv_append, List.length_take, Nat.min_eq_left (by omega)]; simp [nv]
        have ey : nv (y.take (n + 1)) = nv (y.take n) + 4294967296 ^ n * (rd y (n : Int)).toNat := by
          rw [take_snoc y n (by omega), nv_append, List.length_take, Nat.min_eq_left (by omega)]; simp [nv]
        have e0 : ((n + 1 : Nat) : Int) - 1 = (n : Int) := by omega
        rw [e0, ex, ey]
        generalize 4294967296 ^ n = P at *
        by_cases h1 : rd x (n : Int) < rd y (n : Int)
        · have hm : P * ((rd x (n : Int)).toNat + 1) ≤ P * (rd y (n : Int)).toNat := Nat.mul_le_mul_left _ (by omega)
          rw [Nat.mul_add, Nat.mul_one] at hm
          rw [cmp_lt (by omega)]
          refine Ev.succ (g := fun _ => some (-1)) (fun k => ?_) (Ev.pure _)
          rw [spec_Compare.l0, if_pos (by omega), if_pos (by omega), if_pos (by omega), if_pos (by omega), if_pos h1]
        · by_cases h2 : rd x (n : Int) > rd y (n : Int)
          · have hm : P * ((rd y (n : Int)).toNat + 1) ≤ P * (rd x (n : Int)).toNat := Nat.mul_le_mul_left _ (by omega)
            rw [Nat.mul_add, Nat.mul_one] at hm
            rw [cmp_gt (by omega)]
            refine Ev.succ (g := fun _ => some 1) (fun k => ?_) (Ev.pure _)
            rw [spec_Compare.l0, if_pos (by omega), if_pos (by omega), if_pos (by omega), if_pos (by omega), if_neg h1, if_pos h2]
          · have he : rd x (n : Int) = rd y (n : Int) := by omega
            rw [he]
            have hc : cmp (nv (x.take n) + P * (rd y (n : Int)).toNat) (nv (y.take n) + P * (rd y (n : Int)).toNat) = cmp (nv (x.take n)) (nv (y.take n)) := by
              generalize P * (rd y (n : Int)).toNat = Q
              unfold cmp
              by_cases g1 : nv (x.take n) < nv (y.take n)
              · rw [if_pos (by omega), if_pos g1]
              · by_cases g2 : nv (x.take n) = nv (y.take n)
                · rw [if_neg (by omega), if_pos (by omega), if_neg g1, if_pos g2]
                · rw [if_neg (by omega), if_neg (by omega), if_neg g1, if_neg g2]
            rw [hc]
            refine Ev.succ (fun k => ?_) (ih (by omega))
            have ew : wrap64 ((n : Int) - 1) = (n : Int) - 1 := by unfold wrap64; omega
            rw [spec_Compare.l0, if_pos (by omega), if_pos (by omega), if_pos (by omega), if_pos (by omega), if_neg h1, if_neg h2, ew]
    have f := main x.length (Nat.le_refl _)
    rw [List.take_length, hl, List.take_length, vx, vy] at f
    refine Ev.congr f (fun k => ?_)
    rw [spec_Compare.f, if_pos (by omega)]
    have ew : wrap64 ((x.length : Int) - 1) = (y.length : Int) - 1 := by unfold wrap64; omega
    rw [ew]
  · by_cases h1 : (dg a).length < (dg b).length
    · rw [cmp_lt (Nat.lt_of_not_le fun h => by have := dg_mono h; omega)]
      refine Ev.congr (Ev.pure _) (fun k => ?_)
      rw [spec_Compare.f, if_neg (by omega), if_pos (by omega)]
    · rw [cmp_gt (Nat.lt_of_not_le fun h => by have := dg_mono h; omega)]
      refine Ev.congr (Ev.pure _) (fun k => ?_)
      rw [spec_Compare.f, if_neg (by omega), if_neg (by omega)]

theorem drop_nv (x : List Int) (i : Nat) (h : Dg x) : (i < x.length → ∃ d : Nat, rd x (i : Int) = (d : Int) ∧ d < 4294967296 ∧ nv (x.drop i) = d + 4294967296 * nv (x.drop (i + 1))) ∧ (x.length ≤ i → nv (x.drop i) = 0 ∧ nv (x.drop (i + 1)) = 0) := by
  constructor
  · intro hi
    have hr := h _ (rd_mem x i hi)
    refine ⟨(rd x (i : Int)).toNat, by omega, by omega, ?_⟩
    have hdrop : x.drop i = rd x (i : Int) :: x.drop (i + 1) := by
      rw [List.drop_eq_getElem_cons hi]
      congr 1
      simp [rd, List.getD, List.getElem?_eq_getElem hi]
    rw [hdrop, nv]
  · intro hi
    rw [List.drop_eq_nil_of_le hi, List.drop_eq_nil_of_le (by omega)]
    exact ⟨rfl, rfl⟩

set_option maxHeartbeats 800000 in
theorem Add_ev (x y : List Int) (hx : Dg x) (hy : Dg y) (lx : x.length ≤ 1000000) (ly : y.length ≤ 1000000) : Ev (fun k => spec_Add.f k x y) (dg (nv x + nv y)) := by
  have hu : ∀ x : Int, 0 ≤ x → x < 18446744073709551616 → IntKind.u64.wrap x = x := fun x h0 h1 => by rw [IntKind.wrap_u64]; omega
  have fin : ∀ (out : List Int) (i : Nat), x.length ≤ i → y.length ≤ i → i ≤ 1000010 → Dg out → out.length = i →
      Ev (fun k => spec_Add.l0 k x y out 0 (i : Int)) (dg (nv out)) := by
    intro out i hi hi' hi2 ho hlo
    refine Ev.succ (g := fun k => spec_Add.j1 k x y out 0 (i : Int) false) (fun k => ?_) ?_
    · rw [spec_Add.l0, if_neg (by omega), if_neg (by omega)]; rfl
    · refine Ev.succ (g := fun k => (spec_trim.f k out).bind fun t => some t) (fun k => ?_) ?_
      · rw [spec_Add.j1, if_neg (by decide)]
      · exact Ev.bind (trim_ev ho (by omega)) (Ev.pure _)
  have main : ∀ (n : Nat) (i c : Nat) (out : List Int), x.length ≤ i + n → y.length ≤ i + n → i + n ≤ 1000000 → Dg out → out.length = i → c ≤ 1 →
      Ev (fun k => spec_Add.l0 k x y out (c : Int) (i : Int)) (dg (nv out + 4294967296 ^ i * (nv (x.drop i) + nv (y.drop i) + c))) := by
    intro n
    induction n with
    | zero =>
      intro i c out hn hn' hi ho hlo hc
      rw [((drop_nv x i hx).2 (by omega)).1, ((drop_nv y i hy).2 (by omega)).1]
      by_cases hc0 : c = 0
      · subst hc0
        have := fin out i (by omega) (by omega) (by omega) ho hlo
        simpa using this
      · have hc1 : c = 1 := by omega
        subst hc1
        refine Ev.succ (g := fun k => spec_Add.j1 k x y out ((1 : Nat) : Int) (i : Int) true) (fun k => ?_) ?_
        · rw [spec_Add.l0, if_neg (by omega), if_neg (by omega)]
          rfl
        · have f := fin (out ++ [1]) (i + 1) (by omega) (by omega) (by omega) (ho.append (Dg.cons (by omega) (by omega) Dg.nil)) (by simp [hlo])
          rw [nv_append, hlo] at f
          refine Ev.succ (fun k => ?_) (show Ev _ (dg (nv out + 4294967296 ^ i * (0 + 0 + 1))) from (by simpa [nv] using f))
          rw [spec_Add.j1, if_pos rfl, if_neg (by omega), if_neg (by omega), if_pos (by omega)]
          have e3 : wrap64 ((i : Int) + 1) = ((i + 1 : Nat) : Int) := by unfold wrap64; omega
          rw [e3]
          rfl
    | succ n ih =>
      intro i c out hn hn' hi ho hlo hc
      have e3 : wrap64 ((i : Int) + 1) = ((i + 1 : Nat) : Int) := by unfold wrap64; omega
      -- one round with the sum t
      have rnd : ∀ (t : Nat) (A B : Nat), t ≤ 8589934591 → nv (x.drop i) + nv (y.drop i) + c = t + 4294967296 * (nv (x.drop (i + 1)) + nv (y.drop (i + 1))) →
          Ev (fun k => spec_Add.l0 k x y (out ++ [(t : Int) % 4294967296]) ((t : Int) / 4294967296) (((i + 1 : Nat) : Int))) (dg (nv out + 4294967296 ^ i * (nv (x.drop i) + nv (y.drop i) + c))) := by
        intro t _ _ ht he
        have f := ih (i + 1) (t / 4294967296) (out ++ [((t % 4294967296 : Nat) : Int)]) (by omega) (by omega) (by omega) (ho.append (Dg.cons (by omega) (by omega) Dg.nil)) (by simp [hlo]) (by omega)
        have ev : nv (out ++ [((t % 4294967296 : Nat) : Int)]) + 4294967296 ^ (i + 1) * (nv (x.drop (i + 1)) + nv (y.drop (i + 1)) + t / 4294967296) = nv out + 4294967296 ^ i * (nv (x.drop i) + nv (y.drop i) + c) := by
          rw [nv_append, hlo, he, Nat.pow_succ]
          simp only [nv, Int.toNat_natCast]
          have e := Nat.div_add_mod t 4294967296
          generalize 4294967296 ^ i = P
          have h2 : P * (t % 4294967296 + 4294967296 * (t / 4294967296)) = P * t := by congr 1; omega
          rw [Nat.mul_add] at h2 ⊢
          grind
        rw [ev] at f
        exact f
      by_cases h1 : i < x.length
      · obtain ⟨d, hd, hd2, hv⟩ := (drop_nv x i hx).1 h1
        by_cases h2 : i < y.length
        · obtain ⟨d', hd', hd2', hv'⟩ := (drop_nv y i hy).1 h2
          refine Ev.succ (g := fun k => spec_Add.j1 k x y out (c : Int) (i : Int) true) (fun k => ?_) (Ev.succ (fun k => ?_) (rnd (c + d + d') 0 0 (by omega) (by omega)))
          · rw [spec_Add.l0, if_pos (by omega)]
          · rw [spec_Add.j1, if_pos rfl, if_pos (by omega), if_pos (by omega), if_pos (by omega), if_pos (by omega), hd, hd', hu (d : Int) (by omega) (by omega), hu (d' : Int) (by omega) (by omega), hu ((c : Int) + (d : Int)) (by omega) (by omega), hu _ (by omega) (by omega), e3]
            rfl
        · obtain ⟨hv', hv2'⟩ := (drop_nv y i hy).2 (by omega)
          refine Ev.succ (g := fun k => spec_Add.j1 k x y out (c : Int) (i : Int) true) (fun k => ?_) (Ev.succ (fun k => ?_) (rnd (c + d) 0 0 (by omega) (by omega)))
          · rw [spec_Add.l0, if_pos (by omega)]
          · rw [spec_Add.j1, if_pos rfl, if_pos (by omega), if_pos (by omega), if_neg (by omega), if_pos (by omega), hd, hu (d : Int) (by omega) (by omega), hu _ (by omega) (by omega), e3]
            rfl
      · obtain ⟨hv, hv2⟩ := (drop_nv x i hx).2 (by omega)
        by_cases h2 : i < y.length
        · obtain ⟨d', hd', hd2', hv'⟩ := (drop_nv y i hy).1 h2
          refine Ev.succ (g := fun k => spec_Add.j1 k x y out (c : Int) (i : Int) true) (fun k => ?_) (Ev.succ (fun k => ?_) (rnd (c + d') 0 0 (by omega) (by omega)))
          · rw [spec_Add.l0, if_neg (by omega), if_pos (by omega)]
          · rw [spec_Add.j1, if_pos rfl, if_neg (by omega), if_pos (by omega), if_pos (by omega), if_pos (by omega), hd', hu (d' : Int) (by omega) (by omega), hu _ (by omega) (by omega), e3]
            rfl
        · obtain ⟨hv', hv2'⟩ := (drop_nv y i hy).2 (by omega)
          by_cases hc0 : c = 0
          · subst hc0
            have := fin out i (by omega) (by omega) (by omega) ho hlo
            simpa [hv, hv'] using this
          · refine Ev.succ (g := fun k => spec_Add.j1 k x y out (c : Int) (i : Int) true) (fun k => ?_) (Ev.succ (fun k => ?_) (rnd c 0 0 (by omega) (by omega)))
            · rw [spec_Add.l0, if_neg (by omega), if_neg (by omega), show decide ((c : Int) > 0) = true by rw [decide_eq_true_iff]; omega]
            · rw [spec_Add.j1, if_pos rfl, if_neg (by omega), if_neg (by omega), if_pos (by omega), e3]
  have f := main (max x.length y.length) 0 0 [] (by omega) (by omega) (by omega) Dg.nil rfl (by omega)
  have f' : Ev (fun k => spec_Add.l0 k x y [] 0 0) (dg (nv x + nv y)) := by simpa [nv] using f
  exact f'

theorem NatOf_ev (n : Nat) (hn : n < 18446744073709551616) : Ev (fun k => spec_NatOf.f k (n : Int)) (dg n) := by
  have e : dg n = dg (nv [((n : Int)) % 4294967296, ((n : Int) / 4294967296) % 4294967296]) := by
    congr 1
    simp only [nv]
    omega
  rw [e]
  exact Ev.bind (trim_ev (Dg.cons (by omega) (by omega) (Dg.cons (by omega) (by omega) Dg.nil)) (by simp)) (Ev.pure _)

end Go.Proofs.YtiopeaponffmdaaDoor.PAll
-- YtiopeaponffmdaaDoorNb2
namespace Go.Proofs.YtiopeaponffmdaaDoor.PAll
open Go.RowKit Go.Proofs.YtiopeaponffmdaaDoorW.PrintWords Go.Proofs.YtiopeaponffmdaaDoorW.PrintLast Go.Proofs.YtiopeaponffmdaaDoorW.PrintMore

/-- the decimal digits of a number, as bytes -/
def dec (n : Nat) : List Int := if h : n < 10 then [((48 + n : Nat) : Int)] else dec (n / 10) ++ [((48 + n % 10 : Nat) : Int)]
termination_by n
decreasing_by omega
theorem dec_lt {n : Nat} (h : n < 10) : dec n = [((48 + n : Nat) : Int)] := by rw [dec, dif_pos h]
theorem dec_ge {n : Nat} (h : 10 ≤ n) : dec n = dec (n / 10) ++ [((48 + n % 10 : Nat) : Int)] := by rw [dec, dif_neg (by omega)]
theorem dec_digit (n : Nat) : ∀ b ∈ dec n, 48 ≤ b ∧ b ≤ 57 := by
  induction n using Nat.strongRecOn with
  | ind n ih =>
    intro b hb
    by_cases h : n < 10
    · rw [dec_lt h] at hb
      simp only [List.mem_singleton] at hb
      omega
    · rw [dec_ge (by omega)] at hb
      rcases List.mem_append.1 hb with hb | hb
      · exact ih _ (by omega) b hb
      · simp only [List.mem_singleton] at hb
        omega
theorem dec_length_pos (n : Nat) : 1 ≤ (dec n).length := by
  by_cases h : n < 10
  · rw [dec_lt h]; simp
  · rw [dec_ge (by omega)]; simp
theorem dec_length_le (d : Nat) : ∀ n, n < 10 ^ (d + 1) → (dec n).length ≤ d + 1 := by
  induction d with
  | zero => intro n h; rw [dec_lt (by simpa using h)]; simp
  | succ d ih =>
    intro n h
    by_cases h1 : n < 10
    · rw [dec_lt h1]; simp
    · rw [dec_ge (by omega), List.length_append]
      have := ih (n / 10) (by rw [Nat.pow_succ] at h; omega)
      simp only [List.length_singleton]
      omega
theorem dec_lower (n : Nat) (h0 : 0 < n) : 10 ^ ((dec n).length - 1) ≤ n := by
  induction n using Nat.strongRecOn with
  | ind n ih =>
    by_cases h1 : n < 10
    · rw [dec_lt h1]; simp only [List.length_cons, List.length_nil]; omega
    · rw [dec_ge (by omega), List.length_append]
      have h2 := ih (n / 10) (by omega) (by omega)
      have h3 := dec_length_pos (n / 10)
      obtain ⟨m, hm⟩ : ∃ m, (dec (n / 10)).length = m + 1 := ⟨_, (Nat.sub_add_cancel h3).symm⟩
      rw [hm] at h2 ⊢
      simp only [List.length_singleton, Nat.add_sub_cancel] at h2 ⊢
      rw [Nat.pow_succ]
      omega
theorem dec_upper (n : Nat) : n < 10 ^ (dec n).length := by
  induction n using Nat.strongRecOn with
  | ind n ih =>
    by_cases h1 : n < 10
    · rw [dec_lt h1]; simpa using h1
    · rw [dec_ge (by omega), List.length_append]
      have h2 := ih (n / 10) (by omega)
      simp only [List.length_singleton]
      rw [Nat.pow_succ]
      omega

/-- what digits say -/
def dvl (l : List Int) : Nat := l.foldl (fun v b => v * 10 + (b - 48).toNat) 0
theorem dvl_snoc (l : List Int) (b : Int) : dvl (l ++ [b]) = dvl l * 10 + (b - 48).toNat := by simp [dvl]
theorem dvl_dec (n : Nat) : dvl (dec n) = n := by
  induction n using Nat.strongRecOn with
  | ind n ih =>
    by_cases h : n < 10
    · rw [dec_lt h]; simp only [dvl, List.foldl_cons, List.foldl_nil]; omega
    · rw [dec_ge (by omega), dvl_snoc, ih _ (by omega)]; omega
theorem dvl_take (l : List Int) (h : ∀ b ∈ l, 48 ≤ b ∧ b ≤ 57) : ∀ i, i ≤ l.length → dvl (l.take i) < 10 ^ i := by
  intro i
  induction i with
  | zero => intro _; rw [List.take_zero]; decide
  | succ i ih =>
    intro hi
    have h1 := ih (by omega)
    have h2 := h _ (rd_mem l i (by omega))
    rw [take_snoc l i (by omega), dvl_snoc, Nat.pow_succ]
    omega
theorem dvl_lt (l : List Int) (h : ∀ b ∈ l, 48 ≤ b ∧ b ≤ 57) : dvl l < 10 ^ l.length := by
  have := dvl_take l h l.length (Nat.le_refl _)
  rwa [List.take_length] at this
theorem pow_len {n m : Nat} (h : n < 10 ^ m) : (dg n).length ≤ m := by
  refine dg_length (Nat.lt_of_lt_of_le h ?_)
  exact Nat.pow_le_pow_left (by decide) m

theorem bytesOf_strOfNums {l : List Int} (h : ∀ x ∈ l, 0 ≤ x ∧ x < 256) : bytesOf (strOfNums l) = l := by
  rw [bytesOf, strOfNums_data, List.map_map]
  conv => rhs; rw [← List.map_id l]
  refine List.map_congr_left fun x hx => ?_
  have := h x hx
  simp only [Function.comp_apply, id_eq, UInt8.toNat_ofNat']
  omega
theorem bt_dec_strOfNums {l : List Int} (h : ∀ x ∈ l, 48 ≤ x ∧ x ≤ 57) : bytesOf (strOfNums l) = l := bytesOf_strOfNums fun x hx => by have := h x hx; omega

theorem wrapu (x : Int) (h0 : 0 ≤ x) (h1 : x < 18446744073709551616) : IntKind.u64.wrap x = x := by rw [IntKind.wrap_u64]; omega

theorem decimals_ev (n : Nat) (hn : n < 18446744073709551616) : Ev (fun k => spec_decimals.f k (n : Int)) (strOfNums (dec n)) := by
  have step : ∀ n : Nat, n < 18446744073709551616 → (IntKind.u64.wrap (48 + (Int.tmod (n : Int) 10))) % 256 = ((48 + n % 10 : Nat) : Int) ∧ IntKind.u64.wrap (Int.tdiv (n : Int) 10) = ((n / 10 : Nat) : Int) := by
    intro n hn
    rw [show Int.tmod (n : Int) 10 = ((n % 10 : Nat) : Int) from rfl, show Int.tdiv (n : Int) 10 = ((n / 10 : Nat) : Int) from rfl, wrapu _ (by omega) (by omega), wrapu _ (by omega) (by omega)]
    omega
  have stop : ∀ acc : List Int, acc ≠ [] → Ev (fun k => spec_decimals.l0 k ((0 : Nat) : Int) acc) (strOfNums acc) := by
    intro acc h3
    refine Ev.succ (g := fun _ => some (strOfNums acc)) (fun k => ?_) (Ev.pure _)
    have hl : acc.length ≠ 0 := by simpa using h3
    rw [spec_decimals.l0, if_neg (by omega), if_neg (by omega)]
  have eq : ∀ n acc, n ≠ 0 → (if n / 10 = 0 then [] else dec (n / 10)) ++ (((48 + n % 10 : Nat) : Int) :: acc) = dec n ++ acc := by
    intro n acc h0
    by_cases h : n < 10
    · rw [if_pos (by omega), dec_lt h, Nat.mod_eq_of_lt h]; rfl
    · rw [if_neg (by omega), dec_ge (n := n) (by omega)]; simp
  have main : ∀ (d n : Nat) (acc : List Int), n < 10 ^ d → n < 18446744073709551616 → acc ≠ [] → acc.length + d ≤ 1000 →
      Ev (fun k => spec_decimals.l0 k (n : Int) acc) (strOfNums ((if n = 0 then [] else dec n) ++ acc)) := by
    intro d
    induction d with
    | zero =>
      intro n acc h1 h2 h3 h4
      obtain rfl : n = 0 := by rw [Nat.pow_zero] at h1; omega
      rw [if_pos rfl, List.nil_append]
      exact stop acc h3
    | succ d ih =>
      intro n acc h1 h2 h3 h4
      by_cases h0 : n = 0
      · subst h0
        rw [if_pos rfl, List.nil_append]
        exact stop acc h3
      · have f := ih (n / 10) (((48 + n % 10 : Nat) : Int) :: acc) (by rw [Nat.pow_succ] at h1; omega) (by omega) (by simp) (by simp only [List.length_cons]; omega)
        rw [eq n acc h0] at f
        rw [if_neg h0]
        refine Ev.succ (fun k => ?_) f
        rw [spec_decimals.l0, if_pos (by omega), (step n h2).1, (step n h2).2]
        simp only [Option.bind_some]
        rw [if_pos (by simp only [List.length_cons, List.length_nil]; omega)]
        rfl
  have f := main 20 (n / 10) [((48 + n % 10 : Nat) : Int)] (by omega) (by omega) (by simp) (by simp)
  have e : (if n / 10 = 0 then [] else dec (n / 10)) ++ [((48 + n % 10 : Nat) : Int)] = dec n := by
    by_cases h : n < 10
    · rw [if_pos (by omega), dec_lt h, Nat.mod_eq_of_lt h]; rfl
    · rw [if_neg (by omega), ← dec_ge (n := n) (by omega)]
  rw [e] at f
  refine Ev.succ (fun k => ?_) f
  show spec_decimals.l0 (k + 1) (n : Int) [] = _
  rw [spec_decimals.l0, (step n hn).1, (step n hn).2]
  rw [Option.bind_some, if_pos (c := (([] : List Int).length : Int) = 0) rfl]
  have h2 : ([((48 + n % 10 : Nat) : Int)] : List Int).length + ([] : List Int).length < 140737488355328 := by simp
  rw [if_pos h2, List.append_nil, ite_self]

theorem dg_mul_len (a b : Nat) : (dg (a * b)).length ≤ (dg a).length + (dg b).length := by
  refine dg_length ?_
  rw [Nat.pow_add]
  exact Nat.mul_lt_mul'' (lt_dg_length a) (lt_dg_length b)
theorem dg_pow_len (c m : Nat) (hc : c ≤ 4294967296) : (dg (c ^ m)).length ≤ m + 1 := by
  refine dg_length ?_
  calc c ^ m ≤ 4294967296 ^ m := Nat.pow_le_pow_left hc m
    _ < 4294967296 ^ (m + 1) := Nat.pow_lt_pow_right (by decide) (by omega)
theorem cmp_mul (x y c : Nat) (hc : 0 < c) : cmp (x * c) (y * c) = cmp x y := by
  rcases Nat.lt_trichotomy x y with h | h | h
  · rw [cmp_lt h, cmp_lt (Nat.mul_lt_mul_of_pos_right h hc)]
  · rw [h, cmp_eq rfl, cmp_eq rfl]
  · rw [cmp_gt h, cmp_gt (Nat.mul_lt_mul_of_pos_right h hc)]
theorem cmp_le_zero (x y : Nat) : cmp x y ≤ 0 ↔ x ≤ y := by
  rcases Nat.lt_trichotomy x y with h | h | h
  · rw [cmp_lt h]; omega
  · rw [cmp_eq h]; omega
  · rw [cmp_gt h]; omega
theorem cmp_neg (x y : Nat) : cmp x y < 0 ↔ x < y := by
  rcases Nat.lt_trichotomy x y with h | h | h
  · rw [cmp_lt h]; omega
  · rw [cmp_eq h]; omega
  · rw [cmp_gt h]; omega
theorem cmp_zero (x y : Nat) : cmp x y = 0 ↔ x = y := by
  rcases Nat.lt_trichotomy x y with h | h | h
  · rw [cmp_lt h]; omega
  · rw [cmp_eq h]; omega
  · rw [cmp_gt h]; omega

/-- the least place of a form -/
def lst (f : Nat) : Nat := if f = 52 then 1074 else 149
theorem lst_le (f : Nat) : lst f ≤ 1074 := by unfold lst; split <;> omega
/-- a decimal number against halves of units -/
def agn (f : Nat) (D : Nat) (p : Int) (H : Nat) : Int := cmp (D * 2 ^ (lst f + 1) * 10 ^ p.toNat) (H * 10 ^ (-p).toNat)

theorem least_ev (f : Nat) (most : Int) : spec_Form_least.f (f : Int) most = some ((lst f : Nat) : Int) := by
  unfold spec_Form_least.f lst
  by_cases h : f = 52
  · rw [if_pos (by omega), if_pos h]; rfl
  · rw [if_neg (by omega), if_neg h]; rfl
theorem w64a (n : Nat) (h : n ≤ 100000) : wrap64 ((n : Int) + 1) = ((n + 1 : Nat) : Int) := by unfold wrap64; omega
theorem w64m (n : Nat) (h : n ≤ 100000) : wrap64 (-(-(n : Int))) = (n : Int) := by unfold wrap64; omega
theorem shifted_len (f D : Nat) (h : (dg D).length ≤ 1001) : (dg (D * 2 ^ (lst f + 1))).length ≤ 3100 := by
  have h1 := dg_mul_len D (2 ^ (lst f + 1))
  have h2 := dg_pow_len 2 (lst f + 1) (by decide)
  have hL := lst_le f
  omega
theorem tens_len (X q m : Nat) (h : (dg X).length ≤ m) : (dg (X * 10 ^ q)).length ≤ m + q + 1 := by
  have h1 := dg_mul_len X (10 ^ q)
  have h2 := dg_pow_len 10 q (by decide)
  omega
end Go.Proofs.YtiopeaponffmdaaDoor.PAll
-- YtiopeaponffmdaaDoorNc
namespace Go.Proofs.YtiopeaponffmdaaDoor.PAll
open Go.RowKit Go.Proofs.YtiopeaponffmdaaDoorW.PrintWords Go.Proofs.YtiopeaponffmdaaDoorW.PrintLast Go.Proofs.YtiopeaponffmdaaDoorW.PrintMore

theorem against_pos (f : Nat) (most : Int) (q : Nat) (s : ByteArray) (D H : Nat) (hq : q ≤ 3000) (hD : (dg D).length ≤ 1001) (hH : (dg H).length ≤ 1000) :
    Ev (fun k => spec_Form_against.l0 k (dg H) (dg D) (s.size : Int) (s.size : Int) (f : Int) most s (q : Int)) (agn f D (q : Int) H) := by
  have hL := lst_le f
  have hS := Shifted_ev (dg D) (lst f + 1) (Dg_dg D) (by omega) (by omega)
  rw [nv_dg] at hS
  have hSl := shifted_len f D hD
  have hTl := tens_len (D * 2 ^ (lst f + 1)) q 3100 hSl
  have hT := Tens_ev (dg (D * 2 ^ (lst f + 1))) q (Dg_dg _) (by omega)
  have hC := Compare_ev (D * 2 ^ (lst f + 1) * 10 ^ q) H (by omega) (by omega)
  have e1 : (if q = 0 then dg (D * 2 ^ (lst f + 1)) else dg (nv (dg (D * 2 ^ (lst f + 1))) * 10 ^ q)) = dg (D * 2 ^ (lst f + 1) * 10 ^ q) := by
    rw [nv_dg]
    split
    · rename_i h0; subst h0; rw [Nat.pow_zero, Nat.mul_one]
    · rfl
  rw [e1] at hT
  have ea : agn f D (q : Int) H = cmp (D * 2 ^ (lst f + 1) * 10 ^ q) H := by
    unfold agn
    rw [Int.toNat_natCast, show (-(q : Int)).toNat = 0 by omega, Nat.pow_zero, Nat.mul_one]
  rw [ea]
  have g1 : ¬ (s.size : Int) < (s.size : Int) := by omega
  have g2 : (q : Int) ≥ 0 := Int.natCast_nonneg q
  refine Ev.succ (g := fun k => (spec_Shifted.f k (dg D) ((lst f + 1 : Nat) : Int)).bind fun t => (spec_Tens.f k t (q : Int)).bind fun u => (spec_Compare.f k u (dg H)).bind fun v => some v) (fun k => ?_) (Ev.bind hS (Ev.bind hT (Ev.bind hC (Ev.pure _))))
  rw [spec_Form_against.l0, if_neg g1, least_ev, Option.bind_some, w64a _ (Nat.le_trans hL (by decide))]
  simp only [if_pos g2]
theorem against_neg (f : Nat) (most : Int) (q : Nat) (s : ByteArray) (D H : Nat) (hq : q ≤ 3000) (hq1 : 1 ≤ q) (hD : (dg D).length ≤ 1001) (hH : (dg H).length ≤ 1000) :
    Ev (fun k => spec_Form_against.l0 k (dg H) (dg D) (s.size : Int) (s.size : Int) (f : Int) most s (-(q : Int))) (agn f D (-(q : Int)) H) := by
  have hL := lst_le f
  have hS := Shifted_ev (dg D) (lst f + 1) (Dg_dg D) (by omega) (by omega)
  rw [nv_dg] at hS
  have hSl := shifted_len f D hD
  have hTl := tens_len H q 1000 hH
  have hT := Tens_ev (dg H) q (Dg_dg _) (by omega)
  have hC := Compare_ev (D * 2 ^ (lst f + 1)) (H * 10 ^ q) (by omega) (by omega)
  rw [if_neg (by omega), nv_dg] at hT
  have ea : agn f D (-(q : Int)) H = cmp (D * 2 ^ (lst f + 1)) (H * 10 ^ q) := by
    unfold agn
    rw [show (-(q : Int)).toNat = 0 by omega, show (-(-(q : Int))).toNat = q by omega, Nat.pow_zero, Nat.mul_one]
  rw [ea]
  have g1 : ¬ (s.size : Int) < (s.size : Int) := by omega
  have g2 : ¬ (-(q : Int)) ≥ 0 := by omega
  refine Ev.succ (g := fun k => (spec_Shifted.f k (dg D) ((lst f + 1 : Nat) : Int)).bind fun t => (spec_Tens.f k (dg H) (q : Int)).bind fun u => (spec_Compare.f k t u).bind fun v => some v) (fun k => ?_) (Ev.bind hS (Ev.bind hT (Ev.bind hC (Ev.pure _))))
  rw [spec_Form_against.l0, if_neg g1, least_ev, Option.bind_some, w64a _ (Nat.le_trans hL (by decide))]
  simp only [if_neg g2, w64m q (Nat.le_trans hq (by decide))]
theorem against_step (f : Nat) (most p : Int) (s : ByteArray) (H i : Nat) (R : Int) (hs : s.size ≤ 1000) (hd : ∀ b ∈ bytesOf s, 48 ≤ b ∧ b ≤ 57) (hi : i < s.size)
    (h : Ev (fun k => spec_Form_against.l0 k (dg H) (dg (dvl ((bytesOf s).take (i + 1)))) (s.size : Int) ((i + 1 : Nat) : Int) (f : Int) most s p) R) :
    Ev (fun k => spec_Form_against.l0 k (dg H) (dg (dvl ((bytesOf s).take i))) (s.size : Int) (i : Int) (f : Int) most s p) R := by
  have hl : (bytesOf s).length = s.size := bytesOf_length s
  have hil : i < (bytesOf s).length := by rw [hl]; exact hi
  have hr := hd _ (rd_mem (bytesOf s) i hil)
  rw [take_snoc (bytesOf s) i hil, dvl_snoc, rd_bytesOf] at h
  rw [rd_bytesOf] at hr
  have hDl : (dg (dvl ((bytesOf s).take i))).length ≤ 1000000 := Nat.le_trans (pow_len (dvl_take (bytesOf s) hd i (Nat.le_of_lt hil))) (Nat.le_trans (Nat.le_of_lt hi) (Nat.le_trans hs (by decide)))
  generalize dvl ((bytesOf s).take i) = D at *
  obtain ⟨b, hb⟩ : ∃ b : Nat, bt s (i : Int) = ((b + 48 : Nat) : Int) := ⟨(bt s (i : Int) - 48).toNat, by omega⟩
  have hb2 : b ≤ 9 := by omega
  have e0 : (bt s (i : Int) - 48).toNat = b := by omega
  have e1 : (bt s (i : Int) - 48) % 256 = (b : Int) := by omega
  rw [e0] at h
  have hT := Times_ev (dg D) 10 b (Dg_dg _) hDl (by decide) (Nat.lt_of_le_of_lt hb2 (by decide))
  rw [nv_dg] at hT
  have g1 : (i : Int) < (s.size : Int) := Int.ofNat_lt.2 hi
  have g2 : (0 : Int) ≤ (i : Int) := Int.natCast_nonneg i
  refine Ev.succ (g := fun k => (spec_Times.f k (dg D) ((10 : Nat) : Int) (b : Int)).bind fun t => spec_Form_against.l0 k (dg H) t (s.size : Int) ((i + 1 : Nat) : Int) (f : Int) most s p) (fun k => ?_) (Ev.bind hT h)
  rw [spec_Form_against.l0, if_pos g1, if_pos g2, if_pos g1, e1, w64a i (Nat.le_trans (Nat.le_of_lt hi) (Nat.le_trans hs (by decide)))]
  rfl
theorem against_ev (f : Nat) (most p : Int) (s : ByteArray) (H : Nat) (hs : s.size ≤ 1000) (hd : ∀ b ∈ bytesOf s, 48 ≤ b ∧ b ≤ 57) (hp0 : -3000 ≤ p) (hp1 : p ≤ 3000) (hH : (dg H).length ≤ 1000) :
    Ev (fun k => spec_Form_against.f k (f : Int) most s p (dg H)) (agn f (dvl (bytesOf s)) p H) := by
  have hl : (bytesOf s).length = s.size := bytesOf_length s
  have main : ∀ n i : Nat, s.size = i + n → Ev (fun k => spec_Form_against.l0 k (dg H) (dg (dvl ((bytesOf s).take i))) (s.size : Int) (i : Int) (f : Int) most s p) (agn f (dvl (bytesOf s)) p H) := by
    intro n
    induction n with
    | zero =>
      intro i hi
      have hi' : i = s.size := by omega
      subst hi'
      rw [List.take_of_length_le (Nat.le_of_eq hl)]
      have h1 := dvl_lt (bytesOf s) hd
      rw [hl] at h1
      have hDl : (dg (dvl (bytesOf s))).length ≤ 1001 := Nat.le_trans (pow_len h1) (Nat.le_trans hs (by decide))
      by_cases hp : 0 ≤ p
      · obtain ⟨q, rfl⟩ : ∃ q : Nat, p = (q : Int) := ⟨p.toNat, by omega⟩
        exact against_pos f most q s _ H (by omega) hDl hH
      · obtain ⟨q, rfl⟩ : ∃ q : Nat, p = -(q : Int) := ⟨(-p).toNat, by omega⟩
        exact against_neg f most q s _ H (by omega) (by omega) hDl hH
    | succ n ih =>
      intro i hi
      exact against_step f most p s H i _ hs hd (by omega) (ih (i + 1) (by omega))
  have h := main s.size 0 (by omega)
  rw [List.take_zero] at h
  have e : dg (dvl []) = [] := dg_zero
  rw [e] at h
  exact Ev.congr h (fun k => rfl)

/-- the number with a code, in units of the least place -/
def T2 (f code : Nat) : Nat := if code / 2 ^ f = 0 then code % 2 ^ f else (code % 2 ^ f + 2 ^ f) * 2 ^ (code / 2 ^ f - 1)

theorem shl_two (f : Nat) (hf : f = 52 ∨ f = 23) : shl .u64 1 (f : Int) = ((2 ^ f : Nat) : Int) := by rcases hf with rfl | rfl <;> decide
theorem shr_two (f code : Nat) (hf : f = 52 ∨ f = 23) : shr .u64 (code : Int) (f : Int) = ((code / 2 ^ f : Nat) : Int) := by
  have h : f ≤ IntKind.u64.bits := by rcases hf with rfl | rfl <;> decide
  unfold shr
  rw [Int.toNat_natCast, Nat.min_eq_left h, Int.natCast_ediv]
  simp
theorem wrap_pred (P : Nat) (h : 1 ≤ P) (h2 : P ≤ 4503599627370496) : IntKind.u64.wrap ((P : Int) - 1) = ((P - 1 : Nat) : Int) := by
  rw [wrapu _ (by omega) (by omega)]; omega
theorem and_low (code f : Nat) (hc : code < 18446744073709551616) (h : 2 ^ f ≤ 4503599627370496) : Go.bits .and .u64 (code : Int) ((2 ^ f - 1 : Nat) : Int) = ((code % 2 ^ f : Nat) : Int) := by
  rw [u64_and_nat code (2 ^ f - 1) hc (by omega), Nat.and_two_pow_sub_one_eq_mod]
theorem w64n (q : Nat) (h : q ≤ 1000000) : wrap64 (q : Int) = (q : Int) := by unfold wrap64; omega
theorem w64p (q : Nat) (h : q ≤ 1000000) (h2 : q ≠ 0) : wrap64 ((q : Int) - 1) = ((q - 1 : Nat) : Int) := by unfold wrap64; omega

theorem Times2_ev (f code : Nat) (most : Int) (hf : f = 52 ∨ f = 23) (hc : code < 18446744073709551616) (hc2 : code / 2 ^ f ≤ 2100) :
    Ev (fun k => spec_Form_Times2.f k (f : Int) most (code : Int)) (dg (T2 f code)) := by
  have hpow : 1 ≤ 2 ^ f ∧ 2 ^ f ≤ 4503599627370496 := by rcases hf with rfl | rfl <;> decide
  have hm : code % 2 ^ f < 2 ^ f := Nat.mod_lt _ hpow.1
  have h0 : (0 : Int) ≤ (f : Int) := Int.natCast_nonneg f
  have hcm : code % 2 ^ f < 18446744073709551616 := Nat.lt_of_lt_of_le hm (Nat.le_trans hpow.2 (by decide))
  by_cases hq : code / 2 ^ f = 0
  · have hq' : ((code / 2 ^ f : Nat) : Int) = 0 := by rw [hq]; rfl
    unfold T2
    rw [if_pos hq]
    refine Ev.congr (Ev.bind (h := fun _ t => some t) (NatOf_ev (code % 2 ^ f) hcm) (Ev.pure _)) (fun k => ?_)
    rw [spec_Form_Times2.f, if_pos h0, shr_two f code hf, w64n _ (Nat.le_trans hc2 (by decide)), if_pos hq', shl_two f hf, wrap_pred _ hpow.1 hpow.2, and_low code f hc hpow.2]
  · have hq' : ¬ ((code / 2 ^ f : Nat) : Int) = 0 := fun h => hq (Int.ofNat.inj h)
    have hs : code % 2 ^ f + 2 ^ f < 18446744073709551616 := by omega
    have hl : code % 2 ^ f + 2 ^ f < 4294967296 ^ 2 := by
      have e : (4294967296 : Nat) ^ 2 = 18446744073709551616 := by decide
      rw [e]; exact hs
    unfold T2
    rw [if_neg hq]
    have hS := Shifted_ev (dg (code % 2 ^ f + 2 ^ f)) (code / 2 ^ f - 1) (Dg_dg _) (Nat.le_trans (dg_length hl) (by decide)) (Nat.le_trans (Nat.sub_le _ _) (Nat.le_trans hc2 (by decide)))
    rw [nv_dg] at hS
    refine Ev.congr (Ev.bind (h := fun k t => (spec_Shifted.f k t ((code / 2 ^ f - 1 : Nat) : Int)).bind fun u => some u) (NatOf_ev (code % 2 ^ f + 2 ^ f) hs) (Ev.bind hS (Ev.pure _))) (fun k => ?_)
    have e7 : IntKind.u64.wrap (((code % 2 ^ f : Nat) : Int) + ((2 ^ f : Nat) : Int)) = ((code % 2 ^ f + 2 ^ f : Nat) : Int) := by
      rw [← Int.natCast_add, wrapu _ (Int.natCast_nonneg _) (Int.ofNat_lt.2 hs)]
    rw [spec_Form_Times2.f, if_pos h0, shr_two f code hf, w64n _ (Nat.le_trans hc2 (by decide)), if_neg hq', shl_two f hf, wrap_pred _ hpow.1 hpow.2, and_low code f hc hpow.2, w64p _ (Nat.le_trans hc2 (by decide)) hq, e7]

theorem T2_len (f code : Nat) (hf : f = 52 ∨ f = 23) (hc2 : code / 2 ^ f ≤ 2100) : (dg (T2 f code)).length ≤ 200 := by
  have hpow : 1 ≤ 2 ^ f ∧ 2 ^ f ≤ 4503599627370496 := by rcases hf with rfl | rfl <;> decide
  have hm : code % 2 ^ f < 2 ^ f := Nat.mod_lt _ (by omega)
  unfold T2
  generalize 2 ^ f = P at *
  generalize code % P = m at *
  generalize code / P = q at *
  refine dg_length ?_
  obtain ⟨w, hw⟩ : ∃ w, w = 32 * 200 := ⟨_, rfl⟩
  rw [show (4294967296 : Nat) = 2 ^ 32 by decide, ← Nat.pow_mul, ← hw]
  split
  · exact Nat.lt_of_lt_of_le (show m < 2 ^ 52 by omega) (Nat.pow_le_pow_right (by decide) (by omega))
  · calc (m + P) * 2 ^ (q - 1) < 2 ^ 54 * 2 ^ (q - 1) := Nat.mul_lt_mul_of_pos_right (by omega) (Nat.two_pow_pos _)
      _ = 2 ^ (54 + (q - 1)) := (Nat.pow_add ..).symm
      _ ≤ 2 ^ w := Nat.pow_le_pow_right (by decide) (by omega)
end Go.Proofs.YtiopeaponffmdaaDoor.PAll
-- YtiopeaponffmdaaDoorPAllx19
namespace Go.Proofs.YtiopeaponffmdaaDoor.PAll
open Go.RowKit Go.Proofs.YtiopeaponffmdaaDoorW.PrintWords Go.Proofs.YtiopeaponffmdaaDoorW.PrintLast Go.Proofs.YtiopeaponffmdaaDoorW.PrintMore
attribute [local go_sem] max2_int min2_int max_two min_two max_three min_three max_four min_four   -- for this text's walks alone
set_option linter.unusedVariables false
set_option linter.unusedSimpArgs false

def spec_Form_top.l0 : Nat → Int → Int → List Int → Int → Int → Option (Int)
  | 0, _, _, _, _, _ => none
  | k + 1, x5, x6, x7, x357000, x357001 => if x5 < x6 then ((spec_Form_against.f k x357000 x357001 (⟨#[49]⟩ : ByteArray) (wrap64 (x5 + (wrap64 (Int.tdiv (wrap64 ((wrap64 (x6 - x5)) + 1)) 2)))) x7).bind fun t363 => (if t363 ≤ 0 then (spec_Form_top.l0 k (wrap64 (x5 + (wrap64 (Int.tdiv (wrap64 ((wrap64 (x6 - x5)) + 1)) 2)))) x6 x7 x357000 x357001) else (spec_Form_top.l0 k x5 (wrap64 ((wrap64 (x5 + (wrap64 (Int.tdiv (wrap64 ((wrap64 (x6 - x5)) + 1)) 2)))) - 1)) x7 x357000 x357001))) else (some (wrap64 (x5 + 1)))
def spec_Form_top.f (k : Nat) (a0_0 : Int) (a0_1 : Int) (a1 : Int) : Option (Int) := (spec_Form_Times2.f k a0_0 a0_1 a1).bind fun t357 => ((spec_Shifted.f k t357 1).bind fun t360 => (spec_Form_top.l0 k (-330) 310 t360 a0_0 a0_1))
theorem spec_Form_top.mono_l : ∀ k, (∀ y0 y1 y2 y3 y4, LeO (spec_Form_top.l0 k y0 y1 y2 y3 y4) (spec_Form_top.l0 (k + 1) y0 y1 y2 y3 y4))
  | 0 => fun _ _ _ _ _ r h => by simp [spec_Form_top.l0] at h
  | k + 1 => by
    have ih0 := spec_Form_top.mono_l k
    · intro y0 y1 y2 y3 y4
      unfold spec_Form_top.l0
      repeat' first
      | (with_reducible exact ih0 _ _ _ _ _)
      | (with_reducible exact spec_Form_Times2.mono _ _ _ _)
      | (with_reducible exact spec_Form_against.mono _ _ _ _ _ _)
      | (with_reducible exact spec_Shifted.mono _ _ _)
      | (with_reducible exact LeO.refl _)
      | (with_reducible exact LeO.none _)
      | (with_reducible refine LeO.ite ?_ ?_)
      | (with_reducible refine LeO.bind ?_ (fun _ => ?_))
      | exact ih0 _ _ _ _ _
      | exact spec_Form_Times2.mono _ _ _ _
      | exact spec_Form_against.mono _ _ _ _ _ _
      | exact spec_Shifted.mono _ _ _
      | exact LeO.none _
      | refine LeO.ite ?_ ?_
      | refine LeO.bind ?_ (fun _ => ?_)
theorem spec_Form_top.mono : ∀ a0 a1 a2 k, LeO (spec_Form_top.f k a0 a1 a2) (spec_Form_top.f (k + 1) a0 a1 a2) := by
  intro a0 a1 a2 k
  have ih0 := spec_Form_top.mono_l k
  unfold spec_Form_top.f
  repeat' first
      | (with_reducible exact ih0 _ _ _ _ _)
      | (with_reducible exact spec_Form_Times2.mono _ _ _ _)
      | (with_reducible exact spec_Form_against.mono _ _ _ _ _ _)
      | (with_reducible exact spec_Shifted.mono _ _ _)
      | (with_reducible exact LeO.refl _)
      | (with_reducible exact LeO.none _)
      | (with_reducible refine LeO.ite ?_ ?_)
      | (with_reducible refine LeO.bind ?_ (fun _ => ?_))
      | exact ih0 _ _ _ _ _
      | exact spec_Form_Times2.mono _ _ _ _
      | exact spec_Form_against.mono _ _ _ _ _ _
      | exact spec_Shifted.mono _ _ _
      | exact LeO.none _
      | refine LeO.ite ?_ ?_
      | refine LeO.bind ?_ (fun _ => ?_)
set_option maxHeartbeats 8000000 in
set_option maxRecDepth 100000 in
theorem spec_Form_top.calls (k : Nat) (a0_0 : Int) (a0_1 : Int) (a1 : Int) (r : Int) (w : World) (h : spec_Form_top.f k a0_0 a0_1 a1 = some r) :
    Calls Tryd.prog 43 #[.agg #[.int .i64 a0_0, .int .u64 a0_1], .int .u64 a1] w fun e w' => e = .returned (.int .i64 r) ∧ Below w.heap.size w w' := by
  have hu31 := Tryd.underlying31
  have hu35 := Tryd.underlying35
  have HB := Aside0.mk (Below.refl w.heap.size w)
  have H : ((spec_Form_Times2.f k a0_0 a0_1 a1).bind fun t357 => ((spec_Shifted.f k t357 1).bind fun t360 => (spec_Form_top.l0 k (-330) 310 t360 a0_0 a0_1))) = some r := h
  clear h
  replace H := Option.bind_eq_some_iff.mp H
  obtain ⟨t357, A30, H⟩ := H
  replace H : ((spec_Shifted.f k t357 1).bind fun t360 => (spec_Form_top.l0 k (-330) 310 t360 a0_0 a0_1)) = some r := H
  have A3 := Aside0.mk A30
  clear A30
  replace H := Option.bind_eq_some_iff.mp H
  obtain ⟨t360, A40, H⟩ := H
  replace H : (spec_Form_top.l0 k (-330) 310 t360 a0_0 a0_1) = some r := H
  have A4 := Aside0.mk A40
  clear A40
  have H' := Aside0.mk H
  clear H
  go_enter Tryd.func43, Tryd.ntmps43
  go_wp2_with (first | ((with_reducible refine gate_dst (N := 2) rfl ?_); refine box_event ?hg (N := 2) ?hd (cs := #[.int .i64 a0_0, .int .u64 a0_1]) (t := 31) ?hr ?_; (case hd => rfl); (case hg => rfl); (case hr => first | (go_simp; done) | (go_simp; rfl)); intro gb356 hg w5 hbox hb; have n0_ := Aside0.mk (below_step (by repeat (first | (with_reducible first | exact HB.out | apply below_alloc | apply pw_below_drewN | apply below_drew1) | exact HB.out)) hb); have n1_ := Aside0.mk (hbox); have n2_ := Aside0.mk ((by rw [hg]; exact (below_size (by repeat (first | (with_reducible first | exact HB.out | apply below_alloc | apply pw_below_drewN | apply below_drew1) | exact HB.out))) : w.heap.size ≤ gb356)); have n3_ := Aside0.mk ((by rw [hg]; exact (below_size (by repeat (first | (with_reducible first | exact HB.out | apply below_alloc | apply pw_below_drewN | apply below_drew1) | exact HB.out))) : w.heap.size ≤ gb356)); clear HB; have HB := n0_; have BK356 := n1_; have GW356 := n2_; have GE356 := n3_; clear n0_ n1_ n2_ n3_; clear hb hbox hg; have hcz6_0 : w5.cell? ⟨gb356, 0, none⟩ = some (.int .i64 a0_0) := (blk_cell BK356.out 0).trans rfl; have hcz6_1 : w5.cell? ⟨gb356, 1, none⟩ = some (.int .u64 a0_1) := (blk_cell BK356.out 1).trans rfl; have hfz6_0 := blk_frozen BK356.out 0; have hfz6_1 := blk_frozen BK356.out 1) | ((with_reducible refine gate_callee (f := 29) rfl ?_); refine goesL_ (some 11) rfl rfl Tryd.func29 (by kernel_rfl) rfl #[.agg #[.int .i64 a0_0, .int .u64 a0_1], .int .u64 a1] rfl (by (try simp only [List.map_toArray, List.map_cons, List.map_nil]); first | done | rfl | (simp only [List.length_drop, List.length_take]; rfl)) ?_; (with_reducible refine (spec_Form_Times2.calls k a0_0 a0_1 a1 t357 _ A3.out).mono ?_); rintro e w7 ⟨v358, rfl, ho0, hb⟩; refine ⟨_, rfl, ?_⟩; have n0_ := Aside0.mk (Kd.R_lower ho0 (below_size (by repeat (first | (with_reducible first | exact HB.out | apply below_alloc | apply pw_below_drewN | apply below_drew1 | refine below_set ?_ GE356.out) | exact HB.out)))); have n1_ := Aside0.mk (blk_below (g := gb356) (o := .cells #[.int .i64 a0_0, .int .u64 a0_1] 31 (0, 0)) (by (with_reducible repeat (first | refine blk_drewN ?_ _ | refine blk_drew ?_ | refine blk_alloc ?_ _)); exact BK356.out) hb); have n2_ := Aside0.mk (below_step (by repeat (first | (with_reducible first | exact HB.out | apply below_alloc | apply pw_below_drewN | apply below_drew1 | refine below_set ?_ GE356.out) | exact HB.out)) hb); clear BK356; clear HB; have HO359 := n0_; have BK356 := n1_; have HB := n2_; clear n0_ n1_ n2_; (try clear hb); (try clear hb2); (try clear hk); (try clear hi); (try clear ho0); obtain ⟨Ao8, co8, eo8⟩ := Kd.R_slice HO359.out; subst eo8) | ((with_reducible refine gate_callee (f := 28) rfl ?_); refine goesL_ (some 12) rfl rfl Tryd.func28 (by kernel_rfl) rfl #[.slice Ao8 t357.length co8, .int .i64 1] rfl (by (try simp only [List.map_toArray, List.map_cons, List.map_nil]); first | done | rfl | (simp only [List.length_drop, List.length_take]; rfl)) ?_; (with_reducible refine (spec_Shifted.calls k _ _ t357 1 t360 _ ?side1 ?side2 A4.out).mono ?_); (case side1 => repeat (first | exact (Kd.R_reads' HO359.out).2.2 | (with_reducible refine Kd.C_alloc ?_ _) | (with_reducible refine Kd.C_drewN ?_ _) | (with_reducible refine Kd.C_drew ?_))); (case side2 => exact (Kd.R_reads' HO359.out).2.1); rintro e w9 ⟨v361, rfl, ho0, hb⟩; refine ⟨_, rfl, ?_⟩; have n0_ := Aside0.mk (Kd.R_elder' (by (with_reducible repeat (first | apply Kd.R_alloc | apply Kd.R_drewN | apply Kd.R_drew)); exact HO359.out) (Kd.R_base ho0) hb); have n1_ := Aside0.mk (Kd.R_lower (Kd.R_new' ho0 (Kd.R_lt (by (with_reducible repeat (first | apply Kd.R_alloc | apply Kd.R_drewN | apply Kd.R_drew)); exact HO359.out))) (below_size (by repeat (first | (with_reducible first | exact HB.out | apply below_alloc | apply pw_below_drewN | apply below_drew1 | refine below_set ?_ GE356.out) | exact HB.out)))); have n2_ := Aside0.mk (blk_below (g := gb356) (o := .cells #[.int .i64 a0_0, .int .u64 a0_1] 31 (0, 0)) (by (with_reducible repeat (first | refine blk_drewN ?_ _ | refine blk_drew ?_ | refine blk_alloc ?_ _)); exact BK356.out) hb); have n3_ := Aside0.mk (below_step (by repeat (first | (with_reducible first | exact HB.out | apply below_alloc | apply pw_below_drewN | apply below_drew1 | refine below_set ?_ GE356.out) | exact HB.out)) hb); clear HO359; clear BK356; clear HB; have HO359 := n0_; have HO362 := n1_; have BK356 := n2_; have HB := n3_; clear n0_ n1_ n2_ n3_; (try clear hb); (try clear hb2); (try clear hk); (try clear hi); (try clear ho0)))
  go_loopg [5, 6] k (fun kq v5 v6 w' => ∃ (x5_1 : Int) (x6_1 : Int), v5 = .int .i64 x5_1 ∧ v6 = .int .i64 x6_1 ∧ Aside0 (spec_Form_top.l0 kq x5_1 x6_1 t360 a0_0 a0_1 = some r) ∧ Aside0 (kq ≤ k) ∧ Aside0 (Kd.R (Kd.int .u32) 47 w' w.heap.size (fun _ => True) v361 t360) ∧ Aside0 (w'.heap[gb356]? = some (.cells #[.int .i64 a0_0, .int .u64 a0_1] 31 (0, 0))) ∧ Aside0 (Below w.heap.size w w'))
  case atStart => exact ⟨((-330)), (310), (by first | rfl | (simp; done) | (simp [*]; done)), (by first | rfl | (simp; done) | (simp [*]; done)), H', ⟨Nat.le_refl _⟩, ⟨by (with_reducible repeat (first | apply Kd.R_alloc | apply Kd.R_drewN | apply Kd.R_drew)); exact Kd.R_mono HO362.out (fun _ hk => trivial)⟩, ⟨by (with_reducible repeat (first | refine blk_drewN ?_ _ | refine blk_drew ?_ | refine blk_alloc ?_ _)); exact BK356.out⟩, ⟨by repeat (first | (with_reducible first | exact HB.out | apply below_alloc | apply pw_below_drewN | apply below_drew1 | refine below_set ?_ GE356.out) | exact HB.out)⟩⟩
  case round =>
    clear H'
    try clear c2
    try clear p2
    try clear c4
    try clear hcz6_0
    try clear hcz6_1
    try clear hfz6_0
    try clear hfz6_1
    obtain ⟨x5_1, x6_1, rfl, rfl, HA, HK1, HO_7, BK356, HB⟩ := hrel
    cases gk with
    | zero => exact absurd HA.out (by simp [spec_Form_top.l0])
    | succ k1 =>
      have H := HA.out
      clear HA
      simp only [spec_Form_top.l0] at H
      by_cases c10 : x5_1 < x6_1
      · rw [if_pos c10] at H
        have c10b0 : decide (x5_1 < x6_1) = true := decide_eq_true c10
        clear c10
        replace H := Option.bind_eq_some_iff.mp H
        obtain ⟨t363, A110, H⟩ := H
        replace H : (if t363 ≤ 0 then (spec_Form_top.l0 k1 (wrap64 (x5_1 + (wrap64 (Int.tdiv (wrap64 ((wrap64 (x6_1 - x5_1)) + 1)) 2)))) x6_1 t360 a0_0 a0_1) else (spec_Form_top.l0 k1 x5_1 (wrap64 ((wrap64 (x5_1 + (wrap64 (Int.tdiv (wrap64 ((wrap64 (x6_1 - x5_1)) + 1)) 2)))) - 1)) t360 a0_0 a0_1)) = some r := H
        have A11 := Aside0.mk A110
        clear A110
        by_cases c12 : t363 ≤ 0
        · rw [if_pos c12] at H
          have c12b0 : decide (t363 ≤ 0) = true := decide_eq_true c12
          clear c12
          have H' := Aside0.mk H
          clear H
          have hcz13_0 : wr.cell? ⟨gb356, 0, none⟩ = some (.int .i64 a0_0) := (blk_cell BK356.out 0).trans rfl
          have hcz13_1 : wr.cell? ⟨gb356, 1, none⟩ = some (.int .u64 a0_1) := (blk_cell BK356.out 1).trans rfl
          have hfz13_0 := blk_frozen BK356.out 0
          have hfz13_1 := blk_frozen BK356.out 1
          obtain ⟨Ao14, co14, eo14⟩ := Kd.R_slice HO_7.out
          subst eo14
          go_wp2_with (first | ((with_reducible refine gate_callee (f := 27) rfl ?_); refine goesL_ (some 27) rfl rfl Tryd.func27 (by kernel_rfl) rfl #[.agg #[.int .i64 a0_0, .int .u64 a0_1], .agg #[.string (⟨#[49]⟩ : ByteArray), .int .i64 (wrap64 (x5_1 + (wrap64 (Int.tdiv (wrap64 ((wrap64 (x6_1 - x5_1)) + 1)) 2))))], .slice Ao14 t360.length co14] rfl (by (try simp only [List.map_toArray, List.map_cons, List.map_nil]); first | done | rfl | (simp only [List.length_drop, List.length_take]; rfl)) ?_; (with_reducible refine (spec_Form_against.calls k1 a0_0 a0_1 (⟨#[49]⟩ : ByteArray) (wrap64 (x5_1 + (wrap64 (Int.tdiv (wrap64 ((wrap64 (x6_1 - x5_1)) + 1)) 2)))) _ _ t360 t363 _ ?side1 ?side2 A11.out).mono ?_); (case side1 => repeat (first | exact (Kd.R_reads' HO_7.out).2.2 | (with_reducible refine Kd.C_alloc ?_ _) | (with_reducible refine Kd.C_drewN ?_ _) | (with_reducible refine Kd.C_drew ?_))); (case side2 => exact (Kd.R_reads' HO_7.out).2.1); rintro e w15 ⟨rfl, hb⟩; refine ⟨_, rfl, ?_⟩; have n0_ := Aside0.mk (Kd.R_below (by (with_reducible repeat (first | apply Kd.R_alloc | apply Kd.R_drewN | apply Kd.R_drew)); exact HO_7.out) hb); have n1_ := Aside0.mk (blk_below (g := gb356) (o := .cells #[.int .i64 a0_0, .int .u64 a0_1] 31 (0, 0)) (by (with_reducible repeat (first | refine blk_drewN ?_ _ | refine blk_drew ?_ | refine blk_alloc ?_ _)); exact BK356.out) hb); have n2_ := Aside0.mk (below_step (by repeat (first | (with_reducible first | exact HB.out | apply below_alloc | apply pw_below_drewN | apply below_drew1 | refine below_set ?_ GE356.out) | exact HB.out)) hb); clear HO_7; clear BK356; clear HB; have HO_7 := n0_; have BK356 := n1_; have HB := n2_; clear n0_ n1_ n2_; (try clear hb); (try clear hb2); (try clear hk); (try clear hi)))
          go_roundg k1
          case measure => have := HK1.out; omega
          case rel => exact ⟨(wrap64 (x5_1 + (wrap64 (Int.tdiv (wrap64 ((wrap64 (x6_1 - x5_1)) + 1)) 2)))), (x6_1), (by first | rfl | (simp; done) | (simp [*]; done)), (by first | rfl | (simp; done) | (simp [*]; done)), H', ⟨by have := HK1.out; omega⟩, ⟨by (with_reducible repeat (first | apply Kd.R_alloc | apply Kd.R_drewN | apply Kd.R_drew)); exact HO_7.out⟩, ⟨by (with_reducible repeat (first | refine blk_drewN ?_ _ | refine blk_drew ?_ | refine blk_alloc ?_ _)); exact BK356.out⟩, ⟨by repeat (first | (with_reducible first | exact HB.out | apply below_alloc | apply pw_below_drewN | apply below_drew1 | refine below_set ?_ GE356.out) | exact HB.out)⟩⟩
        · rw [if_neg c12] at H
          have c12b0 : decide (t363 ≤ 0) = false := decide_eq_false c12
          clear c12
          have H' := Aside0.mk H
          clear H
          have hcz16_0 : wr.cell? ⟨gb356, 0, none⟩ = some (.int .i64 a0_0) := (blk_cell BK356.out 0).trans rfl
          have hcz16_1 : wr.cell? ⟨gb356, 1, none⟩ = some (.int .u64 a0_1) := (blk_cell BK356.out 1).trans rfl
          have hfz16_0 := blk_frozen BK356.out 0
          have hfz16_1 := blk_frozen BK356.out 1
          obtain ⟨Ao17, co17, eo17⟩ := Kd.R_slice HO_7.out
          subst eo17
          go_wp2_with (first | ((with_reducible refine gate_callee (f := 27) rfl ?_); refine goesL_ (some 27) rfl rfl Tryd.func27 (by kernel_rfl) rfl #[.agg #[.int .i64 a0_0, .int .u64 a0_1], .agg #[.string (⟨#[49]⟩ : ByteArray), .int .i64 (wrap64 (x5_1 + (wrap64 (Int.tdiv (wrap64 ((wrap64 (x6_1 - x5_1)) + 1)) 2))))], .slice Ao17 t360.length co17] rfl (by (try simp only [List.map_toArray, List.map_cons, List.map_nil]); first | done | rfl | (simp only [List.length_drop, List.length_take]; rfl)) ?_; (with_reducible refine (spec_Form_against.calls k1 a0_0 a0_1 (⟨#[49]⟩ : ByteArray) (wrap64 (x5_1 + (wrap64 (Int.tdiv (wrap64 ((wrap64 (x6_1 - x5_1)) + 1)) 2)))) _ _ t360 t363 _ ?side1 ?side2 A11.out).mono ?_); (case side1 => repeat (first | exact (Kd.R_reads' HO_7.out).2.2 | (with_reducible refine Kd.C_alloc ?_ _) | (with_reducible refine Kd.C_drewN ?_ _) | (with_reducible refine Kd.C_drew ?_))); (case side2 => exact (Kd.R_reads' HO_7.out).2.1); rintro e w18 ⟨rfl, hb⟩; refine ⟨_, rfl, ?_⟩; have n0_ := Aside0.mk (Kd.R_below (by (with_reducible repeat (first | apply Kd.R_alloc | apply Kd.R_drewN | apply Kd.R_drew)); exact HO_7.out) hb); have n1_ := Aside0.mk (blk_below (g := gb356) (o := .cells #[.int .i64 a0_0, .int .u64 a0_1] 31 (0, 0)) (by (with_reducible repeat (first | refine blk_drewN ?_ _ | refine blk_drew ?_ | refine blk_alloc ?_ _)); exact BK356.out) hb); have n2_ := Aside0.mk (below_step (by repeat (first | (with_reducible first | exact HB.out | apply below_alloc | apply pw_below_drewN | apply below_drew1 | refine below_set ?_ GE356.out) | exact HB.out)) hb); clear HO_7; clear BK356; clear HB; have HO_7 := n0_; have BK356 := n1_; have HB := n2_; clear n0_ n1_ n2_; (try clear hb); (try clear hb2); (try clear hk); (try clear hi)))
          go_roundg k1
          case measure => have := HK1.out; omega
          case rel => exact ⟨(x5_1), (wrap64 ((wrap64 (x5_1 + (wrap64 (Int.tdiv (wrap64 ((wrap64 (x6_1 - x5_1)) + 1)) 2)))) - 1)), (by first | rfl | (simp; done) | (simp [*]; done)), (by first | rfl | (simp; done) | (simp [*]; done)), H', ⟨by have := HK1.out; omega⟩, ⟨by (with_reducible repeat (first | apply Kd.R_alloc | apply Kd.R_drewN | apply Kd.R_drew)); exact HO_7.out⟩, ⟨by (with_reducible repeat (first | refine blk_drewN ?_ _ | refine blk_drew ?_ | refine blk_alloc ?_ _)); exact BK356.out⟩, ⟨by repeat (first | (with_reducible first | exact HB.out | apply below_alloc | apply pw_below_drewN | apply below_drew1 | refine below_set ?_ GE356.out) | exact HB.out)⟩⟩
      · rw [if_neg c10] at H
        have c10b0 : decide (x5_1 < x6_1) = false := decide_eq_false c10
        clear c10
        obtain rfl := Option.some.inj H
        go_wp2
        go_ret
        exact ⟨by first | rfl | (simp [errW_none, errW_some] <;> rfl) | (simp [*, errW_none, errW_some] <;> rfl), by repeat (first | (with_reducible first | exact HB.out | apply below_alloc | apply pw_below_drewN | apply below_drew1 | refine below_set ?_ GE356.out) | exact HB.out)⟩

end Go.Proofs.YtiopeaponffmdaaDoor.PAll
