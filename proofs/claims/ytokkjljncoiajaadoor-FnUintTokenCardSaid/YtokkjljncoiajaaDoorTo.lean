/- The tokens: the reference's digits: texts that the kit's print wrote, and what they answer. -/
import Derived.Test.YtokkjljncoiajaaDoorPFnIntTokenx0
import Derived.Lib.ItoaNum
set_option linter.unusedVariables false
set_option linter.unusedSimpArgs false
namespace Go.Proofs.YtokkjljncoiajaaDoor
open Go.RowKit Go.Proofs.YtokkjljncoiajaaDoorW.PrintWords Go.Proofs.YtokkjljncoiajaaDoorW.PrintLast Go.Proofs.YtokkjljncoiajaaDoorW.PrintMore Go.Proofs.YtokkjljncoiajaaDoor.PFnIntToken
def spec_decimals.l0 : Nat → Int → List Int → Option (ByteArray)
  | 0, _, _ => none
  | k + 1, x0, x3 => if x0 > 0 then ((some (([(IntKind.u64.wrap (48 + (Int.tmod x0 10))) % 256] : List Int) : List Int)).bind fun y329 => (if y329.length + x3.length < 140737488355328 then (spec_decimals.l0 k (IntKind.u64.wrap (Int.tdiv x0 10)) (y329 ++ x3)) else (none))) else (if (x3.length : Int) = 0 then ((some (([(IntKind.u64.wrap (48 + (Int.tmod x0 10))) % 256] : List Int) : List Int)).bind fun y335 => (if y335.length + x3.length < 140737488355328 then (spec_decimals.l0 k (IntKind.u64.wrap (Int.tdiv x0 10)) (y335 ++ x3)) else (none))) else (some (strOfNums x3)))
def spec_decimals.f (k : Nat) (a0 : Int) : Option (ByteArray) := spec_decimals.l0 k a0 (([] : List Int))
set_option maxHeartbeats 8000000 in
set_option maxRecDepth 100000 in
theorem spec_decimals.calls (k : Nat) (a0 : Int) (r : ByteArray) (w : World) (h : spec_decimals.f k a0 = some r) :
    Calls Tryd.prog 18 #[.int .u64 a0] w fun e w' => e = .returned (.string r) ∧ Below w.heap.size w w' := by
  have HB := Aside0.mk (Below.refl w.heap.size w)
  have H : (spec_decimals.l0 k a0 (([] : List Int))) = some r := h
  clear h
  obtain ⟨y326, hy326⟩ : ∃ y_ : List Int, y_ = (([] : List Int)) := ⟨_, rfl⟩
  replace H : (spec_decimals.l0 k a0 y326) = some r := by first | (rw [hy326]; with_reducible exact H) | (have H2_ := (Option.bind_some _ _).symm.trans H; rw [hy326]; with_reducible exact H2_) | (have H2_ := (Option.bind_some _ _).symm.trans H; with_reducible exact H2_) | with_reducible exact H | (rw [hy326]; exact H) | exact H
  have Ny326 := Aside0.mk hy326
  clear hy326
  have H' := Aside0.mk H
  clear H
  go_enter Tryd.func18, Tryd.ntmps18
  go_wp2_with (first | ((with_reducible refine gate_dst (N := 4) rfl ?_); (try (refine gate_guard (by rfl) ?_; dsimp only)); refine Kd.R_lit (Kd.int .u8) _ 5 ?hg (N := 4) ?hd (xs := ([] : List Int)) (inner := []) (ok := fun _ => True) (okp := fun _ => True) ?hr ?hp (fun _ hk => hk) trivial (Below.refl _ _) (Nat.le_refl _) (by simp) ?_; (case hd => rfl); (case hg => rfl); (case hr => first | (go_simp; done) | (go_simp; rfl)); (case hp => exact (Reps.none _ _)); intro v327 w2 ho3 hb hg_ hnew_; clear hg_ hnew_; (first | rw [← Ny326.out] at ho3 | (simp only [Int.reduceToNat] at ho3; rw [← Ny326.out] at ho3)); have n0_ := Aside0.mk (Kd.R_lower ho3 (below_size (by repeat (first | (with_reducible first | exact HB.out | apply below_alloc | apply pw_below_drewN | apply below_drew1) | exact HB.out)))); have n1_ := Aside0.mk (below_step (by repeat (first | (with_reducible first | exact HB.out | apply below_alloc | apply pw_below_drewN | apply below_drew1) | exact HB.out)) hb); clear HB; have HO328 := n0_; have HB := n1_; clear n0_ n1_; clear hb ho3))
  go_loopg [0, 3] k (fun kq v0 v3 w' => ∃ (x0_1 : Int) (x3_1 : List Int), v0 = .int .u64 x0_1 ∧ Aside0 (spec_decimals.l0 kq x0_1 x3_1 = some r) ∧ Aside0 (kq ≤ k) ∧ Aside0 (Kd.R (Kd.int .u8) 5 w' w.heap.size (fun _ => True) v3 x3_1) ∧ Aside0 (Below w.heap.size w w'))
  case atStart => exact ⟨(a0), (y326), (by first | rfl | (simp; done) | (simp [*]; done)), H', ⟨Nat.le_refl _⟩, ⟨by (with_reducible repeat (first | apply Kd.R_alloc | apply Kd.R_drewN | apply Kd.R_drew)); exact HO328.out⟩, ⟨by repeat (first | (with_reducible first | exact HB.out | apply below_alloc | apply pw_below_drewN | apply below_drew1) | exact HB.out)⟩⟩
  case round =>
    clear H'
    try clear c1
    try clear p2
    obtain ⟨x0_1, x3_1, rfl, HA, HK1, HO_3, HB⟩ := hrel
    cases gk with
    | zero => exact absurd HA.out (by simp [spec_decimals.l0])
    | succ k1 =>
      have H := HA.out
      clear HA
      simp only [spec_decimals.l0] at H
      by_cases c4 : x0_1 > 0
      · rw [if_pos c4] at H
        have c4b0 : decide (0 < x0_1) = true := decide_eq_true c4
        clear c4
        obtain ⟨y329, hy329⟩ : ∃ y_ : List Int, y_ = (([(IntKind.u64.wrap (48 + (Int.tmod x0_1 10))) % 256] : List Int)) := ⟨_, rfl⟩
        replace H : (if y329.length + x3_1.length < 140737488355328 then (spec_decimals.l0 k1 (IntKind.u64.wrap (Int.tdiv x0_1 10)) (y329 ++ x3_1)) else (none)) = some r := by first | (rw [hy329]; with_reducible exact H) | (have H2_ := (Option.bind_some _ _).symm.trans H; rw [hy329]; with_reducible exact H2_) | (have H2_ := (Option.bind_some _ _).symm.trans H; with_reducible exact H2_) | with_reducible exact H | (rw [hy329]; exact H) | exact H
        have Ny329 := Aside0.mk hy329
        clear hy329
        by_cases c5 : y329.length + x3_1.length < 140737488355328
        · rw [if_pos c5] at H
          have LMc5 := Aside0.mk c5
          clear c5
          obtain ⟨y332, hy332⟩ : ∃ y_ : List Int, y_ = (y329 ++ x3_1) := ⟨_, rfl⟩
          replace H : (spec_decimals.l0 k1 (IntKind.u64.wrap (Int.tdiv x0_1 10)) y332) = some r := by first | (rw [hy332]; with_reducible exact H) | (have H2_ := (Option.bind_some _ _).symm.trans H; rw [hy332]; with_reducible exact H2_) | (have H2_ := (Option.bind_some _ _).symm.trans H; with_reducible exact H2_) | with_reducible exact H | (rw [hy332]; exact H) | exact H
          have Ny332 := Aside0.mk hy332
          clear hy332
          have H' := Aside0.mk H
          clear H
          go_wp2_with (first | ((with_reducible refine gate_dst (N := 18) rfl ?_); (try (refine gate_guard (by rfl) ?_; dsimp only)); refine Kd.R_lit (Kd.int .u8) _ 5 ?hg (N := 18) ?hd (xs := ([(IntKind.u64.wrap (48 + (Int.tmod x0_1 10))) % 256] : List Int)) (inner := [.int .u8 ((IntKind.u64.wrap (48 + (Int.tmod x0_1 10))) % 256)]) (ok := fun _ => True) (okp := fun _ => True) ?hr ?hp (fun _ hk => hk) trivial (Below.refl _ _) (Nat.le_refl _) (by simp) ?_; (case hd => rfl); (case hg => rfl); (case hr => first | (go_simp; done) | (go_simp; rfl)); (case hp => exact (Reps.one (show Kd.M (Kd.int .u8) _ _ _ ((IntKind.u64.wrap (48 + (Int.tmod x0_1 10))) % 256) [.int .u8 ((IntKind.u64.wrap (48 + (Int.tmod x0_1 10))) % 256)] from rfl) (Reps.none _ _))); intro v330 w6 ho7 hb hg_ hnew_; clear hg_ hnew_; (first | rw [← Ny329.out] at ho7 | (simp only [Int.reduceToNat] at ho7; rw [← Ny329.out] at ho7)); have n0_ := Aside0.mk (Kd.R_elder' (by (with_reducible repeat (first | apply Kd.R_alloc | apply Kd.R_drewN | apply Kd.R_drew)); exact HO_3.out) (Kd.R_base ho7) hb); have n1_ := Aside0.mk (Kd.R_lower (Kd.R_new' ho7 (Kd.R_lt (by (with_reducible repeat (first | apply Kd.R_alloc | apply Kd.R_drewN | apply Kd.R_drew)); exact HO_3.out))) (below_size (by repeat (first | (with_reducible first | exact HB.out | apply below_alloc | apply pw_below_drewN | apply below_drew1) | exact HB.out)))); have n2_ := Aside0.mk (below_step (by repeat (first | (with_reducible first | exact HB.out | apply below_alloc | apply pw_below_drewN | apply below_drew1) | exact HB.out)) hb); clear HO_3; clear HB; have HO_3 := n0_; have HO331 := n1_; have HB := n2_; clear n0_ n1_ n2_; clear hb ho7; obtain ⟨Ao9, co9, eo9⟩ := Kd.R_slice HO_3.out; subst eo9) | ((with_reducible refine gate_builtin (b := .append) (xs := #[.tmp 18, .tmp 19]) rfl ?_); (try (refine gate_guard (by rfl) ?_; dsimp only)); at_builtin; refine Kd.R_append_rows (Kd.int .u8) (w0 := w) w.heap.size rfl (.tmp 18) (.tmp 19) 55 5 (.int .u8 0) 1 rfl Tryd.underlying55 info5 rfl (by decide) (by omega) v330 y329 x3_1 _ _ _ (fun k_ => some k_ ≠ (.slice Ao9 x3_1.length co9 : Value).ownBlock) (fun _ => False) rfl rfl ?aO ?aR (fun _ _ h => h) (fun _ h => h.elim) ?aF ?aB ?aS ?aL ?_; (case aR => repeat (first | exact (Kd.R_reads' HO_3.out).2.2 | (with_reducible refine Kd.C_alloc ?_ _) | (with_reducible refine Kd.C_drewN ?_ _) | (with_reducible refine Kd.C_drew ?_))); (case aB => exact (by repeat (first | (with_reducible first | exact HB.out | apply below_alloc | apply pw_below_drewN | apply below_drew1) | exact HB.out))); (case aF => exact (fun k_ hk => Kd.fresh' (Kd.R_lt (by (with_reducible repeat (first | apply Kd.R_alloc | apply Kd.R_drewN | apply Kd.R_drew)); exact HO_3.out)) k_ hk)); (case aO => exact (by (with_reducible repeat (first | apply Kd.R_alloc | apply Kd.R_drewN | apply Kd.R_drew)); exact Kd.R_mono HO331.out (fun _ hk => hk.2))); (case aS => exact (below_size (by repeat (first | (with_reducible first | exact HB.out | apply below_alloc | apply pw_below_drewN | apply below_drew1) | exact HB.out)))); (case aL => have := LMc5.out; omega); intro v333 w8 ho hb hg hat; rw [← Ny332.out] at ho; have n0_ := Aside0.mk (Kd.R_after (ok := (fun _ => True)) (by (with_reducible repeat (first | apply Kd.R_alloc | apply Kd.R_drewN | apply Kd.R_drew)); exact HO_3.out) hg hat); have n1_ := Aside0.mk (hb); have n2_ := Aside0.mk (ho); clear HO_3; clear HB; clear HO331; have HO_3 := n0_; have HB := n1_; have HO334 := n2_; clear n0_ n1_ n2_; clear ho hb hg hat))
          go_roundg k1
          case measure => have := HK1.out; omega
          case rel => exact ⟨(IntKind.u64.wrap (Int.tdiv x0_1 10)), (y332), (by first | rfl | (simp; done) | (simp [*]; done)), H', ⟨by have := HK1.out; omega⟩, ⟨by (with_reducible repeat (first | apply Kd.R_alloc | apply Kd.R_drewN | apply Kd.R_drew)); exact Kd.R_mono HO334.out (fun _ hk => trivial)⟩, ⟨by repeat (first | (with_reducible first | exact HB.out | apply below_alloc | apply pw_below_drewN | apply below_drew1) | exact HB.out)⟩⟩
        · rw [if_neg c5] at H
          exact absurd H (by simp)
      · rw [if_neg c4] at H
        have c4b0 : decide (0 < x0_1) = false := decide_eq_false c4
        clear c4
        by_cases c10 : (x3_1.length : Int) = 0
        · rw [if_pos c10] at H
          have c10b0 : ((x3_1.length : Int) == 0) = true := beq_iff_eq.mpr c10
          have c10b1 : ((x3_1.length : Int) != 0) = false := bne_eq_false_iff_eq.mpr c10
          clear c10
          obtain ⟨y335, hy335⟩ : ∃ y_ : List Int, y_ = (([(IntKind.u64.wrap (48 + (Int.tmod x0_1 10))) % 256] : List Int)) := ⟨_, rfl⟩
          replace H : (if y335.length + x3_1.length < 140737488355328 then (spec_decimals.l0 k1 (IntKind.u64.wrap (Int.tdiv x0_1 10)) (y335 ++ x3_1)) else (none)) = some r := by first | (rw [hy335]; with_reducible exact H) | (have H2_ := (Option.bind_some _ _).symm.trans H; rw [hy335]; with_reducible exact H2_) | (have H2_ := (Option.bind_some _ _).symm.trans H; with_reducible exact H2_) | with_reducible exact H | (rw [hy335]; exact H) | exact H
          have Ny335 := Aside0.mk hy335
          clear hy335
          by_cases c11 : y335.length + x3_1.length < 140737488355328
          · rw [if_pos c11] at H
            have LMc11 := Aside0.mk c11
            clear c11
            obtain ⟨y338, hy338⟩ : ∃ y_ : List Int, y_ = (y335 ++ x3_1) := ⟨_, rfl⟩
            replace H : (spec_decimals.l0 k1 (IntKind.u64.wrap (Int.tdiv x0_1 10)) y338) = some r := by first | (rw [hy338]; with_reducible exact H) | (have H2_ := (Option.bind_some _ _).symm.trans H; rw [hy338]; with_reducible exact H2_) | (have H2_ := (Option.bind_some _ _).symm.trans H; with_reducible exact H2_) | with_reducible exact H | (rw [hy338]; exact H) | exact H
            have Ny338 := Aside0.mk hy338
            clear hy338
            have H' := Aside0.mk H
            clear H
            obtain ⟨Ao12, co12, eo12⟩ := Kd.R_slice HO_3.out
            subst eo12
            go_wp2_with (first | ((with_reducible refine gate_dst (N := 18) rfl ?_); (try (refine gate_guard (by rfl) ?_; dsimp only)); refine Kd.R_lit (Kd.int .u8) _ 5 ?hg (N := 18) ?hd (xs := ([(IntKind.u64.wrap (48 + (Int.tmod x0_1 10))) % 256] : List Int)) (inner := [.int .u8 ((IntKind.u64.wrap (48 + (Int.tmod x0_1 10))) % 256)]) (ok := fun _ => True) (okp := fun _ => True) ?hr ?hp (fun _ hk => hk) trivial (Below.refl _ _) (Nat.le_refl _) (by simp) ?_; (case hd => rfl); (case hg => rfl); (case hr => first | (go_simp; done) | (go_simp; rfl)); (case hp => exact (Reps.one (show Kd.M (Kd.int .u8) _ _ _ ((IntKind.u64.wrap (48 + (Int.tmod x0_1 10))) % 256) [.int .u8 ((IntKind.u64.wrap (48 + (Int.tmod x0_1 10))) % 256)] from rfl) (Reps.none _ _))); intro v336 w13 ho14 hb hg_ hnew_; clear hg_ hnew_; (first | rw [← Ny335.out] at ho14 | (simp only [Int.reduceToNat] at ho14; rw [← Ny335.out] at ho14)); have n0_ := Aside0.mk (Kd.R_elder' (by (with_reducible repeat (first | apply Kd.R_alloc | apply Kd.R_drewN | apply Kd.R_drew)); exact HO_3.out) (Kd.R_base ho14) hb); have n1_ := Aside0.mk (Kd.R_lower (Kd.R_new' ho14 (Kd.R_lt (by (with_reducible repeat (first | apply Kd.R_alloc | apply Kd.R_drewN | apply Kd.R_drew)); exact HO_3.out))) (below_size (by repeat (first | (with_reducible first | exact HB.out | apply below_alloc | apply pw_below_drewN | apply below_drew1) | exact HB.out)))); have n2_ := Aside0.mk (below_step (by repeat (first | (with_reducible first | exact HB.out | apply below_alloc | apply pw_below_drewN | apply below_drew1) | exact HB.out)) hb); clear HO_3; clear HB; have HO_3 := n0_; have HO337 := n1_; have HB := n2_; clear n0_ n1_ n2_; clear hb ho14) | ((with_reducible refine gate_builtin (b := .append) (xs := #[.tmp 18, .tmp 19]) rfl ?_); (try (refine gate_guard (by rfl) ?_; dsimp only)); at_builtin; refine Kd.R_append_rows (Kd.int .u8) (w0 := w) w.heap.size rfl (.tmp 18) (.tmp 19) 55 5 (.int .u8 0) 1 rfl Tryd.underlying55 info5 rfl (by decide) (by omega) v336 y335 x3_1 _ _ _ (fun k_ => some k_ ≠ (.slice Ao12 x3_1.length co12 : Value).ownBlock) (fun _ => False) rfl rfl ?aO ?aR (fun _ _ h => h) (fun _ h => h.elim) ?aF ?aB ?aS ?aL ?_; (case aR => repeat (first | exact (Kd.R_reads' HO_3.out).2.2 | (with_reducible refine Kd.C_alloc ?_ _) | (with_reducible refine Kd.C_drewN ?_ _) | (with_reducible refine Kd.C_drew ?_))); (case aB => exact (by repeat (first | (with_reducible first | exact HB.out | apply below_alloc | apply pw_below_drewN | apply below_drew1) | exact HB.out))); (case aF => exact (fun k_ hk => Kd.fresh' (Kd.R_lt (by (with_reducible repeat (first | apply Kd.R_alloc | apply Kd.R_drewN | apply Kd.R_drew)); exact HO_3.out)) k_ hk)); (case aO => exact (by (with_reducible repeat (first | apply Kd.R_alloc | apply Kd.R_drewN | apply Kd.R_drew)); exact Kd.R_mono HO337.out (fun _ hk => hk.2))); (case aS => exact (below_size (by repeat (first | (with_reducible first | exact HB.out | apply below_alloc | apply pw_below_drewN | apply below_drew1) | exact HB.out)))); (case aL => have := LMc11.out; omega); intro v339 w15 ho hb hg hat; rw [← Ny338.out] at ho; have n0_ := Aside0.mk (Kd.R_after (ok := (fun _ => True)) (by (with_reducible repeat (first | apply Kd.R_alloc | apply Kd.R_drewN | apply Kd.R_drew)); exact HO_3.out) hg hat); have n1_ := Aside0.mk (hb); have n2_ := Aside0.mk (ho); clear HO_3; clear HB; clear HO337; have HO_3 := n0_; have HB := n1_; have HO340 := n2_; clear n0_ n1_ n2_; clear ho hb hg hat))
            go_roundg k1
            case measure => have := HK1.out; omega
            case rel => exact ⟨(IntKind.u64.wrap (Int.tdiv x0_1 10)), (y338), (by first | rfl | (simp; done) | (simp [*]; done)), H', ⟨by have := HK1.out; omega⟩, ⟨by (with_reducible repeat (first | apply Kd.R_alloc | apply Kd.R_drewN | apply Kd.R_drew)); exact Kd.R_mono HO340.out (fun _ hk => trivial)⟩, ⟨by repeat (first | (with_reducible first | exact HB.out | apply below_alloc | apply pw_below_drewN | apply below_drew1) | exact HB.out)⟩⟩
          · rw [if_neg c11] at H
            exact absurd H (by simp)
        · rw [if_neg c10] at H
          have c10b0 : ((x3_1.length : Int) == 0) = false := beq_eq_false_iff_ne.mpr c10
          have c10b1 : ((x3_1.length : Int) != 0) = true := bne_iff_ne.mpr c10
          have c10b2 : ¬ (x3_1 = []) := fun h_ => c10 (by rw [h_]; rfl)
          obtain rfl := Option.some.inj H
          obtain ⟨Ao16, co16, eo16⟩ := Kd.R_slice HO_3.out
          subst eo16
          have hcv17 := own_string (P := Tryd.prog) Tryd.underlying55 Tryd.underlying5 Tryd.underlying9 (Kd.own_of_R HO_3.out)
          go_wp2
          go_ret
          exact ⟨by first | rfl | (simp [errW_none, errW_some] <;> rfl) | (simp [*, errW_none, errW_some] <;> rfl), by repeat (first | (with_reducible first | exact HB.out | apply below_alloc | apply pw_below_drewN | apply below_drew1) | exact HB.out)⟩

def spec_Signed.f (k : Nat) (a0 : Int) : Option (ByteArray) := if a0 < 0 then ((spec_decimals.f k (IntKind.u64.wrap (-(IntKind.u64.wrap (a0))))).bind fun t341 => (if 1 + t341.size ≤ 9223372036854775807 then (some ((⟨#[45]⟩ : ByteArray) ++ t341)) else (none))) else ((spec_decimals.f k (IntKind.u64.wrap (a0))).bind fun t342 => (some t342))
set_option maxHeartbeats 8000000 in
set_option maxRecDepth 100000 in
theorem spec_Signed.calls (k : Nat) (a0 : Int) (r : ByteArray) (w : World) (h : spec_Signed.f k a0 = some r) :
    Calls Tryd.prog 8 #[.int .i64 a0] w fun e w' => e = .returned (.string r) ∧ Below w.heap.size w w' := by
  have HB := Aside0.mk (Below.refl w.heap.size w)
  have H : (if a0 < 0 then ((spec_decimals.f k (IntKind.u64.wrap (-(IntKind.u64.wrap (a0))))).bind fun t341 => (if 1 + t341.size ≤ 9223372036854775807 then (some ((⟨#[45]⟩ : ByteArray) ++ t341)) else (none))) else ((spec_decimals.f k (IntKind.u64.wrap (a0))).bind fun t342 => (some t342))) = some r := h
  clear h
  by_cases c2 : a0 < 0
  · rw [if_pos c2] at H
    have c2b0 : decide (a0 < 0) = true := decide_eq_true c2
    clear c2
    replace H := Option.bind_eq_some_iff.mp H
    obtain ⟨t341, A30, H⟩ := H
    replace H : (if 1 + t341.size ≤ 9223372036854775807 then (some ((⟨#[45]⟩ : ByteArray) ++ t341)) else (none)) = some r := H
    have A3 := Aside0.mk A30
    clear A30
    by_cases c4 : 1 + t341.size ≤ 9223372036854775807
    · rw [if_pos c4] at H
      have c4b0 := eq_true c4
      have c4b1 : decide (1 + t341.size ≤ 9223372036854775807) = true := decide_eq_true c4
      try have c4b2 : (9223372036854775807 < 1 + t341.size) = False := eq_false (Nat.not_lt.2 c4)
      obtain rfl := Option.some.inj H
      go_enter Tryd.func8, Tryd.ntmps8
      go_wp2_with (first | ((with_reducible refine gate_callee (f := 18) rfl ?_); refine goesL_ (some 8) rfl rfl Tryd.func18 (by kernel_rfl) rfl #[.int .u64 (IntKind.u64.wrap (-(IntKind.u64.wrap (a0))))] rfl (by (try simp only [List.map_toArray, List.map_cons, List.map_nil]); first | done | rfl | (simp only [List.length_drop, List.length_take]; rfl)) ?_; (with_reducible refine (spec_decimals.calls k (IntKind.u64.wrap (-(IntKind.u64.wrap (a0)))) t341 _ A3.out).mono ?_); rintro e w5 ⟨rfl, hb⟩; refine ⟨_, rfl, ?_⟩; have n0_ := Aside0.mk (below_step (by repeat (first | (with_reducible first | exact HB.out | apply below_alloc | apply pw_below_drewN | apply below_drew1) | exact HB.out)) hb); clear HB; have HB := n0_; clear n0_; (try clear hb); (try clear hb2); (try clear hk); (try clear hi)))
      go_ret
      exact ⟨by first | rfl | (simp [errW_none, errW_some] <;> rfl) | (simp [*, errW_none, errW_some] <;> rfl), by repeat (first | (with_reducible first | exact HB.out | apply below_alloc | apply pw_below_drewN | apply below_drew1) | exact HB.out)⟩
    · rw [if_neg c4] at H
      exact absurd H (by simp)
  · rw [if_neg c2] at H
    have c2b0 : decide (a0 < 0) = false := decide_eq_false c2
    clear c2
    replace H := Option.bind_eq_some_iff.mp H
    obtain ⟨t342, A60, H⟩ := H
    replace H : (some t342) = some r := H
    have A6 := Aside0.mk A60
    clear A60
    obtain rfl := Option.some.inj H
    go_enter Tryd.func8, Tryd.ntmps8
    go_wp2_with (first | ((with_reducible refine gate_callee (f := 18) rfl ?_); refine goesL_ (some 12) rfl rfl Tryd.func18 (by kernel_rfl) rfl #[.int .u64 (IntKind.u64.wrap (a0))] rfl (by (try simp only [List.map_toArray, List.map_cons, List.map_nil]); first | done | rfl | (simp only [List.length_drop, List.length_take]; rfl)) ?_; (with_reducible refine (spec_decimals.calls k (IntKind.u64.wrap (a0)) t342 _ A6.out).mono ?_); rintro e w7 ⟨rfl, hb⟩; refine ⟨_, rfl, ?_⟩; have n0_ := Aside0.mk (below_step (by repeat (first | (with_reducible first | exact HB.out | apply below_alloc | apply pw_below_drewN | apply below_drew1) | exact HB.out)) hb); clear HB; have HB := n0_; clear n0_; (try clear hb); (try clear hb2); (try clear hk); (try clear hi)))
    go_ret
    exact ⟨by first | rfl | (simp [errW_none, errW_some] <;> rfl) | (simp [*, errW_none, errW_some] <;> rfl), by repeat (first | (with_reducible first | exact HB.out | apply below_alloc | apply pw_below_drewN | apply below_drew1) | exact HB.out)⟩

def spec_Unsigned.f (k : Nat) (a0 : Int) : Option (ByteArray) := (spec_decimals.f k a0).bind fun t341 => (some t341)
set_option maxHeartbeats 8000000 in
set_option maxRecDepth 100000 in
theorem spec_Unsigned.calls (k : Nat) (a0 : Int) (r : ByteArray) (w : World) (h : spec_Unsigned.f k a0 = some r) :
    Calls Tryd.prog 13 #[.int .u64 a0] w fun e w' => e = .returned (.string r) ∧ Below w.heap.size w w' := by
  have HB := Aside0.mk (Below.refl w.heap.size w)
  have H : ((spec_decimals.f k a0).bind fun t341 => (some t341)) = some r := h
  clear h
  replace H := Option.bind_eq_some_iff.mp H
  obtain ⟨t341, A20, H⟩ := H
  replace H : (some t341) = some r := H
  have A2 := Aside0.mk A20
  clear A20
  obtain rfl := Option.some.inj H
  go_enter Tryd.func13, Tryd.ntmps13
  go_wp2_with (first | ((with_reducible refine gate_callee (f := 18) rfl ?_); refine goesL_ (some 4) rfl rfl Tryd.func18 (by kernel_rfl) rfl #[.int .u64 a0] rfl (by (try simp only [List.map_toArray, List.map_cons, List.map_nil]); first | done | rfl | (simp only [List.length_drop, List.length_take]; rfl)) ?_; (with_reducible refine (spec_decimals.calls k a0 t341 _ A2.out).mono ?_); rintro e w3 ⟨rfl, hb⟩; refine ⟨_, rfl, ?_⟩; have n0_ := Aside0.mk (below_step (by repeat (first | (with_reducible first | exact HB.out | apply below_alloc | apply pw_below_drewN | apply below_drew1) | exact HB.out)) hb); clear HB; have HB := n0_; clear n0_; (try clear hb); (try clear hb2); (try clear hk); (try clear hi)))
  go_ret
  exact ⟨by first | rfl | (simp [errW_none, errW_some] <;> rfl) | (simp [*, errW_none, errW_some] <;> rfl), by repeat (first | (with_reducible first | exact HB.out | apply below_alloc | apply pw_below_drewN | apply below_drew1) | exact HB.out)⟩

/-- answers r, whenever the fuel is great enough -/
def Ev {α : Type} (g : Nat → Option α) (r : α) : Prop := ∃ K, ∀ k, K ≤ k → g k = some r
theorem Ev.bind {α β : Type} {g : Nat → Option α} {h : Nat → α → Option β} {a : α} {b : β} (h1 : Ev g a) (h2 : Ev (fun k => h k a) b) : Ev (fun k => (g k).bind fun t => h k t) b := by
  obtain ⟨K1, h1⟩ := h1
  obtain ⟨K2, h2⟩ := h2
  refine ⟨K1 + K2, fun k hk => ?_⟩
  have e1 := h1 k (by omega)
  have e2 := h2 k (by omega)
  simp only [e1, Option.bind_some]
  exact e2
theorem Ev.pure {α : Type} (a : α) : Ev (fun _ => some a) a := ⟨0, fun _ _ => rfl⟩
theorem Ev.succ {α : Type} {g f : Nat → Option α} {r : α} (hf : ∀ k, f (k + 1) = g k) (h : Ev g r) : Ev f r := by
  obtain ⟨K, h⟩ := h
  refine ⟨K + 1, fun k hk => ?_⟩
  obtain ⟨j, rfl⟩ : ∃ j, k = j + 1 := ⟨k - 1, by omega⟩
  rw [hf]
  exact h j (by omega)
theorem Ev.congr {α : Type} {g f : Nat → Option α} {r : α} (h : Ev g r) (e : ∀ k, f k = g k) : Ev f r := by
  obtain ⟨K, h⟩ := h
  exact ⟨K, fun k hk => by rw [e]; exact h k hk⟩

/-- the decimal digits of a number, as bytes -/
def dec (n : Nat) : List Int := if h : n < 10 then [((48 + n : Nat) : Int)] else dec (n / 10) ++ [((48 + n % 10 : Nat) : Int)]
termination_by n
decreasing_by omega
theorem dec_lt {n : Nat} (h : n < 10) : dec n = [((48 + n : Nat) : Int)] := by rw [dec, dif_pos h]
theorem dec_ge {n : Nat} (h : 10 ≤ n) : dec n = dec (n / 10) ++ [((48 + n % 10 : Nat) : Int)] := by rw [dec, dif_neg (by omega)]
theorem dec_digit (n : Nat) : ∀ b ∈ dec n, 48 ≤ b ∧ b ≤ 57 := by
  induction n using Nat.strongRecOn with
  | ind n ih =>
    intro b hb
    by_cases h : n < 10
    · rw [dec_lt h] at hb
      simp only [List.mem_singleton] at hb
      omega
    · rw [dec_ge (by omega)] at hb
      rcases List.mem_append.1 hb with hb | hb
      · exact ih _ (by omega) b hb
      · simp only [List.mem_singleton] at hb
        omega
theorem dec_length_pos (n : Nat) : 1 ≤ (dec n).length := by
  by_cases h : n < 10
  · rw [dec_lt h]; simp
  · rw [dec_ge (by omega)]; simp
theorem dec_length_le (d : Nat) : ∀ n, n < 10 ^ (d + 1) → (dec n).length ≤ d + 1 := by
  induction d with
  | zero => intro n h; rw [dec_lt (by simpa using h)]; simp
  | succ d ih =>
    intro n h
    by_cases h1 : n < 10
    · rw [dec_lt h1]; simp
    · rw [dec_ge (by omega), List.length_append]
      have := ih (n / 10) (by rw [Nat.pow_succ] at h; omega)
      simp only [List.length_singleton]
      omega
theorem wrapu (x : Int) (h0 : 0 ≤ x) (h1 : x < 18446744073709551616) : IntKind.u64.wrap x = x := by rw [IntKind.wrap_u64]; omega

theorem decimals_ev (n : Nat) (hn : n < 18446744073709551616) : Ev (fun k => spec_decimals.f k (n : Int)) (strOfNums (dec n)) := by
  have step : ∀ n : Nat, n < 18446744073709551616 → (IntKind.u64.wrap (48 + (Int.tmod (n : Int) 10))) % 256 = ((48 + n % 10 : Nat) : Int) ∧ IntKind.u64.wrap (Int.tdiv (n : Int) 10) = ((n / 10 : Nat) : Int) := by
    intro n hn
    rw [show Int.tmod (n : Int) 10 = ((n % 10 : Nat) : Int) from rfl, show Int.tdiv (n : Int) 10 = ((n / 10 : Nat) : Int) from rfl, wrapu _ (by omega) (by omega), wrapu _ (by omega) (by omega)]
    omega
  have stop : ∀ acc : List Int, acc ≠ [] → Ev (fun k => spec_decimals.l0 k ((0 : Nat) : Int) acc) (strOfNums acc) := by
    intro acc h3
    refine Ev.succ (g := fun _ => some (strOfNums acc)) (fun k => ?_) (Ev.pure _)
    have hl : acc.length ≠ 0 := by simpa using h3
    rw [spec_decimals.l0, if_neg (by omega), if_neg (by omega)]
  have eq : ∀ n acc, n ≠ 0 → (if n / 10 = 0 then [] else dec (n / 10)) ++ (((48 + n % 10 : Nat) : Int) :: acc) = dec n ++ acc := by
    intro n acc h0
    by_cases h : n < 10
    · rw [if_pos (by omega), dec_lt h, Nat.mod_eq_of_lt h]; rfl
    · rw [if_neg (by omega), dec_ge (n := n) (by omega)]; simp
  have main : ∀ (d n : Nat) (acc : List Int), n < 10 ^ d → n < 18446744073709551616 → acc ≠ [] → acc.length + d ≤ 1000 →
      Ev (fun k => spec_decimals.l0 k (n : Int) acc) (strOfNums ((if n = 0 then [] else dec n) ++ acc)) := by
    intro d
    induction d with
    | zero =>
      intro n acc h1 h2 h3 h4
      obtain rfl : n = 0 := by rw [Nat.pow_zero] at h1; omega
      rw [if_pos rfl, List.nil_append]
      exact stop acc h3
    | succ d ih =>
      intro n acc h1 h2 h3 h4
      by_cases h0 : n = 0
      · subst h0
        rw [if_pos rfl, List.nil_append]
        exact stop acc h3
      · have f := ih (n / 10) (((48 + n % 10 : Nat) : Int) :: acc) (by rw [Nat.pow_succ] at h1; omega) (by omega) (by simp) (by simp only [List.length_cons]; omega)
        rw [eq n acc h0] at f
        rw [if_neg h0]
        refine Ev.succ (fun k => ?_) f
        rw [spec_decimals.l0, if_pos (by omega), (step n h2).1, (step n h2).2]
        simp only [Option.bind_some]
        rw [if_pos (by simp only [List.length_cons, List.length_nil]; omega)]
        rfl
  have f := main 20 (n / 10) [((48 + n % 10 : Nat) : Int)] (by omega) (by omega) (by simp) (by simp)
  have e : (if n / 10 = 0 then [] else dec (n / 10)) ++ [((48 + n % 10 : Nat) : Int)] = dec n := by
    by_cases h : n < 10
    · rw [if_pos (by omega), dec_lt h, Nat.mod_eq_of_lt h]; rfl
    · rw [if_neg (by omega), ← dec_ge (n := n) (by omega)]
  rw [e] at f
  refine Ev.succ (fun k => ?_) f
  show spec_decimals.l0 (k + 1) (n : Int) [] = _
  rw [spec_decimals.l0, (step n hn).1, (step n hn).2]
  rw [Option.bind_some, if_pos (c := (([] : List Int).length : Int) = 0) rfl]
  have h2 : ([((48 + n % 10 : Nat) : Int)] : List Int).length + ([] : List Int).length < 140737488355328 := by simp
  rw [if_pos h2, List.append_nil, ite_self]


theorem dec_itoa (n : Nat) : strOfNums (dec n) = ⟨(Lib.decDigits n).toArray⟩ := by
  have h : ∀ n : Nat, (dec n).map (fun b => UInt8.ofNat b.toNat) = Lib.decDigits n := by
    intro n
    induction n using Nat.strongRecOn with
    | ind n ih =>
      rw [Lib.decDigits]
      by_cases h : n < 10
      · rw [dif_pos h, dec_lt h]; rfl
      · rw [dif_neg h, dec_ge (by omega), List.map_append, ih _ (by omega)]; rfl
  unfold strOfNums
  rw [h]
theorem signed_ev (n : Int) (h0 : -9223372036854775808 ≤ n) (h1 : n ≤ 9223372036854775807) : ∃ k, spec_Signed.f k n = some ⟨(Lib.itoa n).toArray⟩ := by
  by_cases hn : n < 0
  · have e1 : IntKind.u64.wrap (-(IntKind.u64.wrap n)) = ((n.natAbs : Nat) : Int) := by
      rw [IntKind.wrap_u64, IntKind.wrap_u64]; omega
    obtain ⟨K, h⟩ := decimals_ev n.natAbs (by omega)
    have hk := h K (Nat.le_refl _)
    dsimp only at hk
    refine ⟨K, ?_⟩
    have hsz : (strOfNums (dec n.natAbs)).size ≤ 100 := by
      rw [strOfNums_size]
      have := dec_length_le 19 n.natAbs (Nat.lt_of_le_of_lt (show n.natAbs ≤ 9223372036854775808 by omega) (by decide))
      omega
    rw [spec_Signed.f, if_pos hn, e1, hk, Option.bind_some, if_pos (by omega)]
    unfold Lib.itoa
    rw [if_pos hn, dec_itoa]
    rfl
  · have e1 : IntKind.u64.wrap n = ((n.toNat : Nat) : Int) := by
      rw [IntKind.wrap_u64]; omega
    obtain ⟨K, h⟩ := decimals_ev n.toNat (by omega)
    have hk := h K (Nat.le_refl _)
    dsimp only at hk
    refine ⟨K, ?_⟩
    rw [spec_Signed.f, if_neg hn, e1, hk, Option.bind_some]
    unfold Lib.itoa
    rw [if_neg hn, dec_itoa]
end Go.Proofs.YtokkjljncoiajaaDoor
