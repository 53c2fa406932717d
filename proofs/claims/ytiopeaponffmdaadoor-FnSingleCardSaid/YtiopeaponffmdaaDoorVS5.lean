/- The texts of a proof, its declarations alone: part 5. -/
import Derived.Test.YtiopeaponffmdaaDoorVS4
set_option linter.unusedVariables false
set_option linter.unusedSimpArgs false
-- YtiopeaponffmdaaDoorPAllx22
namespace Go.Proofs.YtiopeaponffmdaaDoor.PAll
open Go.RowKit Go.Proofs.YtiopeaponffmdaaDoorW.PrintWords Go.Proofs.YtiopeaponffmdaaDoorW.PrintLast Go.Proofs.YtiopeaponffmdaaDoorW.PrintMore
attribute [local go_sem] max2_int min2_int max_two min_two max_three min_three max_four min_four   -- for this text's walks alone
set_option linter.unusedVariables false
set_option linter.unusedSimpArgs false

mutual
def spec_Add.l0 : Nat → List Int → List Int → List Int → Int → Int → Option (List Int)
  | 0, _, _, _, _, _ => none
  | k + 1, x0, x1, x5, x6, x7 => if x7 < (x0.length : Int) then (spec_Add.j1 k x0 x1 x5 x6 x7 true) else (if x7 < (x1.length : Int) then (spec_Add.j1 k x0 x1 x5 x6 x7 true) else (spec_Add.j1 k x0 x1 x5 x6 x7 (decide (x6 > 0))))
def spec_Add.j1 : Nat → List Int → List Int → List Int → Int → Int → Bool → Option (List Int)
  | 0, _, _, _, _, _, _ => none
  | k + 1, x0, x1, x5, x6, x7, x22 => if x22 = true then (if x7 < (x0.length : Int) then (if 0 ≤ x7 then (if x7 < (x1.length : Int) then (if x5.length < 35184372088832 then (spec_Add.l0 k x0 x1 (x5 ++ [(IntKind.u64.wrap ((IntKind.u64.wrap (x6 + (IntKind.u64.wrap (rd x0 x7)))) + (IntKind.u64.wrap (rd x1 x7)))) % 4294967296]) ((IntKind.u64.wrap ((IntKind.u64.wrap (x6 + (IntKind.u64.wrap (rd x0 x7)))) + (IntKind.u64.wrap (rd x1 x7)))) / 4294967296) (wrap64 (x7 + 1))) else (none)) else (if x5.length < 35184372088832 then (spec_Add.l0 k x0 x1 (x5 ++ [(IntKind.u64.wrap (x6 + (IntKind.u64.wrap (rd x0 x7)))) % 4294967296]) ((IntKind.u64.wrap (x6 + (IntKind.u64.wrap (rd x0 x7)))) / 4294967296) (wrap64 (x7 + 1))) else (none))) else (none)) else (if x7 < (x1.length : Int) then (if 0 ≤ x7 then (if x5.length < 35184372088832 then (spec_Add.l0 k x0 x1 (x5 ++ [(IntKind.u64.wrap (x6 + (IntKind.u64.wrap (rd x1 x7)))) % 4294967296]) ((IntKind.u64.wrap (x6 + (IntKind.u64.wrap (rd x1 x7)))) / 4294967296) (wrap64 (x7 + 1))) else (none)) else (none)) else (if x5.length < 35184372088832 then (spec_Add.l0 k x0 x1 (x5 ++ [(x6) % 4294967296]) (x6 / 4294967296) (wrap64 (x7 + 1))) else (none)))) else ((spec_trim.f k x5).bind fun t391 => (some t391))
end
def spec_Add.f (k : Nat) (l0 : List Int) (l1 : List Int) : Option (List Int) := spec_Add.l0 k l0 l1 (([] : List Int)) 0 0
theorem spec_Add.mono_l : ∀ k, (∀ y0 y1 y2 y3 y4, LeO (spec_Add.l0 k y0 y1 y2 y3 y4) (spec_Add.l0 (k + 1) y0 y1 y2 y3 y4)) ∧ (∀ y0 y1 y2 y3 y4 y5, LeO (spec_Add.j1 k y0 y1 y2 y3 y4 y5) (spec_Add.j1 (k + 1) y0 y1 y2 y3 y4 y5))
  | 0 => ⟨fun _ _ _ _ _ r h => by simp [spec_Add.l0] at h, fun _ _ _ _ _ _ r h => by simp [spec_Add.j1] at h⟩
  | k + 1 => by
    obtain ⟨ih0, ih1⟩ := spec_Add.mono_l k
    refine ⟨?_, ?_⟩
    · intro y0 y1 y2 y3 y4
      unfold spec_Add.l0
      repeat' first
      | (with_reducible exact ih0 _ _ _ _ _)
      | (with_reducible exact ih1 _ _ _ _ _ _)
      | (with_reducible exact spec_trim.mono _ _)
      | (with_reducible exact LeO.refl _)
      | (with_reducible exact LeO.none _)
      | (with_reducible refine LeO.ite ?_ ?_)
      | (with_reducible refine LeO.bind ?_ (fun _ => ?_))
      | exact ih0 _ _ _ _ _
      | exact ih1 _ _ _ _ _ _
      | exact spec_trim.mono _ _
      | exact LeO.none _
      | refine LeO.ite ?_ ?_
      | refine LeO.bind ?_ (fun _ => ?_)
    · intro y0 y1 y2 y3 y4 y5
      unfold spec_Add.j1
      repeat' first
      | (with_reducible exact ih0 _ _ _ _ _)
      | (with_reducible exact ih1 _ _ _ _ _ _)
      | (with_reducible exact spec_trim.mono _ _)
      | (with_reducible exact LeO.refl _)
      | (with_reducible exact LeO.none _)
      | (with_reducible refine LeO.ite ?_ ?_)
      | (with_reducible refine LeO.bind ?_ (fun _ => ?_))
      | exact ih0 _ _ _ _ _
      | exact ih1 _ _ _ _ _ _
      | exact spec_trim.mono _ _
      | exact LeO.none _
      | refine LeO.ite ?_ ?_
      | refine LeO.bind ?_ (fun _ => ?_)
theorem spec_Add.mono : ∀ a0 a1 k, LeO (spec_Add.f k a0 a1) (spec_Add.f (k + 1) a0 a1) := by
  intro a0 a1 k
  obtain ⟨ih0, ih1⟩ := spec_Add.mono_l k
  unfold spec_Add.f
  repeat' first
      | (with_reducible exact ih0 _ _ _ _ _)
      | (with_reducible exact ih1 _ _ _ _ _ _)
      | (with_reducible exact spec_trim.mono _ _)
      | (with_reducible exact LeO.refl _)
      | (with_reducible exact LeO.none _)
      | (with_reducible refine LeO.ite ?_ ?_)
      | (with_reducible refine LeO.bind ?_ (fun _ => ?_))
      | exact ih0 _ _ _ _ _
      | exact ih1 _ _ _ _ _ _
      | exact spec_trim.mono _ _
      | exact LeO.none _
      | refine LeO.ite ?_ ?_
      | refine LeO.bind ?_ (fun _ => ?_)
set_option maxHeartbeats 8000000 in
set_option maxRecDepth 100000 in
theorem spec_Add.calls (k : Nat) (A0 : Option Addr) (c0 : Nat) (l0 : List Int) (A1 : Option Addr) (c1 : Nat) (l1 : List Int) (r : List Int) (w : World) (hr0 : Kd.C (Kd.int .u32) w A0 l0.length l0) (hc0 : l0.length ≤ c0) (hr1 : Kd.C (Kd.int .u32) w A1 l1.length l1) (hc1 : l1.length ≤ c1) (h : spec_Add.f k l0 l1 = some r) :
    Calls Tryd.prog 30 #[.slice A0 l0.length c0, .slice A1 l1.length c1] w fun e w' => ∃ v0_ : Value, e = .returned (v0_) ∧ Kd.R (Kd.int .u32) 47 w' w.heap.size (fun _ => True) v0_ r ∧ Below w.heap.size w w' := by
  have HR0 := Aside0.mk hr0
  have HC0 := Aside0.mk hc0
  clear hr0 hc0
  have HR1 := Aside0.mk hr1
  have HC1 := Aside0.mk hc1
  clear hr1 hc1
  have HB := Aside0.mk (Below.refl w.heap.size w)
  have H : (spec_Add.l0 k l0 l1 (([] : List Int)) 0 0) = some r := h
  clear h
  obtain ⟨y388, hy388⟩ : ∃ y_ : List Int, y_ = (([] : List Int)) := ⟨_, rfl⟩
  replace H : (spec_Add.l0 k l0 l1 y388 0 0) = some r := by first | (rw [hy388]; with_reducible exact H) | (have H2_ := (Option.bind_some _ _).symm.trans H; rw [hy388]; with_reducible exact H2_) | (have H2_ := (Option.bind_some _ _).symm.trans H; with_reducible exact H2_) | with_reducible exact H | (rw [hy388]; exact H) | exact H
  have Ny388 := Aside0.mk hy388
  clear hy388
  have H' := Aside0.mk H
  clear H
  go_enter Tryd.func30, Tryd.ntmps30
  go_wp2_with (first | ((with_reducible refine gate_dst (N := 8) rfl ?_); (try (refine gate_guard (by rfl) ?_; dsimp only)); refine Kd.R_lit (Kd.int .u32) _ 47 ?hg (N := 8) ?hd (xs := ([] : List Int)) (inner := []) (ok := fun _ => True) (okp := fun _ => True) ?hr ?hp (fun _ hk => hk) trivial (Below.refl _ _) (Nat.le_refl _) (by simp) ?_; (case hd => rfl); (case hg => rfl); (case hr => first | (go_simp; done) | (go_simp; rfl)); (case hp => exact (Reps.none _ _)); intro v389 w3 ho4 hb hg_ hnew_; clear hg_ hnew_; (first | rw [← Ny388.out] at ho4 | (simp only [Int.reduceToNat] at ho4; rw [← Ny388.out] at ho4)); have n0_ := Aside0.mk (Kd.R_lower ho4 (below_size (by repeat (first | (with_reducible first | exact HB.out | apply below_alloc | apply pw_below_drewN | apply below_drew1) | exact HB.out)))); have n1_ := Aside0.mk (below_step (by repeat (first | (with_reducible first | exact HB.out | apply below_alloc | apply pw_below_drewN | apply below_drew1) | exact HB.out)) hb); clear HB; have HO390 := n0_; have HB := n1_; clear n0_ n1_; clear hb ho4))
  go_loopg [5, 6, 7] k (fun kq v5 v6 v7 w' => ∃ (x5_1 : List Int) (x6_1 : Int) (x7_1 : Int), v6 = .int .u64 x6_1 ∧ v7 = .int .i64 x7_1 ∧ Aside0 (spec_Add.l0 kq l0 l1 x5_1 x6_1 x7_1 = some r) ∧ Aside0 (kq ≤ k) ∧ Aside0 (Kd.R (Kd.int .u32) 47 w' w.heap.size (fun _ => True) v5 x5_1) ∧ Aside0 (Below w.heap.size w w'))
  case atStart => exact ⟨(y388), (0), (0), (by first | rfl | (simp; done) | (simp [*]; done)), (by first | rfl | (simp; done) | (simp [*]; done)), H', ⟨Nat.le_refl _⟩, ⟨by (with_reducible repeat (first | apply Kd.R_alloc | apply Kd.R_drewN | apply Kd.R_drew)); exact HO390.out⟩, ⟨by repeat (first | (with_reducible first | exact HB.out | apply below_alloc | apply pw_below_drewN | apply below_drew1) | exact HB.out)⟩⟩
  case round =>
    clear H'
    try clear c1
    try clear p2
    try clear c3
    obtain ⟨x5_1, x6_1, x7_1, rfl, rfl, HA, HK1, HO_5, HB⟩ := hrel
    cases gk with
    | zero => exact absurd HA.out (by simp [spec_Add.l0])
    | succ k1 =>
      have H := HA.out
      clear HA
      simp only [spec_Add.l0] at H
      have HC5 := Aside0.mk H
      clear H
      go_upto_region 4 with (fail)
      go_cut [22] (fun v22 wc => ∃ (kq : Nat) (x22_4 : Bool), v22 = .bool x22_4 ∧ Aside0 (spec_Add.j1 kq l0 l1 x5_1 x6_1 x7_1 x22_4 = some r) ∧ Aside0 (kq ≤ k1) ∧ Aside0 (Kd.R (Kd.int .u32) 47 wc w.heap.size (fun _ => True) u5 x5_1) ∧ Aside0 (Below w.heap.size w wc))
      case first =>
        have H := HC5.out
        clear HC5
        by_cases c6 : x7_1 < (l0.length : Int)
        · rw [if_pos c6] at H
          have c6b0 : decide (x7_1 < (l0.length : Int)) = true := decide_eq_true c6
          clear c6
          (first | rw [c6b0] | (simp only [i64_w, i32_w]; rw [c6b0]) | skip)
          have H' := Aside0.mk H
          clear H
          go_wp2
          go_meet
          case rel => exact ⟨_, (true), (by first | rfl | (simp; done) | (simp [*]; done)), H', ⟨by have := HK1.out; first | omega | exact Nat.le_refl _⟩, ⟨by (with_reducible repeat (first | apply Kd.R_alloc | apply Kd.R_drewN | apply Kd.R_drew)); exact HO_5.out⟩, ⟨by repeat (first | (with_reducible first | exact HB.out | apply below_alloc | apply pw_below_drewN | apply below_drew1) | exact HB.out)⟩⟩
        · rw [if_neg c6] at H
          have c6b0 : decide (x7_1 < (l0.length : Int)) = false := decide_eq_false c6
          clear c6
          (first | rw [c6b0] | (simp only [i64_w, i32_w]; rw [c6b0]) | skip)
          by_cases c7 : x7_1 < (l1.length : Int)
          · rw [if_pos c7] at H
            have c7b0 : decide (x7_1 < (l1.length : Int)) = true := decide_eq_true c7
            clear c7
            have H' := Aside0.mk H
            clear H
            go_wp2
            go_meet
            case rel => exact ⟨_, (true), (by first | rfl | (simp; done) | (simp [*]; done)), H', ⟨by have := HK1.out; first | omega | exact Nat.le_refl _⟩, ⟨by (with_reducible repeat (first | apply Kd.R_alloc | apply Kd.R_drewN | apply Kd.R_drew)); exact HO_5.out⟩, ⟨by repeat (first | (with_reducible first | exact HB.out | apply below_alloc | apply pw_below_drewN | apply below_drew1) | exact HB.out)⟩⟩
          · rw [if_neg c7] at H
            have c7b0 : decide (x7_1 < (l1.length : Int)) = false := decide_eq_false c7
            clear c7
            have H' := Aside0.mk H
            clear H
            go_wp2
            go_meet
            case rel => exact ⟨_, (decide (x6_1 > 0)), (by first | rfl | (simp; done) | (simp [*]; done)), H', ⟨by have := HK1.out; first | omega | exact Nat.le_refl _⟩, ⟨by (with_reducible repeat (first | apply Kd.R_alloc | apply Kd.R_drewN | apply Kd.R_drew)); exact HO_5.out⟩, ⟨by repeat (first | (with_reducible first | exact HB.out | apply below_alloc | apply pw_below_drewN | apply below_drew1) | exact HB.out)⟩⟩
      case rest =>
        clear HC5
        try clear c1
        try clear p2
        try clear c3
        try clear c6
        try clear c6b0
        try clear c7
        try clear c7b0
        try clear p2
        obtain ⟨kq, x22_4, rfl, HA, HJ4, HO_5, HB⟩ := hcut
        cases kq with
        | zero => exact absurd HA.out (by simp [spec_Add.j1])
        | succ kj4 =>
          have H := HA.out
          clear HA
          simp only [spec_Add.j1] at H
          by_cases c8 : x22_4 = true
          · subst c8
            have H1 : (if x7_1 < (l0.length : Int) then (if 0 ≤ x7_1 then (if x7_1 < (l1.length : Int) then (if x5_1.length < 35184372088832 then (spec_Add.l0 kj4 l0 l1 (x5_1 ++ [(IntKind.u64.wrap ((IntKind.u64.wrap (x6_1 + (IntKind.u64.wrap (rd l0 x7_1)))) + (IntKind.u64.wrap (rd l1 x7_1)))) % 4294967296]) ((IntKind.u64.wrap ((IntKind.u64.wrap (x6_1 + (IntKind.u64.wrap (rd l0 x7_1)))) + (IntKind.u64.wrap (rd l1 x7_1)))) / 4294967296) (wrap64 (x7_1 + 1))) else (none)) else (if x5_1.length < 35184372088832 then (spec_Add.l0 kj4 l0 l1 (x5_1 ++ [(IntKind.u64.wrap (x6_1 + (IntKind.u64.wrap (rd l0 x7_1)))) % 4294967296]) ((IntKind.u64.wrap (x6_1 + (IntKind.u64.wrap (rd l0 x7_1)))) / 4294967296) (wrap64 (x7_1 + 1))) else (none))) else (none)) else (if x7_1 < (l1.length : Int) then (if 0 ≤ x7_1 then (if x5_1.length < 35184372088832 then (spec_Add.l0 kj4 l0 l1 (x5_1 ++ [(IntKind.u64.wrap (x6_1 + (IntKind.u64.wrap (rd l1 x7_1)))) % 4294967296]) ((IntKind.u64.wrap (x6_1 + (IntKind.u64.wrap (rd l1 x7_1)))) / 4294967296) (wrap64 (x7_1 + 1))) else (none)) else (none)) else (if x5_1.length < 35184372088832 then (spec_Add.l0 kj4 l0 l1 (x5_1 ++ [(x6_1) % 4294967296]) (x6_1 / 4294967296) (wrap64 (x7_1 + 1))) else (none)))) = some r := by rw [if_pos rfl] at H; exact H
            clear H
            have H := H1
            clear H1
            by_cases c9 : x7_1 < (l0.length : Int)
            · rw [if_pos c9] at H
              have c9b0 : decide (x7_1 < (l0.length : Int)) = true := decide_eq_true c9
              clear c9
              by_cases c10 : 0 ≤ x7_1
              · rw [if_pos c10] at H
                have c10b0 : decide (0 ≤ x7_1) = true := decide_eq_true c10
                clear c10
                by_cases c11 : x7_1 < (l1.length : Int)
                · rw [if_pos c11] at H
                  have c11b0 : decide (x7_1 < (l1.length : Int)) = true := decide_eq_true c11
                  clear c11
                  by_cases c12 : x5_1.length < 35184372088832
                  · rw [if_pos c12] at H
                    have LMc12 := Aside0.mk c12
                    clear c12
                    obtain ⟨y396, hy396⟩ : ∃ y_ : List Int, y_ = (x5_1 ++ [(IntKind.u64.wrap ((IntKind.u64.wrap (x6_1 + (IntKind.u64.wrap (rd l0 x7_1)))) + (IntKind.u64.wrap (rd l1 x7_1)))) % 4294967296]) := ⟨_, rfl⟩
                    replace H : (spec_Add.l0 kj4 l0 l1 y396 ((IntKind.u64.wrap ((IntKind.u64.wrap (x6_1 + (IntKind.u64.wrap (rd l0 x7_1)))) + (IntKind.u64.wrap (rd l1 x7_1)))) / 4294967296) (wrap64 (x7_1 + 1))) = some r := by first | (rw [hy396]; with_reducible exact H) | (have H2_ := (Option.bind_some _ _).symm.trans H; rw [hy396]; with_reducible exact H2_) | (have H2_ := (Option.bind_some _ _).symm.trans H; with_reducible exact H2_) | with_reducible exact H | (rw [hy396]; exact H) | exact H
                    have Ny396 := Aside0.mk hy396
                    clear hy396
                    have H' := Aside0.mk H
                    clear H
                    have p394 : 0 ≤ (x7_1 : Int) := of_decide_eq_true (by first | (with_reducible assumption) | assumption)
                    have q394 : x7_1 < (l0.length : Int) := of_decide_eq_true (by first | (with_reducible assumption) | assumption)
                    obtain ⟨ad394, e394, hx394_0⟩ := Kd.at_int HR0.out x7_1 p394 q394
                    cases e394
                    replace hx394_0 := (HB.out.cell (World.block_lt_of_cell? w _ hx394_0)).trans hx394_0
                    replace p394 := eq_true p394
                    replace q394 := eq_true q394
                    have p395 : 0 ≤ (x7_1 : Int) := of_decide_eq_true (by first | (with_reducible assumption) | assumption)
                    have q395 : x7_1 < (l1.length : Int) := of_decide_eq_true (by first | (with_reducible assumption) | assumption)
                    obtain ⟨ad395, e395, hx395_0⟩ := Kd.at_int HR1.out x7_1 p395 q395
                    cases e395
                    replace hx395_0 := (HB.out.cell (World.block_lt_of_cell? w _ hx395_0)).trans hx395_0
                    replace p395 := eq_true p395
                    replace q395 := eq_true q395
                    go_wp2_with (first | ((with_reducible refine gate_builtin (b := .append) (xs := #[.tmp 47, .tmp 50]) rfl ?_); (try (refine gate_guard (by rfl) ?_; dsimp only)); at_builtin; refine Kd.R_append (Kd.int .u32) (w0 := w) w.heap.size rfl (.tmp 47) (.tmp 50) 58 47 (.int .u32 0) 4 rfl Tryd.underlying58 info47 rfl (by decide) (by omega) u5 x5_1 ((IntKind.u64.wrap ((IntKind.u64.wrap (x6_1 + (IntKind.u64.wrap (rd l0 x7_1)))) + (IntKind.u64.wrap (rd l1 x7_1)))) % 4294967296) [.int .u32 ((IntKind.u64.wrap ((IntKind.u64.wrap (x6_1 + (IntKind.u64.wrap (rd l0 x7_1)))) + (IntKind.u64.wrap (rd l1 x7_1)))) % 4294967296)] (fun _ => True) (fun _ => False) rfl rfl ?aP (fun _ hk => hk.elim) ?aF ?aO ?aB ?aS ?aL ?_; (case aP => exact rfl); (case aB => exact (by repeat (first | (with_reducible first | exact HB.out | apply below_alloc | apply pw_below_drewN | apply below_drew1) | exact HB.out))); (case aF => exact (fun _ _ => trivial)); (case aO => exact (by (with_reducible repeat (first | apply Kd.R_alloc | apply Kd.R_drewN | apply Kd.R_drew)); exact HO_5.out)); (case aS => exact (below_size (by repeat (first | (with_reducible first | exact HB.out | apply below_alloc | apply pw_below_drewN | apply below_drew1) | exact HB.out)))); (case aL => have := LMc12.out; omega); intro v397 w13 ho hb hg hat; rw [← Ny396.out] at ho; have n0_ := Aside0.mk (hb); have n1_ := Aside0.mk (ho); clear HB; clear HO_5; have HB := n0_; have HO398 := n1_; clear n0_ n1_; clear ho hb hg hat))
                    go_roundg kj4
                    case measure => have := HK1.out; have := HJ4.out; omega
                    case rel => exact ⟨(y396), ((IntKind.u64.wrap ((IntKind.u64.wrap (x6_1 + (IntKind.u64.wrap (rd l0 x7_1)))) + (IntKind.u64.wrap (rd l1 x7_1)))) / 4294967296), (wrap64 (x7_1 + 1)), (by first | rfl | (simp; done) | (simp [*]; done)), (by first | rfl | (simp; done) | (simp [*]; done)), H', ⟨by have := HK1.out; have := HJ4.out; omega⟩, ⟨by (with_reducible repeat (first | apply Kd.R_alloc | apply Kd.R_drewN | apply Kd.R_drew)); exact HO398.out⟩, ⟨by repeat (first | (with_reducible first | exact HB.out | apply below_alloc | apply pw_below_drewN | apply below_drew1) | exact HB.out)⟩⟩
                  · rw [if_neg c12] at H
                    exact absurd H (by simp)
                · rw [if_neg c11] at H
                  have c11b0 : decide (x7_1 < (l1.length : Int)) = false := decide_eq_false c11
                  clear c11
                  by_cases c14 : x5_1.length < 35184372088832
                  · rw [if_pos c14] at H
                    have LMc14 := Aside0.mk c14
                    clear c14
                    obtain ⟨y399, hy399⟩ : ∃ y_ : List Int, y_ = (x5_1 ++ [(IntKind.u64.wrap (x6_1 + (IntKind.u64.wrap (rd l0 x7_1)))) % 4294967296]) := ⟨_, rfl⟩
                    replace H : (spec_Add.l0 kj4 l0 l1 y399 ((IntKind.u64.wrap (x6_1 + (IntKind.u64.wrap (rd l0 x7_1)))) / 4294967296) (wrap64 (x7_1 + 1))) = some r := by first | (rw [hy399]; with_reducible exact H) | (have H2_ := (Option.bind_some _ _).symm.trans H; rw [hy399]; with_reducible exact H2_) | (have H2_ := (Option.bind_some _ _).symm.trans H; with_reducible exact H2_) | with_reducible exact H | (rw [hy399]; exact H) | exact H
                    have Ny399 := Aside0.mk hy399
                    clear hy399
                    have H' := Aside0.mk H
                    clear H
                    have p394 : 0 ≤ (x7_1 : Int) := of_decide_eq_true (by first | (with_reducible assumption) | assumption)
                    have q394 : x7_1 < (l0.length : Int) := of_decide_eq_true (by first | (with_reducible assumption) | assumption)
                    obtain ⟨ad394, e394, hx394_0⟩ := Kd.at_int HR0.out x7_1 p394 q394
                    cases e394
                    replace hx394_0 := (HB.out.cell (World.block_lt_of_cell? w _ hx394_0)).trans hx394_0
                    replace p394 := eq_true p394
                    replace q394 := eq_true q394
                    go_wp2_with (first | ((with_reducible refine gate_builtin (b := .append) (xs := #[.tmp 47, .tmp 50]) rfl ?_); (try (refine gate_guard (by rfl) ?_; dsimp only)); at_builtin; refine Kd.R_append (Kd.int .u32) (w0 := w) w.heap.size rfl (.tmp 47) (.tmp 50) 58 47 (.int .u32 0) 4 rfl Tryd.underlying58 info47 rfl (by decide) (by omega) u5 x5_1 ((IntKind.u64.wrap (x6_1 + (IntKind.u64.wrap (rd l0 x7_1)))) % 4294967296) [.int .u32 ((IntKind.u64.wrap (x6_1 + (IntKind.u64.wrap (rd l0 x7_1)))) % 4294967296)] (fun _ => True) (fun _ => False) rfl rfl ?aP (fun _ hk => hk.elim) ?aF ?aO ?aB ?aS ?aL ?_; (case aP => exact rfl); (case aB => exact (by repeat (first | (with_reducible first | exact HB.out | apply below_alloc | apply pw_below_drewN | apply below_drew1) | exact HB.out))); (case aF => exact (fun _ _ => trivial)); (case aO => exact (by (with_reducible repeat (first | apply Kd.R_alloc | apply Kd.R_drewN | apply Kd.R_drew)); exact HO_5.out)); (case aS => exact (below_size (by repeat (first | (with_reducible first | exact HB.out | apply below_alloc | apply pw_below_drewN | apply below_drew1) | exact HB.out)))); (case aL => have := LMc14.out; omega); intro v400 w15 ho hb hg hat; rw [← Ny399.out] at ho; have n0_ := Aside0.mk (hb); have n1_ := Aside0.mk (ho); clear HB; clear HO_5; have HB := n0_; have HO401 := n1_; clear n0_ n1_; clear ho hb hg hat))
                    go_roundg kj4
                    case measure => have := HK1.out; have := HJ4.out; omega
                    case rel => exact ⟨(y399), ((IntKind.u64.wrap (x6_1 + (IntKind.u64.wrap (rd l0 x7_1)))) / 4294967296), (wrap64 (x7_1 + 1)), (by first | rfl | (simp; done) | (simp [*]; done)), (by first | rfl | (simp; done) | (simp [*]; done)), H', ⟨by have := HK1.out; have := HJ4.out; omega⟩, ⟨by (with_reducible repeat (first | apply Kd.R_alloc | apply Kd.R_drewN | apply Kd.R_drew)); exact HO401.out⟩, ⟨by repeat (first | (with_reducible first | exact HB.out | apply below_alloc | apply pw_below_drewN | apply below_drew1) | exact HB.out)⟩⟩
                  · rw [if_neg c14] at H
                    exact absurd H (by simp)
              · rw [if_neg c10] at H
                exact absurd H (by simp)
            · rw [if_neg c9] at H
              have c9b0 : decide (x7_1 < (l0.length : Int)) = false := decide_eq_false c9
              clear c9
              by_cases c16 : x7_1 < (l1.length : Int)
              · rw [if_pos c16] at H
                have c16b0 : decide (x7_1 < (l1.length : Int)) = true := decide_eq_true c16
                clear c16
                by_cases c17 : 0 ≤ x7_1
                · rw [if_pos c17] at H
                  have c17b0 : decide (0 ≤ x7_1) = true := decide_eq_true c17
                  clear c17
                  by_cases c18 : x5_1.length < 35184372088832
                  · rw [if_pos c18] at H
                    have LMc18 := Aside0.mk c18
                    clear c18
                    obtain ⟨y403, hy403⟩ : ∃ y_ : List Int, y_ = (x5_1 ++ [(IntKind.u64.wrap (x6_1 + (IntKind.u64.wrap (rd l1 x7_1)))) % 4294967296]) := ⟨_, rfl⟩
                    replace H : (spec_Add.l0 kj4 l0 l1 y403 ((IntKind.u64.wrap (x6_1 + (IntKind.u64.wrap (rd l1 x7_1)))) / 4294967296) (wrap64 (x7_1 + 1))) = some r := by first | (rw [hy403]; with_reducible exact H) | (have H2_ := (Option.bind_some _ _).symm.trans H; rw [hy403]; with_reducible exact H2_) | (have H2_ := (Option.bind_some _ _).symm.trans H; with_reducible exact H2_) | with_reducible exact H | (rw [hy403]; exact H) | exact H
                    have Ny403 := Aside0.mk hy403
                    clear hy403
                    have H' := Aside0.mk H
                    clear H
                    have p402 : 0 ≤ (x7_1 : Int) := of_decide_eq_true (by first | (with_reducible assumption) | assumption)
                    have q402 : x7_1 < (l1.length : Int) := of_decide_eq_true (by first | (with_reducible assumption) | assumption)
                    obtain ⟨ad402, e402, hx402_0⟩ := Kd.at_int HR1.out x7_1 p402 q402
                    cases e402
                    replace hx402_0 := (HB.out.cell (World.block_lt_of_cell? w _ hx402_0)).trans hx402_0
                    replace p402 := eq_true p402
                    replace q402 := eq_true q402
                    go_wp2_with (first | ((with_reducible refine gate_builtin (b := .append) (xs := #[.tmp 47, .tmp 50]) rfl ?_); (try (refine gate_guard (by rfl) ?_; dsimp only)); at_builtin; refine Kd.R_append (Kd.int .u32) (w0 := w) w.heap.size rfl (.tmp 47) (.tmp 50) 58 47 (.int .u32 0) 4 rfl Tryd.underlying58 info47 rfl (by decide) (by omega) u5 x5_1 ((IntKind.u64.wrap (x6_1 + (IntKind.u64.wrap (rd l1 x7_1)))) % 4294967296) [.int .u32 ((IntKind.u64.wrap (x6_1 + (IntKind.u64.wrap (rd l1 x7_1)))) % 4294967296)] (fun _ => True) (fun _ => False) rfl rfl ?aP (fun _ hk => hk.elim) ?aF ?aO ?aB ?aS ?aL ?_; (case aP => exact rfl); (case aB => exact (by repeat (first | (with_reducible first | exact HB.out | apply below_alloc | apply pw_below_drewN | apply below_drew1) | exact HB.out))); (case aF => exact (fun _ _ => trivial)); (case aO => exact (by (with_reducible repeat (first | apply Kd.R_alloc | apply Kd.R_drewN | apply Kd.R_drew)); exact HO_5.out)); (case aS => exact (below_size (by repeat (first | (with_reducible first | exact HB.out | apply below_alloc | apply pw_below_drewN | apply below_drew1) | exact HB.out)))); (case aL => have := LMc18.out; omega); intro v404 w19 ho hb hg hat; rw [← Ny403.out] at ho; have n0_ := Aside0.mk (hb); have n1_ := Aside0.mk (ho); clear HB; clear HO_5; have HB := n0_; have HO405 := n1_; clear n0_ n1_; clear ho hb hg hat))
                    go_roundg kj4
                    case measure => have := HK1.out; have := HJ4.out; omega
                    case rel => exact ⟨(y403), ((IntKind.u64.wrap (x6_1 + (IntKind.u64.wrap (rd l1 x7_1)))) / 4294967296), (wrap64 (x7_1 + 1)), (by first | rfl | (simp; done) | (simp [*]; done)), (by first | rfl | (simp; done) | (simp [*]; done)), H', ⟨by have := HK1.out; have := HJ4.out; omega⟩, ⟨by (with_reducible repeat (first | apply Kd.R_alloc | apply Kd.R_drewN | apply Kd.R_drew)); exact HO405.out⟩, ⟨by repeat (first | (with_reducible first | exact HB.out | apply below_alloc | apply pw_below_drewN | apply below_drew1) | exact HB.out)⟩⟩
                  · rw [if_neg c18] at H
                    exact absurd H (by simp)
                · rw [if_neg c17] at H
                  exact absurd H (by simp)
              · rw [if_neg c16] at H
                have c16b0 : decide (x7_1 < (l1.length : Int)) = false := decide_eq_false c16
                clear c16
                by_cases c20 : x5_1.length < 35184372088832
                · rw [if_pos c20] at H
                  have LMc20 := Aside0.mk c20
                  clear c20
                  obtain ⟨y406, hy406⟩ : ∃ y_ : List Int, y_ = (x5_1 ++ [(x6_1) % 4294967296]) := ⟨_, rfl⟩
                  replace H : (spec_Add.l0 kj4 l0 l1 y406 (x6_1 / 4294967296) (wrap64 (x7_1 + 1))) = some r := by first | (rw [hy406]; with_reducible exact H) | (have H2_ := (Option.bind_some _ _).symm.trans H; rw [hy406]; with_reducible exact H2_) | (have H2_ := (Option.bind_some _ _).symm.trans H; with_reducible exact H2_) | with_reducible exact H | (rw [hy406]; exact H) | exact H
                  have Ny406 := Aside0.mk hy406
                  clear hy406
                  have H' := Aside0.mk H
                  clear H
                  go_wp2_with (first | ((with_reducible refine gate_builtin (b := .append) (xs := #[.tmp 47, .tmp 50]) rfl ?_); (try (refine gate_guard (by rfl) ?_; dsimp only)); at_builtin; refine Kd.R_append (Kd.int .u32) (w0 := w) w.heap.size rfl (.tmp 47) (.tmp 50) 58 47 (.int .u32 0) 4 rfl Tryd.underlying58 info47 rfl (by decide) (by omega) u5 x5_1 ((x6_1) % 4294967296) [.int .u32 ((x6_1) % 4294967296)] (fun _ => True) (fun _ => False) rfl rfl ?aP (fun _ hk => hk.elim) ?aF ?aO ?aB ?aS ?aL ?_; (case aP => exact rfl); (case aB => exact (by repeat (first | (with_reducible first | exact HB.out | apply below_alloc | apply pw_below_drewN | apply below_drew1) | exact HB.out))); (case aF => exact (fun _ _ => trivial)); (case aO => exact (by (with_reducible repeat (first | apply Kd.R_alloc | apply Kd.R_drewN | apply Kd.R_drew)); exact HO_5.out)); (case aS => exact (below_size (by repeat (first | (with_reducible first | exact HB.out | apply below_alloc | apply pw_below_drewN | apply below_drew1) | exact HB.out)))); (case aL => have := LMc20.out; omega); intro v407 w21 ho hb hg hat; rw [← Ny406.out] at ho; have n0_ := Aside0.mk (hb); have n1_ := Aside0.mk (ho); clear HB; clear HO_5; have HB := n0_; have HO408 := n1_; clear n0_ n1_; clear ho hb hg hat))
                  go_roundg kj4
                  case measure => have := HK1.out; have := HJ4.out; omega
                  case rel => exact ⟨(y406), (x6_1 / 4294967296), (wrap64 (x7_1 + 1)), (by first | rfl | (simp; done) | (simp [*]; done)), (by first | rfl | (simp; done) | (simp [*]; done)), H', ⟨by have := HK1.out; have := HJ4.out; omega⟩, ⟨by (with_reducible repeat (first | apply Kd.R_alloc | apply Kd.R_drewN | apply Kd.R_drew)); exact HO408.out⟩, ⟨by repeat (first | (with_reducible first | exact HB.out | apply below_alloc | apply pw_below_drewN | apply below_drew1) | exact HB.out)⟩⟩
                · rw [if_neg c20] at H
                  exact absurd H (by simp)
          · replace c8 := Bool.eq_false_iff.mpr c8
            subst c8
            have H1 : ((spec_trim.f kj4 x5_1).bind fun t391 => (some t391)) = some r := by rw [if_neg (show ¬ (false = true) by decide)] at H; exact H
            clear H
            have H := H1
            clear H1
            replace H := Option.bind_eq_some_iff.mp H
            obtain ⟨t391, A220, H⟩ := H
            replace H : (some t391) = some r := H
            have A22 := Aside0.mk A220
            clear A220
            obtain rfl := Option.some.inj H
            obtain ⟨Ao23, co23, eo23⟩ := Kd.R_slice HO_5.out
            subst eo23
            go_wp2_with (first | ((with_reducible refine gate_callee (f := 40) rfl ?_); refine goesL_ (some 55) rfl rfl Tryd.func40 (by kernel_rfl) rfl #[.slice Ao23 x5_1.length co23] rfl (by (try simp only [List.map_toArray, List.map_cons, List.map_nil]); first | done | rfl | (simp only [List.length_drop, List.length_take]; rfl)) ?_; (with_reducible refine (spec_trim.calls kj4 (fun k_ => some k_ = (.slice Ao23 x5_1.length co23 : Value).ownBlock) (.slice Ao23 x5_1.length co23) x5_1 t391 w _ ?side1 ?side2 A22.out).mono ?_); (case side1 => repeat (first | (with_reducible first | exact HB.out | apply below_alloc | apply pw_below_drewN | apply below_drew1) | exact HB.out)); (case side2 => exact Kd.R_tight rfl HO_5.out); rintro e w24 ⟨v392, rfl, ho0, hb, hkp⟩; refine ⟨_, rfl, ?_⟩; have n0_ := Aside0.mk (Kd.R_mono (ok' := fun k_ => True) ho0 (fun k_ hk_ => trivial)); have n1_ := Aside0.mk (hb); clear HB; clear HO_5; have HO393 := n0_; have HB := n1_; clear n0_ n1_; (try clear hb); (try clear hkp); (try clear ho0)))
            go_ret
            exact ⟨_, by first | rfl | (simp [errW_none, errW_some] <;> rfl) | (simp [*, errW_none, errW_some] <;> rfl), by (with_reducible repeat (first | apply Kd.R_alloc | apply Kd.R_drewN | apply Kd.R_drew)); exact HO393.out, by repeat (first | (with_reducible first | exact HB.out | apply below_alloc | apply pw_below_drewN | apply below_drew1) | exact HB.out)⟩

end Go.Proofs.YtiopeaponffmdaaDoor.PAll
-- YtiopeaponffmdaaDoorNa
namespace Go.Proofs.YtiopeaponffmdaaDoor.PAll
open Go.RowKit Go.Proofs.YtiopeaponffmdaaDoorW.PrintWords Go.Proofs.YtiopeaponffmdaaDoorW.PrintLast Go.Proofs.YtiopeaponffmdaaDoorW.PrintMore

/-- answers r, whenever the fuel is great enough -/
def Ev {α : Type} (g : Nat → Option α) (r : α) : Prop := ∃ K, ∀ k, K ≤ k → g k = some r
theorem Ev.bind {α β : Type} {g : Nat → Option α} {h : Nat → α → Option β} {a : α} {b : β} (h1 : Ev g a) (h2 : Ev (fun k => h k a) b) : Ev (fun k => (g k).bind fun t => h k t) b := by
  obtain ⟨K1, h1⟩ := h1
  obtain ⟨K2, h2⟩ := h2
  refine ⟨K1 + K2, fun k hk => ?_⟩
  have e1 := h1 k (by omega)
  have e2 := h2 k (by omega)
  simp only [e1, Option.bind_some]
  exact e2
theorem Ev.pure {α : Type} (a : α) : Ev (fun _ => some a) a := ⟨0, fun _ _ => rfl⟩
theorem Ev.succ {α : Type} {g f : Nat → Option α} {r : α} (hf : ∀ k, f (k + 1) = g k) (h : Ev g r) : Ev f r := by
  obtain ⟨K, h⟩ := h
  refine ⟨K + 1, fun k hk => ?_⟩
  obtain ⟨j, rfl⟩ : ∃ j, k = j + 1 := ⟨k - 1, by omega⟩
  rw [hf]
  exact h j (by omega)
theorem Ev.congr {α : Type} {g f : Nat → Option α} {r : α} (h : Ev g r) (e : ∀ k, f k = g k) : Ev f r := by
  obtain ⟨K, h⟩ := h
  exact ⟨K, fun k hk => by rw [e]; exact h k hk⟩

/-- the digits of a number -/
def dg (n : Nat) : List Int := if h : n = 0 then [] else ((n % 4294967296 : Nat) : Int) :: dg (n / 4294967296)
termination_by n
decreasing_by omega
theorem dg_zero : dg 0 = [] := by rw [dg]; simp
theorem dg_pos {n : Nat} (h : 0 < n) : dg n = ((n % 4294967296 : Nat) : Int) :: dg (n / 4294967296) := by
  rw [dg, dif_neg (by omega)]
def nv : List Int → Nat
  | [] => 0
  | d :: r => d.toNat + 4294967296 * nv r
def Dg (l : List Int) : Prop := ∀ d ∈ l, 0 ≤ d ∧ d < 4294967296
theorem Dg.nil : Dg [] := fun _ h => by cases h
theorem Dg.cons {d : Int} {l : List Int} (h0 : 0 ≤ d) (h1 : d < 4294967296) (h : Dg l) : Dg (d :: l) := fun x hx => by
  rcases List.mem_cons.1 hx with rfl | hx
  · exact ⟨h0, h1⟩
  · exact h x hx
theorem Dg.tail {d : Int} {l : List Int} (h : Dg (d :: l)) : Dg l := fun x hx => h x (List.mem_cons_of_mem _ hx)
theorem Dg.head {d : Int} {l : List Int} (h : Dg (d :: l)) : 0 ≤ d ∧ d < 4294967296 := h d List.mem_cons_self
theorem Dg.append {l r : List Int} (h : Dg l) (h2 : Dg r) : Dg (l ++ r) := fun x hx => by
  rcases List.mem_append.1 hx with hx | hx
  · exact h x hx
  · exact h2 x hx
theorem Dg.take {l : List Int} (h : Dg l) (n : Nat) : Dg (l.take n) := fun x hx => h x (List.mem_of_mem_take hx)
theorem nv_dg (n : Nat) : nv (dg n) = n := by
  induction n using Nat.strongRecOn with
  | ind n ih =>
    by_cases h : n = 0
    · subst h; rw [dg_zero]; rfl
    · rw [dg_pos (by omega), nv, ih _ (by omega), Int.toNat_natCast]
      omega
theorem Dg_dg (n : Nat) : Dg (dg n) := by
  induction n using Nat.strongRecOn with
  | ind n ih =>
    by_cases h : n = 0
    · subst h; rw [dg_zero]; exact Dg.nil
    · rw [dg_pos (by omega)]
      exact Dg.cons (by omega) (by omega) (ih _ (by omega))
theorem nv_append (l r : List Int) : nv (l ++ r) = nv l + 4294967296 ^ l.length * nv r := by
  induction l with
  | nil => simp [nv]
  | cons d l ih =>
    simp only [List.cons_append, nv, ih, List.length_cons, Nat.pow_succ]
    grind
theorem nv_lt {l : List Int} (h : Dg l) : nv l < 4294967296 ^ l.length := by
  induction l with
  | nil => simp [nv]
  | cons d l ih =>
    have h1 := ih h.tail
    have h2 := h.head
    simp only [nv, List.length_cons, Nat.pow_succ]
    omega
theorem dg_nv {l : List Int} (h : Dg l) (hl : ∀ q d, l = q ++ [d] → d ≠ 0) : dg (nv l) = l := by
  induction l with
  | nil => exact dg_zero
  | cons d l ih =>
    have h2 := h.head
    have ht : dg (nv l) = l := ih h.tail (fun q e hq => hl (d :: q) e (by rw [hq]; rfl))
    have hp : 0 < nv (d :: l) := by
      rcases l with _ | ⟨x, l⟩
      · have := hl [] d rfl
        simp only [nv]; omega
      · have : nv (x :: l) ≠ 0 := fun h0 => by rw [h0, dg_zero] at ht; cases ht
        rw [nv]; omega
    rw [dg_pos hp]
    have e1 : nv (d :: l) % 4294967296 = d.toNat := by rw [nv]; omega
    have e2 : nv (d :: l) / 4294967296 = nv l := by rw [nv]; omega
    rw [e1, e2, ht]
    congr 1
    omega
theorem dg_length {n m : Nat} (h : n < 4294967296 ^ m) : (dg n).length ≤ m := by
  induction n using Nat.strongRecOn generalizing m with
  | ind n ih =>
    by_cases h0 : n = 0
    · subst h0; rw [dg_zero]; simp
    · rcases m with _ | m
      · simp at h; omega
      · rw [dg_pos (by omega), List.length_cons]
        have : n / 4294967296 < 4294967296 ^ m := by
          rw [Nat.pow_succ] at h; omega
        have := ih _ (by omega) this
        omega
theorem lt_dg_length (n : Nat) : n < 4294967296 ^ (dg n).length := by
  have := nv_lt (Dg_dg n)
  rwa [nv_dg] at this

theorem trim_ev {l : List Int} (h : Dg l) (hl : l.length < 4611686018427387904) : Ev (fun k => spec_trim.f k l) (dg (nv l)) := by
  have main : ∀ i : Nat, i ≤ l.length → Ev (fun k => spec_trim.l0 k l (i : Int)) (dg (nv (l.take i))) := by
    intro i
    induction i with
    | zero =>
      intro _
      refine Ev.succ (g := fun _ => some []) (fun k => ?_) (by rw [List.take_zero]; simp only [nv, dg_zero]; exact Ev.pure _)
      rw [spec_trim.l0]
      simp
    | succ i ih =>
      intro hi
      have hw : wrap64 (((i + 1 : Nat) : Int) - 1) = (i : Int) := by unfold wrap64; omega
      have e1 : l.take (i + 1) = l.take i ++ [rd l (i : Int)] := by
        rw [List.take_add_one, List.getElem?_eq_getElem (by omega)]
        simp [rd, List.getD, List.getElem?_eq_getElem (show i < l.length by omega)]
      have hr := (h.take (i + 1)) (rd l (i : Int)) (by rw [e1]; simp)
      by_cases hz : rd l (i : Int) = 0
      · have e2 : nv (l.take (i + 1)) = nv (l.take i) := by rw [e1, nv_append, hz]; simp [nv]
        rw [e2]
        refine Ev.succ (fun k => ?_) (ih (by omega))
        rw [spec_trim.l0, hw, if_pos (by omega), if_pos (by omega), if_pos (by omega), if_pos hz]
      · have e3 : dg (nv (l.take (i + 1))) = l.take (i + 1) := by
          refine dg_nv (h.take _) (fun q d hq => ?_)
          rw [e1] at hq
          have := List.append_inj' hq rfl
          have h2 := this.2
          simp only [List.cons.injEq, and_true] at h2
          rw [← h2]; exact hz
        rw [e3]
        refine Ev.succ (g := fun _ => some (l.take (i + 1))) (fun k => ?_) (Ev.pure _)
        rw [spec_trim.l0, hw, if_pos (by omega), if_pos (by omega), if_pos (by omega), if_neg hz, if_pos (by omega), if_pos (by omega)]
        rfl
  have := main l.length (Nat.le_refl _)
  rw [List.take_length] at this
  exact this

/-- Times: the rounds -/
theorem Times_ev (x0 : List Int) (b m : Nat) (h : Dg x0) (hl : x0.length ≤ 1000000) (hb : b < 4294967296) (hm : m < 4294967296) :
    Ev (fun k => spec_Times.f k x0 (b : Int) (m : Int)) (dg (nv x0 * b + m)) := by
  have hu : ∀ x : Int, 0 ≤ x → x < 18446744073709551616 → IntKind.u64.wrap x = x := fun x h0 h1 => by rw [IntKind.wrap_u64]; omega
  -- the end: out is there, the carry spent
  have fin : ∀ (out : List Int) (i : Nat), x0.length ≤ i → i ≤ 1000010 → Dg out → out.length = i →
      Ev (fun k => spec_Times.l0 k x0 (b : Int) out 0 (i : Int)) (dg (nv out)) := by
    intro out i hi hi2 ho hlo
    refine Ev.succ (g := fun k => spec_Times.j1 k x0 (b : Int) out 0 (i : Int) false) (fun k => ?_) ?_
    · rw [spec_Times.l0, if_neg (by omega)]; rfl
    · refine Ev.succ (g := fun k => (spec_trim.f k out).bind fun t => some t) (fun k => ?_) ?_
      · rw [spec_Times.j1, if_neg (by decide)]
      · exact Ev.bind (trim_ev ho (by omega)) (Ev.pure _)
  have main : ∀ (n : Nat) (i c : Nat) (out : List Int), x0.length = i + n → i ≤ 1000000 → Dg out → out.length = i → c < 4294967296 →
      Ev (fun k => spec_Times.l0 k x0 (b : Int) out (c : Int) (i : Int)) (dg (nv out + 4294967296 ^ i * (nv (x0.drop i) * b + c))) := by
    intro n
    induction n with
    | zero =>
      intro i c out hn hi ho hlo hc
      have hd : x0.drop i = [] := List.drop_eq_nil_of_le (by omega)
      rw [hd]
      by_cases hc0 : c = 0
      · subst hc0
        have := fin out i (by omega) (by omega) ho hlo
        simpa [nv] using this
      · refine Ev.succ (g := fun k => spec_Times.j1 k x0 (b : Int) out (c : Int) (i : Int) true) (fun k => ?_) ?_
        · rw [spec_Times.l0, if_neg (by omega)]
          rw [show decide ((c : Int) > 0) = true by rw [decide_eq_true_iff]; omega]
        · have f := fin (out ++ [(c : Int)]) (i + 1) (by omega) (by omega) (ho.append (Dg.cons (by omega) (by omega) Dg.nil)) (by simp [hlo])
          rw [nv_append, hlo] at f
          refine Ev.succ (fun k => ?_) (show Ev _ (dg (nv out + 4294967296 ^ i * (nv [] * b + c))) from (by simpa [nv] using f))
          rw [spec_Times.j1, if_pos rfl, if_neg (by omega), if_pos (by omega)]
          have e1 : (c : Int) % 4294967296 = (c : Int) := by omega
          have e2 : (c : Int) / 4294967296 = 0 := by omega
          have e3 : wrap64 ((i : Int) + 1) = ((i + 1 : Nat) : Int) := by unfold wrap64; omega
          rw [e1, e2, e3]
          rfl
    | succ n ih =>
      intro i c out hn hi ho hlo hc
      have hil : i < x0.length := by omega
      obtain ⟨d, hd⟩ : ∃ d : Nat, rd x0 (i : Int) = (d : Int) ∧ d < 4294967296 := by
        have := h (rd x0 (i : Int)) (by simp [rd, List.getD, List.getElem?_eq_getElem hil])
        exact ⟨(rd x0 (i : Int)).toNat, by omega, by omega⟩
      obtain ⟨hd, hd2⟩ := hd
      have hdrop : x0.drop i = (d : Int) :: x0.drop (i + 1) := by
        rw [List.drop_eq_getElem_cons hil]
        congr 1
        rw [← hd]; simp [rd, List.getD, List.getElem?_eq_getElem hil]
      have hdb : d * b ≤ 4294967295 * 4294967295 := Nat.mul_le_mul (by omega) (by omega)
      obtain ⟨t, ht⟩ : ∃ t, t = c + d * b := ⟨_, rfl⟩
      have ht2 : t < 18446744073709551616 := by omega
      have ew : IntKind.u64.wrap ((c : Int) + (IntKind.u64.wrap ((IntKind.u64.wrap (rd x0 (i : Int))) * (IntKind.u64.wrap ((b : Int)))))) = (t : Int) := by
        rw [hd, hu (d : Int) (by omega) (by omega), hu (b : Int) (by omega) (by omega), ← Int.natCast_mul, hu ((d * b : Nat) : Int) (by omega) (by omega), ← Int.natCast_add, ← ht, hu _ (by omega) (by omega)]
      have f := ih (i + 1) (t / 4294967296) (out ++ [((t % 4294967296 : Nat) : Int)]) (by omega) (by omega) (ho.append (Dg.cons (by omega) (by omega) Dg.nil)) (by simp [hlo]) (by omega)
      have ev : nv (out ++ [((t % 4294967296 : Nat) : Int)]) + 4294967296 ^ (i + 1) * (nv (x0.drop (i + 1)) * b + t / 4294967296) = nv out + 4294967296 ^ i * (nv (x0.drop i) * b + c) := by
        rw [nv_append, hlo, hdrop, Nat.pow_succ]
        simp only [nv, Int.toNat_natCast]
        have e := Nat.div_add_mod t 4294967296
        generalize 4294967296 ^ i = P
        have : t % 4294967296 + 4294967296 * (t / 4294967296) = c + d * b := by omega
        grind
      rw [ev] at f
      refine Ev.succ (g := fun k => spec_Times.j1 k x0 (b : Int) out (c : Int) (i : Int) true) (fun k => ?_) ?_
      · rw [spec_Times.l0, if_pos (by omega)]
      · refine Ev.succ (fun k => ?_) f
        rw [spec_Times.j1, if_pos rfl, if_pos (by omega), if_pos (by omega), if_pos (by omega), ew]
        have e3 : wrap64 ((i : Int) + 1) = ((i + 1 : Nat) : Int) := by unfold wrap64; omega
        rw [e3]
        rfl
  have := main x0.length 0 m [] (by omega) (by omega) Dg.nil rfl hm
  refine Ev.congr (by simpa [nv] using this) (fun k => ?_)
  show spec_Times.l0 k x0 (b : Int) [] (IntKind.u64.wrap (m : Int)) 0 = _
  rw [hu (m : Int) (by omega) (by omega)]

theorem Tens_ev (x0 : List Int) (by' : Nat) (h : Dg x0) (hl : x0.length + by' ≤ 1000000) :
    Ev (fun k => spec_Tens.f k x0 (by' : Int)) (if by' = 0 then x0 else dg (nv x0 * 10 ^ by')) := by
  have main : ∀ (n i : Nat) (x : List Int), by' = i + n → Dg x → x.length + n ≤ 1000000 →
      Ev (fun k => spec_Tens.l0 k x (by' : Int) (i : Int)) (if n = 0 then x else dg (nv x * 10 ^ n)) := by
    intro n
    induction n with
    | zero =>
      intro i x hn hx hl
      refine Ev.succ (g := fun _ => some x) (fun k => ?_) (by simpa using Ev.pure x)
      rw [spec_Tens.l0, if_neg (by omega)]
    | succ n ih =>
      intro i x hn hx hl
      have hlen : (dg (nv x * 10 + 0)).length ≤ x.length + 1 := by
        refine dg_length ?_
        have := nv_lt hx
        rw [Nat.pow_succ]
        omega
      have f := ih (i + 1) (dg (nv x * 10 + 0)) (by omega) (Dg_dg _) (by omega)
      have e : (if n = 0 then dg (nv x * 10 + 0) else dg (nv (dg (nv x * 10 + 0)) * 10 ^ n)) = dg (nv x * 10 ^ (n + 1)) := by
        rw [nv_dg]
        split
        · rename_i h0; subst h0; simp
        · rw [Nat.pow_succ]; congr 1; simp only [Nat.add_zero]; grind
      rw [e] at f
      rw [if_neg (by omega)]
      refine Ev.succ (g := fun k => (spec_Times.f k x ((10 : Nat) : Int) ((0 : Nat) : Int)).bind fun t => spec_Tens.l0 k t (by' : Int) (wrap64 ((i : Int) + 1))) (fun k => ?_) ?_
      · rw [spec_Tens.l0, if_pos (by omega)]; rfl
      · have e3 : wrap64 ((i : Int) + 1) = ((i + 1 : Nat) : Int) := by unfold wrap64; omega
        rw [e3]
        exact Ev.bind (Times_ev x 10 0 hx (by omega) (by decide) (by decide)) f
  exact main by' 0 x0 (by omega) h (by omega)

theorem shl32 (j : Nat) (hj : j < 32) : shl .u32 1 (j : Int) = ((2 ^ j : Nat) : Int) := by
  have : ∀ j : Fin 32, shl .u32 1 (j.val : Int) = ((2 ^ j.val : Nat) : Int) := by decide +kernel
  exact this ⟨j, hj⟩

theorem nv_replicate (n : Nat) : nv (List.replicate n 0) = 0 := by
  induction n with
  | zero => rfl
  | succ n ih => rw [List.replicate_succ, nv, ih]; rfl

theorem Shifted_ev (x0 : List Int) (s : Nat) (h : Dg x0) (hl : x0.length ≤ 100000) (hs : s ≤ 100000) :
    Ev (fun k => spec_Shifted.f k x0 (s : Int)) (dg (nv x0 * 2 ^ s)) := by
  have loop : ∀ (n i : Nat) (out x : List Int), x.length = i + n → Dg out → Dg x → out.length + n ≤ 1000000 → x.length ≤ 1000000 →
      Ev (fun k => spec_Shifted.l0 k out x (x.length : Int) (i : Int)) (dg (nv (out ++ x.drop i))) := by
    intro n
    induction n with
    | zero =>
      intro i out x hn ho hx hl hl2
      rw [List.drop_eq_nil_of_le (by omega), List.append_nil]
      refine Ev.succ (g := fun k => (spec_trim.f k out).bind fun t => some t) (fun k => ?_) ?_
      · rw [spec_Shifted.l0, if_neg (by omega)]
      · exact Ev.bind (trim_ev ho (by omega)) (Ev.pure _)
    | succ n ih =>
      intro i out x hn ho hx hl hl2
      have hil : i < x.length := by omega
      have hdrop : x.drop i = rd x (i : Int) :: x.drop (i + 1) := by
        rw [List.drop_eq_getElem_cons hil]
        congr 1
        simp [rd, List.getD, List.getElem?_eq_getElem hil]
      have hr := hx (rd x (i : Int)) (by simp [rd, List.getD, List.getElem?_eq_getElem hil])
      have f := ih (i + 1) (out ++ [rd x (i : Int)]) x (by omega) (ho.append (Dg.cons hr.1 hr.2 Dg.nil)) hx (by simp; omega) hl2
      rw [List.append_assoc, List.singleton_append, ← hdrop] at f
      refine Ev.succ (fun k => ?_) f
      have e3 : wrap64 ((i : Int) + 1) = ((i + 1 : Nat) : Int) := by unfold wrap64; omega
      rw [spec_Shifted.l0, if_pos (by omega), if_pos (by omega), if_pos (by omega), if_pos (by omega), e3]
  have e1 : wrap64 (Int.tdiv (s : Int) 32) = ((s / 32 : Nat) : Int) := by
    rw [show Int.tdiv (s : Int) 32 = ((s / 32 : Nat) : Int) from rfl]
    unfold wrap64; omega
  have e2 : Int.tmod (s : Int) 32 = ((s % 32 : Nat) : Int) := rfl
  have hT := Times_ev x0 (2 ^ (s % 32)) 0 h (by omega) (Nat.lt_of_le_of_lt (Nat.pow_le_pow_right (by decide) (show s % 32 ≤ 31 by omega)) (by decide)) (by decide)
  rw [Nat.add_zero] at hT
  have hlen : (dg (nv x0 * 2 ^ (s % 32))).length ≤ x0.length + 1 := by
    refine dg_length ?_
    have h1 := nv_lt h
    have h2 : 2 ^ (s % 32) ≤ 2 ^ 32 := Nat.pow_le_pow_right (by decide) (by omega)
    rw [Nat.pow_succ]
    calc nv x0 * 2 ^ (s % 32) ≤ nv x0 * 2 ^ 32 := Nat.mul_le_mul_left _ h2
      _ < 4294967296 ^ x0.length * 4294967296 := by
        rw [show (2 : Nat) ^ 32 = 4294967296 by decide]; omega
  have f := loop (dg (nv x0 * 2 ^ (s % 32))).length 0 (List.replicate (s / 32) 0) (dg (nv x0 * 2 ^ (s % 32))) (by omega) (fun d hd => by have := (List.mem_replicate.1 hd).2; omega) (Dg_dg _) (by simp; omega) (by omega)
  have ev : nv (List.replicate (s / 32) 0 ++ List.drop 0 (dg (nv x0 * 2 ^ (s % 32)))) = nv x0 * 2 ^ s := by
    rw [nv_append, nv_replicate, List.drop_zero, nv_dg, List.length_replicate]
    rw [show 4294967296 = 2 ^ 32 by decide, ← Nat.pow_mul, Nat.zero_add, Nat.mul_left_comm, ← Nat.pow_add]
    congr 2
    omega
  rw [ev] at f
  refine Ev.congr (Ev.bind (h := fun k t => spec_Shifted.l0 k (List.replicate (s / 32) 0) t (t.length : Int) ((0 : Nat) : Int)) hT f) (fun k => ?_)
  rw [spec_Shifted.f, e1, e2, if_pos (by omega), if_pos (by rw [Int.toNat_natCast]; omega), if_pos (by omega), shl32 _ (by omega), Int.toNat_natCast]
  rfl

end Go.Proofs.YtiopeaponffmdaaDoor.PAll
-- YtiopeaponffmdaaDoorPAllx14
namespace Go.Proofs.YtiopeaponffmdaaDoor.PAll
open Go.RowKit Go.Proofs.YtiopeaponffmdaaDoorW.PrintWords Go.Proofs.YtiopeaponffmdaaDoorW.PrintLast Go.Proofs.YtiopeaponffmdaaDoorW.PrintMore
attribute [local go_sem] max2_int min2_int max_two min_two max_three min_three max_four min_four   -- for this text's walks alone
set_option linter.unusedVariables false
set_option linter.unusedSimpArgs false

def spec_Form_least.f (a0_0 : Int) (a0_1 : Int) : Option (Int) := if a0_0 = 52 then (some 1074) else (some 149)
set_option maxHeartbeats 8000000 in
set_option maxRecDepth 100000 in
theorem spec_Form_least.calls (a0_0 : Int) (a0_1 : Int) (r : Int) (w : World) (h : spec_Form_least.f a0_0 a0_1 = some r) :
    Calls Tryd.prog 37 #[.agg #[.int .i64 a0_0, .int .u64 a0_1]] w fun e w' => e = .returned (.int .i64 r) ∧ Below w.heap.size w w' := by
  have hu31 := Tryd.underlying31
  have HB := Aside0.mk (Below.refl w.heap.size w)
  have H : (if a0_0 = 52 then (some 1074) else (some 149)) = some r := h
  clear h
  by_cases c2 : a0_0 = 52
  · rw [if_pos c2] at H
    have c2b0 : (a0_0 == 52) = true := beq_iff_eq.mpr c2
    have c2b1 : (a0_0 != 52) = false := bne_eq_false_iff_eq.mpr c2
    clear c2
    obtain rfl := Option.some.inj H
    go_enter Tryd.func37, Tryd.ntmps37
    go_wp2_with (first | ((with_reducible refine gate_dst (N := 1) rfl ?_); refine box_event ?hg (N := 1) ?hd (cs := #[.int .i64 a0_0, .int .u64 a0_1]) (t := 31) ?hr ?_; (case hd => rfl); (case hg => rfl); (case hr => first | (go_simp; done) | (go_simp; rfl)); intro gb312 hg w3 hbox hb; have n0_ := Aside0.mk (below_step (by repeat (first | (with_reducible first | exact HB.out | apply below_alloc | apply pw_below_drewN | apply below_drew1) | exact HB.out)) hb); have n1_ := Aside0.mk (hbox); have n2_ := Aside0.mk ((by rw [hg]; exact (below_size (by repeat (first | (with_reducible first | exact HB.out | apply below_alloc | apply pw_below_drewN | apply below_drew1) | exact HB.out))) : w.heap.size ≤ gb312)); have n3_ := Aside0.mk ((by rw [hg]; exact (below_size (by repeat (first | (with_reducible first | exact HB.out | apply below_alloc | apply pw_below_drewN | apply below_drew1) | exact HB.out))) : w.heap.size ≤ gb312)); clear HB; have HB := n0_; have BK312 := n1_; have GW312 := n2_; have GE312 := n3_; clear n0_ n1_ n2_ n3_; clear hb hbox hg; have hcz4_0 : w3.cell? ⟨gb312, 0, none⟩ = some (.int .i64 a0_0) := (blk_cell BK312.out 0).trans rfl; have hcz4_1 : w3.cell? ⟨gb312, 1, none⟩ = some (.int .u64 a0_1) := (blk_cell BK312.out 1).trans rfl; have hfz4_0 := blk_frozen BK312.out 0; have hfz4_1 := blk_frozen BK312.out 1))
    go_ret
    exact ⟨by first | rfl | (simp [errW_none, errW_some] <;> rfl) | (simp [*, errW_none, errW_some] <;> rfl), by repeat (first | (with_reducible first | exact HB.out | apply below_alloc | apply pw_below_drewN | apply below_drew1 | refine below_set ?_ GE312.out) | exact HB.out)⟩
  · rw [if_neg c2] at H
    have c2b0 : (a0_0 == 52) = false := beq_eq_false_iff_ne.mpr c2
    have c2b1 : (a0_0 != 52) = true := bne_iff_ne.mpr c2
    obtain rfl := Option.some.inj H
    go_enter Tryd.func37, Tryd.ntmps37
    go_wp2_with (first | ((with_reducible refine gate_dst (N := 1) rfl ?_); refine box_event ?hg (N := 1) ?hd (cs := #[.int .i64 a0_0, .int .u64 a0_1]) (t := 31) ?hr ?_; (case hd => rfl); (case hg => rfl); (case hr => first | (go_simp; done) | (go_simp; rfl)); intro gb312 hg w5 hbox hb; have n0_ := Aside0.mk (below_step (by repeat (first | (with_reducible first | exact HB.out | apply below_alloc | apply pw_below_drewN | apply below_drew1) | exact HB.out)) hb); have n1_ := Aside0.mk (hbox); have n2_ := Aside0.mk ((by rw [hg]; exact (below_size (by repeat (first | (with_reducible first | exact HB.out | apply below_alloc | apply pw_below_drewN | apply below_drew1) | exact HB.out))) : w.heap.size ≤ gb312)); have n3_ := Aside0.mk ((by rw [hg]; exact (below_size (by repeat (first | (with_reducible first | exact HB.out | apply below_alloc | apply pw_below_drewN | apply below_drew1) | exact HB.out))) : w.heap.size ≤ gb312)); clear HB; have HB := n0_; have BK312 := n1_; have GW312 := n2_; have GE312 := n3_; clear n0_ n1_ n2_ n3_; clear hb hbox hg; have hcz6_0 : w5.cell? ⟨gb312, 0, none⟩ = some (.int .i64 a0_0) := (blk_cell BK312.out 0).trans rfl; have hcz6_1 : w5.cell? ⟨gb312, 1, none⟩ = some (.int .u64 a0_1) := (blk_cell BK312.out 1).trans rfl; have hfz6_0 := blk_frozen BK312.out 0; have hfz6_1 := blk_frozen BK312.out 1))
    go_ret
    exact ⟨by first | rfl | (simp [errW_none, errW_some] <;> rfl) | (simp [*, errW_none, errW_some] <;> rfl), by repeat (first | (with_reducible first | exact HB.out | apply below_alloc | apply pw_below_drewN | apply below_drew1 | refine below_set ?_ GE312.out) | exact HB.out)⟩

end Go.Proofs.YtiopeaponffmdaaDoor.PAll
