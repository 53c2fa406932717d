/- The texts of a proof, its declarations alone: part 9. -/
import Derived.Test.YtiopeaponffmdaaDoorVU3
import Derived.Test.YtiopeaponffmdaaDoorVU8
set_option linter.unusedVariables false
set_option linter.unusedSimpArgs false
-- YtiopeaponffmdaaDoorFe
namespace Go.Proofs.YtiopeaponffmdaaDoor.PAll
open Go.RowKit Go.Proofs.YtiopeaponffmdaaDoorW.PrintWords Go.Proofs.YtiopeaponffmdaaDoorW.PrintLast Go.Proofs.YtiopeaponffmdaaDoorW.PrintMore
attribute [local go_sem] max2_int min2_int max_two min_two max_three min_three max_four min_four   -- for this text's walks alone
set_option linter.unusedVariables false
set_option linter.unusedSimpArgs false
/-- fmtEFG behind its sign: the format e -/
def fmtE.f (k : Nat) (l0 : List Int) (a1 : Bool) (l2 : List Int) (a3 a4 a5 : Int) : Option (List Int) := if a1 = true then (if l0.length < 140737488355328 then (strconv_fmtEFG.j7 k (l0 ++ [45]) l2 a3 a4 a5 101) else (none)) else (strconv_fmtEFG.j7 k l0 l2 a3 a4 a5 101)
set_option maxHeartbeats 8000000 in
set_option maxRecDepth 100000 in
theorem fmtE.calls (k : Nat) (P0_ : Nat → Prop) (u9000_ : Value) (l0 : List Int) (a1 : Bool) (A2 : Option Addr) (c2 : Nat) (l2 : List Int) (a3 : Int) (a4 : Int) (a5 : Int) (a7 : Bool) (r : List Int) (w0 w : World) (hB : Below w0.heap.size w0 w) (ho0 : RM 5 w w0.heap.size P0_ u9000_ l0) (hr2 : ∀ W_, Kept w W_ (fun k_ => P0_ k_) → Kd.C (Kd.int .u8) W_ A2 l2.length l2) (hc2 : l2.length ≤ c2) (h : fmtE.f k l0 a1 l2 a3 a4 a5 = some r) :
    Calls Tryd.prog 56 #[u9000_, .bool a1, .slice A2 l2.length c2, .int .i64 a3, .int .i64 a4, .int .i64 a5, .int .u8 101, .bool a7] w fun e w' => ∃ v0_ : Value, e = .returned (v0_) ∧ RM 5 w' w0.heap.size (fun k_ => (P0_ k_ ∨ w.heap.size ≤ k_)) v0_ r ∧ Below w0.heap.size w0 w' ∧ Kept w w' (fun k_ => P0_ k_) := by
  have HO_0 := Aside0.mk (show RM 5 w w0.heap.size (fun k_ => (P0_ k_ ∨ w.heap.size ≤ k_)) u9000_ l0 from RM_mono ho0 (fun k_ hk => (.inl hk)))
  have HR2 := Aside0.mk hr2
  have HC2 := Aside0.mk hc2
  clear hr2 hc2
  have HK := Aside0.mk (Kept.refl w (fun k_ => P0_ k_))
  have HW0 := Aside0.mk hB.size
  have HB := Aside0.mk hB
  clear hB
  have HJ8 := Aside0.mk (Nat.le_refl 0)
  have HJ10 := Aside0.mk (Nat.le_refl 0)
  have HJ25 := Aside0.mk (Nat.le_refl 0)
  have H : (if a1 = true then (if l0.length < 140737488355328 then (strconv_fmtEFG.j7 k (l0 ++ [45]) l2 a3 a4 a5 101) else (none)) else (strconv_fmtEFG.j7 k l0 l2 a3 a4 a5 101)) = some r := h
  clear h
  have HC29 := Aside0.mk H
  clear H
  go_enter Tryd.func56, Tryd.ntmps56
  go_upto_if 78 with (fail)
  go_cut [0] (fun v0 wc => ∃ (kq : Nat) (x0_28 : List Int), Aside0 (strconv_fmtEFG.j7 kq x0_28 l2 a3 a4 a5 101 = some r) ∧ Aside0 (kq ≤ k) ∧ Aside0 (RM 5 wc w0.heap.size (fun k_ => (P0_ k_ ∨ w.heap.size ≤ k_)) v0 x0_28) ∧ Aside0 (Kept w wc (fun k_ => P0_ k_)) ∧ Aside0 (Below w0.heap.size w0 wc))
  case first => as_aux_lemma =>
    have H := HC29.out
    clear HC29
    by_cases c30 : a1 = true
    · subst c30
      have H1 : (if l0.length < 140737488355328 then (strconv_fmtEFG.j7 k (l0 ++ [45]) l2 a3 a4 a5 101) else (none)) = some r := by rw [if_pos rfl] at H; exact H
      clear H
      have H := H1
      clear H1
      by_cases c31 : l0.length < 140737488355328
      · rw [if_pos c31] at H
        have LMc31 := Aside0.mk c31
        clear c31
        obtain ⟨y176, hy176⟩ : ∃ y_ : List Int, y_ = (l0 ++ [45]) := ⟨_, rfl⟩
        replace H : (strconv_fmtEFG.j7 k y176 l2 a3 a4 a5 101) = some r := by first | (rw [hy176]; with_reducible exact H) | (have H2_ := (Option.bind_some _ _).symm.trans H; rw [hy176]; with_reducible exact H2_) | (have H2_ := (Option.bind_some _ _).symm.trans H; with_reducible exact H2_) | with_reducible exact H | (rw [hy176]; exact H) | exact H
        have Ny176 := Aside0.mk hy176
        clear hy176
        have H' := Aside0.mk H
        clear H
        go_wp2_with (first | ((with_reducible refine gate_builtin (b := .append) (xs := #[.tmp 79, .tmp 80]) rfl ?_); at_builtin; refine RM_append (w0 := w0) w0.heap.size rfl (.tmp 79) (.tmp 80) 39 5 (.int .u8 0) 1 rfl Tryd.underlying39 info5 rfl (by decide) u9000_ l0 45 [.int .u8 45] (fun k_ => (P0_ k_ ∨ w.heap.size ≤ k_)) (fun _ => False) rfl rfl ?aP (fun _ hk => hk.elim) ?aF ?aO ?aB ?aS ?aL ?_; (case aP => exact rfl); (case aB => exact (by repeat (first | (with_reducible first | exact HB.out | apply below_alloc | apply pw_below_drewN | apply below_drew1) | exact HB.out))); (case aF => exact (fun k_ hk => (.inr (Nat.le_trans (by first | exact HK.out.1 | exact (show Kept w _ (fun k_ => P0_ k_) from by repeat (first | (with_reducible first | exact HK.out | apply Kept.alloc | apply Kept.drewN | apply Kept.drew) | exact HK.out)).1) hk)))); (case aO => exact (by (with_reducible repeat (first | apply RM_alloc | apply RM_drewN | apply RM_drew | apply Kd.R_alloc | apply Kd.R_drewN | apply Kd.R_drew)); exact HO_0.out)); (case aS => exact (below_size (by repeat (first | (with_reducible first | exact HB.out | apply below_alloc | apply pw_below_drewN | apply below_drew1) | exact HB.out)))); (case aL => have := LMc31.out; omega); intro v177 w32 ho hb hg hat; rw [← Ny176.out] at ho; have n0_ := Aside0.mk (hb); have n1_ := Aside0.mk (Kept.of_grown (S := (fun k_ => P0_ k_)) hg (by repeat (first | (with_reducible first | exact HK.out | apply Kept.alloc | apply Kept.drewN | apply Kept.drew) | exact HK.out)) (fun k_ e_ => (HO_0.out.1 k_ e_))); have n2_ := Aside0.mk (ho); clear HB; clear HK; clear HO_0; have HB := n0_; have HK := n1_; have HO178 := n2_; clear n0_ n1_ n2_; clear ho hb hg hat))
        go_meet
        case rel => exact ⟨_, (y176), H', ⟨by have := HJ8.out; have := HJ10.out; have := HJ25.out; first | omega | exact Nat.le_refl _⟩, ⟨by (with_reducible repeat (first | apply RM_alloc | apply RM_drewN | apply RM_drew | apply Kd.R_alloc | apply Kd.R_drewN | apply Kd.R_drew)); exact HO178.out⟩, ⟨by repeat (first | (with_reducible first | exact HK.out | apply Kept.alloc | apply Kept.drewN | apply Kept.drew) | exact HK.out)⟩, ⟨by repeat (first | (with_reducible first | exact HB.out | apply below_alloc | apply pw_below_drewN | apply below_drew1) | exact HB.out)⟩⟩
      · rw [if_neg c31] at H
        exact absurd H (by simp)
    · replace c30 := Bool.eq_false_iff.mpr c30
      subst c30
      have H1 : (strconv_fmtEFG.j7 k l0 l2 a3 a4 a5 101) = some r := by rw [if_neg (show ¬ (false = true) by decide)] at H; exact H
      clear H
      have H := H1
      clear H1
      have H' := Aside0.mk H
      clear H
      go_wp2
      go_meet
      case rel => exact ⟨_, (l0), H', ⟨by have := HJ8.out; have := HJ10.out; have := HJ25.out; first | omega | exact Nat.le_refl _⟩, ⟨by (with_reducible repeat (first | apply RM_alloc | apply RM_drewN | apply RM_drew | apply Kd.R_alloc | apply Kd.R_drewN | apply Kd.R_drew)); exact HO_0.out⟩, ⟨by repeat (first | (with_reducible first | exact HK.out | apply Kept.alloc | apply Kept.drewN | apply Kept.drew) | exact HK.out)⟩, ⟨by repeat (first | (with_reducible first | exact HB.out | apply below_alloc | apply pw_below_drewN | apply below_drew1) | exact HB.out)⟩⟩
  case rest => as_aux_lemma =>
    clear HC29
    try clear c1
    try clear c2
    try clear p2
    try clear c3
    try clear c5
    try clear p6
    try clear c10
    try clear c10b0
    try clear c10b1
    try clear c12
    try clear c14
    try clear c14b0
    try clear c16
    try clear c18
    try clear c20
    try clear c20b0
    try clear c21
    try clear c22
    try clear c22b0
    try clear c23
    try clear c23b0
    try clear c27
    try clear c27b0
    try clear c27b1
    try clear c28
    try clear c30
    try clear c31
    try clear p2
    try clear p6
    obtain ⟨kq, x0_28, HA, HJ28, HO_0, HK, HB⟩ := hcut
    cases kq with
    | zero => exact absurd HA.out (by simp [strconv_fmtEFG.j7])
    | succ kj28 =>
      have H := HA.out
      clear HA
      simp only [strconv_fmtEFG.j7] at H
      have HC33 := Aside0.mk H
      clear H
      go_upto_if 83 with (fail)
      go_cut [19] (fun v19 wc => ∃ (kq : Nat) (x19_32 : Int), v19 = .int .u8 x19_32 ∧ Aside0 (strconv_fmtEFG.j8 kq x0_28 l2 a3 a4 a5 101 x19_32 = some r) ∧ Aside0 (kq ≤ kj28) ∧ Aside0 (RM 5 wc w0.heap.size (fun k_ => (P0_ k_ ∨ w.heap.size ≤ k_)) u0 x0_28) ∧ Aside0 (Kept w wc (fun k_ => P0_ k_)) ∧ Aside0 (Below w0.heap.size w0 wc))
      case first => as_aux_lemma =>
        have H := HC33.out
        clear HC33
        by_cases c34 : a4 = 0
        · rw [if_pos c34] at H
          have c34b0 : (a4 == 0) = true := beq_iff_eq.mpr c34
          have c34b1 : (a4 != 0) = false := bne_eq_false_iff_eq.mpr c34
          clear c34
          (first | rw [c34b0] | (simp only [i64_w, i32_w]; rw [c34b0]) | skip)
          have H' := Aside0.mk H
          clear H
          go_wp2
          go_meet
          case rel => exact ⟨_, (48), (by first | rfl | (simp; done) | (simp [*]; done)), H', ⟨by have := HJ8.out; have := HJ10.out; have := HJ25.out; have := HJ28.out; first | omega | exact Nat.le_refl _⟩, ⟨by (with_reducible repeat (first | apply RM_alloc | apply RM_drewN | apply RM_drew | apply Kd.R_alloc | apply Kd.R_drewN | apply Kd.R_drew)); exact HO_0.out⟩, ⟨by repeat (first | (with_reducible first | exact HK.out | apply Kept.alloc | apply Kept.drewN | apply Kept.drew) | exact HK.out)⟩, ⟨by repeat (first | (with_reducible first | exact HB.out | apply below_alloc | apply pw_below_drewN | apply below_drew1) | exact HB.out)⟩⟩
        · rw [if_neg c34] at H
          have c34b0 : (a4 == 0) = false := beq_eq_false_iff_ne.mpr c34
          have c34b1 : (a4 != 0) = true := bne_iff_ne.mpr c34
          (first | rw [c34b0] | (simp only [i64_w, i32_w]; rw [c34b0]) | skip)
          by_cases c35 : 0 < (l2.length : Int)
          · rw [if_pos c35] at H
            have c35b0 : decide (0 < (l2.length : Int)) = true := decide_eq_true c35
            have c35b1 : decide (0 < l2.length) = true := decide_eq_true (by omega)
            clear c35
            have H' := Aside0.mk H
            clear H
            have p179 : 0 ≤ (0 : Int) := (by omega)
            have q179 : 0 < (l2.length : Int) := of_decide_eq_true (by first | (with_reducible assumption) | assumption)
            obtain ⟨ad179, e179, hx179_0⟩ := Kd.at_int (Kd.C_kept_now HR2.out HK.out) 0 p179 q179
            cases e179
            have qi179 : (0 < l2.length) = True := eq_true (by omega)
            (try rw [show ((0 : Int)).toNat = 0 from rfl] at hx179_0)
            (try rw [Addr.add_zero'] at hx179_0)
            replace p179 := eq_true p179
            replace q179 := eq_true q179
            go_wp2
            go_meet
            case rel => exact ⟨_, (rd l2 0), (by first | rfl | (simp; done) | (simp [*]; done)), H', ⟨by have := HJ8.out; have := HJ10.out; have := HJ25.out; have := HJ28.out; first | omega | exact Nat.le_refl _⟩, ⟨by (with_reducible repeat (first | apply RM_alloc | apply RM_drewN | apply RM_drew | apply Kd.R_alloc | apply Kd.R_drewN | apply Kd.R_drew)); exact HO_0.out⟩, ⟨by repeat (first | (with_reducible first | exact HK.out | apply Kept.alloc | apply Kept.drewN | apply Kept.drew) | exact HK.out)⟩, ⟨by repeat (first | (with_reducible first | exact HB.out | apply below_alloc | apply pw_below_drewN | apply below_drew1) | exact HB.out)⟩⟩
          · rw [if_neg c35] at H
            exact absurd H (by simp)
      case rest => as_aux_lemma =>
        clear HC33
        try clear c1
        try clear p1
        try clear q1
        try clear hx1
        try clear qi1
        try clear c2
        try clear p2
        try clear c3
        try clear c5
        try clear p6
        try clear c10
        try clear c10b0
        try clear c10b1
        try clear c12
        try clear c14
        try clear c14b0
        try clear c16
        try clear p17
        try clear q17
        try clear hx17
        try clear qi17
        try clear c18
        try clear c20
        try clear c20b0
        try clear c21
        try clear c22
        try clear c22b0
        try clear c23
        try clear c23b0
        try clear c27
        try clear c27b0
        try clear c27b1
        try clear c28
        try clear c30
        try clear c31
        try clear c34
        try clear c34b0
        try clear c34b1
        try clear c35
        try clear c35b0
        try clear c35b1
        try clear hx179_0
        try clear p179
        try clear p2
        try clear p6
        try clear q179
        obtain ⟨kq, x19_32, rfl, HA, HJ32, HO_0, HK, HB⟩ := hcut
        cases kq with
        | zero => exact absurd HA.out (by simp [strconv_fmtEFG.j8])
        | succ kj32 =>
          have H := HA.out
          clear HA
          simp only [strconv_fmtEFG.j8] at H
          by_cases c36 : x0_28.length < 140737488355328
          · rw [if_pos c36] at H
            have LMc36 := Aside0.mk c36
            clear c36
            obtain ⟨y180, hy180⟩ : ∃ y_ : List Int, y_ = (x0_28 ++ [x19_32]) := ⟨_, rfl⟩
            replace H : (if a5 > 0 then (if y180.length < 140737488355328 then ((some (y180 ++ [46] : List Int)).bind fun y183 => (if 1 < (mn a4 (wrap64 (a5 + 1))) then (if 1 ≤ (mn a4 (wrap64 (a5 + 1))) then (if (mn a4 (wrap64 (a5 + 1))) ≤ (l2.length : Int) then ((some ((l2.take ((mn a4 (wrap64 (a5 + 1))) : Int).toNat).drop 1 : List Int)).bind fun y186 => (if y183.length + y186.length < 140737488355328 then (strconv_fmtEFG.j9 kj32 (y183 ++ y186) a3 a4 a5 101 (mn a4 (wrap64 (a5 + 1)))) else (none))) else (none)) else (none)) else (strconv_fmtEFG.j9 kj32 y183 a3 a4 a5 101 1))) else (none)) else (strconv_fmtEFG.j11 kj32 y180 a3 a4 101)) = some r := by first | (rw [hy180]; with_reducible exact H) | (have H2_ := (Option.bind_some _ _).symm.trans H; rw [hy180]; with_reducible exact H2_) | (have H2_ := (Option.bind_some _ _).symm.trans H; with_reducible exact H2_) | with_reducible exact H | (rw [hy180]; exact H) | exact H
            have Ny180 := Aside0.mk hy180
            clear hy180
            have HC37 := Aside0.mk H
            clear H
            go_upto_if 92 with (first | ((with_reducible refine gate_builtin (b := .append) (xs := #[.tmp 87, .tmp 89]) rfl ?_); at_builtin; refine RM_append (w0 := w0) w0.heap.size rfl (.tmp 87) (.tmp 89) 39 5 (.int .u8 0) 1 rfl Tryd.underlying39 info5 rfl (by decide) u0 x0_28 x19_32 [.int .u8 x19_32] (fun k_ => (P0_ k_ ∨ w.heap.size ≤ k_)) (fun _ => False) rfl rfl ?aP (fun _ hk => hk.elim) ?aF ?aO ?aB ?aS ?aL ?_; (case aP => exact rfl); (case aB => exact (by repeat (first | (with_reducible first | exact HB.out | apply below_alloc | apply pw_below_drewN | apply below_drew1) | exact HB.out))); (case aF => exact (fun k_ hk => (.inr (Nat.le_trans (by first | exact HK.out.1 | exact (show Kept w _ (fun k_ => P0_ k_) from by repeat (first | (with_reducible first | exact HK.out | apply Kept.alloc | apply Kept.drewN | apply Kept.drew) | exact HK.out)).1) hk)))); (case aO => exact (by (with_reducible repeat (first | apply RM_alloc | apply RM_drewN | apply RM_drew | apply Kd.R_alloc | apply Kd.R_drewN | apply Kd.R_drew)); exact HO_0.out)); (case aS => exact (below_size (by repeat (first | (with_reducible first | exact HB.out | apply below_alloc | apply pw_below_drewN | apply below_drew1) | exact HB.out)))); (case aL => have := LMc36.out; omega); intro v181 w38 ho hb hg hat; rw [← Ny180.out] at ho; have n0_ := Aside0.mk (hb); have n1_ := Aside0.mk (Kept.of_grown (S := (fun k_ => P0_ k_)) hg (by repeat (first | (with_reducible first | exact HK.out | apply Kept.alloc | apply Kept.drewN | apply Kept.drew) | exact HK.out)) (fun k_ e_ => (HO_0.out.1 k_ e_))); have n2_ := Aside0.mk (ho); clear HB; clear HK; clear HO_0; have HB := n0_; have HK := n1_; have HO182 := n2_; clear n0_ n1_ n2_; clear ho hb hg hat))
            (try simp only [Act.put, List.setIfInBounds_toArray, List.set_cons_zero, List.set_cons_succ])
            go_cut [0] (fun v0 wc => ∃ (kq : Nat) (x0_36 : List Int), Aside0 (strconv_fmtEFG.j11 kq x0_36 a3 a4 101 = some r) ∧ Aside0 (kq ≤ kj32) ∧ Aside0 (RM 5 wc w0.heap.size (fun k_ => (P0_ k_ ∨ w.heap.size ≤ k_)) v0 x0_36) ∧ Aside0 (Kept w wc (fun k_ => P0_ k_)) ∧ Aside0 (Below w0.heap.size w0 wc))
            case first => as_aux_lemma =>
              have H := HC37.out
              clear HC37
              by_cases c39 : a5 > 0
              · rw [if_pos c39] at H
                have c39b0 : decide (0 < a5) = true := decide_eq_true c39
                clear c39
                (first | rw [c39b0] | (simp only [i64_w, i32_w]; rw [c39b0]) | skip)
                by_cases c40 : y180.length < 140737488355328
                · rw [if_pos c40] at H
                  have LMc40 := Aside0.mk c40
                  clear c40
                  obtain ⟨y183, hy183⟩ : ∃ y_ : List Int, y_ = (y180 ++ [46]) := ⟨_, rfl⟩
                  replace H : (if 1 < (mn a4 (wrap64 (a5 + 1))) then (if 1 ≤ (mn a4 (wrap64 (a5 + 1))) then (if (mn a4 (wrap64 (a5 + 1))) ≤ (l2.length : Int) then ((some ((l2.take ((mn a4 (wrap64 (a5 + 1))) : Int).toNat).drop 1 : List Int)).bind fun y186 => (if y183.length + y186.length < 140737488355328 then (strconv_fmtEFG.j9 kj32 (y183 ++ y186) a3 a4 a5 101 (mn a4 (wrap64 (a5 + 1)))) else (none))) else (none)) else (none)) else (strconv_fmtEFG.j9 kj32 y183 a3 a4 a5 101 1)) = some r := by first | (rw [hy183]; with_reducible exact H) | (have H2_ := (Option.bind_some _ _).symm.trans H; rw [hy183]; with_reducible exact H2_) | (have H2_ := (Option.bind_some _ _).symm.trans H; with_reducible exact H2_) | with_reducible exact H | (rw [hy183]; exact H) | exact H
                  have Ny183 := Aside0.mk hy183
                  clear hy183
                  obtain ⟨ji41, hji41⟩ : ∃ j_ : Int, (mn a4 (wrap64 (a5 + 1))) = j_ := ⟨_, rfl⟩
                  replace H : (if 1 < (ji41) then (if 1 ≤ (ji41) then (if (ji41) ≤ (l2.length : Int) then ((some ((l2.take ((ji41) : Int).toNat).drop 1 : List Int)).bind fun y186 => (if y183.length + y186.length < 140737488355328 then (strconv_fmtEFG.j9 kj32 (y183 ++ y186) a3 a4 a5 101 ji41) else (none))) else (none)) else (none)) else (strconv_fmtEFG.j9 kj32 y183 a3 a4 a5 101 1)) = some r := by first | (rw [hji41] at H; exact H) | (simp only [hji41] at H ⊢; exact H)
                  have hji41_ : (if (wrap64 (a5 + 1)) < a4 then (wrap64 (a5 + 1)) else a4) = ji41 := hji41
                  have HC42 := Aside0.mk H
                  clear H
                  go_upto_if 102 with (first | ((with_reducible refine gate_builtin (b := .append) (xs := #[.tmp 93, .tmp 94]) rfl ?_); at_builtin; refine RM_append (w0 := w0) w0.heap.size rfl (.tmp 93) (.tmp 94) 39 5 (.int .u8 0) 1 rfl Tryd.underlying39 info5 rfl (by decide) v181 y180 46 [.int .u8 46] (fun k_ => (P0_ k_ ∨ w.heap.size ≤ k_)) (fun _ => False) rfl rfl ?aP (fun _ hk => hk.elim) ?aF ?aO ?aB ?aS ?aL ?_; (case aP => exact rfl); (case aB => exact (by repeat (first | (with_reducible first | exact HB.out | apply below_alloc | apply pw_below_drewN | apply below_drew1) | exact HB.out))); (case aF => exact (fun k_ hk => (.inr (Nat.le_trans (by first | exact HK.out.1 | exact (show Kept w _ (fun k_ => P0_ k_) from by repeat (first | (with_reducible first | exact HK.out | apply Kept.alloc | apply Kept.drewN | apply Kept.drew) | exact HK.out)).1) hk)))); (case aO => exact (by (with_reducible repeat (first | apply RM_alloc | apply RM_drewN | apply RM_drew | apply Kd.R_alloc | apply Kd.R_drewN | apply Kd.R_drew)); exact HO182.out)); (case aS => exact (below_size (by repeat (first | (with_reducible first | exact HB.out | apply below_alloc | apply pw_below_drewN | apply below_drew1) | exact HB.out)))); (case aL => have := LMc40.out; omega); intro v184 w43 ho hb hg hat; rw [← Ny183.out] at ho; have n0_ := Aside0.mk (hb); have n1_ := Aside0.mk (Kept.of_grown (S := (fun k_ => P0_ k_)) hg (by repeat (first | (with_reducible first | exact HK.out | apply Kept.alloc | apply Kept.drewN | apply Kept.drew) | exact HK.out)) (fun k_ e_ => (HO182.out.1 k_ e_))); have n2_ := Aside0.mk (ho); clear HB; clear HK; clear HO182; have HB := n0_; have HK := n1_; have HO185 := n2_; clear n0_ n1_ n2_; clear ho hb hg hat))
                  (try simp only [Act.put, List.setIfInBounds_toArray, List.set_cons_zero, List.set_cons_succ])
                  go_cut [0, 20] (fun v0 v20 wc => ∃ (kq : Nat) (x0_41 : List Int) (x20_41 : Int), v20 = .int .i64 x20_41 ∧ Aside0 (strconv_fmtEFG.j9 kq x0_41 a3 a4 a5 101 x20_41 = some r) ∧ Aside0 (kq ≤ kj32) ∧ Aside0 (RM 5 wc w0.heap.size (fun k_ => (P0_ k_ ∨ w.heap.size ≤ k_)) v0 x0_41) ∧ Aside0 (Kept w wc (fun k_ => P0_ k_)) ∧ Aside0 (Below w0.heap.size w0 wc))
                  case first => as_aux_lemma =>
                    have H := HC42.out
                    clear HC42
                    by_cases c44 : 1 < (ji41)
                    · rw [if_pos c44] at H
                      have c44b0 : decide (1 < (ji41)) = true := decide_eq_true c44
                      clear c44
                      (first | rw [c44b0] | (simp only [i64_w, i32_w]; rw [c44b0]) | skip)
                      by_cases c45 : 1 ≤ (ji41)
                      · rw [if_pos c45] at H
                        have c45b0 := eq_true c45
                        have c45b1 : decide (1 ≤ (ji41)) = true := decide_eq_true c45
                        clear c45
                        by_cases c46 : (ji41) ≤ (l2.length : Int)
                        · rw [if_pos c46] at H
                          have c46b0 := eq_true c46
                          have c46b1 : decide ((ji41) ≤ (l2.length : Int)) = true := decide_eq_true c46
                          clear c46
                          obtain ⟨y186, hy186⟩ : ∃ y_ : List Int, y_ = ((l2.take ((ji41) : Int).toNat).drop 1) := ⟨_, rfl⟩
                          replace H : (if y183.length + y186.length < 140737488355328 then (strconv_fmtEFG.j9 kj32 (y183 ++ y186) a3 a4 a5 101 ji41) else (none)) = some r := by first | (rw [hy186]; with_reducible exact H) | (have H2_ := (Option.bind_some _ _).symm.trans H; rw [hy186]; with_reducible exact H2_) | (have H2_ := (Option.bind_some _ _).symm.trans H; with_reducible exact H2_) | with_reducible exact H | (rw [hy186]; exact H) | exact H
                          have Ny186 := Aside0.mk hy186
                          clear hy186
                          by_cases c47 : y183.length + y186.length < 140737488355328
                          · rw [if_pos c47] at H
                            have LMc47 := Aside0.mk c47
                            clear c47
                            obtain ⟨y190, hy190⟩ : ∃ y_ : List Int, y_ = (y183 ++ y186) := ⟨_, rfl⟩
                            replace H : (strconv_fmtEFG.j9 kj32 y190 a3 a4 a5 101 ji41) = some r := by first | (rw [hy190]; with_reducible exact H) | (have H2_ := (Option.bind_some _ _).symm.trans H; rw [hy190]; with_reducible exact H2_) | (have H2_ := (Option.bind_some _ _).symm.trans H; with_reducible exact H2_) | with_reducible exact H | (rw [hy190]; exact H) | exact H
                            have Ny190 := Aside0.mk hy190
                            clear hy190
                            have H' := Aside0.mk H
                            clear H
                            have q48 : ((ji41) : Int) ≤ ((l2.length : Int) : Int) := of_decide_eq_true (by first | (with_reducible assumption) | assumption)
                            obtain ⟨i048, hi048, _, hsz48, _⟩ := info_parts info5
                            have hroom48 : l2.length ≤ c2 := HC2.out
                            have hC48 : Kd.C (Kd.int .u8) _ A2 l2.length l2 := (Kd.C_kept_now HR2.out HK.out)
                            have ql48 : (1 : Int) ≤ ((ji41) : Int) := of_decide_eq_true (by first | (with_reducible assumption) | assumption)
                            have hcut48 := cut_mid (P := Tryd.prog) 39 5 .i64 .i64 Tryd.underlying39 hi048 1 hsz48 A2 l2.length c2 1 (ji41) (by omega) ql48 q48 hroom48
                            have hr48 := Kd.C_mid (lo := (1 : Int).toNat) (hi := ((ji41) : Int).toNat) (c := c2) hC48 (by omega) (by omega) hroom48
                            obtain ⟨A48, hA48⟩ : ∃ A1, A1 = (if c2 = (1 : Int).toNat then A2 else (A2 : Option Addr).map (·.add ((1 : Int).toNat * 1))) := ⟨_, rfl⟩
                            obtain ⟨c48, hc48⟩ : ∃ c1, c1 = c2 - (1 : Int).toNat := ⟨_, rfl⟩
                            have hy48 : y186.length = ((ji41) : Int).toNat - (1 : Int).toNat := (by rw [Ny186.out, List.length_drop, List.length_take] <;> omega)
                            rw [show ((l2).take ((ji41) : Int).toNat).drop (1 : Int).toNat = y186 from Ny186.out.symm] at hr48
                            replace hr48 : Kd.C (Kd.int .u8) _ A48 y186.length y186 := (by rw [hA48]; exact hr48)
                            rw [← hy48, ← hA48, ← hc48] at hcut48
                            have HR189 := Aside0.mk hr48
                            have HC189 := Aside0.mk (show y186.length ≤ c48 from by rw [hy48, hc48]; exact Nat.sub_le_sub_right (Nat.le_trans (by omega) hroom48) _)
                            clear hr48 hC48 hroom48 hi048 hsz48 hc48
                            have KY48 := Aside0.mk hy48
                            have KA48 := Aside0.mk hA48
                            clear hy48 hA48
                            have KL48 := Aside0.mk (show ((ji41) : Int).toNat ≤ l2.length from by omega)
                            have KM48 := Aside0.mk (show 1 ≤ ((ji41) : Int).toNat from by omega)
                            replace q48 := eq_true q48
                            go_wp2_with (first | ((with_reducible refine gate_builtin (b := .append) (xs := #[.tmp 103, .tmp 107]) rfl ?_); at_builtin; refine RM_append_rows (w0 := w0) w0.heap.size rfl (.tmp 103) (.tmp 107) 39 5 (.int .u8 0) 1 rfl Tryd.underlying39 info5 rfl (by decide) v184 y183 y186 _ _ _ (fun k_ => (P0_ k_ ∨ w.heap.size ≤ k_)) (fun _ => False) rfl rfl ?aO ?aR ?aF ?aB ?aS ?aL ?_; (case aR => repeat (first | exact (by repeat (first | (with_reducible exact HR189.out) | (with_reducible refine Kd.C_alloc ?_ _) | (with_reducible refine Kd.C_drewN ?_ _) | (with_reducible refine Kd.C_drew ?_) | exact HR189.out)) | (with_reducible refine Kd.C_alloc ?_ _) | (with_reducible refine Kd.C_drewN ?_ _) | (with_reducible refine Kd.C_drew ?_))); (case aB => exact (by repeat (first | (with_reducible first | exact HB.out | apply below_alloc | apply pw_below_drewN | apply below_drew1) | exact HB.out))); (case aF => exact (fun k_ hk => (.inr (Nat.le_trans (by first | exact HK.out.1 | exact (show Kept w _ (fun k_ => P0_ k_) from by repeat (first | (with_reducible first | exact HK.out | apply Kept.alloc | apply Kept.drewN | apply Kept.drew) | exact HK.out)).1) hk)))); (case aO => exact (by (with_reducible repeat (first | apply RM_alloc | apply RM_drewN | apply RM_drew | apply Kd.R_alloc | apply Kd.R_drewN | apply Kd.R_drew)); exact HO185.out)); (case aS => exact (below_size (by repeat (first | (with_reducible first | exact HB.out | apply below_alloc | apply pw_below_drewN | apply below_drew1) | exact HB.out)))); (case aL => have := LMc47.out; omega); intro v191 w49 ho hb hg hat; rw [← Ny190.out] at ho; have n0_ := Aside0.mk (hb); have n1_ := Aside0.mk (Kept.of_grown (S := (fun k_ => P0_ k_)) hg (by repeat (first | (with_reducible first | exact HK.out | apply Kept.alloc | apply Kept.drewN | apply Kept.drew) | exact HK.out)) (fun k_ e_ => (HO185.out.1 k_ e_))); have n2_ := Aside0.mk ((show Kd.C (Kd.int .u8) w49 A48 y186.length y186 from by rw [Ny186.out, KA48.out]; exact Kd.C_mid (lo := 1) (hi := ((ji41) : Int).toNat) (c := c2) (Kd.C_kept_now HR2.out (show Kept w w49 (fun k_ => P0_ k_) from (Kept.of_grown (S := (fun k_ => P0_ k_)) hg (by repeat (first | (with_reducible first | exact HK.out | apply Kept.alloc | apply Kept.drewN | apply Kept.drew) | exact HK.out)) (fun k_ e_ => (HO185.out.1 k_ e_))))) KM48.out KL48.out HC2.out)); have n3_ := Aside0.mk (ho); clear HB; clear HK; clear HR189; clear HO185; have HB := n0_; have HK := n1_; have HR189 := n2_; have HO192 := n3_; clear n0_ n1_ n2_ n3_; clear ho hb hg hat))
                            go_meet
                            case rel => exact ⟨_, (y190), (ji41), (by first | rfl | (simp; done) | (simp only [← hji41] <;> (first | rfl | simp)) | (simp [*]; done)), H', ⟨by have := HJ8.out; have := HJ10.out; have := HJ25.out; have := HJ28.out; have := HJ32.out; first | omega | exact Nat.le_refl _⟩, ⟨by (with_reducible repeat (first | apply RM_alloc | apply RM_drewN | apply RM_drew | apply Kd.R_alloc | apply Kd.R_drewN | apply Kd.R_drew)); exact HO192.out⟩, ⟨by repeat (first | (with_reducible first | exact HK.out | apply Kept.alloc | apply Kept.drewN | apply Kept.drew) | exact HK.out)⟩, ⟨by repeat (first | (with_reducible first | exact HB.out | apply below_alloc | apply pw_below_drewN | apply below_drew1) | exact HB.out)⟩⟩
                          · rw [if_neg c47] at H
                            exact absurd H (by simp)
                        · rw [if_neg c46] at H
                          exact absurd H (by simp)
                      · rw [if_neg c45] at H
                        exact absurd H (by simp)
                    · rw [if_neg c44] at H
                      have c44b0 : decide (1 < (ji41)) = false := decide_eq_false c44
                      clear c44
                      (first | rw [c44b0] | (simp only [i64_w, i32_w]; rw [c44b0]) | skip)
                      have H' := Aside0.mk H
                      clear H
                      go_wp2
                      go_meet
                      case rel => exact ⟨_, (y183), (1), (by first | rfl | (simp; done) | (simp [*]; done)), H', ⟨by have := HJ8.out; have := HJ10.out; have := HJ25.out; have := HJ28.out; have := HJ32.out; first | omega | exact Nat.le_refl _⟩, ⟨by (with_reducible repeat (first | apply RM_alloc | apply RM_drewN | apply RM_drew | apply Kd.R_alloc | apply Kd.R_drewN | apply Kd.R_drew)); exact HO185.out⟩, ⟨by repeat (first | (with_reducible first | exact HK.out | apply Kept.alloc | apply Kept.drewN | apply Kept.drew) | exact HK.out)⟩, ⟨by repeat (first | (with_reducible first | exact HB.out | apply below_alloc | apply pw_below_drewN | apply below_drew1) | exact HB.out)⟩⟩
                  case rest => as_aux_lemma =>
                    clear HC42
                    try clear c1
                    try clear p1
                    try clear q1
                    try clear hx1
                    try clear qi1
                    try clear c2
                    try clear p2
                    try clear c3
                    try clear c4
                    try clear q4
                    try clear c5
                    try clear p6
                    try clear c10
                    try clear c10b0
                    try clear c10b1
                    try clear c12
                    try clear c14
                    try clear c14b0
                    try clear c16
                    try clear p17
                    try clear q17
                    try clear hx17
                    try clear qi17
                    try clear c18
                    try clear c20
                    try clear c20b0
                    try clear c21
                    try clear c22
                    try clear c22b0
                    try clear c23
                    try clear c23b0
                    try clear c27
                    try clear c27b0
                    try clear c27b1
                    try clear c28
                    try clear c30
                    try clear c31
                    try clear c34
                    try clear c34b0
                    try clear c34b1
                    try clear c35
                    try clear c35b0
                    try clear c35b1
                    try clear c36
                    try clear c39
                    try clear c39b0
                    try clear c40
                    try clear c44
                    try clear c44b0
                    try clear c45
                    try clear c45b0
                    try clear c45b1
                    try clear c46
                    try clear c46b0
                    try clear c46b1
                    try clear c47
                    try clear c48
                    try clear q48
                    try clear hx179_0
                    try clear p1
                    try clear p17
                    try clear p179
                    try clear p2
                    try clear p6
                    try clear q1
                    try clear q17
                    try clear q179
                    try clear q48
                    obtain ⟨kq, x0_41, x20_41, rfl, HA, HJ41, HO_0, HK, HB⟩ := hcut
                    cases kq with
                    | zero => exact absurd HA.out (by simp [strconv_fmtEFG.j9])
                    | succ kj41 =>
                      have H := HA.out
                      clear HA
                      simp only [strconv_fmtEFG.j9] at H
                      have H' := Aside0.mk H
                      clear H
                      go_wp2
                      go_loopg [0, 114] kj41 (fun kq v0 v114 w' => ∃ (x0_7 : List Int) (x114_7 : Int), v114 = .int .i64 x114_7 ∧ Aside0 (strconv_fmtEFG.l0 kq x0_7 a3 a4 101 (wrap64 ((wrap64 (a5 + 1)) - x20_41)) x114_7 = some r) ∧ Aside0 (kq ≤ kj41) ∧ Aside0 (RM 5 w' w0.heap.size (fun k_ => (P0_ k_ ∨ w.heap.size ≤ k_)) v0 x0_7) ∧ Aside0 (Kept w w' (fun k_ => P0_ k_)) ∧ Aside0 (Below w0.heap.size w0 w'))
                      case atStart => exact ⟨(x0_41), (0), (by first | rfl | (simp; done) | (simp [*]; done)), H', ⟨Nat.le_refl _⟩, ⟨by (with_reducible repeat (first | apply RM_alloc | apply RM_drewN | apply RM_drew | apply Kd.R_alloc | apply Kd.R_drewN | apply Kd.R_drew)); exact HO_0.out⟩, ⟨by repeat (first | (with_reducible first | exact HK.out | apply Kept.alloc | apply Kept.drewN | apply Kept.drew) | exact HK.out)⟩, ⟨by repeat (first | (with_reducible first | exact HB.out | apply below_alloc | apply pw_below_drewN | apply below_drew1) | exact HB.out)⟩⟩
                      case round => as_aux_lemma =>
                        clear H'
                        try clear c1
                        try clear p1
                        try clear q1
                        try clear hx1
                        try clear qi1
                        try clear c2
                        try clear p2
                        try clear c3
                        try clear c4
                        try clear q4
                        try clear c5
                        try clear p6
                        try clear c10
                        try clear c10b0
                        try clear c10b1
                        try clear c12
                        try clear c14
                        try clear c14b0
                        try clear c16
                        try clear p17
                        try clear q17
                        try clear hx17
                        try clear qi17
                        try clear c18
                        try clear c20
                        try clear c20b0
                        try clear c21
                        try clear c22
                        try clear c22b0
                        try clear c23
                        try clear c23b0
                        try clear c27
                        try clear c27b0
                        try clear c27b1
                        try clear c28
                        try clear c30
                        try clear c31
                        try clear c34
                        try clear c34b0
                        try clear c34b1
                        try clear c35
                        try clear c35b0
                        try clear c35b1
                        try clear c36
                        try clear c39
                        try clear c39b0
                        try clear c40
                        try clear c44
                        try clear c44b0
                        try clear c45
                        try clear c45b0
                        try clear c45b1
                        try clear c46
                        try clear c46b0
                        try clear c46b1
                        try clear c47
                        try clear c48
                        try clear q48
                        try clear hx179_0
                        try clear p1
                        try clear p17
                        try clear p179
                        try clear p2
                        try clear p6
                        try clear q1
                        try clear q17
                        try clear q179
                        try clear q4
                        try clear q48
                        obtain ⟨x0_7, x114_7, rfl, HA, HK7, HO_0, HK, HB⟩ := hrel
                        cases gk with
                        | zero => exact absurd HA.out (by simp [strconv_fmtEFG.l0])
                        | succ k7 =>
                          have H := HA.out
                          clear HA
                          simp only [strconv_fmtEFG.l0] at H
                          by_cases c50 : x114_7 < (wrap64 ((wrap64 (a5 + 1)) - x20_41))
                          · rw [if_pos c50] at H
                            have c50b0 : decide (x114_7 < (wrap64 ((wrap64 (a5 + 1)) - x20_41))) = true := decide_eq_true c50
                            clear c50
                            by_cases c51 : x0_7.length < 140737488355328
                            · rw [if_pos c51] at H
                              have LMc51 := Aside0.mk c51
                              clear c51
                              obtain ⟨y193, hy193⟩ : ∃ y_ : List Int, y_ = (x0_7 ++ [48]) := ⟨_, rfl⟩
                              replace H : (strconv_fmtEFG.l0 k7 y193 a3 a4 101 (wrap64 ((wrap64 (a5 + 1)) - x20_41)) (wrap64 (x114_7 + 1))) = some r := by first | (rw [hy193]; with_reducible exact H) | (have H2_ := (Option.bind_some _ _).symm.trans H; rw [hy193]; with_reducible exact H2_) | (have H2_ := (Option.bind_some _ _).symm.trans H; with_reducible exact H2_) | with_reducible exact H | (rw [hy193]; exact H) | exact H
                              have Ny193 := Aside0.mk hy193
                              clear hy193
                              have H' := Aside0.mk H
                              clear H
                              go_wp2_with (first | ((with_reducible refine gate_builtin (b := .append) (xs := #[.tmp 116, .tmp 117]) rfl ?_); at_builtin; refine RM_append (w0 := w0) w0.heap.size rfl (.tmp 116) (.tmp 117) 39 5 (.int .u8 0) 1 rfl Tryd.underlying39 info5 rfl (by decide) u0 x0_7 48 [.int .u8 48] (fun k_ => (P0_ k_ ∨ w.heap.size ≤ k_)) (fun _ => False) rfl rfl ?aP (fun _ hk => hk.elim) ?aF ?aO ?aB ?aS ?aL ?_; (case aP => exact rfl); (case aB => exact (by repeat (first | (with_reducible first | exact HB.out | apply below_alloc | apply pw_below_drewN | apply below_drew1) | exact HB.out))); (case aF => exact (fun k_ hk => (.inr (Nat.le_trans (by first | exact HK.out.1 | exact (show Kept w _ (fun k_ => P0_ k_) from by repeat (first | (with_reducible first | exact HK.out | apply Kept.alloc | apply Kept.drewN | apply Kept.drew) | exact HK.out)).1) hk)))); (case aO => exact (by (with_reducible repeat (first | apply RM_alloc | apply RM_drewN | apply RM_drew | apply Kd.R_alloc | apply Kd.R_drewN | apply Kd.R_drew)); exact HO_0.out)); (case aS => exact (below_size (by repeat (first | (with_reducible first | exact HB.out | apply below_alloc | apply pw_below_drewN | apply below_drew1) | exact HB.out)))); (case aL => have := LMc51.out; omega); intro v194 w52 ho hb hg hat; rw [← Ny193.out] at ho; have n0_ := Aside0.mk (hb); have n1_ := Aside0.mk (Kept.of_grown (S := (fun k_ => P0_ k_)) hg (by repeat (first | (with_reducible first | exact HK.out | apply Kept.alloc | apply Kept.drewN | apply Kept.drew) | exact HK.out)) (fun k_ e_ => (HO_0.out.1 k_ e_))); have n2_ := Aside0.mk (ho); clear HB; clear HK; clear HO_0; have HB := n0_; have HK := n1_; have HO195 := n2_; clear n0_ n1_ n2_; clear ho hb hg hat))
                              go_roundg k7
                              case measure => have := HJ8.out; have := HJ10.out; have := HJ25.out; have := HJ28.out; have := HJ32.out; have := HJ41.out; have := HK7.out; omega
                              case rel => exact ⟨(y193), (wrap64 (x114_7 + 1)), (by first | rfl | (simp; done) | (simp [*]; done)), H', ⟨by have := HJ8.out; have := HJ10.out; have := HJ25.out; have := HJ28.out; have := HJ32.out; have := HJ41.out; have := HK7.out; omega⟩, ⟨by (with_reducible repeat (first | apply RM_alloc | apply RM_drewN | apply RM_drew | apply Kd.R_alloc | apply Kd.R_drewN | apply Kd.R_drew)); exact HO195.out⟩, ⟨by repeat (first | (with_reducible first | exact HK.out | apply Kept.alloc | apply Kept.drewN | apply Kept.drew) | exact HK.out)⟩, ⟨by repeat (first | (with_reducible first | exact HB.out | apply below_alloc | apply pw_below_drewN | apply below_drew1) | exact HB.out)⟩⟩
                            · rw [if_neg c51] at H
                              exact absurd H (by simp)
                          · rw [if_neg c50] at H
                            have c50b0 : decide (x114_7 < (wrap64 ((wrap64 (a5 + 1)) - x20_41))) = false := decide_eq_false c50
                            clear c50
                            have H' := Aside0.mk H
                            clear H
                            go_wp2
                            go_meet
                            case rel => exact ⟨_, (x0_7), H', ⟨by have := HJ8.out; have := HJ10.out; have := HJ25.out; have := HJ28.out; have := HJ32.out; have := HJ41.out; have := HK7.out; first | omega | exact Nat.le_refl _⟩, ⟨by (with_reducible repeat (first | apply RM_alloc | apply RM_drewN | apply RM_drew | apply Kd.R_alloc | apply Kd.R_drewN | apply Kd.R_drew)); exact HO_0.out⟩, ⟨by repeat (first | (with_reducible first | exact HK.out | apply Kept.alloc | apply Kept.drewN | apply Kept.drew) | exact HK.out)⟩, ⟨by repeat (first | (with_reducible first | exact HB.out | apply below_alloc | apply pw_below_drewN | apply below_drew1) | exact HB.out)⟩⟩
                · rw [if_neg c40] at H
                  exact absurd H (by simp)
              · rw [if_neg c39] at H
                have c39b0 : decide (0 < a5) = false := decide_eq_false c39
                clear c39
                (first | rw [c39b0] | (simp only [i64_w, i32_w]; rw [c39b0]) | skip)
                have H' := Aside0.mk H
                clear H
                go_wp2
                go_meet
                case rel => exact ⟨_, (y180), H', ⟨by have := HJ8.out; have := HJ10.out; have := HJ25.out; have := HJ28.out; have := HJ32.out; first | omega | exact Nat.le_refl _⟩, ⟨by (with_reducible repeat (first | apply RM_alloc | apply RM_drewN | apply RM_drew | apply Kd.R_alloc | apply Kd.R_drewN | apply Kd.R_drew)); exact HO182.out⟩, ⟨by repeat (first | (with_reducible first | exact HK.out | apply Kept.alloc | apply Kept.drewN | apply Kept.drew) | exact HK.out)⟩, ⟨by repeat (first | (with_reducible first | exact HB.out | apply below_alloc | apply pw_below_drewN | apply below_drew1) | exact HB.out)⟩⟩
            case rest => as_aux_lemma =>
              clear HC37
              try clear c1
              try clear p1
              try clear q1
              try clear hx1
              try clear qi1
              try clear c2
              try clear p2
              try clear c3
              try clear c4
              try clear q4
              try clear c5
              try clear p6
              try clear c10
              try clear c10b0
              try clear c10b1
              try clear c12
              try clear c14
              try clear c14b0
              try clear c16
              try clear p17
              try clear q17
              try clear hx17
              try clear qi17
              try clear c18
              try clear c20
              try clear c20b0
              try clear c21
              try clear c22
              try clear c22b0
              try clear c23
              try clear c23b0
              try clear c27
              try clear c27b0
              try clear c27b1
              try clear c28
              try clear c30
              try clear c31
              try clear c34
              try clear c34b0
              try clear c34b1
              try clear c35
              try clear c35b0
              try clear c35b1
              try clear c36
              try clear c39
              try clear c39b0
              try clear c40
              try clear c44
              try clear c44b0
              try clear c45
              try clear c45b0
              try clear c45b1
              try clear c46
              try clear c46b0
              try clear c46b1
              try clear c47
              try clear c48
              try clear q48
              try clear c50
              try clear c50b0
              try clear c51
              try clear hx179_0
              try clear p1
              try clear p17
              try clear p179
              try clear p2
              try clear p6
              try clear q1
              try clear q17
              try clear q179
              try clear q4
              try clear q48
              obtain ⟨kq, x0_36, HA, HJ36, HO_0, HK, HB⟩ := hcut
              cases kq with
              | zero => exact absurd HA.out (by simp [strconv_fmtEFG.j11])
              | succ kj36 =>
                have H := HA.out
                clear HA
                simp only [strconv_fmtEFG.j11] at H
                by_cases c53 : x0_36.length < 140737488355328
                · rw [if_pos c53] at H
                  have LMc53 := Aside0.mk c53
                  clear c53
                  obtain ⟨y196, hy196⟩ : ∃ y_ : List Int, y_ = (x0_36 ++ [101]) := ⟨_, rfl⟩
                  replace H : (if a4 = 0 then (strconv_fmtEFG.j12 kj36 y196 0) else (strconv_fmtEFG.j12 kj36 y196 (wrap64 (a3 - 1)))) = some r := by first | (rw [hy196]; with_reducible exact H) | (have H2_ := (Option.bind_some _ _).symm.trans H; rw [hy196]; with_reducible exact H2_) | (have H2_ := (Option.bind_some _ _).symm.trans H; with_reducible exact H2_) | with_reducible exact H | (rw [hy196]; exact H) | exact H
                  have Ny196 := Aside0.mk hy196
                  clear hy196
                  have HC54 := Aside0.mk H
                  clear H
                  go_upto_if 127 with (first | ((with_reducible refine gate_builtin (b := .append) (xs := #[.tmp 120, .tmp 122]) rfl ?_); at_builtin; refine RM_append (w0 := w0) w0.heap.size rfl (.tmp 120) (.tmp 122) 39 5 (.int .u8 0) 1 rfl Tryd.underlying39 info5 rfl (by decide) u0 x0_36 101 [.int .u8 101] (fun k_ => (P0_ k_ ∨ w.heap.size ≤ k_)) (fun _ => False) rfl rfl ?aP (fun _ hk => hk.elim) ?aF ?aO ?aB ?aS ?aL ?_; (case aP => exact rfl); (case aB => exact (by repeat (first | (with_reducible first | exact HB.out | apply below_alloc | apply pw_below_drewN | apply below_drew1) | exact HB.out))); (case aF => exact (fun k_ hk => (.inr (Nat.le_trans (by first | exact HK.out.1 | exact (show Kept w _ (fun k_ => P0_ k_) from by repeat (first | (with_reducible first | exact HK.out | apply Kept.alloc | apply Kept.drewN | apply Kept.drew) | exact HK.out)).1) hk)))); (case aO => exact (by (with_reducible repeat (first | apply RM_alloc | apply RM_drewN | apply RM_drew | apply Kd.R_alloc | apply Kd.R_drewN | apply Kd.R_drew)); exact HO_0.out)); (case aS => exact (below_size (by repeat (first | (with_reducible first | exact HB.out | apply below_alloc | apply pw_below_drewN | apply below_drew1) | exact HB.out)))); (case aL => have := LMc53.out; omega); intro v197 w55 ho hb hg hat; rw [← Ny196.out] at ho; have n0_ := Aside0.mk (hb); have n1_ := Aside0.mk (Kept.of_grown (S := (fun k_ => P0_ k_)) hg (by repeat (first | (with_reducible first | exact HK.out | apply Kept.alloc | apply Kept.drewN | apply Kept.drew) | exact HK.out)) (fun k_ e_ => (HO_0.out.1 k_ e_))); have n2_ := Aside0.mk (ho); clear HB; clear HK; clear HO_0; have HB := n0_; have HK := n1_; have HO198 := n2_; clear n0_ n1_ n2_; clear ho hb hg hat))
                  (try simp only [Act.put, List.setIfInBounds_toArray, List.set_cons_zero, List.set_cons_succ])
                  go_cut [22] (fun v22 wc => ∃ (kq : Nat) (x22_53 : Int), v22 = .int .i64 x22_53 ∧ Aside0 (strconv_fmtEFG.j12 kq y196 x22_53 = some r) ∧ Aside0 (kq ≤ kj36) ∧ Aside0 (RM 5 wc w0.heap.size (fun k_ => (P0_ k_ ∨ w.heap.size ≤ k_)) v197 y196) ∧ Aside0 (Kept w wc (fun k_ => P0_ k_)) ∧ Aside0 (Below w0.heap.size w0 wc))
                  case first => as_aux_lemma =>
                    have H := HC54.out
                    clear HC54
                    by_cases c56 : a4 = 0
                    · rw [if_pos c56] at H
                      have c56b0 : (a4 == 0) = true := beq_iff_eq.mpr c56
                      have c56b1 : (a4 != 0) = false := bne_eq_false_iff_eq.mpr c56
                      clear c56
                      (first | rw [c56b0] | (simp only [i64_w, i32_w]; rw [c56b0]) | skip)
                      have H' := Aside0.mk H
                      clear H
                      go_wp2
                      go_meet
                      case rel => exact ⟨_, (0), (by first | rfl | (simp; done) | (simp [*]; done)), H', ⟨by have := HJ8.out; have := HJ10.out; have := HJ25.out; have := HJ28.out; have := HJ32.out; have := HJ36.out; first | omega | exact Nat.le_refl _⟩, ⟨by (with_reducible repeat (first | apply RM_alloc | apply RM_drewN | apply RM_drew | apply Kd.R_alloc | apply Kd.R_drewN | apply Kd.R_drew)); exact HO198.out⟩, ⟨by repeat (first | (with_reducible first | exact HK.out | apply Kept.alloc | apply Kept.drewN | apply Kept.drew) | exact HK.out)⟩, ⟨by repeat (first | (with_reducible first | exact HB.out | apply below_alloc | apply pw_below_drewN | apply below_drew1) | exact HB.out)⟩⟩
                    · rw [if_neg c56] at H
                      have c56b0 : (a4 == 0) = false := beq_eq_false_iff_ne.mpr c56
                      have c56b1 : (a4 != 0) = true := bne_iff_ne.mpr c56
                      (first | rw [c56b0] | (simp only [i64_w, i32_w]; rw [c56b0]) | skip)
                      have H' := Aside0.mk H
                      clear H
                      go_wp2
                      go_meet
                      case rel => exact ⟨_, (wrap64 (a3 - 1)), (by first | rfl | (simp; done) | (simp [*]; done)), H', ⟨by have := HJ8.out; have := HJ10.out; have := HJ25.out; have := HJ28.out; have := HJ32.out; have := HJ36.out; first | omega | exact Nat.le_refl _⟩, ⟨by (with_reducible repeat (first | apply RM_alloc | apply RM_drewN | apply RM_drew | apply Kd.R_alloc | apply Kd.R_drewN | apply Kd.R_drew)); exact HO198.out⟩, ⟨by repeat (first | (with_reducible first | exact HK.out | apply Kept.alloc | apply Kept.drewN | apply Kept.drew) | exact HK.out)⟩, ⟨by repeat (first | (with_reducible first | exact HB.out | apply below_alloc | apply pw_below_drewN | apply below_drew1) | exact HB.out)⟩⟩
                  case rest => as_aux_lemma =>
                    clear HC54
                    try clear c1
                    try clear p1
                    try clear q1
                    try clear hx1
                    try clear qi1
                    try clear c2
                    try clear p2
                    try clear c3
                    try clear c4
                    try clear q4
                    try clear c5
                    try clear p6
                    try clear c10
                    try clear c10b0
                    try clear c10b1
                    try clear c12
                    try clear c14
                    try clear c14b0
                    try clear c16
                    try clear p17
                    try clear q17
                    try clear hx17
                    try clear qi17
                    try clear c18
                    try clear c20
                    try clear c20b0
                    try clear c21
                    try clear c22
                    try clear c22b0
                    try clear c23
                    try clear c23b0
                    try clear c27
                    try clear c27b0
                    try clear c27b1
                    try clear c28
                    try clear c30
                    try clear c31
                    try clear c34
                    try clear c34b0
                    try clear c34b1
                    try clear c35
                    try clear c35b0
                    try clear c35b1
                    try clear c36
                    try clear c39
                    try clear c39b0
                    try clear c40
                    try clear c44
                    try clear c44b0
                    try clear c45
                    try clear c45b0
                    try clear c45b1
                    try clear c46
                    try clear c46b0
                    try clear c46b1
                    try clear c47
                    try clear c48
                    try clear q48
                    try clear c50
                    try clear c50b0
                    try clear c51
                    try clear c53
                    try clear c56
                    try clear c56b0
                    try clear c56b1
                    try clear hx179_0
                    try clear p1
                    try clear p17
                    try clear p179
                    try clear p2
                    try clear p6
                    try clear q1
                    try clear q17
                    try clear q179
                    try clear q4
                    try clear q48
                    obtain ⟨kq, x22_53, rfl, HA, HJ53, HO_0, HK, HB⟩ := hcut
                    cases kq with
                    | zero => exact absurd HA.out (by simp [strconv_fmtEFG.j12])
                    | succ kj53 =>
                      have H := HA.out
                      clear HA
                      simp only [strconv_fmtEFG.j12] at H
                      have HC57 := Aside0.mk H
                      clear H
                      go_upto_if 129 with (fail)
                      go_cut [19, 22] (fun v19 v22 wc => ∃ (kq : Nat) (x19_56 : Int) (x22_56 : Int), v19 = .int .u8 x19_56 ∧ v22 = .int .i64 x22_56 ∧ Aside0 (strconv_fmtEFG.j13 kq y196 x19_56 x22_56 = some r) ∧ Aside0 (kq ≤ kj53) ∧ Aside0 (RM 5 wc w0.heap.size (fun k_ => (P0_ k_ ∨ w.heap.size ≤ k_)) v197 y196) ∧ Aside0 (Kept w wc (fun k_ => P0_ k_)) ∧ Aside0 (Below w0.heap.size w0 wc))
                      case first => as_aux_lemma =>
                        have H := HC57.out
                        clear HC57
                        by_cases c58 : x22_53 < 0
                        · rw [if_pos c58] at H
                          have c58b0 : decide (x22_53 < 0) = true := decide_eq_true c58
                          clear c58
                          (first | rw [c58b0] | (simp only [i64_w, i32_w]; rw [c58b0]) | skip)
                          have H' := Aside0.mk H
                          clear H
                          go_wp2
                          go_meet
                          case rel => exact ⟨_, (45), (wrap64 (-x22_53)), (by first | rfl | (simp; done) | (simp [*]; done)), (by first | rfl | (simp; done) | (simp [*]; done)), H', ⟨by have := HJ8.out; have := HJ10.out; have := HJ25.out; have := HJ28.out; have := HJ32.out; have := HJ36.out; have := HJ53.out; first | omega | exact Nat.le_refl _⟩, ⟨by (with_reducible repeat (first | apply RM_alloc | apply RM_drewN | apply RM_drew | apply Kd.R_alloc | apply Kd.R_drewN | apply Kd.R_drew)); exact HO_0.out⟩, ⟨by repeat (first | (with_reducible first | exact HK.out | apply Kept.alloc | apply Kept.drewN | apply Kept.drew) | exact HK.out)⟩, ⟨by repeat (first | (with_reducible first | exact HB.out | apply below_alloc | apply pw_below_drewN | apply below_drew1) | exact HB.out)⟩⟩
                        · rw [if_neg c58] at H
                          have c58b0 : decide (x22_53 < 0) = false := decide_eq_false c58
                          clear c58
                          (first | rw [c58b0] | (simp only [i64_w, i32_w]; rw [c58b0]) | skip)
                          have H' := Aside0.mk H
                          clear H
                          go_wp2
                          go_meet
                          case rel => exact ⟨_, (43), (x22_53), (by first | rfl | (simp; done) | (simp [*]; done)), (by first | rfl | (simp; done) | (simp [*]; done)), H', ⟨by have := HJ8.out; have := HJ10.out; have := HJ25.out; have := HJ28.out; have := HJ32.out; have := HJ36.out; have := HJ53.out; first | omega | exact Nat.le_refl _⟩, ⟨by (with_reducible repeat (first | apply RM_alloc | apply RM_drewN | apply RM_drew | apply Kd.R_alloc | apply Kd.R_drewN | apply Kd.R_drew)); exact HO_0.out⟩, ⟨by repeat (first | (with_reducible first | exact HK.out | apply Kept.alloc | apply Kept.drewN | apply Kept.drew) | exact HK.out)⟩, ⟨by repeat (first | (with_reducible first | exact HB.out | apply below_alloc | apply pw_below_drewN | apply below_drew1) | exact HB.out)⟩⟩
                      case rest => as_aux_lemma =>
                        clear HC57
                        try clear c1
                        try clear p1
                        try clear q1
                        try clear hx1
                        try clear qi1
                        try clear c2
                        try clear p2
                        try clear c3
                        try clear c4
                        try clear q4
                        try clear c5
                        try clear p6
                        try clear c10
                        try clear c10b0
                        try clear c10b1
                        try clear c12
                        try clear c14
                        try clear c14b0
                        try clear c16
                        try clear p17
                        try clear q17
                        try clear hx17
                        try clear qi17
                        try clear c18
                        try clear c20
                        try clear c20b0
                        try clear c21
                        try clear c22
                        try clear c22b0
                        try clear c23
                        try clear c23b0
                        try clear c27
                        try clear c27b0
                        try clear c27b1
                        try clear c28
                        try clear c30
                        try clear c31
                        try clear c34
                        try clear c34b0
                        try clear c34b1
                        try clear c35
                        try clear c35b0
                        try clear c35b1
                        try clear c36
                        try clear c39
                        try clear c39b0
                        try clear c40
                        try clear c44
                        try clear c44b0
                        try clear c45
                        try clear c45b0
                        try clear c45b1
                        try clear c46
                        try clear c46b0
                        try clear c46b1
                        try clear c47
                        try clear c48
                        try clear q48
                        try clear c50
                        try clear c50b0
                        try clear c51
                        try clear c53
                        try clear c56
                        try clear c56b0
                        try clear c56b1
                        try clear c58
                        try clear c58b0
                        try clear hx179_0
                        try clear p1
                        try clear p17
                        try clear p179
                        try clear p2
                        try clear p6
                        try clear q1
                        try clear q17
                        try clear q179
                        try clear q4
                        try clear q48
                        obtain ⟨kq, x19_56, x22_56, rfl, rfl, HA, HJ56, HO_0, HK, HB⟩ := hcut
                        cases kq with
                        | zero => exact absurd HA.out (by simp [strconv_fmtEFG.j13])
                        | succ kj56 =>
                          have H := HA.out
                          clear HA
                          simp only [strconv_fmtEFG.j13] at H
                          by_cases c59 : y196.length < 140737488355328
                          · rw [if_pos c59] at H
                            have LMc59 := Aside0.mk c59
                            clear c59
                            obtain ⟨y199, hy199⟩ : ∃ y_ : List Int, y_ = (y196 ++ [x19_56]) := ⟨_, rfl⟩
                            replace H : (if x22_56 < 10 then ((some (([48, (((x22_56) % 256) + 48) % 256] : List Int) : List Int)).bind fun y202 => (if y199.length + y202.length < 140737488355328 then (some (y199 ++ y202)) else (none))) else (if x22_56 < 100 then ((some (([(((wrap64 (Int.tdiv x22_56 10)) % 256) + 48) % 256, (((Int.tmod x22_56 10) % 256) + 48) % 256] : List Int) : List Int)).bind fun y208 => (if y199.length + y208.length < 140737488355328 then (some (y199 ++ y208)) else (none))) else ((some (([(((wrap64 (Int.tdiv x22_56 100)) % 256) + 48) % 256, (((wrap64 (Int.tdiv x22_56 10)) % 256) % 10) + 48, (((Int.tmod x22_56 10) % 256) + 48) % 256] : List Int) : List Int)).bind fun y214 => (if y199.length + y214.length < 140737488355328 then (some (y199 ++ y214)) else (none))))) = some r := by first | (rw [hy199]; with_reducible exact H) | (have H2_ := (Option.bind_some _ _).symm.trans H; rw [hy199]; with_reducible exact H2_) | (have H2_ := (Option.bind_some _ _).symm.trans H; with_reducible exact H2_) | with_reducible exact H | (rw [hy199]; exact H) | exact H
                            have Ny199 := Aside0.mk hy199
                            clear hy199
                            by_cases c60 : x22_56 < 10
                            · rw [if_pos c60] at H
                              have c60b0 : decide (x22_56 < 10) = true := decide_eq_true c60
                              clear c60
                              obtain ⟨y202, hy202⟩ : ∃ y_ : List Int, y_ = (([48, (((x22_56) % 256) + 48) % 256] : List Int)) := ⟨_, rfl⟩
                              replace H : (if y199.length + y202.length < 140737488355328 then (some (y199 ++ y202)) else (none)) = some r := by first | (rw [hy202]; with_reducible exact H) | (have H2_ := (Option.bind_some _ _).symm.trans H; rw [hy202]; with_reducible exact H2_) | (have H2_ := (Option.bind_some _ _).symm.trans H; with_reducible exact H2_) | with_reducible exact H | (rw [hy202]; exact H) | exact H
                              have Ny202 := Aside0.mk hy202
                              clear hy202
                              by_cases c61 : y199.length + y202.length < 140737488355328
                              · rw [if_pos c61] at H
                                have LMc61 := Aside0.mk c61
                                clear c61
                                obtain ⟨y205, hy205⟩ : ∃ y_ : List Int, y_ = (y199 ++ y202) := ⟨_, rfl⟩
                                replace H : (some y205) = some r := by first | (rw [hy205]; with_reducible exact H) | (have H2_ := (Option.bind_some _ _).symm.trans H; rw [hy205]; with_reducible exact H2_) | (have H2_ := (Option.bind_some _ _).symm.trans H; with_reducible exact H2_) | with_reducible exact H | (rw [hy205]; exact H) | exact H
                                have Ny205 := Aside0.mk hy205
                                clear hy205
                                obtain rfl := Option.some.inj H
                                go_wp2_with (first | ((with_reducible refine gate_builtin (b := .append) (xs := #[.tmp 132, .tmp 134]) rfl ?_); at_builtin; refine RM_append (w0 := w0) w0.heap.size rfl (.tmp 132) (.tmp 134) 39 5 (.int .u8 0) 1 rfl Tryd.underlying39 info5 rfl (by decide) v197 y196 x19_56 [.int .u8 x19_56] (fun k_ => (P0_ k_ ∨ w.heap.size ≤ k_)) (fun _ => False) rfl rfl ?aP (fun _ hk => hk.elim) ?aF ?aO ?aB ?aS ?aL ?_; (case aP => exact rfl); (case aB => exact (by repeat (first | (with_reducible first | exact HB.out | apply below_alloc | apply pw_below_drewN | apply below_drew1) | exact HB.out))); (case aF => exact (fun k_ hk => (.inr (Nat.le_trans (by first | exact HK.out.1 | exact (show Kept w _ (fun k_ => P0_ k_) from by repeat (first | (with_reducible first | exact HK.out | apply Kept.alloc | apply Kept.drewN | apply Kept.drew) | exact HK.out)).1) hk)))); (case aO => exact (by (with_reducible repeat (first | apply RM_alloc | apply RM_drewN | apply RM_drew | apply Kd.R_alloc | apply Kd.R_drewN | apply Kd.R_drew)); exact HO_0.out)); (case aS => exact (below_size (by repeat (first | (with_reducible first | exact HB.out | apply below_alloc | apply pw_below_drewN | apply below_drew1) | exact HB.out)))); (case aL => have := LMc59.out; omega); intro v200 w62 ho hb hg hat; rw [← Ny199.out] at ho; have n0_ := Aside0.mk (hb); have n1_ := Aside0.mk (Kept.of_grown (S := (fun k_ => P0_ k_)) hg (by repeat (first | (with_reducible first | exact HK.out | apply Kept.alloc | apply Kept.drewN | apply Kept.drew) | exact HK.out)) (fun k_ e_ => (HO_0.out.1 k_ e_))); have n2_ := Aside0.mk (ho); clear HB; clear HK; clear HO_0; have HB := n0_; have HK := n1_; have HO201 := n2_; clear n0_ n1_ n2_; clear ho hb hg hat) | ((with_reducible refine gate_dst (N := 159) rfl ?_); refine Kd.R_lit (Kd.int .u8) _ 5 ?hg (N := 159) ?hd (xs := ([48, (((x22_56) % 256) + 48) % 256] : List Int)) (inner := [.int .u8 48, .int .u8 ((((x22_56) % 256) + 48) % 256)]) (ok := fun _ => True) (okp := fun _ => True) ?hr ?hp (fun _ hk => hk) trivial (Below.refl _ _) (Nat.le_refl _) (by simp) ?_; (case hd => rfl); (case hg => rfl); (case hr => first | (go_simp; done) | (go_simp; rfl)); (case hp => exact (Reps.one (show Kd.M (Kd.int .u8) _ _ _ 48 [.int .u8 48] from rfl) (Reps.one (show Kd.M (Kd.int .u8) _ _ _ ((((x22_56) % 256) + 48) % 256) [.int .u8 ((((x22_56) % 256) + 48) % 256)] from rfl) (Reps.none _ _)))); intro v203 w63 ho64 hb hg_ hnew_; clear hg_ hnew_; (first | rw [← Ny202.out] at ho64 | (simp only [Int.reduceToNat] at ho64; rw [← Ny202.out] at ho64)); have n0_ := Aside0.mk (RM_elder' (by (with_reducible repeat (first | apply RM_alloc | apply RM_drewN | apply RM_drew | apply Kd.R_alloc | apply Kd.R_drewN | apply Kd.R_drew)); exact HO201.out) (Kd.R_base ho64) hb); have n1_ := Aside0.mk (Kd.R_lower (Kd.R_new' (Kd.R_newM (M := fun k_ => (P0_ k_ ∨ w.heap.size ≤ k_)) ho64 (by first | exact HK.out.1 | exact (show Kept w _ (fun k_ => P0_ k_) from by repeat (first | (with_reducible first | exact HK.out | apply Kept.alloc | apply Kept.drewN | apply Kept.drew) | exact HK.out)).1) (fun k_ h_ => .inr h_)) (RM_lt (by (with_reducible repeat (first | apply RM_alloc | apply RM_drewN | apply RM_drew | apply Kd.R_alloc | apply Kd.R_drewN | apply Kd.R_drew)); exact HO201.out))) (below_size (by repeat (first | (with_reducible first | exact HB.out | apply below_alloc | apply pw_below_drewN | apply below_drew1) | exact HB.out)))); have n2_ := Aside0.mk (Kept.below (S := (fun k_ => P0_ k_)) (by repeat (first | (with_reducible first | exact HK.out | apply Kept.alloc | apply Kept.drewN | apply Kept.drew) | exact HK.out)) hb); have n3_ := Aside0.mk (below_step (by repeat (first | (with_reducible first | exact HB.out | apply below_alloc | apply pw_below_drewN | apply below_drew1) | exact HB.out)) hb); clear HO201; clear HK; clear HB; have HO201 := n0_; have HO204 := n1_; have HK := n2_; have HB := n3_; clear n0_ n1_ n2_ n3_; clear hb ho64; obtain ⟨Ao66, co66, eo66⟩ := Kd.R_slice HO204.out; subst eo66) | ((with_reducible refine gate_builtin (b := .append) (xs := #[.tmp 155, .tmp 159]) rfl ?_); at_builtin; refine RM_append_rows (w0 := w0) w0.heap.size rfl (.tmp 155) (.tmp 159) 39 5 (.int .u8 0) 1 rfl Tryd.underlying39 info5 rfl (by decide) v200 y199 y202 _ _ _ (fun k_ => (P0_ k_ ∨ w.heap.size ≤ k_) ∧ some k_ ≠ (.slice Ao66 y202.length co66 : Value).ownBlock) (fun _ => False) rfl rfl ?aO ?aR ?aF ?aB ?aS ?aL ?_; (case aR => repeat (first | exact (Kd.R_reads' HO204.out).2.2 | (with_reducible refine Kd.C_alloc ?_ _) | (with_reducible refine Kd.C_drewN ?_ _) | (with_reducible refine Kd.C_drew ?_))); (case aB => exact (by repeat (first | (with_reducible first | exact HB.out | apply below_alloc | apply pw_below_drewN | apply below_drew1) | exact HB.out))); (case aF => exact (fun k_ hk => ⟨(.inr (Nat.le_trans (by first | exact HK.out.1 | exact (show Kept w _ (fun k_ => P0_ k_) from by repeat (first | (with_reducible first | exact HK.out | apply Kept.alloc | apply Kept.drewN | apply Kept.drew) | exact HK.out)).1) hk)), Kd.fresh' (Kd.R_lt (by (with_reducible repeat (first | apply RM_alloc | apply RM_drewN | apply RM_drew | apply Kd.R_alloc | apply Kd.R_drewN | apply Kd.R_drew)); exact HO204.out)) k_ hk⟩)); (case aO => exact (by (with_reducible repeat (first | apply RM_alloc | apply RM_drewN | apply RM_drew | apply Kd.R_alloc | apply Kd.R_drewN | apply Kd.R_drew)); exact HO201.out)); (case aS => exact (below_size (by repeat (first | (with_reducible first | exact HB.out | apply below_alloc | apply pw_below_drewN | apply below_drew1) | exact HB.out)))); (case aL => have := LMc61.out; omega); intro v206 w65 ho hb hg hat; rw [← Ny205.out] at ho; have n0_ := Aside0.mk (Kd.R_after (ok := (fun k_ => (P0_ k_ ∨ w.heap.size ≤ k_))) (by (with_reducible repeat (first | apply RM_alloc | apply RM_drewN | apply RM_drew | apply Kd.R_alloc | apply Kd.R_drewN | apply Kd.R_drew)); exact Kd.R_mono HO204.out (fun _ hk => ⟨hk.1.1, hk.2⟩)) hg hat); have n1_ := Aside0.mk (hb); have n2_ := Aside0.mk (Kept.of_grown (S := (fun k_ => P0_ k_)) hg (by repeat (first | (with_reducible first | exact HK.out | apply Kept.alloc | apply Kept.drewN | apply Kept.drew) | exact HK.out)) (fun k_ e_ => (HO201.out.1 k_ e_).1)); have n3_ := Aside0.mk (ho); clear HO204; clear HB; clear HK; clear HO201; have HO204 := n0_; have HB := n1_; have HK := n2_; have HO207 := n3_; clear n0_ n1_ n2_ n3_; clear ho hb hg hat))
                                go_ret
                                exact ⟨_, by first | rfl | (simp [errW_none, errW_some] <;> rfl) | (simp [*, errW_none, errW_some] <;> rfl), by (with_reducible repeat (first | apply RM_alloc | apply RM_drewN | apply RM_drew | apply Kd.R_alloc | apply Kd.R_drewN | apply Kd.R_drew)); exact RM_mono HO207.out (fun _ hk => hk.1), by repeat (first | (with_reducible first | exact HB.out | apply below_alloc | apply pw_below_drewN | apply below_drew1) | exact HB.out), by repeat (first | (with_reducible first | exact HK.out | apply Kept.alloc | apply Kept.drewN | apply Kept.drew) | exact HK.out)⟩
                              · rw [if_neg c61] at H
                                exact absurd H (by simp)
                            · rw [if_neg c60] at H
                              have c60b0 : decide (x22_56 < 10) = false := decide_eq_false c60
                              clear c60
                              by_cases c67 : x22_56 < 100
                              · rw [if_pos c67] at H
                                have c67b0 : decide (x22_56 < 100) = true := decide_eq_true c67
                                clear c67
                                obtain ⟨y208, hy208⟩ : ∃ y_ : List Int, y_ = (([(((wrap64 (Int.tdiv x22_56 10)) % 256) + 48) % 256, (((Int.tmod x22_56 10) % 256) + 48) % 256] : List Int)) := ⟨_, rfl⟩
                                replace H : (if y199.length + y208.length < 140737488355328 then (some (y199 ++ y208)) else (none)) = some r := by first | (rw [hy208]; with_reducible exact H) | (have H2_ := (Option.bind_some _ _).symm.trans H; rw [hy208]; with_reducible exact H2_) | (have H2_ := (Option.bind_some _ _).symm.trans H; with_reducible exact H2_) | with_reducible exact H | (rw [hy208]; exact H) | exact H
                                have Ny208 := Aside0.mk hy208
                                clear hy208
                                by_cases c68 : y199.length + y208.length < 140737488355328
                                · rw [if_pos c68] at H
                                  have LMc68 := Aside0.mk c68
                                  clear c68
                                  obtain ⟨y211, hy211⟩ : ∃ y_ : List Int, y_ = (y199 ++ y208) := ⟨_, rfl⟩
                                  replace H : (some y211) = some r := by first | (rw [hy211]; with_reducible exact H) | (have H2_ := (Option.bind_some _ _).symm.trans H; rw [hy211]; with_reducible exact H2_) | (have H2_ := (Option.bind_some _ _).symm.trans H; with_reducible exact H2_) | with_reducible exact H | (rw [hy211]; exact H) | exact H
                                  have Ny211 := Aside0.mk hy211
                                  clear hy211
                                  obtain rfl := Option.some.inj H
                                  go_wp2_with (first | ((with_reducible refine gate_builtin (b := .append) (xs := #[.tmp 132, .tmp 134]) rfl ?_); at_builtin; refine RM_append (w0 := w0) w0.heap.size rfl (.tmp 132) (.tmp 134) 39 5 (.int .u8 0) 1 rfl Tryd.underlying39 info5 rfl (by decide) v197 y196 x19_56 [.int .u8 x19_56] (fun k_ => (P0_ k_ ∨ w.heap.size ≤ k_)) (fun _ => False) rfl rfl ?aP (fun _ hk => hk.elim) ?aF ?aO ?aB ?aS ?aL ?_; (case aP => exact rfl); (case aB => exact (by repeat (first | (with_reducible first | exact HB.out | apply below_alloc | apply pw_below_drewN | apply below_drew1) | exact HB.out))); (case aF => exact (fun k_ hk => (.inr (Nat.le_trans (by first | exact HK.out.1 | exact (show Kept w _ (fun k_ => P0_ k_) from by repeat (first | (with_reducible first | exact HK.out | apply Kept.alloc | apply Kept.drewN | apply Kept.drew) | exact HK.out)).1) hk)))); (case aO => exact (by (with_reducible repeat (first | apply RM_alloc | apply RM_drewN | apply RM_drew | apply Kd.R_alloc | apply Kd.R_drewN | apply Kd.R_drew)); exact HO_0.out)); (case aS => exact (below_size (by repeat (first | (with_reducible first | exact HB.out | apply below_alloc | apply pw_below_drewN | apply below_drew1) | exact HB.out)))); (case aL => have := LMc59.out; omega); intro v200 w69 ho hb hg hat; rw [← Ny199.out] at ho; have n0_ := Aside0.mk (hb); have n1_ := Aside0.mk (Kept.of_grown (S := (fun k_ => P0_ k_)) hg (by repeat (first | (with_reducible first | exact HK.out | apply Kept.alloc | apply Kept.drewN | apply Kept.drew) | exact HK.out)) (fun k_ e_ => (HO_0.out.1 k_ e_))); have n2_ := Aside0.mk (ho); clear HB; clear HK; clear HO_0; have HB := n0_; have HK := n1_; have HO201 := n2_; clear n0_ n1_ n2_; clear ho hb hg hat) | ((with_reducible refine gate_dst (N := 173) rfl ?_); refine Kd.R_lit (Kd.int .u8) _ 5 ?hg (N := 173) ?hd (xs := ([(((wrap64 (Int.tdiv x22_56 10)) % 256) + 48) % 256, (((Int.tmod x22_56 10) % 256) + 48) % 256] : List Int)) (inner := [.int .u8 ((((wrap64 (Int.tdiv x22_56 10)) % 256) + 48) % 256), .int .u8 ((((Int.tmod x22_56 10) % 256) + 48) % 256)]) (ok := fun _ => True) (okp := fun _ => True) ?hr ?hp (fun _ hk => hk) trivial (Below.refl _ _) (Nat.le_refl _) (by simp) ?_; (case hd => rfl); (case hg => rfl); (case hr => first | (go_simp; done) | (go_simp; rfl)); (case hp => exact (Reps.one (show Kd.M (Kd.int .u8) _ _ _ ((((wrap64 (Int.tdiv x22_56 10)) % 256) + 48) % 256) [.int .u8 ((((wrap64 (Int.tdiv x22_56 10)) % 256) + 48) % 256)] from rfl) (Reps.one (show Kd.M (Kd.int .u8) _ _ _ ((((Int.tmod x22_56 10) % 256) + 48) % 256) [.int .u8 ((((Int.tmod x22_56 10) % 256) + 48) % 256)] from rfl) (Reps.none _ _)))); intro v209 w70 ho71 hb hg_ hnew_; clear hg_ hnew_; (first | rw [← Ny208.out] at ho71 | (simp only [Int.reduceToNat] at ho71; rw [← Ny208.out] at ho71)); have n0_ := Aside0.mk (RM_elder' (by (with_reducible repeat (first | apply RM_alloc | apply RM_drewN | apply RM_drew | apply Kd.R_alloc | apply Kd.R_drewN | apply Kd.R_drew)); exact HO201.out) (Kd.R_base ho71) hb); have n1_ := Aside0.mk (Kd.R_lower (Kd.R_new' (Kd.R_newM (M := fun k_ => (P0_ k_ ∨ w.heap.size ≤ k_)) ho71 (by first | exact HK.out.1 | exact (show Kept w _ (fun k_ => P0_ k_) from by repeat (first | (with_reducible first | exact HK.out | apply Kept.alloc | apply Kept.drewN | apply Kept.drew) | exact HK.out)).1) (fun k_ h_ => .inr h_)) (RM_lt (by (with_reducible repeat (first | apply RM_alloc | apply RM_drewN | apply RM_drew | apply Kd.R_alloc | apply Kd.R_drewN | apply Kd.R_drew)); exact HO201.out))) (below_size (by repeat (first | (with_reducible first | exact HB.out | apply below_alloc | apply pw_below_drewN | apply below_drew1) | exact HB.out)))); have n2_ := Aside0.mk (Kept.below (S := (fun k_ => P0_ k_)) (by repeat (first | (with_reducible first | exact HK.out | apply Kept.alloc | apply Kept.drewN | apply Kept.drew) | exact HK.out)) hb); have n3_ := Aside0.mk (below_step (by repeat (first | (with_reducible first | exact HB.out | apply below_alloc | apply pw_below_drewN | apply below_drew1) | exact HB.out)) hb); clear HO201; clear HK; clear HB; have HO201 := n0_; have HO210 := n1_; have HK := n2_; have HB := n3_; clear n0_ n1_ n2_ n3_; clear hb ho71; obtain ⟨Ao73, co73, eo73⟩ := Kd.R_slice HO210.out; subst eo73) | ((with_reducible refine gate_builtin (b := .append) (xs := #[.tmp 164, .tmp 173]) rfl ?_); at_builtin; refine RM_append_rows (w0 := w0) w0.heap.size rfl (.tmp 164) (.tmp 173) 39 5 (.int .u8 0) 1 rfl Tryd.underlying39 info5 rfl (by decide) v200 y199 y208 _ _ _ (fun k_ => (P0_ k_ ∨ w.heap.size ≤ k_) ∧ some k_ ≠ (.slice Ao73 y208.length co73 : Value).ownBlock) (fun _ => False) rfl rfl ?aO ?aR ?aF ?aB ?aS ?aL ?_; (case aR => repeat (first | exact (Kd.R_reads' HO210.out).2.2 | (with_reducible refine Kd.C_alloc ?_ _) | (with_reducible refine Kd.C_drewN ?_ _) | (with_reducible refine Kd.C_drew ?_))); (case aB => exact (by repeat (first | (with_reducible first | exact HB.out | apply below_alloc | apply pw_below_drewN | apply below_drew1) | exact HB.out))); (case aF => exact (fun k_ hk => ⟨(.inr (Nat.le_trans (by first | exact HK.out.1 | exact (show Kept w _ (fun k_ => P0_ k_) from by repeat (first | (with_reducible first | exact HK.out | apply Kept.alloc | apply Kept.drewN | apply Kept.drew) | exact HK.out)).1) hk)), Kd.fresh' (Kd.R_lt (by (with_reducible repeat (first | apply RM_alloc | apply RM_drewN | apply RM_drew | apply Kd.R_alloc | apply Kd.R_drewN | apply Kd.R_drew)); exact HO210.out)) k_ hk⟩)); (case aO => exact (by (with_reducible repeat (first | apply RM_alloc | apply RM_drewN | apply RM_drew | apply Kd.R_alloc | apply Kd.R_drewN | apply Kd.R_drew)); exact HO201.out)); (case aS => exact (below_size (by repeat (first | (with_reducible first | exact HB.out | apply below_alloc | apply pw_below_drewN | apply below_drew1) | exact HB.out)))); (case aL => have := LMc68.out; omega); intro v212 w72 ho hb hg hat; rw [← Ny211.out] at ho; have n0_ := Aside0.mk (Kd.R_after (ok := (fun k_ => (P0_ k_ ∨ w.heap.size ≤ k_))) (by (with_reducible repeat (first | apply RM_alloc | apply RM_drewN | apply RM_drew | apply Kd.R_alloc | apply Kd.R_drewN | apply Kd.R_drew)); exact Kd.R_mono HO210.out (fun _ hk => ⟨hk.1.1, hk.2⟩)) hg hat); have n1_ := Aside0.mk (hb); have n2_ := Aside0.mk (Kept.of_grown (S := (fun k_ => P0_ k_)) hg (by repeat (first | (with_reducible first | exact HK.out | apply Kept.alloc | apply Kept.drewN | apply Kept.drew) | exact HK.out)) (fun k_ e_ => (HO201.out.1 k_ e_).1)); have n3_ := Aside0.mk (ho); clear HO210; clear HB; clear HK; clear HO201; have HO210 := n0_; have HB := n1_; have HK := n2_; have HO213 := n3_; clear n0_ n1_ n2_ n3_; clear ho hb hg hat))
                                  go_ret
                                  exact ⟨_, by first | rfl | (simp [errW_none, errW_some] <;> rfl) | (simp [*, errW_none, errW_some] <;> rfl), by (with_reducible repeat (first | apply RM_alloc | apply RM_drewN | apply RM_drew | apply Kd.R_alloc | apply Kd.R_drewN | apply Kd.R_drew)); exact RM_mono HO213.out (fun _ hk => hk.1), by repeat (first | (with_reducible first | exact HB.out | apply below_alloc | apply pw_below_drewN | apply below_drew1) | exact HB.out), by repeat (first | (with_reducible first | exact HK.out | apply Kept.alloc | apply Kept.drewN | apply Kept.drew) | exact HK.out)⟩
                                · rw [if_neg c68] at H
                                  exact absurd H (by simp)
                              · rw [if_neg c67] at H
                                have c67b0 : decide (x22_56 < 100) = false := decide_eq_false c67
                                clear c67
                                obtain ⟨y214, hy214⟩ : ∃ y_ : List Int, y_ = (([(((wrap64 (Int.tdiv x22_56 100)) % 256) + 48) % 256, (((wrap64 (Int.tdiv x22_56 10)) % 256) % 10) + 48, (((Int.tmod x22_56 10) % 256) + 48) % 256] : List Int)) := ⟨_, rfl⟩
                                replace H : (if y199.length + y214.length < 140737488355328 then (some (y199 ++ y214)) else (none)) = some r := by first | (rw [hy214]; with_reducible exact H) | (have H2_ := (Option.bind_some _ _).symm.trans H; rw [hy214]; with_reducible exact H2_) | (have H2_ := (Option.bind_some _ _).symm.trans H; with_reducible exact H2_) | with_reducible exact H | (rw [hy214]; exact H) | exact H
                                have Ny214 := Aside0.mk hy214
                                clear hy214
                                by_cases c74 : y199.length + y214.length < 140737488355328
                                · rw [if_pos c74] at H
                                  have LMc74 := Aside0.mk c74
                                  clear c74
                                  obtain ⟨y217, hy217⟩ : ∃ y_ : List Int, y_ = (y199 ++ y214) := ⟨_, rfl⟩
                                  replace H : (some y217) = some r := by first | (rw [hy217]; with_reducible exact H) | (have H2_ := (Option.bind_some _ _).symm.trans H; rw [hy217]; with_reducible exact H2_) | (have H2_ := (Option.bind_some _ _).symm.trans H; with_reducible exact H2_) | with_reducible exact H | (rw [hy217]; exact H) | exact H
                                  have Ny217 := Aside0.mk hy217
                                  clear hy217
                                  obtain rfl := Option.some.inj H
                                  go_wp2_with (first | ((with_reducible refine gate_builtin (b := .append) (xs := #[.tmp 132, .tmp 134]) rfl ?_); at_builtin; refine RM_append (w0 := w0) w0.heap.size rfl (.tmp 132) (.tmp 134) 39 5 (.int .u8 0) 1 rfl Tryd.underlying39 info5 rfl (by decide) v197 y196 x19_56 [.int .u8 x19_56] (fun k_ => (P0_ k_ ∨ w.heap.size ≤ k_)) (fun _ => False) rfl rfl ?aP (fun _ hk => hk.elim) ?aF ?aO ?aB ?aS ?aL ?_; (case aP => exact rfl); (case aB => exact (by repeat (first | (with_reducible first | exact HB.out | apply below_alloc | apply pw_below_drewN | apply below_drew1) | exact HB.out))); (case aF => exact (fun k_ hk => (.inr (Nat.le_trans (by first | exact HK.out.1 | exact (show Kept w _ (fun k_ => P0_ k_) from by repeat (first | (with_reducible first | exact HK.out | apply Kept.alloc | apply Kept.drewN | apply Kept.drew) | exact HK.out)).1) hk)))); (case aO => exact (by (with_reducible repeat (first | apply RM_alloc | apply RM_drewN | apply RM_drew | apply Kd.R_alloc | apply Kd.R_drewN | apply Kd.R_drew)); exact HO_0.out)); (case aS => exact (below_size (by repeat (first | (with_reducible first | exact HB.out | apply below_alloc | apply pw_below_drewN | apply below_drew1) | exact HB.out)))); (case aL => have := LMc59.out; omega); intro v200 w75 ho hb hg hat; rw [← Ny199.out] at ho; have n0_ := Aside0.mk (hb); have n1_ := Aside0.mk (Kept.of_grown (S := (fun k_ => P0_ k_)) hg (by repeat (first | (with_reducible first | exact HK.out | apply Kept.alloc | apply Kept.drewN | apply Kept.drew) | exact HK.out)) (fun k_ e_ => (HO_0.out.1 k_ e_))); have n2_ := Aside0.mk (ho); clear HB; clear HK; clear HO_0; have HB := n0_; have HK := n1_; have HO201 := n2_; clear n0_ n1_ n2_; clear ho hb hg hat) | ((with_reducible refine gate_dst (N := 150) rfl ?_); refine Kd.R_lit (Kd.int .u8) _ 5 ?hg (N := 150) ?hd (xs := ([(((wrap64 (Int.tdiv x22_56 100)) % 256) + 48) % 256, (((wrap64 (Int.tdiv x22_56 10)) % 256) % 10) + 48, (((Int.tmod x22_56 10) % 256) + 48) % 256] : List Int)) (inner := [.int .u8 ((((wrap64 (Int.tdiv x22_56 100)) % 256) + 48) % 256), .int .u8 ((((wrap64 (Int.tdiv x22_56 10)) % 256) % 10) + 48), .int .u8 ((((Int.tmod x22_56 10) % 256) + 48) % 256)]) (ok := fun _ => True) (okp := fun _ => True) ?hr ?hp (fun _ hk => hk) trivial (Below.refl _ _) (Nat.le_refl _) (by simp) ?_; (case hd => rfl); (case hg => rfl); (case hr => first | (go_simp; done) | (go_simp; rfl)); (case hp => exact (Reps.one (show Kd.M (Kd.int .u8) _ _ _ ((((wrap64 (Int.tdiv x22_56 100)) % 256) + 48) % 256) [.int .u8 ((((wrap64 (Int.tdiv x22_56 100)) % 256) + 48) % 256)] from rfl) (Reps.one (show Kd.M (Kd.int .u8) _ _ _ ((((wrap64 (Int.tdiv x22_56 10)) % 256) % 10) + 48) [.int .u8 ((((wrap64 (Int.tdiv x22_56 10)) % 256) % 10) + 48)] from rfl) (Reps.one (show Kd.M (Kd.int .u8) _ _ _ ((((Int.tmod x22_56 10) % 256) + 48) % 256) [.int .u8 ((((Int.tmod x22_56 10) % 256) + 48) % 256)] from rfl) (Reps.none _ _))))); intro v215 w76 ho77 hb hg_ hnew_; clear hg_ hnew_; (first | rw [← Ny214.out] at ho77 | (simp only [Int.reduceToNat] at ho77; rw [← Ny214.out] at ho77)); have n0_ := Aside0.mk (RM_elder' (by (with_reducible repeat (first | apply RM_alloc | apply RM_drewN | apply RM_drew | apply Kd.R_alloc | apply Kd.R_drewN | apply Kd.R_drew)); exact HO201.out) (Kd.R_base ho77) hb); have n1_ := Aside0.mk (Kd.R_lower (Kd.R_new' (Kd.R_newM (M := fun k_ => (P0_ k_ ∨ w.heap.size ≤ k_)) ho77 (by first | exact HK.out.1 | exact (show Kept w _ (fun k_ => P0_ k_) from by repeat (first | (with_reducible first | exact HK.out | apply Kept.alloc | apply Kept.drewN | apply Kept.drew) | exact HK.out)).1) (fun k_ h_ => .inr h_)) (RM_lt (by (with_reducible repeat (first | apply RM_alloc | apply RM_drewN | apply RM_drew | apply Kd.R_alloc | apply Kd.R_drewN | apply Kd.R_drew)); exact HO201.out))) (below_size (by repeat (first | (with_reducible first | exact HB.out | apply below_alloc | apply pw_below_drewN | apply below_drew1) | exact HB.out)))); have n2_ := Aside0.mk (Kept.below (S := (fun k_ => P0_ k_)) (by repeat (first | (with_reducible first | exact HK.out | apply Kept.alloc | apply Kept.drewN | apply Kept.drew) | exact HK.out)) hb); have n3_ := Aside0.mk (below_step (by repeat (first | (with_reducible first | exact HB.out | apply below_alloc | apply pw_below_drewN | apply below_drew1) | exact HB.out)) hb); clear HO201; clear HK; clear HB; have HO201 := n0_; have HO216 := n1_; have HK := n2_; have HB := n3_; clear n0_ n1_ n2_ n3_; clear hb ho77; obtain ⟨Ao79, co79, eo79⟩ := Kd.R_slice HO216.out; subst eo79) | ((with_reducible refine gate_builtin (b := .append) (xs := #[.tmp 136, .tmp 150]) rfl ?_); at_builtin; refine RM_append_rows (w0 := w0) w0.heap.size rfl (.tmp 136) (.tmp 150) 39 5 (.int .u8 0) 1 rfl Tryd.underlying39 info5 rfl (by decide) v200 y199 y214 _ _ _ (fun k_ => (P0_ k_ ∨ w.heap.size ≤ k_) ∧ some k_ ≠ (.slice Ao79 y214.length co79 : Value).ownBlock) (fun _ => False) rfl rfl ?aO ?aR ?aF ?aB ?aS ?aL ?_; (case aR => repeat (first | exact (Kd.R_reads' HO216.out).2.2 | (with_reducible refine Kd.C_alloc ?_ _) | (with_reducible refine Kd.C_drewN ?_ _) | (with_reducible refine Kd.C_drew ?_))); (case aB => exact (by repeat (first | (with_reducible first | exact HB.out | apply below_alloc | apply pw_below_drewN | apply below_drew1) | exact HB.out))); (case aF => exact (fun k_ hk => ⟨(.inr (Nat.le_trans (by first | exact HK.out.1 | exact (show Kept w _ (fun k_ => P0_ k_) from by repeat (first | (with_reducible first | exact HK.out | apply Kept.alloc | apply Kept.drewN | apply Kept.drew) | exact HK.out)).1) hk)), Kd.fresh' (Kd.R_lt (by (with_reducible repeat (first | apply RM_alloc | apply RM_drewN | apply RM_drew | apply Kd.R_alloc | apply Kd.R_drewN | apply Kd.R_drew)); exact HO216.out)) k_ hk⟩)); (case aO => exact (by (with_reducible repeat (first | apply RM_alloc | apply RM_drewN | apply RM_drew | apply Kd.R_alloc | apply Kd.R_drewN | apply Kd.R_drew)); exact HO201.out)); (case aS => exact (below_size (by repeat (first | (with_reducible first | exact HB.out | apply below_alloc | apply pw_below_drewN | apply below_drew1) | exact HB.out)))); (case aL => have := LMc74.out; omega); intro v218 w78 ho hb hg hat; rw [← Ny217.out] at ho; have n0_ := Aside0.mk (Kd.R_after (ok := (fun k_ => (P0_ k_ ∨ w.heap.size ≤ k_))) (by (with_reducible repeat (first | apply RM_alloc | apply RM_drewN | apply RM_drew | apply Kd.R_alloc | apply Kd.R_drewN | apply Kd.R_drew)); exact Kd.R_mono HO216.out (fun _ hk => ⟨hk.1.1, hk.2⟩)) hg hat); have n1_ := Aside0.mk (hb); have n2_ := Aside0.mk (Kept.of_grown (S := (fun k_ => P0_ k_)) hg (by repeat (first | (with_reducible first | exact HK.out | apply Kept.alloc | apply Kept.drewN | apply Kept.drew) | exact HK.out)) (fun k_ e_ => (HO201.out.1 k_ e_).1)); have n3_ := Aside0.mk (ho); clear HO216; clear HB; clear HK; clear HO201; have HO216 := n0_; have HB := n1_; have HK := n2_; have HO219 := n3_; clear n0_ n1_ n2_ n3_; clear ho hb hg hat))
                                  go_ret
                                  exact ⟨_, by first | rfl | (simp [errW_none, errW_some] <;> rfl) | (simp [*, errW_none, errW_some] <;> rfl), by (with_reducible repeat (first | apply RM_alloc | apply RM_drewN | apply RM_drew | apply Kd.R_alloc | apply Kd.R_drewN | apply Kd.R_drew)); exact RM_mono HO219.out (fun _ hk => hk.1), by repeat (first | (with_reducible first | exact HB.out | apply below_alloc | apply pw_below_drewN | apply below_drew1) | exact HB.out), by repeat (first | (with_reducible first | exact HK.out | apply Kept.alloc | apply Kept.drewN | apply Kept.drew) | exact HK.out)⟩
                                · rw [if_neg c74] at H
                                  exact absurd H (by simp)
                          · rw [if_neg c59] at H
                            exact absurd H (by simp)
                · rw [if_neg c53] at H
                  exact absurd H (by simp)
          · rw [if_neg c36] at H
            exact absurd H (by simp)
end Go.Proofs.YtiopeaponffmdaaDoor.PAll
