/- The texts of a proof, its declarations alone: part 11. -/
import Derived.Lib.AppendStr
import Derived.Lib.ConvBytes
import Derived.Lib.SmallJoins
import Derived.Test.YtiopeaponffmdaaDoorVA1
import Derived.Test.YtiopeaponffmdaaDoorVA2
import Derived.Test.YtiopeaponffmdaaDoorVA3
import Derived.Test.YtiopeaponffmdaaDoorVA4
import Derived.Test.YtiopeaponffmdaaDoorVA5
import Derived.Test.YtiopeaponffmdaaDoorVA6
import Derived.Test.YtiopeaponffmdaaDoorVA7
import Derived.Test.YtiopeaponffmdaaDoorVA8
import Derived.Test.YtiopeaponffmdaaDoorVA9
import Derived.Test.YtiopeaponffmdaaDoorVA10
set_option linter.unusedVariables false
set_option linter.unusedSimpArgs false
-- YtiopeaponffmdaaDoorFf
namespace Go.Proofs.YtiopeaponffmdaaDoor.PAll
open Go.RowKit Go.Proofs.YtiopeaponffmdaaDoorW.PrintWords Go.Proofs.YtiopeaponffmdaaDoorW.PrintLast Go.Proofs.YtiopeaponffmdaaDoorW.PrintMore
attribute [local go_sem] max2_int min2_int max_two min_two max_three min_three max_four min_four   -- for this text's walks alone
set_option linter.unusedVariables false
set_option linter.unusedSimpArgs false
/-- fmtEFG behind its sign: the format f -/
def fmtF.f (k : Nat) (l0 : List Int) (a1 : Bool) (l2 : List Int) (a3 a4 a5 : Int) : Option (List Int) := if a1 = true then (if l0.length < 140737488355328 then (strconv_fmtEFG.j14 k (l0 ++ [45]) l2 a3 a4 a5) else (none)) else (strconv_fmtEFG.j14 k l0 l2 a3 a4 a5)
set_option maxHeartbeats 8000000 in
set_option maxRecDepth 100000 in
theorem fmtF.calls (k : Nat) (P0_ : Nat → Prop) (u9000_ : Value) (l0 : List Int) (a1 : Bool) (A2 : Option Addr) (c2 : Nat) (l2 : List Int) (a3 : Int) (a4 : Int) (a5 : Int) (a7 : Bool) (r : List Int) (w0 w : World) (hB : Below w0.heap.size w0 w) (ho0 : RM 5 w w0.heap.size P0_ u9000_ l0) (hr2 : ∀ W_, Kept w W_ (fun k_ => P0_ k_) → Kd.C (Kd.int .u8) W_ A2 l2.length l2) (hc2 : l2.length ≤ c2) (h : fmtF.f k l0 a1 l2 a3 a4 a5 = some r) :
    Calls Tryd.prog 56 #[u9000_, .bool a1, .slice A2 l2.length c2, .int .i64 a3, .int .i64 a4, .int .i64 a5, .int .u8 102, .bool a7] w fun e w' => ∃ v0_ : Value, e = .returned (v0_) ∧ RM 5 w' w0.heap.size (fun k_ => (P0_ k_ ∨ w.heap.size ≤ k_)) v0_ r ∧ Below w0.heap.size w0 w' ∧ Kept w w' (fun k_ => P0_ k_) := by
  have HO_0 := Aside0.mk (show RM 5 w w0.heap.size (fun k_ => (P0_ k_ ∨ w.heap.size ≤ k_)) u9000_ l0 from RM_mono ho0 (fun k_ hk => (.inl hk)))
  have HR2 := Aside0.mk hr2
  have HC2 := Aside0.mk hc2
  clear hr2 hc2
  have HK := Aside0.mk (Kept.refl w (fun k_ => P0_ k_))
  have HW0 := Aside0.mk hB.size
  have HB := Aside0.mk hB
  clear hB
  have HJ8 := Aside0.mk (Nat.le_refl 0)
  have HJ10 := Aside0.mk (Nat.le_refl 0)
  have HJ25 := Aside0.mk (Nat.le_refl 0)
  have H : (if a1 = true then (if l0.length < 140737488355328 then (strconv_fmtEFG.j14 k (l0 ++ [45]) l2 a3 a4 a5) else (none)) else (strconv_fmtEFG.j14 k l0 l2 a3 a4 a5)) = some r := h
  clear h
  have HC81 := Aside0.mk H
  clear H
  go_enter Tryd.func56, Tryd.ntmps56
  go_upto_if 178 with (fail)
  go_cut [0] (fun v0 wc => ∃ (kq : Nat) (x0_80 : List Int), Aside0 (strconv_fmtEFG.j14 kq x0_80 l2 a3 a4 a5 = some r) ∧ Aside0 (kq ≤ k) ∧ Aside0 (RM 5 wc w0.heap.size (fun k_ => (P0_ k_ ∨ w.heap.size ≤ k_)) v0 x0_80) ∧ Aside0 (Kept w wc (fun k_ => P0_ k_)) ∧ Aside0 (Below w0.heap.size w0 wc))
  case first =>
    have H := HC81.out
    clear HC81
    by_cases c82 : a1 = true
    · subst c82
      have H1 : (if l0.length < 140737488355328 then (strconv_fmtEFG.j14 k (l0 ++ [45]) l2 a3 a4 a5) else (none)) = some r := by rw [if_pos rfl] at H; exact H
      clear H
      have H := H1
      clear H1
      by_cases c83 : l0.length < 140737488355328
      · rw [if_pos c83] at H
        have LMc83 := Aside0.mk c83
        clear c83
        obtain ⟨y220, hy220⟩ : ∃ y_ : List Int, y_ = (l0 ++ [45]) := ⟨_, rfl⟩
        replace H : (strconv_fmtEFG.j14 k y220 l2 a3 a4 a5) = some r := by first | (rw [hy220]; with_reducible exact H) | (have H2_ := (Option.bind_some _ _).symm.trans H; rw [hy220]; with_reducible exact H2_) | (have H2_ := (Option.bind_some _ _).symm.trans H; with_reducible exact H2_) | with_reducible exact H | (rw [hy220]; exact H) | exact H
        have Ny220 := Aside0.mk hy220
        clear hy220
        have H' := Aside0.mk H
        clear H
        go_wp2_with (first | ((with_reducible refine gate_builtin (b := .append) (xs := #[.tmp 179, .tmp 180]) rfl ?_); at_builtin; refine RM_append (w0 := w0) w0.heap.size rfl (.tmp 179) (.tmp 180) 39 5 (.int .u8 0) 1 rfl Tryd.underlying39 info5 rfl (by decide) u9000_ l0 45 [.int .u8 45] (fun k_ => (P0_ k_ ∨ w.heap.size ≤ k_)) (fun _ => False) rfl rfl ?aP (fun _ hk => hk.elim) ?aF ?aO ?aB ?aS ?aL ?_; (case aP => exact rfl); (case aB => exact (by repeat (first | (with_reducible first | exact HB.out | apply below_alloc | apply pw_below_drewN | apply below_drew1) | exact HB.out))); (case aF => exact (fun k_ hk => (.inr (Nat.le_trans (by first | exact HK.out.1 | exact (show Kept w _ (fun k_ => P0_ k_) from by repeat (first | (with_reducible first | exact HK.out | apply Kept.alloc | apply Kept.drewN | apply Kept.drew) | exact HK.out)).1) hk)))); (case aO => exact (by (with_reducible repeat (first | apply RM_alloc | apply RM_drewN | apply RM_drew | apply Kd.R_alloc | apply Kd.R_drewN | apply Kd.R_drew)); exact HO_0.out)); (case aS => exact (below_size (by repeat (first | (with_reducible first | exact HB.out | apply below_alloc | apply pw_below_drewN | apply below_drew1) | exact HB.out)))); (case aL => have := LMc83.out; omega); intro v221 w84 ho hb hg hat; rw [← Ny220.out] at ho; have n0_ := Aside0.mk (hb); have n1_ := Aside0.mk (Kept.of_grown (S := (fun k_ => P0_ k_)) hg (by repeat (first | (with_reducible first | exact HK.out | apply Kept.alloc | apply Kept.drewN | apply Kept.drew) | exact HK.out)) (fun k_ e_ => (HO_0.out.1 k_ e_))); have n2_ := Aside0.mk (ho); clear HB; clear HK; clear HO_0; have HB := n0_; have HK := n1_; have HO222 := n2_; clear n0_ n1_ n2_; clear ho hb hg hat))
        go_meet
        case rel => exact ⟨_, (y220), H', ⟨by have := HJ8.out; have := HJ10.out; have := HJ25.out; first | omega | exact Nat.le_refl _⟩, ⟨by (with_reducible repeat (first | apply RM_alloc | apply RM_drewN | apply RM_drew | apply Kd.R_alloc | apply Kd.R_drewN | apply Kd.R_drew)); exact HO222.out⟩, ⟨by repeat (first | (with_reducible first | exact HK.out | apply Kept.alloc | apply Kept.drewN | apply Kept.drew) | exact HK.out)⟩, ⟨by repeat (first | (with_reducible first | exact HB.out | apply below_alloc | apply pw_below_drewN | apply below_drew1) | exact HB.out)⟩⟩
      · rw [if_neg c83] at H
        exact absurd H (by simp)
    · replace c82 := Bool.eq_false_iff.mpr c82
      subst c82
      have H1 : (strconv_fmtEFG.j14 k l0 l2 a3 a4 a5) = some r := by rw [if_neg (show ¬ (false = true) by decide)] at H; exact H
      clear H
      have H := H1
      clear H1
      have H' := Aside0.mk H
      clear H
      go_wp2
      go_meet
      case rel => exact ⟨_, (l0), H', ⟨by have := HJ8.out; have := HJ10.out; have := HJ25.out; first | omega | exact Nat.le_refl _⟩, ⟨by (with_reducible repeat (first | apply RM_alloc | apply RM_drewN | apply RM_drew | apply Kd.R_alloc | apply Kd.R_drewN | apply Kd.R_drew)); exact HO_0.out⟩, ⟨by repeat (first | (with_reducible first | exact HK.out | apply Kept.alloc | apply Kept.drewN | apply Kept.drew) | exact HK.out)⟩, ⟨by repeat (first | (with_reducible first | exact HB.out | apply below_alloc | apply pw_below_drewN | apply below_drew1) | exact HB.out)⟩⟩
  case rest =>
    clear HC81
    try clear c1
    try clear p1
    try clear q1
    try clear hx1
    try clear qi1
    try clear c2
    try clear p2
    try clear c3
    try clear c4
    try clear q4
    try clear c5
    try clear c6
    try clear p6
    try clear c7
    try clear c8
    try clear c10
    try clear c10b0
    try clear c10b1
    try clear c12
    try clear c14
    try clear c14b0
    try clear c16
    try clear p17
    try clear q17
    try clear hx17
    try clear qi17
    try clear c18
    try clear c20
    try clear c20b0
    try clear c21
    try clear c22
    try clear c22b0
    try clear c23
    try clear c23b0
    try clear c27
    try clear c27b0
    try clear c27b1
    try clear c28
    try clear c30
    try clear c31
    try clear c34
    try clear c34b0
    try clear c34b1
    try clear c35
    try clear c35b0
    try clear c35b1
    try clear c36
    try clear c39
    try clear c39b0
    try clear c40
    try clear c44
    try clear c44b0
    try clear c45
    try clear c45b0
    try clear c45b1
    try clear c46
    try clear c46b0
    try clear c46b1
    try clear c47
    try clear c48
    try clear q48
    try clear c50
    try clear c50b0
    try clear c51
    try clear c53
    try clear c56
    try clear c56b0
    try clear c56b1
    try clear c58
    try clear c58b0
    try clear c59
    try clear c60
    try clear c60b0
    try clear c61
    try clear p64
    try clear c67
    try clear c67b0
    try clear c68
    try clear c74
    try clear c80
    try clear c80b0
    try clear c80b1
    try clear c82
    try clear c83
    try clear hx179_0
    try clear p1
    try clear p17
    try clear p179
    try clear p2
    try clear p6
    try clear q1
    try clear q17
    try clear q179
    try clear q4
    try clear q48
    obtain ⟨kq, x0_80, HA, HJ80, HO_0, HK, HB⟩ := hcut
    cases kq with
    | zero => exact absurd HA.out (by simp [strconv_fmtEFG.j14])
    | succ kj80 =>
      have H := HA.out
      clear HA
      simp only [strconv_fmtEFG.j14] at H
      have HC85 := Aside0.mk H
      clear H
      go_upto_if 183 with (fail)
      go_cut [0] (fun v0 wc => ∃ (kq : Nat) (x0_84 : List Int), Aside0 (strconv_fmtEFG.j17 kq x0_84 l2 a3 a4 a5 = some r) ∧ Aside0 (kq ≤ kj80) ∧ Aside0 (RM 5 wc w0.heap.size (fun k_ => (P0_ k_ ∨ w.heap.size ≤ k_)) v0 x0_84) ∧ Aside0 (Kept w wc (fun k_ => P0_ k_)) ∧ Aside0 (Below w0.heap.size w0 wc))
      case first =>
        have H := HC85.out
        clear HC85
        by_cases c86 : a3 > 0
        · rw [if_pos c86] at H
          have c86b0 : decide (0 < a3) = true := decide_eq_true c86
          clear c86
          (first | rw [c86b0] | (simp only [i64_w, i32_w]; rw [c86b0]) | skip)
          obtain ⟨ji87, hji87⟩ : ∃ j_ : Int, (mn a4 a3) = j_ := ⟨_, rfl⟩
          replace H : (if 0 ≤ (ji87) then (if (ji87) ≤ (l2.length : Int) then ((some (l2.take ((ji87) : Int).toNat : List Int)).bind fun y223 => (strconv_fmtEFG.l1 kj80 x0_80 l2 a3 a4 a5 ji87 y223 (y223.length : Int) 0)) else (none)) else (none)) = some r := by first | (rw [hji87] at H; exact H) | (simp only [hji87] at H ⊢; exact H)
          have hji87_ : (if a3 < a4 then a3 else a4) = ji87 := hji87
          by_cases c88 : 0 ≤ (ji87)
          · rw [if_pos c88] at H
            have c88b0 := eq_true c88
            have c88b1 : decide (0 ≤ (ji87)) = true := decide_eq_true c88
            clear c88
            by_cases c89 : (ji87) ≤ (l2.length : Int)
            · rw [if_pos c89] at H
              have c89b0 := eq_true c89
              have c89b1 : decide ((ji87) ≤ (l2.length : Int)) = true := decide_eq_true c89
              clear c89
              obtain ⟨y223, hy223⟩ : ∃ y_ : List Int, y_ = (l2.take ((ji87) : Int).toNat) := ⟨_, rfl⟩
              replace H : (strconv_fmtEFG.l1 kj80 x0_80 l2 a3 a4 a5 ji87 y223 (y223.length : Int) 0) = some r := by first | (rw [hy223]; with_reducible exact H) | (have H2_ := (Option.bind_some _ _).symm.trans H; rw [hy223]; with_reducible exact H2_) | (have H2_ := (Option.bind_some _ _).symm.trans H; with_reducible exact H2_) | with_reducible exact H | (rw [hy223]; exact H) | exact H
              have Ny223 := Aside0.mk hy223
              clear hy223
              have H' := Aside0.mk H
              clear H
              have q90 : ((ji87) : Int) ≤ ((l2.length : Int) : Int) := of_decide_eq_true (by first | (with_reducible assumption) | assumption)
              obtain ⟨i090, hi090, _, hsz90, _⟩ := info_parts info5
              have hroom90 : l2.length ≤ c2 := HC2.out
              have hC90 : Kd.C (Kd.int .u8) _ A2 l2.length l2 := (Kd.C_kept_now HR2.out HK.out)
              have hcut90 := cut_to (P := Tryd.prog) 39 5 .i64 Tryd.underlying39 hi090 A2 l2.length c2 (ji87) (of_decide_eq_true (by first | (with_reducible assumption) | assumption)) q90 hroom90
              have hr90 := Kd.C_take (m := ((ji87) : Int).toNat) hC90 (by omega)
              have hy90 : y223.length = ((ji87) : Int).toNat := (by rw [Ny223.out, List.length_take]; omega)
              rw [← Ny223.out] at hr90
              rw [← hy90] at hcut90
              have HR226 := Aside0.mk hr90
              have HC226 := Aside0.mk (show y223.length ≤ c2 from by omega)
              clear hr90 hC90 hroom90 hi090 hsz90
              have KY90 := Aside0.mk hy90
              clear hy90
              have KL90 := Aside0.mk (show ((ji87) : Int).toNat ≤ l2.length from by omega)
              replace q90 := eq_true q90
              go_wp2
              go_loopg [0, 191] kj80 (fun kq v0 v191 w' => ∃ (x0_5 : List Int) (x191_5 : Int), v191 = .int .i64 x191_5 ∧ Aside0 (strconv_fmtEFG.l1 kq x0_5 l2 a3 a4 a5 ji87 y223 (y223.length : Int) x191_5 = some r) ∧ Aside0 (kq ≤ kj80) ∧ Aside0 (RM 5 w' w0.heap.size (fun k_ => (P0_ k_ ∨ w.heap.size ≤ k_)) v0 x0_5) ∧ Aside0 (Kd.C (Kd.int .u8) w' A2 y223.length y223) ∧ Aside0 (Kept w w' (fun k_ => P0_ k_)) ∧ Aside0 (Below w0.heap.size w0 w'))
              case atStart => exact ⟨(x0_80), (0), (by first | rfl | (simp; done) | (simp [*]; done)), H', ⟨Nat.le_refl _⟩, ⟨by (with_reducible repeat (first | apply RM_alloc | apply RM_drewN | apply RM_drew | apply Kd.R_alloc | apply Kd.R_drewN | apply Kd.R_drew)); exact HO_0.out⟩, ⟨by repeat (first | (with_reducible exact HR226.out) | (with_reducible refine Kd.C_alloc ?_ _) | (with_reducible refine Kd.C_drewN ?_ _) | (with_reducible refine Kd.C_drew ?_) | exact HR226.out)⟩, ⟨by repeat (first | (with_reducible first | exact HK.out | apply Kept.alloc | apply Kept.drewN | apply Kept.drew) | exact HK.out)⟩, ⟨by repeat (first | (with_reducible first | exact HB.out | apply below_alloc | apply pw_below_drewN | apply below_drew1) | exact HB.out)⟩⟩
              case round =>
                clear H'
                try clear c1
                try clear p1
                try clear q1
                try clear hx1
                try clear qi1
                try clear c2
                try clear p2
                try clear c3
                try clear c4
                try clear q4
                try clear c5
                try clear c6
                try clear p6
                try clear c7
                try clear c8
                try clear q9
                try clear c10
                try clear c10b0
                try clear c10b1
                try clear c12
                try clear c14
                try clear c14b0
                try clear c16
                try clear p17
                try clear q17
                try clear hx17
                try clear qi17
                try clear c18
                try clear c20
                try clear c20b0
                try clear c21
                try clear c22
                try clear c22b0
                try clear c23
                try clear c23b0
                try clear c27
                try clear c27b0
                try clear c27b1
                try clear c28
                try clear c30
                try clear c31
                try clear c34
                try clear c34b0
                try clear c34b1
                try clear c35
                try clear c35b0
                try clear c35b1
                try clear c36
                try clear c39
                try clear c39b0
                try clear c40
                try clear c44
                try clear c44b0
                try clear c45
                try clear c45b0
                try clear c45b1
                try clear c46
                try clear c46b0
                try clear c46b1
                try clear c47
                try clear c48
                try clear q48
                try clear c50
                try clear c50b0
                try clear c51
                try clear c53
                try clear c56
                try clear c56b0
                try clear c56b1
                try clear c58
                try clear c58b0
                try clear c59
                try clear c60
                try clear c60b0
                try clear c61
                try clear p64
                try clear c67
                try clear c67b0
                try clear c68
                try clear c74
                try clear c80
                try clear c80b0
                try clear c80b1
                try clear c82
                try clear c83
                try clear c86
                try clear c86b0
                try clear c88
                try clear c88b0
                try clear c88b1
                try clear c89
                try clear c89b0
                try clear c89b1
                try clear q90
                try clear hx179_0
                try clear p1
                try clear p17
                try clear p179
                try clear p2
                try clear p6
                try clear p64
                try clear q1
                try clear q17
                try clear q179
                try clear q4
                try clear q48
                try clear q90
                obtain ⟨x0_5, x191_5, rfl, HA, HK5, HO_0, HR226, HK, HB⟩ := hrel
                cases gk with
                | zero => exact absurd HA.out (by simp [strconv_fmtEFG.l1])
                | succ k5 =>
                  have H := HA.out
                  clear HA
                  simp only [strconv_fmtEFG.l1] at H
                  by_cases c91 : x191_5 < (y223.length : Int)
                  · rw [if_pos c91] at H
                    have c91b0 : decide (x191_5 < (y223.length : Int)) = true := decide_eq_true c91
                    clear c91
                    by_cases c92 : 0 ≤ x191_5
                    · rw [if_pos c92] at H
                      have c92b0 : decide (0 ≤ x191_5) = true := decide_eq_true c92
                      clear c92
                      by_cases c93 : x191_5 < (y223.length : Int)
                      · rw [if_pos c93] at H
                        have c93b0 : decide (x191_5 < (y223.length : Int)) = true := decide_eq_true c93
                        clear c93
                        by_cases c94 : x0_5.length < 140737488355328
                        · rw [if_pos c94] at H
                          have LMc94 := Aside0.mk c94
                          clear c94
                          obtain ⟨y228, hy228⟩ : ∃ y_ : List Int, y_ = (x0_5 ++ [rd y223 x191_5]) := ⟨_, rfl⟩
                          replace H : (strconv_fmtEFG.l1 k5 y228 l2 a3 a4 a5 ji87 y223 (y223.length : Int) (wrap64 (x191_5 + 1))) = some r := by first | (rw [hy228]; with_reducible exact H) | (have H2_ := (Option.bind_some _ _).symm.trans H; rw [hy228]; with_reducible exact H2_) | (have H2_ := (Option.bind_some _ _).symm.trans H; with_reducible exact H2_) | with_reducible exact H | (rw [hy228]; exact H) | exact H
                          have Ny228 := Aside0.mk hy228
                          clear hy228
                          have H' := Aside0.mk H
                          clear H
                          have p227 : 0 ≤ (x191_5 : Int) := of_decide_eq_true (by first | (with_reducible assumption) | assumption)
                          have q227 : x191_5 < (y223.length : Int) := of_decide_eq_true (by first | (with_reducible assumption) | assumption)
                          obtain ⟨ad227, e227, hx227_0⟩ := Kd.at_int HR226.out x191_5 p227 q227
                          cases e227
                          replace p227 := eq_true p227
                          replace q227 := eq_true q227
                          go_wp2_with (first | ((with_reducible refine gate_builtin (b := .append) (xs := #[.tmp 195, .tmp 197]) rfl ?_); at_builtin; refine RM_append (w0 := w0) w0.heap.size rfl (.tmp 195) (.tmp 197) 39 5 (.int .u8 0) 1 rfl Tryd.underlying39 info5 rfl (by decide) u0 x0_5 (rd y223 x191_5) [.int .u8 (rd y223 x191_5)] (fun k_ => (P0_ k_ ∨ w.heap.size ≤ k_)) (fun _ => False) rfl rfl ?aP (fun _ hk => hk.elim) ?aF ?aO ?aB ?aS ?aL ?_; (case aP => exact rfl); (case aB => exact (by repeat (first | (with_reducible first | exact HB.out | apply below_alloc | apply pw_below_drewN | apply below_drew1) | exact HB.out))); (case aF => exact (fun k_ hk => (.inr (Nat.le_trans (by first | exact HK.out.1 | exact (show Kept w _ (fun k_ => P0_ k_) from by repeat (first | (with_reducible first | exact HK.out | apply Kept.alloc | apply Kept.drewN | apply Kept.drew) | exact HK.out)).1) hk)))); (case aO => exact (by (with_reducible repeat (first | apply RM_alloc | apply RM_drewN | apply RM_drew | apply Kd.R_alloc | apply Kd.R_drewN | apply Kd.R_drew)); exact HO_0.out)); (case aS => exact (below_size (by repeat (first | (with_reducible first | exact HB.out | apply below_alloc | apply pw_below_drewN | apply below_drew1) | exact HB.out)))); (case aL => have := LMc94.out; omega); intro v229 w95 ho hb hg hat; rw [← Ny228.out] at ho; have n0_ := Aside0.mk (hb); have n1_ := Aside0.mk (Kept.of_grown (S := (fun k_ => P0_ k_)) hg (by repeat (first | (with_reducible first | exact HK.out | apply Kept.alloc | apply Kept.drewN | apply Kept.drew) | exact HK.out)) (fun k_ e_ => (HO_0.out.1 k_ e_))); have n2_ := Aside0.mk ((show Kd.C (Kd.int .u8) w95 (some ad227) y223.length y223 from by rw [Ny223.out]; exact Kd.C_take (m := ((ji87) : Int).toNat) (Kd.C_kept_now HR2.out (show Kept w w95 (fun k_ => P0_ k_) from (Kept.of_grown (S := (fun k_ => P0_ k_)) hg (by repeat (first | (with_reducible first | exact HK.out | apply Kept.alloc | apply Kept.drewN | apply Kept.drew) | exact HK.out)) (fun k_ e_ => (HO_0.out.1 k_ e_))))) KL90.out)); have n3_ := Aside0.mk (ho); clear HB; clear HK; clear HR226; clear HO_0; have HB := n0_; have HK := n1_; have HR226 := n2_; have HO230 := n3_; clear n0_ n1_ n2_ n3_; clear ho hb hg hat))
                          go_roundg k5
                          case measure => have := HJ8.out; have := HJ10.out; have := HJ25.out; have := HJ80.out; have := HK5.out; omega
                          case rel => exact ⟨(y228), (wrap64 (x191_5 + 1)), (by first | rfl | (simp; done) | (simp [*]; done)), H', ⟨by have := HJ8.out; have := HJ10.out; have := HJ25.out; have := HJ80.out; have := HK5.out; omega⟩, ⟨by (with_reducible repeat (first | apply RM_alloc | apply RM_drewN | apply RM_drew | apply Kd.R_alloc | apply Kd.R_drewN | apply Kd.R_drew)); exact HO230.out⟩, ⟨by repeat (first | (with_reducible exact HR226.out) | (with_reducible refine Kd.C_alloc ?_ _) | (with_reducible refine Kd.C_drewN ?_ _) | (with_reducible refine Kd.C_drew ?_) | exact HR226.out)⟩, ⟨by repeat (first | (with_reducible first | exact HK.out | apply Kept.alloc | apply Kept.drewN | apply Kept.drew) | exact HK.out)⟩, ⟨by repeat (first | (with_reducible first | exact HB.out | apply below_alloc | apply pw_below_drewN | apply below_drew1) | exact HB.out)⟩⟩
                        · rw [if_neg c94] at H
                          exact absurd H (by simp)
                      · rw [if_neg c93] at H
                        exact absurd H (by simp)
                    · rw [if_neg c92] at H
                      exact absurd H (by simp)
                  · rw [if_neg c91] at H
                    have c91b0 : decide (x191_5 < (y223.length : Int)) = false := decide_eq_false c91
                    clear c91
                    have H' := Aside0.mk H
                    clear H
                    go_wp2
                    go_loopg [0, 203] k5 (fun kq v0 v203 w' => ∃ (x0_6 : List Int) (x203_6 : Int), v203 = .int .i64 x203_6 ∧ Aside0 (strconv_fmtEFG.l2 kq x0_6 l2 a3 a4 a5 (wrap64 (a3 - ji87)) x203_6 = some r) ∧ Aside0 (kq ≤ k5) ∧ Aside0 (RM 5 w' w0.heap.size (fun k_ => (P0_ k_ ∨ w.heap.size ≤ k_)) v0 x0_6) ∧ Aside0 (Kd.C (Kd.int .u8) w' A2 y223.length y223) ∧ Aside0 (Kept w w' (fun k_ => P0_ k_)) ∧ Aside0 (Below w0.heap.size w0 w'))
                    case atStart => exact ⟨(x0_5), (0), (by first | rfl | (simp; done) | (simp [*]; done)), H', ⟨Nat.le_refl _⟩, ⟨by (with_reducible repeat (first | apply RM_alloc | apply RM_drewN | apply RM_drew | apply Kd.R_alloc | apply Kd.R_drewN | apply Kd.R_drew)); exact HO_0.out⟩, ⟨by repeat (first | (with_reducible exact HR226.out) | (with_reducible refine Kd.C_alloc ?_ _) | (with_reducible refine Kd.C_drewN ?_ _) | (with_reducible refine Kd.C_drew ?_) | exact HR226.out)⟩, ⟨by repeat (first | (with_reducible first | exact HK.out | apply Kept.alloc | apply Kept.drewN | apply Kept.drew) | exact HK.out)⟩, ⟨by repeat (first | (with_reducible first | exact HB.out | apply below_alloc | apply pw_below_drewN | apply below_drew1) | exact HB.out)⟩⟩
                    case round =>
                      clear H'
                      try clear c1
                      try clear p1
                      try clear q1
                      try clear hx1
                      try clear qi1
                      try clear c2
                      try clear p2
                      try clear q2
                      try clear hx2
                      try clear c3
                      try clear c4
                      try clear q4
                      try clear c5
                      try clear c6
                      try clear p6
                      try clear c7
                      try clear c8
                      try clear c9
                      try clear q9
                      try clear c10
                      try clear c10b0
                      try clear c10b1
                      try clear c12
                      try clear c14
                      try clear c14b0
                      try clear c16
                      try clear p17
                      try clear q17
                      try clear hx17
                      try clear qi17
                      try clear c18
                      try clear c20
                      try clear c20b0
                      try clear c21
                      try clear c22
                      try clear c22b0
                      try clear p22
                      try clear q22
                      try clear hx22
                      try clear c23
                      try clear c23b0
                      try clear c27
                      try clear c27b0
                      try clear c27b1
                      try clear c28
                      try clear c30
                      try clear c31
                      try clear c34
                      try clear c34b0
                      try clear c34b1
                      try clear c35
                      try clear c35b0
                      try clear c35b1
                      try clear c36
                      try clear c39
                      try clear c39b0
                      try clear c40
                      try clear c44
                      try clear c44b0
                      try clear c45
                      try clear c45b0
                      try clear c45b1
                      try clear c46
                      try clear c46b0
                      try clear c46b1
                      try clear c47
                      try clear c48
                      try clear q48
                      try clear c50
                      try clear c50b0
                      try clear c51
                      try clear c53
                      try clear c56
                      try clear c56b0
                      try clear c56b1
                      try clear c58
                      try clear c58b0
                      try clear c59
                      try clear c60
                      try clear c60b0
                      try clear c61
                      try clear p64
                      try clear c67
                      try clear c67b0
                      try clear c68
                      try clear c74
                      try clear c80
                      try clear c80b0
                      try clear c80b1
                      try clear c82
                      try clear c83
                      try clear c86
                      try clear c86b0
                      try clear c88
                      try clear c88b0
                      try clear c88b1
                      try clear c89
                      try clear c89b0
                      try clear c89b1
                      try clear q90
                      try clear c91
                      try clear c91b0
                      try clear c92
                      try clear c92b0
                      try clear c93
                      try clear c93b0
                      try clear c94
                      try clear hx179_0
                      try clear hx227_0
                      try clear p1
                      try clear p17
                      try clear p179
                      try clear p2
                      try clear p227
                      try clear p6
                      try clear p64
                      try clear q1
                      try clear q17
                      try clear q179
                      try clear q227
                      try clear q4
                      try clear q48
                      try clear q9
                      try clear q90
                      obtain ⟨x0_6, x203_6, rfl, HA, HK6, HO_0, HR226, HK, HB⟩ := hrel
                      cases gk with
                      | zero => exact absurd HA.out (by simp [strconv_fmtEFG.l2])
                      | succ k6 =>
                        have H := HA.out
                        clear HA
                        simp only [strconv_fmtEFG.l2] at H
                        by_cases c96 : x203_6 < (wrap64 (a3 - ji87))
                        · rw [if_pos c96] at H
                          have c96b0 : decide (x203_6 < (wrap64 (a3 - ji87))) = true := decide_eq_true c96
                          clear c96
                          by_cases c97 : x0_6.length < 140737488355328
                          · rw [if_pos c97] at H
                            have LMc97 := Aside0.mk c97
                            clear c97
                            obtain ⟨y231, hy231⟩ : ∃ y_ : List Int, y_ = (x0_6 ++ [48]) := ⟨_, rfl⟩
                            replace H : (strconv_fmtEFG.l2 k6 y231 l2 a3 a4 a5 (wrap64 (a3 - ji87)) (wrap64 (x203_6 + 1))) = some r := by first | (rw [hy231]; with_reducible exact H) | (have H2_ := (Option.bind_some _ _).symm.trans H; rw [hy231]; with_reducible exact H2_) | (have H2_ := (Option.bind_some _ _).symm.trans H; with_reducible exact H2_) | with_reducible exact H | (rw [hy231]; exact H) | exact H
                            have Ny231 := Aside0.mk hy231
                            clear hy231
                            have H' := Aside0.mk H
                            clear H
                            go_wp2_with (first | ((with_reducible refine gate_builtin (b := .append) (xs := #[.tmp 205, .tmp 206]) rfl ?_); at_builtin; refine RM_append (w0 := w0) w0.heap.size rfl (.tmp 205) (.tmp 206) 39 5 (.int .u8 0) 1 rfl Tryd.underlying39 info5 rfl (by decide) u0 x0_6 48 [.int .u8 48] (fun k_ => (P0_ k_ ∨ w.heap.size ≤ k_)) (fun _ => False) rfl rfl ?aP (fun _ hk => hk.elim) ?aF ?aO ?aB ?aS ?aL ?_; (case aP => exact rfl); (case aB => exact (by repeat (first | (with_reducible first | exact HB.out | apply below_alloc | apply pw_below_drewN | apply below_drew1) | exact HB.out))); (case aF => exact (fun k_ hk => (.inr (Nat.le_trans (by first | exact HK.out.1 | exact (show Kept w _ (fun k_ => P0_ k_) from by repeat (first | (with_reducible first | exact HK.out | apply Kept.alloc | apply Kept.drewN | apply Kept.drew) | exact HK.out)).1) hk)))); (case aO => exact (by (with_reducible repeat (first | apply RM_alloc | apply RM_drewN | apply RM_drew | apply Kd.R_alloc | apply Kd.R_drewN | apply Kd.R_drew)); exact HO_0.out)); (case aS => exact (below_size (by repeat (first | (with_reducible first | exact HB.out | apply below_alloc | apply pw_below_drewN | apply below_drew1) | exact HB.out)))); (case aL => have := LMc97.out; omega); intro v232 w98 ho hb hg hat; rw [← Ny231.out] at ho; have n0_ := Aside0.mk (hb); have n1_ := Aside0.mk (Kept.of_grown (S := (fun k_ => P0_ k_)) hg (by repeat (first | (with_reducible first | exact HK.out | apply Kept.alloc | apply Kept.drewN | apply Kept.drew) | exact HK.out)) (fun k_ e_ => (HO_0.out.1 k_ e_))); have n2_ := Aside0.mk ((show Kd.C (Kd.int .u8) w98 A2 y223.length y223 from by rw [Ny223.out]; exact Kd.C_take (m := ((ji87) : Int).toNat) (Kd.C_kept_now HR2.out (show Kept w w98 (fun k_ => P0_ k_) from (Kept.of_grown (S := (fun k_ => P0_ k_)) hg (by repeat (first | (with_reducible first | exact HK.out | apply Kept.alloc | apply Kept.drewN | apply Kept.drew) | exact HK.out)) (fun k_ e_ => (HO_0.out.1 k_ e_))))) KL90.out)); have n3_ := Aside0.mk (ho); clear HB; clear HK; clear HR226; clear HO_0; have HB := n0_; have HK := n1_; have HR226 := n2_; have HO233 := n3_; clear n0_ n1_ n2_ n3_; clear ho hb hg hat))
                            go_roundg k6
                            case measure => have := HJ8.out; have := HJ10.out; have := HJ25.out; have := HJ80.out; have := HK5.out; have := HK6.out; omega
                            case rel => exact ⟨(y231), (wrap64 (x203_6 + 1)), (by first | rfl | (simp; done) | (simp [*]; done)), H', ⟨by have := HJ8.out; have := HJ10.out; have := HJ25.out; have := HJ80.out; have := HK5.out; have := HK6.out; omega⟩, ⟨by (with_reducible repeat (first | apply RM_alloc | apply RM_drewN | apply RM_drew | apply Kd.R_alloc | apply Kd.R_drewN | apply Kd.R_drew)); exact HO233.out⟩, ⟨by repeat (first | (with_reducible exact HR226.out) | (with_reducible refine Kd.C_alloc ?_ _) | (with_reducible refine Kd.C_drewN ?_ _) | (with_reducible refine Kd.C_drew ?_) | exact HR226.out)⟩, ⟨by repeat (first | (with_reducible first | exact HK.out | apply Kept.alloc | apply Kept.drewN | apply Kept.drew) | exact HK.out)⟩, ⟨by repeat (first | (with_reducible first | exact HB.out | apply below_alloc | apply pw_below_drewN | apply below_drew1) | exact HB.out)⟩⟩
                          · rw [if_neg c97] at H
                            exact absurd H (by simp)
                        · rw [if_neg c96] at H
                          have c96b0 : decide (x203_6 < (wrap64 (a3 - ji87))) = false := decide_eq_false c96
                          clear c96
                          have H' := Aside0.mk H
                          clear H
                          go_wp2
                          go_meet
                          case rel => exact ⟨_, (x0_6), H', ⟨by have := HJ8.out; have := HJ10.out; have := HJ25.out; have := HJ80.out; have := HK5.out; have := HK6.out; first | omega | exact Nat.le_refl _⟩, ⟨by (with_reducible repeat (first | apply RM_alloc | apply RM_drewN | apply RM_drew | apply Kd.R_alloc | apply Kd.R_drewN | apply Kd.R_drew)); exact HO_0.out⟩, ⟨by repeat (first | (with_reducible first | exact HK.out | apply Kept.alloc | apply Kept.drewN | apply Kept.drew) | exact HK.out)⟩, ⟨by repeat (first | (with_reducible first | exact HB.out | apply below_alloc | apply pw_below_drewN | apply below_drew1) | exact HB.out)⟩⟩
            · rw [if_neg c89] at H
              exact absurd H (by simp)
          · rw [if_neg c88] at H
            exact absurd H (by simp)
        · rw [if_neg c86] at H
          have c86b0 : decide (0 < a3) = false := decide_eq_false c86
          clear c86
          (first | rw [c86b0] | (simp only [i64_w, i32_w]; rw [c86b0]) | skip)
          by_cases c99 : x0_80.length < 140737488355328
          · rw [if_pos c99] at H
            have LMc99 := Aside0.mk c99
            clear c99
            obtain ⟨y234, hy234⟩ : ∃ y_ : List Int, y_ = (x0_80 ++ [48]) := ⟨_, rfl⟩
            replace H : (strconv_fmtEFG.j17 kj80 y234 l2 a3 a4 a5) = some r := by first | (rw [hy234]; with_reducible exact H) | (have H2_ := (Option.bind_some _ _).symm.trans H; rw [hy234]; with_reducible exact H2_) | (have H2_ := (Option.bind_some _ _).symm.trans H; with_reducible exact H2_) | with_reducible exact H | (rw [hy234]; exact H) | exact H
            have Ny234 := Aside0.mk hy234
            clear hy234
            have H' := Aside0.mk H
            clear H
            go_wp2_with (first | ((with_reducible refine gate_builtin (b := .append) (xs := #[.tmp 209, .tmp 210]) rfl ?_); at_builtin; refine RM_append (w0 := w0) w0.heap.size rfl (.tmp 209) (.tmp 210) 39 5 (.int .u8 0) 1 rfl Tryd.underlying39 info5 rfl (by decide) u0 x0_80 48 [.int .u8 48] (fun k_ => (P0_ k_ ∨ w.heap.size ≤ k_)) (fun _ => False) rfl rfl ?aP (fun _ hk => hk.elim) ?aF ?aO ?aB ?aS ?aL ?_; (case aP => exact rfl); (case aB => exact (by repeat (first | (with_reducible first | exact HB.out | apply below_alloc | apply pw_below_drewN | apply below_drew1) | exact HB.out))); (case aF => exact (fun k_ hk => (.inr (Nat.le_trans (by first | exact HK.out.1 | exact (show Kept w _ (fun k_ => P0_ k_) from by repeat (first | (with_reducible first | exact HK.out | apply Kept.alloc | apply Kept.drewN | apply Kept.drew) | exact HK.out)).1) hk)))); (case aO => exact (by (with_reducible repeat (first | apply RM_alloc | apply RM_drewN | apply RM_drew | apply Kd.R_alloc | apply Kd.R_drewN | apply Kd.R_drew)); exact HO_0.out)); (case aS => exact (below_size (by repeat (first | (with_reducible first | exact HB.out | apply below_alloc | apply pw_below_drewN | apply below_drew1) | exact HB.out)))); (case aL => have := LMc99.out; omega); intro v235 w100 ho hb hg hat; rw [← Ny234.out] at ho; have n0_ := Aside0.mk (hb); have n1_ := Aside0.mk (Kept.of_grown (S := (fun k_ => P0_ k_)) hg (by repeat (first | (with_reducible first | exact HK.out | apply Kept.alloc | apply Kept.drewN | apply Kept.drew) | exact HK.out)) (fun k_ e_ => (HO_0.out.1 k_ e_))); have n2_ := Aside0.mk (ho); clear HB; clear HK; clear HO_0; have HB := n0_; have HK := n1_; have HO236 := n2_; clear n0_ n1_ n2_; clear ho hb hg hat))
            go_meet
            case rel => exact ⟨_, (y234), H', ⟨by have := HJ8.out; have := HJ10.out; have := HJ25.out; have := HJ80.out; first | omega | exact Nat.le_refl _⟩, ⟨by (with_reducible repeat (first | apply RM_alloc | apply RM_drewN | apply RM_drew | apply Kd.R_alloc | apply Kd.R_drewN | apply Kd.R_drew)); exact HO236.out⟩, ⟨by repeat (first | (with_reducible first | exact HK.out | apply Kept.alloc | apply Kept.drewN | apply Kept.drew) | exact HK.out)⟩, ⟨by repeat (first | (with_reducible first | exact HB.out | apply below_alloc | apply pw_below_drewN | apply below_drew1) | exact HB.out)⟩⟩
          · rw [if_neg c99] at H
            exact absurd H (by simp)
      case rest =>
        clear HC85
        try clear c1
        try clear p1
        try clear q1
        try clear hx1
        try clear qi1
        try clear c2
        try clear p2
        try clear q2
        try clear hx2
        try clear c3
        try clear c4
        try clear q4
        try clear c5
        try clear c6
        try clear p6
        try clear c7
        try clear c8
        try clear c9
        try clear q9
        try clear c10
        try clear c10b0
        try clear c10b1
        try clear c12
        try clear c14
        try clear c14b0
        try clear c16
        try clear p17
        try clear q17
        try clear hx17
        try clear qi17
        try clear c18
        try clear c20
        try clear c20b0
        try clear c21
        try clear c22
        try clear c22b0
        try clear p22
        try clear q22
        try clear hx22
        try clear c23
        try clear c23b0
        try clear c27
        try clear c27b0
        try clear c27b1
        try clear c28
        try clear c30
        try clear c31
        try clear c34
        try clear c34b0
        try clear c34b1
        try clear c35
        try clear c35b0
        try clear c35b1
        try clear c36
        try clear c39
        try clear c39b0
        try clear c40
        try clear c44
        try clear c44b0
        try clear c45
        try clear c45b0
        try clear c45b1
        try clear c46
        try clear c46b0
        try clear c46b1
        try clear c47
        try clear c48
        try clear q48
        try clear c50
        try clear c50b0
        try clear c51
        try clear c53
        try clear c56
        try clear c56b0
        try clear c56b1
        try clear c58
        try clear c58b0
        try clear c59
        try clear c60
        try clear c60b0
        try clear c61
        try clear p64
        try clear c67
        try clear c67b0
        try clear c68
        try clear c74
        try clear c80
        try clear c80b0
        try clear c80b1
        try clear c82
        try clear c83
        try clear c86
        try clear c86b0
        try clear c88
        try clear c88b0
        try clear c88b1
        try clear c89
        try clear c89b0
        try clear c89b1
        try clear q90
        try clear c91
        try clear c91b0
        try clear c92
        try clear c92b0
        try clear c93
        try clear c93b0
        try clear c94
        try clear c96
        try clear c96b0
        try clear c97
        try clear c99
        try clear hx179_0
        try clear hx227_0
        try clear p1
        try clear p17
        try clear p179
        try clear p2
        try clear p22
        try clear p227
        try clear p6
        try clear p64
        try clear q1
        try clear q17
        try clear q179
        try clear q2
        try clear q22
        try clear q227
        try clear q4
        try clear q48
        try clear q9
        try clear q90
        obtain ⟨kq, x0_84, HA, HJ84, HO_0, HK, HB⟩ := hcut
        cases kq with
        | zero => exact absurd HA.out (by simp [strconv_fmtEFG.j17])
        | succ kj84 =>
          have H := HA.out
          clear HA
          simp only [strconv_fmtEFG.j17] at H
          by_cases c101 : a5 > 0
          · rw [if_pos c101] at H
            have c101b0 : decide (0 < a5) = true := decide_eq_true c101
            clear c101
            by_cases c102 : x0_84.length < 140737488355328
            · rw [if_pos c102] at H
              have LMc102 := Aside0.mk c102
              clear c102
              obtain ⟨y237, hy237⟩ : ∃ y_ : List Int, y_ = (x0_84 ++ [46]) := ⟨_, rfl⟩
              replace H : (strconv_fmtEFG.l3 kj84 y237 l2 (wrap64 (a3 + (mn a5 (mx 0 (wrap64 (-a3)))))) (mn (wrap64 (a5 - (mn a5 (mx 0 (wrap64 (-a3)))))) (mx 0 (wrap64 (a4 - (wrap64 (a3 + (mn a5 (mx 0 (wrap64 (-a3)))))))))) (mx 0 (wrap64 ((wrap64 (a5 - (mn a5 (mx 0 (wrap64 (-a3)))))) - (mn (wrap64 (a5 - (mn a5 (mx 0 (wrap64 (-a3)))))) (mx 0 (wrap64 (a4 - (wrap64 (a3 + (mn a5 (mx 0 (wrap64 (-a3))))))))))))) (mn a5 (mx 0 (wrap64 (-a3)))) 0) = some r := by first | (rw [hy237]; with_reducible exact H) | (have H2_ := (Option.bind_some _ _).symm.trans H; rw [hy237]; with_reducible exact H2_) | (have H2_ := (Option.bind_some _ _).symm.trans H; with_reducible exact H2_) | with_reducible exact H | (rw [hy237]; exact H) | exact H
              have Ny237 := Aside0.mk hy237
              clear hy237
              obtain ⟨ji103, hji103⟩ : ∃ j_ : Int, (mx 0 (wrap64 (-a3))) = j_ := ⟨_, rfl⟩
              replace H : (strconv_fmtEFG.l3 kj84 y237 l2 (wrap64 (a3 + (mn a5 (ji103)))) (mn (wrap64 (a5 - (mn a5 (ji103)))) (mx 0 (wrap64 (a4 - (wrap64 (a3 + (mn a5 (ji103)))))))) (mx 0 (wrap64 ((wrap64 (a5 - (mn a5 (ji103)))) - (mn (wrap64 (a5 - (mn a5 (ji103)))) (mx 0 (wrap64 (a4 - (wrap64 (a3 + (mn a5 (ji103))))))))))) (mn a5 (ji103)) 0) = some r := by first | (rw [hji103] at H; exact H) | (simp only [hji103] at H ⊢; exact H)
              have hji103_ : (if 0 < (wrap64 (-a3)) then (wrap64 (-a3)) else 0) = ji103 := hji103
              obtain ⟨ji104, hji104⟩ : ∃ j_ : Int, (mn a5 (ji103)) = j_ := ⟨_, rfl⟩
              replace H : (strconv_fmtEFG.l3 kj84 y237 l2 (wrap64 (a3 + (ji104))) (mn (wrap64 (a5 - (ji104))) (mx 0 (wrap64 (a4 - (wrap64 (a3 + (ji104))))))) (mx 0 (wrap64 ((wrap64 (a5 - (ji104))) - (mn (wrap64 (a5 - (ji104))) (mx 0 (wrap64 (a4 - (wrap64 (a3 + (ji104)))))))))) ji104 0) = some r := by first | (rw [hji104] at H; exact H) | (simp only [hji104] at H ⊢; exact H)
              have hji104_ : (if (ji103) < a5 then (ji103) else a5) = ji104 := hji104
              obtain ⟨ji105, hji105⟩ : ∃ j_ : Int, (mx 0 (wrap64 (a4 - (wrap64 (a3 + (ji104)))))) = j_ := ⟨_, rfl⟩
              replace H : (strconv_fmtEFG.l3 kj84 y237 l2 (wrap64 (a3 + (ji104))) (mn (wrap64 (a5 - (ji104))) (ji105)) (mx 0 (wrap64 ((wrap64 (a5 - (ji104))) - (mn (wrap64 (a5 - (ji104))) (ji105))))) ji104 0) = some r := by first | (rw [hji105] at H; exact H) | (simp only [hji105] at H ⊢; exact H)
              have hji105_ : (if 0 < (wrap64 (a4 - (wrap64 (a3 + (ji104))))) then (wrap64 (a4 - (wrap64 (a3 + (ji104))))) else 0) = ji105 := hji105
              obtain ⟨ji106, hji106⟩ : ∃ j_ : Int, (mn (wrap64 (a5 - (ji104))) (ji105)) = j_ := ⟨_, rfl⟩
              replace H : (strconv_fmtEFG.l3 kj84 y237 l2 (wrap64 (a3 + (ji104))) ji106 (mx 0 (wrap64 ((wrap64 (a5 - (ji104))) - (ji106)))) ji104 0) = some r := by first | (rw [hji106] at H; exact H) | (simp only [hji106] at H ⊢; exact H)
              have hji106_ : (if (ji105) < (wrap64 (a5 - (ji104))) then (ji105) else (wrap64 (a5 - (ji104)))) = ji106 := hji106
              obtain ⟨ji107, hji107⟩ : ∃ j_ : Int, (mx 0 (wrap64 ((wrap64 (a5 - (ji104))) - (ji106)))) = j_ := ⟨_, rfl⟩
              replace H : (strconv_fmtEFG.l3 kj84 y237 l2 (wrap64 (a3 + (ji104))) ji106 ji107 ji104 0) = some r := by first | (rw [hji107] at H; exact H) | (simp only [hji107] at H ⊢; exact H)
              have hji107_ : (if 0 < (wrap64 ((wrap64 (a5 - (ji104))) - (ji106))) then (wrap64 ((wrap64 (a5 - (ji104))) - (ji106))) else 0) = ji107 := hji107
              have H' := Aside0.mk H
              clear H
              go_wp2_with (first | ((with_reducible refine gate_builtin (b := .append) (xs := #[.tmp 214, .tmp 215]) rfl ?_); at_builtin; refine RM_append (w0 := w0) w0.heap.size rfl (.tmp 214) (.tmp 215) 39 5 (.int .u8 0) 1 rfl Tryd.underlying39 info5 rfl (by decide) u0 x0_84 46 [.int .u8 46] (fun k_ => (P0_ k_ ∨ w.heap.size ≤ k_)) (fun _ => False) rfl rfl ?aP (fun _ hk => hk.elim) ?aF ?aO ?aB ?aS ?aL ?_; (case aP => exact rfl); (case aB => exact (by repeat (first | (with_reducible first | exact HB.out | apply below_alloc | apply pw_below_drewN | apply below_drew1) | exact HB.out))); (case aF => exact (fun k_ hk => (.inr (Nat.le_trans (by first | exact HK.out.1 | exact (show Kept w _ (fun k_ => P0_ k_) from by repeat (first | (with_reducible first | exact HK.out | apply Kept.alloc | apply Kept.drewN | apply Kept.drew) | exact HK.out)).1) hk)))); (case aO => exact (by (with_reducible repeat (first | apply RM_alloc | apply RM_drewN | apply RM_drew | apply Kd.R_alloc | apply Kd.R_drewN | apply Kd.R_drew)); exact HO_0.out)); (case aS => exact (below_size (by repeat (first | (with_reducible first | exact HB.out | apply below_alloc | apply pw_below_drewN | apply below_drew1) | exact HB.out)))); (case aL => have := LMc102.out; omega); intro v238 w108 ho hb hg hat; rw [← Ny237.out] at ho; have n0_ := Aside0.mk (hb); have n1_ := Aside0.mk (Kept.of_grown (S := (fun k_ => P0_ k_)) hg (by repeat (first | (with_reducible first | exact HK.out | apply Kept.alloc | apply Kept.drewN | apply Kept.drew) | exact HK.out)) (fun k_ e_ => (HO_0.out.1 k_ e_))); have n2_ := Aside0.mk (ho); clear HB; clear HK; clear HO_0; have HB := n0_; have HK := n1_; have HO239 := n2_; clear n0_ n1_ n2_; clear ho hb hg hat))
              go_loopg [0, 240] kj84 (fun kq v0 v240 w' => ∃ (x0_6 : List Int) (x240_6 : Int), v240 = .int .i64 x240_6 ∧ Aside0 (strconv_fmtEFG.l3 kq x0_6 l2 (wrap64 (a3 + (ji104))) ji106 ji107 ji104 x240_6 = some r) ∧ Aside0 (kq ≤ kj84) ∧ Aside0 (RM 5 w' w0.heap.size (fun k_ => (P0_ k_ ∨ w.heap.size ≤ k_)) v0 x0_6) ∧ Aside0 (Kept w w' (fun k_ => P0_ k_)) ∧ Aside0 (Below w0.heap.size w0 w'))
              case atStart => exact ⟨(y237), (0), (by first | rfl | (simp; done) | (simp [*]; done)), H', ⟨Nat.le_refl _⟩, ⟨by (with_reducible repeat (first | apply RM_alloc | apply RM_drewN | apply RM_drew | apply Kd.R_alloc | apply Kd.R_drewN | apply Kd.R_drew)); exact HO239.out⟩, ⟨by repeat (first | (with_reducible first | exact HK.out | apply Kept.alloc | apply Kept.drewN | apply Kept.drew) | exact HK.out)⟩, ⟨by repeat (first | (with_reducible first | exact HB.out | apply below_alloc | apply pw_below_drewN | apply below_drew1) | exact HB.out)⟩⟩
              case round =>
                clear H'
                try clear c1
                try clear p1
                try clear q1
                try clear hx1
                try clear qi1
                try clear c2
                try clear p2
                try clear q2
                try clear hx2
                try clear c3
                try clear c4
                try clear q4
                try clear c5
                try clear c6
                try clear p6
                try clear c7
                try clear c8
                try clear c9
                try clear q9
                try clear c10
                try clear c10b0
                try clear c10b1
                try clear c12
                try clear c14
                try clear c14b0
                try clear c16
                try clear p17
                try clear q17
                try clear hx17
                try clear qi17
                try clear c18
                try clear c20
                try clear c20b0
                try clear c21
                try clear c22
                try clear c22b0
                try clear p22
                try clear q22
                try clear hx22
                try clear c23
                try clear c23b0
                try clear c27
                try clear c27b0
                try clear c27b1
                try clear c28
                try clear c30
                try clear c31
                try clear c34
                try clear c34b0
                try clear c34b1
                try clear c35
                try clear c35b0
                try clear c35b1
                try clear c36
                try clear c39
                try clear c39b0
                try clear c40
                try clear c44
                try clear c44b0
                try clear c45
                try clear c45b0
                try clear c45b1
                try clear c46
                try clear c46b0
                try clear c46b1
                try clear c47
                try clear c48
                try clear q48
                try clear c50
                try clear c50b0
                try clear c51
                try clear c53
                try clear c56
                try clear c56b0
                try clear c56b1
                try clear c58
                try clear c58b0
                try clear c59
                try clear c60
                try clear c60b0
                try clear c61
                try clear p64
                try clear c67
                try clear c67b0
                try clear c68
                try clear c74
                try clear c80
                try clear c80b0
                try clear c80b1
                try clear c82
                try clear c83
                try clear c86
                try clear c86b0
                try clear c88
                try clear c88b0
                try clear c88b1
                try clear c89
                try clear c89b0
                try clear c89b1
                try clear q90
                try clear c91
                try clear c91b0
                try clear c92
                try clear c92b0
                try clear c93
                try clear c93b0
                try clear c94
                try clear c96
                try clear c96b0
                try clear c97
                try clear c99
                try clear c101
                try clear c101b0
                try clear c102
                try clear hx179_0
                try clear hx227_0
                try clear p1
                try clear p17
                try clear p179
                try clear p2
                try clear p22
                try clear p227
                try clear p6
                try clear p64
                try clear q1
                try clear q17
                try clear q179
                try clear q2
                try clear q22
                try clear q227
                try clear q4
                try clear q48
                try clear q9
                try clear q90
                obtain ⟨x0_6, x240_6, rfl, HA, HK6, HO_0, HK, HB⟩ := hrel
                cases gk with
                | zero => exact absurd HA.out (by simp [strconv_fmtEFG.l3])
                | succ k6 =>
                  have H := HA.out
                  clear HA
                  simp only [strconv_fmtEFG.l3] at H
                  by_cases c109 : x240_6 < ji104
                  · rw [if_pos c109] at H
                    have c109b0 : decide (x240_6 < ji104) = true := decide_eq_true c109
                    clear c109
                    by_cases c110 : x0_6.length < 140737488355328
                    · rw [if_pos c110] at H
                      have LMc110 := Aside0.mk c110
                      clear c110
                      obtain ⟨y240, hy240⟩ : ∃ y_ : List Int, y_ = (x0_6 ++ [48]) := ⟨_, rfl⟩
                      replace H : (strconv_fmtEFG.l3 k6 y240 l2 (wrap64 (a3 + (ji104))) ji106 ji107 ji104 (wrap64 (x240_6 + 1))) = some r := by first | (rw [hy240]; with_reducible exact H) | (have H2_ := (Option.bind_some _ _).symm.trans H; rw [hy240]; with_reducible exact H2_) | (have H2_ := (Option.bind_some _ _).symm.trans H; with_reducible exact H2_) | with_reducible exact H | (rw [hy240]; exact H) | exact H
                      have Ny240 := Aside0.mk hy240
                      clear hy240
                      have H' := Aside0.mk H
                      clear H
                      go_wp2_with (first | ((with_reducible refine gate_builtin (b := .append) (xs := #[.tmp 242, .tmp 243]) rfl ?_); at_builtin; refine RM_append (w0 := w0) w0.heap.size rfl (.tmp 242) (.tmp 243) 39 5 (.int .u8 0) 1 rfl Tryd.underlying39 info5 rfl (by decide) u0 x0_6 48 [.int .u8 48] (fun k_ => (P0_ k_ ∨ w.heap.size ≤ k_)) (fun _ => False) rfl rfl ?aP (fun _ hk => hk.elim) ?aF ?aO ?aB ?aS ?aL ?_; (case aP => exact rfl); (case aB => exact (by repeat (first | (with_reducible first | exact HB.out | apply below_alloc | apply pw_below_drewN | apply below_drew1) | exact HB.out))); (case aF => exact (fun k_ hk => (.inr (Nat.le_trans (by first | exact HK.out.1 | exact (show Kept w _ (fun k_ => P0_ k_) from by repeat (first | (with_reducible first | exact HK.out | apply Kept.alloc | apply Kept.drewN | apply Kept.drew) | exact HK.out)).1) hk)))); (case aO => exact (by (with_reducible repeat (first | apply RM_alloc | apply RM_drewN | apply RM_drew | apply Kd.R_alloc | apply Kd.R_drewN | apply Kd.R_drew)); exact HO_0.out)); (case aS => exact (below_size (by repeat (first | (with_reducible first | exact HB.out | apply below_alloc | apply pw_below_drewN | apply below_drew1) | exact HB.out)))); (case aL => have := LMc110.out; omega); intro v241 w111 ho hb hg hat; rw [← Ny240.out] at ho; have n0_ := Aside0.mk (hb); have n1_ := Aside0.mk (Kept.of_grown (S := (fun k_ => P0_ k_)) hg (by repeat (first | (with_reducible first | exact HK.out | apply Kept.alloc | apply Kept.drewN | apply Kept.drew) | exact HK.out)) (fun k_ e_ => (HO_0.out.1 k_ e_))); have n2_ := Aside0.mk (ho); clear HB; clear HK; clear HO_0; have HB := n0_; have HK := n1_; have HO242 := n2_; clear n0_ n1_ n2_; clear ho hb hg hat))
                      go_roundg k6
                      case measure => have := HJ8.out; have := HJ10.out; have := HJ25.out; have := HJ80.out; have := HJ84.out; have := HK6.out; omega
                      case rel => exact ⟨(y240), (wrap64 (x240_6 + 1)), (by first | rfl | (simp; done) | (simp [*]; done)), H', ⟨by have := HJ8.out; have := HJ10.out; have := HJ25.out; have := HJ80.out; have := HJ84.out; have := HK6.out; omega⟩, ⟨by (with_reducible repeat (first | apply RM_alloc | apply RM_drewN | apply RM_drew | apply Kd.R_alloc | apply Kd.R_drewN | apply Kd.R_drew)); exact HO242.out⟩, ⟨by repeat (first | (with_reducible first | exact HK.out | apply Kept.alloc | apply Kept.drewN | apply Kept.drew) | exact HK.out)⟩, ⟨by repeat (first | (with_reducible first | exact HB.out | apply below_alloc | apply pw_below_drewN | apply below_drew1) | exact HB.out)⟩⟩
                    · rw [if_neg c110] at H
                      exact absurd H (by simp)
                  · rw [if_neg c109] at H
                    have c109b0 : decide (x240_6 < ji104) = false := decide_eq_false c109
                    clear c109
                    have H' := Aside0.mk H
                    clear H
                    go_wp2
                    go_loopg [0, 247] k6 (fun kq v0 v247 w' => ∃ (x0_7 : List Int) (x247_7 : Int), v247 = .int .i64 x247_7 ∧ Aside0 (strconv_fmtEFG.l4 kq x0_7 l2 (wrap64 (a3 + (ji104))) ji107 ji106 x247_7 = some r) ∧ Aside0 (kq ≤ k6) ∧ Aside0 (RM 5 w' w0.heap.size (fun k_ => (P0_ k_ ∨ w.heap.size ≤ k_)) v0 x0_7) ∧ Aside0 (Kept w w' (fun k_ => P0_ k_)) ∧ Aside0 (Below w0.heap.size w0 w'))
                    case atStart => exact ⟨(x0_6), (0), (by first | rfl | (simp; done) | (simp [*]; done)), H', ⟨Nat.le_refl _⟩, ⟨by (with_reducible repeat (first | apply RM_alloc | apply RM_drewN | apply RM_drew | apply Kd.R_alloc | apply Kd.R_drewN | apply Kd.R_drew)); exact HO_0.out⟩, ⟨by repeat (first | (with_reducible first | exact HK.out | apply Kept.alloc | apply Kept.drewN | apply Kept.drew) | exact HK.out)⟩, ⟨by repeat (first | (with_reducible first | exact HB.out | apply below_alloc | apply pw_below_drewN | apply below_drew1) | exact HB.out)⟩⟩
                    case round =>
                      clear H'
                      try clear c1
                      try clear p1
                      try clear q1
                      try clear hx1
                      try clear qi1
                      try clear c2
                      try clear p2
                      try clear q2
                      try clear hx2
                      try clear c3
                      try clear c4
                      try clear q4
                      try clear c5
                      try clear c6
                      try clear p6
                      try clear c7
                      try clear c8
                      try clear c9
                      try clear q9
                      try clear c10
                      try clear c10b0
                      try clear c10b1
                      try clear c11
                      try clear c12
                      try clear c14
                      try clear c14b0
                      try clear c16
                      try clear p17
                      try clear q17
                      try clear hx17
                      try clear qi17
                      try clear c18
                      try clear c20
                      try clear c20b0
                      try clear c21
                      try clear c22
                      try clear c22b0
                      try clear p22
                      try clear q22
                      try clear hx22
                      try clear c23
                      try clear c23b0
                      try clear c27
                      try clear c27b0
                      try clear c27b1
                      try clear c28
                      try clear c30
                      try clear c31
                      try clear c34
                      try clear c34b0
                      try clear c34b1
                      try clear c35
                      try clear c35b0
                      try clear c35b1
                      try clear c36
                      try clear c39
                      try clear c39b0
                      try clear c40
                      try clear c44
                      try clear c44b0
                      try clear c45
                      try clear c45b0
                      try clear c45b1
                      try clear c46
                      try clear c46b0
                      try clear c46b1
                      try clear c47
                      try clear c48
                      try clear q48
                      try clear c50
                      try clear c50b0
                      try clear c51
                      try clear c53
                      try clear c56
                      try clear c56b0
                      try clear c56b1
                      try clear c58
                      try clear c58b0
                      try clear c59
                      try clear c60
                      try clear c60b0
                      try clear c61
                      try clear p64
                      try clear c67
                      try clear c67b0
                      try clear c68
                      try clear c74
                      try clear c80
                      try clear c80b0
                      try clear c80b1
                      try clear c82
                      try clear c83
                      try clear c86
                      try clear c86b0
                      try clear c88
                      try clear c88b0
                      try clear c88b1
                      try clear c89
                      try clear c89b0
                      try clear c89b1
                      try clear q90
                      try clear c91
                      try clear c91b0
                      try clear c92
                      try clear c92b0
                      try clear c93
                      try clear c93b0
                      try clear c94
                      try clear c96
                      try clear c96b0
                      try clear c97
                      try clear c99
                      try clear c101
                      try clear c101b0
                      try clear c102
                      try clear c109
                      try clear c109b0
                      try clear c110
                      try clear hx179_0
                      try clear hx227_0
                      try clear p1
                      try clear p17
                      try clear p179
                      try clear p2
                      try clear p22
                      try clear p227
                      try clear p6
                      try clear p64
                      try clear q1
                      try clear q17
                      try clear q179
                      try clear q2
                      try clear q22
                      try clear q227
                      try clear q4
                      try clear q48
                      try clear q9
                      try clear q90
                      obtain ⟨x0_7, x247_7, rfl, HA, HK7, HO_0, HK, HB⟩ := hrel
                      cases gk with
                      | zero => exact absurd HA.out (by simp [strconv_fmtEFG.l4])
                      | succ k7 =>
                        have H := HA.out
                        clear HA
                        simp only [strconv_fmtEFG.l4] at H
                        by_cases c112 : x247_7 < ji106
                        · rw [if_pos c112] at H
                          have c112b0 : decide (x247_7 < ji106) = true := decide_eq_true c112
                          clear c112
                          obtain ⟨ji113, hji113⟩ : ∃ j_ : Int, (wrap64 ((wrap64 (a3 + (ji104))) + x247_7)) = j_ := ⟨_, rfl⟩
                          replace H : (if 0 ≤ (ji113) then (if (ji113) < (l2.length : Int) then (if x0_7.length < 140737488355328 then (strconv_fmtEFG.l4 k7 (x0_7 ++ [rd l2 (ji113)]) l2 (wrap64 (a3 + (ji104))) ji107 ji106 (wrap64 (x247_7 + 1))) else (none)) else (none)) else (none)) = some r := by first | (rw [hji113] at H; exact H) | (simp only [hji113] at H ⊢; exact H)
                          have hji113w : (IntKind.i64.wrap ((wrap64 (a3 + (ji104))) + x247_7)) = ji113 := (i64_w _).trans hji113
                          by_cases c114 : 0 ≤ (ji113)
                          · rw [if_pos c114] at H
                            have c114b0 : decide (0 ≤ (ji113)) = true := decide_eq_true c114
                            clear c114
                            by_cases c115 : (ji113) < (l2.length : Int)
                            · rw [if_pos c115] at H
                              have c115b0 : decide ((ji113) < (l2.length : Int)) = true := decide_eq_true c115
                              clear c115
                              by_cases c116 : x0_7.length < 140737488355328
                              · rw [if_pos c116] at H
                                have LMc116 := Aside0.mk c116
                                clear c116
                                obtain ⟨y244, hy244⟩ : ∃ y_ : List Int, y_ = (x0_7 ++ [rd l2 (ji113)]) := ⟨_, rfl⟩
                                replace H : (strconv_fmtEFG.l4 k7 y244 l2 (wrap64 (a3 + (ji104))) ji107 ji106 (wrap64 (x247_7 + 1))) = some r := by first | (rw [hy244]; with_reducible exact H) | (have H2_ := (Option.bind_some _ _).symm.trans H; rw [hy244]; with_reducible exact H2_) | (have H2_ := (Option.bind_some _ _).symm.trans H; with_reducible exact H2_) | with_reducible exact H | (rw [hy244]; exact H) | exact H
                                have Ny244 := Aside0.mk hy244
                                clear hy244
                                have H' := Aside0.mk H
                                clear H
                                have p243 : 0 ≤ ((ji113) : Int) := of_decide_eq_true (by first | (with_reducible assumption) | assumption)
                                have q243 : (ji113) < (l2.length : Int) := of_decide_eq_true (by first | (with_reducible assumption) | assumption)
                                obtain ⟨ad243, e243, hx243_0⟩ := Kd.at_int (Kd.C_kept_now HR2.out HK.out) (ji113) p243 q243
                                cases e243
                                replace p243 := eq_true p243
                                replace q243 := eq_true q243
                                go_wp2_with (first | ((with_reducible refine gate_builtin (b := .append) (xs := #[.tmp 250, .tmp 257]) rfl ?_); at_builtin; refine RM_append (w0 := w0) w0.heap.size rfl (.tmp 250) (.tmp 257) 39 5 (.int .u8 0) 1 rfl Tryd.underlying39 info5 rfl (by decide) u0 x0_7 (rd l2 (ji113)) [.int .u8 (rd l2 (ji113))] (fun k_ => (P0_ k_ ∨ w.heap.size ≤ k_)) (fun _ => False) rfl rfl ?aP (fun _ hk => hk.elim) ?aF ?aO ?aB ?aS ?aL ?_; (case aP => exact rfl); (case aB => exact (by repeat (first | (with_reducible first | exact HB.out | apply below_alloc | apply pw_below_drewN | apply below_drew1) | exact HB.out))); (case aF => exact (fun k_ hk => (.inr (Nat.le_trans (by first | exact HK.out.1 | exact (show Kept w _ (fun k_ => P0_ k_) from by repeat (first | (with_reducible first | exact HK.out | apply Kept.alloc | apply Kept.drewN | apply Kept.drew) | exact HK.out)).1) hk)))); (case aO => exact (by (with_reducible repeat (first | apply RM_alloc | apply RM_drewN | apply RM_drew | apply Kd.R_alloc | apply Kd.R_drewN | apply Kd.R_drew)); exact HO_0.out)); (case aS => exact (below_size (by repeat (first | (with_reducible first | exact HB.out | apply below_alloc | apply pw_below_drewN | apply below_drew1) | exact HB.out)))); (case aL => have := LMc116.out; omega); intro v245 w117 ho hb hg hat; rw [← Ny244.out] at ho; have n0_ := Aside0.mk (hb); have n1_ := Aside0.mk (Kept.of_grown (S := (fun k_ => P0_ k_)) hg (by repeat (first | (with_reducible first | exact HK.out | apply Kept.alloc | apply Kept.drewN | apply Kept.drew) | exact HK.out)) (fun k_ e_ => (HO_0.out.1 k_ e_))); have n2_ := Aside0.mk (ho); clear HB; clear HK; clear HO_0; have HB := n0_; have HK := n1_; have HO246 := n2_; clear n0_ n1_ n2_; clear ho hb hg hat))
                                go_roundg k7
                                case measure => have := HJ8.out; have := HJ10.out; have := HJ25.out; have := HJ80.out; have := HJ84.out; have := HK6.out; have := HK7.out; omega
                                case rel => exact ⟨(y244), (wrap64 (x247_7 + 1)), (by first | rfl | (simp; done) | (simp [*]; done)), H', ⟨by have := HJ8.out; have := HJ10.out; have := HJ25.out; have := HJ80.out; have := HJ84.out; have := HK6.out; have := HK7.out; omega⟩, ⟨by (with_reducible repeat (first | apply RM_alloc | apply RM_drewN | apply RM_drew | apply Kd.R_alloc | apply Kd.R_drewN | apply Kd.R_drew)); exact HO246.out⟩, ⟨by repeat (first | (with_reducible first | exact HK.out | apply Kept.alloc | apply Kept.drewN | apply Kept.drew) | exact HK.out)⟩, ⟨by repeat (first | (with_reducible first | exact HB.out | apply below_alloc | apply pw_below_drewN | apply below_drew1) | exact HB.out)⟩⟩
                              · rw [if_neg c116] at H
                                exact absurd H (by simp)
                            · rw [if_neg c115] at H
                              exact absurd H (by simp)
                          · rw [if_neg c114] at H
                            exact absurd H (by simp)
                        · rw [if_neg c112] at H
                          have c112b0 : decide (x247_7 < ji106) = false := decide_eq_false c112
                          clear c112
                          have H' := Aside0.mk H
                          clear H
                          go_wp2
                          go_loopg [0, 261] k7 (fun kq v0 v261 w' => ∃ (x0_8 : List Int) (x261_8 : Int), v261 = .int .i64 x261_8 ∧ Aside0 (strconv_fmtEFG.l5 kq x0_8 ji107 x261_8 = some r) ∧ Aside0 (kq ≤ k7) ∧ Aside0 (RM 5 w' w0.heap.size (fun k_ => (P0_ k_ ∨ w.heap.size ≤ k_)) v0 x0_8) ∧ Aside0 (Kept w w' (fun k_ => P0_ k_)) ∧ Aside0 (Below w0.heap.size w0 w'))
                          case atStart => exact ⟨(x0_7), (0), (by first | rfl | (simp; done) | (simp [*]; done)), H', ⟨Nat.le_refl _⟩, ⟨by (with_reducible repeat (first | apply RM_alloc | apply RM_drewN | apply RM_drew | apply Kd.R_alloc | apply Kd.R_drewN | apply Kd.R_drew)); exact HO_0.out⟩, ⟨by repeat (first | (with_reducible first | exact HK.out | apply Kept.alloc | apply Kept.drewN | apply Kept.drew) | exact HK.out)⟩, ⟨by repeat (first | (with_reducible first | exact HB.out | apply below_alloc | apply pw_below_drewN | apply below_drew1) | exact HB.out)⟩⟩
                          case round =>
                            clear H'
                            try clear c1
                            try clear p1
                            try clear q1
                            try clear hx1
                            try clear qi1
                            try clear c2
                            try clear p2
                            try clear q2
                            try clear hx2
                            try clear c3
                            try clear c4
                            try clear q4
                            try clear c5
                            try clear c6
                            try clear p6
                            try clear c7
                            try clear c8
                            try clear c9
                            try clear q9
                            try clear c10
                            try clear c10b0
                            try clear c10b1
                            try clear c11
                            try clear c12
                            try clear c14
                            try clear c14b0
                            try clear c16
                            try clear p17
                            try clear q17
                            try clear hx17
                            try clear qi17
                            try clear c18
                            try clear c20
                            try clear c20b0
                            try clear c21
                            try clear c22
                            try clear c22b0
                            try clear p22
                            try clear q22
                            try clear hx22
                            try clear c23
                            try clear c23b0
                            try clear p24
                            try clear q24
                            try clear hx24
                            try clear c27
                            try clear c27b0
                            try clear c27b1
                            try clear c28
                            try clear c30
                            try clear c31
                            try clear c34
                            try clear c34b0
                            try clear c34b1
                            try clear c35
                            try clear c35b0
                            try clear c35b1
                            try clear c36
                            try clear c39
                            try clear c39b0
                            try clear c40
                            try clear c44
                            try clear c44b0
                            try clear c45
                            try clear c45b0
                            try clear c45b1
                            try clear c46
                            try clear c46b0
                            try clear c46b1
                            try clear c47
                            try clear c48
                            try clear q48
                            try clear c50
                            try clear c50b0
                            try clear c51
                            try clear c53
                            try clear c56
                            try clear c56b0
                            try clear c56b1
                            try clear c58
                            try clear c58b0
                            try clear c59
                            try clear c60
                            try clear c60b0
                            try clear c61
                            try clear p64
                            try clear c67
                            try clear c67b0
                            try clear c68
                            try clear c74
                            try clear c80
                            try clear c80b0
                            try clear c80b1
                            try clear c82
                            try clear c83
                            try clear c86
                            try clear c86b0
                            try clear c88
                            try clear c88b0
                            try clear c88b1
                            try clear c89
                            try clear c89b0
                            try clear c89b1
                            try clear q90
                            try clear c91
                            try clear c91b0
                            try clear c92
                            try clear c92b0
                            try clear c93
                            try clear c93b0
                            try clear c94
                            try clear c96
                            try clear c96b0
                            try clear c97
                            try clear c99
                            try clear c101
                            try clear c101b0
                            try clear c102
                            try clear c109
                            try clear c109b0
                            try clear c110
                            try clear c112
                            try clear c112b0
                            try clear c114
                            try clear c114b0
                            try clear c115
                            try clear c115b0
                            try clear c116
                            try clear hx179_0
                            try clear hx227_0
                            try clear hx243_0
                            try clear p1
                            try clear p17
                            try clear p179
                            try clear p2
                            try clear p22
                            try clear p227
                            try clear p243
                            try clear p6
                            try clear p64
                            try clear q1
                            try clear q17
                            try clear q179
                            try clear q2
                            try clear q22
                            try clear q227
                            try clear q243
                            try clear q4
                            try clear q48
                            try clear q9
                            try clear q90
                            obtain ⟨x0_8, x261_8, rfl, HA, HK8, HO_0, HK, HB⟩ := hrel
                            cases gk with
                            | zero => exact absurd HA.out (by simp [strconv_fmtEFG.l5])
                            | succ k8 =>
                              have H := HA.out
                              clear HA
                              simp only [strconv_fmtEFG.l5] at H
                              by_cases c118 : x261_8 < ji107
                              · rw [if_pos c118] at H
                                have c118b0 : decide (x261_8 < ji107) = true := decide_eq_true c118
                                clear c118
                                by_cases c119 : x0_8.length < 140737488355328
                                · rw [if_pos c119] at H
                                  have LMc119 := Aside0.mk c119
                                  clear c119
                                  obtain ⟨y247, hy247⟩ : ∃ y_ : List Int, y_ = (x0_8 ++ [48]) := ⟨_, rfl⟩
                                  replace H : (strconv_fmtEFG.l5 k8 y247 ji107 (wrap64 (x261_8 + 1))) = some r := by first | (rw [hy247]; with_reducible exact H) | (have H2_ := (Option.bind_some _ _).symm.trans H; rw [hy247]; with_reducible exact H2_) | (have H2_ := (Option.bind_some _ _).symm.trans H; with_reducible exact H2_) | with_reducible exact H | (rw [hy247]; exact H) | exact H
                                  have Ny247 := Aside0.mk hy247
                                  clear hy247
                                  have H' := Aside0.mk H
                                  clear H
                                  go_wp2_with (first | ((with_reducible refine gate_builtin (b := .append) (xs := #[.tmp 263, .tmp 264]) rfl ?_); at_builtin; refine RM_append (w0 := w0) w0.heap.size rfl (.tmp 263) (.tmp 264) 39 5 (.int .u8 0) 1 rfl Tryd.underlying39 info5 rfl (by decide) u0 x0_8 48 [.int .u8 48] (fun k_ => (P0_ k_ ∨ w.heap.size ≤ k_)) (fun _ => False) rfl rfl ?aP (fun _ hk => hk.elim) ?aF ?aO ?aB ?aS ?aL ?_; (case aP => exact rfl); (case aB => exact (by repeat (first | (with_reducible first | exact HB.out | apply below_alloc | apply pw_below_drewN | apply below_drew1) | exact HB.out))); (case aF => exact (fun k_ hk => (.inr (Nat.le_trans (by first | exact HK.out.1 | exact (show Kept w _ (fun k_ => P0_ k_) from by repeat (first | (with_reducible first | exact HK.out | apply Kept.alloc | apply Kept.drewN | apply Kept.drew) | exact HK.out)).1) hk)))); (case aO => exact (by (with_reducible repeat (first | apply RM_alloc | apply RM_drewN | apply RM_drew | apply Kd.R_alloc | apply Kd.R_drewN | apply Kd.R_drew)); exact HO_0.out)); (case aS => exact (below_size (by repeat (first | (with_reducible first | exact HB.out | apply below_alloc | apply pw_below_drewN | apply below_drew1) | exact HB.out)))); (case aL => have := LMc119.out; omega); intro v248 w120 ho hb hg hat; rw [← Ny247.out] at ho; have n0_ := Aside0.mk (hb); have n1_ := Aside0.mk (Kept.of_grown (S := (fun k_ => P0_ k_)) hg (by repeat (first | (with_reducible first | exact HK.out | apply Kept.alloc | apply Kept.drewN | apply Kept.drew) | exact HK.out)) (fun k_ e_ => (HO_0.out.1 k_ e_))); have n2_ := Aside0.mk (ho); clear HB; clear HK; clear HO_0; have HB := n0_; have HK := n1_; have HO249 := n2_; clear n0_ n1_ n2_; clear ho hb hg hat))
                                  go_roundg k8
                                  case measure => have := HJ8.out; have := HJ10.out; have := HJ25.out; have := HJ80.out; have := HJ84.out; have := HK6.out; have := HK7.out; have := HK8.out; omega
                                  case rel => exact ⟨(y247), (wrap64 (x261_8 + 1)), (by first | rfl | (simp; done) | (simp [*]; done)), H', ⟨by have := HJ8.out; have := HJ10.out; have := HJ25.out; have := HJ80.out; have := HJ84.out; have := HK6.out; have := HK7.out; have := HK8.out; omega⟩, ⟨by (with_reducible repeat (first | apply RM_alloc | apply RM_drewN | apply RM_drew | apply Kd.R_alloc | apply Kd.R_drewN | apply Kd.R_drew)); exact HO249.out⟩, ⟨by repeat (first | (with_reducible first | exact HK.out | apply Kept.alloc | apply Kept.drewN | apply Kept.drew) | exact HK.out)⟩, ⟨by repeat (first | (with_reducible first | exact HB.out | apply below_alloc | apply pw_below_drewN | apply below_drew1) | exact HB.out)⟩⟩
                                · rw [if_neg c119] at H
                                  exact absurd H (by simp)
                              · rw [if_neg c118] at H
                                have c118b0 : decide (x261_8 < ji107) = false := decide_eq_false c118
                                clear c118
                                obtain rfl := Option.some.inj H
                                go_wp2
                                go_ret
                                exact ⟨_, by first | rfl | (simp [errW_none, errW_some] <;> rfl) | (simp only [← hji103, ← hji104, ← hji105, ← hji106, ← hji107]; first | rfl | (simp [errW_none, errW_some] <;> rfl)) | (simp [*, errW_none, errW_some] <;> rfl), by (with_reducible repeat (first | apply RM_alloc | apply RM_drewN | apply RM_drew | apply Kd.R_alloc | apply Kd.R_drewN | apply Kd.R_drew)); exact HO_0.out, by repeat (first | (with_reducible first | exact HB.out | apply below_alloc | apply pw_below_drewN | apply below_drew1) | exact HB.out), by repeat (first | (with_reducible first | exact HK.out | apply Kept.alloc | apply Kept.drewN | apply Kept.drew) | exact HK.out)⟩
            · rw [if_neg c102] at H
              exact absurd H (by simp)
          · rw [if_neg c101] at H
            have c101b0 : decide (0 < a5) = false := decide_eq_false c101
            clear c101
            obtain rfl := Option.some.inj H
            go_wp2
            go_ret
            exact ⟨_, by first | rfl | (simp [errW_none, errW_some] <;> rfl) | (simp [*, errW_none, errW_some] <;> rfl), by (with_reducible repeat (first | apply RM_alloc | apply RM_drewN | apply RM_drew | apply Kd.R_alloc | apply Kd.R_drewN | apply Kd.R_drew)); exact HO_0.out, by repeat (first | (with_reducible first | exact HB.out | apply below_alloc | apply pw_below_drewN | apply below_drew1) | exact HB.out), by repeat (first | (with_reducible first | exact HK.out | apply Kept.alloc | apply Kept.drewN | apply Kept.drew) | exact HK.out)⟩
end Go.Proofs.YtiopeaponffmdaaDoor.PAll
-- YtiopeaponffmdaaDoorRn
namespace Go.Proofs.YtiopeaponffmdaaDoor.PAll
open Go.RowKit Go.Proofs.YtiopeaponffmdaaDoorW.PrintWords Go.Proofs.YtiopeaponffmdaaDoorW.PrintLast Go.Proofs.YtiopeaponffmdaaDoorW.PrintMore
open Go.Builtin Go.Lib
set_option linter.unusedVariables false
theorem strCells_nums (s : ByteArray) : strCells s = nums .u8 (bytesOf s) := by simp [nums, bytesOf, strCells]
section
variable {w w1 W : World} {e base b : Nat} {ok : Nat → Prop} {v u : Value} {xs ys : List Int}
theorem RM_block {g n cap : Nat} (h : RM e W base ok (.slice (some ⟨g, 0, none⟩) n cap) xs) : ∃ cur fz, base ≤ g ∧ W.heap[g]? = some (.cells cur e fz) ∧ FreeM fz cur.size ∧ xs.length ≤ cap ∧ cap ≤ maxLen ∧ cur.size = cap ∧ cur.toList.take xs.length = nums .u8 xs ∧ n = xs.length := by
  rcases h.2.2 with ⟨h1, h2⟩ | ⟨g', cap', cur, fz, h1, hb, hg, hfz, h3, h4, h5, h6⟩
  · simp at h1
  · injection h1 with q1 q2 q3
    injection q1 with q1
    injection q1 with q1
    subst q1 q3
    exact ⟨cur, fz, hb, hg, hfz, h3, h4, h5, h6, q2⟩
theorem RM_put {g n cap : Nat} (h : RM e W base ok (.slice (some ⟨g, 0, none⟩) n cap) xs) (i : Nat) (hi : i < xs.length) (x : Int) :
    RM e (W.setCell ⟨g, i, none⟩ (.int .u8 x)) base ok (.slice (some ⟨g, 0, none⟩) n cap) (xs.set i x) := by
  obtain ⟨cur, fz, h1, h2, h3, h4, h5, h6, h7, h8⟩ := RM_block h
  refine ⟨h.1, by simp [nums], .inr ⟨g, cap, cur.setIfInBounds i (.int .u8 x), fz, by rw [List.length_set, h8], h1, ?_, by simpa using h3, by rw [List.length_set]; exact h4, h5, by simpa using h6, ?_⟩⟩
  · rw [setCell_eq_setRow W g i cur e fz _ h2]
    exact setRow_heap W g cur _ e _ h2
  · rw [List.length_set, Array.toList_setIfInBounds, List.take_set, h7]
    simp [nums]
theorem RM_take {n m cap : Nat} {A : Option Addr} (h : RM e W base ok (.slice A n cap) xs) (hm : m ≤ xs.length) : RM e W base ok (.slice A m cap) (xs.take m) := by
  have hl : (xs.take m).length = m := by rw [List.length_take]; omega
  rcases h.2.2 with ⟨h1, h2⟩ | ⟨g', cap', cur, fz, h1, hb, hg, hfz, h3, h4, h5, h6⟩
  · injection h1 with q1 q2 q3
    subst q1 q3
    obtain rfl : m = 0 := by omega
    exact ⟨fun k hk => by simp [Value.ownBlock] at hk, by simp [nums], .inl ⟨rfl, by simp⟩⟩
  · injection h1 with q1 q2 q3
    subst q1 q3
    refine ⟨fun k hk => h.1 k (by simpa [Value.ownBlock] using hk), by simp [nums], .inr ⟨g', cap, cur, fz, by rw [hl], hb, hg, hfz, by omega, h4, h5, ?_⟩⟩
    rw [hl]
    have := congrArg (List.take m) h6
    rw [List.take_take, Nat.min_eq_left hm] at this
    rw [this]
    simp [nums, List.map_take]
theorem RM_cell {g n cap : Nat} (h : RM e W base ok (.slice (some ⟨g, 0, none⟩) n cap) xs) (i : Nat) (hi : i < xs.length) :
    W.cell? ⟨g, i, none⟩ = some (.int .u8 (xs.getD i 0)) ∧ W.frozen? ⟨g, i, none⟩ = false := by
  obtain ⟨cur, fz, h1, h2, h3, h4, h5, h6, h7, h8⟩ := RM_block h
  constructor
  · rw [cell_of_row W g i cur e fz h2]
    have := nums_get xs i hi
    rw [← h7, List.getElem?_take] at this
    rw [if_pos hi] at this
    simpa using this
  · have := h3 i (by omega)
    obtain ⟨lo, hi'⟩ := fz
    simp only [World.frozen?, h2, Bool.and_eq_false_iff, decide_eq_false_iff_not]
    simp only at this
    omega
/-- the row of a conversion of a string -/
theorem RM_bytes (w : World) (e : TypeId) (s : ByteArray) (hs : s.size ≤ 140737488355328) (hb : base ≤ w.heap.size) (hok : ok w.heap.size) : RM e (bytesWorld w e s) base ok (.slice (some ⟨w.heap.size, 0, none⟩) s.size (grownCap w s.size 0 e)) (bytesOf s) := by
  have hge := grownCap_ge w s.size 0 e
  have hcm : grownCap w s.size 0 e ≤ maxLen := grownCap_le_maxLen w s.size 0 e (by simp only [maxLen]; omega)
  have hsz : (bytesCells w e s).size = grownCap w s.size 0 e := by
    have : s.data.size = s.size := rfl
    simp only [bytesCells, Array.size_append, Array.size_map, Array.size_replicate, this]; omega
  refine ⟨fun k hk => by simp [Value.ownBlock] at hk; rw [← hk]; exact hok, by rw [nums_length], .inr ⟨w.heap.size, grownCap w s.size 0 e, bytesCells w e s, _, by rw [bytesOf_length], hb, bytesWorld_at_new w e s, ?_, by rw [bytesOf_length]; exact hge, hcm, hsz, ?_⟩⟩
  · intro k hk h
    simp only at h
    omega
  · rw [bytesOf_length, ← strCells_nums]
    simp only [bytesCells, Array.toList_append]
    have : (s.data.map fun b => Value.int IntKind.u8 b.toNat).toList = strCells s := by simp [strCells]
    rw [this, ← strCells_length s]
    exact List.take_left
end
end Go.Proofs.YtiopeaponffmdaaDoor.PAll
-- YtiopeaponffmdaaDoorFd
namespace Go.Proofs.YtiopeaponffmdaaDoor.PAll
open Go.RowKit Go.Proofs.YtiopeaponffmdaaDoorW.PrintWords Go.Proofs.YtiopeaponffmdaaDoorW.PrintLast Go.Proofs.YtiopeaponffmdaaDoorW.PrintMore
attribute [local go_sem] max2_int min2_int max_two min_two max_three min_three max_four min_four
theorem run53 (x : Nat) (w : World) : (callFunc 53 #[.float .f64 x]).run Tryd.prog w = .ok (.value (.int .u64 (x : Int))) w := by kernel_rfl


/-- the buffer's numbers: nd digits of D, zeros behind -/
def bufL (D nd : Nat) : List Int := (List.range 32).map fun j => if j < nd then ((48 + D / 10 ^ (nd - 1 - j) % 10 : Nat) : Int) else 0
theorem bufL_length (D nd : Nat) : (bufL D nd).length = 32 := by simp [bufL]
theorem bufL_at (D nd j : Nat) (hj : j < 32) : (bufL D nd).getD j 0 = if j < nd then ((48 + D / 10 ^ (nd - 1 - j) % 10 : Nat) : Int) else 0 := by
  simp [bufL, List.getD_eq_getElem?_getD, hj]

theorem buf_reads (W : World) (b D nd : Nat) (c' : Array Value) (T : TypeId) (hb : W.heap[b]? = some (.cells c' T (0, 0)))
    (h1 : ∀ j, j < nd → c'[j]? = some (.int .u8 ((48 + D / 10 ^ (nd - 1 - j) % 10 : Nat) : Int))) (h2 : ∀ j, nd ≤ j → c'[j]? = (Array.replicate 32 (Value.int .u8 0))[j]?) :
    Kd.C (Kd.int .u8) W (some ⟨b, 0, none⟩) (bufL D nd).length (bufL D nd) := by
  refine Kd.C_of_reads (enc := Value.int .u8) (d := (0 : Int)) (h1 := fun _ => rfl) ?_
  refine ⟨rfl, by rw [bufL_length]; omega, fun _ => ⟨_, rfl, fun j hj => ?_⟩⟩
  rw [bufL_length] at hj
  rw [add_plain, blk_cell hb]
  rw [bufL_at D nd j hj]
  by_cases h : j < nd
  · rw [h1 j h, if_pos h]
  · rw [h2 j (by omega), if_neg h, Array.getElem?_replicate, if_pos hj]

/-- what is known of the number of digits left -/
def Left (D nd k : Nat) : Prop := 1 ≤ k ∧ k ≤ nd ∧ (∀ j, k ≤ j → j < nd → D / 10 ^ (nd - 1 - j) % 10 = 0) ∧ D / 10 ^ (nd - k) % 10 ≠ 0

def FtPost (w0 : World) (R : List Int → Prop) (e : Ending) (w' : World) : Prop :=
  ∃ (v : Value) (r : List Int), e = .returned v ∧ R r ∧ RM 5 w' w0.heap.size (fun _ => True) v r ∧ Below w0.heap.size w0 w'

/-- what stands ready at the call of fmtEFG -/
theorem efg_ready {P0_ : Nat → Prop} {v0 : Value} {l0 : List Int} {D nd : Nat} {w0 w W2 W3 : World} {c' : Array Value} (hB : Below w0.heap.size w0 w) (ho : RM 5 w w0.heap.size P0_ v0 l0)
    (b2 : Below w.heap.size w W2) (g1 : W3.heap[w.heap.size]? = some (.cells c' 82 (0, 0)))
    (g3 : ∀ j, j < nd → c'[j]? = some (.int .u8 ((48 + D / 10 ^ (nd - 1 - j) % 10 : Nat) : Int))) (g4 : ∀ j, nd ≤ j → c'[j]? = (Array.replicate 32 (Value.int .u8 0))[j]?)
    (g5 : KeepBut W2.drew W3 w.heap.size none) (g6 : ∀ B w0, B ≤ w.heap.size → Below B w0 W2.drew → Below B w0 W3) :
    Below w0.heap.size w0 W3 ∧ RM 5 W3 w0.heap.size (fun q => P0_ q ∧ q < w.heap.size) v0 l0 ∧
      (∀ W_, Kept W3 W_ (fun q => P0_ q ∧ q < w.heap.size) → Kd.C (Kd.int .u8) W_ (some ⟨w.heap.size, 0, none⟩) (bufL D nd).length (bufL D nd)) := by
  refine ⟨g6 _ _ hB.size (below_drew (below_then hB hB.size b2)), ?_, ?_⟩
  · refine RM_step (RM_mono (RM_bound ho) (fun k hk => ⟨hk.1, hk.2.2⟩)) (fun k hk _ => ?_)
    have h1 := g5.2 k (Nat.lt_of_lt_of_le hk.2 b2.size) (by have := hk.2; omega) (by simp)
    exact h1.trans (b2.block k hk.2)
  · intro W_ hk
    refine buf_reads W_ w.heap.size D nd c' 82 ?_ g3 g4
    rw [hk.2 w.heap.size (blk_lt g1) (fun h => by have := h.2; omega)]
    exact g1

set_option maxHeartbeats 3200000 in
set_option maxRecDepth 100000 in
theorem ftoa64FN (P0_ : Nat → Prop) (v0 : Value) (l0 : List Int) (R : List Int → Prop) (x ex fr M L m D nd : Nat) (E pp : Int) (sg : Bool) (w0 w : World) (hx : x < 18446744073709551616)
    (hB : Below w0.heap.size w0 w) (ho : RM 5 w w0.heap.size P0_ v0 l0)
    (hneg : ((x : Int) / 9223372036854775808 != 0) = sg) (hexp : bits .and .i64 ((x : Int) / 4503599627370496) 2047 = (ex : Int)) (hman : bits .and .u64 (x : Int) 4503599627370495 = (fr : Int))
    (hex1 : 1 ≤ ex) (hex2 : ex < 2047) (hor : bits .or .u64 (fr : Int) 4503599627370496 = (M : Int)) (hM1 : 1 ≤ M) (hM2 : M < 9007199254740992)
    (hL : Lib.bitLen M = L) (hL1 : 1 ≤ L) (hL2 : L ≤ 53) (hm : IntKind.u64.wrap ((M : Int) * 2 ^ (64 - L)) = (m : Int)) (hE : (ex : Int) + -1023 - (64 - (L : Int)) - 52 = E)
    (hSF : ∀ W, Below w.heap.size w W → Calls Tryd.prog 66 #[.int .u64 (m : Int), .int .i64 E] W fun e W' => e = .returned (.tuple #[.int .u64 (D : Int), .int .i64 pp]) ∧ Below W.heap.size W W')
    (hND : ∀ W, Below w.heap.size w W → Calls Tryd.prog 60 #[.int .u64 (D : Int)] W fun e W' => e = .returned (.int .i64 (nd : Int)) ∧ W = W')
    (hD1 : 10 ^ (nd - 1) ≤ D) (hD2 : D < 10 ^ nd) (hD3 : D < 18446744073709551616) (hnd1 : 1 ≤ nd) (hnd2 : nd ≤ 20) (hp0 : -2000 ≤ pp) (hp1 : pp ≤ 2000)
    (hF : ∀ k, Left D nd k → ∃ K r, fmtF.f K l0 sg (bufL D nd) ((nd : Int) + pp) k (mx ((k : Int) - ((nd : Int) + pp)) 0) = some r ∧ R r) :
    Calls Tryd.prog 51 #[v0, .float .f64 x, .int .u8 102, .int .i64 (-1)] w (FtPost w0 R) := by
  have f53 := run53
  have tex : ((ex : Int) == 2047) = false := by rw [beq_eq_false_iff_ne]; omega
  have te0 : ((ex : Int) == 0) = false := by rw [beq_eq_false_iff_ne]; omega
  have tm0 : ((M : Int) == 0) = false := by rw [beq_eq_false_iff_ne]; omega
  have L57 : ∀ w, Calls Tryd.prog 57 #[.int .u64 (M : Int)] w fun e w' => e = .returned (.int .i64 (L : Int)) ∧ w = w' := fun w => by
    have h := Tryd.bits_Len64 (M : Int) w (by omega) (by omega)
    rw [Int.toNat_natCast, hL] at h
    exact h.mono fun _ _ h => ⟨h.1, h.2.symm⟩
  have H57 := Lib.hid L57; have HSF := Lib.hid hSF; have HND := Lib.hid hND; have HF := Lib.hid hF; have HO := Lib.hid ho; have HB := Lib.hid hB
  have HD1 := Lib.hid hD1; have HD2 := Lib.hid hD2
  clear L57 hL hSF hND hF ho hB hD1 hD2
  go_enter Tryd.func51, Tryd.ntmps51
  go_wp2_with (fail)
  go_quiet (fail)
  go_wp2_with (fail)
  have hb1 : ((w.drewN nq).alloc (.cells #[Value.int IntKind.u8 0, Value.int IntKind.u8 0, Value.int IntKind.u8 0, Value.int IntKind.u8 0, Value.int IntKind.u8 0, Value.int IntKind.u8 0, Value.int IntKind.u8 0, Value.int IntKind.u8 0, Value.int IntKind.u8 0, Value.int IntKind.u8 0, Value.int IntKind.u8 0, Value.int IntKind.u8 0, Value.int IntKind.u8 0, Value.int IntKind.u8 0, Value.int IntKind.u8 0, Value.int IntKind.u8 0, Value.int IntKind.u8 0, Value.int IntKind.u8 0, Value.int IntKind.u8 0, Value.int IntKind.u8 0, Value.int IntKind.u8 0, Value.int IntKind.u8 0, Value.int IntKind.u8 0, Value.int IntKind.u8 0, Value.int IntKind.u8 0, Value.int IntKind.u8 0, Value.int IntKind.u8 0, Value.int IntKind.u8 0, Value.int IntKind.u8 0, Value.int IntKind.u8 0, Value.int IntKind.u8 0, Value.int IntKind.u8 0] 82)).heap[w.heap.size]? = some (.cells (Array.replicate 32 (.int .u8 0)) 82 (0, 0)) := blk_new _ _
  have hB1 : Below w.heap.size w ((w.drewN nq).alloc (.cells #[Value.int IntKind.u8 0, Value.int IntKind.u8 0, Value.int IntKind.u8 0, Value.int IntKind.u8 0, Value.int IntKind.u8 0, Value.int IntKind.u8 0, Value.int IntKind.u8 0, Value.int IntKind.u8 0, Value.int IntKind.u8 0, Value.int IntKind.u8 0, Value.int IntKind.u8 0, Value.int IntKind.u8 0, Value.int IntKind.u8 0, Value.int IntKind.u8 0, Value.int IntKind.u8 0, Value.int IntKind.u8 0, Value.int IntKind.u8 0, Value.int IntKind.u8 0, Value.int IntKind.u8 0, Value.int IntKind.u8 0, Value.int IntKind.u8 0, Value.int IntKind.u8 0, Value.int IntKind.u8 0, Value.int IntKind.u8 0, Value.int IntKind.u8 0, Value.int IntKind.u8 0, Value.int IntKind.u8 0, Value.int IntKind.u8 0, Value.int IntKind.u8 0, Value.int IntKind.u8 0, Value.int IntKind.u8 0, Value.int IntKind.u8 0] 82)) := below_alloc (pw_below_drewN (Below.refl _ _) _) _
  generalize ((w.drewN nq).alloc _) = W1 at hb1 hB1 ⊢
  have HA1 := Lib.hid hb1
  have HB1 := Lib.hid hB1
  clear hb1 hB1
  refine (H57.out _).mono ?_
  rintro e w' ⟨rfl, rfl⟩
  go_wp2_with (fail)
  refine (HSF.out _ ?hb1).mono ?_
  case hb1 => exact HB1.out
  rintro e W2 ⟨rfl, hB2⟩
  have HB2 := Lib.hid hB2
  clear hB2
  go_wp2_with (fail)
  have bW2 := Lib.hid (below_then HB1.out HB1.out.size HB2.out)
  have cW2 := Lib.hid (blk_below HA1.out HB2.out)
  have cD := Lib.hid (show W2.drew.heap[w.heap.size]? = some (.cells (Array.replicate 32 (.int .u8 0)) 82 (0, 0)) from cW2.out)
  have HSD := Lib.hid (setDigits_calls w.heap.size D nd pp (Array.replicate 32 (.int .u8 0)) 82 W2.drew cD.out (fun j hj => by rw [Array.getElem?_replicate, if_pos (by omega)]) HD2.out HD1.out hnd1 hnd2 hD3 hp0 hp1)
  go_region_with (first | (go_at_call 60; refine (HND.out _ (below_drew bW2.out)).mono ?_; rintro e w' ⟨rfl, rfl⟩) | (go_at_call 59; refine HSD.out.mono ?_; intro e W3 hpost; obtain ⟨k, rfl, k1, k2, k3, k4, c', d1, d2, d3, d4, d5, d6⟩ := hpost; have HK := Lib.hid (show Left D nd k from ⟨k1, k2, k3, k4⟩); have G1 := Lib.hid d1; have G3 := Lib.hid d3; have G4 := Lib.hid d4; have G5 := Lib.hid d5; have G6 := Lib.hid d6; clear k3 k4 d1 d2 d3 d4 d5 d6))
  obtain ⟨K, r, hr, hR⟩ := HF.out k HK.out
  have HR' := Lib.hid hR
  have HR := Lib.hid hr
  clear hr hR
  have RDY := Lib.hid (efg_ready HB.out HO.out bW2.out G1.out G3.out G4.out G5.out G6.out)
  go_wp2_with (fail)
  · have hr := HR.out
    rw [show mx ((k : Int) - ((nd : Int) + pp)) 0 = 0 by unfold mx; split <;> omega] at hr
    have C := fmtF.calls K (fun q => P0_ q ∧ q < w.heap.size) v0 l0 sg (some ⟨w.heap.size, 0, none⟩) 32 (bufL D nd) ((nd : Int) + pp) (k : Int) (0) true r w0 W3 RDY.out.1 RDY.out.2.1 RDY.out.2.2 (by rw [bufL_length]; omega) hr
    rw [bufL_length] at C
    refine C.mono ?_
    rintro e w' ⟨v, rfl, q1, q2, q3⟩
    clear C hr
    go_wp2
    go_ret
    exact ⟨v, r, rfl, HR'.out, RM_mono q1 (fun _ _ => trivial), q2⟩
  · have hr := HR.out
    rw [show mx ((k : Int) - ((nd : Int) + pp)) 0 = (k : Int) - ((nd : Int) + pp) by unfold mx; split <;> omega] at hr
    have C := fmtF.calls K (fun q => P0_ q ∧ q < w.heap.size) v0 l0 sg (some ⟨w.heap.size, 0, none⟩) 32 (bufL D nd) ((nd : Int) + pp) (k : Int) ((k : Int) - ((nd : Int) + pp)) true r w0 W3 RDY.out.1 RDY.out.2.1 RDY.out.2.2 (by rw [bufL_length]; omega) hr
    rw [bufL_length] at C
    refine C.mono ?_
    rintro e w' ⟨v, rfl, q1, q2, q3⟩
    clear C hr
    go_wp2
    go_ret
    exact ⟨v, r, rfl, HR'.out, RM_mono q1 (fun _ _ => trivial), q2⟩

set_option maxHeartbeats 3200000 in
set_option maxRecDepth 100000 in
theorem ftoa64FS (P0_ : Nat → Prop) (v0 : Value) (l0 : List Int) (R : List Int → Prop) (x M L m D nd : Nat) (E pp : Int) (sg : Bool) (w0 w : World) (hx : x < 18446744073709551616)
    (hB : Below w0.heap.size w0 w) (ho : RM 5 w w0.heap.size P0_ v0 l0)
    (hneg : ((x : Int) / 9223372036854775808 != 0) = sg) (hexp : bits .and .i64 ((x : Int) / 4503599627370496) 2047 = 0) (hman : bits .and .u64 (x : Int) 4503599627370495 = (M : Int))
    (hM1 : 1 ≤ M) (hM2 : M < 9007199254740992)
    (hL : Lib.bitLen M = L) (hL1 : 1 ≤ L) (hL2 : L ≤ 53) (hm : IntKind.u64.wrap ((M : Int) * 2 ^ (64 - L)) = (m : Int)) (hE : (-1022 : Int) - (64 - (L : Int)) - 52 = E)
    (hSF : ∀ W, Below w.heap.size w W → Calls Tryd.prog 66 #[.int .u64 (m : Int), .int .i64 E] W fun e W' => e = .returned (.tuple #[.int .u64 (D : Int), .int .i64 pp]) ∧ Below W.heap.size W W')
    (hND : ∀ W, Below w.heap.size w W → Calls Tryd.prog 60 #[.int .u64 (D : Int)] W fun e W' => e = .returned (.int .i64 (nd : Int)) ∧ W = W')
    (hD1 : 10 ^ (nd - 1) ≤ D) (hD2 : D < 10 ^ nd) (hD3 : D < 18446744073709551616) (hnd1 : 1 ≤ nd) (hnd2 : nd ≤ 20) (hp0 : -2000 ≤ pp) (hp1 : pp ≤ 2000)
    (hF : ∀ k, Left D nd k → ∃ K r, fmtF.f K l0 sg (bufL D nd) ((nd : Int) + pp) k (mx ((k : Int) - ((nd : Int) + pp)) 0) = some r ∧ R r) :
    Calls Tryd.prog 51 #[v0, .float .f64 x, .int .u8 102, .int .i64 (-1)] w (FtPost w0 R) := by
  have f53 := run53
  have tm0 : ((M : Int) == 0) = false := by rw [beq_eq_false_iff_ne]; omega
  have L57 : ∀ w, Calls Tryd.prog 57 #[.int .u64 (M : Int)] w fun e w' => e = .returned (.int .i64 (L : Int)) ∧ w = w' := fun w => by
    have h := Tryd.bits_Len64 (M : Int) w (by omega) (by omega)
    rw [Int.toNat_natCast, hL] at h
    exact h.mono fun _ _ h => ⟨h.1, h.2.symm⟩
  have H57 := Lib.hid L57; have HSF := Lib.hid hSF; have HND := Lib.hid hND; have HF := Lib.hid hF; have HO := Lib.hid ho; have HB := Lib.hid hB
  have HD1 := Lib.hid hD1; have HD2 := Lib.hid hD2
  clear L57 hL hSF hND hF ho hB hD1 hD2
  go_enter Tryd.func51, Tryd.ntmps51
  go_wp2_with (fail)
  go_quiet (fail)
  go_wp2_with (fail)
  have hb1 : ((w.drewN nq).alloc (.cells #[Value.int IntKind.u8 0, Value.int IntKind.u8 0, Value.int IntKind.u8 0, Value.int IntKind.u8 0, Value.int IntKind.u8 0, Value.int IntKind.u8 0, Value.int IntKind.u8 0, Value.int IntKind.u8 0, Value.int IntKind.u8 0, Value.int IntKind.u8 0, Value.int IntKind.u8 0, Value.int IntKind.u8 0, Value.int IntKind.u8 0, Value.int IntKind.u8 0, Value.int IntKind.u8 0, Value.int IntKind.u8 0, Value.int IntKind.u8 0, Value.int IntKind.u8 0, Value.int IntKind.u8 0, Value.int IntKind.u8 0, Value.int IntKind.u8 0, Value.int IntKind.u8 0, Value.int IntKind.u8 0, Value.int IntKind.u8 0, Value.int IntKind.u8 0, Value.int IntKind.u8 0, Value.int IntKind.u8 0, Value.int IntKind.u8 0, Value.int IntKind.u8 0, Value.int IntKind.u8 0, Value.int IntKind.u8 0, Value.int IntKind.u8 0] 82)).heap[w.heap.size]? = some (.cells (Array.replicate 32 (.int .u8 0)) 82 (0, 0)) := blk_new _ _
  have hB1 : Below w.heap.size w ((w.drewN nq).alloc (.cells #[Value.int IntKind.u8 0, Value.int IntKind.u8 0, Value.int IntKind.u8 0, Value.int IntKind.u8 0, Value.int IntKind.u8 0, Value.int IntKind.u8 0, Value.int IntKind.u8 0, Value.int IntKind.u8 0, Value.int IntKind.u8 0, Value.int IntKind.u8 0, Value.int IntKind.u8 0, Value.int IntKind.u8 0, Value.int IntKind.u8 0, Value.int IntKind.u8 0, Value.int IntKind.u8 0, Value.int IntKind.u8 0, Value.int IntKind.u8 0, Value.int IntKind.u8 0, Value.int IntKind.u8 0, Value.int IntKind.u8 0, Value.int IntKind.u8 0, Value.int IntKind.u8 0, Value.int IntKind.u8 0, Value.int IntKind.u8 0, Value.int IntKind.u8 0, Value.int IntKind.u8 0, Value.int IntKind.u8 0, Value.int IntKind.u8 0, Value.int IntKind.u8 0, Value.int IntKind.u8 0, Value.int IntKind.u8 0, Value.int IntKind.u8 0] 82)) := below_alloc (pw_below_drewN (Below.refl _ _) _) _
  generalize ((w.drewN nq).alloc _) = W1 at hb1 hB1 ⊢
  have HA1 := Lib.hid hb1
  have HB1 := Lib.hid hB1
  clear hb1 hB1
  refine (H57.out _).mono ?_
  rintro e w' ⟨rfl, rfl⟩
  go_wp2_with (fail)
  refine (HSF.out _ ?hb1).mono ?_
  case hb1 => exact HB1.out
  rintro e W2 ⟨rfl, hB2⟩
  have HB2 := Lib.hid hB2
  clear hB2
  go_wp2_with (fail)
  have bW2 := Lib.hid (below_then HB1.out HB1.out.size HB2.out)
  have cW2 := Lib.hid (blk_below HA1.out HB2.out)
  have cD := Lib.hid (show W2.drew.heap[w.heap.size]? = some (.cells (Array.replicate 32 (.int .u8 0)) 82 (0, 0)) from cW2.out)
  have HSD := Lib.hid (setDigits_calls w.heap.size D nd pp (Array.replicate 32 (.int .u8 0)) 82 W2.drew cD.out (fun j hj => by rw [Array.getElem?_replicate, if_pos (by omega)]) HD2.out HD1.out hnd1 hnd2 hD3 hp0 hp1)
  go_region_with (first | (go_at_call 60; refine (HND.out _ (below_drew bW2.out)).mono ?_; rintro e w' ⟨rfl, rfl⟩) | (go_at_call 59; refine HSD.out.mono ?_; intro e W3 hpost; obtain ⟨k, rfl, k1, k2, k3, k4, c', d1, d2, d3, d4, d5, d6⟩ := hpost; have HK := Lib.hid (show Left D nd k from ⟨k1, k2, k3, k4⟩); have G1 := Lib.hid d1; have G3 := Lib.hid d3; have G4 := Lib.hid d4; have G5 := Lib.hid d5; have G6 := Lib.hid d6; clear k3 k4 d1 d2 d3 d4 d5 d6))
  obtain ⟨K, r, hr, hR⟩ := HF.out k HK.out
  have HR' := Lib.hid hR
  have HR := Lib.hid hr
  clear hr hR
  have RDY := Lib.hid (efg_ready HB.out HO.out bW2.out G1.out G3.out G4.out G5.out G6.out)
  go_wp2_with (fail)
  · have hr := HR.out
    rw [show mx ((k : Int) - ((nd : Int) + pp)) 0 = 0 by unfold mx; split <;> omega] at hr
    have C := fmtF.calls K (fun q => P0_ q ∧ q < w.heap.size) v0 l0 sg (some ⟨w.heap.size, 0, none⟩) 32 (bufL D nd) ((nd : Int) + pp) (k : Int) (0) true r w0 W3 RDY.out.1 RDY.out.2.1 RDY.out.2.2 (by rw [bufL_length]; omega) hr
    rw [bufL_length] at C
    refine C.mono ?_
    rintro e w' ⟨v, rfl, q1, q2, q3⟩
    clear C hr
    go_wp2
    go_ret
    exact ⟨v, r, rfl, HR'.out, RM_mono q1 (fun _ _ => trivial), q2⟩
  · have hr := HR.out
    rw [show mx ((k : Int) - ((nd : Int) + pp)) 0 = (k : Int) - ((nd : Int) + pp) by unfold mx; split <;> omega] at hr
    have C := fmtF.calls K (fun q => P0_ q ∧ q < w.heap.size) v0 l0 sg (some ⟨w.heap.size, 0, none⟩) 32 (bufL D nd) ((nd : Int) + pp) (k : Int) ((k : Int) - ((nd : Int) + pp)) true r w0 W3 RDY.out.1 RDY.out.2.1 RDY.out.2.2 (by rw [bufL_length]; omega) hr
    rw [bufL_length] at C
    refine C.mono ?_
    rintro e w' ⟨v, rfl, q1, q2, q3⟩
    clear C hr
    go_wp2
    go_ret
    exact ⟨v, r, rfl, HR'.out, RM_mono q1 (fun _ _ => trivial), q2⟩

set_option maxHeartbeats 3200000 in
set_option maxRecDepth 100000 in
theorem ftoa64EN (P0_ : Nat → Prop) (v0 : Value) (l0 : List Int) (R : List Int → Prop) (x ex fr M L m D nd : Nat) (E pp : Int) (sg : Bool) (w0 w : World) (hx : x < 18446744073709551616)
    (hB : Below w0.heap.size w0 w) (ho : RM 5 w w0.heap.size P0_ v0 l0)
    (hneg : ((x : Int) / 9223372036854775808 != 0) = sg) (hexp : bits .and .i64 ((x : Int) / 4503599627370496) 2047 = (ex : Int)) (hman : bits .and .u64 (x : Int) 4503599627370495 = (fr : Int))
    (hex1 : 1 ≤ ex) (hex2 : ex < 2047) (hor : bits .or .u64 (fr : Int) 4503599627370496 = (M : Int)) (hM1 : 1 ≤ M) (hM2 : M < 9007199254740992)
    (hL : Lib.bitLen M = L) (hL1 : 1 ≤ L) (hL2 : L ≤ 53) (hm : IntKind.u64.wrap ((M : Int) * 2 ^ (64 - L)) = (m : Int)) (hE : (ex : Int) + -1023 - (64 - (L : Int)) - 52 = E)
    (hSF : ∀ W, Below w.heap.size w W → Calls Tryd.prog 66 #[.int .u64 (m : Int), .int .i64 E] W fun e W' => e = .returned (.tuple #[.int .u64 (D : Int), .int .i64 pp]) ∧ Below W.heap.size W W')
    (hND : ∀ W, Below w.heap.size w W → Calls Tryd.prog 60 #[.int .u64 (D : Int)] W fun e W' => e = .returned (.int .i64 (nd : Int)) ∧ W = W')
    (hD1 : 10 ^ (nd - 1) ≤ D) (hD2 : D < 10 ^ nd) (hD3 : D < 18446744073709551616) (hnd1 : 1 ≤ nd) (hnd2 : nd ≤ 20) (hp0 : -2000 ≤ pp) (hp1 : pp ≤ 2000)
    (hF : ∀ k, Left D nd k → ∃ K r, fmtE.f K l0 sg (bufL D nd) ((nd : Int) + pp) k ((k : Int) - 1) = some r ∧ R r) :
    Calls Tryd.prog 51 #[v0, .float .f64 x, .int .u8 101, .int .i64 (-1)] w (FtPost w0 R) := by
  have f53 := run53
  have tex : ((ex : Int) == 2047) = false := by rw [beq_eq_false_iff_ne]; omega
  have te0 : ((ex : Int) == 0) = false := by rw [beq_eq_false_iff_ne]; omega
  have tm0 : ((M : Int) == 0) = false := by rw [beq_eq_false_iff_ne]; omega
  have L57 : ∀ w, Calls Tryd.prog 57 #[.int .u64 (M : Int)] w fun e w' => e = .returned (.int .i64 (L : Int)) ∧ w = w' := fun w => by
    have h := Tryd.bits_Len64 (M : Int) w (by omega) (by omega)
    rw [Int.toNat_natCast, hL] at h
    exact h.mono fun _ _ h => ⟨h.1, h.2.symm⟩
  have H57 := Lib.hid L57; have HSF := Lib.hid hSF; have HND := Lib.hid hND; have HF := Lib.hid hF; have HO := Lib.hid ho; have HB := Lib.hid hB
  have HD1 := Lib.hid hD1; have HD2 := Lib.hid hD2
  clear L57 hL hSF hND hF ho hB hD1 hD2
  go_enter Tryd.func51, Tryd.ntmps51
  go_wp2_with (fail)
  go_quiet (fail)
  go_wp2_with (fail)
  have hb1 : ((w.drewN nq).alloc (.cells #[Value.int IntKind.u8 0, Value.int IntKind.u8 0, Value.int IntKind.u8 0, Value.int IntKind.u8 0, Value.int IntKind.u8 0, Value.int IntKind.u8 0, Value.int IntKind.u8 0, Value.int IntKind.u8 0, Value.int IntKind.u8 0, Value.int IntKind.u8 0, Value.int IntKind.u8 0, Value.int IntKind.u8 0, Value.int IntKind.u8 0, Value.int IntKind.u8 0, Value.int IntKind.u8 0, Value.int IntKind.u8 0, Value.int IntKind.u8 0, Value.int IntKind.u8 0, Value.int IntKind.u8 0, Value.int IntKind.u8 0, Value.int IntKind.u8 0, Value.int IntKind.u8 0, Value.int IntKind.u8 0, Value.int IntKind.u8 0, Value.int IntKind.u8 0, Value.int IntKind.u8 0, Value.int IntKind.u8 0, Value.int IntKind.u8 0, Value.int IntKind.u8 0, Value.int IntKind.u8 0, Value.int IntKind.u8 0, Value.int IntKind.u8 0] 82)).heap[w.heap.size]? = some (.cells (Array.replicate 32 (.int .u8 0)) 82 (0, 0)) := blk_new _ _
  have hB1 : Below w.heap.size w ((w.drewN nq).alloc (.cells #[Value.int IntKind.u8 0, Value.int IntKind.u8 0, Value.int IntKind.u8 0, Value.int IntKind.u8 0, Value.int IntKind.u8 0, Value.int IntKind.u8 0, Value.int IntKind.u8 0, Value.int IntKind.u8 0, Value.int IntKind.u8 0, Value.int IntKind.u8 0, Value.int IntKind.u8 0, Value.int IntKind.u8 0, Value.int IntKind.u8 0, Value.int IntKind.u8 0, Value.int IntKind.u8 0, Value.int IntKind.u8 0, Value.int IntKind.u8 0, Value.int IntKind.u8 0, Value.int IntKind.u8 0, Value.int IntKind.u8 0, Value.int IntKind.u8 0, Value.int IntKind.u8 0, Value.int IntKind.u8 0, Value.int IntKind.u8 0, Value.int IntKind.u8 0, Value.int IntKind.u8 0, Value.int IntKind.u8 0, Value.int IntKind.u8 0, Value.int IntKind.u8 0, Value.int IntKind.u8 0, Value.int IntKind.u8 0, Value.int IntKind.u8 0] 82)) := below_alloc (pw_below_drewN (Below.refl _ _) _) _
  generalize ((w.drewN nq).alloc _) = W1 at hb1 hB1 ⊢
  have HA1 := Lib.hid hb1
  have HB1 := Lib.hid hB1
  clear hb1 hB1
  refine (H57.out _).mono ?_
  rintro e w' ⟨rfl, rfl⟩
  go_wp2_with (fail)
  refine (HSF.out _ ?hb1).mono ?_
  case hb1 => exact HB1.out
  rintro e W2 ⟨rfl, hB2⟩
  have HB2 := Lib.hid hB2
  clear hB2
  go_wp2_with (fail)
  have bW2 := Lib.hid (below_then HB1.out HB1.out.size HB2.out)
  have cW2 := Lib.hid (blk_below HA1.out HB2.out)
  have cD := Lib.hid (show W2.drew.heap[w.heap.size]? = some (.cells (Array.replicate 32 (.int .u8 0)) 82 (0, 0)) from cW2.out)
  have HSD := Lib.hid (setDigits_calls w.heap.size D nd pp (Array.replicate 32 (.int .u8 0)) 82 W2.drew cD.out (fun j hj => by rw [Array.getElem?_replicate, if_pos (by omega)]) HD2.out HD1.out hnd1 hnd2 hD3 hp0 hp1)
  go_region_with (first | (go_at_call 60; refine (HND.out _ (below_drew bW2.out)).mono ?_; rintro e w' ⟨rfl, rfl⟩) | (go_at_call 59; refine HSD.out.mono ?_; intro e W3 hpost; obtain ⟨k, rfl, k1, k2, k3, k4, c', d1, d2, d3, d4, d5, d6⟩ := hpost; have HK := Lib.hid (show Left D nd k from ⟨k1, k2, k3, k4⟩); have G1 := Lib.hid d1; have G3 := Lib.hid d3; have G4 := Lib.hid d4; have G5 := Lib.hid d5; have G6 := Lib.hid d6; clear k3 k4 d1 d2 d3 d4 d5 d6))
  obtain ⟨K, r, hr, hR⟩ := HF.out k HK.out
  have HR' := Lib.hid hR
  have HR := Lib.hid hr
  clear hr hR
  have RDY := Lib.hid (efg_ready HB.out HO.out bW2.out G1.out G3.out G4.out G5.out G6.out)
  go_wp2_with (fail)
  · have hr := HR.out
    have C := fmtE.calls K (fun q => P0_ q ∧ q < w.heap.size) v0 l0 sg (some ⟨w.heap.size, 0, none⟩) 32 (bufL D nd) ((nd : Int) + pp) (k : Int) ((k : Int) - 1) true r w0 W3 RDY.out.1 RDY.out.2.1 RDY.out.2.2 (by rw [bufL_length]; omega) hr
    rw [bufL_length] at C
    refine C.mono ?_
    rintro e w' ⟨v, rfl, q1, q2, q3⟩
    clear C hr
    go_wp2
    go_ret
    exact ⟨v, r, rfl, HR'.out, RM_mono q1 (fun _ _ => trivial), q2⟩

set_option maxHeartbeats 3200000 in
set_option maxRecDepth 100000 in
theorem ftoa64ES (P0_ : Nat → Prop) (v0 : Value) (l0 : List Int) (R : List Int → Prop) (x M L m D nd : Nat) (E pp : Int) (sg : Bool) (w0 w : World) (hx : x < 18446744073709551616)
    (hB : Below w0.heap.size w0 w) (ho : RM 5 w w0.heap.size P0_ v0 l0)
    (hneg : ((x : Int) / 9223372036854775808 != 0) = sg) (hexp : bits .and .i64 ((x : Int) / 4503599627370496) 2047 = 0) (hman : bits .and .u64 (x : Int) 4503599627370495 = (M : Int))
    (hM1 : 1 ≤ M) (hM2 : M < 9007199254740992)
    (hL : Lib.bitLen M = L) (hL1 : 1 ≤ L) (hL2 : L ≤ 53) (hm : IntKind.u64.wrap ((M : Int) * 2 ^ (64 - L)) = (m : Int)) (hE : (-1022 : Int) - (64 - (L : Int)) - 52 = E)
    (hSF : ∀ W, Below w.heap.size w W → Calls Tryd.prog 66 #[.int .u64 (m : Int), .int .i64 E] W fun e W' => e = .returned (.tuple #[.int .u64 (D : Int), .int .i64 pp]) ∧ Below W.heap.size W W')
    (hND : ∀ W, Below w.heap.size w W → Calls Tryd.prog 60 #[.int .u64 (D : Int)] W fun e W' => e = .returned (.int .i64 (nd : Int)) ∧ W = W')
    (hD1 : 10 ^ (nd - 1) ≤ D) (hD2 : D < 10 ^ nd) (hD3 : D < 18446744073709551616) (hnd1 : 1 ≤ nd) (hnd2 : nd ≤ 20) (hp0 : -2000 ≤ pp) (hp1 : pp ≤ 2000)
    (hF : ∀ k, Left D nd k → ∃ K r, fmtE.f K l0 sg (bufL D nd) ((nd : Int) + pp) k ((k : Int) - 1) = some r ∧ R r) :
    Calls Tryd.prog 51 #[v0, .float .f64 x, .int .u8 101, .int .i64 (-1)] w (FtPost w0 R) := by
  have f53 := run53
  have tm0 : ((M : Int) == 0) = false := by rw [beq_eq_false_iff_ne]; omega
  have L57 : ∀ w, Calls Tryd.prog 57 #[.int .u64 (M : Int)] w fun e w' => e = .returned (.int .i64 (L : Int)) ∧ w = w' := fun w => by
    have h := Tryd.bits_Len64 (M : Int) w (by omega) (by omega)
    rw [Int.toNat_natCast, hL] at h
    exact h.mono fun _ _ h => ⟨h.1, h.2.symm⟩
  have H57 := Lib.hid L57; have HSF := Lib.hid hSF; have HND := Lib.hid hND; have HF := Lib.hid hF; have HO := Lib.hid ho; have HB := Lib.hid hB
  have HD1 := Lib.hid hD1; have HD2 := Lib.hid hD2
  clear L57 hL hSF hND hF ho hB hD1 hD2
  go_enter Tryd.func51, Tryd.ntmps51
  go_wp2_with (fail)
  go_quiet (fail)
  go_wp2_with (fail)
  have hb1 : ((w.drewN nq).alloc (.cells #[Value.int IntKind.u8 0, Value.int IntKind.u8 0, Value.int IntKind.u8 0, Value.int IntKind.u8 0, Value.int IntKind.u8 0, Value.int IntKind.u8 0, Value.int IntKind.u8 0, Value.int IntKind.u8 0, Value.int IntKind.u8 0, Value.int IntKind.u8 0, Value.int IntKind.u8 0, Value.int IntKind.u8 0, Value.int IntKind.u8 0, Value.int IntKind.u8 0, Value.int IntKind.u8 0, Value.int IntKind.u8 0, Value.int IntKind.u8 0, Value.int IntKind.u8 0, Value.int IntKind.u8 0, Value.int IntKind.u8 0, Value.int IntKind.u8 0, Value.int IntKind.u8 0, Value.int IntKind.u8 0, Value.int IntKind.u8 0, Value.int IntKind.u8 0, Value.int IntKind.u8 0, Value.int IntKind.u8 0, Value.int IntKind.u8 0, Value.int IntKind.u8 0, Value.int IntKind.u8 0, Value.int IntKind.u8 0, Value.int IntKind.u8 0] 82)).heap[w.heap.size]? = some (.cells (Array.replicate 32 (.int .u8 0)) 82 (0, 0)) := blk_new _ _
  have hB1 : Below w.heap.size w ((w.drewN nq).alloc (.cells #[Value.int IntKind.u8 0, Value.int IntKind.u8 0, Value.int IntKind.u8 0, Value.int IntKind.u8 0, Value.int IntKind.u8 0, Value.int IntKind.u8 0, Value.int IntKind.u8 0, Value.int IntKind.u8 0, Value.int IntKind.u8 0, Value.int IntKind.u8 0, Value.int IntKind.u8 0, Value.int IntKind.u8 0, Value.int IntKind.u8 0, Value.int IntKind.u8 0, Value.int IntKind.u8 0, Value.int IntKind.u8 0, Value.int IntKind.u8 0, Value.int IntKind.u8 0, Value.int IntKind.u8 0, Value.int IntKind.u8 0, Value.int IntKind.u8 0, Value.int IntKind.u8 0, Value.int IntKind.u8 0, Value.int IntKind.u8 0, Value.int IntKind.u8 0, Value.int IntKind.u8 0, Value.int IntKind.u8 0, Value.int IntKind.u8 0, Value.int IntKind.u8 0, Value.int IntKind.u8 0, Value.int IntKind.u8 0, Value.int IntKind.u8 0] 82)) := below_alloc (pw_below_drewN (Below.refl _ _) _) _
  generalize ((w.drewN nq).alloc _) = W1 at hb1 hB1 ⊢
  have HA1 := Lib.hid hb1
  have HB1 := Lib.hid hB1
  clear hb1 hB1
  refine (H57.out _).mono ?_
  rintro e w' ⟨rfl, rfl⟩
  go_wp2_with (fail)
  refine (HSF.out _ ?hb1).mono ?_
  case hb1 => exact HB1.out
  rintro e W2 ⟨rfl, hB2⟩
  have HB2 := Lib.hid hB2
  clear hB2
  go_wp2_with (fail)
  have bW2 := Lib.hid (below_then HB1.out HB1.out.size HB2.out)
  have cW2 := Lib.hid (blk_below HA1.out HB2.out)
  have cD := Lib.hid (show W2.drew.heap[w.heap.size]? = some (.cells (Array.replicate 32 (.int .u8 0)) 82 (0, 0)) from cW2.out)
  have HSD := Lib.hid (setDigits_calls w.heap.size D nd pp (Array.replicate 32 (.int .u8 0)) 82 W2.drew cD.out (fun j hj => by rw [Array.getElem?_replicate, if_pos (by omega)]) HD2.out HD1.out hnd1 hnd2 hD3 hp0 hp1)
  go_region_with (first | (go_at_call 60; refine (HND.out _ (below_drew bW2.out)).mono ?_; rintro e w' ⟨rfl, rfl⟩) | (go_at_call 59; refine HSD.out.mono ?_; intro e W3 hpost; obtain ⟨k, rfl, k1, k2, k3, k4, c', d1, d2, d3, d4, d5, d6⟩ := hpost; have HK := Lib.hid (show Left D nd k from ⟨k1, k2, k3, k4⟩); have G1 := Lib.hid d1; have G3 := Lib.hid d3; have G4 := Lib.hid d4; have G5 := Lib.hid d5; have G6 := Lib.hid d6; clear k3 k4 d1 d2 d3 d4 d5 d6))
  obtain ⟨K, r, hr, hR⟩ := HF.out k HK.out
  have HR' := Lib.hid hR
  have HR := Lib.hid hr
  clear hr hR
  have RDY := Lib.hid (efg_ready HB.out HO.out bW2.out G1.out G3.out G4.out G5.out G6.out)
  go_wp2_with (fail)
  · have hr := HR.out
    have C := fmtE.calls K (fun q => P0_ q ∧ q < w.heap.size) v0 l0 sg (some ⟨w.heap.size, 0, none⟩) 32 (bufL D nd) ((nd : Int) + pp) (k : Int) ((k : Int) - 1) true r w0 W3 RDY.out.1 RDY.out.2.1 RDY.out.2.2 (by rw [bufL_length]; omega) hr
    rw [bufL_length] at C
    refine C.mono ?_
    rintro e w' ⟨v, rfl, q1, q2, q3⟩
    clear C hr
    go_wp2
    go_ret
    exact ⟨v, r, rfl, HR'.out, RM_mono q1 (fun _ _ => trivial), q2⟩
end Go.Proofs.YtiopeaponffmdaaDoor.PAll
-- YtiopeaponffmdaaDoorMj
namespace Go.Proofs.YtiopeaponffmdaaDoor.PAll
open Go.RowKit Go.Proofs.YtiopeaponffmdaaDoorW.PrintWords Go.Proofs.YtiopeaponffmdaaDoorW.PrintLast Go.Proofs.YtiopeaponffmdaaDoorW.PrintMore
open Fm

theorem dec_eq_map (D : Nat) : dec D = (List.range (dec D).length).map fun j => ((48 + D / 10 ^ ((dec D).length - 1 - j) % 10 : Nat) : Int) := by
  induction D using Nat.strongRecOn with
  | ind D ih =>
    by_cases h : D < 10
    · rw [dec_lt h]
      simp only [List.length_cons, List.length_nil, List.range_succ, List.range_zero, List.nil_append, List.map_cons, List.map_nil]
      rw [show 0 + 1 - 1 - 0 = 0 by decide, Nat.pow_zero, Nat.div_one, Nat.mod_eq_of_lt h]
    · have e := ih (D / 10) (by omega)
      have hl : (dec D).length = (dec (D / 10)).length + 1 := by rw [dec_ge (n := D) (by omega)]; simp
      rw [hl, List.range_succ, List.map_append, dec_ge (n := D) (by omega)]
      congr 1
      · conv => lhs; rw [e]
        refine List.map_congr_left fun j hj => ?_
        have hj' := List.mem_range.1 hj
        rw [show (dec (D / 10)).length + 1 - 1 - j = (dec (D / 10)).length - 1 - j + 1 by omega, Nat.pow_succ, Nat.mul_comm, ← Nat.div_div_eq_div_mul]
      · simp only [List.map_cons, List.map_nil]
        rw [show (dec (D / 10)).length + 1 - 1 - (dec (D / 10)).length = 0 by omega, Nat.pow_zero, Nat.div_one]

theorem dec_div_len (D : Nat) : ∀ m, m < (dec D).length → (dec (D / 10 ^ m)).length = (dec D).length - m := by
  intro m
  induction m with
  | zero => intro _; rw [Nat.pow_zero, Nat.div_one]; rfl
  | succ m ih =>
    intro hm
    have h := ih (by omega)
    have h10 : 10 ≤ D / 10 ^ m := by
      refine Nat.not_lt.1 fun hlt => ?_
      rw [dec_lt hlt] at h
      simp only [List.length_cons, List.length_nil] at h
      omega
    rw [Nat.pow_succ, ← Nat.div_div_eq_div_mul]
    rw [dec_ge h10, List.length_append] at h
    simp only [List.length_cons, List.length_nil] at h
    omega

theorem cutz_div : ∀ (m D : Nat), (∀ i, i < m → D / 10 ^ i % 10 = 0) → D / 10 ^ m % 10 ≠ 0 → cutz D = D / 10 ^ m := by
  intro m
  induction m with
  | zero =>
    intro D _ h
    rw [Nat.pow_zero, Nat.div_one] at h ⊢
    exact cutz_neg (by omega)
  | succ m ih =>
    intro D h0 h
    have z := h0 0 (by omega)
    rw [Nat.pow_zero, Nat.div_one] at z
    rw [Nat.pow_succ, Nat.mul_comm, ← Nat.div_div_eq_div_mul] at h ⊢
    have h10 : 10 ≤ D := by
      refine Nat.not_lt.1 fun hlt => h ?_
      rw [show D / 10 = 0 by omega, Nat.zero_div]
    rw [cutz_pos h10 z]
    refine ih (D / 10) (fun i hi => ?_) h
    have := h0 (i + 1) (by omega)
    rwa [Nat.pow_succ, Nat.mul_comm, ← Nat.div_div_eq_div_mul] at this

theorem buf_take (D nd k : Nat) (hnd : nd = (dec D).length) (hk : Left D nd k) (h32 : nd ≤ 32) : (bufL D nd).take k = dec (cutz D) := by
  obtain ⟨k1, k2, k3, k4⟩ := hk
  have hc : cutz D = D / 10 ^ (nd - k) := by
    refine cutz_div (nd - k) D (fun i hi => ?_) k4
    have := k3 (nd - 1 - i) (by omega) (by omega)
    rwa [show nd - 1 - (nd - 1 - i) = i by omega] at this
  have hl := dec_div_len D (nd - k) (by omega)
  rw [hc, dec_eq_map (D / 10 ^ (nd - k)), hl, ← hnd, show nd - (nd - k) = k by omega]
  unfold bufL
  rw [← List.map_take, List.take_range, Nat.min_eq_left (by omega)]
  refine List.map_congr_left fun j hj => ?_
  have hj' := List.mem_range.1 hj
  rw [if_pos (by omega), Nat.div_div_eq_div_mul, ← Nat.pow_add, show nd - k + (k - 1 - j) = nd - 1 - j by omega]

theorem nDigits_dec (u : Nat) : Lib.nDigits u = (dec u).length := by
  induction u using Nat.strongRecOn with
  | ind u ih =>
    by_cases h : u < 10
    · rw [Lib.nDigits_small h, dec_lt h]; rfl
    · rw [Lib.nDigits_big h, dec_ge (by omega), List.length_append, ih _ (by omega)]; rfl

theorem T2_lt_succ (f c : Nat) : T2 f c < T2 f (c + 1) := by
  have hP : 0 < 2 ^ f := Nat.two_pow_pos f
  have e : c = c / 2 ^ f * 2 ^ f + c % 2 ^ f := by rw [Nat.mul_comm]; exact (Nat.div_add_mod _ _).symm
  have hm : c % 2 ^ f < 2 ^ f := Nat.mod_lt _ hP
  generalize c / 2 ^ f = q at e
  generalize c % 2 ^ f = m at e hm
  subst e
  rw [T2_at f q m hm, T2_up f q m hm]
  by_cases hq : q = 0
  · rw [if_pos hq, if_pos hq]; omega
  · rw [if_neg hq, if_neg hq]
    exact Nat.mul_lt_mul_of_pos_right (by omega) (Nat.two_pow_pos _)
theorem T2_mono (f : Nat) {x y : Nat} (h : x ≤ y) : T2 f x ≤ T2 f y := by
  induction y with
  | zero => obtain rfl : x = 0 := by omega
            exact Nat.le_refl _
  | succ y ih =>
    by_cases e : x = y + 1
    · rw [e]; exact Nat.le_refl _
    · exact Nat.le_trans (ih (by omega)) (Nat.le_of_lt (T2_lt_succ f y))
theorem T2_strict (f : Nat) {x y : Nat} (h : x < y) : T2 f x < T2 f y := Nat.lt_of_lt_of_le (T2_lt_succ f x) (T2_mono f h)
/-- the mantissa and the place of a code -/
def mgP (f x : Nat) : Nat × Nat := if x < 2 ^ f then (x, 0) else (2 ^ f + x % 2 ^ f, x / 2 ^ f - 1)
theorem mgP_T2 (f x : Nat) : T2 f x = (mgP f x).1 * 2 ^ (mgP f x).2 := by
  have hP : 0 < 2 ^ f := Nat.two_pow_pos f
  unfold T2 mgP
  by_cases h : x < 2 ^ f
  · rw [if_pos (Nat.div_eq_of_lt h), if_pos h, Nat.mod_eq_of_lt h, Nat.pow_zero, Nat.mul_one]
  · have : 1 ≤ x / 2 ^ f := (Nat.le_div_iff_mul_le hP).2 (by omega)
    rw [if_neg (by omega), if_neg h, Nat.add_comm]

theorem read_pos (F : Ieee.Format) (x : Nat) (h1 : F.infRung ≤ F.signWeight) (h2 : x < F.infRung) :
    F.read x = .number false (mgP F.fractionBits x).1 (F.leastPlace + ((mgP F.fractionBits x).2 : Nat)) := by
  have hs : x < F.signWeight := Nat.lt_of_lt_of_le h2 h1
  unfold Ieee.Format.read
  simp only [Nat.div_eq_of_lt hs, Nat.mod_eq_of_lt hs]
  unfold mgP Ieee.Format.binade
  by_cases h : x < 2 ^ F.fractionBits
  · rw [if_pos h, if_pos h]
    simp
  · rw [if_neg h, if_neg h, if_pos h2]
    rfl

theorem order_pos (F : Ieee.Format) (x y : Nat) (h1 : F.infRung ≤ F.signWeight) (hx : x < F.infRung) (hy : y < F.infRung) :
    F.order x y = some (if T2 F.fractionBits x < T2 F.fractionBits y then .lt else if T2 F.fractionBits x = T2 F.fractionBits y then .eq else .gt) := by
  unfold Ieee.Format.order
  rw [read_pos F x h1 hx, read_pos F y h1 hy, mgP_T2, mgP_T2]
  generalize (mgP F.fractionBits x).1 = m
  generalize (mgP F.fractionBits x).2 = i
  generalize (mgP F.fractionBits y).1 = n
  generalize (mgP F.fractionBits y).2 = j
  generalize F.leastPlace = L
  unfold Ieee.Datum.order Ieee.signed
  simp only [Nat.shiftLeft_eq]
  congr 1
  obtain ⟨b, hb⟩ : ∃ b, b = min i j := ⟨_, rfl⟩
  have e1 : (L + (i : Int) - min (L + (i : Int)) (L + (j : Int))).toNat = i - b := by omega
  have e2 : (L + (j : Int) - min (L + (i : Int)) (L + (j : Int))).toNat = j - b := by omega
  rw [e1, e2]
  have g1 : m * 2 ^ i = m * 2 ^ (i - b) * 2 ^ b := by rw [Nat.mul_assoc, ← Nat.pow_add]; congr 2; omega
  have g2 : n * 2 ^ j = n * 2 ^ (j - b) * 2 ^ b := by rw [Nat.mul_assoc, ← Nat.pow_add]; congr 2; omega
  have hp : 0 < 2 ^ b := Nat.two_pow_pos b
  rw [g1, g2]
  generalize m * 2 ^ (i - b) = A
  generalize n * 2 ^ (j - b) = B
  rw [if_neg (by decide), if_neg (by decide)]
  show compareOfLessAndEq ((A : Nat) : Int) ((B : Nat) : Int) = _
  unfold compareOfLessAndEq
  rcases Nat.lt_trichotomy A B with h | h | h
  · rw [if_pos (by omega), if_pos (Nat.mul_lt_mul_of_pos_right h hp)]
  · subst h
    rw [if_neg (by omega), if_pos rfl, if_neg (by omega), if_pos rfl]
  · have := Nat.mul_lt_mul_of_pos_right h hp
    rw [if_neg (by omega), if_neg (by omega), if_neg (by omega), if_neg (by omega)]

theorem ShAt.inn {f c a : Nat} {n : Int} {k x : Nat} (h : ShAt f c a n k x) : Inn ((T2 f (c - 1) + T2 f c) * 10 ^ a) ((T2 f c + T2 f (c + 1)) * 10 ^ a) (decide (c % 2 = 0)) (x * Ug f n a k) := refStep_some h.some

theorem thr (f c0 a : Nat) (i : Int) (ha : 400 ≤ a) (hi : -100 ≤ i) (hc0 : 1 ≤ c0) (hlow : (T2 f (c0 - 1) + T2 f c0) * 10 ^ a < 2 ^ (lst f + 1) * 10 ^ (i + (a : Int)).toNat) (hhigh : 2 ^ (lst f + 1) * 10 ^ (i + (a : Int)).toNat < (T2 f c0 + T2 f (c0 + 1)) * 10 ^ a)
    (hat : ∀ n k x, ShAt f c0 a n k x → n + ((dec x).length : Int) - (k : Int) = i + 1) {c : Nat} {n : Int} {k x : Nat} (h : ShAt f c a n k x) (hx : 0 < x) :
    n + ((dec x).length : Int) - (k : Int) ≤ i ↔ c < c0 := by
  have hL0 : 0 < 2 ^ (lst f + 1) := Nat.two_pow_pos _
  have n0 := h.n0
  have k2 := h.k2
  rcases Nat.lt_trichotomy c c0 with hlt | heq | hgt
  · refine ⟨fun _ => hlt, fun _ => ?_⟩
    have h1 : x * Ug f n a k ≤ (T2 f c + T2 f (c + 1)) * 10 ^ a := by
      rcases h.inn.2 with h | h <;> omega
    have h2 : (T2 f c + T2 f (c + 1)) * 10 ^ a ≤ (T2 f (c0 - 1) + T2 f c0) * 10 ^ a := Nat.mul_le_mul_right _ (Nat.add_le_add (T2_mono f (by omega)) (T2_mono f (by omega)))
    have h3 : x * Ug f n a k < 2 ^ (lst f + 1) * 10 ^ (i + (a : Int)).toNat := by omega
    unfold Ug at h3
    rw [Nat.mul_left_comm] at h3
    have h4 := Nat.lt_of_mul_lt_mul_left h3
    have h5 := dec_lower x hx
    have h6 := dec_length_pos x
    have h7 : 10 ^ ((dec x).length - 1 + (n - (k : Int) + (a : Int)).toNat) < 10 ^ (i + (a : Int)).toNat := by
      rw [Nat.pow_add]
      exact Nat.lt_of_le_of_lt (Nat.mul_le_mul_right _ h5) h4
    have h8 := pow10_lt h7
    omega
  · subst heq
    have := hat n k x h
    exact ⟨fun h => by omega, fun h => by omega⟩
  · refine ⟨fun hle => ?_, fun h => by omega⟩
    exfalso
    have h1 : (T2 f (c - 1) + T2 f c) * 10 ^ a ≤ x * Ug f n a k := by
      rcases h.inn.1 with h | h <;> omega
    have h2 : (T2 f c0 + T2 f (c0 + 1)) * 10 ^ a ≤ (T2 f (c - 1) + T2 f c) * 10 ^ a := Nat.mul_le_mul_right _ (Nat.add_le_add (T2_mono f (by omega)) (T2_mono f (by omega)))
    have h3 : 2 ^ (lst f + 1) * 10 ^ (i + (a : Int)).toNat < x * Ug f n a k := by omega
    unfold Ug at h3
    rw [Nat.mul_left_comm] at h3
    have h4 := Nat.lt_of_mul_lt_mul_left h3
    have h5 := dec_upper x
    have h7 : 10 ^ (i + (a : Int)).toNat < 10 ^ ((dec x).length + (n - (k : Int) + (a : Int)).toNat) := by
      rw [Nat.pow_add]
      exact Nat.lt_of_lt_of_le h4 (Nat.mul_le_mul_right _ (Nat.le_of_lt h5))
    have h8 := pow10_lt h7
    omega
end Go.Proofs.YtiopeaponffmdaaDoor.PAll
-- YtiopeaponffmdaaDoorMk
namespace Go.Proofs.YtiopeaponffmdaaDoor.PAll
open Go.RowKit Go.Proofs.YtiopeaponffmdaaDoorW.PrintWords Go.Proofs.YtiopeaponffmdaaDoorW.PrintLast Go.Proofs.YtiopeaponffmdaaDoorW.PrintMore
open Fm

theorem Ug_anti (f : Nat) (n m : Int) (a k l : Nat) (h : n - (k : Int) ≤ m - (l : Int)) : Ug f n a k ≤ Ug f m a l := Nat.mul_le_mul_left _ (Nat.pow_le_pow_right (by decide) (by omega))

theorem hat_of (f c0 a x0 : Nat) (n0 i : Int) (hb1 : Ug f n0 a 1 ≤ T2 f c0 * 2 ^ 1 * 10 ^ a) (hb2 : T2 f c0 * 2 ^ 1 * 10 ^ a < Ug f n0 a 0)
    (hs : refStep (T2 f c0 * 2 ^ 1 * 10 ^ a) ((T2 f (c0 - 1) + T2 f c0) * 10 ^ a) ((T2 f c0 + T2 f (c0 + 1)) * 10 ^ a) (decide (c0 % 2 = 0)) (Ug f n0 a 1) = some x0)
    (hi : n0 + ((dec x0).length : Int) - 1 = i + 1) : ∀ n k x, ShAt f c0 a n k x → n + ((dec x).length : Int) - (k : Int) = i + 1 := by
  intro n k x h
  have h1 := h.low
  have h2 := h.high
  have hn : n = n0 := by
    rcases Int.lt_trichotomy n n0 with hl | he | hg
    · have := Ug_anti f n n0 a 0 1 (by omega)
      omega
    · exact he
    · have := Ug_anti f n0 n a 0 1 (by omega)
      omega
  subst hn
  have hk1 := h.k1
  have hk : k = 1 := by
    refine Nat.le_antisymm (Nat.not_lt.1 fun hlt => ?_) hk1
    have := h.none 1 (Nat.le_refl _) hlt
    rw [hs] at this
    cases this
  subst hk
  have := h.some
  rw [hs] at this
  obtain rfl : x0 = x := Option.some.inj this
  omega

def thrB (f c0 a x0 : Nat) (n0 i : Int) : Bool :=
  decide ((T2 f (c0 - 1) + T2 f c0) * 10 ^ a < 2 ^ (lst f + 1) * 10 ^ (i + (a : Int)).toNat) && decide (2 ^ (lst f + 1) * 10 ^ (i + (a : Int)).toNat < (T2 f c0 + T2 f (c0 + 1)) * 10 ^ a) &&
  decide (Ug f n0 a 1 ≤ T2 f c0 * 2 ^ 1 * 10 ^ a) && decide (T2 f c0 * 2 ^ 1 * 10 ^ a < Ug f n0 a 0) &&
  decide (refStep (T2 f c0 * 2 ^ 1 * 10 ^ a) ((T2 f (c0 - 1) + T2 f c0) * 10 ^ a) ((T2 f c0 + T2 f (c0 + 1)) * 10 ^ a) (decide (c0 % 2 = 0)) (Ug f n0 a 1) = some x0)
theorem thr_of {f c0 a x0 : Nat} {n0 i : Int} (h : thrB f c0 a x0 n0 i = true) (ha : 400 ≤ a) (hi : -100 ≤ i) (hc0 : 1 ≤ c0) (hi2 : n0 + ((dec x0).length : Int) - 1 = i + 1) {c : Nat} {n : Int} {k x : Nat} (hs : ShAt f c a n k x) (hx : 0 < x) :
    n + ((dec x).length : Int) - (k : Int) ≤ i ↔ c < c0 := by
  unfold thrB at h
  simp only [Bool.and_eq_true, decide_eq_true_eq, and_assoc] at h
  obtain ⟨h1, h2, h3, h4, h5⟩ := h
  exact thr f c0 a i ha hi hc0 h1 h2 (hat_of f c0 a x0 n0 i h3 h4 h5 hi2) hs hx
theorem thr1 : thrB 52 4517329193108106637 400 10 (-6) (-6) = true := by kernel_rfl
theorem thr2 : thrB 52 4921056587992461136 400 1 22 21 = true := by kernel_rfl
theorem dec10 : (dec 10).length = 2 := by rw [dec_ge (by decide), dec_lt (by decide)]; rfl
theorem dec1 : (dec 1).length = 1 := by rw [dec_lt (by decide)]; rfl
/-- an exponent is written below 10^-6 and from 10^21 on -/
theorem place64 {c a : Nat} {n : Int} {k x : Nat} (ha : a = 400) (hs : ShAt 52 c a n k x) (hx : 0 < x) :
    (n + ((dec x).length : Int) - (k : Int) ≤ -6 ↔ c < 4517329193108106637) ∧ (n + ((dec x).length : Int) - (k : Int) ≤ 21 ↔ c < 4921056587992461136) := by
  subst ha
  exact ⟨thr_of thr1 (by decide) (by decide) (by decide) (by rw [dec10]; rfl) hs hx, thr_of thr2 (by decide) (by decide) (by decide) (by rw [dec1]; rfl) hs hx⟩
end Go.Proofs.YtiopeaponffmdaaDoor.PAll
