/- The texts of a proof, its declarations alone: part 7. -/
import Derived.Test.YtjfbkgkpjkickaaGreatDoorVU2
set_option linter.unusedVariables false
set_option linter.unusedSimpArgs false
-- YtjfbkgkpjkickaaGreatDoorPAllx5
namespace Go.Proofs.YtjfbkgkpjkickaaGreatDoor.PAll
open Go.RowKit Go.Proofs.YtjfbkgkpjkickaaGreatDoorW.PrintWords Go.Proofs.YtjfbkgkpjkickaaGreatDoorW.PrintLast Go.Proofs.YtjfbkgkpjkickaaGreatDoorW.PrintMore
attribute [local go_sem] max2_int min2_int max_two min_two max_three min_three max_four min_four   -- for this text's walks alone
set_option linter.unusedVariables false
set_option linter.unusedSimpArgs false

mutual
def jsontext_internal_jsonwire_hasEscapedUTF16Prefix.l0 : Nat → List Int → Bool → Int → Int → Option (Bool)
  | 0, _, _, _, _ => none
  | k + 1, x0, x1, x8, x9 => if x9 < x8 then (if 0 ≤ x9 then (if x9 < (x0.length : Int) then (if x9 = 0 then (jsontext_internal_jsonwire_hasEscapedUTF16Prefix.j1 k x0 x1 x9 (rd x0 x9) x8 x9 ((rd x0 x9) != 92)) else (jsontext_internal_jsonwire_hasEscapedUTF16Prefix.j1 k x0 x1 x9 (rd x0 x9) x8 x9 false)) else (none)) else (none)) else (some true)
def jsontext_internal_jsonwire_hasEscapedUTF16Prefix.j1 : Nat → List Int → Bool → Int → Int → Int → Int → Bool → Option (Bool)
  | 0, _, _, _, _, _, _, _ => none
  | k + 1, x0, x1, x5, x6, x8, x9, x16 => if x16 = true then (some false) else (if x5 = 1 then (jsontext_internal_jsonwire_hasEscapedUTF16Prefix.j2 k x0 x1 x5 x6 x8 x9 (x6 != 117)) else (jsontext_internal_jsonwire_hasEscapedUTF16Prefix.j2 k x0 x1 x5 x6 x8 x9 false))
def jsontext_internal_jsonwire_hasEscapedUTF16Prefix.j2 : Nat → List Int → Bool → Int → Int → Int → Int → Bool → Option (Bool)
  | 0, _, _, _, _, _, _, _ => none
  | k + 1, x0, x1, x5, x6, x8, x9, x23 => if x23 = true then (some false) else (if x5 = 2 then (if x1 = true then (if x6 = 100 then (jsontext_internal_jsonwire_hasEscapedUTF16Prefix.j3 k x0 x1 x5 x6 x8 x9 false) else (jsontext_internal_jsonwire_hasEscapedUTF16Prefix.j3 k x0 x1 x5 x6 x8 x9 (x6 != 68))) else (jsontext_internal_jsonwire_hasEscapedUTF16Prefix.j3 k x0 x1 x5 x6 x8 x9 false)) else (jsontext_internal_jsonwire_hasEscapedUTF16Prefix.j3 k x0 x1 x5 x6 x8 x9 false))
def jsontext_internal_jsonwire_hasEscapedUTF16Prefix.j3 : Nat → List Int → Bool → Int → Int → Int → Int → Bool → Option (Bool)
  | 0, _, _, _, _, _, _, _ => none
  | k + 1, x0, x1, x5, x6, x8, x9, x30 => if x30 = true then (some false) else (if x5 = 3 then (if x1 = true then (if 99 ≤ x6 then (if x6 ≤ 102 then (jsontext_internal_jsonwire_hasEscapedUTF16Prefix.j4 k x0 x1 x5 x6 x8 x9 false) else (if 67 ≤ x6 then (jsontext_internal_jsonwire_hasEscapedUTF16Prefix.j4 k x0 x1 x5 x6 x8 x9 (!(decide (x6 ≤ 70)))) else (jsontext_internal_jsonwire_hasEscapedUTF16Prefix.j4 k x0 x1 x5 x6 x8 x9 (!false)))) else (if 67 ≤ x6 then (jsontext_internal_jsonwire_hasEscapedUTF16Prefix.j4 k x0 x1 x5 x6 x8 x9 (!(decide (x6 ≤ 70)))) else (jsontext_internal_jsonwire_hasEscapedUTF16Prefix.j4 k x0 x1 x5 x6 x8 x9 (!false)))) else (jsontext_internal_jsonwire_hasEscapedUTF16Prefix.j4 k x0 x1 x5 x6 x8 x9 false)) else (jsontext_internal_jsonwire_hasEscapedUTF16Prefix.j4 k x0 x1 x5 x6 x8 x9 false))
def jsontext_internal_jsonwire_hasEscapedUTF16Prefix.j4 : Nat → List Int → Bool → Int → Int → Int → Int → Bool → Option (Bool)
  | 0, _, _, _, _, _, _, _ => none
  | k + 1, x0, x1, x5, x6, x8, x9, x44 => if x44 = true then (some false) else (if x5 ≥ 2 then (if x5 < 6 then (if 48 ≤ x6 then (if x6 ≤ 57 then (jsontext_internal_jsonwire_hasEscapedUTF16Prefix.l0 k x0 x1 x8 (wrap64 (x9 + 1))) else (if 97 ≤ x6 then (if x6 ≤ 102 then (jsontext_internal_jsonwire_hasEscapedUTF16Prefix.l0 k x0 x1 x8 (wrap64 (x9 + 1))) else (if 65 ≤ x6 then (if x6 ≤ 70 then (jsontext_internal_jsonwire_hasEscapedUTF16Prefix.l0 k x0 x1 x8 (wrap64 (x9 + 1))) else (some false)) else (some false))) else (if 65 ≤ x6 then (if x6 ≤ 70 then (jsontext_internal_jsonwire_hasEscapedUTF16Prefix.l0 k x0 x1 x8 (wrap64 (x9 + 1))) else (some false)) else (some false)))) else (if 97 ≤ x6 then (if x6 ≤ 102 then (jsontext_internal_jsonwire_hasEscapedUTF16Prefix.l0 k x0 x1 x8 (wrap64 (x9 + 1))) else (if 65 ≤ x6 then (if x6 ≤ 70 then (jsontext_internal_jsonwire_hasEscapedUTF16Prefix.l0 k x0 x1 x8 (wrap64 (x9 + 1))) else (some false)) else (some false))) else (if 65 ≤ x6 then (if x6 ≤ 70 then (jsontext_internal_jsonwire_hasEscapedUTF16Prefix.l0 k x0 x1 x8 (wrap64 (x9 + 1))) else (some false)) else (some false)))) else (jsontext_internal_jsonwire_hasEscapedUTF16Prefix.l0 k x0 x1 x8 (wrap64 (x9 + 1)))) else (jsontext_internal_jsonwire_hasEscapedUTF16Prefix.l0 k x0 x1 x8 (wrap64 (x9 + 1))))
end
def jsontext_internal_jsonwire_hasEscapedUTF16Prefix.f (k : Nat) (l0 : List Int) (a1 : Bool) : Option (Bool) := jsontext_internal_jsonwire_hasEscapedUTF16Prefix.l0 k l0 a1 (l0.length : Int) 0
set_option maxHeartbeats 8000000 in
set_option maxRecDepth 100000 in
theorem jsontext_internal_jsonwire_hasEscapedUTF16Prefix.calls (k : Nat) (A0 : Option Addr) (c0 : Nat) (l0 : List Int) (a1 : Bool) (r : Bool) (w : World) (hr0 : Kd.C (Kd.int .u8) w A0 l0.length l0) (hc0 : l0.length ≤ c0) (h : jsontext_internal_jsonwire_hasEscapedUTF16Prefix.f k l0 a1 = some r) :
    Calls Tryz.prog 63 #[.slice A0 l0.length c0, .bool a1] w fun e w' => e = .returned (.bool r) ∧ Drawn0 w w' := by
  have HR0 := Aside0.mk hr0
  have HC0 := Aside0.mk hc0
  clear hr0 hc0
  have H : (jsontext_internal_jsonwire_hasEscapedUTF16Prefix.l0 k l0 a1 (l0.length : Int) 0) = some r := h
  clear h
  have H' := Aside0.mk H
  clear H
  go_enter Tryz.func63, Tryz.ntmps63
  go_wp2
  go_loopg [9] k (fun kq v9 w' => ∃ (x9_1 : Int), v9 = .int .i64 x9_1 ∧ Aside0 (jsontext_internal_jsonwire_hasEscapedUTF16Prefix.l0 kq l0 a1 (l0.length : Int) x9_1 = some r) ∧ Aside0 (kq ≤ k) ∧ Drawn0 w w')
  case atStart => exact ⟨(0), (by first | rfl | (simp; done) | (simp [*]; done)), H', ⟨Nat.le_refl _⟩, by repeat (first | exact Drawn0.refl _ | apply Drawn0.step)⟩
  case round =>
    clear H'
    try clear p2
    obtain ⟨x9_1, rfl, HA, HK1, ⟨m1, rfl⟩⟩ := hrel
    cases gk with
    | zero => exact absurd HA.out (by simp [jsontext_internal_jsonwire_hasEscapedUTF16Prefix.l0])
    | succ k1 =>
      have H := HA.out
      clear HA
      simp only [jsontext_internal_jsonwire_hasEscapedUTF16Prefix.l0] at H
      by_cases c3 : x9_1 < (l0.length : Int)
      · rw [if_pos c3] at H
        have c3b0 : decide (x9_1 < (l0.length : Int)) = true := decide_eq_true c3
        clear c3
        by_cases c4 : 0 ≤ x9_1
        · rw [if_pos c4] at H
          have c4b0 : decide (0 ≤ x9_1) = true := decide_eq_true c4
          clear c4
          by_cases c5 : x9_1 < (l0.length : Int)
          · rw [if_pos c5] at H
            have c5b0 : decide (x9_1 < (l0.length : Int)) = true := decide_eq_true c5
            clear c5
            have HC6 := Aside0.mk H
            clear H
            have p103 : 0 ≤ (x9_1 : Int) := of_decide_eq_true (by first | (with_reducible assumption) | assumption)
            have q103 : x9_1 < (l0.length : Int) := of_decide_eq_true (by first | (with_reducible assumption) | assumption)
            obtain ⟨ad103, e103, hx103_0⟩ := Kd.at_int HR0.out x9_1 p103 q103
            cases e103
            replace p103 := eq_true p103
            replace q103 := eq_true q103
            go_upto_region 5 with (fail)
            go_cut [16] (fun v16 wc => ∃ (kq : Nat) (x16_5 : Bool), v16 = .bool x16_5 ∧ Aside0 (jsontext_internal_jsonwire_hasEscapedUTF16Prefix.j1 kq l0 a1 x9_1 (rd l0 x9_1) (l0.length : Int) x9_1 x16_5 = some r) ∧ Aside0 (kq ≤ k1) ∧ Drawn0 w wc)
            case first =>
              have H := HC6.out
              clear HC6
              by_cases c7 : x9_1 = 0
              · rw [if_pos c7] at H
                have c7b0 : (x9_1 == 0) = true := beq_iff_eq.mpr c7
                have c7b1 : (x9_1 != 0) = false := bne_eq_false_iff_eq.mpr c7
                clear c7
                (first | rw [c7b0] | (simp only [i64_w, i32_w]; rw [c7b0]) | skip)
                have H' := Aside0.mk H
                clear H
                go_wp2
                go_meet
                case rel => exact ⟨_, (((rd l0 x9_1) != 92)), (by first | rfl | (simp; done) | (simp [*]; done)), H', ⟨by have := HK1.out; first | omega | exact Nat.le_refl _⟩, by repeat (first | exact Drawn0.refl _ | apply Drawn0.step)⟩
              · rw [if_neg c7] at H
                have c7b0 : (x9_1 == 0) = false := beq_eq_false_iff_ne.mpr c7
                have c7b1 : (x9_1 != 0) = true := bne_iff_ne.mpr c7
                (first | rw [c7b0] | (simp only [i64_w, i32_w]; rw [c7b0]) | skip)
                have H' := Aside0.mk H
                clear H
                go_wp2
                go_meet
                case rel => exact ⟨_, (false), (by first | rfl | (simp; done) | (simp [*]; done)), H', ⟨by have := HK1.out; first | omega | exact Nat.le_refl _⟩, by repeat (first | exact Drawn0.refl _ | apply Drawn0.step)⟩
            case rest =>
              clear HC6
              try clear p1
              try clear q1
              try clear hx1
              try clear p2
              try clear c3
              try clear c3b0
              try clear c4
              try clear c4b0
              try clear c5
              try clear c5b0
              try clear c6
              try clear c7
              try clear c7b0
              try clear c7b1
              try clear hx103_0
              try clear p103
              try clear p2
              try clear q103
              obtain ⟨kq, x16_5, rfl, HA, HJ5, ⟨mc5, rfl⟩⟩ := hcut
              cases kq with
              | zero => exact absurd HA.out (by simp [jsontext_internal_jsonwire_hasEscapedUTF16Prefix.j1])
              | succ kj5 =>
                have H := HA.out
                clear HA
                simp only [jsontext_internal_jsonwire_hasEscapedUTF16Prefix.j1] at H
                by_cases c8 : x16_5 = true
                · subst c8
                  have H1 : (some false) = some r := by rw [if_pos rfl] at H; exact H
                  clear H
                  have H := H1
                  clear H1
                  obtain rfl := Option.some.inj H
                  go_wp2
                  go_ret
                  exact ⟨by first | rfl | (simp; done) | (simp [*]; done), by repeat (first | exact Drawn0.refl _ | apply Drawn0.step)⟩
                · replace c8 := Bool.eq_false_iff.mpr c8
                  subst c8
                  have H1 : (if x9_1 = 1 then (jsontext_internal_jsonwire_hasEscapedUTF16Prefix.j2 kj5 l0 a1 x9_1 (rd l0 x9_1) (l0.length : Int) x9_1 ((rd l0 x9_1) != 117)) else (jsontext_internal_jsonwire_hasEscapedUTF16Prefix.j2 kj5 l0 a1 x9_1 (rd l0 x9_1) (l0.length : Int) x9_1 false)) = some r := by rw [if_neg (show ¬ (false = true) by decide)] at H; exact H
                  clear H
                  have H := H1
                  clear H1
                  have HC9 := Aside0.mk H
                  clear H
                  go_upto_region 7 with (fail)
                  go_cut [23] (fun v23 wc => ∃ (kq : Nat) (x23_8 : Bool), v23 = .bool x23_8 ∧ Aside0 (jsontext_internal_jsonwire_hasEscapedUTF16Prefix.j2 kq l0 a1 x9_1 (rd l0 x9_1) (l0.length : Int) x9_1 x23_8 = some r) ∧ Aside0 (kq ≤ kj5) ∧ Drawn0 w wc)
                  case first =>
                    have H := HC9.out
                    clear HC9
                    by_cases c10 : x9_1 = 1
                    · rw [if_pos c10] at H
                      have c10b0 : (x9_1 == 1) = true := beq_iff_eq.mpr c10
                      have c10b1 : (x9_1 != 1) = false := bne_eq_false_iff_eq.mpr c10
                      clear c10
                      (first | rw [c10b0] | (simp only [i64_w, i32_w]; rw [c10b0]) | skip)
                      have H' := Aside0.mk H
                      clear H
                      go_wp2
                      go_meet
                      case rel => exact ⟨_, (((rd l0 x9_1) != 117)), (by first | rfl | (simp; done) | (simp [*]; done)), H', ⟨by have := HK1.out; have := HJ5.out; first | omega | exact Nat.le_refl _⟩, by repeat (first | exact Drawn0.refl _ | apply Drawn0.step)⟩
                    · rw [if_neg c10] at H
                      have c10b0 : (x9_1 == 1) = false := beq_eq_false_iff_ne.mpr c10
                      have c10b1 : (x9_1 != 1) = true := bne_iff_ne.mpr c10
                      (first | rw [c10b0] | (simp only [i64_w, i32_w]; rw [c10b0]) | skip)
                      have H' := Aside0.mk H
                      clear H
                      go_wp2
                      go_meet
                      case rel => exact ⟨_, (false), (by first | rfl | (simp; done) | (simp [*]; done)), H', ⟨by have := HK1.out; have := HJ5.out; first | omega | exact Nat.le_refl _⟩, by repeat (first | exact Drawn0.refl _ | apply Drawn0.step)⟩
                  case rest =>
                    clear HC9
                    try clear c1
                    try clear p1
                    try clear q1
                    try clear hx1
                    try clear p2
                    try clear c3
                    try clear c3b0
                    try clear c4
                    try clear c4b0
                    try clear c5
                    try clear c5b0
                    try clear c6
                    try clear c7
                    try clear c7b0
                    try clear c7b1
                    try clear c8
                    try clear c10
                    try clear c10b0
                    try clear c10b1
                    try clear p10
                    try clear q10
                    try clear hx10
                    try clear hx103_0
                    try clear p1
                    try clear p103
                    try clear p2
                    try clear q1
                    try clear q103
                    obtain ⟨kq, x23_8, rfl, HA, HJ8, ⟨mc8, rfl⟩⟩ := hcut
                    cases kq with
                    | zero => exact absurd HA.out (by simp [jsontext_internal_jsonwire_hasEscapedUTF16Prefix.j2])
                    | succ kj8 =>
                      have H := HA.out
                      clear HA
                      simp only [jsontext_internal_jsonwire_hasEscapedUTF16Prefix.j2] at H
                      by_cases c11 : x23_8 = true
                      · subst c11
                        have H1 : (some false) = some r := by rw [if_pos rfl] at H; exact H
                        clear H
                        have H := H1
                        clear H1
                        obtain rfl := Option.some.inj H
                        go_wp2
                        go_ret
                        exact ⟨by first | rfl | (simp; done) | (simp [*]; done), by repeat (first | exact Drawn0.refl _ | apply Drawn0.step)⟩
                      · replace c11 := Bool.eq_false_iff.mpr c11
                        subst c11
                        have H1 : (if x9_1 = 2 then (if a1 = true then (if (rd l0 x9_1) = 100 then (jsontext_internal_jsonwire_hasEscapedUTF16Prefix.j3 kj8 l0 a1 x9_1 (rd l0 x9_1) (l0.length : Int) x9_1 false) else (jsontext_internal_jsonwire_hasEscapedUTF16Prefix.j3 kj8 l0 a1 x9_1 (rd l0 x9_1) (l0.length : Int) x9_1 ((rd l0 x9_1) != 68))) else (jsontext_internal_jsonwire_hasEscapedUTF16Prefix.j3 kj8 l0 a1 x9_1 (rd l0 x9_1) (l0.length : Int) x9_1 false)) else (jsontext_internal_jsonwire_hasEscapedUTF16Prefix.j3 kj8 l0 a1 x9_1 (rd l0 x9_1) (l0.length : Int) x9_1 false)) = some r := by rw [if_neg (show ¬ (false = true) by decide)] at H; exact H
                        clear H
                        have H := H1
                        clear H1
                        have HC12 := Aside0.mk H
                        clear H
                        go_upto_region 9 with (fail)
                        go_cut [30] (fun v30 wc => ∃ (kq : Nat) (x30_11 : Bool), v30 = .bool x30_11 ∧ Aside0 (jsontext_internal_jsonwire_hasEscapedUTF16Prefix.j3 kq l0 a1 x9_1 (rd l0 x9_1) (l0.length : Int) x9_1 x30_11 = some r) ∧ Aside0 (kq ≤ kj8) ∧ Drawn0 w wc)
                        case first =>
                          have H := HC12.out
                          clear HC12
                          by_cases c13 : x9_1 = 2
                          · rw [if_pos c13] at H
                            have c13b0 : (x9_1 == 2) = true := beq_iff_eq.mpr c13
                            have c13b1 : (x9_1 != 2) = false := bne_eq_false_iff_eq.mpr c13
                            clear c13
                            (first | rw [c13b0] | (simp only [i64_w, i32_w]; rw [c13b0]) | skip)
                            by_cases c14 : a1 = true
                            · subst c14
                              have H1 : (if (rd l0 x9_1) = 100 then (jsontext_internal_jsonwire_hasEscapedUTF16Prefix.j3 kj8 l0 true x9_1 (rd l0 x9_1) (l0.length : Int) x9_1 false) else (jsontext_internal_jsonwire_hasEscapedUTF16Prefix.j3 kj8 l0 true x9_1 (rd l0 x9_1) (l0.length : Int) x9_1 ((rd l0 x9_1) != 68))) = some r := by rw [if_pos rfl] at H; exact H
                              clear H
                              have H := H1
                              clear H1
                              by_cases c15 : (rd l0 x9_1) = 100
                              · rw [if_pos c15] at H
                                have c15b0 : ((rd l0 x9_1) == 100) = true := beq_iff_eq.mpr c15
                                have c15b1 : ((rd l0 x9_1) != 100) = false := bne_eq_false_iff_eq.mpr c15
                                clear c15
                                have H' := Aside0.mk H
                                clear H
                                go_wp2
                                go_meet
                                case rel => exact ⟨_, (false), (by first | rfl | (simp; done) | (simp [*]; done)), H', ⟨by have := HK1.out; have := HJ5.out; have := HJ8.out; first | omega | exact Nat.le_refl _⟩, by repeat (first | exact Drawn0.refl _ | apply Drawn0.step)⟩
                              · rw [if_neg c15] at H
                                have c15b0 : ((rd l0 x9_1) == 100) = false := beq_eq_false_iff_ne.mpr c15
                                have c15b1 : ((rd l0 x9_1) != 100) = true := bne_iff_ne.mpr c15
                                have H' := Aside0.mk H
                                clear H
                                go_wp2
                                go_meet
                                case rel => exact ⟨_, (((rd l0 x9_1) != 68)), (by first | rfl | (simp; done) | (simp [*]; done)), H', ⟨by have := HK1.out; have := HJ5.out; have := HJ8.out; first | omega | exact Nat.le_refl _⟩, by repeat (first | exact Drawn0.refl _ | apply Drawn0.step)⟩
                            · replace c14 := Bool.eq_false_iff.mpr c14
                              subst c14
                              have H1 : (jsontext_internal_jsonwire_hasEscapedUTF16Prefix.j3 kj8 l0 false x9_1 (rd l0 x9_1) (l0.length : Int) x9_1 false) = some r := by rw [if_neg (show ¬ (false = true) by decide)] at H; exact H
                              clear H
                              have H := H1
                              clear H1
                              have H' := Aside0.mk H
                              clear H
                              go_wp2
                              go_meet
                              case rel => exact ⟨_, (false), (by first | rfl | (simp; done) | (simp [*]; done)), H', ⟨by have := HK1.out; have := HJ5.out; have := HJ8.out; first | omega | exact Nat.le_refl _⟩, by repeat (first | exact Drawn0.refl _ | apply Drawn0.step)⟩
                          · rw [if_neg c13] at H
                            have c13b0 : (x9_1 == 2) = false := beq_eq_false_iff_ne.mpr c13
                            have c13b1 : (x9_1 != 2) = true := bne_iff_ne.mpr c13
                            (first | rw [c13b0] | (simp only [i64_w, i32_w]; rw [c13b0]) | skip)
                            have H' := Aside0.mk H
                            clear H
                            go_wp2
                            go_meet
                            case rel => exact ⟨_, (false), (by first | rfl | (simp; done) | (simp [*]; done)), H', ⟨by have := HK1.out; have := HJ5.out; have := HJ8.out; first | omega | exact Nat.le_refl _⟩, by repeat (first | exact Drawn0.refl _ | apply Drawn0.step)⟩
                        case rest =>
                          clear HC12
                          try clear c1
                          try clear p1
                          try clear q1
                          try clear hx1
                          try clear p2
                          try clear c3
                          try clear c3b0
                          try clear c4
                          try clear c4b0
                          try clear c5
                          try clear c5b0
                          try clear c6
                          try clear c7
                          try clear c7b0
                          try clear c7b1
                          try clear c8
                          try clear c10
                          try clear c10b0
                          try clear c10b1
                          try clear p10
                          try clear q10
                          try clear hx10
                          try clear c11
                          try clear c13
                          try clear c13b0
                          try clear c13b1
                          try clear c14
                          try clear c15
                          try clear c15b0
                          try clear c15b1
                          try clear hx103_0
                          try clear p1
                          try clear p10
                          try clear p103
                          try clear p2
                          try clear q1
                          try clear q10
                          try clear q103
                          obtain ⟨kq, x30_11, rfl, HA, HJ11, ⟨mc11, rfl⟩⟩ := hcut
                          cases kq with
                          | zero => exact absurd HA.out (by simp [jsontext_internal_jsonwire_hasEscapedUTF16Prefix.j3])
                          | succ kj11 =>
                            have H := HA.out
                            clear HA
                            simp only [jsontext_internal_jsonwire_hasEscapedUTF16Prefix.j3] at H
                            by_cases c16 : x30_11 = true
                            · subst c16
                              have H1 : (some false) = some r := by rw [if_pos rfl] at H; exact H
                              clear H
                              have H := H1
                              clear H1
                              obtain rfl := Option.some.inj H
                              go_wp2
                              go_ret
                              exact ⟨by first | rfl | (simp; done) | (simp [*]; done), by repeat (first | exact Drawn0.refl _ | apply Drawn0.step)⟩
                            · replace c16 := Bool.eq_false_iff.mpr c16
                              subst c16
                              have H1 : (if x9_1 = 3 then (if a1 = true then (if 99 ≤ (rd l0 x9_1) then (if (rd l0 x9_1) ≤ 102 then (jsontext_internal_jsonwire_hasEscapedUTF16Prefix.j4 kj11 l0 a1 x9_1 (rd l0 x9_1) (l0.length : Int) x9_1 false) else (if 67 ≤ (rd l0 x9_1) then (jsontext_internal_jsonwire_hasEscapedUTF16Prefix.j4 kj11 l0 a1 x9_1 (rd l0 x9_1) (l0.length : Int) x9_1 (!(decide ((rd l0 x9_1) ≤ 70)))) else (jsontext_internal_jsonwire_hasEscapedUTF16Prefix.j4 kj11 l0 a1 x9_1 (rd l0 x9_1) (l0.length : Int) x9_1 (!false)))) else (if 67 ≤ (rd l0 x9_1) then (jsontext_internal_jsonwire_hasEscapedUTF16Prefix.j4 kj11 l0 a1 x9_1 (rd l0 x9_1) (l0.length : Int) x9_1 (!(decide ((rd l0 x9_1) ≤ 70)))) else (jsontext_internal_jsonwire_hasEscapedUTF16Prefix.j4 kj11 l0 a1 x9_1 (rd l0 x9_1) (l0.length : Int) x9_1 (!false)))) else (jsontext_internal_jsonwire_hasEscapedUTF16Prefix.j4 kj11 l0 a1 x9_1 (rd l0 x9_1) (l0.length : Int) x9_1 false)) else (jsontext_internal_jsonwire_hasEscapedUTF16Prefix.j4 kj11 l0 a1 x9_1 (rd l0 x9_1) (l0.length : Int) x9_1 false)) = some r := by rw [if_neg (show ¬ (false = true) by decide)] at H; exact H
                              clear H
                              have H := H1
                              clear H1
                              have HC17 := Aside0.mk H
                              clear H
                              go_upto_region 11 with (fail)
                              go_cut [44] (fun v44 wc => ∃ (kq : Nat) (x44_16 : Bool), v44 = .bool x44_16 ∧ Aside0 (jsontext_internal_jsonwire_hasEscapedUTF16Prefix.j4 kq l0 a1 x9_1 (rd l0 x9_1) (l0.length : Int) x9_1 x44_16 = some r) ∧ Aside0 (kq ≤ kj11) ∧ Drawn0 w wc)
                              case first =>
                                have H := HC17.out
                                clear HC17
                                by_cases c18 : x9_1 = 3
                                · rw [if_pos c18] at H
                                  have c18b0 : (x9_1 == 3) = true := beq_iff_eq.mpr c18
                                  have c18b1 : (x9_1 != 3) = false := bne_eq_false_iff_eq.mpr c18
                                  clear c18
                                  (first | rw [c18b0] | (simp only [i64_w, i32_w]; rw [c18b0]) | skip)
                                  by_cases c19 : a1 = true
                                  · subst c19
                                    have H1 : (if 99 ≤ (rd l0 x9_1) then (if (rd l0 x9_1) ≤ 102 then (jsontext_internal_jsonwire_hasEscapedUTF16Prefix.j4 kj11 l0 true x9_1 (rd l0 x9_1) (l0.length : Int) x9_1 false) else (if 67 ≤ (rd l0 x9_1) then (jsontext_internal_jsonwire_hasEscapedUTF16Prefix.j4 kj11 l0 true x9_1 (rd l0 x9_1) (l0.length : Int) x9_1 (!(decide ((rd l0 x9_1) ≤ 70)))) else (jsontext_internal_jsonwire_hasEscapedUTF16Prefix.j4 kj11 l0 true x9_1 (rd l0 x9_1) (l0.length : Int) x9_1 (!false)))) else (if 67 ≤ (rd l0 x9_1) then (jsontext_internal_jsonwire_hasEscapedUTF16Prefix.j4 kj11 l0 true x9_1 (rd l0 x9_1) (l0.length : Int) x9_1 (!(decide ((rd l0 x9_1) ≤ 70)))) else (jsontext_internal_jsonwire_hasEscapedUTF16Prefix.j4 kj11 l0 true x9_1 (rd l0 x9_1) (l0.length : Int) x9_1 (!false)))) = some r := by rw [if_pos rfl] at H; exact H
                                    clear H
                                    have H := H1
                                    clear H1
                                    by_cases c20 : 99 ≤ (rd l0 x9_1)
                                    · rw [if_pos c20] at H
                                      have c20b0 : decide (99 ≤ (rd l0 x9_1)) = true := decide_eq_true c20
                                      clear c20
                                      by_cases c21 : (rd l0 x9_1) ≤ 102
                                      · rw [if_pos c21] at H
                                        have c21b0 : decide ((rd l0 x9_1) ≤ 102) = true := decide_eq_true c21
                                        clear c21
                                        have H' := Aside0.mk H
                                        clear H
                                        go_wp2
                                        go_meet
                                        case rel => exact ⟨_, (false), (by first | rfl | (simp; done) | (simp [*]; done)), H', ⟨by have := HK1.out; have := HJ5.out; have := HJ8.out; have := HJ11.out; first | omega | exact Nat.le_refl _⟩, by repeat (first | exact Drawn0.refl _ | apply Drawn0.step)⟩
                                      · rw [if_neg c21] at H
                                        have c21b0 : decide ((rd l0 x9_1) ≤ 102) = false := decide_eq_false c21
                                        clear c21
                                        by_cases c22 : 67 ≤ (rd l0 x9_1)
                                        · rw [if_pos c22] at H
                                          have c22b0 : decide (67 ≤ (rd l0 x9_1)) = true := decide_eq_true c22
                                          clear c22
                                          have H' := Aside0.mk H
                                          clear H
                                          go_wp2
                                          go_meet
                                          case rel => exact ⟨_, (!(decide ((rd l0 x9_1) ≤ 70))), (by first | rfl | (simp; done) | (simp [*]; done)), H', ⟨by have := HK1.out; have := HJ5.out; have := HJ8.out; have := HJ11.out; first | omega | exact Nat.le_refl _⟩, by repeat (first | exact Drawn0.refl _ | apply Drawn0.step)⟩
                                        · rw [if_neg c22] at H
                                          have c22b0 : decide (67 ≤ (rd l0 x9_1)) = false := decide_eq_false c22
                                          clear c22
                                          have H' := Aside0.mk H
                                          clear H
                                          go_wp2
                                          go_meet
                                          case rel => exact ⟨_, (!false), (by first | rfl | (simp; done) | (simp [*]; done)), H', ⟨by have := HK1.out; have := HJ5.out; have := HJ8.out; have := HJ11.out; first | omega | exact Nat.le_refl _⟩, by repeat (first | exact Drawn0.refl _ | apply Drawn0.step)⟩
                                    · rw [if_neg c20] at H
                                      have c20b0 : decide (99 ≤ (rd l0 x9_1)) = false := decide_eq_false c20
                                      clear c20
                                      by_cases c23 : 67 ≤ (rd l0 x9_1)
                                      · rw [if_pos c23] at H
                                        have c23b0 : decide (67 ≤ (rd l0 x9_1)) = true := decide_eq_true c23
                                        clear c23
                                        have H' := Aside0.mk H
                                        clear H
                                        go_wp2
                                        go_meet
                                        case rel => exact ⟨_, (!(decide ((rd l0 x9_1) ≤ 70))), (by first | rfl | (simp; done) | (simp [*]; done)), H', ⟨by have := HK1.out; have := HJ5.out; have := HJ8.out; have := HJ11.out; first | omega | exact Nat.le_refl _⟩, by repeat (first | exact Drawn0.refl _ | apply Drawn0.step)⟩
                                      · rw [if_neg c23] at H
                                        have c23b0 : decide (67 ≤ (rd l0 x9_1)) = false := decide_eq_false c23
                                        clear c23
                                        have H' := Aside0.mk H
                                        clear H
                                        go_wp2
                                        go_meet
                                        case rel => exact ⟨_, (!false), (by first | rfl | (simp; done) | (simp [*]; done)), H', ⟨by have := HK1.out; have := HJ5.out; have := HJ8.out; have := HJ11.out; first | omega | exact Nat.le_refl _⟩, by repeat (first | exact Drawn0.refl _ | apply Drawn0.step)⟩
                                  · replace c19 := Bool.eq_false_iff.mpr c19
                                    subst c19
                                    have H1 : (jsontext_internal_jsonwire_hasEscapedUTF16Prefix.j4 kj11 l0 false x9_1 (rd l0 x9_1) (l0.length : Int) x9_1 false) = some r := by rw [if_neg (show ¬ (false = true) by decide)] at H; exact H
                                    clear H
                                    have H := H1
                                    clear H1
                                    have H' := Aside0.mk H
                                    clear H
                                    go_wp2
                                    go_meet
                                    case rel => exact ⟨_, (false), (by first | rfl | (simp; done) | (simp [*]; done)), H', ⟨by have := HK1.out; have := HJ5.out; have := HJ8.out; have := HJ11.out; first | omega | exact Nat.le_refl _⟩, by repeat (first | exact Drawn0.refl _ | apply Drawn0.step)⟩
                                · rw [if_neg c18] at H
                                  have c18b0 : (x9_1 == 3) = false := beq_eq_false_iff_ne.mpr c18
                                  have c18b1 : (x9_1 != 3) = true := bne_iff_ne.mpr c18
                                  (first | rw [c18b0] | (simp only [i64_w, i32_w]; rw [c18b0]) | skip)
                                  have H' := Aside0.mk H
                                  clear H
                                  go_wp2
                                  go_meet
                                  case rel => exact ⟨_, (false), (by first | rfl | (simp; done) | (simp [*]; done)), H', ⟨by have := HK1.out; have := HJ5.out; have := HJ8.out; have := HJ11.out; first | omega | exact Nat.le_refl _⟩, by repeat (first | exact Drawn0.refl _ | apply Drawn0.step)⟩
                              case rest =>
                                clear HC17
                                try clear c1
                                try clear p1
                                try clear q1
                                try clear hx1
                                try clear c2
                                try clear p2
                                try clear c3
                                try clear c3b0
                                try clear c4
                                try clear c4b0
                                try clear c5
                                try clear c5b0
                                try clear c6
                                try clear c7
                                try clear c7b0
                                try clear c7b1
                                try clear c8
                                try clear c10
                                try clear c10b0
                                try clear c10b1
                                try clear p10
                                try clear q10
                                try clear hx10
                                try clear c11
                                try clear c13
                                try clear c13b0
                                try clear c13b1
                                try clear c14
                                try clear c15
                                try clear c15b0
                                try clear c15b1
                                try clear c16
                                try clear c18
                                try clear c18b0
                                try clear c18b1
                                try clear c19
                                try clear c20
                                try clear c20b0
                                try clear c21
                                try clear c21b0
                                try clear c22
                                try clear c22b0
                                try clear c23
                                try clear c23b0
                                try clear hx103_0
                                try clear p1
                                try clear p10
                                try clear p103
                                try clear p2
                                try clear q1
                                try clear q10
                                try clear q103
                                obtain ⟨kq, x44_16, rfl, HA, HJ16, ⟨mc16, rfl⟩⟩ := hcut
                                cases kq with
                                | zero => exact absurd HA.out (by simp [jsontext_internal_jsonwire_hasEscapedUTF16Prefix.j4])
                                | succ kj16 =>
                                  have H := HA.out
                                  clear HA
                                  simp only [jsontext_internal_jsonwire_hasEscapedUTF16Prefix.j4] at H
                                  by_cases c24 : x44_16 = true
                                  · subst c24
                                    have H1 : (some false) = some r := by rw [if_pos rfl] at H; exact H
                                    clear H
                                    have H := H1
                                    clear H1
                                    obtain rfl := Option.some.inj H
                                    go_wp2
                                    go_ret
                                    exact ⟨by first | rfl | (simp; done) | (simp [*]; done), by repeat (first | exact Drawn0.refl _ | apply Drawn0.step)⟩
                                  · replace c24 := Bool.eq_false_iff.mpr c24
                                    subst c24
                                    have H1 : (if x9_1 ≥ 2 then (if x9_1 < 6 then (if 48 ≤ (rd l0 x9_1) then (if (rd l0 x9_1) ≤ 57 then (jsontext_internal_jsonwire_hasEscapedUTF16Prefix.l0 kj16 l0 a1 (l0.length : Int) (wrap64 (x9_1 + 1))) else (if 97 ≤ (rd l0 x9_1) then (if (rd l0 x9_1) ≤ 102 then (jsontext_internal_jsonwire_hasEscapedUTF16Prefix.l0 kj16 l0 a1 (l0.length : Int) (wrap64 (x9_1 + 1))) else (if 65 ≤ (rd l0 x9_1) then (if (rd l0 x9_1) ≤ 70 then (jsontext_internal_jsonwire_hasEscapedUTF16Prefix.l0 kj16 l0 a1 (l0.length : Int) (wrap64 (x9_1 + 1))) else (some false)) else (some false))) else (if 65 ≤ (rd l0 x9_1) then (if (rd l0 x9_1) ≤ 70 then (jsontext_internal_jsonwire_hasEscapedUTF16Prefix.l0 kj16 l0 a1 (l0.length : Int) (wrap64 (x9_1 + 1))) else (some false)) else (some false)))) else (if 97 ≤ (rd l0 x9_1) then (if (rd l0 x9_1) ≤ 102 then (jsontext_internal_jsonwire_hasEscapedUTF16Prefix.l0 kj16 l0 a1 (l0.length : Int) (wrap64 (x9_1 + 1))) else (if 65 ≤ (rd l0 x9_1) then (if (rd l0 x9_1) ≤ 70 then (jsontext_internal_jsonwire_hasEscapedUTF16Prefix.l0 kj16 l0 a1 (l0.length : Int) (wrap64 (x9_1 + 1))) else (some false)) else (some false))) else (if 65 ≤ (rd l0 x9_1) then (if (rd l0 x9_1) ≤ 70 then (jsontext_internal_jsonwire_hasEscapedUTF16Prefix.l0 kj16 l0 a1 (l0.length : Int) (wrap64 (x9_1 + 1))) else (some false)) else (some false)))) else (jsontext_internal_jsonwire_hasEscapedUTF16Prefix.l0 kj16 l0 a1 (l0.length : Int) (wrap64 (x9_1 + 1)))) else (jsontext_internal_jsonwire_hasEscapedUTF16Prefix.l0 kj16 l0 a1 (l0.length : Int) (wrap64 (x9_1 + 1)))) = some r := by rw [if_neg (show ¬ (false = true) by decide)] at H; exact H
                                    clear H
                                    have H := H1
                                    clear H1
                                    by_cases c25 : x9_1 ≥ 2
                                    · rw [if_pos c25] at H
                                      have c25b0 : decide (2 ≤ x9_1) = true := decide_eq_true c25
                                      clear c25
                                      by_cases c26 : x9_1 < 6
                                      · rw [if_pos c26] at H
                                        have c26b0 : decide (x9_1 < 6) = true := decide_eq_true c26
                                        clear c26
                                        by_cases c27 : 48 ≤ (rd l0 x9_1)
                                        · rw [if_pos c27] at H
                                          have c27b0 : decide (48 ≤ (rd l0 x9_1)) = true := decide_eq_true c27
                                          clear c27
                                          by_cases c28 : (rd l0 x9_1) ≤ 57
                                          · rw [if_pos c28] at H
                                            have c28b0 : decide ((rd l0 x9_1) ≤ 57) = true := decide_eq_true c28
                                            clear c28
                                            have H' := Aside0.mk H
                                            clear H
                                            go_wp2
                                            go_roundg kj16
                                            case measure => have := HK1.out; have := HJ5.out; have := HJ8.out; have := HJ11.out; have := HJ16.out; omega
                                            case rel => exact ⟨(wrap64 (x9_1 + 1)), (by first | rfl | (simp; done) | (simp [*]; done)), H', ⟨by have := HK1.out; have := HJ5.out; have := HJ8.out; have := HJ11.out; have := HJ16.out; omega⟩, by repeat (first | exact Drawn0.refl _ | apply Drawn0.step)⟩
                                          · rw [if_neg c28] at H
                                            have c28b0 : decide ((rd l0 x9_1) ≤ 57) = false := decide_eq_false c28
                                            clear c28
                                            by_cases c29 : 97 ≤ (rd l0 x9_1)
                                            · rw [if_pos c29] at H
                                              have c29b0 : decide (97 ≤ (rd l0 x9_1)) = true := decide_eq_true c29
                                              clear c29
                                              by_cases c30 : (rd l0 x9_1) ≤ 102
                                              · rw [if_pos c30] at H
                                                have c30b0 : decide ((rd l0 x9_1) ≤ 102) = true := decide_eq_true c30
                                                clear c30
                                                have H' := Aside0.mk H
                                                clear H
                                                go_wp2
                                                go_roundg kj16
                                                case measure => have := HK1.out; have := HJ5.out; have := HJ8.out; have := HJ11.out; have := HJ16.out; omega
                                                case rel => exact ⟨(wrap64 (x9_1 + 1)), (by first | rfl | (simp; done) | (simp [*]; done)), H', ⟨by have := HK1.out; have := HJ5.out; have := HJ8.out; have := HJ11.out; have := HJ16.out; omega⟩, by repeat (first | exact Drawn0.refl _ | apply Drawn0.step)⟩
                                              · rw [if_neg c30] at H
                                                have c30b0 : decide ((rd l0 x9_1) ≤ 102) = false := decide_eq_false c30
                                                clear c30
                                                by_cases c31 : 65 ≤ (rd l0 x9_1)
                                                · rw [if_pos c31] at H
                                                  have c31b0 : decide (65 ≤ (rd l0 x9_1)) = true := decide_eq_true c31
                                                  clear c31
                                                  by_cases c32 : (rd l0 x9_1) ≤ 70
                                                  · rw [if_pos c32] at H
                                                    have c32b0 : decide ((rd l0 x9_1) ≤ 70) = true := decide_eq_true c32
                                                    clear c32
                                                    have H' := Aside0.mk H
                                                    clear H
                                                    go_wp2
                                                    go_roundg kj16
                                                    case measure => have := HK1.out; have := HJ5.out; have := HJ8.out; have := HJ11.out; have := HJ16.out; omega
                                                    case rel => exact ⟨(wrap64 (x9_1 + 1)), (by first | rfl | (simp; done) | (simp [*]; done)), H', ⟨by have := HK1.out; have := HJ5.out; have := HJ8.out; have := HJ11.out; have := HJ16.out; omega⟩, by repeat (first | exact Drawn0.refl _ | apply Drawn0.step)⟩
                                                  · rw [if_neg c32] at H
                                                    have c32b0 : decide ((rd l0 x9_1) ≤ 70) = false := decide_eq_false c32
                                                    clear c32
                                                    obtain rfl := Option.some.inj H
                                                    go_wp2
                                                    go_ret
                                                    exact ⟨by first | rfl | (simp; done) | (simp [*]; done), by repeat (first | exact Drawn0.refl _ | apply Drawn0.step)⟩
                                                · rw [if_neg c31] at H
                                                  have c31b0 : decide (65 ≤ (rd l0 x9_1)) = false := decide_eq_false c31
                                                  clear c31
                                                  obtain rfl := Option.some.inj H
                                                  go_wp2
                                                  go_ret
                                                  exact ⟨by first | rfl | (simp; done) | (simp [*]; done), by repeat (first | exact Drawn0.refl _ | apply Drawn0.step)⟩
                                            · rw [if_neg c29] at H
                                              have c29b0 : decide (97 ≤ (rd l0 x9_1)) = false := decide_eq_false c29
                                              clear c29
                                              by_cases c33 : 65 ≤ (rd l0 x9_1)
                                              · rw [if_pos c33] at H
                                                have c33b0 : decide (65 ≤ (rd l0 x9_1)) = true := decide_eq_true c33
                                                clear c33
                                                by_cases c34 : (rd l0 x9_1) ≤ 70
                                                · rw [if_pos c34] at H
                                                  have c34b0 : decide ((rd l0 x9_1) ≤ 70) = true := decide_eq_true c34
                                                  clear c34
                                                  have H' := Aside0.mk H
                                                  clear H
                                                  go_wp2
                                                  go_roundg kj16
                                                  case measure => have := HK1.out; have := HJ5.out; have := HJ8.out; have := HJ11.out; have := HJ16.out; omega
                                                  case rel => exact ⟨(wrap64 (x9_1 + 1)), (by first | rfl | (simp; done) | (simp [*]; done)), H', ⟨by have := HK1.out; have := HJ5.out; have := HJ8.out; have := HJ11.out; have := HJ16.out; omega⟩, by repeat (first | exact Drawn0.refl _ | apply Drawn0.step)⟩
                                                · rw [if_neg c34] at H
                                                  have c34b0 : decide ((rd l0 x9_1) ≤ 70) = false := decide_eq_false c34
                                                  clear c34
                                                  obtain rfl := Option.some.inj H
                                                  go_wp2
                                                  go_ret
                                                  exact ⟨by first | rfl | (simp; done) | (simp [*]; done), by repeat (first | exact Drawn0.refl _ | apply Drawn0.step)⟩
                                              · rw [if_neg c33] at H
                                                have c33b0 : decide (65 ≤ (rd l0 x9_1)) = false := decide_eq_false c33
                                                clear c33
                                                obtain rfl := Option.some.inj H
                                                go_wp2
                                                go_ret
                                                exact ⟨by first | rfl | (simp; done) | (simp [*]; done), by repeat (first | exact Drawn0.refl _ | apply Drawn0.step)⟩
                                        · rw [if_neg c27] at H
                                          have c27b0 : decide (48 ≤ (rd l0 x9_1)) = false := decide_eq_false c27
                                          clear c27
                                          by_cases c35 : 97 ≤ (rd l0 x9_1)
                                          · rw [if_pos c35] at H
                                            have c35b0 : decide (97 ≤ (rd l0 x9_1)) = true := decide_eq_true c35
                                            clear c35
                                            by_cases c36 : (rd l0 x9_1) ≤ 102
                                            · rw [if_pos c36] at H
                                              have c36b0 : decide ((rd l0 x9_1) ≤ 102) = true := decide_eq_true c36
                                              clear c36
                                              have H' := Aside0.mk H
                                              clear H
                                              go_wp2
                                              go_roundg kj16
                                              case measure => have := HK1.out; have := HJ5.out; have := HJ8.out; have := HJ11.out; have := HJ16.out; omega
                                              case rel => exact ⟨(wrap64 (x9_1 + 1)), (by first | rfl | (simp; done) | (simp [*]; done)), H', ⟨by have := HK1.out; have := HJ5.out; have := HJ8.out; have := HJ11.out; have := HJ16.out; omega⟩, by repeat (first | exact Drawn0.refl _ | apply Drawn0.step)⟩
                                            · rw [if_neg c36] at H
                                              have c36b0 : decide ((rd l0 x9_1) ≤ 102) = false := decide_eq_false c36
                                              clear c36
                                              by_cases c37 : 65 ≤ (rd l0 x9_1)
                                              · rw [if_pos c37] at H
                                                have c37b0 : decide (65 ≤ (rd l0 x9_1)) = true := decide_eq_true c37
                                                clear c37
                                                by_cases c38 : (rd l0 x9_1) ≤ 70
                                                · rw [if_pos c38] at H
                                                  have c38b0 : decide ((rd l0 x9_1) ≤ 70) = true := decide_eq_true c38
                                                  clear c38
                                                  have H' := Aside0.mk H
                                                  clear H
                                                  go_wp2
                                                  go_roundg kj16
                                                  case measure => have := HK1.out; have := HJ5.out; have := HJ8.out; have := HJ11.out; have := HJ16.out; omega
                                                  case rel => exact ⟨(wrap64 (x9_1 + 1)), (by first | rfl | (simp; done) | (simp [*]; done)), H', ⟨by have := HK1.out; have := HJ5.out; have := HJ8.out; have := HJ11.out; have := HJ16.out; omega⟩, by repeat (first | exact Drawn0.refl _ | apply Drawn0.step)⟩
                                                · rw [if_neg c38] at H
                                                  have c38b0 : decide ((rd l0 x9_1) ≤ 70) = false := decide_eq_false c38
                                                  clear c38
                                                  obtain rfl := Option.some.inj H
                                                  go_wp2
                                                  go_ret
                                                  exact ⟨by first | rfl | (simp; done) | (simp [*]; done), by repeat (first | exact Drawn0.refl _ | apply Drawn0.step)⟩
                                              · rw [if_neg c37] at H
                                                have c37b0 : decide (65 ≤ (rd l0 x9_1)) = false := decide_eq_false c37
                                                clear c37
                                                obtain rfl := Option.some.inj H
                                                go_wp2
                                                go_ret
                                                exact ⟨by first | rfl | (simp; done) | (simp [*]; done), by repeat (first | exact Drawn0.refl _ | apply Drawn0.step)⟩
                                          · rw [if_neg c35] at H
                                            have c35b0 : decide (97 ≤ (rd l0 x9_1)) = false := decide_eq_false c35
                                            clear c35
                                            by_cases c39 : 65 ≤ (rd l0 x9_1)
                                            · rw [if_pos c39] at H
                                              have c39b0 : decide (65 ≤ (rd l0 x9_1)) = true := decide_eq_true c39
                                              clear c39
                                              by_cases c40 : (rd l0 x9_1) ≤ 70
                                              · rw [if_pos c40] at H
                                                have c40b0 : decide ((rd l0 x9_1) ≤ 70) = true := decide_eq_true c40
                                                clear c40
                                                have H' := Aside0.mk H
                                                clear H
                                                go_wp2
                                                go_roundg kj16
                                                case measure => have := HK1.out; have := HJ5.out; have := HJ8.out; have := HJ11.out; have := HJ16.out; omega
                                                case rel => exact ⟨(wrap64 (x9_1 + 1)), (by first | rfl | (simp; done) | (simp [*]; done)), H', ⟨by have := HK1.out; have := HJ5.out; have := HJ8.out; have := HJ11.out; have := HJ16.out; omega⟩, by repeat (first | exact Drawn0.refl _ | apply Drawn0.step)⟩
                                              · rw [if_neg c40] at H
                                                have c40b0 : decide ((rd l0 x9_1) ≤ 70) = false := decide_eq_false c40
                                                clear c40
                                                obtain rfl := Option.some.inj H
                                                go_wp2
                                                go_ret
                                                exact ⟨by first | rfl | (simp; done) | (simp [*]; done), by repeat (first | exact Drawn0.refl _ | apply Drawn0.step)⟩
                                            · rw [if_neg c39] at H
                                              have c39b0 : decide (65 ≤ (rd l0 x9_1)) = false := decide_eq_false c39
                                              clear c39
                                              obtain rfl := Option.some.inj H
                                              go_wp2
                                              go_ret
                                              exact ⟨by first | rfl | (simp; done) | (simp [*]; done), by repeat (first | exact Drawn0.refl _ | apply Drawn0.step)⟩
                                      · rw [if_neg c26] at H
                                        have c26b0 : decide (x9_1 < 6) = false := decide_eq_false c26
                                        clear c26
                                        have H' := Aside0.mk H
                                        clear H
                                        go_wp2
                                        go_roundg kj16
                                        case measure => have := HK1.out; have := HJ5.out; have := HJ8.out; have := HJ11.out; have := HJ16.out; omega
                                        case rel => exact ⟨(wrap64 (x9_1 + 1)), (by first | rfl | (simp; done) | (simp [*]; done)), H', ⟨by have := HK1.out; have := HJ5.out; have := HJ8.out; have := HJ11.out; have := HJ16.out; omega⟩, by repeat (first | exact Drawn0.refl _ | apply Drawn0.step)⟩
                                    · rw [if_neg c25] at H
                                      have c25b0 : decide (2 ≤ x9_1) = false := decide_eq_false c25
                                      clear c25
                                      have H' := Aside0.mk H
                                      clear H
                                      go_wp2
                                      go_roundg kj16
                                      case measure => have := HK1.out; have := HJ5.out; have := HJ8.out; have := HJ11.out; have := HJ16.out; omega
                                      case rel => exact ⟨(wrap64 (x9_1 + 1)), (by first | rfl | (simp; done) | (simp [*]; done)), H', ⟨by have := HK1.out; have := HJ5.out; have := HJ8.out; have := HJ11.out; have := HJ16.out; omega⟩, by repeat (first | exact Drawn0.refl _ | apply Drawn0.step)⟩
          · rw [if_neg c5] at H
            exact absurd H (by simp)
        · rw [if_neg c4] at H
          exact absurd H (by simp)
      · rw [if_neg c3] at H
        have c3b0 : decide (x9_1 < (l0.length : Int)) = false := decide_eq_false c3
        clear c3
        obtain rfl := Option.some.inj H
        go_wp2
        go_ret
        exact ⟨by first | rfl | (simp; done) | (simp [*]; done), by repeat (first | exact Drawn0.refl _ | apply Drawn0.step)⟩

end Go.Proofs.YtjfbkgkpjkickaaGreatDoor.PAll
