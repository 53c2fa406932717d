/- The texts of a proof, its declarations alone: part 10. -/
import Derived.Test.YtjfbkgkpjkickaaGreatDoorVU2
set_option linter.unusedVariables false
set_option linter.unusedSimpArgs false
-- YtjfbkgkpjkickaaGreatDoorPAllx165
namespace Go.Proofs.YtjfbkgkpjkickaaGreatDoor.PAll
open Go.RowKit Go.Proofs.YtjfbkgkpjkickaaGreatDoorW.PrintWords Go.Proofs.YtjfbkgkpjkickaaGreatDoorW.PrintLast Go.Proofs.YtjfbkgkpjkickaaGreatDoorW.PrintMore
attribute [local go_sem] max2_int min2_int max_two min_two max_three min_three max_four min_four   -- for this text's walks alone
set_option linter.unusedVariables false
set_option linter.unusedSimpArgs false

mutual
def laws_number8.l0 : Nat → ByteArray → Int → Int → Int → Option (Bool)
  | 0, _, _, _, _ => none
  | k + 1, x0, x3, x8, x9 => if x9 < x8 then (if 0 ≤ x9 then (if x9 < (x0.size : Int) then (if (bt x0 x9) ≥ 48 then (laws_number8.j1 k x0 x3 (bt x0 x9) (decide ((bt x0 x9) ≤ 57)) x8 x9) else (laws_number8.j1 k x0 x3 (bt x0 x9) false x8 x9)) else (none)) else (none)) else (if x3 = 2 then (some true) else (if x3 = 3 then (some true) else (if x3 = 5 then (some true) else (some (x3 == 8)))))
def laws_number8.j1 : Nat → ByteArray → Int → Int → Bool → Int → Int → Option (Bool)
  | 0, _, _, _, _, _, _ => none
  | k + 1, x0, x3, x5, x6, x8, x9 => if x3 = 0 then (laws_number8.j2 k x0 x3 x5 x6 x8 x9 (x5 == 45)) else (laws_number8.j2 k x0 x3 x5 x6 x8 x9 false)
def laws_number8.j2 : Nat → ByteArray → Int → Int → Bool → Int → Int → Bool → Option (Bool)
  | 0, _, _, _, _, _, _, _ => none
  | k + 1, x0, x3, x5, x6, x8, x9, x21 => if x21 = true then (laws_number8.l0 k x0 1 x8 (wrap64 (x9 + 1))) else (if x3 ≤ 1 then (laws_number8.j3 k x0 x3 x5 x6 x8 x9 (x5 == 48)) else (laws_number8.j3 k x0 x3 x5 x6 x8 x9 false))
def laws_number8.j3 : Nat → ByteArray → Int → Int → Bool → Int → Int → Bool → Option (Bool)
  | 0, _, _, _, _, _, _, _ => none
  | k + 1, x0, x3, x5, x6, x8, x9, x28 => if x28 = true then (laws_number8.l0 k x0 2 x8 (wrap64 (x9 + 1))) else (if x3 ≤ 1 then (if x6 = true then (laws_number8.j4 k x0 x3 x5 x6 x8 x9 true) else (if x3 = 3 then (laws_number8.j4 k x0 x3 x5 x6 x8 x9 x6) else (laws_number8.j4 k x0 x3 x5 x6 x8 x9 false))) else (if x3 = 3 then (laws_number8.j4 k x0 x3 x5 x6 x8 x9 x6) else (laws_number8.j4 k x0 x3 x5 x6 x8 x9 false)))
def laws_number8.j4 : Nat → ByteArray → Int → Int → Bool → Int → Int → Bool → Option (Bool)
  | 0, _, _, _, _, _, _, _ => none
  | k + 1, x0, x3, x5, x6, x8, x9, x35 => if x35 = true then (laws_number8.l0 k x0 3 x8 (wrap64 (x9 + 1))) else (if x3 = 2 then (laws_number8.j5 k x0 x3 x5 x6 x8 x9 (x5 == 46)) else (if x3 = 3 then (laws_number8.j5 k x0 x3 x5 x6 x8 x9 (x5 == 46)) else (laws_number8.j5 k x0 x3 x5 x6 x8 x9 false)))
def laws_number8.j5 : Nat → ByteArray → Int → Int → Bool → Int → Int → Bool → Option (Bool)
  | 0, _, _, _, _, _, _, _ => none
  | k + 1, x0, x3, x5, x6, x8, x9, x48 => if x48 = true then (laws_number8.l0 k x0 4 x8 (wrap64 (x9 + 1))) else (if x3 = 4 then (laws_number8.j6 k x0 x3 x5 x6 x8 x9 x6) else (if x3 = 5 then (laws_number8.j6 k x0 x3 x5 x6 x8 x9 x6) else (laws_number8.j6 k x0 x3 x5 x6 x8 x9 false)))
def laws_number8.j6 : Nat → ByteArray → Int → Int → Bool → Int → Int → Bool → Option (Bool)
  | 0, _, _, _, _, _, _, _ => none
  | k + 1, x0, x3, x5, x6, x8, x9, x59 => if x59 = true then (laws_number8.l0 k x0 5 x8 (wrap64 (x9 + 1))) else (if x3 = 2 then (if x5 = 101 then (laws_number8.j7 k x0 x3 x5 x6 x8 x9 true) else (laws_number8.j7 k x0 x3 x5 x6 x8 x9 (x5 == 69))) else (if x3 = 3 then (if x5 = 101 then (laws_number8.j7 k x0 x3 x5 x6 x8 x9 true) else (laws_number8.j7 k x0 x3 x5 x6 x8 x9 (x5 == 69))) else (if x3 = 5 then (if x5 = 101 then (laws_number8.j7 k x0 x3 x5 x6 x8 x9 true) else (laws_number8.j7 k x0 x3 x5 x6 x8 x9 (x5 == 69))) else (laws_number8.j7 k x0 x3 x5 x6 x8 x9 false))))
def laws_number8.j7 : Nat → ByteArray → Int → Int → Bool → Int → Int → Bool → Option (Bool)
  | 0, _, _, _, _, _, _, _ => none
  | k + 1, x0, x3, x5, x6, x8, x9, x69 => if x69 = true then (laws_number8.l0 k x0 6 x8 (wrap64 (x9 + 1))) else (if x3 = 6 then (if x5 = 43 then (laws_number8.j8 k x0 x3 x6 x8 x9 true) else (laws_number8.j8 k x0 x3 x6 x8 x9 (x5 == 45))) else (laws_number8.j8 k x0 x3 x6 x8 x9 false))
def laws_number8.j8 : Nat → ByteArray → Int → Bool → Int → Int → Bool → Option (Bool)
  | 0, _, _, _, _, _, _ => none
  | k + 1, x0, x3, x6, x8, x9, x88 => if x88 = true then (laws_number8.l0 k x0 7 x8 (wrap64 (x9 + 1))) else (if x3 ≥ 6 then (if x6 = true then (laws_number8.l0 k x0 8 x8 (wrap64 (x9 + 1))) else (some false)) else (some false))
end
def laws_number8.f (k : Nat) (a0 : ByteArray) : Option (Bool) := laws_number8.l0 k a0 0 (a0.size : Int) 0
set_option maxHeartbeats 8000000 in
set_option maxRecDepth 100000 in
theorem laws_number8.calls (k : Nat) (a0 : ByteArray) (r : Bool) (w : World) (h : laws_number8.f k a0 = some r) :
    Calls Tryz.prog 23 #[.string a0] w fun e w' => e = .returned (.bool r) ∧ Drawn0 w w' := by
  have H : (laws_number8.l0 k a0 0 (a0.size : Int) 0) = some r := h
  clear h
  have H' := Aside0.mk H
  clear H
  go_enter Tryz.func23, Tryz.ntmps23
  go_wp2
  go_loopg [3, 9] k (fun kq v3 v9 w' => ∃ (x3_1 : Int) (x9_1 : Int), v3 = .int .i64 x3_1 ∧ v9 = .int .i64 x9_1 ∧ Aside0 (laws_number8.l0 kq a0 x3_1 (a0.size : Int) x9_1 = some r) ∧ Aside0 (kq ≤ k) ∧ Drawn0 w w')
  case atStart => exact ⟨(0), (0), (by first | rfl | (simp; done) | (simp [*]; done)), (by first | rfl | (simp; done) | (simp [*]; done)), H', ⟨Nat.le_refl _⟩, by repeat (first | exact Drawn0.refl _ | apply Drawn0.step)⟩
  case round =>
    clear H'
    obtain ⟨x3_1, x9_1, rfl, rfl, HA, HK1, ⟨m1, rfl⟩⟩ := hrel
    cases gk with
    | zero => exact absurd HA.out (by simp [laws_number8.l0])
    | succ k1 =>
      have H := HA.out
      clear HA
      simp only [laws_number8.l0] at H
      by_cases c2 : x9_1 < (a0.size : Int)
      · rw [if_pos c2] at H
        have c2b0 : decide (x9_1 < (a0.size : Int)) = true := decide_eq_true c2
        clear c2
        by_cases c3 : 0 ≤ x9_1
        · rw [if_pos c3] at H
          have c3b0 : decide (0 ≤ x9_1) = true := decide_eq_true c3
          clear c3
          by_cases c4 : x9_1 < (a0.size : Int)
          · rw [if_pos c4] at H
            have c4b0 : decide (x9_1 < (a0.size : Int)) = true := decide_eq_true c4
            clear c4
            have HC6 := Aside0.mk H
            clear H
            have p5 : 0 ≤ (x9_1 : Int) := of_decide_eq_true (by first | (with_reducible assumption) | assumption)
            have q5 : x9_1 < (a0.size : Int) := of_decide_eq_true (by first | (with_reducible assumption) | assumption)
            have hx5 := bt_at a0 x9_1
            replace p5 := eq_true p5
            replace q5 := eq_true q5
            go_upto_region 6 with (fail)
            go_cut [6] (fun v6 wc => ∃ (kq : Nat) (x6_5 : Bool), v6 = .bool x6_5 ∧ Aside0 (laws_number8.j1 kq a0 x3_1 (bt a0 x9_1) x6_5 (a0.size : Int) x9_1 = some r) ∧ Aside0 (kq ≤ k1) ∧ Drawn0 w wc)
            case first =>
              have H := HC6.out
              clear HC6
              by_cases c7 : (bt a0 x9_1) ≥ 48
              · rw [if_pos c7] at H
                have c7b0 : decide (48 ≤ (bt a0 x9_1)) = true := decide_eq_true c7
                clear c7
                (first | rw [c7b0] | (simp only [i64_w, i32_w]; rw [c7b0]) | skip)
                have H' := Aside0.mk H
                clear H
                go_wp2
                go_meet
                case rel => exact ⟨_, (decide ((bt a0 x9_1) ≤ 57)), (by first | rfl | (simp; done) | (simp [*]; done)), H', ⟨by have := HK1.out; first | omega | exact Nat.le_refl _⟩, by repeat (first | exact Drawn0.refl _ | apply Drawn0.step)⟩
              · rw [if_neg c7] at H
                have c7b0 : decide (48 ≤ (bt a0 x9_1)) = false := decide_eq_false c7
                clear c7
                (first | rw [c7b0] | (simp only [i64_w, i32_w]; rw [c7b0]) | skip)
                have H' := Aside0.mk H
                clear H
                go_wp2
                go_meet
                case rel => exact ⟨_, (false), (by first | rfl | (simp; done) | (simp [*]; done)), H', ⟨by have := HK1.out; first | omega | exact Nat.le_refl _⟩, by repeat (first | exact Drawn0.refl _ | apply Drawn0.step)⟩
            case rest =>
              clear HC6
              try clear c2
              try clear c2b0
              try clear p2
              try clear c3
              try clear c3b0
              try clear c4
              try clear c4b0
              try clear p5
              try clear q5
              try clear hx5
              try clear c7
              try clear c7b0
              try clear p5
              try clear q5
              obtain ⟨kq, x6_5, rfl, HA, HJ5, ⟨mc5, rfl⟩⟩ := hcut
              cases kq with
              | zero => exact absurd HA.out (by simp [laws_number8.j1])
              | succ kj5 =>
                have H := HA.out
                clear HA
                simp only [laws_number8.j1] at H
                have HC8 := Aside0.mk H
                clear H
                go_upto_region 8 with (fail)
                go_cut [21] (fun v21 wc => ∃ (kq : Nat) (x21_7 : Bool), v21 = .bool x21_7 ∧ Aside0 (laws_number8.j2 kq a0 x3_1 (bt a0 x9_1) x6_5 (a0.size : Int) x9_1 x21_7 = some r) ∧ Aside0 (kq ≤ kj5) ∧ Drawn0 w wc)
                case first =>
                  have H := HC8.out
                  clear HC8
                  by_cases c9 : x3_1 = 0
                  · rw [if_pos c9] at H
                    have c9b0 : (x3_1 == 0) = true := beq_iff_eq.mpr c9
                    have c9b1 : (x3_1 != 0) = false := bne_eq_false_iff_eq.mpr c9
                    clear c9
                    (first | rw [c9b0] | (simp only [i64_w, i32_w]; rw [c9b0]) | skip)
                    have H' := Aside0.mk H
                    clear H
                    go_wp2
                    go_meet
                    case rel => exact ⟨_, (((bt a0 x9_1) == 45)), (by first | rfl | (simp; done) | (simp [*]; done)), H', ⟨by have := HK1.out; have := HJ5.out; first | omega | exact Nat.le_refl _⟩, by repeat (first | exact Drawn0.refl _ | apply Drawn0.step)⟩
                  · rw [if_neg c9] at H
                    have c9b0 : (x3_1 == 0) = false := beq_eq_false_iff_ne.mpr c9
                    have c9b1 : (x3_1 != 0) = true := bne_iff_ne.mpr c9
                    (first | rw [c9b0] | (simp only [i64_w, i32_w]; rw [c9b0]) | skip)
                    have H' := Aside0.mk H
                    clear H
                    go_wp2
                    go_meet
                    case rel => exact ⟨_, (false), (by first | rfl | (simp; done) | (simp [*]; done)), H', ⟨by have := HK1.out; have := HJ5.out; first | omega | exact Nat.le_refl _⟩, by repeat (first | exact Drawn0.refl _ | apply Drawn0.step)⟩
                case rest =>
                  clear HC8
                  try clear c2
                  try clear c2b0
                  try clear p2
                  try clear c3
                  try clear c3b0
                  try clear c4
                  try clear c4b0
                  try clear c5
                  try clear p5
                  try clear q5
                  try clear hx5
                  try clear c7
                  try clear c7b0
                  try clear c9
                  try clear c9b0
                  try clear c9b1
                  try clear p2
                  try clear p5
                  try clear q5
                  obtain ⟨kq, x21_7, rfl, HA, HJ7, ⟨mc7, rfl⟩⟩ := hcut
                  cases kq with
                  | zero => exact absurd HA.out (by simp [laws_number8.j2])
                  | succ kj7 =>
                    have H := HA.out
                    clear HA
                    simp only [laws_number8.j2] at H
                    by_cases c10 : x21_7 = true
                    · subst c10
                      have H1 : (laws_number8.l0 kj7 a0 1 (a0.size : Int) (wrap64 (x9_1 + 1))) = some r := by rw [if_pos rfl] at H; exact H
                      clear H
                      have H := H1
                      clear H1
                      have H' := Aside0.mk H
                      clear H
                      go_wp2
                      go_roundg kj7
                      case measure => have := HK1.out; have := HJ5.out; have := HJ7.out; omega
                      case rel => exact ⟨(1), (wrap64 (x9_1 + 1)), (by first | rfl | (simp; done) | (simp [*]; done)), (by first | rfl | (simp; done) | (simp [*]; done)), H', ⟨by have := HK1.out; have := HJ5.out; have := HJ7.out; omega⟩, by repeat (first | exact Drawn0.refl _ | apply Drawn0.step)⟩
                    · replace c10 := Bool.eq_false_iff.mpr c10
                      subst c10
                      have H1 : (if x3_1 ≤ 1 then (laws_number8.j3 kj7 a0 x3_1 (bt a0 x9_1) x6_5 (a0.size : Int) x9_1 ((bt a0 x9_1) == 48)) else (laws_number8.j3 kj7 a0 x3_1 (bt a0 x9_1) x6_5 (a0.size : Int) x9_1 false)) = some r := by rw [if_neg (show ¬ (false = true) by decide)] at H; exact H
                      clear H
                      have H := H1
                      clear H1
                      have HC11 := Aside0.mk H
                      clear H
                      go_upto_region 10 with (fail)
                      go_cut [28] (fun v28 wc => ∃ (kq : Nat) (x28_10 : Bool), v28 = .bool x28_10 ∧ Aside0 (laws_number8.j3 kq a0 x3_1 (bt a0 x9_1) x6_5 (a0.size : Int) x9_1 x28_10 = some r) ∧ Aside0 (kq ≤ kj7) ∧ Drawn0 w wc)
                      case first =>
                        have H := HC11.out
                        clear HC11
                        by_cases c12 : x3_1 ≤ 1
                        · rw [if_pos c12] at H
                          have c12b0 : decide (x3_1 ≤ 1) = true := decide_eq_true c12
                          clear c12
                          (first | rw [c12b0] | (simp only [i64_w, i32_w]; rw [c12b0]) | skip)
                          have H' := Aside0.mk H
                          clear H
                          go_wp2
                          go_meet
                          case rel => exact ⟨_, (((bt a0 x9_1) == 48)), (by first | rfl | (simp; done) | (simp [*]; done)), H', ⟨by have := HK1.out; have := HJ5.out; have := HJ7.out; first | omega | exact Nat.le_refl _⟩, by repeat (first | exact Drawn0.refl _ | apply Drawn0.step)⟩
                        · rw [if_neg c12] at H
                          have c12b0 : decide (x3_1 ≤ 1) = false := decide_eq_false c12
                          clear c12
                          (first | rw [c12b0] | (simp only [i64_w, i32_w]; rw [c12b0]) | skip)
                          have H' := Aside0.mk H
                          clear H
                          go_wp2
                          go_meet
                          case rel => exact ⟨_, (false), (by first | rfl | (simp; done) | (simp [*]; done)), H', ⟨by have := HK1.out; have := HJ5.out; have := HJ7.out; first | omega | exact Nat.le_refl _⟩, by repeat (first | exact Drawn0.refl _ | apply Drawn0.step)⟩
                      case rest =>
                        clear HC11
                        try clear c1
                        try clear c2
                        try clear c2b0
                        try clear p2
                        try clear c3
                        try clear c3b0
                        try clear c4
                        try clear c4b0
                        try clear c5
                        try clear p5
                        try clear q5
                        try clear hx5
                        try clear p6
                        try clear c7
                        try clear c7b0
                        try clear c9
                        try clear c9b0
                        try clear c9b1
                        try clear c10
                        try clear c12
                        try clear c12b0
                        try clear p2
                        try clear p5
                        try clear q5
                        obtain ⟨kq, x28_10, rfl, HA, HJ10, ⟨mc10, rfl⟩⟩ := hcut
                        cases kq with
                        | zero => exact absurd HA.out (by simp [laws_number8.j3])
                        | succ kj10 =>
                          have H := HA.out
                          clear HA
                          simp only [laws_number8.j3] at H
                          by_cases c13 : x28_10 = true
                          · subst c13
                            have H1 : (laws_number8.l0 kj10 a0 2 (a0.size : Int) (wrap64 (x9_1 + 1))) = some r := by rw [if_pos rfl] at H; exact H
                            clear H
                            have H := H1
                            clear H1
                            have H' := Aside0.mk H
                            clear H
                            go_wp2
                            go_roundg kj10
                            case measure => have := HK1.out; have := HJ5.out; have := HJ7.out; have := HJ10.out; omega
                            case rel => exact ⟨(2), (wrap64 (x9_1 + 1)), (by first | rfl | (simp; done) | (simp [*]; done)), (by first | rfl | (simp; done) | (simp [*]; done)), H', ⟨by have := HK1.out; have := HJ5.out; have := HJ7.out; have := HJ10.out; omega⟩, by repeat (first | exact Drawn0.refl _ | apply Drawn0.step)⟩
                          · replace c13 := Bool.eq_false_iff.mpr c13
                            subst c13
                            have H1 : (if x3_1 ≤ 1 then (if x6_5 = true then (laws_number8.j4 kj10 a0 x3_1 (bt a0 x9_1) x6_5 (a0.size : Int) x9_1 true) else (if x3_1 = 3 then (laws_number8.j4 kj10 a0 x3_1 (bt a0 x9_1) x6_5 (a0.size : Int) x9_1 x6_5) else (laws_number8.j4 kj10 a0 x3_1 (bt a0 x9_1) x6_5 (a0.size : Int) x9_1 false))) else (if x3_1 = 3 then (laws_number8.j4 kj10 a0 x3_1 (bt a0 x9_1) x6_5 (a0.size : Int) x9_1 x6_5) else (laws_number8.j4 kj10 a0 x3_1 (bt a0 x9_1) x6_5 (a0.size : Int) x9_1 false))) = some r := by rw [if_neg (show ¬ (false = true) by decide)] at H; exact H
                            clear H
                            have H := H1
                            clear H1
                            have HC14 := Aside0.mk H
                            clear H
                            go_upto_region 12 with (fail)
                            go_cut [35] (fun v35 wc => ∃ (kq : Nat) (x35_13 : Bool), v35 = .bool x35_13 ∧ Aside0 (laws_number8.j4 kq a0 x3_1 (bt a0 x9_1) x6_5 (a0.size : Int) x9_1 x35_13 = some r) ∧ Aside0 (kq ≤ kj10) ∧ Drawn0 w wc)
                            case first =>
                              have H := HC14.out
                              clear HC14
                              by_cases c15 : x3_1 ≤ 1
                              · rw [if_pos c15] at H
                                have c15b0 : decide (x3_1 ≤ 1) = true := decide_eq_true c15
                                clear c15
                                (first | rw [c15b0] | (simp only [i64_w, i32_w]; rw [c15b0]) | skip)
                                by_cases c16 : x6_5 = true
                                · subst c16
                                  have H1 : (laws_number8.j4 kj10 a0 x3_1 (bt a0 x9_1) true (a0.size : Int) x9_1 true) = some r := by rw [if_pos rfl] at H; exact H
                                  clear H
                                  have H := H1
                                  clear H1
                                  have H' := Aside0.mk H
                                  clear H
                                  go_wp2
                                  go_meet
                                  case rel => exact ⟨_, (true), (by first | rfl | (simp; done) | (simp [*]; done)), H', ⟨by have := HK1.out; have := HJ5.out; have := HJ7.out; have := HJ10.out; first | omega | exact Nat.le_refl _⟩, by repeat (first | exact Drawn0.refl _ | apply Drawn0.step)⟩
                                · replace c16 := Bool.eq_false_iff.mpr c16
                                  subst c16
                                  have H1 : (if x3_1 = 3 then (laws_number8.j4 kj10 a0 x3_1 (bt a0 x9_1) false (a0.size : Int) x9_1 false) else (laws_number8.j4 kj10 a0 x3_1 (bt a0 x9_1) false (a0.size : Int) x9_1 false)) = some r := by rw [if_neg (show ¬ (false = true) by decide)] at H; exact H
                                  clear H
                                  have H := H1
                                  clear H1
                                  by_cases c17 : x3_1 = 3
                                  · rw [if_pos c17] at H
                                    have c17b0 : (x3_1 == 3) = true := beq_iff_eq.mpr c17
                                    have c17b1 : (x3_1 != 3) = false := bne_eq_false_iff_eq.mpr c17
                                    clear c17
                                    have H' := Aside0.mk H
                                    clear H
                                    go_wp2
                                    go_meet
                                    case rel => exact ⟨_, (false), (by first | rfl | (simp; done) | (simp [*]; done)), H', ⟨by have := HK1.out; have := HJ5.out; have := HJ7.out; have := HJ10.out; first | omega | exact Nat.le_refl _⟩, by repeat (first | exact Drawn0.refl _ | apply Drawn0.step)⟩
                                  · rw [if_neg c17] at H
                                    have c17b0 : (x3_1 == 3) = false := beq_eq_false_iff_ne.mpr c17
                                    have c17b1 : (x3_1 != 3) = true := bne_iff_ne.mpr c17
                                    have H' := Aside0.mk H
                                    clear H
                                    go_wp2
                                    go_meet
                                    case rel => exact ⟨_, (false), (by first | rfl | (simp; done) | (simp [*]; done)), H', ⟨by have := HK1.out; have := HJ5.out; have := HJ7.out; have := HJ10.out; first | omega | exact Nat.le_refl _⟩, by repeat (first | exact Drawn0.refl _ | apply Drawn0.step)⟩
                              · rw [if_neg c15] at H
                                have c15b0 : decide (x3_1 ≤ 1) = false := decide_eq_false c15
                                clear c15
                                (first | rw [c15b0] | (simp only [i64_w, i32_w]; rw [c15b0]) | skip)
                                by_cases c18 : x3_1 = 3
                                · rw [if_pos c18] at H
                                  have c18b0 : (x3_1 == 3) = true := beq_iff_eq.mpr c18
                                  have c18b1 : (x3_1 != 3) = false := bne_eq_false_iff_eq.mpr c18
                                  clear c18
                                  have H' := Aside0.mk H
                                  clear H
                                  go_wp2
                                  go_meet
                                  case rel => exact ⟨_, (x6_5), (by first | rfl | (simp; done) | (simp [*]; done)), H', ⟨by have := HK1.out; have := HJ5.out; have := HJ7.out; have := HJ10.out; first | omega | exact Nat.le_refl _⟩, by repeat (first | exact Drawn0.refl _ | apply Drawn0.step)⟩
                                · rw [if_neg c18] at H
                                  have c18b0 : (x3_1 == 3) = false := beq_eq_false_iff_ne.mpr c18
                                  have c18b1 : (x3_1 != 3) = true := bne_iff_ne.mpr c18
                                  have H' := Aside0.mk H
                                  clear H
                                  go_wp2
                                  go_meet
                                  case rel => exact ⟨_, (false), (by first | rfl | (simp; done) | (simp [*]; done)), H', ⟨by have := HK1.out; have := HJ5.out; have := HJ7.out; have := HJ10.out; first | omega | exact Nat.le_refl _⟩, by repeat (first | exact Drawn0.refl _ | apply Drawn0.step)⟩
                            case rest =>
                              clear HC14
                              try clear c1
                              try clear c2
                              try clear c2b0
                              try clear p2
                              try clear c3
                              try clear c3b0
                              try clear c4
                              try clear c4b0
                              try clear c5
                              try clear p5
                              try clear q5
                              try clear hx5
                              try clear p6
                              try clear c7
                              try clear c7b0
                              try clear c9
                              try clear c9b0
                              try clear c9b1
                              try clear c10
                              try clear c12
                              try clear c12b0
                              try clear c13
                              try clear c15
                              try clear c15b0
                              try clear c16
                              try clear c17
                              try clear c17b0
                              try clear c17b1
                              try clear c18
                              try clear c18b0
                              try clear c18b1
                              try clear p2
                              try clear p5
                              try clear p6
                              try clear q5
                              obtain ⟨kq, x35_13, rfl, HA, HJ13, ⟨mc13, rfl⟩⟩ := hcut
                              cases kq with
                              | zero => exact absurd HA.out (by simp [laws_number8.j4])
                              | succ kj13 =>
                                have H := HA.out
                                clear HA
                                simp only [laws_number8.j4] at H
                                by_cases c19 : x35_13 = true
                                · subst c19
                                  have H1 : (laws_number8.l0 kj13 a0 3 (a0.size : Int) (wrap64 (x9_1 + 1))) = some r := by rw [if_pos rfl] at H; exact H
                                  clear H
                                  have H := H1
                                  clear H1
                                  have H' := Aside0.mk H
                                  clear H
                                  go_wp2
                                  go_roundg kj13
                                  case measure => have := HK1.out; have := HJ5.out; have := HJ7.out; have := HJ10.out; have := HJ13.out; omega
                                  case rel => exact ⟨(3), (wrap64 (x9_1 + 1)), (by first | rfl | (simp; done) | (simp [*]; done)), (by first | rfl | (simp; done) | (simp [*]; done)), H', ⟨by have := HK1.out; have := HJ5.out; have := HJ7.out; have := HJ10.out; have := HJ13.out; omega⟩, by repeat (first | exact Drawn0.refl _ | apply Drawn0.step)⟩
                                · replace c19 := Bool.eq_false_iff.mpr c19
                                  subst c19
                                  have H1 : (if x3_1 = 2 then (laws_number8.j5 kj13 a0 x3_1 (bt a0 x9_1) x6_5 (a0.size : Int) x9_1 ((bt a0 x9_1) == 46)) else (if x3_1 = 3 then (laws_number8.j5 kj13 a0 x3_1 (bt a0 x9_1) x6_5 (a0.size : Int) x9_1 ((bt a0 x9_1) == 46)) else (laws_number8.j5 kj13 a0 x3_1 (bt a0 x9_1) x6_5 (a0.size : Int) x9_1 false))) = some r := by rw [if_neg (show ¬ (false = true) by decide)] at H; exact H
                                  clear H
                                  have H := H1
                                  clear H1
                                  have HC20 := Aside0.mk H
                                  clear H
                                  go_upto_region 14 with (fail)
                                  go_cut [48] (fun v48 wc => ∃ (kq : Nat) (x48_19 : Bool), v48 = .bool x48_19 ∧ Aside0 (laws_number8.j5 kq a0 x3_1 (bt a0 x9_1) x6_5 (a0.size : Int) x9_1 x48_19 = some r) ∧ Aside0 (kq ≤ kj13) ∧ Drawn0 w wc)
                                  case first =>
                                    have H := HC20.out
                                    clear HC20
                                    by_cases c21 : x3_1 = 2
                                    · rw [if_pos c21] at H
                                      have c21b0 : (x3_1 == 2) = true := beq_iff_eq.mpr c21
                                      have c21b1 : (x3_1 != 2) = false := bne_eq_false_iff_eq.mpr c21
                                      clear c21
                                      (first | rw [c21b0] | (simp only [i64_w, i32_w]; rw [c21b0]) | skip)
                                      have H' := Aside0.mk H
                                      clear H
                                      go_wp2
                                      go_meet
                                      case rel => exact ⟨_, (((bt a0 x9_1) == 46)), (by first | rfl | (simp; done) | (simp [*]; done)), H', ⟨by have := HK1.out; have := HJ5.out; have := HJ7.out; have := HJ10.out; have := HJ13.out; first | omega | exact Nat.le_refl _⟩, by repeat (first | exact Drawn0.refl _ | apply Drawn0.step)⟩
                                    · rw [if_neg c21] at H
                                      have c21b0 : (x3_1 == 2) = false := beq_eq_false_iff_ne.mpr c21
                                      have c21b1 : (x3_1 != 2) = true := bne_iff_ne.mpr c21
                                      (first | rw [c21b0] | (simp only [i64_w, i32_w]; rw [c21b0]) | skip)
                                      by_cases c22 : x3_1 = 3
                                      · rw [if_pos c22] at H
                                        have c22b0 : (x3_1 == 3) = true := beq_iff_eq.mpr c22
                                        have c22b1 : (x3_1 != 3) = false := bne_eq_false_iff_eq.mpr c22
                                        clear c22
                                        have H' := Aside0.mk H
                                        clear H
                                        go_wp2
                                        go_meet
                                        case rel => exact ⟨_, (((bt a0 x9_1) == 46)), (by first | rfl | (simp; done) | (simp [*]; done)), H', ⟨by have := HK1.out; have := HJ5.out; have := HJ7.out; have := HJ10.out; have := HJ13.out; first | omega | exact Nat.le_refl _⟩, by repeat (first | exact Drawn0.refl _ | apply Drawn0.step)⟩
                                      · rw [if_neg c22] at H
                                        have c22b0 : (x3_1 == 3) = false := beq_eq_false_iff_ne.mpr c22
                                        have c22b1 : (x3_1 != 3) = true := bne_iff_ne.mpr c22
                                        have H' := Aside0.mk H
                                        clear H
                                        go_wp2
                                        go_meet
                                        case rel => exact ⟨_, (false), (by first | rfl | (simp; done) | (simp [*]; done)), H', ⟨by have := HK1.out; have := HJ5.out; have := HJ7.out; have := HJ10.out; have := HJ13.out; first | omega | exact Nat.le_refl _⟩, by repeat (first | exact Drawn0.refl _ | apply Drawn0.step)⟩
                                  case rest =>
                                    clear HC20
                                    try clear c1
                                    try clear c2
                                    try clear c2b0
                                    try clear p2
                                    try clear c3
                                    try clear c3b0
                                    try clear c4
                                    try clear c4b0
                                    try clear c5
                                    try clear p5
                                    try clear q5
                                    try clear hx5
                                    try clear p6
                                    try clear c7
                                    try clear c7b0
                                    try clear c9
                                    try clear c9b0
                                    try clear c9b1
                                    try clear c10
                                    try clear c12
                                    try clear c12b0
                                    try clear c13
                                    try clear c15
                                    try clear c15b0
                                    try clear c16
                                    try clear c17
                                    try clear c17b0
                                    try clear c17b1
                                    try clear c18
                                    try clear c18b0
                                    try clear c18b1
                                    try clear c19
                                    try clear c21
                                    try clear c21b0
                                    try clear c21b1
                                    try clear c22
                                    try clear c22b0
                                    try clear c22b1
                                    try clear p2
                                    try clear p5
                                    try clear p6
                                    try clear q5
                                    obtain ⟨kq, x48_19, rfl, HA, HJ19, ⟨mc19, rfl⟩⟩ := hcut
                                    cases kq with
                                    | zero => exact absurd HA.out (by simp [laws_number8.j5])
                                    | succ kj19 =>
                                      have H := HA.out
                                      clear HA
                                      simp only [laws_number8.j5] at H
                                      by_cases c23 : x48_19 = true
                                      · subst c23
                                        have H1 : (laws_number8.l0 kj19 a0 4 (a0.size : Int) (wrap64 (x9_1 + 1))) = some r := by rw [if_pos rfl] at H; exact H
                                        clear H
                                        have H := H1
                                        clear H1
                                        have H' := Aside0.mk H
                                        clear H
                                        go_wp2
                                        go_roundg kj19
                                        case measure => have := HK1.out; have := HJ5.out; have := HJ7.out; have := HJ10.out; have := HJ13.out; have := HJ19.out; omega
                                        case rel => exact ⟨(4), (wrap64 (x9_1 + 1)), (by first | rfl | (simp; done) | (simp [*]; done)), (by first | rfl | (simp; done) | (simp [*]; done)), H', ⟨by have := HK1.out; have := HJ5.out; have := HJ7.out; have := HJ10.out; have := HJ13.out; have := HJ19.out; omega⟩, by repeat (first | exact Drawn0.refl _ | apply Drawn0.step)⟩
                                      · replace c23 := Bool.eq_false_iff.mpr c23
                                        subst c23
                                        have H1 : (if x3_1 = 4 then (laws_number8.j6 kj19 a0 x3_1 (bt a0 x9_1) x6_5 (a0.size : Int) x9_1 x6_5) else (if x3_1 = 5 then (laws_number8.j6 kj19 a0 x3_1 (bt a0 x9_1) x6_5 (a0.size : Int) x9_1 x6_5) else (laws_number8.j6 kj19 a0 x3_1 (bt a0 x9_1) x6_5 (a0.size : Int) x9_1 false))) = some r := by rw [if_neg (show ¬ (false = true) by decide)] at H; exact H
                                        clear H
                                        have H := H1
                                        clear H1
                                        have HC24 := Aside0.mk H
                                        clear H
                                        go_upto_region 16 with (fail)
                                        go_cut [59] (fun v59 wc => ∃ (kq : Nat) (x59_23 : Bool), v59 = .bool x59_23 ∧ Aside0 (laws_number8.j6 kq a0 x3_1 (bt a0 x9_1) x6_5 (a0.size : Int) x9_1 x59_23 = some r) ∧ Aside0 (kq ≤ kj19) ∧ Drawn0 w wc)
                                        case first =>
                                          have H := HC24.out
                                          clear HC24
                                          by_cases c25 : x3_1 = 4
                                          · rw [if_pos c25] at H
                                            have c25b0 : (x3_1 == 4) = true := beq_iff_eq.mpr c25
                                            have c25b1 : (x3_1 != 4) = false := bne_eq_false_iff_eq.mpr c25
                                            clear c25
                                            (first | rw [c25b0] | (simp only [i64_w, i32_w]; rw [c25b0]) | skip)
                                            have H' := Aside0.mk H
                                            clear H
                                            go_wp2
                                            go_meet
                                            case rel => exact ⟨_, (x6_5), (by first | rfl | (simp; done) | (simp [*]; done)), H', ⟨by have := HK1.out; have := HJ5.out; have := HJ7.out; have := HJ10.out; have := HJ13.out; have := HJ19.out; first | omega | exact Nat.le_refl _⟩, by repeat (first | exact Drawn0.refl _ | apply Drawn0.step)⟩
                                          · rw [if_neg c25] at H
                                            have c25b0 : (x3_1 == 4) = false := beq_eq_false_iff_ne.mpr c25
                                            have c25b1 : (x3_1 != 4) = true := bne_iff_ne.mpr c25
                                            (first | rw [c25b0] | (simp only [i64_w, i32_w]; rw [c25b0]) | skip)
                                            by_cases c26 : x3_1 = 5
                                            · rw [if_pos c26] at H
                                              have c26b0 : (x3_1 == 5) = true := beq_iff_eq.mpr c26
                                              have c26b1 : (x3_1 != 5) = false := bne_eq_false_iff_eq.mpr c26
                                              clear c26
                                              have H' := Aside0.mk H
                                              clear H
                                              go_wp2
                                              go_meet
                                              case rel => exact ⟨_, (x6_5), (by first | rfl | (simp; done) | (simp [*]; done)), H', ⟨by have := HK1.out; have := HJ5.out; have := HJ7.out; have := HJ10.out; have := HJ13.out; have := HJ19.out; first | omega | exact Nat.le_refl _⟩, by repeat (first | exact Drawn0.refl _ | apply Drawn0.step)⟩
                                            · rw [if_neg c26] at H
                                              have c26b0 : (x3_1 == 5) = false := beq_eq_false_iff_ne.mpr c26
                                              have c26b1 : (x3_1 != 5) = true := bne_iff_ne.mpr c26
                                              have H' := Aside0.mk H
                                              clear H
                                              go_wp2
                                              go_meet
                                              case rel => exact ⟨_, (false), (by first | rfl | (simp; done) | (simp [*]; done)), H', ⟨by have := HK1.out; have := HJ5.out; have := HJ7.out; have := HJ10.out; have := HJ13.out; have := HJ19.out; first | omega | exact Nat.le_refl _⟩, by repeat (first | exact Drawn0.refl _ | apply Drawn0.step)⟩
                                        case rest =>
                                          clear HC24
                                          try clear c1
                                          try clear c2
                                          try clear c2b0
                                          try clear p2
                                          try clear c3
                                          try clear c3b0
                                          try clear c4
                                          try clear c4b0
                                          try clear c5
                                          try clear p5
                                          try clear q5
                                          try clear hx5
                                          try clear p6
                                          try clear c7
                                          try clear c7b0
                                          try clear c9
                                          try clear c9b0
                                          try clear c9b1
                                          try clear c10
                                          try clear c12
                                          try clear c12b0
                                          try clear c13
                                          try clear c15
                                          try clear c15b0
                                          try clear c16
                                          try clear c17
                                          try clear c17b0
                                          try clear c17b1
                                          try clear c18
                                          try clear c18b0
                                          try clear c18b1
                                          try clear c19
                                          try clear c21
                                          try clear c21b0
                                          try clear c21b1
                                          try clear c22
                                          try clear c22b0
                                          try clear c22b1
                                          try clear c23
                                          try clear c25
                                          try clear c25b0
                                          try clear c25b1
                                          try clear c26
                                          try clear c26b0
                                          try clear c26b1
                                          try clear p2
                                          try clear p5
                                          try clear p6
                                          try clear q5
                                          obtain ⟨kq, x59_23, rfl, HA, HJ23, ⟨mc23, rfl⟩⟩ := hcut
                                          cases kq with
                                          | zero => exact absurd HA.out (by simp [laws_number8.j6])
                                          | succ kj23 =>
                                            have H := HA.out
                                            clear HA
                                            simp only [laws_number8.j6] at H
                                            by_cases c27 : x59_23 = true
                                            · subst c27
                                              have H1 : (laws_number8.l0 kj23 a0 5 (a0.size : Int) (wrap64 (x9_1 + 1))) = some r := by rw [if_pos rfl] at H; exact H
                                              clear H
                                              have H := H1
                                              clear H1
                                              have H' := Aside0.mk H
                                              clear H
                                              go_wp2
                                              go_roundg kj23
                                              case measure => have := HK1.out; have := HJ5.out; have := HJ7.out; have := HJ10.out; have := HJ13.out; have := HJ19.out; have := HJ23.out; omega
                                              case rel => exact ⟨(5), (wrap64 (x9_1 + 1)), (by first | rfl | (simp; done) | (simp [*]; done)), (by first | rfl | (simp; done) | (simp [*]; done)), H', ⟨by have := HK1.out; have := HJ5.out; have := HJ7.out; have := HJ10.out; have := HJ13.out; have := HJ19.out; have := HJ23.out; omega⟩, by repeat (first | exact Drawn0.refl _ | apply Drawn0.step)⟩
                                            · replace c27 := Bool.eq_false_iff.mpr c27
                                              subst c27
                                              have H1 : (if x3_1 = 2 then (if (bt a0 x9_1) = 101 then (laws_number8.j7 kj23 a0 x3_1 (bt a0 x9_1) x6_5 (a0.size : Int) x9_1 true) else (laws_number8.j7 kj23 a0 x3_1 (bt a0 x9_1) x6_5 (a0.size : Int) x9_1 ((bt a0 x9_1) == 69))) else (if x3_1 = 3 then (if (bt a0 x9_1) = 101 then (laws_number8.j7 kj23 a0 x3_1 (bt a0 x9_1) x6_5 (a0.size : Int) x9_1 true) else (laws_number8.j7 kj23 a0 x3_1 (bt a0 x9_1) x6_5 (a0.size : Int) x9_1 ((bt a0 x9_1) == 69))) else (if x3_1 = 5 then (if (bt a0 x9_1) = 101 then (laws_number8.j7 kj23 a0 x3_1 (bt a0 x9_1) x6_5 (a0.size : Int) x9_1 true) else (laws_number8.j7 kj23 a0 x3_1 (bt a0 x9_1) x6_5 (a0.size : Int) x9_1 ((bt a0 x9_1) == 69))) else (laws_number8.j7 kj23 a0 x3_1 (bt a0 x9_1) x6_5 (a0.size : Int) x9_1 false)))) = some r := by rw [if_neg (show ¬ (false = true) by decide)] at H; exact H
                                              clear H
                                              have H := H1
                                              clear H1
                                              have HC28 := Aside0.mk H
                                              clear H
                                              go_upto_region 18 with (fail)
                                              go_cut [69] (fun v69 wc => ∃ (kq : Nat) (x69_27 : Bool), v69 = .bool x69_27 ∧ Aside0 (laws_number8.j7 kq a0 x3_1 (bt a0 x9_1) x6_5 (a0.size : Int) x9_1 x69_27 = some r) ∧ Aside0 (kq ≤ kj23) ∧ Drawn0 w wc)
                                              case first =>
                                                have H := HC28.out
                                                clear HC28
                                                by_cases c29 : x3_1 = 2
                                                · rw [if_pos c29] at H
                                                  have c29b0 : (x3_1 == 2) = true := beq_iff_eq.mpr c29
                                                  have c29b1 : (x3_1 != 2) = false := bne_eq_false_iff_eq.mpr c29
                                                  clear c29
                                                  (first | rw [c29b0] | (simp only [i64_w, i32_w]; rw [c29b0]) | skip)
                                                  by_cases c30 : (bt a0 x9_1) = 101
                                                  · rw [if_pos c30] at H
                                                    have c30b0 : ((bt a0 x9_1) == 101) = true := beq_iff_eq.mpr c30
                                                    have c30b1 : ((bt a0 x9_1) != 101) = false := bne_eq_false_iff_eq.mpr c30
                                                    clear c30
                                                    have H' := Aside0.mk H
                                                    clear H
                                                    go_wp2
                                                    go_meet
                                                    case rel => exact ⟨_, (true), (by first | rfl | (simp; done) | (simp [*]; done)), H', ⟨by have := HK1.out; have := HJ5.out; have := HJ7.out; have := HJ10.out; have := HJ13.out; have := HJ19.out; have := HJ23.out; first | omega | exact Nat.le_refl _⟩, by repeat (first | exact Drawn0.refl _ | apply Drawn0.step)⟩
                                                  · rw [if_neg c30] at H
                                                    have c30b0 : ((bt a0 x9_1) == 101) = false := beq_eq_false_iff_ne.mpr c30
                                                    have c30b1 : ((bt a0 x9_1) != 101) = true := bne_iff_ne.mpr c30
                                                    have H' := Aside0.mk H
                                                    clear H
                                                    go_wp2
                                                    go_meet
                                                    case rel => exact ⟨_, (((bt a0 x9_1) == 69)), (by first | rfl | (simp; done) | (simp [*]; done)), H', ⟨by have := HK1.out; have := HJ5.out; have := HJ7.out; have := HJ10.out; have := HJ13.out; have := HJ19.out; have := HJ23.out; first | omega | exact Nat.le_refl _⟩, by repeat (first | exact Drawn0.refl _ | apply Drawn0.step)⟩
                                                · rw [if_neg c29] at H
                                                  have c29b0 : (x3_1 == 2) = false := beq_eq_false_iff_ne.mpr c29
                                                  have c29b1 : (x3_1 != 2) = true := bne_iff_ne.mpr c29
                                                  (first | rw [c29b0] | (simp only [i64_w, i32_w]; rw [c29b0]) | skip)
                                                  by_cases c31 : x3_1 = 3
                                                  · rw [if_pos c31] at H
                                                    have c31b0 : (x3_1 == 3) = true := beq_iff_eq.mpr c31
                                                    have c31b1 : (x3_1 != 3) = false := bne_eq_false_iff_eq.mpr c31
                                                    clear c31
                                                    by_cases c32 : (bt a0 x9_1) = 101
                                                    · rw [if_pos c32] at H
                                                      have c32b0 : ((bt a0 x9_1) == 101) = true := beq_iff_eq.mpr c32
                                                      have c32b1 : ((bt a0 x9_1) != 101) = false := bne_eq_false_iff_eq.mpr c32
                                                      clear c32
                                                      have H' := Aside0.mk H
                                                      clear H
                                                      go_wp2
                                                      go_meet
                                                      case rel => exact ⟨_, (true), (by first | rfl | (simp; done) | (simp [*]; done)), H', ⟨by have := HK1.out; have := HJ5.out; have := HJ7.out; have := HJ10.out; have := HJ13.out; have := HJ19.out; have := HJ23.out; first | omega | exact Nat.le_refl _⟩, by repeat (first | exact Drawn0.refl _ | apply Drawn0.step)⟩
                                                    · rw [if_neg c32] at H
                                                      have c32b0 : ((bt a0 x9_1) == 101) = false := beq_eq_false_iff_ne.mpr c32
                                                      have c32b1 : ((bt a0 x9_1) != 101) = true := bne_iff_ne.mpr c32
                                                      have H' := Aside0.mk H
                                                      clear H
                                                      go_wp2
                                                      go_meet
                                                      case rel => exact ⟨_, (((bt a0 x9_1) == 69)), (by first | rfl | (simp; done) | (simp [*]; done)), H', ⟨by have := HK1.out; have := HJ5.out; have := HJ7.out; have := HJ10.out; have := HJ13.out; have := HJ19.out; have := HJ23.out; first | omega | exact Nat.le_refl _⟩, by repeat (first | exact Drawn0.refl _ | apply Drawn0.step)⟩
                                                  · rw [if_neg c31] at H
                                                    have c31b0 : (x3_1 == 3) = false := beq_eq_false_iff_ne.mpr c31
                                                    have c31b1 : (x3_1 != 3) = true := bne_iff_ne.mpr c31
                                                    by_cases c33 : x3_1 = 5
                                                    · rw [if_pos c33] at H
                                                      have c33b0 : (x3_1 == 5) = true := beq_iff_eq.mpr c33
                                                      have c33b1 : (x3_1 != 5) = false := bne_eq_false_iff_eq.mpr c33
                                                      clear c33
                                                      by_cases c34 : (bt a0 x9_1) = 101
                                                      · rw [if_pos c34] at H
                                                        have c34b0 : ((bt a0 x9_1) == 101) = true := beq_iff_eq.mpr c34
                                                        have c34b1 : ((bt a0 x9_1) != 101) = false := bne_eq_false_iff_eq.mpr c34
                                                        clear c34
                                                        have H' := Aside0.mk H
                                                        clear H
                                                        go_wp2
                                                        go_meet
                                                        case rel => exact ⟨_, (true), (by first | rfl | (simp; done) | (simp [*]; done)), H', ⟨by have := HK1.out; have := HJ5.out; have := HJ7.out; have := HJ10.out; have := HJ13.out; have := HJ19.out; have := HJ23.out; first | omega | exact Nat.le_refl _⟩, by repeat (first | exact Drawn0.refl _ | apply Drawn0.step)⟩
                                                      · rw [if_neg c34] at H
                                                        have c34b0 : ((bt a0 x9_1) == 101) = false := beq_eq_false_iff_ne.mpr c34
                                                        have c34b1 : ((bt a0 x9_1) != 101) = true := bne_iff_ne.mpr c34
                                                        have H' := Aside0.mk H
                                                        clear H
                                                        go_wp2
                                                        go_meet
                                                        case rel => exact ⟨_, (((bt a0 x9_1) == 69)), (by first | rfl | (simp; done) | (simp [*]; done)), H', ⟨by have := HK1.out; have := HJ5.out; have := HJ7.out; have := HJ10.out; have := HJ13.out; have := HJ19.out; have := HJ23.out; first | omega | exact Nat.le_refl _⟩, by repeat (first | exact Drawn0.refl _ | apply Drawn0.step)⟩
                                                    · rw [if_neg c33] at H
                                                      have c33b0 : (x3_1 == 5) = false := beq_eq_false_iff_ne.mpr c33
                                                      have c33b1 : (x3_1 != 5) = true := bne_iff_ne.mpr c33
                                                      have H' := Aside0.mk H
                                                      clear H
                                                      go_wp2
                                                      go_meet
                                                      case rel => exact ⟨_, (false), (by first | rfl | (simp; done) | (simp [*]; done)), H', ⟨by have := HK1.out; have := HJ5.out; have := HJ7.out; have := HJ10.out; have := HJ13.out; have := HJ19.out; have := HJ23.out; first | omega | exact Nat.le_refl _⟩, by repeat (first | exact Drawn0.refl _ | apply Drawn0.step)⟩
                                              case rest =>
                                                clear HC28
                                                try clear c1
                                                try clear c2
                                                try clear c2b0
                                                try clear p2
                                                try clear c3
                                                try clear c3b0
                                                try clear c4
                                                try clear c4b0
                                                try clear c5
                                                try clear p5
                                                try clear q5
                                                try clear hx5
                                                try clear p6
                                                try clear c7
                                                try clear c7b0
                                                try clear c9
                                                try clear c9b0
                                                try clear c9b1
                                                try clear c10
                                                try clear c12
                                                try clear c12b0
                                                try clear c13
                                                try clear c15
                                                try clear c15b0
                                                try clear c16
                                                try clear c17
                                                try clear c17b0
                                                try clear c17b1
                                                try clear c18
                                                try clear c18b0
                                                try clear c18b1
                                                try clear c19
                                                try clear c21
                                                try clear c21b0
                                                try clear c21b1
                                                try clear c22
                                                try clear c22b0
                                                try clear c22b1
                                                try clear c23
                                                try clear c25
                                                try clear c25b0
                                                try clear c25b1
                                                try clear c26
                                                try clear c26b0
                                                try clear c26b1
                                                try clear c27
                                                try clear c29
                                                try clear c29b0
                                                try clear c29b1
                                                try clear c30
                                                try clear c30b0
                                                try clear c30b1
                                                try clear c31
                                                try clear c31b0
                                                try clear c31b1
                                                try clear c32
                                                try clear c32b0
                                                try clear c32b1
                                                try clear c33
                                                try clear c33b0
                                                try clear c33b1
                                                try clear c34
                                                try clear c34b0
                                                try clear c34b1
                                                try clear p2
                                                try clear p5
                                                try clear p6
                                                try clear q5
                                                obtain ⟨kq, x69_27, rfl, HA, HJ27, ⟨mc27, rfl⟩⟩ := hcut
                                                cases kq with
                                                | zero => exact absurd HA.out (by simp [laws_number8.j7])
                                                | succ kj27 =>
                                                  have H := HA.out
                                                  clear HA
                                                  simp only [laws_number8.j7] at H
                                                  by_cases c35 : x69_27 = true
                                                  · subst c35
                                                    have H1 : (laws_number8.l0 kj27 a0 6 (a0.size : Int) (wrap64 (x9_1 + 1))) = some r := by rw [if_pos rfl] at H; exact H
                                                    clear H
                                                    have H := H1
                                                    clear H1
                                                    have H' := Aside0.mk H
                                                    clear H
                                                    go_wp2
                                                    go_roundg kj27
                                                    case measure => have := HK1.out; have := HJ5.out; have := HJ7.out; have := HJ10.out; have := HJ13.out; have := HJ19.out; have := HJ23.out; have := HJ27.out; omega
                                                    case rel => exact ⟨(6), (wrap64 (x9_1 + 1)), (by first | rfl | (simp; done) | (simp [*]; done)), (by first | rfl | (simp; done) | (simp [*]; done)), H', ⟨by have := HK1.out; have := HJ5.out; have := HJ7.out; have := HJ10.out; have := HJ13.out; have := HJ19.out; have := HJ23.out; have := HJ27.out; omega⟩, by repeat (first | exact Drawn0.refl _ | apply Drawn0.step)⟩
                                                  · replace c35 := Bool.eq_false_iff.mpr c35
                                                    subst c35
                                                    have H1 : (if x3_1 = 6 then (if (bt a0 x9_1) = 43 then (laws_number8.j8 kj27 a0 x3_1 x6_5 (a0.size : Int) x9_1 true) else (laws_number8.j8 kj27 a0 x3_1 x6_5 (a0.size : Int) x9_1 ((bt a0 x9_1) == 45))) else (laws_number8.j8 kj27 a0 x3_1 x6_5 (a0.size : Int) x9_1 false)) = some r := by rw [if_neg (show ¬ (false = true) by decide)] at H; exact H
                                                    clear H
                                                    have H := H1
                                                    clear H1
                                                    have HC36 := Aside0.mk H
                                                    clear H
                                                    go_upto_region 20 with (fail)
                                                    go_cut [88] (fun v88 wc => ∃ (kq : Nat) (x88_35 : Bool), v88 = .bool x88_35 ∧ Aside0 (laws_number8.j8 kq a0 x3_1 x6_5 (a0.size : Int) x9_1 x88_35 = some r) ∧ Aside0 (kq ≤ kj27) ∧ Drawn0 w wc)
                                                    case first =>
                                                      have H := HC36.out
                                                      clear HC36
                                                      by_cases c37 : x3_1 = 6
                                                      · rw [if_pos c37] at H
                                                        have c37b0 : (x3_1 == 6) = true := beq_iff_eq.mpr c37
                                                        have c37b1 : (x3_1 != 6) = false := bne_eq_false_iff_eq.mpr c37
                                                        clear c37
                                                        (first | rw [c37b0] | (simp only [i64_w, i32_w]; rw [c37b0]) | skip)
                                                        by_cases c38 : (bt a0 x9_1) = 43
                                                        · rw [if_pos c38] at H
                                                          have c38b0 : ((bt a0 x9_1) == 43) = true := beq_iff_eq.mpr c38
                                                          have c38b1 : ((bt a0 x9_1) != 43) = false := bne_eq_false_iff_eq.mpr c38
                                                          clear c38
                                                          have H' := Aside0.mk H
                                                          clear H
                                                          go_wp2
                                                          go_meet
                                                          case rel => exact ⟨_, (true), (by first | rfl | (simp; done) | (simp [*]; done)), H', ⟨by have := HK1.out; have := HJ5.out; have := HJ7.out; have := HJ10.out; have := HJ13.out; have := HJ19.out; have := HJ23.out; have := HJ27.out; first | omega | exact Nat.le_refl _⟩, by repeat (first | exact Drawn0.refl _ | apply Drawn0.step)⟩
                                                        · rw [if_neg c38] at H
                                                          have c38b0 : ((bt a0 x9_1) == 43) = false := beq_eq_false_iff_ne.mpr c38
                                                          have c38b1 : ((bt a0 x9_1) != 43) = true := bne_iff_ne.mpr c38
                                                          have H' := Aside0.mk H
                                                          clear H
                                                          go_wp2
                                                          go_meet
                                                          case rel => exact ⟨_, (((bt a0 x9_1) == 45)), (by first | rfl | (simp; done) | (simp [*]; done)), H', ⟨by have := HK1.out; have := HJ5.out; have := HJ7.out; have := HJ10.out; have := HJ13.out; have := HJ19.out; have := HJ23.out; have := HJ27.out; first | omega | exact Nat.le_refl _⟩, by repeat (first | exact Drawn0.refl _ | apply Drawn0.step)⟩
                                                      · rw [if_neg c37] at H
                                                        have c37b0 : (x3_1 == 6) = false := beq_eq_false_iff_ne.mpr c37
                                                        have c37b1 : (x3_1 != 6) = true := bne_iff_ne.mpr c37
                                                        (first | rw [c37b0] | (simp only [i64_w, i32_w]; rw [c37b0]) | skip)
                                                        have H' := Aside0.mk H
                                                        clear H
                                                        go_wp2
                                                        go_meet
                                                        case rel => exact ⟨_, (false), (by first | rfl | (simp; done) | (simp [*]; done)), H', ⟨by have := HK1.out; have := HJ5.out; have := HJ7.out; have := HJ10.out; have := HJ13.out; have := HJ19.out; have := HJ23.out; have := HJ27.out; first | omega | exact Nat.le_refl _⟩, by repeat (first | exact Drawn0.refl _ | apply Drawn0.step)⟩
                                                    case rest =>
                                                      clear HC36
                                                      try clear c1
                                                      try clear c2
                                                      try clear c2b0
                                                      try clear p2
                                                      try clear c3
                                                      try clear c3b0
                                                      try clear c4
                                                      try clear c4b0
                                                      try clear c5
                                                      try clear p5
                                                      try clear q5
                                                      try clear hx5
                                                      try clear p6
                                                      try clear c7
                                                      try clear c7b0
                                                      try clear c9
                                                      try clear c9b0
                                                      try clear c9b1
                                                      try clear c10
                                                      try clear c12
                                                      try clear c12b0
                                                      try clear c13
                                                      try clear c15
                                                      try clear c15b0
                                                      try clear c16
                                                      try clear c17
                                                      try clear c17b0
                                                      try clear c17b1
                                                      try clear c18
                                                      try clear c18b0
                                                      try clear c18b1
                                                      try clear c19
                                                      try clear c21
                                                      try clear c21b0
                                                      try clear c21b1
                                                      try clear c22
                                                      try clear c22b0
                                                      try clear c22b1
                                                      try clear c23
                                                      try clear c25
                                                      try clear c25b0
                                                      try clear c25b1
                                                      try clear c26
                                                      try clear c26b0
                                                      try clear c26b1
                                                      try clear c27
                                                      try clear c29
                                                      try clear c29b0
                                                      try clear c29b1
                                                      try clear c30
                                                      try clear c30b0
                                                      try clear c30b1
                                                      try clear c31
                                                      try clear c31b0
                                                      try clear c31b1
                                                      try clear c32
                                                      try clear c32b0
                                                      try clear c32b1
                                                      try clear c33
                                                      try clear c33b0
                                                      try clear c33b1
                                                      try clear c34
                                                      try clear c34b0
                                                      try clear c34b1
                                                      try clear c35
                                                      try clear c37
                                                      try clear c37b0
                                                      try clear c37b1
                                                      try clear c38
                                                      try clear c38b0
                                                      try clear c38b1
                                                      try clear p2
                                                      try clear p5
                                                      try clear p6
                                                      try clear q5
                                                      obtain ⟨kq, x88_35, rfl, HA, HJ35, ⟨mc35, rfl⟩⟩ := hcut
                                                      cases kq with
                                                      | zero => exact absurd HA.out (by simp [laws_number8.j8])
                                                      | succ kj35 =>
                                                        have H := HA.out
                                                        clear HA
                                                        simp only [laws_number8.j8] at H
                                                        by_cases c39 : x88_35 = true
                                                        · subst c39
                                                          have H1 : (laws_number8.l0 kj35 a0 7 (a0.size : Int) (wrap64 (x9_1 + 1))) = some r := by rw [if_pos rfl] at H; exact H
                                                          clear H
                                                          have H := H1
                                                          clear H1
                                                          have H' := Aside0.mk H
                                                          clear H
                                                          go_wp2
                                                          go_roundg kj35
                                                          case measure => have := HK1.out; have := HJ5.out; have := HJ7.out; have := HJ10.out; have := HJ13.out; have := HJ19.out; have := HJ23.out; have := HJ27.out; have := HJ35.out; omega
                                                          case rel => exact ⟨(7), (wrap64 (x9_1 + 1)), (by first | rfl | (simp; done) | (simp [*]; done)), (by first | rfl | (simp; done) | (simp [*]; done)), H', ⟨by have := HK1.out; have := HJ5.out; have := HJ7.out; have := HJ10.out; have := HJ13.out; have := HJ19.out; have := HJ23.out; have := HJ27.out; have := HJ35.out; omega⟩, by repeat (first | exact Drawn0.refl _ | apply Drawn0.step)⟩
                                                        · replace c39 := Bool.eq_false_iff.mpr c39
                                                          subst c39
                                                          have H1 : (if x3_1 ≥ 6 then (if x6_5 = true then (laws_number8.l0 kj35 a0 8 (a0.size : Int) (wrap64 (x9_1 + 1))) else (some false)) else (some false)) = some r := by rw [if_neg (show ¬ (false = true) by decide)] at H; exact H
                                                          clear H
                                                          have H := H1
                                                          clear H1
                                                          by_cases c40 : x3_1 ≥ 6
                                                          · rw [if_pos c40] at H
                                                            have c40b0 : decide (6 ≤ x3_1) = true := decide_eq_true c40
                                                            clear c40
                                                            by_cases c41 : x6_5 = true
                                                            · subst c41
                                                              have H1 : (laws_number8.l0 kj35 a0 8 (a0.size : Int) (wrap64 (x9_1 + 1))) = some r := by rw [if_pos rfl] at H; exact H
                                                              clear H
                                                              have H := H1
                                                              clear H1
                                                              have H' := Aside0.mk H
                                                              clear H
                                                              go_wp2
                                                              go_roundg kj35
                                                              case measure => have := HK1.out; have := HJ5.out; have := HJ7.out; have := HJ10.out; have := HJ13.out; have := HJ19.out; have := HJ23.out; have := HJ27.out; have := HJ35.out; omega
                                                              case rel => exact ⟨(8), (wrap64 (x9_1 + 1)), (by first | rfl | (simp; done) | (simp [*]; done)), (by first | rfl | (simp; done) | (simp [*]; done)), H', ⟨by have := HK1.out; have := HJ5.out; have := HJ7.out; have := HJ10.out; have := HJ13.out; have := HJ19.out; have := HJ23.out; have := HJ27.out; have := HJ35.out; omega⟩, by repeat (first | exact Drawn0.refl _ | apply Drawn0.step)⟩
                                                            · replace c41 := Bool.eq_false_iff.mpr c41
                                                              subst c41
                                                              have H1 : (some false) = some r := by rw [if_neg (show ¬ (false = true) by decide)] at H; exact H
                                                              clear H
                                                              have H := H1
                                                              clear H1
                                                              obtain rfl := Option.some.inj H
                                                              go_wp2
                                                              go_ret
                                                              exact ⟨by first | rfl | (simp; done) | (simp [*]; done), by repeat (first | exact Drawn0.refl _ | apply Drawn0.step)⟩
                                                          · rw [if_neg c40] at H
                                                            have c40b0 : decide (6 ≤ x3_1) = false := decide_eq_false c40
                                                            clear c40
                                                            obtain rfl := Option.some.inj H
                                                            go_wp2
                                                            go_ret
                                                            exact ⟨by first | rfl | (simp; done) | (simp [*]; done), by repeat (first | exact Drawn0.refl _ | apply Drawn0.step)⟩
          · rw [if_neg c4] at H
            exact absurd H (by simp)
        · rw [if_neg c3] at H
          exact absurd H (by simp)
      · rw [if_neg c2] at H
        have c2b0 : decide (x9_1 < (a0.size : Int)) = false := decide_eq_false c2
        clear c2
        by_cases c42 : x3_1 = 2
        · rw [if_pos c42] at H
          have c42b0 : (x3_1 == 2) = true := beq_iff_eq.mpr c42
          have c42b1 : (x3_1 != 2) = false := bne_eq_false_iff_eq.mpr c42
          clear c42
          obtain rfl := Option.some.inj H
          go_wp2
          go_ret
          exact ⟨by first | rfl | (simp; done) | (simp [*]; done), by repeat (first | exact Drawn0.refl _ | apply Drawn0.step)⟩
        · rw [if_neg c42] at H
          have c42b0 : (x3_1 == 2) = false := beq_eq_false_iff_ne.mpr c42
          have c42b1 : (x3_1 != 2) = true := bne_iff_ne.mpr c42
          by_cases c43 : x3_1 = 3
          · rw [if_pos c43] at H
            have c43b0 : (x3_1 == 3) = true := beq_iff_eq.mpr c43
            have c43b1 : (x3_1 != 3) = false := bne_eq_false_iff_eq.mpr c43
            clear c43
            obtain rfl := Option.some.inj H
            go_wp2
            go_ret
            exact ⟨by first | rfl | (simp; done) | (simp [*]; done), by repeat (first | exact Drawn0.refl _ | apply Drawn0.step)⟩
          · rw [if_neg c43] at H
            have c43b0 : (x3_1 == 3) = false := beq_eq_false_iff_ne.mpr c43
            have c43b1 : (x3_1 != 3) = true := bne_iff_ne.mpr c43
            by_cases c44 : x3_1 = 5
            · rw [if_pos c44] at H
              have c44b0 : (x3_1 == 5) = true := beq_iff_eq.mpr c44
              have c44b1 : (x3_1 != 5) = false := bne_eq_false_iff_eq.mpr c44
              clear c44
              obtain rfl := Option.some.inj H
              go_wp2
              go_ret
              exact ⟨by first | rfl | (simp; done) | (simp [*]; done), by repeat (first | exact Drawn0.refl _ | apply Drawn0.step)⟩
            · rw [if_neg c44] at H
              have c44b0 : (x3_1 == 5) = false := beq_eq_false_iff_ne.mpr c44
              have c44b1 : (x3_1 != 5) = true := bne_iff_ne.mpr c44
              obtain rfl := Option.some.inj H
              go_wp2
              go_ret
              exact ⟨by first | rfl | (simp; done) | (simp [*]; done), by repeat (first | exact Drawn0.refl _ | apply Drawn0.step)⟩

end Go.Proofs.YtjfbkgkpjkickaaGreatDoor.PAll
