/- The texts of a proof, its declarations alone: part 8. -/
import Derived.LaidEql
import Derived.Laws.Runes
import Derived.Test.YtjfbkgkpjkickaaGreatDoorVU2
import Derived.Test.YtjfbkgkpjkickaaGreatDoorVU6
import Derived.Test.YtjfbkgkpjkickaaGreatDoorVU7
set_option linter.unusedVariables false
set_option linter.unusedSimpArgs false
-- YtjfbkgkpjkickaaGreatDoorPAllx7
namespace Go.Proofs.YtjfbkgkpjkickaaGreatDoor.PAll
open Go.RowKit Go.Proofs.YtjfbkgkpjkickaaGreatDoorW.PrintWords Go.Proofs.YtjfbkgkpjkickaaGreatDoorW.PrintLast Go.Proofs.YtjfbkgkpjkickaaGreatDoorW.PrintMore
attribute [local go_sem] max2_int min2_int max_two min_two max_three min_three max_four min_four   -- for this text's walks alone
set_option linter.unusedVariables false
set_option linter.unusedSimpArgs false

mutual
def jsontext_internal_jsonwire_parseHexUint16.l0 : Nat → List Int → Int → Int → Option (Int × Bool)
  | 0, _, _, _ => none
  | k + 1, x0, x2, x9 => if x9 < 4 then (if 0 ≤ x9 then (if x9 < (x0.length : Int) then (if 48 ≤ (rd x0 x9) then (jsontext_internal_jsonwire_parseHexUint16.j1 k x0 x2 (rd x0 x9) x9 (decide ((rd x0 x9) ≤ 57))) else (jsontext_internal_jsonwire_parseHexUint16.j1 k x0 x2 (rd x0 x9) x9 false)) else (none)) else (none)) else (some (x2, true))
def jsontext_internal_jsonwire_parseHexUint16.j1 : Nat → List Int → Int → Int → Int → Bool → Option (Int × Bool)
  | 0, _, _, _, _, _ => none
  | k + 1, x0, x2, x5, x9, x16 => if x16 = true then (jsontext_internal_jsonwire_parseHexUint16.l0 k x0 (IntKind.u16.wrap ((IntKind.u16.wrap (x2 * 16)) + ((x5 - 48) % 256))) (wrap64 (x9 + 1))) else (if 97 ≤ x5 then (jsontext_internal_jsonwire_parseHexUint16.j2 k x0 x2 x5 x9 (decide (x5 ≤ 102))) else (jsontext_internal_jsonwire_parseHexUint16.j2 k x0 x2 x5 x9 false))
def jsontext_internal_jsonwire_parseHexUint16.j2 : Nat → List Int → Int → Int → Int → Bool → Option (Int × Bool)
  | 0, _, _, _, _, _ => none
  | k + 1, x0, x2, x5, x9, x25 => if x25 = true then (jsontext_internal_jsonwire_parseHexUint16.l0 k x0 (IntKind.u16.wrap ((IntKind.u16.wrap (x2 * 16)) + ((((10 + x5) % 256) - 97) % 256))) (wrap64 (x9 + 1))) else (if 65 ≤ x5 then (if x5 ≤ 70 then (jsontext_internal_jsonwire_parseHexUint16.l0 k x0 (IntKind.u16.wrap ((IntKind.u16.wrap (x2 * 16)) + ((((10 + x5) % 256) - 65) % 256))) (wrap64 (x9 + 1))) else (some (0, false))) else (some (0, false)))
end
def jsontext_internal_jsonwire_parseHexUint16.f (k : Nat) (l0 : List Int) : Option (Int × Bool) := if (l0.length : Int) = 4 then (jsontext_internal_jsonwire_parseHexUint16.l0 k l0 0 0) else (some (0, false))
theorem jsontext_internal_jsonwire_parseHexUint16.mono_l : ∀ k, (∀ y0 y1 y2, LeO (jsontext_internal_jsonwire_parseHexUint16.l0 k y0 y1 y2) (jsontext_internal_jsonwire_parseHexUint16.l0 (k + 1) y0 y1 y2)) ∧ (∀ y0 y1 y2 y3 y4, LeO (jsontext_internal_jsonwire_parseHexUint16.j1 k y0 y1 y2 y3 y4) (jsontext_internal_jsonwire_parseHexUint16.j1 (k + 1) y0 y1 y2 y3 y4)) ∧ (∀ y0 y1 y2 y3 y4, LeO (jsontext_internal_jsonwire_parseHexUint16.j2 k y0 y1 y2 y3 y4) (jsontext_internal_jsonwire_parseHexUint16.j2 (k + 1) y0 y1 y2 y3 y4))
  | 0 => ⟨fun _ _ _ r h => by simp [jsontext_internal_jsonwire_parseHexUint16.l0] at h, fun _ _ _ _ _ r h => by simp [jsontext_internal_jsonwire_parseHexUint16.j1] at h, fun _ _ _ _ _ r h => by simp [jsontext_internal_jsonwire_parseHexUint16.j2] at h⟩
  | k + 1 => by
    obtain ⟨ih0, ih1, ih2⟩ := jsontext_internal_jsonwire_parseHexUint16.mono_l k
    refine ⟨?_, ?_, ?_⟩
    · intro y0 y1 y2
      unfold jsontext_internal_jsonwire_parseHexUint16.l0
      repeat' first
      | (with_reducible exact ih0 _ _ _)
      | (with_reducible exact ih1 _ _ _ _ _)
      | (with_reducible exact ih2 _ _ _ _ _)
      | (with_reducible exact LeO.refl _)
      | (with_reducible exact LeO.none _)
      | (with_reducible refine LeO.ite ?_ ?_)
      | (with_reducible refine LeO.bind ?_ (fun _ => ?_))
      | exact ih0 _ _ _
      | exact ih1 _ _ _ _ _
      | exact ih2 _ _ _ _ _
      | exact LeO.none _
      | refine LeO.ite ?_ ?_
      | refine LeO.bind ?_ (fun _ => ?_)
    · intro y0 y1 y2 y3 y4
      unfold jsontext_internal_jsonwire_parseHexUint16.j1
      repeat' first
      | (with_reducible exact ih0 _ _ _)
      | (with_reducible exact ih1 _ _ _ _ _)
      | (with_reducible exact ih2 _ _ _ _ _)
      | (with_reducible exact LeO.refl _)
      | (with_reducible exact LeO.none _)
      | (with_reducible refine LeO.ite ?_ ?_)
      | (with_reducible refine LeO.bind ?_ (fun _ => ?_))
      | exact ih0 _ _ _
      | exact ih1 _ _ _ _ _
      | exact ih2 _ _ _ _ _
      | exact LeO.none _
      | refine LeO.ite ?_ ?_
      | refine LeO.bind ?_ (fun _ => ?_)
    · intro y0 y1 y2 y3 y4
      unfold jsontext_internal_jsonwire_parseHexUint16.j2
      repeat' first
      | (with_reducible exact ih0 _ _ _)
      | (with_reducible exact ih1 _ _ _ _ _)
      | (with_reducible exact ih2 _ _ _ _ _)
      | (with_reducible exact LeO.refl _)
      | (with_reducible exact LeO.none _)
      | (with_reducible refine LeO.ite ?_ ?_)
      | (with_reducible refine LeO.bind ?_ (fun _ => ?_))
      | exact ih0 _ _ _
      | exact ih1 _ _ _ _ _
      | exact ih2 _ _ _ _ _
      | exact LeO.none _
      | refine LeO.ite ?_ ?_
      | refine LeO.bind ?_ (fun _ => ?_)
set_option maxHeartbeats 8000000 in
set_option maxRecDepth 100000 in
theorem jsontext_internal_jsonwire_parseHexUint16.calls (k : Nat) (A0 : Option Addr) (c0 : Nat) (l0 : List Int) (r1 : Int) (r2 : Bool) (w : World) (hr0 : Kd.C (Kd.int .u8) w A0 l0.length l0) (hc0 : l0.length ≤ c0) (h : jsontext_internal_jsonwire_parseHexUint16.f k l0 = some (r1, r2)) :
    Calls Tryz.prog 65 #[.slice A0 l0.length c0] w fun e w' => e = .returned (.tuple #[.int .u16 r1, .bool r2]) ∧ Drawn0 w w' := by
  have HR0 := Aside0.mk hr0
  have HC0 := Aside0.mk hc0
  clear hr0 hc0
  have H : (if (l0.length : Int) = 4 then (jsontext_internal_jsonwire_parseHexUint16.l0 k l0 0 0) else (some (0, false))) = some (r1, r2) := h
  clear h
  by_cases c2 : (l0.length : Int) = 4
  · rw [if_pos c2] at H
    have c2b0 : ((l0.length : Int) == 4) = true := beq_iff_eq.mpr c2
    have c2b1 : ((l0.length : Int) != 4) = false := bne_eq_false_iff_eq.mpr c2
    clear c2
    have H' := Aside0.mk H
    clear H
    go_enter Tryz.func65, Tryz.ntmps65
    go_wp2
    go_loopg [2, 9] k (fun kq v2 v9 w' => ∃ (x2_1 : Int) (x9_1 : Int), v2 = .int .u16 x2_1 ∧ v9 = .int .i64 x9_1 ∧ Aside0 (jsontext_internal_jsonwire_parseHexUint16.l0 kq l0 x2_1 x9_1 = some (r1, r2)) ∧ Aside0 (kq ≤ k) ∧ Drawn0 w w')
    case atStart => exact ⟨(0), (0), (by first | rfl | (simp; done) | (simp [*]; done)), (by first | rfl | (simp; done) | (simp [*]; done)), H', ⟨Nat.le_refl _⟩, by repeat (first | exact Drawn0.refl _ | apply Drawn0.step)⟩
    case round =>
      clear H'
      try clear c2
      try clear c2b0
      try clear c2b1
      try clear p2
      obtain ⟨x2_1, x9_1, rfl, rfl, HA, HK1, ⟨m1, rfl⟩⟩ := hrel
      cases gk with
      | zero => exact absurd HA.out (by simp [jsontext_internal_jsonwire_parseHexUint16.l0])
      | succ k1 =>
        have H := HA.out
        clear HA
        simp only [jsontext_internal_jsonwire_parseHexUint16.l0] at H
        by_cases c3 : x9_1 < 4
        · rw [if_pos c3] at H
          have c3b0 : decide (x9_1 < 4) = true := decide_eq_true c3
          clear c3
          by_cases c4 : 0 ≤ x9_1
          · rw [if_pos c4] at H
            have c4b0 : decide (0 ≤ x9_1) = true := decide_eq_true c4
            clear c4
            by_cases c5 : x9_1 < (l0.length : Int)
            · rw [if_pos c5] at H
              have c5b0 : decide (x9_1 < (l0.length : Int)) = true := decide_eq_true c5
              clear c5
              have HC6 := Aside0.mk H
              clear H
              have p105 : 0 ≤ (x9_1 : Int) := of_decide_eq_true (by first | (with_reducible assumption) | assumption)
              have q105 : x9_1 < (l0.length : Int) := of_decide_eq_true (by first | (with_reducible assumption) | assumption)
              obtain ⟨ad105, e105, hx105_0⟩ := Kd.at_int HR0.out x9_1 p105 q105
              cases e105
              replace p105 := eq_true p105
              replace q105 := eq_true q105
              go_upto_region 8 with (fail)
              go_cut [16] (fun v16 wc => ∃ (kq : Nat) (x16_5 : Bool), v16 = .bool x16_5 ∧ Aside0 (jsontext_internal_jsonwire_parseHexUint16.j1 kq l0 x2_1 (rd l0 x9_1) x9_1 x16_5 = some (r1, r2)) ∧ Aside0 (kq ≤ k1) ∧ Drawn0 w wc)
              case first =>
                have H := HC6.out
                clear HC6
                by_cases c7 : 48 ≤ (rd l0 x9_1)
                · rw [if_pos c7] at H
                  have c7b0 : decide (48 ≤ (rd l0 x9_1)) = true := decide_eq_true c7
                  clear c7
                  (first | rw [c7b0] | (simp only [i64_w, i32_w]; rw [c7b0]) | skip)
                  have H' := Aside0.mk H
                  clear H
                  go_wp2
                  go_meet
                  case rel => exact ⟨_, (decide ((rd l0 x9_1) ≤ 57)), (by first | rfl | (simp; done) | (simp [*]; done)), H', ⟨by have := HK1.out; first | omega | exact Nat.le_refl _⟩, by repeat (first | exact Drawn0.refl _ | apply Drawn0.step)⟩
                · rw [if_neg c7] at H
                  have c7b0 : decide (48 ≤ (rd l0 x9_1)) = false := decide_eq_false c7
                  clear c7
                  (first | rw [c7b0] | (simp only [i64_w, i32_w]; rw [c7b0]) | skip)
                  have H' := Aside0.mk H
                  clear H
                  go_wp2
                  go_meet
                  case rel => exact ⟨_, (false), (by first | rfl | (simp; done) | (simp [*]; done)), H', ⟨by have := HK1.out; first | omega | exact Nat.le_refl _⟩, by repeat (first | exact Drawn0.refl _ | apply Drawn0.step)⟩
              case rest =>
                clear HC6
                try clear p1
                try clear q1
                try clear hx1
                try clear c2
                try clear c2b0
                try clear c2b1
                try clear p2
                try clear c3
                try clear c3b0
                try clear c4
                try clear c4b0
                try clear c5
                try clear c5b0
                try clear c6
                try clear c7
                try clear c7b0
                try clear hx105_0
                try clear p105
                try clear p2
                try clear q105
                obtain ⟨kq, x16_5, rfl, HA, HJ5, ⟨mc5, rfl⟩⟩ := hcut
                cases kq with
                | zero => exact absurd HA.out (by simp [jsontext_internal_jsonwire_parseHexUint16.j1])
                | succ kj5 =>
                  have H := HA.out
                  clear HA
                  simp only [jsontext_internal_jsonwire_parseHexUint16.j1] at H
                  by_cases c8 : x16_5 = true
                  · subst c8
                    have H1 : (jsontext_internal_jsonwire_parseHexUint16.l0 kj5 l0 (IntKind.u16.wrap ((IntKind.u16.wrap (x2_1 * 16)) + (((rd l0 x9_1) - 48) % 256))) (wrap64 (x9_1 + 1))) = some (r1, r2) := by rw [if_pos rfl] at H; exact H
                    clear H
                    have H := H1
                    clear H1
                    have H' := Aside0.mk H
                    clear H
                    go_wp2
                    go_roundg kj5
                    case measure => have := HK1.out; have := HJ5.out; omega
                    case rel => exact ⟨(IntKind.u16.wrap ((IntKind.u16.wrap (x2_1 * 16)) + (((rd l0 x9_1) - 48) % 256))), (wrap64 (x9_1 + 1)), (by first | rfl | (simp; done) | (simp [*]; done)), (by first | rfl | (simp; done) | (simp [*]; done)), H', ⟨by have := HK1.out; have := HJ5.out; omega⟩, by repeat (first | exact Drawn0.refl _ | apply Drawn0.step)⟩
                  · replace c8 := Bool.eq_false_iff.mpr c8
                    subst c8
                    have H1 : (if 97 ≤ (rd l0 x9_1) then (jsontext_internal_jsonwire_parseHexUint16.j2 kj5 l0 x2_1 (rd l0 x9_1) x9_1 (decide ((rd l0 x9_1) ≤ 102))) else (jsontext_internal_jsonwire_parseHexUint16.j2 kj5 l0 x2_1 (rd l0 x9_1) x9_1 false)) = some (r1, r2) := by rw [if_neg (show ¬ (false = true) by decide)] at H; exact H
                    clear H
                    have H := H1
                    clear H1
                    have HC9 := Aside0.mk H
                    clear H
                    go_upto_region 10 with (fail)
                    go_cut [25] (fun v25 wc => ∃ (kq : Nat) (x25_8 : Bool), v25 = .bool x25_8 ∧ Aside0 (jsontext_internal_jsonwire_parseHexUint16.j2 kq l0 x2_1 (rd l0 x9_1) x9_1 x25_8 = some (r1, r2)) ∧ Aside0 (kq ≤ kj5) ∧ Drawn0 w wc)
                    case first =>
                      have H := HC9.out
                      clear HC9
                      by_cases c10 : 97 ≤ (rd l0 x9_1)
                      · rw [if_pos c10] at H
                        have c10b0 : decide (97 ≤ (rd l0 x9_1)) = true := decide_eq_true c10
                        clear c10
                        (first | rw [c10b0] | (simp only [i64_w, i32_w]; rw [c10b0]) | skip)
                        have H' := Aside0.mk H
                        clear H
                        go_wp2
                        go_meet
                        case rel => exact ⟨_, (decide ((rd l0 x9_1) ≤ 102)), (by first | rfl | (simp; done) | (simp [*]; done)), H', ⟨by have := HK1.out; have := HJ5.out; first | omega | exact Nat.le_refl _⟩, by repeat (first | exact Drawn0.refl _ | apply Drawn0.step)⟩
                      · rw [if_neg c10] at H
                        have c10b0 : decide (97 ≤ (rd l0 x9_1)) = false := decide_eq_false c10
                        clear c10
                        (first | rw [c10b0] | (simp only [i64_w, i32_w]; rw [c10b0]) | skip)
                        have H' := Aside0.mk H
                        clear H
                        go_wp2
                        go_meet
                        case rel => exact ⟨_, (false), (by first | rfl | (simp; done) | (simp [*]; done)), H', ⟨by have := HK1.out; have := HJ5.out; first | omega | exact Nat.le_refl _⟩, by repeat (first | exact Drawn0.refl _ | apply Drawn0.step)⟩
                    case rest =>
                      clear HC9
                      try clear c1
                      try clear p1
                      try clear q1
                      try clear hx1
                      try clear c2
                      try clear c2b0
                      try clear c2b1
                      try clear p2
                      try clear c3
                      try clear c3b0
                      try clear c4
                      try clear c4b0
                      try clear c5
                      try clear c5b0
                      try clear c6
                      try clear p6
                      try clear c7
                      try clear c7b0
                      try clear c8
                      try clear c10
                      try clear c10b0
                      try clear p10
                      try clear q10
                      try clear hx10
                      try clear hx105_0
                      try clear p1
                      try clear p105
                      try clear p2
                      try clear q1
                      try clear q105
                      obtain ⟨kq, x25_8, rfl, HA, HJ8, ⟨mc8, rfl⟩⟩ := hcut
                      cases kq with
                      | zero => exact absurd HA.out (by simp [jsontext_internal_jsonwire_parseHexUint16.j2])
                      | succ kj8 =>
                        have H := HA.out
                        clear HA
                        simp only [jsontext_internal_jsonwire_parseHexUint16.j2] at H
                        by_cases c11 : x25_8 = true
                        · subst c11
                          have H1 : (jsontext_internal_jsonwire_parseHexUint16.l0 kj8 l0 (IntKind.u16.wrap ((IntKind.u16.wrap (x2_1 * 16)) + ((((10 + (rd l0 x9_1)) % 256) - 97) % 256))) (wrap64 (x9_1 + 1))) = some (r1, r2) := by rw [if_pos rfl] at H; exact H
                          clear H
                          have H := H1
                          clear H1
                          have H' := Aside0.mk H
                          clear H
                          go_wp2
                          go_roundg kj8
                          case measure => have := HK1.out; have := HJ5.out; have := HJ8.out; omega
                          case rel => exact ⟨(IntKind.u16.wrap ((IntKind.u16.wrap (x2_1 * 16)) + ((((10 + (rd l0 x9_1)) % 256) - 97) % 256))), (wrap64 (x9_1 + 1)), (by first | rfl | (simp; done) | (simp [*]; done)), (by first | rfl | (simp; done) | (simp [*]; done)), H', ⟨by have := HK1.out; have := HJ5.out; have := HJ8.out; omega⟩, by repeat (first | exact Drawn0.refl _ | apply Drawn0.step)⟩
                        · replace c11 := Bool.eq_false_iff.mpr c11
                          subst c11
                          have H1 : (if 65 ≤ (rd l0 x9_1) then (if (rd l0 x9_1) ≤ 70 then (jsontext_internal_jsonwire_parseHexUint16.l0 kj8 l0 (IntKind.u16.wrap ((IntKind.u16.wrap (x2_1 * 16)) + ((((10 + (rd l0 x9_1)) % 256) - 65) % 256))) (wrap64 (x9_1 + 1))) else (some (0, false))) else (some (0, false))) = some (r1, r2) := by rw [if_neg (show ¬ (false = true) by decide)] at H; exact H
                          clear H
                          have H := H1
                          clear H1
                          by_cases c12 : 65 ≤ (rd l0 x9_1)
                          · rw [if_pos c12] at H
                            have c12b0 : decide (65 ≤ (rd l0 x9_1)) = true := decide_eq_true c12
                            clear c12
                            by_cases c13 : (rd l0 x9_1) ≤ 70
                            · rw [if_pos c13] at H
                              have c13b0 : decide ((rd l0 x9_1) ≤ 70) = true := decide_eq_true c13
                              clear c13
                              have H' := Aside0.mk H
                              clear H
                              go_wp2
                              go_roundg kj8
                              case measure => have := HK1.out; have := HJ5.out; have := HJ8.out; omega
                              case rel => exact ⟨(IntKind.u16.wrap ((IntKind.u16.wrap (x2_1 * 16)) + ((((10 + (rd l0 x9_1)) % 256) - 65) % 256))), (wrap64 (x9_1 + 1)), (by first | rfl | (simp; done) | (simp [*]; done)), (by first | rfl | (simp; done) | (simp [*]; done)), H', ⟨by have := HK1.out; have := HJ5.out; have := HJ8.out; omega⟩, by repeat (first | exact Drawn0.refl _ | apply Drawn0.step)⟩
                            · rw [if_neg c13] at H
                              have c13b0 : decide ((rd l0 x9_1) ≤ 70) = false := decide_eq_false c13
                              clear c13
                              simp only [Option.some.injEq, Prod.mk.injEq] at H
                              obtain ⟨rfl, rfl⟩ := H
                              go_wp2
                              go_ret2
                              exact ⟨by first | rfl | (simp; done) | (simp [*]; done), by repeat (first | exact Drawn0.refl _ | apply Drawn0.step)⟩
                          · rw [if_neg c12] at H
                            have c12b0 : decide (65 ≤ (rd l0 x9_1)) = false := decide_eq_false c12
                            clear c12
                            simp only [Option.some.injEq, Prod.mk.injEq] at H
                            obtain ⟨rfl, rfl⟩ := H
                            go_wp2
                            go_ret2
                            exact ⟨by first | rfl | (simp; done) | (simp [*]; done), by repeat (first | exact Drawn0.refl _ | apply Drawn0.step)⟩
            · rw [if_neg c5] at H
              exact absurd H (by simp)
          · rw [if_neg c4] at H
            exact absurd H (by simp)
        · rw [if_neg c3] at H
          have c3b0 : decide (x9_1 < 4) = false := decide_eq_false c3
          clear c3
          simp only [Option.some.injEq, Prod.mk.injEq] at H
          obtain ⟨rfl, rfl⟩ := H
          go_wp2
          go_ret2
          exact ⟨by first | rfl | (simp; done) | (simp [*]; done), by repeat (first | exact Drawn0.refl _ | apply Drawn0.step)⟩
  · rw [if_neg c2] at H
    have c2b0 : ((l0.length : Int) == 4) = false := beq_eq_false_iff_ne.mpr c2
    have c2b1 : ((l0.length : Int) != 4) = true := bne_iff_ne.mpr c2
    simp only [Option.some.injEq, Prod.mk.injEq] at H
    obtain ⟨rfl, rfl⟩ := H
    go_enter Tryz.func65, Tryz.ntmps65
    go_wp2
    go_ret2
    exact ⟨by first | rfl | (simp; done) | (simp [*]; done), by repeat (first | exact Drawn0.refl _ | apply Drawn0.step)⟩

end Go.Proofs.YtjfbkgkpjkickaaGreatDoor.PAll
-- YtjfbkgkpjkickaaGreatDoorPAllx8
namespace Go.Proofs.YtjfbkgkpjkickaaGreatDoor.PAll
open Go.RowKit Go.Proofs.YtjfbkgkpjkickaaGreatDoorW.PrintWords Go.Proofs.YtjfbkgkpjkickaaGreatDoorW.PrintLast Go.Proofs.YtjfbkgkpjkickaaGreatDoorW.PrintMore
attribute [local go_sem] max2_int min2_int max_two min_two max_three min_three max_four min_four   -- for this text's walks alone
set_option linter.unusedVariables false
set_option linter.unusedSimpArgs false

def utf16_IsSurrogate.f (a0 : Int) : Option (Bool) := if 55296 ≤ a0 then (some (decide (a0 < 57344))) else (some false)
set_option maxHeartbeats 8000000 in
set_option maxRecDepth 100000 in
theorem utf16_IsSurrogate.calls (a0 : Int) (r : Bool) (w : World) (h : utf16_IsSurrogate.f a0 = some r) :
    Calls Tryz.prog 66 #[.int .i32 a0] w fun e w' => e = .returned (.bool r) ∧ Drawn0 w w' := by
  have H : (if 55296 ≤ a0 then (some (decide (a0 < 57344))) else (some false)) = some r := h
  clear h
  by_cases c2 : 55296 ≤ a0
  · rw [if_pos c2] at H
    have c2b0 : decide (55296 ≤ a0) = true := decide_eq_true c2
    clear c2
    obtain rfl := Option.some.inj H
    go_enter Tryz.func66, Tryz.ntmps66
    go_wp2
    go_ret
    exact ⟨by first | rfl | (simp; done) | (simp [*]; done), by repeat (first | exact Drawn0.refl _ | apply Drawn0.step)⟩
  · rw [if_neg c2] at H
    have c2b0 : decide (55296 ≤ a0) = false := decide_eq_false c2
    clear c2
    obtain rfl := Option.some.inj H
    go_enter Tryz.func66, Tryz.ntmps66
    go_wp2
    go_ret
    exact ⟨by first | rfl | (simp; done) | (simp [*]; done), by repeat (first | exact Drawn0.refl _ | apply Drawn0.step)⟩

end Go.Proofs.YtjfbkgkpjkickaaGreatDoor.PAll
-- YtjfbkgkpjkickaaGreatDoorPAllx11
namespace Go.Proofs.YtjfbkgkpjkickaaGreatDoor.PAll
open Go.RowKit Go.Proofs.YtjfbkgkpjkickaaGreatDoorW.PrintWords Go.Proofs.YtjfbkgkpjkickaaGreatDoorW.PrintLast Go.Proofs.YtjfbkgkpjkickaaGreatDoorW.PrintMore
attribute [local go_sem] max2_int min2_int max_two min_two max_three min_three max_four min_four   -- for this text's walks alone
set_option linter.unusedVariables false
set_option linter.unusedSimpArgs false

def utf16_DecodeRune.f (a0 : Int) (a1 : Int) : Option (Int) := if 55296 ≤ a0 then (if a0 < 56320 then (if 56320 ≤ a1 then (if a1 < 57344 then (some (wrap32 ((Go.bits .or .i32 (wrap32 ((wrap32 (a0 - 55296)) * 1024)) (wrap32 (a1 - 56320))) + 65536))) else (some 65533)) else (some 65533)) else (some 65533)) else (some 65533)
set_option maxHeartbeats 8000000 in
set_option maxRecDepth 100000 in
theorem utf16_DecodeRune.calls (a0 : Int) (a1 : Int) (r : Int) (w : World) (h : utf16_DecodeRune.f a0 a1 = some r) :
    Calls Tryz.prog 68 #[.int .i32 a0, .int .i32 a1] w fun e w' => e = .returned (.int .i32 r) ∧ Drawn0 w w' := by
  have H : (if 55296 ≤ a0 then (if a0 < 56320 then (if 56320 ≤ a1 then (if a1 < 57344 then (some (wrap32 ((Go.bits .or .i32 (wrap32 ((wrap32 (a0 - 55296)) * 1024)) (wrap32 (a1 - 56320))) + 65536))) else (some 65533)) else (some 65533)) else (some 65533)) else (some 65533)) = some r := h
  clear h
  by_cases c3 : 55296 ≤ a0
  · rw [if_pos c3] at H
    have c3b0 : decide (55296 ≤ a0) = true := decide_eq_true c3
    clear c3
    by_cases c4 : a0 < 56320
    · rw [if_pos c4] at H
      have c4b0 : decide (a0 < 56320) = true := decide_eq_true c4
      clear c4
      by_cases c5 : 56320 ≤ a1
      · rw [if_pos c5] at H
        have c5b0 : decide (56320 ≤ a1) = true := decide_eq_true c5
        clear c5
        by_cases c6 : a1 < 57344
        · rw [if_pos c6] at H
          have c6b0 : decide (a1 < 57344) = true := decide_eq_true c6
          clear c6
          obtain rfl := Option.some.inj H
          go_enter Tryz.func68, Tryz.ntmps68
          go_wp2
          go_ret
          exact ⟨by first | rfl | (simp; done) | (simp [*]; done), by repeat (first | exact Drawn0.refl _ | apply Drawn0.step)⟩
        · rw [if_neg c6] at H
          have c6b0 : decide (a1 < 57344) = false := decide_eq_false c6
          clear c6
          obtain rfl := Option.some.inj H
          go_enter Tryz.func68, Tryz.ntmps68
          go_wp2
          go_ret
          exact ⟨by first | rfl | (simp; done) | (simp [*]; done), by repeat (first | exact Drawn0.refl _ | apply Drawn0.step)⟩
      · rw [if_neg c5] at H
        have c5b0 : decide (56320 ≤ a1) = false := decide_eq_false c5
        clear c5
        obtain rfl := Option.some.inj H
        go_enter Tryz.func68, Tryz.ntmps68
        go_wp2
        go_ret
        exact ⟨by first | rfl | (simp; done) | (simp [*]; done), by repeat (first | exact Drawn0.refl _ | apply Drawn0.step)⟩
    · rw [if_neg c4] at H
      have c4b0 : decide (a0 < 56320) = false := decide_eq_false c4
      clear c4
      obtain rfl := Option.some.inj H
      go_enter Tryz.func68, Tryz.ntmps68
      go_wp2
      go_ret
      exact ⟨by first | rfl | (simp; done) | (simp [*]; done), by repeat (first | exact Drawn0.refl _ | apply Drawn0.step)⟩
  · rw [if_neg c3] at H
    have c3b0 : decide (55296 ≤ a0) = false := decide_eq_false c3
    clear c3
    obtain rfl := Option.some.inj H
    go_enter Tryz.func68, Tryz.ntmps68
    go_wp2
    go_ret
    exact ⟨by first | rfl | (simp; done) | (simp [*]; done), by repeat (first | exact Drawn0.refl _ | apply Drawn0.step)⟩

end Go.Proofs.YtjfbkgkpjkickaaGreatDoor.PAll
-- YtjfbkgkpjkickaaGreatDoorBn
set_option linter.unusedVariables false
set_option linter.unusedSimpArgs false
namespace Go.Proofs.YtjfbkgkpjkickaaGreatDoor.PAll
open Go.RowKit Go.Proofs.YtjfbkgkpjkickaaGreatDoorW.PrintWords Go.Proofs.YtjfbkgkpjkickaaGreatDoorW.PrintLast Go.Proofs.YtjfbkgkpjkickaaGreatDoorW.PrintMore

theorem hep_l0 (l : List Int) (hl : l.length ≤ 4000000000) (a : Bool) : ∀ m i : Nat, i + m = l.length → ∃ k r, jsontext_internal_jsonwire_hasEscapedUTF16Prefix.l0 k l a (l.length : Int) (i : Int) = some r := by
  intro m
  induction m with
  | zero =>
    intro i hi
    exact ⟨1, true, by rw [jsontext_internal_jsonwire_hasEscapedUTF16Prefix.l0, if_neg (by omega)]⟩
  | succ m ih =>
    intro i hi
    obtain ⟨k, r, hk⟩ := ih (i + 1) (by omega)
    have J4 : ∀ (x5 x6 : Int) (x : Bool), ∃ r, jsontext_internal_jsonwire_hasEscapedUTF16Prefix.j4 (k + 1) l a x5 x6 (l.length : Int) (i : Int) x = some r := by
      intro x5 x6 x
      rw [jsontext_internal_jsonwire_hasEscapedUTF16Prefix.j4, w64n i (by omega), hk]
      repeat' split
      all_goals exact ⟨_, rfl⟩
    have J3 : ∀ (x5 x6 : Int) (x : Bool), ∃ r, jsontext_internal_jsonwire_hasEscapedUTF16Prefix.j3 (k + 2) l a x5 x6 (l.length : Int) (i : Int) x = some r := by
      intro x5 x6 x
      rw [jsontext_internal_jsonwire_hasEscapedUTF16Prefix.j3]
      repeat' split
      all_goals (first | exact J4 _ _ _ | exact ⟨_, rfl⟩)
    have J2 : ∀ (x5 x6 : Int) (x : Bool), ∃ r, jsontext_internal_jsonwire_hasEscapedUTF16Prefix.j2 (k + 3) l a x5 x6 (l.length : Int) (i : Int) x = some r := by
      intro x5 x6 x
      rw [jsontext_internal_jsonwire_hasEscapedUTF16Prefix.j2]
      repeat' split
      all_goals (first | exact J3 _ _ _ | exact ⟨_, rfl⟩)
    have J1 : ∀ (x5 x6 : Int) (x : Bool), ∃ r, jsontext_internal_jsonwire_hasEscapedUTF16Prefix.j1 (k + 4) l a x5 x6 (l.length : Int) (i : Int) x = some r := by
      intro x5 x6 x
      rw [jsontext_internal_jsonwire_hasEscapedUTF16Prefix.j1]
      repeat' split
      all_goals (first | exact J2 _ _ _ | exact ⟨_, rfl⟩)
    refine ⟨k + 5, ?_⟩
    rw [jsontext_internal_jsonwire_hasEscapedUTF16Prefix.l0, if_pos (by omega), if_pos (by omega), if_pos (by omega)]
    split
    all_goals exact J1 _ _ _
theorem f63 (B o c : Nat) (l : List Int) (a : Bool) (w : World) (hr : RB w B o l) (hl : l.length ≤ 4000000000) (hc : l.length ≤ c) :
    Calls Tryz.prog 63 #[.slice (some ⟨B, o, none⟩) l.length c, .bool a] w fun e w' => ∃ r : Bool, e = .returned (.bool r) ∧ Drawn0 w w' := by
  obtain ⟨k, r, hk⟩ := hep_l0 l hl a l.length 0 (by omega)
  exact (jsontext_internal_jsonwire_hasEscapedUTF16Prefix.calls k _ c l a r w (hr.C (by omega)) hc hk).mono fun e w' ⟨h1, h2⟩ => ⟨r, h1, h2⟩

theorem LeO_apply {α : Type} {a b : Option α} (h : LeO a b) {r : α} (ha : a = some r) : b = some r := h r ha
theorem ph_mono (k : Nat) (l : List Int) (v i : Int) {r : Int × Bool} (h : jsontext_internal_jsonwire_parseHexUint16.l0 k l v i = some r) (m : Nat) : jsontext_internal_jsonwire_parseHexUint16.l0 (k + m) l v i = some r := by
  induction m with
  | zero => exact h
  | succ m ih => exact LeO_apply ((jsontext_internal_jsonwire_parseHexUint16.mono_l (k + m)).1 l v i) ih
theorem u16_in (x : Int) (h0 : 0 ≤ x) (h1 : x < 65536) : IntKind.u16.wrap x = x := by rw [IntKind.wrap_u16]; omega
theorem ph_step (l : List Int) (hl : l.length = 4) (i : Nat) (hi : i < 4) (v h : Int) (hv0 : 0 ≤ v) (hv : v < 4096) (hh : hexV (rd l (i : Int)) = some h) (k : Nat) (r : Int × Bool)
    (hk : jsontext_internal_jsonwire_parseHexUint16.l0 k l (16 * v + h) ((i + 1 : Nat) : Int) = some r) : jsontext_internal_jsonwire_parseHexUint16.l0 (k + 3) l v (i : Int) = some r := by
  have hk' := ph_mono k l _ _ hk 1
  rw [jsontext_internal_jsonwire_parseHexUint16.l0, if_pos (by omega), if_pos (by omega), if_pos (by omega)]
  unfold hexV at hh
  generalize rd l (i : Int) = b at *
  have w1 := w64n i (by omega)
  by_cases c1 : 48 ≤ b ∧ b ≤ 57
  · rw [if_pos c1] at hh
    injection hh with hh
    rw [if_pos c1.1, decide_eq_true c1.2, jsontext_internal_jsonwire_parseHexUint16.j1, if_pos rfl, w1, u16_in (v * 16) (by omega) (by omega), u16_in _ (by omega) (by omega), ← hk']
    congr 1
    omega
  · rw [if_neg c1] at hh
    have s1 : (if 48 ≤ b then jsontext_internal_jsonwire_parseHexUint16.j1 (k + 2) l v b (i : Int) (decide (b ≤ 57)) else jsontext_internal_jsonwire_parseHexUint16.j1 (k + 2) l v b (i : Int) false) = jsontext_internal_jsonwire_parseHexUint16.j1 (k + 2) l v b (i : Int) false := by
      split
      · rw [decide_eq_false (by omega)]
      · rfl
    rw [s1, jsontext_internal_jsonwire_parseHexUint16.j1, if_neg (by simp)]
    by_cases c2 : 97 ≤ b ∧ b ≤ 102
    · rw [if_pos c2] at hh
      injection hh with hh
      rw [if_pos c2.1, decide_eq_true c2.2, jsontext_internal_jsonwire_parseHexUint16.j2, if_pos rfl, w1, u16_in (v * 16) (by omega) (by omega), u16_in _ (by omega) (by omega), ← hk]
      congr 1
      omega
    · rw [if_neg c2] at hh
      have s2 : (if 97 ≤ b then jsontext_internal_jsonwire_parseHexUint16.j2 (k + 1) l v b (i : Int) (decide (b ≤ 102)) else jsontext_internal_jsonwire_parseHexUint16.j2 (k + 1) l v b (i : Int) false) = jsontext_internal_jsonwire_parseHexUint16.j2 (k + 1) l v b (i : Int) false := by
        split
        · rw [decide_eq_false (by omega)]
        · rfl
      rw [s2, jsontext_internal_jsonwire_parseHexUint16.j2, if_neg (by simp)]
      by_cases c3 : 65 ≤ b ∧ b ≤ 70
      · rw [if_pos c3] at hh
        injection hh with hh
        rw [if_pos c3.1, if_pos c3.2, w1, u16_in (v * 16) (by omega) (by omega), u16_in _ (by omega) (by omega), ← hk]
        congr 1
        omega
      · rw [if_neg c3] at hh
        cases hh
theorem ph_none (l : List Int) (hl : l.length = 4) (i : Nat) (hi : i < 4) (v : Int) (hh : hexV (rd l (i : Int)) = none) (k : Nat) : jsontext_internal_jsonwire_parseHexUint16.l0 (k + 3) l v (i : Int) = some (0, false) := by
  rw [jsontext_internal_jsonwire_parseHexUint16.l0, if_pos (by omega), if_pos (by omega), if_pos (by omega)]
  unfold hexV at hh
  generalize rd l (i : Int) = b at *
  have c1 : ¬ (48 ≤ b ∧ b ≤ 57) := fun h => by rw [if_pos h] at hh; cases hh
  rw [if_neg c1] at hh
  have c2 : ¬ (97 ≤ b ∧ b ≤ 102) := fun h => by rw [if_pos h] at hh; cases hh
  rw [if_neg c2] at hh
  have c3 : ¬ (65 ≤ b ∧ b ≤ 70) := fun h => by rw [if_pos h] at hh; cases hh
  have s1 : (if 48 ≤ b then jsontext_internal_jsonwire_parseHexUint16.j1 (k + 2) l v b (i : Int) (decide (b ≤ 57)) else jsontext_internal_jsonwire_parseHexUint16.j1 (k + 2) l v b (i : Int) false) = jsontext_internal_jsonwire_parseHexUint16.j1 (k + 2) l v b (i : Int) false := by
    split
    · rw [decide_eq_false (by omega)]
    · rfl
  have s2 : (if 97 ≤ b then jsontext_internal_jsonwire_parseHexUint16.j2 (k + 1) l v b (i : Int) (decide (b ≤ 102)) else jsontext_internal_jsonwire_parseHexUint16.j2 (k + 1) l v b (i : Int) false) = jsontext_internal_jsonwire_parseHexUint16.j2 (k + 1) l v b (i : Int) false := by
    split
    · rw [decide_eq_false (by omega)]
    · rfl
  rw [s1, jsontext_internal_jsonwire_parseHexUint16.j1, if_neg (by simp), s2, jsontext_internal_jsonwire_parseHexUint16.j2, if_neg (by simp)]
  by_cases c4 : 65 ≤ b
  · rw [if_pos c4, if_neg (by omega)]
  · rw [if_neg c4]
theorem hexV_bd {b h : Int} (hh : hexV b = some h) : 0 ≤ h ∧ h < 16 := by
  unfold hexV at hh
  split at hh
  · injection hh with hh; omega
  · split at hh
    · injection hh with hh; omega
    · split at hh
      · injection hh with hh; omega
      · cases hh
theorem hex4_bd {l : List Int} {i : Nat} {v : Int} (h : hex4 l i = some v) : 0 ≤ v ∧ v < 65536 := by
  unfold hex4 at h
  split at h
  · split at h
    · rename_i a b c d e1 e2 e3 e4
      injection h with h
      have := hexV_bd e1; have := hexV_bd e2; have := hexV_bd e3; have := hexV_bd e4
      omega
    · cases h
  · cases h
/-- what is read of four bytes -/
def hexR (o : Option Int) : Int × Bool := match o with | some v => (v, true) | none => (0, false)
theorem ph_ev (l : List Int) (hl : l.length = 4) : ∃ k, jsontext_internal_jsonwire_parseHexUint16.f k l = some (hexR (hex4 l 0)) := by
  refine ⟨13, ?_⟩
  unfold jsontext_internal_jsonwire_parseHexUint16.f
  rw [if_pos (by omega)]
  unfold hex4
  rw [if_pos (by omega)]
  cases e0 : hexV (rd l ((0 : Nat) : Int)) with
  | none => exact ph_none l hl 0 (by decide) 0 e0 10
  | some a =>
    have b0 := hexV_bd e0
    refine ph_step l hl 0 (by decide) 0 a (by decide) (by decide) e0 10 _ ?_
    cases e1 : hexV (rd l ((0 + 1 : Nat) : Int)) with
    | none => exact ph_none l hl 1 (by decide) _ e1 7
    | some b =>
      have b1 := hexV_bd e1
      refine ph_step l hl 1 (by decide) _ b (by omega) (by omega) e1 7 _ ?_
      cases e2 : hexV (rd l ((0 + 2 : Nat) : Int)) with
      | none => exact ph_none l hl 2 (by decide) _ e2 4
      | some c =>
        have b2 := hexV_bd e2
        refine ph_step l hl 2 (by decide) _ c (by omega) (by omega) e2 4 _ ?_
        cases e3 : hexV (rd l ((0 + 3 : Nat) : Int)) with
        | none => exact ph_none l hl 3 (by decide) _ e3 1
        | some d =>
          refine ph_step l hl 3 (by decide) _ d (by omega) (by omega) e3 1 _ ?_
          rw [jsontext_internal_jsonwire_parseHexUint16.l0, if_neg (by omega)]
          show some _ = some (_, true)
          congr 2
          omega
theorem hex4_drop (l : List Int) (n i : Nat) (h : n ≤ l.length) : hex4 (l.drop n) i = hex4 l (n + i) := by
  unfold hex4
  rw [List.length_drop, rd_drop, rd_drop, rd_drop, rd_drop]
  by_cases hc : i + 4 ≤ l.length - n
  · rw [if_pos hc, if_pos (by omega)]; rfl
  · rw [if_neg hc, if_neg (by omega)]
theorem rd_take (l : List Int) (n j : Nat) (h : j < n) : rd (l.take n) (j : Int) = rd l (j : Int) := by
  rw [rd_getD, rd_getD, List.getD_eq_getElem?_getD, List.getD_eq_getElem?_getD, List.getElem?_take, if_pos h]
theorem hex4_take (l : List Int) (h : 4 ≤ l.length) : hex4 (l.take 4) 0 = hex4 l 0 := by
  unfold hex4
  rw [List.length_take, if_pos (by omega), if_pos (by omega), rd_take l 4 0 (by decide), rd_take l 4 (0 + 1) (by decide), rd_take l 4 (0 + 2) (by decide), rd_take l 4 (0 + 3) (by decide)]
theorem RB.take {w : World} {B o : Nat} {l : List Int} (h : RB w B o l) (n : Nat) : RB w B o (l.take n) := fun j hj => by
  rw [List.length_take] at hj
  rw [h j (by omega), rd_take l n j (by omega)]
theorem f65 (B o c : Nat) (l : List Int) (p : Nat) (w : World) (hr : RB w B o l) (hp : p + 4 ≤ l.length) (hc : 4 ≤ c) :
    Calls Tryz.prog 65 #[.slice (some ⟨B, o + p, none⟩) 4 c] w fun e w' => e = .returned (.tuple #[.int .u16 (hexR (hex4 l p)).1, .bool (hexR (hex4 l p)).2]) ∧ Drawn0 w w' := by
  have hl4 : ((l.drop p).take 4).length = 4 := by rw [List.length_take, List.length_drop]; omega
  obtain ⟨k, hk⟩ := ph_ev ((l.drop p).take 4) hl4
  rw [hex4_take _ (by rw [List.length_drop]; omega), hex4_drop l p 0 (by omega), Nat.add_zero] at hk
  have := jsontext_internal_jsonwire_parseHexUint16.calls k (some ⟨B, o + p, none⟩) c ((l.drop p).take 4) _ _ w (((hr.sub p (o + p) (fun _ => rfl)).take 4).C (by omega)) (by omega) hk
  rw [hl4] at this
  exact this
theorem f66 (v : Int) (w : World) : Calls Tryz.prog 66 #[.int .i32 v] w fun e w' => e = .returned (.bool (decide (55296 ≤ v ∧ v ≤ 57343))) ∧ Drawn0 w w' := by
  refine utf16_IsSurrogate.calls v _ w ?_
  unfold utf16_IsSurrogate.f
  by_cases h : 55296 ≤ v
  · rw [if_pos h]
    by_cases h2 : v < 57344
    · rw [decide_eq_true h2, decide_eq_true ⟨h, by omega⟩]
    · rw [decide_eq_false h2, decide_eq_false (by omega)]
  · rw [if_neg h, decide_eq_false (by omega)]
/-- a pair's character -/
def pairR (a b : Int) : Int := if 55296 ≤ a ∧ a < 56320 ∧ 56320 ≤ b ∧ b < 57344 then 65536 + 1024 * (a - 55296) + (b - 56320) else 65533
theorem or_low (a b : Nat) (ha : a < 1024) (hb : b < 1024) : Go.bits .or .i32 ((a * 1024 : Nat) : Int) (b : Int) = ((a * 1024 + b : Nat) : Int) := by
  have hx : a * 1024 ||| b = a * 1024 + b := by
    have := Nat.shiftLeft_add_eq_or_of_lt (i := 10) (b := b) (by omega) a
    rw [Nat.shiftLeft_eq] at this
    exact this.symm
  have h1 : (BitVec.ofInt 32 ((a * 1024 : Nat) : Int)).toNat = a * 1024 := by
    rw [BitVec.ofInt_natCast, BitVec.toNat_ofNat]; exact Nat.mod_eq_of_lt (by omega)
  have h2 : (BitVec.ofInt 32 (b : Int)).toNat = b := by
    rw [BitVec.ofInt_natCast, BitVec.toNat_ofNat]; exact Nat.mod_eq_of_lt (by omega)
  show IntKind.i32.wrap ((BitVec.ofInt 32 ((a * 1024 : Nat) : Int) ||| BitVec.ofInt 32 (b : Int)).toNat : Int) = _
  rw [BitVec.toNat_or, h1, h2, hx, IntKind.wrap_i32]
  omega
theorem f68 (a b : Int) (w : World) : Calls Tryz.prog 68 #[.int .i32 a, .int .i32 b] w fun e w' => e = .returned (.int .i32 (pairR a b)) ∧ Drawn0 w w' := by
  refine utf16_DecodeRune.calls a b _ w ?_
  unfold utf16_DecodeRune.f pairR
  by_cases h1 : 55296 ≤ a
  · rw [if_pos h1]
    by_cases h2 : a < 56320
    · rw [if_pos h2]
      by_cases h3 : 56320 ≤ b
      · rw [if_pos h3]
        by_cases h4 : b < 57344
        · rw [if_pos h4, if_pos ⟨h1, h2, h3, h4⟩]
          have e1 : wrap32 (wrap32 (a - 55296) * 1024) = (((a - 55296).toNat * 1024 : Nat) : Int) := by unfold wrap32; omega
          have e2 : wrap32 (b - 56320) = (((b - 56320).toNat : Nat) : Int) := by unfold wrap32; omega
          rw [e1, e2, or_low _ _ (by omega) (by omega)]
          congr 1
          unfold wrap32
          omega
        · rw [if_neg h4, if_neg (by omega)]
      · rw [if_neg h3, if_neg (by omega)]
    · rw [if_neg h2, if_neg (by omega)]
  · rw [if_neg h1, if_neg (by omega)]
theorem pairR_ne (a b : Int) : pairR a b = 65533 ↔ ¬ (55296 ≤ a ∧ a < 56320 ∧ 56320 ≤ b ∧ b < 57344) := by
  unfold pairR
  split
  · constructor
    · intro h; omega
    · intro h; exact absurd ‹_› h
  · exact ⟨fun _ => ‹_›, fun _ => rfl⟩
end Go.Proofs.YtjfbkgkpjkickaaGreatDoor.PAll
-- YtjfbkgkpjkickaaGreatDoorBo0
set_option linter.unusedVariables false
set_option linter.unusedSimpArgs false
namespace Go.Proofs.YtjfbkgkpjkickaaGreatDoor.PAll
open Go.RowKit Go.Proofs.YtjfbkgkpjkickaaGreatDoorW.PrintWords Go.Proofs.YtjfbkgkpjkickaaGreatDoorW.PrintLast Go.Proofs.YtjfbkgkpjkickaaGreatDoorW.PrintMore

/-- what is told of a string -/
def StrPost (v : Bool) (l : List Int) (G : GV) (F B o : Nat) (f0 : Int) (w : World) (e : Ending) (w' : World) : Prop :=
  ∃ (n : Nat) (x : Value) (g : Int), e = .returned (.tuple #[.int .i64 (n : Int), x]) ∧ n ≤ l.length ∧ StF w w' G F B o l g ∧ (nv f0 → nv g) ∧
    ((strEnd v l = some n ∧ x = .nilIface ∧ (¬ nv g → Reach v l 1 (n - 1))) ∨ (strEnd v l = none ∧ ErrS G x))
/-- where a round stands -/
structure RdF (v : Bool) (l : List Int) (i : Nat) (f0 g : Int) : Prop where
  e : strEnd v l = strF v l i
  r : ¬ nv g → Reach v l 1 i
  m : nv f0 → nv g
theorem f180e (b : Int) (w : World) : Calls Tryz.prog 180 #[.int .u8 b] w fun e w' => e = .returned (.bool (decide (noEsc b))) ∧ w = w' := (f180 b w).mono fun _ _ h => ⟨h.1, h.2.symm⟩
section
variable {v : Bool} {l : List Int} {i : Nat} {f0 g : Int} {b : Int}
theorem RdF.ascii (h : RdF v l i f0 g) (hi : i < l.length) (hb : rd l (i : Int) = b) (hn : noEsc b) : RdF v l (i + 1) f0 g := by
  have hd := rd_drop0 l i
  rw [hb] at hd
  have hs : stepN v (l.drop i) = 1 := stepN_ascii v _ (by rw [hd]; exact hn.2.2.1) (by rw [hd]; exact hn.1) (by rw [hd]; exact hn.2.1)
  refine ⟨?_, fun hv => ?_, h.m⟩
  · rw [h.e, strF_step v l i hi, hb, if_neg hn.2.2.2, hs, if_neg (by decide)]
  · have := Reach.snoc i (h.r hv) hi ⟨by rw [hd]; exact hn.2.2.1, by rw [hd]; exact hn.2.2.2, fun h => by rw [hd] at h; have := hn.2.1; omega⟩ (by rw [hs]; decide)
    rw [hs] at this
    exact this
theorem RdF.bad (h : RdF v l i f0 g) (hi : i < l.length) (hb : rd l (i : Int) = b) (h34 : b ≠ 34) (hs : stepN v (l.drop i) = 0) : strEnd v l = none := by
  rw [h.e, strF_step v l i hi, hb, if_neg h34, if_pos hs]
theorem RdF.go (h : RdF v l i f0 g) (hi : i < l.length) (hb : rd l (i : Int) = b) (h34 : b ≠ 34) {m : Nat} (hs : stepN v (l.drop i) = m) (hm : m ≠ 0) : strEnd v l = strF v l (i + m) := by
  rw [h.e, strF_step v l i hi, hb, if_neg h34, hs, if_neg hm]
theorem RdF.rune (h : RdF v l i f0 g) (hi : i < l.length) (hb : rd l (i : Int) = b) (h34 : b ≠ 34) (h92 : b ≠ 92) (hu : 128 ≤ b → ulen (l.drop i) ≠ 0) {m : Nat} (hs : stepN v (l.drop i) = m) (hm : m ≠ 0) : RdF v l (i + m) f0 g := by
  have hd := rd_drop0 l i
  rw [hb] at hd
  refine ⟨h.go hi hb h34 hs hm, fun hv => ?_, h.m⟩
  have := Reach.snoc i (h.r hv) hi ⟨by rw [hd]; exact h92, by rw [hd]; exact h34, fun h => by rw [hd] at h; exact hu h⟩ (by rw [hs]; exact hm)
  rw [hs] at this
  exact this
end
theorem ulen_two (l : List Int) (h : ulen l ≠ 0) : 2 ≤ ulen l := by
  unfold ulen at *
  repeat' split
  all_goals (first | omega | simp_all)
theorem sub_cells {w : World} {B o : Nat} {l : List Int} (hr : RB w B o l) (q off n : Nat) (ho : off = o + q) (hn : q + n ≤ l.length) : ∀ k, k < n → ∃ b, w.cell? ⟨B, off + k, none⟩ = some (.int .u8 b) := fun k hk =>
  ⟨_, by rw [ho, Nat.add_assoc]; exact hr (q + k) (by omega)⟩
theorem f64g (B off n c : Nat) (w : World) (h : ∀ k, k < n → ∃ b, w.cell? ⟨B, off + k, none⟩ = some (.int .u8 b)) (hn : n ≤ 4000000000) (hc : n ≤ c) : Calls Tryz.prog 64 #[.slice (some ⟨B, off, none⟩) n c] w (ErrPost w) := by
  obtain ⟨f, hf⟩ : ∃ f : Nat → Int, ∀ k, k < n → w.cell? ⟨B, off + k, none⟩ = some (.int .u8 (f k)) := by
    classical
    exact ⟨fun k => if hk : k < n then (h k hk).choose else 0, fun k hk => by
      show w.cell? _ = some (.int .u8 (if hk : k < n then (h k hk).choose else 0))
      rw [dif_pos hk]; exact (h k hk).choose_spec⟩
  have := f64 B off c ((List.range n).map f) w (fun j hj => by
    rw [List.length_map, List.length_range] at hj
    rw [hf j hj, rd_getD, List.getD_eq_getElem?_getD, List.getElem?_map, List.getElem?_range hj]
    rfl) (by rw [List.length_map, List.length_range]; exact hn) (by rw [List.length_map, List.length_range]; exact hc)
  rw [List.length_map, List.length_range] at this
  exact this
theorem hex4_len {l : List Int} {i : Nat} {x : Int} (h : hex4 l i = some x) : i + 4 ≤ l.length := by
  unfold hex4 at h
  split at h
  · assumption
  · cases h
section
variable (v : Bool) (l : List Int) (j : Nat) (h0 : rd l (j : Int) = 92)
include h0
theorem st_esc : stepN v (l.drop j) = escN v (l.drop j) := stepN_esc v _ ((rd_drop0 l j).trans h0)
theorem st_short (h : ¬ j + 1 < l.length) : stepN v (l.drop j) = 0 := by
  rw [st_esc v l j h0]
  unfold escN
  rw [List.length_drop, if_pos (by omega)]
theorem st_two (h2 : j + 1 < l.length) (he : isEsc (rd l ((j + 1 : Nat) : Int))) : stepN v (l.drop j) = 2 := by
  rw [st_esc v l j h0]
  unfold escN
  have := rd_drop l j 1
  rw [show ((1 : Nat) : Int) = 1 from rfl] at this
  rw [List.length_drop, if_neg (by omega), this, if_pos he]
theorem st_bad (he : ¬ isEsc (rd l ((j + 1 : Nat) : Int))) (hu : rd l ((j + 1 : Nat) : Int) ≠ 117) : stepN v (l.drop j) = 0 := by
  rw [st_esc v l j h0]
  unfold escN
  have := rd_drop l j 1
  rw [show ((1 : Nat) : Int) = 1 from rfl] at this
  split
  · rfl
  · rw [this, if_neg he, if_neg hu]
variable (hu : rd l ((j + 1 : Nat) : Int) = 117)
include hu
open Classical in
theorem st_u (hj : j + 1 < l.length) : stepN v (l.drop j) = (match hex4 l (j + 2) with
    | none => 0
    | some v1 => if v = true ∧ 55296 ≤ v1 ∧ v1 ≤ 57343 then (if pairAt (l.drop j) v1 then 12 else 0) else 6) := by
  rw [st_esc v l j h0]
  unfold escN
  have := rd_drop l j 1
  rw [show ((1 : Nat) : Int) = 1 from rfl] at this
  rw [List.length_drop, if_neg (by omega), this, hu, if_neg (by decide), if_pos rfl, hex4_drop l j 2 (by omega)]
  rfl
theorem st_uNone (h : hex4 l (j + 2) = none) : stepN v (l.drop j) = 0 := by
  by_cases hj : j + 1 < l.length
  · rw [st_u v l j h0 hu hj, h]
  · exact st_short v l j h0 hj
theorem st_uPlain {v1 : Int} (h : hex4 l (j + 2) = some v1) (hn : ¬ (v = true ∧ 55296 ≤ v1 ∧ v1 ≤ 57343)) : stepN v (l.drop j) = 6 := by
  have := hex4_len h
  rw [st_u v l j h0 hu (by omega), h]
  exact if_neg hn
end
open Classical in
theorem st_pair (l : List Int) (j : Nat) (h0 : rd l (j : Int) = 92) (hu : rd l ((j + 1 : Nat) : Int) = 117) {v1 : Int} (h : hex4 l (j + 2) = some v1) (hn : true = true ∧ 55296 ≤ v1 ∧ v1 ≤ 57343)
    (hp : ¬ (v1 < 56320 ∧ j + 12 ≤ l.length ∧ rd l ((j + 6 : Nat) : Int) = 92 ∧ rd l ((j + 7 : Nat) : Int) = 117 ∧ ∃ v2, hex4 l (j + 8) = some v2 ∧ 56320 ≤ v2 ∧ v2 ≤ 57343)) : stepN true (l.drop j) = 0 := by
  have hl := hex4_len h
  rw [st_u true l j h0 hu (by omega), h]
  have hq : ¬ pairAt (l.drop j) v1 := fun ⟨a1, a2, a3, a4, v2, a5, a6⟩ => hp (by
    have e6 := rd_drop l j 6
    have e7 := rd_drop l j 7
    rw [show ((6 : Nat) : Int) = 6 from rfl] at e6
    rw [show ((7 : Nat) : Int) = 7 from rfl] at e7
    rw [List.length_drop] at a2
    exact ⟨a1, by omega, e6 ▸ a3, e7 ▸ a4, v2, by rw [← hex4_drop l j 8 (by omega)]; exact a5, a6⟩)
  show (if true = true ∧ 55296 ≤ v1 ∧ v1 ≤ 57343 then (if pairAt (l.drop j) v1 then 12 else 0) else 6) = 0
  rw [if_pos hn, if_neg hq]
open Classical in
theorem st_pairY (l : List Int) (j : Nat) (h0 : rd l (j : Int) = 92) (hu : rd l ((j + 1 : Nat) : Int) = 117) {v1 : Int} (h : hex4 l (j + 2) = some v1) (hn : true = true ∧ 55296 ≤ v1 ∧ v1 ≤ 57343)
    (hp : v1 < 56320 ∧ j + 12 ≤ l.length ∧ rd l ((j + 6 : Nat) : Int) = 92 ∧ rd l ((j + 7 : Nat) : Int) = 117 ∧ ∃ v2, hex4 l (j + 8) = some v2 ∧ 56320 ≤ v2 ∧ v2 ≤ 57343) : stepN true (l.drop j) = 12 := by
  have hl := hex4_len h
  rw [st_u true l j h0 hu (by omega), h]
  obtain ⟨a1, a2, a3, a4, v2, a5, a6⟩ := hp
  have e6 := rd_drop l j 6
  have e7 := rd_drop l j 7
  rw [show ((6 : Nat) : Int) = 6 from rfl] at e6
  rw [show ((7 : Nat) : Int) = 7 from rfl] at e7
  have hq : pairAt (l.drop j) v1 := ⟨a1, by rw [List.length_drop]; omega, e6.trans a3, e7.trans a4, v2, by rw [hex4_drop l j 8 (by omega)]; exact a5, a6⟩
  show (if true = true ∧ 55296 ≤ v1 ∧ v1 ≤ 57343 then (if pairAt (l.drop j) v1 then 12 else 0) else 6) = 12
  rw [if_pos hn, if_pos hq]
theorem hexR_false {o : Option Int} {x : Int} (h : hexR o = (x, false)) : o = none := by
  cases o with
  | none => rfl
  | some v => simp [hexR] at h
theorem hexR_true {o : Option Int} {x : Int} (h : hexR o = (x, true)) : o = some x := by
  cases o with
  | none => simp [hexR] at h
  | some v => simp [hexR] at h; rw [h]
theorem RdF.pairNo {l : List Int} {j : Nat} {f0 g : Int} (h : RdF true l j f0 g) (hj : j < l.length) (hb : rd l (j : Int) = 92) (hu : rd l ((j + 1 : Nat) : Int) = 117) {v1 : Int} (hx : hex4 l (j + 2) = some v1) (hs : 55296 ≤ v1 ∧ v1 ≤ 57343) {p : Nat} (hp : p = j + 6)
    (hn : ¬ (v1 < 56320 ∧ p + 6 ≤ l.length ∧ rd l (p : Int) = 92 ∧ rd l ((p + 1 : Nat) : Int) = 117 ∧ ∃ v2, hex4 l (p + 2) = some v2 ∧ 56320 ≤ v2 ∧ v2 ≤ 57343)) : strEnd true l = none := by
  subst hp
  exact h.bad hj hb (by decide) (st_pair l j hb hu hx ⟨rfl, hs⟩ hn)
theorem RdF.pairYes {l : List Int} {j : Nat} {f0 g : Int} (h : RdF true l j f0 g) (hj : j < l.length) (hb : rd l (j : Int) = 92) (hu : rd l ((j + 1 : Nat) : Int) = 117) {v1 : Int} (hx : hex4 l (j + 2) = some v1) (hs : 55296 ≤ v1 ∧ v1 ≤ 57343) {p : Nat} (hp : p = j + 6)
    (hn : v1 < 56320 ∧ p + 6 ≤ l.length ∧ rd l (p : Int) = 92 ∧ rd l ((p + 1 : Nat) : Int) = 117 ∧ ∃ v2, hex4 l (p + 2) = some v2 ∧ 56320 ≤ v2 ∧ v2 ≤ 57343) : strEnd true l = strF true l (p + 6) := by
  subst hp
  exact h.go hj hb (by decide) (st_pairY l j hb hu hx ⟨rfl, hs⟩ hn) (by decide)
end Go.Proofs.YtjfbkgkpjkickaaGreatDoor.PAll
-- YtjfbkgkpjkickaaGreatDoorPAllx37
namespace Go.Proofs.YtjfbkgkpjkickaaGreatDoor.PAll
open Go.RowKit Go.Proofs.YtjfbkgkpjkickaaGreatDoorW.PrintWords Go.Proofs.YtjfbkgkpjkickaaGreatDoorW.PrintLast Go.Proofs.YtjfbkgkpjkickaaGreatDoorW.PrintMore
attribute [local go_sem] max2_int min2_int max_two min_two max_three min_three max_four min_four   -- for this text's walks alone
set_option linter.unusedVariables false
set_option linter.unusedSimpArgs false

def jsontext_internal_jsonflags_Flags_Get.f (a0_0 : Int) (a0_1 : Int) (a1 : Int) : Option (Bool) := some (decide ((Go.bits .and .u64 a0_1 a1) > 0))
set_option maxHeartbeats 8000000 in
set_option maxRecDepth 100000 in
theorem jsontext_internal_jsonflags_Flags_Get.calls (a0_0 : Int) (a0_1 : Int) (a1 : Int) (r : Bool) (w : World) (h : jsontext_internal_jsonflags_Flags_Get.f a0_0 a0_1 a1 = some r) :
    Calls Tryz.prog 98 #[.agg #[.int .u64 a0_0, .int .u64 a0_1], .int .u64 a1] w fun e w' => e = .returned (.bool r) ∧ Below w.heap.size w w' := by
  have hu127 := Tryz.underlying127
  have HB := Aside0.mk (Below.refl w.heap.size w)
  have H : (some (decide ((Go.bits .and .u64 a0_1 a1) > 0))) = some r := h
  clear h
  obtain rfl := Option.some.inj H
  go_enter Tryz.func98, Tryz.ntmps98
  go_wp2_with (first | ((with_reducible refine gate_dst (N := 2) rfl ?_); refine box_event ?hg (N := 2) ?hd (cs := #[.int .u64 a0_0, .int .u64 a0_1]) (t := 127) ?hr ?_; (case hd => rfl); (case hg => rfl); (case hr => first | (go_simp; done) | (go_simp; rfl)); intro gb158 hg w3 hbox hb; have n0_ := Aside0.mk (below_step (by repeat (first | (with_reducible first | exact HB.out | apply below_alloc | apply pw_below_drewN | apply below_drew1) | exact HB.out)) hb); have n1_ := Aside0.mk (hbox); have n2_ := Aside0.mk ((by rw [hg]; exact (below_size (by repeat (first | (with_reducible first | exact HB.out | apply below_alloc | apply pw_below_drewN | apply below_drew1) | exact HB.out))) : w.heap.size ≤ gb158)); have n3_ := Aside0.mk ((by rw [hg]; exact (below_size (by repeat (first | (with_reducible first | exact HB.out | apply below_alloc | apply pw_below_drewN | apply below_drew1) | exact HB.out))) : w.heap.size ≤ gb158)); clear HB; have HB := n0_; have BK158 := n1_; have GW158 := n2_; have GE158 := n3_; clear n0_ n1_ n2_ n3_; clear hb hbox hg; have hcz4_0 : w3.cell? ⟨gb158, 0, none⟩ = some (.int .u64 a0_0) := (blk_cell BK158.out 0).trans rfl; have hcz4_1 : w3.cell? ⟨gb158, 1, none⟩ = some (.int .u64 a0_1) := (blk_cell BK158.out 1).trans rfl; have hfz4_0 := blk_frozen BK158.out 0; have hfz4_1 := blk_frozen BK158.out 1))
  go_ret
  exact ⟨by first | rfl | (simp [errW_none, errW_some] <;> rfl) | (simp [*, errW_none, errW_some] <;> rfl), by repeat (first | (with_reducible first | exact HB.out | apply below_alloc | apply pw_below_drewN | apply below_drew1 | refine below_set ?_ GE158.out) | exact HB.out)⟩

end Go.Proofs.YtjfbkgkpjkickaaGreatDoor.PAll
-- YtjfbkgkpjkickaaGreatDoorBp
set_option linter.unusedVariables false
set_option linter.unusedSimpArgs false
namespace Go.Proofs.YtjfbkgkpjkickaaGreatDoor.PAll
open Go.RowKit Go.Proofs.YtjfbkgkpjkickaaGreatDoorW.PrintWords Go.Proofs.YtjfbkgkpjkickaaGreatDoorW.PrintLast Go.Proofs.YtjfbkgkpjkickaaGreatDoorW.PrintMore

/-- what the options say -/
structure Opt (vals : Int) (loose dup : Bool) : Prop where
  loose : decide (Go.bits .and .u64 vals 4 > 0) = loose
  dup : decide (Go.bits .and .u64 vals 2 > 0) = dup
  leg : decide (Go.bits .and .u64 vals 549755813888 > 0) = false
/-- the listed errors' addresses -/
def isSent (G : GV) (a : Addr) : Prop := a = G.eof ∨ a = G.ueof ∨ a = G.inv ∨ a = G.ins ∨ a = G.dup ∨ a = G.mism ∨ a = G.nons ∨ a = G.mx ∨ a = G.miss
/-- where they lie -/
structure Sent (w : World) (G : GV) (N : Nat) : Prop where
  lt : ∀ a, isSent G a → a.block < N
  blk : ∀ a, isSent G a → ∃ c t, w.heap[a.block]? = some (.cells c t (0, 0))
theorem Sent.mono {w w' : World} {G : GV} {N : Nat} (h : Sent w G N) (hb : Below w.heap.size w w') : Sent w' G N :=
  ⟨h.lt, fun a ha => by obtain ⟨c, t, e⟩ := h.blk a ha; exact ⟨c, t, by rw [hb.block _ (Array.getElem?_eq_some_iff.1 e).1]; exact e⟩⟩
theorem Sent.bb {w w' : World} {G : GV} {N F : Nat} (h : Sent w G N) (hb : BB F w w') (hF : N ≤ F) : Sent w' G N :=
  ⟨h.lt, fun a ha => by obtain ⟨c, t, e⟩ := h.blk a ha; exact ⟨c, t, by rw [hb.block _ (Array.getElem?_eq_some_iff.1 e).1 (by have := h.lt a ha; omega)]; exact e⟩⟩
theorem u47 : Tryz.prog.underlying 47 = some (.interface (Tryz.prog.methodsAt 47)) := by kernel_rfl
theorem u265 : Tryz.prog.underlying 265 = some (.pointer 285) := by kernel_rfl
theorem i265x : (Tryz.prog.info? 265).map (fun i => i.comparable) = some true := by kernel_rfl
theorem ie265x : (Tryz.prog.info? 285).map (fun i => i.size) = some 1 := by kernel_rfl
theorem i265 : ∃ i, Tryz.prog.info? 265 = some i ∧ i.comparable = true := by
  obtain ⟨i, h1, h2⟩ := Option.map_eq_some_iff.1 i265x
  exact ⟨i, h1, h2⟩
theorem ie265 : ∃ i, Tryz.prog.info? 285 = some i ∧ i.size ≠ 0 := by
  obtain ⟨i, h1, h2⟩ := Option.map_eq_some_iff.1 ie265x
  exact ⟨i, h1, by rw [h2]; decide⟩
theorem eqSent {w : World} {G : GV} {N : Nat} (h : Sent w G N) {a b : Addr} (ha : isSent G a) (hb : isSent G b) : (binOp .eql 47 (.iface 265 (.pointer (some a))) (.iface 265 (.pointer (some b)))).run Tryz.prog w = .ok (.bool (decide (a = b))) w := by
  obtain ⟨i, hi, hc⟩ := i265
  obtain ⟨j, hj, hz⟩ := ie265
  by_cases e : a = b
  · subst e
    rw [decide_eq_true rfl]
    exact run_eql_iface_ptr_same w a u47 u265 hi hc hj
  · rw [decide_eq_false e]
    obtain ⟨c1, t1, e1⟩ := h.blk a ha
    obtain ⟨c2, t2, e2⟩ := h.blk b hb
    exact run_eql_iface_ptr_other w u47 u265 hi hc hj hz e e1 e2
theorem eqNil (w : World) (v : Value) : (binOp .eql 47 .nilIface (.iface 265 v)).run Tryz.prog w = .ok (.bool false) w := run_eql_iface_nil_left w 265 v u47
theorem eq153 (w : World) (v u : Value) : (binOp .eql 47 (.iface 153 v) (.iface 265 u)).run Tryz.prog w = .ok (.bool false) w := by kernel_rfl
theorem eq67 (w : World) (v u : Value) : (binOp .eql 47 (.iface 67 v) (.iface 265 u)).run Tryz.prog w = .ok (.bool false) w := by kernel_rfl
/-- the decoder over its text -/
structure Inv (w : World) (G : GV) (D B c : Nat) (t : List Int) (s : DS) (loose dup : Bool) : Prop where
  env : Env w G
  dec : DecAt w D s
  buf : s.buf = .slice (some ⟨B, 0, none⟩) t.length c
  rb : RB w B 0 t
  bs : Bs t
  hc : t.length ≤ c
  hc2 : c ≤ 9223372036854775807
  hl : t.length ≤ 4000000000
  hBD : B < D
  h13 : 13 ≤ B
  opt : Opt s.vals loose dup
  sent : Sent w G B
section
variable {w w' : World} {G : GV} {D B c F : Nat} {t : List Int} {s : DS} {loose dup : Bool}
theorem Inv.mono (h : Inv w G D B c t s loose dup) (hb : Below w.heap.size w w') : Inv w' G D B c t s loose dup :=
  ⟨h.env.mono hb, h.dec.mono hb, h.buf, h.rb.mono hb, h.bs, h.hc, h.hc2, h.hl, h.hBD, h.h13, h.opt, h.sent.mono hb⟩
theorem DecAt.bb {s : DS} (h : DecAt w D s) (hb : BB F w w') (hF : D ≠ F) : DecAt w' D s := by
  unfold DecAt at *
  rw [hb.block D (Array.getElem?_eq_some_iff.1 h).1 hF]; exact h
theorem Inv.bb (h : Inv w G D B c t s loose dup) (hb : BB F w w') (hF : D < F) : Inv w' G D B c t s loose dup := by
  have := h.hBD
  have := h.h13
  exact ⟨h.env.bb hb (by omega), h.dec.bb hb (by omega), h.buf, h.rb.bb hb (by omega), h.bs, h.hc, h.hc2, h.hl, h.hBD, h.h13, h.opt, h.sent.bb hb (by omega)⟩
theorem DecAt.cell {s : DS} (h : DecAt w D s) (i : Nat) (v : Value) (hi : s.cells[i]? = some v) : w.cell? ⟨D, i, none⟩ = some v := by
  unfold DecAt at h; simp [World.cell?, h, hi]
theorem Inv.c7 (h : Inv w G D B c t s loose dup) : w.cell? ⟨D, 7, none⟩ = some (.slice (some ⟨B, 0, none⟩) t.length c) := h.dec.cell 7 _ (by rw [← h.buf]; rfl)
theorem Inv.c10 (h : Inv w G D B c t s loose dup) : w.cell? ⟨D, 10, none⟩ = some (.int .i64 0) := h.dec.cell 10 _ rfl
theorem Inv.c11 (h : Inv w G D B c t s loose dup) : w.cell? ⟨D, 11, none⟩ = some .nilIface := h.dec.cell 11 _ rfl
theorem Inv.c13 (h : Inv w G D B c t s loose dup) : w.cell? ⟨D, 13, none⟩ = some (.int .u64 s.pres) := h.dec.cell 13 _ rfl
theorem Inv.c14 (h : Inv w G D B c t s loose dup) : w.cell? ⟨D, 14, none⟩ = some (.int .u64 s.vals) := h.dec.cell 14 _ rfl
end
set_option maxRecDepth 100000 in
theorem f86 (D : Nat) (s : DS) (w : World) (hD : DecAt w D s) : Calls Tryz.prog 86 #[.pointer (some ⟨D, 5, none⟩)] w fun e w' => e = .returned (.tuple #[]) ∧ Drawn0 w w' := by
  have c11 : w.cell? ⟨D, 11, none⟩ = some .nilIface := hD.cell 11 _ rfl
  clear hD
  go_enter Tryz.func86, Tryz.ntmps86
  go_wp2_with (fail)
  go_region
  go_wp2_with (fail)
  go_returns
  exact ⟨rfl, by repeat (first | exact Drawn0.refl _ | apply Drawn0.step)⟩
theorem f98 (a b m : Int) (r : Bool) (h : decide (Go.bits .and .u64 b m > 0) = r) (w : World) : Calls Tryz.prog 98 #[.agg #[.int .u64 a, .int .u64 b], .int .u64 m] w fun e w' => e = .returned (.bool r) ∧ Below w.heap.size w w' :=
  jsontext_internal_jsonflags_Flags_Get.calls a b m r w (by unfold jsontext_internal_jsonflags_Flags_Get.f; rw [h])
end Go.Proofs.YtjfbkgkpjkickaaGreatDoor.PAll
-- YtjfbkgkpjkickaaGreatDoorPAllx36
namespace Go.Proofs.YtjfbkgkpjkickaaGreatDoor.PAll
open Go.RowKit Go.Proofs.YtjfbkgkpjkickaaGreatDoorW.PrintWords Go.Proofs.YtjfbkgkpjkickaaGreatDoorW.PrintLast Go.Proofs.YtjfbkgkpjkickaaGreatDoorW.PrintMore
attribute [local go_sem] max2_int min2_int max_two min_two max_three min_three max_four min_four   -- for this text's walks alone
set_option linter.unusedVariables false
set_option linter.unusedSimpArgs false

def jsontext_stateMachine_Depth.f (l0_0 : List Int) (a0_1 : Int) : Option (Int) := some (wrap64 ((l0_0.length : Int) + 1))
set_option maxHeartbeats 8000000 in
set_option maxRecDepth 100000 in
theorem jsontext_stateMachine_Depth.calls (A0_0 : Option Addr) (c0_0 : Nat) (l0_0 : List Int) (a0_1 : Int) (r : Int) (w : World) (hr0_0 : Kd.C (Kd.int .u64) w A0_0 l0_0.length l0_0) (hc0_0 : l0_0.length ≤ c0_0) (h : jsontext_stateMachine_Depth.f l0_0 a0_1 = some r) :
    Calls Tryz.prog 90 #[.agg #[.slice A0_0 l0_0.length c0_0, .int .u64 a0_1]] w fun e w' => e = .returned (.int .i64 r) ∧ Below w.heap.size w w' := by
  have hu114 := Tryz.underlying114
  have HR0_0 := Aside0.mk hr0_0
  have HC0_0 := Aside0.mk hc0_0
  clear hr0_0 hc0_0
  have HB := Aside0.mk (Below.refl w.heap.size w)
  have H : (some (wrap64 ((l0_0.length : Int) + 1))) = some r := h
  clear h
  obtain rfl := Option.some.inj H
  go_enter Tryz.func90, Tryz.ntmps90
  go_wp2_with (first | ((with_reducible refine gate_dst (N := 1) rfl ?_); refine box_event ?hg (N := 1) ?hd (cs := #[.slice A0_0 l0_0.length c0_0, .int .u64 a0_1]) (t := 114) ?hr ?_; (case hd => rfl); (case hg => rfl); (case hr => first | (go_simp; done) | (go_simp; rfl)); intro gb157 hg w2 hbox hb; have n0_ := Aside0.mk (below_step (by repeat (first | (with_reducible first | exact HB.out | apply below_alloc | apply pw_below_drewN | apply below_drew1) | exact HB.out)) hb); have n1_ := Aside0.mk (hbox); have n2_ := Aside0.mk ((by rw [hg]; exact (below_size (by repeat (first | (with_reducible first | exact HB.out | apply below_alloc | apply pw_below_drewN | apply below_drew1) | exact HB.out))) : w.heap.size ≤ gb157)); have n3_ := Aside0.mk ((by rw [hg]; exact (below_size (by repeat (first | (with_reducible first | exact HB.out | apply below_alloc | apply pw_below_drewN | apply below_drew1) | exact HB.out))) : w.heap.size ≤ gb157)); clear HB; have HB := n0_; have BK157 := n1_; have GW157 := n2_; have GE157 := n3_; clear n0_ n1_ n2_ n3_; clear hb hbox hg; have hcz3_0 : w2.cell? ⟨gb157, 0, none⟩ = some (.slice A0_0 l0_0.length c0_0) := (blk_cell BK157.out 0).trans rfl; have hcz3_1 : w2.cell? ⟨gb157, 1, none⟩ = some (.int .u64 a0_1) := (blk_cell BK157.out 1).trans rfl; have hfz3_0 := blk_frozen BK157.out 0; have hfz3_1 := blk_frozen BK157.out 1))
  go_ret
  exact ⟨by first | rfl | (simp [errW_none, errW_some] <;> rfl) | (simp [*, errW_none, errW_some] <;> rfl), by repeat (first | (with_reducible first | exact HB.out | apply below_alloc | apply pw_below_drewN | apply below_drew1 | refine below_set ?_ GE157.out) | exact HB.out)⟩

end Go.Proofs.YtjfbkgkpjkickaaGreatDoor.PAll
-- YtjfbkgkpjkickaaGreatDoorBs
set_option linter.unusedVariables false
set_option linter.unusedSimpArgs false
namespace Go.Proofs.YtjfbkgkpjkickaaGreatDoor.PAll
open Go.RowKit Go.Proofs.YtjfbkgkpjkickaaGreatDoorW.PrintWords Go.Proofs.YtjfbkgkpjkickaaGreatDoorW.PrintLast Go.Proofs.YtjfbkgkpjkickaaGreatDoorW.PrintMore

theorem quiet0 {P : Program} {f : FuncId} {args : Array Value} {w : World} {n : Nat} {v : Value} (h : Calls P f args (w.drewN n) fun e w' => e = .returned v ∧ Drawn0 (w.drewN n) w') : Calls P f args (w.drewN n) fun e w'' => e = .returned v ∧ ∃ m, w'' = w.drewN m :=
  h.mono fun _ _ ⟨he, m, hm⟩ => ⟨he, n + m, by rw [hm, World.drewN_drewN]⟩
/-- nothing has been pushed -/
structure Top (s : DS) : Prop where
  stack : ∃ A c, s.stack = .slice A 0 c
  offs : ∃ A c, s.offs = .slice A 0 c
  last : s.last = 0 ∨ s.last = 1
set_option maxRecDepth 100000 in
theorem f171 (D : Nat) (s : DS) (v : Value) (w : World) (hD : DecAt w D s) (hT : Top s) : Calls Tryz.prog 171 #[.pointer (some ⟨D, 2, none⟩), v] w fun e w' => e = .returned (.tuple #[]) ∧ Drawn0 w w' := by
  obtain ⟨A, c, ho⟩ := hT.offs
  have c2 : w.cell? ⟨D, 2, none⟩ = some (.slice A 0 c) := hD.cell 2 _ (by rw [← ho]; rfl)
  clear hD hT ho
  go_enter Tryz.func171, Tryz.ntmps171
  go_wp2_with (fail)
  go_loopg [4] 1 (fun kq v4 w' => v4 = .int .i64 (-1) ∧ w = w')
  case atStart => exact ⟨rfl, rfl⟩
  case round =>
    obtain ⟨rfl, rfl⟩ := hrel
    go_wp2_with (fail)
    go_loopg [4] 1 (fun kq v4 w' => v4 = .int .i64 0 ∧ w = w')
    case atStart => exact ⟨rfl, rfl⟩
    case round =>
      obtain ⟨rfl, rfl⟩ := hrel
      go_wp2_with (fail)
      go_returns
      exact ⟨rfl, Drawn0.refl _⟩
theorem f90 (A : Option Addr) (c : Nat) (x : Int) (w : World) : Calls Tryz.prog 90 #[.agg #[.slice A 0 c, .int .u64 x]] w fun e w' => e = .returned (.int .i64 1) ∧ Below w.heap.size w w' := by
  have := jsontext_stateMachine_Depth.calls A c [] x 1 w (Kd.C_of_reads (enc := Value.int .u64) (d := (0 : Int)) (h1 := fun _ => rfl) ⟨rfl, by decide, fun h => absurd h (by decide)⟩) (Nat.zero_le _) (by unfold jsontext_stateMachine_Depth.f; exact congrArg some (by decide +kernel))
  exact this
set_option maxRecDepth 100000 in
theorem f225 (D : Nat) (s : DS) (k : Int) (w : World) (hT : Top s) : Calls Tryz.prog 225 #[.agg #[s.stack, .int .u64 s.last, s.offs, s.unq, s.nss], .slice none 0 0, .int .i64 k] w fun e w' => e = .returned (.slice none 0 0) ∧ Below w.heap.size w w' := by
  obtain ⟨A, c, hs⟩ := hT.stack
  rw [hs]
  have C90 := Lib.hid (f90 A c s.last)
  clear hs hT
  have HB := Aside0.mk (Below.refl w.heap.size w)
  go_enter Tryz.func225, Tryz.ntmps225
  go_wp2_with (first | ((with_reducible refine gate_dst (N := 3) rfl ?_); refine box_event ?hg (N := 3) ?hd (cs := #[.slice A 0 c, .int .u64 s.last, s.offs, s.unq, s.nss]) (t := 121) ?hr ?_; (case hd => rfl); (case hg => rfl); (case hr => first | (go_simp; done) | (go_simp; rfl)); intro gb hg w2 hbox hb; have n0_ := Lib.hid hb; have n1_ := Lib.hid hbox; have x0 : w2.cell? ⟨gb, 0, none⟩ = some (.slice A 0 c) := (blk_cell hbox 0).trans rfl; have x1 : w2.cell? ⟨gb, 1, none⟩ = some (.int .u64 s.last) := (blk_cell hbox 1).trans rfl; clear hb hbox hg))
  go_loopg [1, 8] 1 (fun kq v1 v8 w' => v1 = .slice none 0 0 ∧ v8 = .int .i64 1 ∧ w2 = w')
  case atStart => exact ⟨rfl, rfl, rfl⟩
  case round =>
    obtain ⟨rfl, rfl, rfl⟩ := hrel
    go_wp2_with (fail)
    refine (C90.out _).mono ?_
    rintro e w3 ⟨rfl, hb3⟩
    have H3 := Lib.hid hb3
    clear hb3
    go_wp2_with (fail)
    go_returns
    exact ⟨rfl, (n0_.out).trans (H3.out.mono n0_.out.size)⟩
set_option maxRecDepth 100000 in
theorem f231 (D : Nat) (s : DS) (k : Int) (w : World) (hD : DecAt w D s) (hT : Top s) : Calls Tryz.prog 231 #[.pointer (some ⟨D, 0, none⟩), .slice none 0 0, .int .i64 k] w fun e w' => e = .returned (.slice none 0 0) ∧ Below w.heap.size w w' := by
  have c0 : w.cell? ⟨D, 0, none⟩ = some s.stack := hD.cell 0 _ rfl
  have c1 : w.cell? ⟨D, 1, none⟩ = some (.int .u64 s.last) := hD.cell 1 _ rfl
  have c2 : w.cell? ⟨D, 2, none⟩ = some s.offs := hD.cell 2 _ rfl
  have c3 : w.cell? ⟨D, 3, none⟩ = some s.unq := hD.cell 3 _ rfl
  have c4 : w.cell? ⟨D, 4, none⟩ = some s.nss := hD.cell 4 _ rfl
  have c7 : w.cell? ⟨D, 7, none⟩ = some s.buf := hD.cell 7 _ rfl
  have C171 := Lib.hid (fun (n : Nat) => f171 D s s.buf (w.drewN n) (hD.mono (pw_below_drewN (Below.refl _ _) n)) hT)
  have C225 := Lib.hid (fun W => f225 D s k W hT)
  clear hD hT
  go_enter Tryz.func231, Tryz.ntmps231
  go_wp2_with (fail)
  go_quiet ((go_at_call 171; exact quiet0 (C171.out _)))
  go_wp2_with (fail)
  refine (C225.out _).mono ?_
  rintro e w3 ⟨rfl, hb3⟩
  have H3 := Lib.hid hb3
  clear hb3
  go_wp2_with (fail)
  go_returns
  exact ⟨rfl, (pw_below_drewN (Below.refl _ _) _).trans (H3.out.mono (Nat.le_refl _))⟩
theorem f222 (D : Nat) (s : DS) (p : Int) (w : World) (hD : DecAt w D s) (hp : 0 ≤ p ∧ p ≤ 4000000000) : Calls Tryz.prog 222 #[.pointer (some ⟨D, 5, none⟩), .int .i64 p] w fun e w' => e = .returned (.int .i64 p) ∧ w = w' := by
  have c10 : w.cell? ⟨D, 10, none⟩ = some (.int .i64 0) := hD.cell 10 _ rfl
  have hw : wrap64 p = p := by unfold wrap64; omega
  clear hD
  go_enter Tryz.func222, Tryz.ntmps222
  go_wp2_with (fail)
  go_returns
  exact ⟨rfl, rfl⟩
theorem f234 (D : Nat) (w : World) : Calls Tryz.prog 234 #[.pointer (some ⟨D, 0, none⟩)] w fun e w' => e = .returned (.pointer (some ⟨D, 13, none⟩)) ∧ w = w' := by
  go_enter Tryz.func234, Tryz.ntmps234
  go_wp2_with (fail)
  go_returns
  exact ⟨rfl, rfl⟩
end Go.Proofs.YtjfbkgkpjkickaaGreatDoor.PAll
-- YtjfbkgkpjkickaaGreatDoorBt
set_option linter.unusedVariables false
set_option linter.unusedSimpArgs false
namespace Go.Proofs.YtjfbkgkpjkickaaGreatDoor.PAll
open Go.RowKit Go.Proofs.YtjfbkgkpjkickaaGreatDoorW.PrintWords Go.Proofs.YtjfbkgkpjkickaaGreatDoorW.PrintLast Go.Proofs.YtjfbkgkpjkickaaGreatDoorW.PrintMore

theorem ta265_198 (v : Value) (w : World) : (Instr.typeAssert (.iface 265 v) 47 198 true).run Tryz.prog w = .ok (.tuple #[.pointer none, .bool false]) w := by kernel_rfl
theorem ta153_198 (v : Value) (w : World) : (Instr.typeAssert (.iface 153 v) 47 198 true).run Tryz.prog w = .ok (.tuple #[.pointer none, .bool false]) w := by kernel_rfl
theorem ta265_201 (v : Value) (w : World) : (Instr.typeAssert (.iface 265 v) 47 201 true).run Tryz.prog w = .ok (.tuple #[.pointer none, .bool false]) w := by kernel_rfl
theorem ta153_201 (v : Value) (w : World) : (Instr.typeAssert (.iface 153 v) 47 201 true).run Tryz.prog w = .ok (.tuple #[.pointer none, .bool false]) w := by kernel_rfl
theorem ta161 (v : Value) (w : World) : (Instr.typeAssert (.iface 161 v) 197 161 true).run Tryz.prog w = .ok (.tuple #[v, .bool true]) w := by kernel_rfl
theorem conv_nil (w : World) : (convert 22 72 (.slice none 0 0)).run Tryz.prog w = .ok (.string ⟨#[]⟩) w := by kernel_rfl
/-- an error with a place -/
def SynPost (w : World) (e : Ending) (w' : World) : Prop := ∃ g : Nat, e = .returned (.iface 67 (.pointer (some ⟨g, 0, none⟩))) ∧ Below w.heap.size w w'
set_option maxRecDepth 100000 in
set_option maxHeartbeats 4000000 in
theorem f91a (D B c p : Nat) (t : List Int) (s : DS) (loose dup : Bool) (k : Int) (gg : Nat) (w : World) (G : GV) (hI : Inv w G D B c t s loose dup) (hT : Top s) (hp : p ≤ t.length) :
    Calls Tryz.prog 91 #[.iface 161 (.pointer (some ⟨D, 0, none⟩)), .iface 153 (.pointer (some ⟨gg, 0, none⟩)), .int .i64 p, .int .i64 k] w (SynPost w) := by
  have hl := hI.hl
  have hc := hI.hc
  have hc2 := hI.hc2
  have t3 := ta161 (.pointer (some ⟨D, 0, none⟩))
  have t1 := ta153_198 (.pointer (some ⟨gg, 0, none⟩))
  have t2 := ta153_201 (.pointer (some ⟨gg, 0, none⟩))
  have q0 := fun W => eq153 W (.pointer (some ⟨gg, 0, none⟩)) (.pointer (some G.eof))
  have q8 := fun W => eq153 W (.pointer (some ⟨gg, 0, none⟩)) (.pointer (some G.mism))
  have h0 := hI.env.h0
  have HI := Lib.hid hI
  have HT := Lib.hid hT
  have C222 := Lib.hid (f222 D s p w hI.dec (by omega))
  have C231 := Lib.hid (f231 D s k w hI.dec hT)
  clear hI hT
  go_enter Tryz.func91, Tryz.ntmps91
  go_wp2_with (fail)
  refine C222.out.mono ?_
  rintro e w1 ⟨rfl, rfl⟩
  go_wp2_with (fail)
  refine C231.out.mono ?_
  rintro e w1 ⟨rfl, hb1⟩
  have HB1 := Lib.hid hb1
  have HI1 := Lib.hid (HI.out.mono hb1)
  have h8 := HI1.out.env.h8
  have c13 := HI1.out.c13
  have c14 := HI1.out.c14
  clear hb1
  have C98 := Lib.hid (fun (W : World) => f98 s.pres s.vals 549755813888 false HI1.out.opt.leg W)
  have C234 := Lib.hid (f234 D w1)
  have cnil := conv_nil
  go_wp2_with (fail)
  refine C234.out.mono ?_
  rintro e w8 ⟨rfl, rfl⟩
  go_wp2_with (fail)
  refine (C98.out _).mono ?_
  rintro e w9 ⟨rfl, hb9⟩
  have HB9 := Lib.hid hb9
  clear hb9
  go_wp2_with (fail)
  go_returns
  exact ⟨_, rfl, below_alloc (HB1.out.trans (HB9.out.mono HB1.out.size)) _⟩
set_option maxRecDepth 100000 in
set_option maxHeartbeats 4000000 in
theorem f91b (D B c p : Nat) (t : List Int) (s : DS) (loose dup : Bool) (k : Int)  (w : World) (G : GV) (hI : Inv w G D B c t s loose dup) (hT : Top s) (hp : p ≤ t.length) (a : Addr) (ha : a = G.ueof ∨ a = G.inv ∨ a = G.ins ∨ a = G.dup ∨ a = G.mism ∨ a = G.nons ∨ a = G.mx ∨ a = G.miss) (hm : a ≠ G.mism) :
    Calls Tryz.prog 91 #[.iface 161 (.pointer (some ⟨D, 0, none⟩)), .iface 265 (.pointer (some a)), .int .i64 p, .int .i64 k] w (SynPost w) := by
  have hl := hI.hl
  have hc := hI.hc
  have hc2 := hI.hc2
  have t3 := ta161 (.pointer (some ⟨D, 0, none⟩))
  have t1 := ta265_198 (.pointer (some a))
  have t2 := ta265_201 (.pointer (some a))
  have q0 := eqSent hI.sent (a := a) (b := G.eof) (.inr ha) (.inl rfl)
  rw [decide_eq_false (hI.env.ne a ha)] at q0
  have h0 := hI.env.h0
  have HI := Lib.hid hI
  have HT := Lib.hid hT
  have C222 := Lib.hid (f222 D s p w hI.dec (by omega))
  have C231 := Lib.hid (f231 D s k w hI.dec hT)
  clear hI hT
  go_enter Tryz.func91, Tryz.ntmps91
  go_wp2_with (fail)
  refine C222.out.mono ?_
  rintro e w1 ⟨rfl, rfl⟩
  go_wp2_with (fail)
  refine C231.out.mono ?_
  rintro e w1 ⟨rfl, hb1⟩
  have HB1 := Lib.hid hb1
  have HI1 := Lib.hid (HI.out.mono hb1)
  have h8 := HI1.out.env.h8
  have c13 := HI1.out.c13
  have c14 := HI1.out.c14
  have q8 := eqSent HI1.out.sent (a := a) (b := G.mism) (.inr ha) (.inr (.inr (.inr (.inr (.inr (.inl rfl))))))
  rw [decide_eq_false hm] at q8
  clear hb1 ha hm
  have C98 := Lib.hid (fun (W : World) => f98 s.pres s.vals 549755813888 false HI1.out.opt.leg W)
  have C234 := Lib.hid (f234 D w1)
  have cnil := conv_nil
  go_wp2_with (fail)
  refine C234.out.mono ?_
  rintro e w8 ⟨rfl, rfl⟩
  go_wp2_with (fail)
  refine (C98.out _).mono ?_
  rintro e w9 ⟨rfl, hb9⟩
  have HB9 := Lib.hid hb9
  clear hb9
  go_wp2_with (fail)
  go_returns
  exact ⟨_, rfl, below_alloc (HB1.out.trans (HB9.out.mono HB1.out.size)) _⟩
set_option maxRecDepth 100000 in
set_option maxHeartbeats 4000000 in
theorem f91c (D B c p : Nat) (t : List Int) (s : DS) (loose dup : Bool) (k : Int)  (w : World) (G : GV) (hI : Inv w G D B c t s loose dup) (hT : Top s) (hp : p ≤ t.length) (hp2 : p < t.length) :
    Calls Tryz.prog 91 #[.iface 161 (.pointer (some ⟨D, 0, none⟩)), .iface 265 (.pointer (some G.mism)), .int .i64 p, .int .i64 k] w (SynPost w) := by
  have hl := hI.hl
  have hc := hI.hc
  have hc2 := hI.hc2
  have t3 := ta161 (.pointer (some ⟨D, 0, none⟩))
  have t1 := ta265_198 (.pointer (some G.mism))
  have t2 := ta265_201 (.pointer (some G.mism))
  have q0 := eqSent hI.sent (a := G.mism) (b := G.eof) (.inr (.inr (.inr (.inr (.inr (.inl rfl)))))) (.inl rfl)
  rw [decide_eq_false (hI.env.ne _ (.inr (.inr (.inr (.inr (.inl rfl))))))] at q0
  have h0 := hI.env.h0
  have HI := Lib.hid hI
  have HT := Lib.hid hT
  have C222 := Lib.hid (f222 D s p w hI.dec (by omega))
  have C231 := Lib.hid (f231 D s k w hI.dec hT)
  clear hI hT
  go_enter Tryz.func91, Tryz.ntmps91
  go_wp2_with (fail)
  refine C222.out.mono ?_
  rintro e w1 ⟨rfl, rfl⟩
  go_wp2_with (fail)
  refine C231.out.mono ?_
  rintro e w1 ⟨rfl, hb1⟩
  have HB1 := Lib.hid hb1
  have HI1 := Lib.hid (HI.out.mono hb1)
  have h8 := HI1.out.env.h8
  have c13 := HI1.out.c13
  have c14 := HI1.out.c14
  have q8 := eqSent HI1.out.sent (a := G.mism) (b := G.mism) (.inr (.inr (.inr (.inr (.inr (.inl rfl)))))) (.inr (.inr (.inr (.inr (.inr (.inl rfl))))))
  rw [decide_eq_true rfl] at q8
  obtain ⟨sA, sc, hs⟩ := HT.out.stack
  have c0 : w1.cell? ⟨D, 0, none⟩ = some (.slice sA 0 sc) := HI1.out.dec.cell 0 _ (by rw [← hs]; rfl)
  have c7 := HI1.out.c7
  have C60 := fun s' => f60 B p (c - p) (t.drop p) s' w1 G HI1.out.env (HI1.out.rb.sub p p (fun _ => by omega)) (by rw [List.length_drop]; omega) (by rw [List.length_drop]; omega) (HI1.out.bs.drop p) (by rw [List.length_drop]; omega) (by omega)
  rw [List.length_drop] at C60
  have H60 := Lib.hid C60
  clear hb1 hs C60
  go_wp2_with (fail)
  refine (H60.out _).mono ?_
  rintro e w2 ⟨gg, rfl, hb2⟩
  have HB2 := Lib.hid (HB1.out.trans (hb2.mono HB1.out.size))
  have HI2 := Lib.hid (HI1.out.mono hb2)
  have d13 := HI2.out.c13
  have d14 := HI2.out.c14
  clear hb2 c13 c14 c0 c7
  have C98 := Lib.hid (fun (W : World) => f98 s.pres s.vals 549755813888 false HI2.out.opt.leg W)
  have C234 := Lib.hid (f234 D w2)
  have cnil := conv_nil
  go_wp2_with (fail)
  refine C234.out.mono ?_
  rintro e w8 ⟨rfl, rfl⟩
  go_wp2_with (fail)
  refine (C98.out _).mono ?_
  rintro e w9 ⟨rfl, hb9⟩
  have HB9 := Lib.hid hb9
  clear hb9
  go_wp2_with (fail)
  go_returns
  exact ⟨_, rfl, below_alloc (HB2.out.trans (HB9.out.mono HB2.out.size)) _⟩
set_option maxRecDepth 100000 in
theorem f91e (D B c : Nat) (t : List Int) (s : DS) (loose dup : Bool) (p k : Int) (w : World) (G : GV) (hI : Inv w G D B c t s loose dup) :
    Calls Tryz.prog 91 #[.iface 161 (.pointer (some ⟨D, 0, none⟩)), .iface 265 (.pointer (some G.eof)), .int .i64 p, .int .i64 k] w fun e w' => e = .returned (.iface 265 (.pointer (some G.eof))) ∧ w = w' := by
  have h0 := hI.env.h0
  have t1 := ta265_198 (.pointer (some G.eof))
  have q0 := eqSent hI.sent (a := G.eof) (b := G.eof) (.inl rfl) (.inl rfl)
  rw [decide_eq_true rfl] at q0
  clear hI
  go_enter Tryz.func91, Tryz.ntmps91
  go_wp2_with (fail)
  go_returns
  exact ⟨rfl, rfl⟩
/-- an error of the text, whatever it is -/
theorem f91 (D B c p : Nat) (t : List Int) (s : DS) (loose dup : Bool) (k : Int) (x : Value) (w : World) (G : GV) (hI : Inv w G D B c t s loose dup) (hT : Top s) (hp : p ≤ t.length) (hx : ErrS G x) (hm : x = .iface 265 (.pointer (some G.mism)) → p < t.length) :
    Calls Tryz.prog 91 #[.iface 161 (.pointer (some ⟨D, 0, none⟩)), x, .int .i64 p, .int .i64 k] w (SynPost w) := by
  rcases hx with ⟨a, rfl, ha⟩ | ⟨gg, rfl⟩
  · by_cases e : a = G.mism
    · subst e
      exact f91c D B c p t s loose dup k w G hI hT hp (hm rfl)
    · exact f91b D B c p t s loose dup k w G hI hT hp a ha e
  · exact f91a D B c p t s loose dup k gg w G hI hT hp
end Go.Proofs.YtjfbkgkpjkickaaGreatDoor.PAll
-- YtjfbkgkpjkickaaGreatDoorPAllx48
namespace Go.Proofs.YtjfbkgkpjkickaaGreatDoor.PAll
open Go.RowKit Go.Proofs.YtjfbkgkpjkickaaGreatDoorW.PrintWords Go.Proofs.YtjfbkgkpjkickaaGreatDoorW.PrintLast Go.Proofs.YtjfbkgkpjkickaaGreatDoorW.PrintMore
attribute [local go_sem] max2_int min2_int max_two min_two max_three min_three max_four min_four   -- for this text's walks alone
set_option linter.unusedVariables false
set_option linter.unusedSimpArgs false

def jsontext_stateEntry_needObjectValue.f (a0 : Int) : Option (Bool) := some ((Go.bits .and .u64 a0 9223372036854775809) == 9223372036854775809)
set_option maxHeartbeats 8000000 in
set_option maxRecDepth 100000 in
theorem jsontext_stateEntry_needObjectValue.calls (a0 : Int) (r : Bool) (w : World) (h : jsontext_stateEntry_needObjectValue.f a0 = some r) :
    Calls Tryz.prog 162 #[.int .u64 a0] w fun e w' => e = .returned (.bool r) ∧ Drawn0 w w' := by
  have H : (some ((Go.bits .and .u64 a0 9223372036854775809) == 9223372036854775809)) = some r := h
  clear h
  obtain rfl := Option.some.inj H
  go_enter Tryz.func162, Tryz.ntmps162
  go_wp2
  go_ret
  exact ⟨by first | rfl | (simp; done) | (simp [*]; done), by repeat (first | exact Drawn0.refl _ | apply Drawn0.step)⟩

end Go.Proofs.YtjfbkgkpjkickaaGreatDoor.PAll
-- YtjfbkgkpjkickaaGreatDoorPAllx49
namespace Go.Proofs.YtjfbkgkpjkickaaGreatDoor.PAll
open Go.RowKit Go.Proofs.YtjfbkgkpjkickaaGreatDoorW.PrintWords Go.Proofs.YtjfbkgkpjkickaaGreatDoorW.PrintLast Go.Proofs.YtjfbkgkpjkickaaGreatDoorW.PrintMore
attribute [local go_sem] max2_int min2_int max_two min_two max_three min_three max_four min_four   -- for this text's walks alone
set_option linter.unusedVariables false
set_option linter.unusedSimpArgs false

def jsontext_stateEntry_needImplicitColon.f (a0 : Int) : Option (Bool) := (jsontext_stateEntry_needObjectValue.f a0).bind fun t163 => (some t163)
set_option maxHeartbeats 8000000 in
set_option maxRecDepth 100000 in
theorem jsontext_stateEntry_needImplicitColon.calls (a0 : Int) (r : Bool) (w : World) (h : jsontext_stateEntry_needImplicitColon.f a0 = some r) :
    Calls Tryz.prog 153 #[.int .u64 a0] w fun e w' => e = .returned (.bool r) ∧ Drawn0 w w' := by
  have H : ((jsontext_stateEntry_needObjectValue.f a0).bind fun t163 => (some t163)) = some r := h
  clear h
  replace H := Option.bind_eq_some_iff.mp H
  obtain ⟨t163, A20, H⟩ := H
  replace H : (some t163) = some r := H
  have A2 := Aside0.mk A20
  clear A20
  obtain rfl := Option.some.inj H
  go_enter Tryz.func153, Tryz.ntmps153
  go_wp2_with (first | ((with_reducible refine gate_callee (f := 162) rfl ?_); refine goesL_ (some 4) rfl rfl Tryz.func162 (by kernel_rfl) rfl #[.int .u64 a0] rfl (by (try simp only [List.map_toArray, List.map_cons, List.map_nil]); first | done | rfl | (simp only [List.length_drop, List.length_take]; rfl)) ?_; (with_reducible refine (jsontext_stateEntry_needObjectValue.calls a0 t163 _ A2.out).mono ?_); rintro e w' ⟨rfl, ⟨nd, rfl⟩⟩; refine ⟨_, rfl, ?_⟩))
  go_ret
  exact ⟨by first | rfl | (simp; done) | (simp [*]; done), by repeat (first | exact Drawn0.refl _ | apply Drawn0.step)⟩

end Go.Proofs.YtjfbkgkpjkickaaGreatDoor.PAll
-- YtjfbkgkpjkickaaGreatDoorPAllx41
namespace Go.Proofs.YtjfbkgkpjkickaaGreatDoor.PAll
open Go.RowKit Go.Proofs.YtjfbkgkpjkickaaGreatDoorW.PrintWords Go.Proofs.YtjfbkgkpjkickaaGreatDoorW.PrintLast Go.Proofs.YtjfbkgkpjkickaaGreatDoorW.PrintMore
attribute [local go_sem] max2_int min2_int max_two min_two max_three min_three max_four min_four   -- for this text's walks alone
set_option linter.unusedVariables false
set_option linter.unusedSimpArgs false

def jsontext_stateEntry_Length.f (a0 : Int) : Option (Int) := some (wrap64 (Go.bits .and .u64 a0 2305843009213693951))
set_option maxHeartbeats 8000000 in
set_option maxRecDepth 100000 in
theorem jsontext_stateEntry_Length.calls (a0 : Int) (r : Int) (w : World) (h : jsontext_stateEntry_Length.f a0 = some r) :
    Calls Tryz.prog 149 #[.int .u64 a0] w fun e w' => e = .returned (.int .i64 r) ∧ Drawn0 w w' := by
  have H : (some (wrap64 (Go.bits .and .u64 a0 2305843009213693951))) = some r := h
  clear h
  obtain rfl := Option.some.inj H
  go_enter Tryz.func149, Tryz.ntmps149
  go_wp2
  go_ret
  exact ⟨by first | rfl | (simp; done) | (simp [*]; done), by repeat (first | exact Drawn0.refl _ | apply Drawn0.step)⟩

end Go.Proofs.YtjfbkgkpjkickaaGreatDoor.PAll
-- YtjfbkgkpjkickaaGreatDoorPAllx50
namespace Go.Proofs.YtjfbkgkpjkickaaGreatDoor.PAll
open Go.RowKit Go.Proofs.YtjfbkgkpjkickaaGreatDoorW.PrintWords Go.Proofs.YtjfbkgkpjkickaaGreatDoorW.PrintLast Go.Proofs.YtjfbkgkpjkickaaGreatDoorW.PrintMore
attribute [local go_sem] max2_int min2_int max_two min_two max_three min_three max_four min_four   -- for this text's walks alone
set_option linter.unusedVariables false
set_option linter.unusedSimpArgs false

def jsontext_stateEntry_needImplicitComma.f (a0 : Int) (a1 : Int) : Option (Bool) := (jsontext_stateEntry_needObjectValue.f a0).bind fun t164 => (if t164 = true then (some false) else ((jsontext_stateEntry_Length.f a0).bind fun t165 => (if t165 > 0 then (if a1 = 125 then (some false) else (some (a1 != 93))) else (some false))))
set_option maxHeartbeats 8000000 in
set_option maxRecDepth 100000 in
theorem jsontext_stateEntry_needImplicitComma.calls (a0 : Int) (a1 : Int) (r : Bool) (w : World) (h : jsontext_stateEntry_needImplicitComma.f a0 a1 = some r) :
    Calls Tryz.prog 154 #[.int .u64 a0, .int .u8 a1] w fun e w' => e = .returned (.bool r) ∧ Drawn0 w w' := by
  have H : ((jsontext_stateEntry_needObjectValue.f a0).bind fun t164 => (if t164 = true then (some false) else ((jsontext_stateEntry_Length.f a0).bind fun t165 => (if t165 > 0 then (if a1 = 125 then (some false) else (some (a1 != 93))) else (some false))))) = some r := h
  clear h
  replace H := Option.bind_eq_some_iff.mp H
  obtain ⟨t164, A30, H⟩ := H
  replace H : (if t164 = true then (some false) else ((jsontext_stateEntry_Length.f a0).bind fun t165 => (if t165 > 0 then (if a1 = 125 then (some false) else (some (a1 != 93))) else (some false)))) = some r := H
  have A3 := Aside0.mk A30
  clear A30
  by_cases c4 : t164 = true
  · subst c4
    have H1 : (some false) = some r := by rw [if_pos rfl] at H; exact H
    clear H
    have H := H1
    clear H1
    obtain rfl := Option.some.inj H
    go_enter Tryz.func154, Tryz.ntmps154
    go_wp2_with (first | ((with_reducible refine gate_callee (f := 162) rfl ?_); refine goesL_ (some 6) rfl rfl Tryz.func162 (by kernel_rfl) rfl #[.int .u64 a0] rfl (by (try simp only [List.map_toArray, List.map_cons, List.map_nil]); first | done | rfl | (simp only [List.length_drop, List.length_take]; rfl)) ?_; (with_reducible refine (jsontext_stateEntry_needObjectValue.calls a0 true _ A3.out).mono ?_); rintro e w' ⟨rfl, ⟨nd, rfl⟩⟩; refine ⟨_, rfl, ?_⟩))
    go_ret
    exact ⟨by first | rfl | (simp; done) | (simp [*]; done), by repeat (first | exact Drawn0.refl _ | apply Drawn0.step)⟩
  · replace c4 := Bool.eq_false_iff.mpr c4
    subst c4
    have H1 : ((jsontext_stateEntry_Length.f a0).bind fun t165 => (if t165 > 0 then (if a1 = 125 then (some false) else (some (a1 != 93))) else (some false))) = some r := by rw [if_neg (show ¬ (false = true) by decide)] at H; exact H
    clear H
    have H := H1
    clear H1
    replace H := Option.bind_eq_some_iff.mp H
    obtain ⟨t165, A50, H⟩ := H
    replace H : (if t165 > 0 then (if a1 = 125 then (some false) else (some (a1 != 93))) else (some false)) = some r := H
    have A5 := Aside0.mk A50
    clear A50
    by_cases c6 : t165 > 0
    · rw [if_pos c6] at H
      have c6b0 : decide (0 < t165) = true := decide_eq_true c6
      clear c6
      by_cases c7 : a1 = 125
      · rw [if_pos c7] at H
        have c7b0 : (a1 == 125) = true := beq_iff_eq.mpr c7
        have c7b1 : (a1 != 125) = false := bne_eq_false_iff_eq.mpr c7
        clear c7
        obtain rfl := Option.some.inj H
        go_enter Tryz.func154, Tryz.ntmps154
        go_wp2_with (first | ((with_reducible refine gate_callee (f := 162) rfl ?_); refine goesL_ (some 6) rfl rfl Tryz.func162 (by kernel_rfl) rfl #[.int .u64 a0] rfl (by (try simp only [List.map_toArray, List.map_cons, List.map_nil]); first | done | rfl | (simp only [List.length_drop, List.length_take]; rfl)) ?_; (with_reducible refine (jsontext_stateEntry_needObjectValue.calls a0 false _ A3.out).mono ?_); rintro e w' ⟨rfl, ⟨nd, rfl⟩⟩; refine ⟨_, rfl, ?_⟩) | (go_at_call 149; (with_reducible refine (jsontext_stateEntry_Length.calls a0 t165 _ A5.out).mono ?_); rintro e w' ⟨rfl, ⟨nd, rfl⟩⟩))
        go_ret
        exact ⟨by first | rfl | (simp; done) | (simp [*]; done), by repeat (first | exact Drawn0.refl _ | apply Drawn0.step)⟩
      · rw [if_neg c7] at H
        have c7b0 : (a1 == 125) = false := beq_eq_false_iff_ne.mpr c7
        have c7b1 : (a1 != 125) = true := bne_iff_ne.mpr c7
        obtain rfl := Option.some.inj H
        go_enter Tryz.func154, Tryz.ntmps154
        go_wp2_with (first | ((with_reducible refine gate_callee (f := 162) rfl ?_); refine goesL_ (some 6) rfl rfl Tryz.func162 (by kernel_rfl) rfl #[.int .u64 a0] rfl (by (try simp only [List.map_toArray, List.map_cons, List.map_nil]); first | done | rfl | (simp only [List.length_drop, List.length_take]; rfl)) ?_; (with_reducible refine (jsontext_stateEntry_needObjectValue.calls a0 false _ A3.out).mono ?_); rintro e w' ⟨rfl, ⟨nd, rfl⟩⟩; refine ⟨_, rfl, ?_⟩) | (go_at_call 149; (with_reducible refine (jsontext_stateEntry_Length.calls a0 t165 _ A5.out).mono ?_); rintro e w' ⟨rfl, ⟨nd, rfl⟩⟩))
        go_ret
        exact ⟨by first | rfl | (simp; done) | (simp [*]; done), by repeat (first | exact Drawn0.refl _ | apply Drawn0.step)⟩
    · rw [if_neg c6] at H
      have c6b0 : decide (0 < t165) = false := decide_eq_false c6
      clear c6
      obtain rfl := Option.some.inj H
      go_enter Tryz.func154, Tryz.ntmps154
      go_wp2_with (first | ((with_reducible refine gate_callee (f := 162) rfl ?_); refine goesL_ (some 6) rfl rfl Tryz.func162 (by kernel_rfl) rfl #[.int .u64 a0] rfl (by (try simp only [List.map_toArray, List.map_cons, List.map_nil]); first | done | rfl | (simp only [List.length_drop, List.length_take]; rfl)) ?_; (with_reducible refine (jsontext_stateEntry_needObjectValue.calls a0 false _ A3.out).mono ?_); rintro e w' ⟨rfl, ⟨nd, rfl⟩⟩; refine ⟨_, rfl, ?_⟩) | (go_at_call 149; (with_reducible refine (jsontext_stateEntry_Length.calls a0 t165 _ A5.out).mono ?_); rintro e w' ⟨rfl, ⟨nd, rfl⟩⟩))
      go_ret
      exact ⟨by first | rfl | (simp; done) | (simp [*]; done), by repeat (first | exact Drawn0.refl _ | apply Drawn0.step)⟩

end Go.Proofs.YtjfbkgkpjkickaaGreatDoor.PAll
-- YtjfbkgkpjkickaaGreatDoorPAllx51
namespace Go.Proofs.YtjfbkgkpjkickaaGreatDoor.PAll
open Go.RowKit Go.Proofs.YtjfbkgkpjkickaaGreatDoorW.PrintWords Go.Proofs.YtjfbkgkpjkickaaGreatDoorW.PrintLast Go.Proofs.YtjfbkgkpjkickaaGreatDoorW.PrintMore
attribute [local go_sem] max2_int min2_int max_two min_two max_three min_three max_four min_four   -- for this text's walks alone
set_option linter.unusedVariables false
set_option linter.unusedSimpArgs false

def jsontext_stateMachine_needDelim.f (l0_0 : List Int) (a0_1 : Int) (a1 : Int) : Option (Int) := (jsontext_stateEntry_needImplicitColon.f a0_1).bind fun t167 => (if t167 = true then (some 58) else ((jsontext_stateEntry_needImplicitComma.f a0_1 a1).bind fun t168 => (if t168 = true then (if (l0_0.length : Int) = 0 then (some 0) else (some 44)) else (some 0))))
set_option maxHeartbeats 8000000 in
set_option maxRecDepth 100000 in
theorem jsontext_stateMachine_needDelim.calls (A0_0 : Option Addr) (c0_0 : Nat) (l0_0 : List Int) (a0_1 : Int) (a1 : Int) (r : Int) (w : World) (hr0_0 : Kd.C (Kd.int .u64) w A0_0 l0_0.length l0_0) (hc0_0 : l0_0.length ≤ c0_0) (h : jsontext_stateMachine_needDelim.f l0_0 a0_1 a1 = some r) :
    Calls Tryz.prog 93 #[.agg #[.slice A0_0 l0_0.length c0_0, .int .u64 a0_1], .int .u8 a1] w fun e w' => e = .returned (.int .u8 r) ∧ Below w.heap.size w w' := by
  have hu114 := Tryz.underlying114
  have HR0_0 := Aside0.mk hr0_0
  have HC0_0 := Aside0.mk hc0_0
  clear hr0_0 hc0_0
  have HB := Aside0.mk (Below.refl w.heap.size w)
  have H : ((jsontext_stateEntry_needImplicitColon.f a0_1).bind fun t167 => (if t167 = true then (some 58) else ((jsontext_stateEntry_needImplicitComma.f a0_1 a1).bind fun t168 => (if t168 = true then (if (l0_0.length : Int) = 0 then (some 0) else (some 44)) else (some 0))))) = some r := h
  clear h
  replace H := Option.bind_eq_some_iff.mp H
  obtain ⟨t167, A30, H⟩ := H
  replace H : (if t167 = true then (some 58) else ((jsontext_stateEntry_needImplicitComma.f a0_1 a1).bind fun t168 => (if t168 = true then (if (l0_0.length : Int) = 0 then (some 0) else (some 44)) else (some 0)))) = some r := H
  have A3 := Aside0.mk A30
  clear A30
  by_cases c4 : t167 = true
  · subst c4
    have H1 : (some 58) = some r := by rw [if_pos rfl] at H; exact H
    clear H
    have H := H1
    clear H1
    obtain rfl := Option.some.inj H
    go_enter Tryz.func93, Tryz.ntmps93
    go_wp2_with (first | ((with_reducible refine gate_dst (N := 2) rfl ?_); (try (refine gate_guard (by rfl) ?_; dsimp only)); refine box_event ?hg (N := 2) ?hd (cs := #[.slice A0_0 l0_0.length c0_0, .int .u64 a0_1]) (t := 114) ?hr ?_; (case hd => rfl); (case hg => rfl); (case hr => first | (go_simp; done) | (go_simp; rfl)); intro gb166 hg w5 hbox hb; have n0_ := Aside0.mk (below_step (by repeat (first | (with_reducible first | exact HB.out | apply below_alloc | apply pw_below_drewN | apply below_drew1) | exact HB.out)) hb); have n1_ := Aside0.mk (hbox); have n2_ := Aside0.mk ((by rw [hg]; exact (below_size (by repeat (first | (with_reducible first | exact HB.out | apply below_alloc | apply pw_below_drewN | apply below_drew1) | exact HB.out))) : w.heap.size ≤ gb166)); have n3_ := Aside0.mk ((by rw [hg]; exact (below_size (by repeat (first | (with_reducible first | exact HB.out | apply below_alloc | apply pw_below_drewN | apply below_drew1) | exact HB.out))) : w.heap.size ≤ gb166)); clear HB; have HB := n0_; have BK166 := n1_; have GW166 := n2_; have GE166 := n3_; clear n0_ n1_ n2_ n3_; clear hb hbox hg; have hcz6_0 : w5.cell? ⟨gb166, 0, none⟩ = some (.slice A0_0 l0_0.length c0_0) := (blk_cell BK166.out 0).trans rfl; have hcz6_1 : w5.cell? ⟨gb166, 1, none⟩ = some (.int .u64 a0_1) := (blk_cell BK166.out 1).trans rfl; have hfz6_0 := blk_frozen BK166.out 0; have hfz6_1 := blk_frozen BK166.out 1) | ((with_reducible refine gate_callee (f := 153) rfl ?_); refine goesL_ (some 8) rfl rfl Tryz.func153 (by kernel_rfl) rfl #[.int .u64 a0_1] rfl (by (try simp only [List.map_toArray, List.map_cons, List.map_nil]); first | done | rfl | (simp only [List.length_drop, List.length_take]; rfl)) ?_; (with_reducible refine (jsontext_stateEntry_needImplicitColon.calls a0_1 true _ A3.out).mono ?_); rintro e w' ⟨rfl, ⟨nd, rfl⟩⟩; refine ⟨_, rfl, ?_⟩))
    go_ret
    exact ⟨by first | rfl | (simp [errW_none, errW_some] <;> rfl) | (simp [*, errW_none, errW_some] <;> rfl), by repeat (first | (with_reducible first | exact HB.out | apply below_alloc | apply pw_below_drewN | apply below_drew1 | refine below_set ?_ GE166.out) | exact HB.out)⟩
  · replace c4 := Bool.eq_false_iff.mpr c4
    subst c4
    have H1 : ((jsontext_stateEntry_needImplicitComma.f a0_1 a1).bind fun t168 => (if t168 = true then (if (l0_0.length : Int) = 0 then (some 0) else (some 44)) else (some 0))) = some r := by rw [if_neg (show ¬ (false = true) by decide)] at H; exact H
    clear H
    have H := H1
    clear H1
    replace H := Option.bind_eq_some_iff.mp H
    obtain ⟨t168, A70, H⟩ := H
    replace H : (if t168 = true then (if (l0_0.length : Int) = 0 then (some 0) else (some 44)) else (some 0)) = some r := H
    have A7 := Aside0.mk A70
    clear A70
    by_cases c8 : t168 = true
    · subst c8
      have H1 : (if (l0_0.length : Int) = 0 then (some 0) else (some 44)) = some r := by rw [if_pos rfl] at H; exact H
      clear H
      have H := H1
      clear H1
      by_cases c9 : (l0_0.length : Int) = 0
      · rw [if_pos c9] at H
        have c9b0 : ((l0_0.length : Int) == 0) = true := beq_iff_eq.mpr c9
        have c9b1 : ((l0_0.length : Int) != 0) = false := bne_eq_false_iff_eq.mpr c9
        clear c9
        obtain rfl := Option.some.inj H
        go_enter Tryz.func93, Tryz.ntmps93
        go_wp2_with (first | ((with_reducible refine gate_dst (N := 2) rfl ?_); (try (refine gate_guard (by rfl) ?_; dsimp only)); refine box_event ?hg (N := 2) ?hd (cs := #[.slice A0_0 l0_0.length c0_0, .int .u64 a0_1]) (t := 114) ?hr ?_; (case hd => rfl); (case hg => rfl); (case hr => first | (go_simp; done) | (go_simp; rfl)); intro gb166 hg w10 hbox hb; have n0_ := Aside0.mk (below_step (by repeat (first | (with_reducible first | exact HB.out | apply below_alloc | apply pw_below_drewN | apply below_drew1) | exact HB.out)) hb); have n1_ := Aside0.mk (hbox); have n2_ := Aside0.mk ((by rw [hg]; exact (below_size (by repeat (first | (with_reducible first | exact HB.out | apply below_alloc | apply pw_below_drewN | apply below_drew1) | exact HB.out))) : w.heap.size ≤ gb166)); have n3_ := Aside0.mk ((by rw [hg]; exact (below_size (by repeat (first | (with_reducible first | exact HB.out | apply below_alloc | apply pw_below_drewN | apply below_drew1) | exact HB.out))) : w.heap.size ≤ gb166)); clear HB; have HB := n0_; have BK166 := n1_; have GW166 := n2_; have GE166 := n3_; clear n0_ n1_ n2_ n3_; clear hb hbox hg; have hcz11_0 : w10.cell? ⟨gb166, 0, none⟩ = some (.slice A0_0 l0_0.length c0_0) := (blk_cell BK166.out 0).trans rfl; have hcz11_1 : w10.cell? ⟨gb166, 1, none⟩ = some (.int .u64 a0_1) := (blk_cell BK166.out 1).trans rfl; have hfz11_0 := blk_frozen BK166.out 0; have hfz11_1 := blk_frozen BK166.out 1) | ((with_reducible refine gate_callee (f := 153) rfl ?_); refine goesL_ (some 8) rfl rfl Tryz.func153 (by kernel_rfl) rfl #[.int .u64 a0_1] rfl (by (try simp only [List.map_toArray, List.map_cons, List.map_nil]); first | done | rfl | (simp only [List.length_drop, List.length_take]; rfl)) ?_; (with_reducible refine (jsontext_stateEntry_needImplicitColon.calls a0_1 false _ A3.out).mono ?_); rintro e w' ⟨rfl, ⟨nd, rfl⟩⟩; refine ⟨_, rfl, ?_⟩) | ((with_reducible refine gate_callee (f := 154) rfl ?_); refine goesL_ (some 13) rfl rfl Tryz.func154 (by kernel_rfl) rfl #[.int .u64 a0_1, .int .u8 a1] rfl (by (try simp only [List.map_toArray, List.map_cons, List.map_nil]); first | done | rfl | (simp only [List.length_drop, List.length_take]; rfl)) ?_; (with_reducible refine (jsontext_stateEntry_needImplicitComma.calls a0_1 a1 true _ A7.out).mono ?_); rintro e w' ⟨rfl, ⟨nd, rfl⟩⟩; refine ⟨_, rfl, ?_⟩))
        go_ret
        exact ⟨by first | rfl | (simp [errW_none, errW_some] <;> rfl) | (simp [*, errW_none, errW_some] <;> rfl), by repeat (first | (with_reducible first | exact HB.out | apply below_alloc | apply pw_below_drewN | apply below_drew1 | refine below_set ?_ GE166.out) | exact HB.out)⟩
      · rw [if_neg c9] at H
        have c9b0 : ((l0_0.length : Int) == 0) = false := beq_eq_false_iff_ne.mpr c9
        have c9b1 : ((l0_0.length : Int) != 0) = true := bne_iff_ne.mpr c9
        have c9b2 : ¬ (l0_0 = []) := fun h_ => c9 (by rw [h_]; rfl)
        obtain rfl := Option.some.inj H
        go_enter Tryz.func93, Tryz.ntmps93
        go_wp2_with (first | ((with_reducible refine gate_dst (N := 2) rfl ?_); (try (refine gate_guard (by rfl) ?_; dsimp only)); refine box_event ?hg (N := 2) ?hd (cs := #[.slice A0_0 l0_0.length c0_0, .int .u64 a0_1]) (t := 114) ?hr ?_; (case hd => rfl); (case hg => rfl); (case hr => first | (go_simp; done) | (go_simp; rfl)); intro gb166 hg w12 hbox hb; have n0_ := Aside0.mk (below_step (by repeat (first | (with_reducible first | exact HB.out | apply below_alloc | apply pw_below_drewN | apply below_drew1) | exact HB.out)) hb); have n1_ := Aside0.mk (hbox); have n2_ := Aside0.mk ((by rw [hg]; exact (below_size (by repeat (first | (with_reducible first | exact HB.out | apply below_alloc | apply pw_below_drewN | apply below_drew1) | exact HB.out))) : w.heap.size ≤ gb166)); have n3_ := Aside0.mk ((by rw [hg]; exact (below_size (by repeat (first | (with_reducible first | exact HB.out | apply below_alloc | apply pw_below_drewN | apply below_drew1) | exact HB.out))) : w.heap.size ≤ gb166)); clear HB; have HB := n0_; have BK166 := n1_; have GW166 := n2_; have GE166 := n3_; clear n0_ n1_ n2_ n3_; clear hb hbox hg; have hcz13_0 : w12.cell? ⟨gb166, 0, none⟩ = some (.slice A0_0 l0_0.length c0_0) := (blk_cell BK166.out 0).trans rfl; have hcz13_1 : w12.cell? ⟨gb166, 1, none⟩ = some (.int .u64 a0_1) := (blk_cell BK166.out 1).trans rfl; have hfz13_0 := blk_frozen BK166.out 0; have hfz13_1 := blk_frozen BK166.out 1) | ((with_reducible refine gate_callee (f := 153) rfl ?_); refine goesL_ (some 8) rfl rfl Tryz.func153 (by kernel_rfl) rfl #[.int .u64 a0_1] rfl (by (try simp only [List.map_toArray, List.map_cons, List.map_nil]); first | done | rfl | (simp only [List.length_drop, List.length_take]; rfl)) ?_; (with_reducible refine (jsontext_stateEntry_needImplicitColon.calls a0_1 false _ A3.out).mono ?_); rintro e w' ⟨rfl, ⟨nd, rfl⟩⟩; refine ⟨_, rfl, ?_⟩) | ((with_reducible refine gate_callee (f := 154) rfl ?_); refine goesL_ (some 13) rfl rfl Tryz.func154 (by kernel_rfl) rfl #[.int .u64 a0_1, .int .u8 a1] rfl (by (try simp only [List.map_toArray, List.map_cons, List.map_nil]); first | done | rfl | (simp only [List.length_drop, List.length_take]; rfl)) ?_; (with_reducible refine (jsontext_stateEntry_needImplicitComma.calls a0_1 a1 true _ A7.out).mono ?_); rintro e w' ⟨rfl, ⟨nd, rfl⟩⟩; refine ⟨_, rfl, ?_⟩))
        go_ret
        exact ⟨by first | rfl | (simp [errW_none, errW_some] <;> rfl) | (simp [*, errW_none, errW_some] <;> rfl), by repeat (first | (with_reducible first | exact HB.out | apply below_alloc | apply pw_below_drewN | apply below_drew1 | refine below_set ?_ GE166.out) | exact HB.out)⟩
    · replace c8 := Bool.eq_false_iff.mpr c8
      subst c8
      have H1 : (some 0) = some r := by rw [if_neg (show ¬ (false = true) by decide)] at H; exact H
      clear H
      have H := H1
      clear H1
      obtain rfl := Option.some.inj H
      go_enter Tryz.func93, Tryz.ntmps93
      go_wp2_with (first | ((with_reducible refine gate_dst (N := 2) rfl ?_); (try (refine gate_guard (by rfl) ?_; dsimp only)); refine box_event ?hg (N := 2) ?hd (cs := #[.slice A0_0 l0_0.length c0_0, .int .u64 a0_1]) (t := 114) ?hr ?_; (case hd => rfl); (case hg => rfl); (case hr => first | (go_simp; done) | (go_simp; rfl)); intro gb166 hg w14 hbox hb; have n0_ := Aside0.mk (below_step (by repeat (first | (with_reducible first | exact HB.out | apply below_alloc | apply pw_below_drewN | apply below_drew1) | exact HB.out)) hb); have n1_ := Aside0.mk (hbox); have n2_ := Aside0.mk ((by rw [hg]; exact (below_size (by repeat (first | (with_reducible first | exact HB.out | apply below_alloc | apply pw_below_drewN | apply below_drew1) | exact HB.out))) : w.heap.size ≤ gb166)); have n3_ := Aside0.mk ((by rw [hg]; exact (below_size (by repeat (first | (with_reducible first | exact HB.out | apply below_alloc | apply pw_below_drewN | apply below_drew1) | exact HB.out))) : w.heap.size ≤ gb166)); clear HB; have HB := n0_; have BK166 := n1_; have GW166 := n2_; have GE166 := n3_; clear n0_ n1_ n2_ n3_; clear hb hbox hg; have hcz15_0 : w14.cell? ⟨gb166, 0, none⟩ = some (.slice A0_0 l0_0.length c0_0) := (blk_cell BK166.out 0).trans rfl; have hcz15_1 : w14.cell? ⟨gb166, 1, none⟩ = some (.int .u64 a0_1) := (blk_cell BK166.out 1).trans rfl; have hfz15_0 := blk_frozen BK166.out 0; have hfz15_1 := blk_frozen BK166.out 1) | ((with_reducible refine gate_callee (f := 153) rfl ?_); refine goesL_ (some 8) rfl rfl Tryz.func153 (by kernel_rfl) rfl #[.int .u64 a0_1] rfl (by (try simp only [List.map_toArray, List.map_cons, List.map_nil]); first | done | rfl | (simp only [List.length_drop, List.length_take]; rfl)) ?_; (with_reducible refine (jsontext_stateEntry_needImplicitColon.calls a0_1 false _ A3.out).mono ?_); rintro e w' ⟨rfl, ⟨nd, rfl⟩⟩; refine ⟨_, rfl, ?_⟩) | ((with_reducible refine gate_callee (f := 154) rfl ?_); refine goesL_ (some 13) rfl rfl Tryz.func154 (by kernel_rfl) rfl #[.int .u64 a0_1, .int .u8 a1] rfl (by (try simp only [List.map_toArray, List.map_cons, List.map_nil]); first | done | rfl | (simp only [List.length_drop, List.length_take]; rfl)) ?_; (with_reducible refine (jsontext_stateEntry_needImplicitComma.calls a0_1 a1 false _ A7.out).mono ?_); rintro e w' ⟨rfl, ⟨nd, rfl⟩⟩; refine ⟨_, rfl, ?_⟩))
      go_ret
      exact ⟨by first | rfl | (simp [errW_none, errW_some] <;> rfl) | (simp [*, errW_none, errW_some] <;> rfl), by repeat (first | (with_reducible first | exact HB.out | apply below_alloc | apply pw_below_drewN | apply below_drew1 | refine below_set ?_ GE166.out) | exact HB.out)⟩

end Go.Proofs.YtjfbkgkpjkickaaGreatDoor.PAll
-- YtjfbkgkpjkickaaGreatDoorPAllx92
namespace Go.Proofs.YtjfbkgkpjkickaaGreatDoor.PAll
open Go.RowKit Go.Proofs.YtjfbkgkpjkickaaGreatDoorW.PrintWords Go.Proofs.YtjfbkgkpjkickaaGreatDoorW.PrintLast Go.Proofs.YtjfbkgkpjkickaaGreatDoorW.PrintMore
attribute [local go_sem] max2_int min2_int max_two min_two max_three min_three max_four min_four   -- for this text's walks alone
set_option linter.unusedVariables false
set_option linter.unusedSimpArgs false

def jsontext_stateEntry_NeedObjectName.f (a0 : Int) : Option (Bool) := some ((Go.bits .and .u64 a0 9223372036854775809) == 9223372036854775808)
set_option maxHeartbeats 8000000 in
set_option maxRecDepth 100000 in
theorem jsontext_stateEntry_NeedObjectName.calls (a0 : Int) (r : Bool) (w : World) (h : jsontext_stateEntry_NeedObjectName.f a0 = some r) :
    Calls Tryz.prog 97 #[.int .u64 a0] w fun e w' => e = .returned (.bool r) ∧ Drawn0 w w' := by
  have H : (some ((Go.bits .and .u64 a0 9223372036854775809) == 9223372036854775808)) = some r := h
  clear h
  obtain rfl := Option.some.inj H
  go_enter Tryz.func97, Tryz.ntmps97
  go_wp2
  go_ret
  exact ⟨by first | rfl | (simp; done) | (simp [*]; done), by repeat (first | exact Drawn0.refl _ | apply Drawn0.step)⟩

end Go.Proofs.YtjfbkgkpjkickaaGreatDoor.PAll
-- YtjfbkgkpjkickaaGreatDoorPAllx93
namespace Go.Proofs.YtjfbkgkpjkickaaGreatDoor.PAll
open Go.RowKit Go.Proofs.YtjfbkgkpjkickaaGreatDoorW.PrintWords Go.Proofs.YtjfbkgkpjkickaaGreatDoorW.PrintLast Go.Proofs.YtjfbkgkpjkickaaGreatDoorW.PrintMore
attribute [local go_sem] max2_int min2_int max_two min_two max_three min_three max_four min_four   -- for this text's walks alone
set_option linter.unusedVariables false
set_option linter.unusedSimpArgs false

def jsontext_stateEntry_isValidNamespace.f (a0 : Int) : Option (Bool) := some ((Go.bits .and .u64 a0 2305843009213693952) == 0)
set_option maxHeartbeats 8000000 in
set_option maxRecDepth 100000 in
theorem jsontext_stateEntry_isValidNamespace.calls (a0 : Int) (r : Bool) (w : World) (h : jsontext_stateEntry_isValidNamespace.f a0 = some r) :
    Calls Tryz.prog 99 #[.int .u64 a0] w fun e w' => e = .returned (.bool r) ∧ Drawn0 w w' := by
  have H : (some ((Go.bits .and .u64 a0 2305843009213693952) == 0)) = some r := h
  clear h
  obtain rfl := Option.some.inj H
  go_enter Tryz.func99, Tryz.ntmps99
  go_wp2
  go_ret
  exact ⟨by first | rfl | (simp; done) | (simp [*]; done), by repeat (first | exact Drawn0.refl _ | apply Drawn0.step)⟩

end Go.Proofs.YtjfbkgkpjkickaaGreatDoor.PAll
-- YtjfbkgkpjkickaaGreatDoorPAllx42
namespace Go.Proofs.YtjfbkgkpjkickaaGreatDoor.PAll
open Go.RowKit Go.Proofs.YtjfbkgkpjkickaaGreatDoorW.PrintWords Go.Proofs.YtjfbkgkpjkickaaGreatDoorW.PrintLast Go.Proofs.YtjfbkgkpjkickaaGreatDoorW.PrintMore
attribute [local go_sem] max2_int min2_int max_two min_two max_three min_three max_four min_four   -- for this text's walks alone
set_option linter.unusedVariables false
set_option linter.unusedSimpArgs false

def jsontext_stateEntry_isArray.f (a0 : Int) : Option (Bool) := some ((Go.bits .and .u64 a0 9223372036854775808) == 0)
set_option maxHeartbeats 8000000 in
set_option maxRecDepth 100000 in
theorem jsontext_stateEntry_isArray.calls (a0 : Int) (r : Bool) (w : World) (h : jsontext_stateEntry_isArray.f a0 = some r) :
    Calls Tryz.prog 150 #[.int .u64 a0] w fun e w' => e = .returned (.bool r) ∧ Drawn0 w w' := by
  have H : (some ((Go.bits .and .u64 a0 9223372036854775808) == 0)) = some r := h
  clear h
  obtain rfl := Option.some.inj H
  go_enter Tryz.func150, Tryz.ntmps150
  go_wp2
  go_ret
  exact ⟨by first | rfl | (simp; done) | (simp [*]; done), by repeat (first | exact Drawn0.refl _ | apply Drawn0.step)⟩

end Go.Proofs.YtjfbkgkpjkickaaGreatDoor.PAll
-- YtjfbkgkpjkickaaGreatDoorPAllx46
namespace Go.Proofs.YtjfbkgkpjkickaaGreatDoor.PAll
open Go.RowKit Go.Proofs.YtjfbkgkpjkickaaGreatDoorW.PrintWords Go.Proofs.YtjfbkgkpjkickaaGreatDoorW.PrintLast Go.Proofs.YtjfbkgkpjkickaaGreatDoorW.PrintMore
attribute [local go_sem] max2_int min2_int max_two min_two max_three min_three max_four min_four   -- for this text's walks alone
set_option linter.unusedVariables false
set_option linter.unusedSimpArgs false

def jsontext_stateEntry_isObject.f (a0 : Int) : Option (Bool) := some ((Go.bits .and .u64 a0 9223372036854775808) == 9223372036854775808)
set_option maxHeartbeats 8000000 in
set_option maxRecDepth 100000 in
theorem jsontext_stateEntry_isObject.calls (a0 : Int) (r : Bool) (w : World) (h : jsontext_stateEntry_isObject.f a0 = some r) :
    Calls Tryz.prog 152 #[.int .u64 a0] w fun e w' => e = .returned (.bool r) ∧ Drawn0 w w' := by
  have H : (some ((Go.bits .and .u64 a0 9223372036854775808) == 9223372036854775808)) = some r := h
  clear h
  obtain rfl := Option.some.inj H
  go_enter Tryz.func152, Tryz.ntmps152
  go_wp2
  go_ret
  exact ⟨by first | rfl | (simp; done) | (simp [*]; done), by repeat (first | exact Drawn0.refl _ | apply Drawn0.step)⟩

end Go.Proofs.YtjfbkgkpjkickaaGreatDoor.PAll
