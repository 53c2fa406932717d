/- The texts of a proof, its declarations alone: part 16. -/
import Derived.Test.YtiopeaponffmdaaDoorVS4
set_option linter.unusedVariables false
set_option linter.unusedSimpArgs false
-- YtiopeaponffmdaaDoorPAllx5
namespace Go.Proofs.YtiopeaponffmdaaDoor.PAll
open Go.RowKit Go.Proofs.YtiopeaponffmdaaDoorW.PrintWords Go.Proofs.YtiopeaponffmdaaDoorW.PrintLast Go.Proofs.YtiopeaponffmdaaDoorW.PrintMore
attribute [local go_sem] max2_int min2_int max_two min_two max_three min_three max_four min_four   -- for this text's walks alone
set_option linter.unusedVariables false
set_option linter.unusedSimpArgs false

mutual
def strconv_fmtEFG.j0 : Nat → List Int → Bool → List Int → Int → Int → Int → Int → Bool → Bool → Option (List Int)
  | 0, _, _, _, _, _, _, _, _, _ => none
  | k + 1, x0, x1, x2, x3, x4, x5, x6, x7, x36 => if x36 = true then (if x5 > x4 then (strconv_fmtEFG.j1 k x0 x1 x2 x3 x4 x5 x6 x7 x5 (decide (x4 ≥ x3))) else (strconv_fmtEFG.j1 k x0 x1 x2 x3 x4 x5 x6 x7 x5 false)) else (strconv_fmtEFG.j5 k x0 x1 x2 x3 x4 x5 x6)
def strconv_fmtEFG.j5 : Nat → List Int → Bool → List Int → Int → Int → Int → Int → Option (List Int)
  | 0, _, _, _, _, _, _, _ => none
  | k + 1, x0, x1, x2, x3, x4, x5, x6 => if x6 = 101 then (strconv_fmtEFG.j6 k x0 x1 x2 x3 x4 x5 x6 x6 (x6 == 101)) else (strconv_fmtEFG.j6 k x0 x1 x2 x3 x4 x5 x6 x6 (x6 == 69))
def strconv_fmtEFG.j6 : Nat → List Int → Bool → List Int → Int → Int → Int → Int → Int → Bool → Option (List Int)
  | 0, _, _, _, _, _, _, _, _, _ => none
  | k + 1, x0, x1, x2, x3, x4, x5, x6, x74, x75 => if x75 = true then (if x1 = true then (if x0.length < 140737488355328 then (strconv_fmtEFG.j7 k (x0 ++ [45]) x2 x3 x4 x5 x6) else (none)) else (strconv_fmtEFG.j7 k x0 x2 x3 x4 x5 x6)) else (if x74 = 102 then (if x1 = true then (if x0.length < 140737488355328 then (strconv_fmtEFG.j14 k (x0 ++ [45]) x2 x3 x4 x5) else (none)) else (strconv_fmtEFG.j14 k x0 x2 x3 x4 x5)) else ((some (([37, x6] : List Int) : List Int)).bind fun y250 => (if x0.length + y250.length < 140737488355328 then (some (x0 ++ y250)) else (none))))
def strconv_fmtEFG.j7 : Nat → List Int → List Int → Int → Int → Int → Int → Option (List Int)
  | 0, _, _, _, _, _, _ => none
  | k + 1, x0, x2, x3, x4, x5, x6 => if x4 = 0 then (strconv_fmtEFG.j8 k x0 x2 x3 x4 x5 x6 48) else (if 0 < (x2.length : Int) then (strconv_fmtEFG.j8 k x0 x2 x3 x4 x5 x6 (rd x2 0)) else (none))
def strconv_fmtEFG.j8 : Nat → List Int → List Int → Int → Int → Int → Int → Int → Option (List Int)
  | 0, _, _, _, _, _, _, _ => none
  | k + 1, x0, x2, x3, x4, x5, x6, x19 => if x0.length < 140737488355328 then ((some (x0 ++ [x19] : List Int)).bind fun y180 => (if x5 > 0 then (if y180.length < 140737488355328 then ((some (y180 ++ [46] : List Int)).bind fun y183 => (if 1 < (mn x4 (wrap64 (x5 + 1))) then (if 1 ≤ (mn x4 (wrap64 (x5 + 1))) then (if (mn x4 (wrap64 (x5 + 1))) ≤ (x2.length : Int) then ((some ((x2.take ((mn x4 (wrap64 (x5 + 1))) : Int).toNat).drop 1 : List Int)).bind fun y186 => (if y183.length + y186.length < 140737488355328 then (strconv_fmtEFG.j9 k (y183 ++ y186) x3 x4 x5 x6 (mn x4 (wrap64 (x5 + 1)))) else (none))) else (none)) else (none)) else (strconv_fmtEFG.j9 k y183 x3 x4 x5 x6 1))) else (none)) else (strconv_fmtEFG.j11 k y180 x3 x4 x6))) else (none)
def strconv_fmtEFG.j11 : Nat → List Int → Int → Int → Int → Option (List Int)
  | 0, _, _, _, _ => none
  | k + 1, x0, x3, x4, x6 => if x0.length < 140737488355328 then ((some (x0 ++ [x6] : List Int)).bind fun y196 => (if x4 = 0 then (strconv_fmtEFG.j12 k y196 0) else (strconv_fmtEFG.j12 k y196 (wrap64 (x3 - 1))))) else (none)
def strconv_fmtEFG.j12 : Nat → List Int → Int → Option (List Int)
  | 0, _, _ => none
  | k + 1, x0, x22 => if x22 < 0 then (strconv_fmtEFG.j13 k x0 45 (wrap64 (-x22))) else (strconv_fmtEFG.j13 k x0 43 x22)
def strconv_fmtEFG.j13 : Nat → List Int → Int → Int → Option (List Int)
  | 0, _, _, _ => none
  | k + 1, x0, x19, x22 => if x0.length < 140737488355328 then ((some (x0 ++ [x19] : List Int)).bind fun y199 => (if x22 < 10 then ((some (([48, (((x22) % 256) + 48) % 256] : List Int) : List Int)).bind fun y202 => (if y199.length + y202.length < 140737488355328 then (some (y199 ++ y202)) else (none))) else (if x22 < 100 then ((some (([(((wrap64 (Int.tdiv x22 10)) % 256) + 48) % 256, (((Int.tmod x22 10) % 256) + 48) % 256] : List Int) : List Int)).bind fun y208 => (if y199.length + y208.length < 140737488355328 then (some (y199 ++ y208)) else (none))) else ((some (([(((wrap64 (Int.tdiv x22 100)) % 256) + 48) % 256, (((wrap64 (Int.tdiv x22 10)) % 256) % 10) + 48, (((Int.tmod x22 10) % 256) + 48) % 256] : List Int) : List Int)).bind fun y214 => (if y199.length + y214.length < 140737488355328 then (some (y199 ++ y214)) else (none)))))) else (none)
def strconv_fmtEFG.j9 : Nat → List Int → Int → Int → Int → Int → Int → Option (List Int)
  | 0, _, _, _, _, _, _ => none
  | k + 1, x0, x3, x4, x5, x6, x20 => strconv_fmtEFG.l0 k x0 x3 x4 x6 (wrap64 ((wrap64 (x5 + 1)) - x20)) 0
def strconv_fmtEFG.l0 : Nat → List Int → Int → Int → Int → Int → Int → Option (List Int)
  | 0, _, _, _, _, _, _ => none
  | k + 1, x0, x3, x4, x6, x113, x114 => if x114 < x113 then (if x0.length < 140737488355328 then (strconv_fmtEFG.l0 k (x0 ++ [48]) x3 x4 x6 x113 (wrap64 (x114 + 1))) else (none)) else (strconv_fmtEFG.j11 k x0 x3 x4 x6)
def strconv_fmtEFG.j14 : Nat → List Int → List Int → Int → Int → Int → Option (List Int)
  | 0, _, _, _, _, _ => none
  | k + 1, x0, x2, x3, x4, x5 => if x3 > 0 then (if 0 ≤ (mn x4 x3) then (if (mn x4 x3) ≤ (x2.length : Int) then ((some (x2.take ((mn x4 x3) : Int).toNat : List Int)).bind fun y223 => (strconv_fmtEFG.l1 k x0 x2 x3 x4 x5 (mn x4 x3) y223 (y223.length : Int) 0)) else (none)) else (none)) else (if x0.length < 140737488355328 then (strconv_fmtEFG.j17 k (x0 ++ [48]) x2 x3 x4 x5) else (none))
def strconv_fmtEFG.j17 : Nat → List Int → List Int → Int → Int → Int → Option (List Int)
  | 0, _, _, _, _, _ => none
  | k + 1, x0, x2, x3, x4, x5 => if x5 > 0 then (if x0.length < 140737488355328 then (strconv_fmtEFG.l3 k (x0 ++ [46]) x2 (wrap64 (x3 + (mn x5 (mx 0 (wrap64 (-x3)))))) (mn (wrap64 (x5 - (mn x5 (mx 0 (wrap64 (-x3)))))) (mx 0 (wrap64 (x4 - (wrap64 (x3 + (mn x5 (mx 0 (wrap64 (-x3)))))))))) (mx 0 (wrap64 ((wrap64 (x5 - (mn x5 (mx 0 (wrap64 (-x3)))))) - (mn (wrap64 (x5 - (mn x5 (mx 0 (wrap64 (-x3)))))) (mx 0 (wrap64 (x4 - (wrap64 (x3 + (mn x5 (mx 0 (wrap64 (-x3))))))))))))) (mn x5 (mx 0 (wrap64 (-x3)))) 0) else (none)) else (some x0)
def strconv_fmtEFG.l3 : Nat → List Int → List Int → Int → Int → Int → Int → Int → Option (List Int)
  | 0, _, _, _, _, _, _, _ => none
  | k + 1, x0, x2, x27, x28, x29, x239, x240 => if x240 < x239 then (if x0.length < 140737488355328 then (strconv_fmtEFG.l3 k (x0 ++ [48]) x2 x27 x28 x29 x239 (wrap64 (x240 + 1))) else (none)) else (strconv_fmtEFG.l4 k x0 x2 x27 x29 x28 0)
def strconv_fmtEFG.l4 : Nat → List Int → List Int → Int → Int → Int → Int → Option (List Int)
  | 0, _, _, _, _, _, _ => none
  | k + 1, x0, x2, x27, x29, x246, x247 => if x247 < x246 then (if 0 ≤ (wrap64 (x27 + x247)) then (if (wrap64 (x27 + x247)) < (x2.length : Int) then (if x0.length < 140737488355328 then (strconv_fmtEFG.l4 k (x0 ++ [rd x2 (wrap64 (x27 + x247))]) x2 x27 x29 x246 (wrap64 (x247 + 1))) else (none)) else (none)) else (none)) else (strconv_fmtEFG.l5 k x0 x29 0)
def strconv_fmtEFG.l5 : Nat → List Int → Int → Int → Option (List Int)
  | 0, _, _, _ => none
  | k + 1, x0, x260, x261 => if x261 < x260 then (if x0.length < 140737488355328 then (strconv_fmtEFG.l5 k (x0 ++ [48]) x260 (wrap64 (x261 + 1))) else (none)) else (some x0)
def strconv_fmtEFG.l1 : Nat → List Int → List Int → Int → Int → Int → Int → List Int → Int → Int → Option (List Int)
  | 0, _, _, _, _, _, _, _, _, _ => none
  | k + 1, x0, x2, x3, x4, x5, x23, x189, x190, x191 => if x191 < x190 then (if 0 ≤ x191 then (if x191 < (x189.length : Int) then (if x0.length < 140737488355328 then (strconv_fmtEFG.l1 k (x0 ++ [rd x189 x191]) x2 x3 x4 x5 x23 x189 x190 (wrap64 (x191 + 1))) else (none)) else (none)) else (none)) else (strconv_fmtEFG.l2 k x0 x2 x3 x4 x5 (wrap64 (x3 - x23)) 0)
def strconv_fmtEFG.l2 : Nat → List Int → List Int → Int → Int → Int → Int → Int → Option (List Int)
  | 0, _, _, _, _, _, _, _ => none
  | k + 1, x0, x2, x3, x4, x5, x202, x203 => if x203 < x202 then (if x0.length < 140737488355328 then (strconv_fmtEFG.l2 k (x0 ++ [48]) x2 x3 x4 x5 x202 (wrap64 (x203 + 1))) else (none)) else (strconv_fmtEFG.j17 k x0 x2 x3 x4 x5)
def strconv_fmtEFG.j1 : Nat → List Int → Bool → List Int → Int → Int → Int → Int → Bool → Int → Bool → Option (List Int)
  | 0, _, _, _, _, _, _, _, _, _, _ => none
  | k + 1, x0, x1, x2, x3, x4, x5, x6, x7, x17, x45 => if x45 = true then (strconv_fmtEFG.j2 k x0 x1 x2 x3 x4 x5 x6 x7 x4) else (strconv_fmtEFG.j2 k x0 x1 x2 x3 x4 x5 x6 x7 x17)
def strconv_fmtEFG.j2 : Nat → List Int → Bool → List Int → Int → Int → Int → Int → Bool → Int → Option (List Int)
  | 0, _, _, _, _, _, _, _, _, _ => none
  | k + 1, x0, x1, x2, x3, x4, x5, x6, x7, x17 => if x7 = true then (strconv_fmtEFG.j3 k x0 x1 x2 x3 x4 x5 x6 6) else (strconv_fmtEFG.j3 k x0 x1 x2 x3 x4 x5 x6 x17)
def strconv_fmtEFG.j3 : Nat → List Int → Bool → List Int → Int → Int → Int → Int → Int → Option (List Int)
  | 0, _, _, _, _, _, _, _, _ => none
  | k + 1, x0, x1, x2, x3, x4, x5, x6, x17 => if (wrap64 (x3 - 1)) < (-4) then (strconv_fmtEFG.j4 k x0 x1 x2 x3 x4 x5 x6 true) else (strconv_fmtEFG.j4 k x0 x1 x2 x3 x4 x5 x6 (decide ((wrap64 (x3 - 1)) ≥ x17)))
def strconv_fmtEFG.j4 : Nat → List Int → Bool → List Int → Int → Int → Int → Int → Bool → Option (List Int)
  | 0, _, _, _, _, _, _, _, _ => none
  | k + 1, x0, x1, x2, x3, x4, x5, x6, x56 => if x56 = true then (if x5 > x4 then (strconv_fmtEFG.j5 k x0 x1 x2 x3 x4 (wrap64 (x4 - 1)) ((((x6 + 101) % 256) - 103) % 256)) else (strconv_fmtEFG.j5 k x0 x1 x2 x3 x4 (wrap64 (x5 - 1)) ((((x6 + 101) % 256) - 103) % 256))) else (if x5 > x3 then (strconv_fmtEFG.j5 k x0 x1 x2 x3 x4 (mx (wrap64 (x4 - x3)) 0) 102) else (strconv_fmtEFG.j5 k x0 x1 x2 x3 x4 (mx (wrap64 (x5 - x3)) 0) 102))
end
def strconv_fmtEFG.f (k : Nat) (l0 : List Int) (a1 : Bool) (l2 : List Int) (a3 : Int) (a4 : Int) (a5 : Int) (a6 : Int) (a7 : Bool) : Option (List Int) := if a6 = 103 then (strconv_fmtEFG.j0 k l0 a1 l2 a3 a4 a5 a6 a7 true) else (strconv_fmtEFG.j0 k l0 a1 l2 a3 a4 a5 a6 a7 (a6 == 71))
theorem strconv_fmtEFG.mono_l : ∀ k, (∀ y0 y1 y2 y3 y4 y5 y6 y7 y8, LeO (strconv_fmtEFG.j0 k y0 y1 y2 y3 y4 y5 y6 y7 y8) (strconv_fmtEFG.j0 (k + 1) y0 y1 y2 y3 y4 y5 y6 y7 y8)) ∧ (∀ y0 y1 y2 y3 y4 y5 y6, LeO (strconv_fmtEFG.j5 k y0 y1 y2 y3 y4 y5 y6) (strconv_fmtEFG.j5 (k + 1) y0 y1 y2 y3 y4 y5 y6)) ∧ (∀ y0 y1 y2 y3 y4 y5 y6 y7 y8, LeO (strconv_fmtEFG.j6 k y0 y1 y2 y3 y4 y5 y6 y7 y8) (strconv_fmtEFG.j6 (k + 1) y0 y1 y2 y3 y4 y5 y6 y7 y8)) ∧ (∀ y0 y1 y2 y3 y4 y5, LeO (strconv_fmtEFG.j7 k y0 y1 y2 y3 y4 y5) (strconv_fmtEFG.j7 (k + 1) y0 y1 y2 y3 y4 y5)) ∧ (∀ y0 y1 y2 y3 y4 y5 y6, LeO (strconv_fmtEFG.j8 k y0 y1 y2 y3 y4 y5 y6) (strconv_fmtEFG.j8 (k + 1) y0 y1 y2 y3 y4 y5 y6)) ∧ (∀ y0 y1 y2 y3, LeO (strconv_fmtEFG.j11 k y0 y1 y2 y3) (strconv_fmtEFG.j11 (k + 1) y0 y1 y2 y3)) ∧ (∀ y0 y1, LeO (strconv_fmtEFG.j12 k y0 y1) (strconv_fmtEFG.j12 (k + 1) y0 y1)) ∧ (∀ y0 y1 y2, LeO (strconv_fmtEFG.j13 k y0 y1 y2) (strconv_fmtEFG.j13 (k + 1) y0 y1 y2)) ∧ (∀ y0 y1 y2 y3 y4 y5, LeO (strconv_fmtEFG.j9 k y0 y1 y2 y3 y4 y5) (strconv_fmtEFG.j9 (k + 1) y0 y1 y2 y3 y4 y5)) ∧ (∀ y0 y1 y2 y3 y4 y5, LeO (strconv_fmtEFG.l0 k y0 y1 y2 y3 y4 y5) (strconv_fmtEFG.l0 (k + 1) y0 y1 y2 y3 y4 y5)) ∧ (∀ y0 y1 y2 y3 y4, LeO (strconv_fmtEFG.j14 k y0 y1 y2 y3 y4) (strconv_fmtEFG.j14 (k + 1) y0 y1 y2 y3 y4)) ∧ (∀ y0 y1 y2 y3 y4, LeO (strconv_fmtEFG.j17 k y0 y1 y2 y3 y4) (strconv_fmtEFG.j17 (k + 1) y0 y1 y2 y3 y4)) ∧ (∀ y0 y1 y2 y3 y4 y5 y6, LeO (strconv_fmtEFG.l3 k y0 y1 y2 y3 y4 y5 y6) (strconv_fmtEFG.l3 (k + 1) y0 y1 y2 y3 y4 y5 y6)) ∧ (∀ y0 y1 y2 y3 y4 y5, LeO (strconv_fmtEFG.l4 k y0 y1 y2 y3 y4 y5) (strconv_fmtEFG.l4 (k + 1) y0 y1 y2 y3 y4 y5)) ∧ (∀ y0 y1 y2, LeO (strconv_fmtEFG.l5 k y0 y1 y2) (strconv_fmtEFG.l5 (k + 1) y0 y1 y2)) ∧ (∀ y0 y1 y2 y3 y4 y5 y6 y7 y8, LeO (strconv_fmtEFG.l1 k y0 y1 y2 y3 y4 y5 y6 y7 y8) (strconv_fmtEFG.l1 (k + 1) y0 y1 y2 y3 y4 y5 y6 y7 y8)) ∧ (∀ y0 y1 y2 y3 y4 y5 y6, LeO (strconv_fmtEFG.l2 k y0 y1 y2 y3 y4 y5 y6) (strconv_fmtEFG.l2 (k + 1) y0 y1 y2 y3 y4 y5 y6)) ∧ (∀ y0 y1 y2 y3 y4 y5 y6 y7 y8 y9, LeO (strconv_fmtEFG.j1 k y0 y1 y2 y3 y4 y5 y6 y7 y8 y9) (strconv_fmtEFG.j1 (k + 1) y0 y1 y2 y3 y4 y5 y6 y7 y8 y9)) ∧ (∀ y0 y1 y2 y3 y4 y5 y6 y7 y8, LeO (strconv_fmtEFG.j2 k y0 y1 y2 y3 y4 y5 y6 y7 y8) (strconv_fmtEFG.j2 (k + 1) y0 y1 y2 y3 y4 y5 y6 y7 y8)) ∧ (∀ y0 y1 y2 y3 y4 y5 y6 y7, LeO (strconv_fmtEFG.j3 k y0 y1 y2 y3 y4 y5 y6 y7) (strconv_fmtEFG.j3 (k + 1) y0 y1 y2 y3 y4 y5 y6 y7)) ∧ (∀ y0 y1 y2 y3 y4 y5 y6 y7, LeO (strconv_fmtEFG.j4 k y0 y1 y2 y3 y4 y5 y6 y7) (strconv_fmtEFG.j4 (k + 1) y0 y1 y2 y3 y4 y5 y6 y7))
  | 0 => ⟨fun _ _ _ _ _ _ _ _ _ r h => by simp [strconv_fmtEFG.j0] at h, fun _ _ _ _ _ _ _ r h => by simp [strconv_fmtEFG.j5] at h, fun _ _ _ _ _ _ _ _ _ r h => by simp [strconv_fmtEFG.j6] at h, fun _ _ _ _ _ _ r h => by simp [strconv_fmtEFG.j7] at h, fun _ _ _ _ _ _ _ r h => by simp [strconv_fmtEFG.j8] at h, fun _ _ _ _ r h => by simp [strconv_fmtEFG.j11] at h, fun _ _ r h => by simp [strconv_fmtEFG.j12] at h, fun _ _ _ r h => by simp [strconv_fmtEFG.j13] at h, fun _ _ _ _ _ _ r h => by simp [strconv_fmtEFG.j9] at h, fun _ _ _ _ _ _ r h => by simp [strconv_fmtEFG.l0] at h, fun _ _ _ _ _ r h => by simp [strconv_fmtEFG.j14] at h, fun _ _ _ _ _ r h => by simp [strconv_fmtEFG.j17] at h, fun _ _ _ _ _ _ _ r h => by simp [strconv_fmtEFG.l3] at h, fun _ _ _ _ _ _ r h => by simp [strconv_fmtEFG.l4] at h, fun _ _ _ r h => by simp [strconv_fmtEFG.l5] at h, fun _ _ _ _ _ _ _ _ _ r h => by simp [strconv_fmtEFG.l1] at h, fun _ _ _ _ _ _ _ r h => by simp [strconv_fmtEFG.l2] at h, fun _ _ _ _ _ _ _ _ _ _ r h => by simp [strconv_fmtEFG.j1] at h, fun _ _ _ _ _ _ _ _ _ r h => by simp [strconv_fmtEFG.j2] at h, fun _ _ _ _ _ _ _ _ r h => by simp [strconv_fmtEFG.j3] at h, fun _ _ _ _ _ _ _ _ r h => by simp [strconv_fmtEFG.j4] at h⟩
  | k + 1 => by
    obtain ⟨ih0, ih1, ih2, ih3, ih4, ih5, ih6, ih7, ih8, ih9, ih10, ih11, ih12, ih13, ih14, ih15, ih16, ih17, ih18, ih19, ih20⟩ := strconv_fmtEFG.mono_l k
    refine ⟨?_, ?_, ?_, ?_, ?_, ?_, ?_, ?_, ?_, ?_, ?_, ?_, ?_, ?_, ?_, ?_, ?_, ?_, ?_, ?_, ?_⟩
    · intro y0 y1 y2 y3 y4 y5 y6 y7 y8
      unfold strconv_fmtEFG.j0
      repeat' first
      | (with_reducible exact ih0 _ _ _ _ _ _ _ _ _)
      | (with_reducible exact ih1 _ _ _ _ _ _ _)
      | (with_reducible exact ih2 _ _ _ _ _ _ _ _ _)
      | (with_reducible exact ih3 _ _ _ _ _ _)
      | (with_reducible exact ih4 _ _ _ _ _ _ _)
      | (with_reducible exact ih5 _ _ _ _)
      | (with_reducible exact ih6 _ _)
      | (with_reducible exact ih7 _ _ _)
      | (with_reducible exact ih8 _ _ _ _ _ _)
      | (with_reducible exact ih9 _ _ _ _ _ _)
      | (with_reducible exact ih10 _ _ _ _ _)
      | (with_reducible exact ih11 _ _ _ _ _)
      | (with_reducible exact ih12 _ _ _ _ _ _ _)
      | (with_reducible exact ih13 _ _ _ _ _ _)
      | (with_reducible exact ih14 _ _ _)
      | (with_reducible exact ih15 _ _ _ _ _ _ _ _ _)
      | (with_reducible exact ih16 _ _ _ _ _ _ _)
      | (with_reducible exact ih17 _ _ _ _ _ _ _ _ _ _)
      | (with_reducible exact ih18 _ _ _ _ _ _ _ _ _)
      | (with_reducible exact ih19 _ _ _ _ _ _ _ _)
      | (with_reducible exact ih20 _ _ _ _ _ _ _ _)
      | (with_reducible exact LeO.refl _)
      | (with_reducible exact LeO.none _)
      | (with_reducible refine LeO.ite ?_ ?_)
      | (with_reducible refine LeO.bind ?_ (fun _ => ?_))
      | exact ih0 _ _ _ _ _ _ _ _ _
      | exact ih1 _ _ _ _ _ _ _
      | exact ih2 _ _ _ _ _ _ _ _ _
      | exact ih3 _ _ _ _ _ _
      | exact ih4 _ _ _ _ _ _ _
      | exact ih5 _ _ _ _
      | exact ih6 _ _
      | exact ih7 _ _ _
      | exact ih8 _ _ _ _ _ _
      | exact ih9 _ _ _ _ _ _
      | exact ih10 _ _ _ _ _
      | exact ih11 _ _ _ _ _
      | exact ih12 _ _ _ _ _ _ _
      | exact ih13 _ _ _ _ _ _
      | exact ih14 _ _ _
      | exact ih15 _ _ _ _ _ _ _ _ _
      | exact ih16 _ _ _ _ _ _ _
      | exact ih17 _ _ _ _ _ _ _ _ _ _
      | exact ih18 _ _ _ _ _ _ _ _ _
      | exact ih19 _ _ _ _ _ _ _ _
      | exact ih20 _ _ _ _ _ _ _ _
      | exact LeO.none _
      | refine LeO.ite ?_ ?_
      | refine LeO.bind ?_ (fun _ => ?_)
    · intro y0 y1 y2 y3 y4 y5 y6
      unfold strconv_fmtEFG.j5
      repeat' first
      | (with_reducible exact ih0 _ _ _ _ _ _ _ _ _)
      | (with_reducible exact ih1 _ _ _ _ _ _ _)
      | (with_reducible exact ih2 _ _ _ _ _ _ _ _ _)
      | (with_reducible exact ih3 _ _ _ _ _ _)
      | (with_reducible exact ih4 _ _ _ _ _ _ _)
      | (with_reducible exact ih5 _ _ _ _)
      | (with_reducible exact ih6 _ _)
      | (with_reducible exact ih7 _ _ _)
      | (with_reducible exact ih8 _ _ _ _ _ _)
      | (with_reducible exact ih9 _ _ _ _ _ _)
      | (with_reducible exact ih10 _ _ _ _ _)
      | (with_reducible exact ih11 _ _ _ _ _)
      | (with_reducible exact ih12 _ _ _ _ _ _ _)
      | (with_reducible exact ih13 _ _ _ _ _ _)
      | (with_reducible exact ih14 _ _ _)
      | (with_reducible exact ih15 _ _ _ _ _ _ _ _ _)
      | (with_reducible exact ih16 _ _ _ _ _ _ _)
      | (with_reducible exact ih17 _ _ _ _ _ _ _ _ _ _)
      | (with_reducible exact ih18 _ _ _ _ _ _ _ _ _)
      | (with_reducible exact ih19 _ _ _ _ _ _ _ _)
      | (with_reducible exact ih20 _ _ _ _ _ _ _ _)
      | (with_reducible exact LeO.refl _)
      | (with_reducible exact LeO.none _)
      | (with_reducible refine LeO.ite ?_ ?_)
      | (with_reducible refine LeO.bind ?_ (fun _ => ?_))
      | exact ih0 _ _ _ _ _ _ _ _ _
      | exact ih1 _ _ _ _ _ _ _
      | exact ih2 _ _ _ _ _ _ _ _ _
      | exact ih3 _ _ _ _ _ _
      | exact ih4 _ _ _ _ _ _ _
      | exact ih5 _ _ _ _
      | exact ih6 _ _
      | exact ih7 _ _ _
      | exact ih8 _ _ _ _ _ _
      | exact ih9 _ _ _ _ _ _
      | exact ih10 _ _ _ _ _
      | exact ih11 _ _ _ _ _
      | exact ih12 _ _ _ _ _ _ _
      | exact ih13 _ _ _ _ _ _
      | exact ih14 _ _ _
      | exact ih15 _ _ _ _ _ _ _ _ _
      | exact ih16 _ _ _ _ _ _ _
      | exact ih17 _ _ _ _ _ _ _ _ _ _
      | exact ih18 _ _ _ _ _ _ _ _ _
      | exact ih19 _ _ _ _ _ _ _ _
      | exact ih20 _ _ _ _ _ _ _ _
      | exact LeO.none _
      | refine LeO.ite ?_ ?_
      | refine LeO.bind ?_ (fun _ => ?_)
    · intro y0 y1 y2 y3 y4 y5 y6 y7 y8
      unfold strconv_fmtEFG.j6
      repeat' first
      | (with_reducible exact ih0 _ _ _ _ _ _ _ _ _)
      | (with_reducible exact ih1 _ _ _ _ _ _ _)
      | (with_reducible exact ih2 _ _ _ _ _ _ _ _ _)
      | (with_reducible exact ih3 _ _ _ _ _ _)
      | (with_reducible exact ih4 _ _ _ _ _ _ _)
      | (with_reducible exact ih5 _ _ _ _)
      | (with_reducible exact ih6 _ _)
      | (with_reducible exact ih7 _ _ _)
      | (with_reducible exact ih8 _ _ _ _ _ _)
      | (with_reducible exact ih9 _ _ _ _ _ _)
      | (with_reducible exact ih10 _ _ _ _ _)
      | (with_reducible exact ih11 _ _ _ _ _)
      | (with_reducible exact ih12 _ _ _ _ _ _ _)
      | (with_reducible exact ih13 _ _ _ _ _ _)
      | (with_reducible exact ih14 _ _ _)
      | (with_reducible exact ih15 _ _ _ _ _ _ _ _ _)
      | (with_reducible exact ih16 _ _ _ _ _ _ _)
      | (with_reducible exact ih17 _ _ _ _ _ _ _ _ _ _)
      | (with_reducible exact ih18 _ _ _ _ _ _ _ _ _)
      | (with_reducible exact ih19 _ _ _ _ _ _ _ _)
      | (with_reducible exact ih20 _ _ _ _ _ _ _ _)
      | (with_reducible exact LeO.refl _)
      | (with_reducible exact LeO.none _)
      | (with_reducible refine LeO.ite ?_ ?_)
      | (with_reducible refine LeO.bind ?_ (fun _ => ?_))
      | exact ih0 _ _ _ _ _ _ _ _ _
      | exact ih1 _ _ _ _ _ _ _
      | exact ih2 _ _ _ _ _ _ _ _ _
      | exact ih3 _ _ _ _ _ _
      | exact ih4 _ _ _ _ _ _ _
      | exact ih5 _ _ _ _
      | exact ih6 _ _
      | exact ih7 _ _ _
      | exact ih8 _ _ _ _ _ _
      | exact ih9 _ _ _ _ _ _
      | exact ih10 _ _ _ _ _
      | exact ih11 _ _ _ _ _
      | exact ih12 _ _ _ _ _ _ _
      | exact ih13 _ _ _ _ _ _
      | exact ih14 _ _ _
      | exact ih15 _ _ _ _ _ _ _ _ _
      | exact ih16 _ _ _ _ _ _ _
      | exact ih17 _ _ _ _ _ _ _ _ _ _
      | exact ih18 _ _ _ _ _ _ _ _ _
      | exact ih19 _ _ _ _ _ _ _ _
      | exact ih20 _ _ _ _ _ _ _ _
      | exact LeO.none _
      | refine LeO.ite ?_ ?_
      | refine LeO.bind ?_ (fun _ => ?_)
    · intro y0 y1 y2 y3 y4 y5
      unfold strconv_fmtEFG.j7
      repeat' first
      | (with_reducible exact ih0 _ _ _ _ _ _ _ _ _)
      | (with_reducible exact ih1 _ _ _ _ _ _ _)
      | (with_reducible exact ih2 _ _ _ _ _ _ _ _ _)
      | (with_reducible exact ih3 _ _ _ _ _ _)
      | (with_reducible exact ih4 _ _ _ _ _ _ _)
      | (with_reducible exact ih5 _ _ _ _)
      | (with_reducible exact ih6 _ _)
      | (with_reducible exact ih7 _ _ _)
      | (with_reducible exact ih8 _ _ _ _ _ _)
      | (with_reducible exact ih9 _ _ _ _ _ _)
      | (with_reducible exact ih10 _ _ _ _ _)
      | (with_reducible exact ih11 _ _ _ _ _)
      | (with_reducible exact ih12 _ _ _ _ _ _ _)
      | (with_reducible exact ih13 _ _ _ _ _ _)
      | (with_reducible exact ih14 _ _ _)
      | (with_reducible exact ih15 _ _ _ _ _ _ _ _ _)
      | (with_reducible exact ih16 _ _ _ _ _ _ _)
      | (with_reducible exact ih17 _ _ _ _ _ _ _ _ _ _)
      | (with_reducible exact ih18 _ _ _ _ _ _ _ _ _)
      | (with_reducible exact ih19 _ _ _ _ _ _ _ _)
      | (with_reducible exact ih20 _ _ _ _ _ _ _ _)
      | (with_reducible exact LeO.refl _)
      | (with_reducible exact LeO.none _)
      | (with_reducible refine LeO.ite ?_ ?_)
      | (with_reducible refine LeO.bind ?_ (fun _ => ?_))
      | exact ih0 _ _ _ _ _ _ _ _ _
      | exact ih1 _ _ _ _ _ _ _
      | exact ih2 _ _ _ _ _ _ _ _ _
      | exact ih3 _ _ _ _ _ _
      | exact ih4 _ _ _ _ _ _ _
      | exact ih5 _ _ _ _
      | exact ih6 _ _
      | exact ih7 _ _ _
      | exact ih8 _ _ _ _ _ _
      | exact ih9 _ _ _ _ _ _
      | exact ih10 _ _ _ _ _
      | exact ih11 _ _ _ _ _
      | exact ih12 _ _ _ _ _ _ _
      | exact ih13 _ _ _ _ _ _
      | exact ih14 _ _ _
      | exact ih15 _ _ _ _ _ _ _ _ _
      | exact ih16 _ _ _ _ _ _ _
      | exact ih17 _ _ _ _ _ _ _ _ _ _
      | exact ih18 _ _ _ _ _ _ _ _ _
      | exact ih19 _ _ _ _ _ _ _ _
      | exact ih20 _ _ _ _ _ _ _ _
      | exact LeO.none _
      | refine LeO.ite ?_ ?_
      | refine LeO.bind ?_ (fun _ => ?_)
    · intro y0 y1 y2 y3 y4 y5 y6
      unfold strconv_fmtEFG.j8
      repeat' first
      | (with_reducible exact ih0 _ _ _ _ _ _ _ _ _)
      | (with_reducible exact ih1 _ _ _ _ _ _ _)
      | (with_reducible exact ih2 _ _ _ _ _ _ _ _ _)
      | (with_reducible exact ih3 _ _ _ _ _ _)
      | (with_reducible exact ih4 _ _ _ _ _ _ _)
      | (with_reducible exact ih5 _ _ _ _)
      | (with_reducible exact ih6 _ _)
      | (with_reducible exact ih7 _ _ _)
      | (with_reducible exact ih8 _ _ _ _ _ _)
      | (with_reducible exact ih9 _ _ _ _ _ _)
      | (with_reducible exact ih10 _ _ _ _ _)
      | (with_reducible exact ih11 _ _ _ _ _)
      | (with_reducible exact ih12 _ _ _ _ _ _ _)
      | (with_reducible exact ih13 _ _ _ _ _ _)
      | (with_reducible exact ih14 _ _ _)
      | (with_reducible exact ih15 _ _ _ _ _ _ _ _ _)
      | (with_reducible exact ih16 _ _ _ _ _ _ _)
      | (with_reducible exact ih17 _ _ _ _ _ _ _ _ _ _)
      | (with_reducible exact ih18 _ _ _ _ _ _ _ _ _)
      | (with_reducible exact ih19 _ _ _ _ _ _ _ _)
      | (with_reducible exact ih20 _ _ _ _ _ _ _ _)
      | (with_reducible exact LeO.refl _)
      | (with_reducible exact LeO.none _)
      | (with_reducible refine LeO.ite ?_ ?_)
      | (with_reducible refine LeO.bind ?_ (fun _ => ?_))
      | exact ih0 _ _ _ _ _ _ _ _ _
      | exact ih1 _ _ _ _ _ _ _
      | exact ih2 _ _ _ _ _ _ _ _ _
      | exact ih3 _ _ _ _ _ _
      | exact ih4 _ _ _ _ _ _ _
      | exact ih5 _ _ _ _
      | exact ih6 _ _
      | exact ih7 _ _ _
      | exact ih8 _ _ _ _ _ _
      | exact ih9 _ _ _ _ _ _
      | exact ih10 _ _ _ _ _
      | exact ih11 _ _ _ _ _
      | exact ih12 _ _ _ _ _ _ _
      | exact ih13 _ _ _ _ _ _
      | exact ih14 _ _ _
      | exact ih15 _ _ _ _ _ _ _ _ _
      | exact ih16 _ _ _ _ _ _ _
      | exact ih17 _ _ _ _ _ _ _ _ _ _
      | exact ih18 _ _ _ _ _ _ _ _ _
      | exact ih19 _ _ _ _ _ _ _ _
      | exact ih20 _ _ _ _ _ _ _ _
      | exact LeO.none _
      | refine LeO.ite ?_ ?_
      | refine LeO.bind ?_ (fun _ => ?_)
    · intro y0 y1 y2 y3
      unfold strconv_fmtEFG.j11
      repeat' first
      | (with_reducible exact ih0 _ _ _ _ _ _ _ _ _)
      | (with_reducible exact ih1 _ _ _ _ _ _ _)
      | (with_reducible exact ih2 _ _ _ _ _ _ _ _ _)
      | (with_reducible exact ih3 _ _ _ _ _ _)
      | (with_reducible exact ih4 _ _ _ _ _ _ _)
      | (with_reducible exact ih5 _ _ _ _)
      | (with_reducible exact ih6 _ _)
      | (with_reducible exact ih7 _ _ _)
      | (with_reducible exact ih8 _ _ _ _ _ _)
      | (with_reducible exact ih9 _ _ _ _ _ _)
      | (with_reducible exact ih10 _ _ _ _ _)
      | (with_reducible exact ih11 _ _ _ _ _)
      | (with_reducible exact ih12 _ _ _ _ _ _ _)
      | (with_reducible exact ih13 _ _ _ _ _ _)
      | (with_reducible exact ih14 _ _ _)
      | (with_reducible exact ih15 _ _ _ _ _ _ _ _ _)
      | (with_reducible exact ih16 _ _ _ _ _ _ _)
      | (with_reducible exact ih17 _ _ _ _ _ _ _ _ _ _)
      | (with_reducible exact ih18 _ _ _ _ _ _ _ _ _)
      | (with_reducible exact ih19 _ _ _ _ _ _ _ _)
      | (with_reducible exact ih20 _ _ _ _ _ _ _ _)
      | (with_reducible exact LeO.refl _)
      | (with_reducible exact LeO.none _)
      | (with_reducible refine LeO.ite ?_ ?_)
      | (with_reducible refine LeO.bind ?_ (fun _ => ?_))
      | exact ih0 _ _ _ _ _ _ _ _ _
      | exact ih1 _ _ _ _ _ _ _
      | exact ih2 _ _ _ _ _ _ _ _ _
      | exact ih3 _ _ _ _ _ _
      | exact ih4 _ _ _ _ _ _ _
      | exact ih5 _ _ _ _
      | exact ih6 _ _
      | exact ih7 _ _ _
      | exact ih8 _ _ _ _ _ _
      | exact ih9 _ _ _ _ _ _
      | exact ih10 _ _ _ _ _
      | exact ih11 _ _ _ _ _
      | exact ih12 _ _ _ _ _ _ _
      | exact ih13 _ _ _ _ _ _
      | exact ih14 _ _ _
      | exact ih15 _ _ _ _ _ _ _ _ _
      | exact ih16 _ _ _ _ _ _ _
      | exact ih17 _ _ _ _ _ _ _ _ _ _
      | exact ih18 _ _ _ _ _ _ _ _ _
      | exact ih19 _ _ _ _ _ _ _ _
      | exact ih20 _ _ _ _ _ _ _ _
      | exact LeO.none _
      | refine LeO.ite ?_ ?_
      | refine LeO.bind ?_ (fun _ => ?_)
    · intro y0 y1
      unfold strconv_fmtEFG.j12
      repeat' first
      | (with_reducible exact ih0 _ _ _ _ _ _ _ _ _)
      | (with_reducible exact ih1 _ _ _ _ _ _ _)
      | (with_reducible exact ih2 _ _ _ _ _ _ _ _ _)
      | (with_reducible exact ih3 _ _ _ _ _ _)
      | (with_reducible exact ih4 _ _ _ _ _ _ _)
      | (with_reducible exact ih5 _ _ _ _)
      | (with_reducible exact ih6 _ _)
      | (with_reducible exact ih7 _ _ _)
      | (with_reducible exact ih8 _ _ _ _ _ _)
      | (with_reducible exact ih9 _ _ _ _ _ _)
      | (with_reducible exact ih10 _ _ _ _ _)
      | (with_reducible exact ih11 _ _ _ _ _)
      | (with_reducible exact ih12 _ _ _ _ _ _ _)
      | (with_reducible exact ih13 _ _ _ _ _ _)
      | (with_reducible exact ih14 _ _ _)
      | (with_reducible exact ih15 _ _ _ _ _ _ _ _ _)
      | (with_reducible exact ih16 _ _ _ _ _ _ _)
      | (with_reducible exact ih17 _ _ _ _ _ _ _ _ _ _)
      | (with_reducible exact ih18 _ _ _ _ _ _ _ _ _)
      | (with_reducible exact ih19 _ _ _ _ _ _ _ _)
      | (with_reducible exact ih20 _ _ _ _ _ _ _ _)
      | (with_reducible exact LeO.refl _)
      | (with_reducible exact LeO.none _)
      | (with_reducible refine LeO.ite ?_ ?_)
      | (with_reducible refine LeO.bind ?_ (fun _ => ?_))
      | exact ih0 _ _ _ _ _ _ _ _ _
      | exact ih1 _ _ _ _ _ _ _
      | exact ih2 _ _ _ _ _ _ _ _ _
      | exact ih3 _ _ _ _ _ _
      | exact ih4 _ _ _ _ _ _ _
      | exact ih5 _ _ _ _
      | exact ih6 _ _
      | exact ih7 _ _ _
      | exact ih8 _ _ _ _ _ _
      | exact ih9 _ _ _ _ _ _
      | exact ih10 _ _ _ _ _
      | exact ih11 _ _ _ _ _
      | exact ih12 _ _ _ _ _ _ _
      | exact ih13 _ _ _ _ _ _
      | exact ih14 _ _ _
      | exact ih15 _ _ _ _ _ _ _ _ _
      | exact ih16 _ _ _ _ _ _ _
      | exact ih17 _ _ _ _ _ _ _ _ _ _
      | exact ih18 _ _ _ _ _ _ _ _ _
      | exact ih19 _ _ _ _ _ _ _ _
      | exact ih20 _ _ _ _ _ _ _ _
      | exact LeO.none _
      | refine LeO.ite ?_ ?_
      | refine LeO.bind ?_ (fun _ => ?_)
    · intro y0 y1 y2
      unfold strconv_fmtEFG.j13
      repeat' first
      | (with_reducible exact ih0 _ _ _ _ _ _ _ _ _)
      | (with_reducible exact ih1 _ _ _ _ _ _ _)
      | (with_reducible exact ih2 _ _ _ _ _ _ _ _ _)
      | (with_reducible exact ih3 _ _ _ _ _ _)
      | (with_reducible exact ih4 _ _ _ _ _ _ _)
      | (with_reducible exact ih5 _ _ _ _)
      | (with_reducible exact ih6 _ _)
      | (with_reducible exact ih7 _ _ _)
      | (with_reducible exact ih8 _ _ _ _ _ _)
      | (with_reducible exact ih9 _ _ _ _ _ _)
      | (with_reducible exact ih10 _ _ _ _ _)
      | (with_reducible exact ih11 _ _ _ _ _)
      | (with_reducible exact ih12 _ _ _ _ _ _ _)
      | (with_reducible exact ih13 _ _ _ _ _ _)
      | (with_reducible exact ih14 _ _ _)
      | (with_reducible exact ih15 _ _ _ _ _ _ _ _ _)
      | (with_reducible exact ih16 _ _ _ _ _ _ _)
      | (with_reducible exact ih17 _ _ _ _ _ _ _ _ _ _)
      | (with_reducible exact ih18 _ _ _ _ _ _ _ _ _)
      | (with_reducible exact ih19 _ _ _ _ _ _ _ _)
      | (with_reducible exact ih20 _ _ _ _ _ _ _ _)
      | (with_reducible exact LeO.refl _)
      | (with_reducible exact LeO.none _)
      | (with_reducible refine LeO.ite ?_ ?_)
      | (with_reducible refine LeO.bind ?_ (fun _ => ?_))
      | exact ih0 _ _ _ _ _ _ _ _ _
      | exact ih1 _ _ _ _ _ _ _
      | exact ih2 _ _ _ _ _ _ _ _ _
      | exact ih3 _ _ _ _ _ _
      | exact ih4 _ _ _ _ _ _ _
      | exact ih5 _ _ _ _
      | exact ih6 _ _
      | exact ih7 _ _ _
      | exact ih8 _ _ _ _ _ _
      | exact ih9 _ _ _ _ _ _
      | exact ih10 _ _ _ _ _
      | exact ih11 _ _ _ _ _
      | exact ih12 _ _ _ _ _ _ _
      | exact ih13 _ _ _ _ _ _
      | exact ih14 _ _ _
      | exact ih15 _ _ _ _ _ _ _ _ _
      | exact ih16 _ _ _ _ _ _ _
      | exact ih17 _ _ _ _ _ _ _ _ _ _
      | exact ih18 _ _ _ _ _ _ _ _ _
      | exact ih19 _ _ _ _ _ _ _ _
      | exact ih20 _ _ _ _ _ _ _ _
      | exact LeO.none _
      | refine LeO.ite ?_ ?_
      | refine LeO.bind ?_ (fun _ => ?_)
    · intro y0 y1 y2 y3 y4 y5
      unfold strconv_fmtEFG.j9
      repeat' first
      | (with_reducible exact ih0 _ _ _ _ _ _ _ _ _)
      | (with_reducible exact ih1 _ _ _ _ _ _ _)
      | (with_reducible exact ih2 _ _ _ _ _ _ _ _ _)
      | (with_reducible exact ih3 _ _ _ _ _ _)
      | (with_reducible exact ih4 _ _ _ _ _ _ _)
      | (with_reducible exact ih5 _ _ _ _)
      | (with_reducible exact ih6 _ _)
      | (with_reducible exact ih7 _ _ _)
      | (with_reducible exact ih8 _ _ _ _ _ _)
      | (with_reducible exact ih9 _ _ _ _ _ _)
      | (with_reducible exact ih10 _ _ _ _ _)
      | (with_reducible exact ih11 _ _ _ _ _)
      | (with_reducible exact ih12 _ _ _ _ _ _ _)
      | (with_reducible exact ih13 _ _ _ _ _ _)
      | (with_reducible exact ih14 _ _ _)
      | (with_reducible exact ih15 _ _ _ _ _ _ _ _ _)
      | (with_reducible exact ih16 _ _ _ _ _ _ _)
      | (with_reducible exact ih17 _ _ _ _ _ _ _ _ _ _)
      | (with_reducible exact ih18 _ _ _ _ _ _ _ _ _)
      | (with_reducible exact ih19 _ _ _ _ _ _ _ _)
      | (with_reducible exact ih20 _ _ _ _ _ _ _ _)
      | (with_reducible exact LeO.refl _)
      | (with_reducible exact LeO.none _)
      | (with_reducible refine LeO.ite ?_ ?_)
      | (with_reducible refine LeO.bind ?_ (fun _ => ?_))
      | exact ih0 _ _ _ _ _ _ _ _ _
      | exact ih1 _ _ _ _ _ _ _
      | exact ih2 _ _ _ _ _ _ _ _ _
      | exact ih3 _ _ _ _ _ _
      | exact ih4 _ _ _ _ _ _ _
      | exact ih5 _ _ _ _
      | exact ih6 _ _
      | exact ih7 _ _ _
      | exact ih8 _ _ _ _ _ _
      | exact ih9 _ _ _ _ _ _
      | exact ih10 _ _ _ _ _
      | exact ih11 _ _ _ _ _
      | exact ih12 _ _ _ _ _ _ _
      | exact ih13 _ _ _ _ _ _
      | exact ih14 _ _ _
      | exact ih15 _ _ _ _ _ _ _ _ _
      | exact ih16 _ _ _ _ _ _ _
      | exact ih17 _ _ _ _ _ _ _ _ _ _
      | exact ih18 _ _ _ _ _ _ _ _ _
      | exact ih19 _ _ _ _ _ _ _ _
      | exact ih20 _ _ _ _ _ _ _ _
      | exact LeO.none _
      | refine LeO.ite ?_ ?_
      | refine LeO.bind ?_ (fun _ => ?_)
    · intro y0 y1 y2 y3 y4 y5
      unfold strconv_fmtEFG.l0
      repeat' first
      | (with_reducible exact ih0 _ _ _ _ _ _ _ _ _)
      | (with_reducible exact ih1 _ _ _ _ _ _ _)
      | (with_reducible exact ih2 _ _ _ _ _ _ _ _ _)
      | (with_reducible exact ih3 _ _ _ _ _ _)
      | (with_reducible exact ih4 _ _ _ _ _ _ _)
      | (with_reducible exact ih5 _ _ _ _)
      | (with_reducible exact ih6 _ _)
      | (with_reducible exact ih7 _ _ _)
      | (with_reducible exact ih8 _ _ _ _ _ _)
      | (with_reducible exact ih9 _ _ _ _ _ _)
      | (with_reducible exact ih10 _ _ _ _ _)
      | (with_reducible exact ih11 _ _ _ _ _)
      | (with_reducible exact ih12 _ _ _ _ _ _ _)
      | (with_reducible exact ih13 _ _ _ _ _ _)
      | (with_reducible exact ih14 _ _ _)
      | (with_reducible exact ih15 _ _ _ _ _ _ _ _ _)
      | (with_reducible exact ih16 _ _ _ _ _ _ _)
      | (with_reducible exact ih17 _ _ _ _ _ _ _ _ _ _)
      | (with_reducible exact ih18 _ _ _ _ _ _ _ _ _)
      | (with_reducible exact ih19 _ _ _ _ _ _ _ _)
      | (with_reducible exact ih20 _ _ _ _ _ _ _ _)
      | (with_reducible exact LeO.refl _)
      | (with_reducible exact LeO.none _)
      | (with_reducible refine LeO.ite ?_ ?_)
      | (with_reducible refine LeO.bind ?_ (fun _ => ?_))
      | exact ih0 _ _ _ _ _ _ _ _ _
      | exact ih1 _ _ _ _ _ _ _
      | exact ih2 _ _ _ _ _ _ _ _ _
      | exact ih3 _ _ _ _ _ _
      | exact ih4 _ _ _ _ _ _ _
      | exact ih5 _ _ _ _
      | exact ih6 _ _
      | exact ih7 _ _ _
      | exact ih8 _ _ _ _ _ _
      | exact ih9 _ _ _ _ _ _
      | exact ih10 _ _ _ _ _
      | exact ih11 _ _ _ _ _
      | exact ih12 _ _ _ _ _ _ _
      | exact ih13 _ _ _ _ _ _
      | exact ih14 _ _ _
      | exact ih15 _ _ _ _ _ _ _ _ _
      | exact ih16 _ _ _ _ _ _ _
      | exact ih17 _ _ _ _ _ _ _ _ _ _
      | exact ih18 _ _ _ _ _ _ _ _ _
      | exact ih19 _ _ _ _ _ _ _ _
      | exact ih20 _ _ _ _ _ _ _ _
      | exact LeO.none _
      | refine LeO.ite ?_ ?_
      | refine LeO.bind ?_ (fun _ => ?_)
    · intro y0 y1 y2 y3 y4
      unfold strconv_fmtEFG.j14
      repeat' first
      | (with_reducible exact ih0 _ _ _ _ _ _ _ _ _)
      | (with_reducible exact ih1 _ _ _ _ _ _ _)
      | (with_reducible exact ih2 _ _ _ _ _ _ _ _ _)
      | (with_reducible exact ih3 _ _ _ _ _ _)
      | (with_reducible exact ih4 _ _ _ _ _ _ _)
      | (with_reducible exact ih5 _ _ _ _)
      | (with_reducible exact ih6 _ _)
      | (with_reducible exact ih7 _ _ _)
      | (with_reducible exact ih8 _ _ _ _ _ _)
      | (with_reducible exact ih9 _ _ _ _ _ _)
      | (with_reducible exact ih10 _ _ _ _ _)
      | (with_reducible exact ih11 _ _ _ _ _)
      | (with_reducible exact ih12 _ _ _ _ _ _ _)
      | (with_reducible exact ih13 _ _ _ _ _ _)
      | (with_reducible exact ih14 _ _ _)
      | (with_reducible exact ih15 _ _ _ _ _ _ _ _ _)
      | (with_reducible exact ih16 _ _ _ _ _ _ _)
      | (with_reducible exact ih17 _ _ _ _ _ _ _ _ _ _)
      | (with_reducible exact ih18 _ _ _ _ _ _ _ _ _)
      | (with_reducible exact ih19 _ _ _ _ _ _ _ _)
      | (with_reducible exact ih20 _ _ _ _ _ _ _ _)
      | (with_reducible exact LeO.refl _)
      | (with_reducible exact LeO.none _)
      | (with_reducible refine LeO.ite ?_ ?_)
      | (with_reducible refine LeO.bind ?_ (fun _ => ?_))
      | exact ih0 _ _ _ _ _ _ _ _ _
      | exact ih1 _ _ _ _ _ _ _
      | exact ih2 _ _ _ _ _ _ _ _ _
      | exact ih3 _ _ _ _ _ _
      | exact ih4 _ _ _ _ _ _ _
      | exact ih5 _ _ _ _
      | exact ih6 _ _
      | exact ih7 _ _ _
      | exact ih8 _ _ _ _ _ _
      | exact ih9 _ _ _ _ _ _
      | exact ih10 _ _ _ _ _
      | exact ih11 _ _ _ _ _
      | exact ih12 _ _ _ _ _ _ _
      | exact ih13 _ _ _ _ _ _
      | exact ih14 _ _ _
      | exact ih15 _ _ _ _ _ _ _ _ _
      | exact ih16 _ _ _ _ _ _ _
      | exact ih17 _ _ _ _ _ _ _ _ _ _
      | exact ih18 _ _ _ _ _ _ _ _ _
      | exact ih19 _ _ _ _ _ _ _ _
      | exact ih20 _ _ _ _ _ _ _ _
      | exact LeO.none _
      | refine LeO.ite ?_ ?_
      | refine LeO.bind ?_ (fun _ => ?_)
    · intro y0 y1 y2 y3 y4
      unfold strconv_fmtEFG.j17
      repeat' first
      | (with_reducible exact ih0 _ _ _ _ _ _ _ _ _)
      | (with_reducible exact ih1 _ _ _ _ _ _ _)
      | (with_reducible exact ih2 _ _ _ _ _ _ _ _ _)
      | (with_reducible exact ih3 _ _ _ _ _ _)
      | (with_reducible exact ih4 _ _ _ _ _ _ _)
      | (with_reducible exact ih5 _ _ _ _)
      | (with_reducible exact ih6 _ _)
      | (with_reducible exact ih7 _ _ _)
      | (with_reducible exact ih8 _ _ _ _ _ _)
      | (with_reducible exact ih9 _ _ _ _ _ _)
      | (with_reducible exact ih10 _ _ _ _ _)
      | (with_reducible exact ih11 _ _ _ _ _)
      | (with_reducible exact ih12 _ _ _ _ _ _ _)
      | (with_reducible exact ih13 _ _ _ _ _ _)
      | (with_reducible exact ih14 _ _ _)
      | (with_reducible exact ih15 _ _ _ _ _ _ _ _ _)
      | (with_reducible exact ih16 _ _ _ _ _ _ _)
      | (with_reducible exact ih17 _ _ _ _ _ _ _ _ _ _)
      | (with_reducible exact ih18 _ _ _ _ _ _ _ _ _)
      | (with_reducible exact ih19 _ _ _ _ _ _ _ _)
      | (with_reducible exact ih20 _ _ _ _ _ _ _ _)
      | (with_reducible exact LeO.refl _)
      | (with_reducible exact LeO.none _)
      | (with_reducible refine LeO.ite ?_ ?_)
      | (with_reducible refine LeO.bind ?_ (fun _ => ?_))
      | exact ih0 _ _ _ _ _ _ _ _ _
      | exact ih1 _ _ _ _ _ _ _
      | exact ih2 _ _ _ _ _ _ _ _ _
      | exact ih3 _ _ _ _ _ _
      | exact ih4 _ _ _ _ _ _ _
      | exact ih5 _ _ _ _
      | exact ih6 _ _
      | exact ih7 _ _ _
      | exact ih8 _ _ _ _ _ _
      | exact ih9 _ _ _ _ _ _
      | exact ih10 _ _ _ _ _
      | exact ih11 _ _ _ _ _
      | exact ih12 _ _ _ _ _ _ _
      | exact ih13 _ _ _ _ _ _
      | exact ih14 _ _ _
      | exact ih15 _ _ _ _ _ _ _ _ _
      | exact ih16 _ _ _ _ _ _ _
      | exact ih17 _ _ _ _ _ _ _ _ _ _
      | exact ih18 _ _ _ _ _ _ _ _ _
      | exact ih19 _ _ _ _ _ _ _ _
      | exact ih20 _ _ _ _ _ _ _ _
      | exact LeO.none _
      | refine LeO.ite ?_ ?_
      | refine LeO.bind ?_ (fun _ => ?_)
    · intro y0 y1 y2 y3 y4 y5 y6
      unfold strconv_fmtEFG.l3
      repeat' first
      | (with_reducible exact ih0 _ _ _ _ _ _ _ _ _)
      | (with_reducible exact ih1 _ _ _ _ _ _ _)
      | (with_reducible exact ih2 _ _ _ _ _ _ _ _ _)
      | (with_reducible exact ih3 _ _ _ _ _ _)
      | (with_reducible exact ih4 _ _ _ _ _ _ _)
      | (with_reducible exact ih5 _ _ _ _)
      | (with_reducible exact ih6 _ _)
      | (with_reducible exact ih7 _ _ _)
      | (with_reducible exact ih8 _ _ _ _ _ _)
      | (with_reducible exact ih9 _ _ _ _ _ _)
      | (with_reducible exact ih10 _ _ _ _ _)
      | (with_reducible exact ih11 _ _ _ _ _)
      | (with_reducible exact ih12 _ _ _ _ _ _ _)
      | (with_reducible exact ih13 _ _ _ _ _ _)
      | (with_reducible exact ih14 _ _ _)
      | (with_reducible exact ih15 _ _ _ _ _ _ _ _ _)
      | (with_reducible exact ih16 _ _ _ _ _ _ _)
      | (with_reducible exact ih17 _ _ _ _ _ _ _ _ _ _)
      | (with_reducible exact ih18 _ _ _ _ _ _ _ _ _)
      | (with_reducible exact ih19 _ _ _ _ _ _ _ _)
      | (with_reducible exact ih20 _ _ _ _ _ _ _ _)
      | (with_reducible exact LeO.refl _)
      | (with_reducible exact LeO.none _)
      | (with_reducible refine LeO.ite ?_ ?_)
      | (with_reducible refine LeO.bind ?_ (fun _ => ?_))
      | exact ih0 _ _ _ _ _ _ _ _ _
      | exact ih1 _ _ _ _ _ _ _
      | exact ih2 _ _ _ _ _ _ _ _ _
      | exact ih3 _ _ _ _ _ _
      | exact ih4 _ _ _ _ _ _ _
      | exact ih5 _ _ _ _
      | exact ih6 _ _
      | exact ih7 _ _ _
      | exact ih8 _ _ _ _ _ _
      | exact ih9 _ _ _ _ _ _
      | exact ih10 _ _ _ _ _
      | exact ih11 _ _ _ _ _
      | exact ih12 _ _ _ _ _ _ _
      | exact ih13 _ _ _ _ _ _
      | exact ih14 _ _ _
      | exact ih15 _ _ _ _ _ _ _ _ _
      | exact ih16 _ _ _ _ _ _ _
      | exact ih17 _ _ _ _ _ _ _ _ _ _
      | exact ih18 _ _ _ _ _ _ _ _ _
      | exact ih19 _ _ _ _ _ _ _ _
      | exact ih20 _ _ _ _ _ _ _ _
      | exact LeO.none _
      | refine LeO.ite ?_ ?_
      | refine LeO.bind ?_ (fun _ => ?_)
    · intro y0 y1 y2 y3 y4 y5
      unfold strconv_fmtEFG.l4
      repeat' first
      | (with_reducible exact ih0 _ _ _ _ _ _ _ _ _)
      | (with_reducible exact ih1 _ _ _ _ _ _ _)
      | (with_reducible exact ih2 _ _ _ _ _ _ _ _ _)
      | (with_reducible exact ih3 _ _ _ _ _ _)
      | (with_reducible exact ih4 _ _ _ _ _ _ _)
      | (with_reducible exact ih5 _ _ _ _)
      | (with_reducible exact ih6 _ _)
      | (with_reducible exact ih7 _ _ _)
      | (with_reducible exact ih8 _ _ _ _ _ _)
      | (with_reducible exact ih9 _ _ _ _ _ _)
      | (with_reducible exact ih10 _ _ _ _ _)
      | (with_reducible exact ih11 _ _ _ _ _)
      | (with_reducible exact ih12 _ _ _ _ _ _ _)
      | (with_reducible exact ih13 _ _ _ _ _ _)
      | (with_reducible exact ih14 _ _ _)
      | (with_reducible exact ih15 _ _ _ _ _ _ _ _ _)
      | (with_reducible exact ih16 _ _ _ _ _ _ _)
      | (with_reducible exact ih17 _ _ _ _ _ _ _ _ _ _)
      | (with_reducible exact ih18 _ _ _ _ _ _ _ _ _)
      | (with_reducible exact ih19 _ _ _ _ _ _ _ _)
      | (with_reducible exact ih20 _ _ _ _ _ _ _ _)
      | (with_reducible exact LeO.refl _)
      | (with_reducible exact LeO.none _)
      | (with_reducible refine LeO.ite ?_ ?_)
      | (with_reducible refine LeO.bind ?_ (fun _ => ?_))
      | exact ih0 _ _ _ _ _ _ _ _ _
      | exact ih1 _ _ _ _ _ _ _
      | exact ih2 _ _ _ _ _ _ _ _ _
      | exact ih3 _ _ _ _ _ _
      | exact ih4 _ _ _ _ _ _ _
      | exact ih5 _ _ _ _
      | exact ih6 _ _
      | exact ih7 _ _ _
      | exact ih8 _ _ _ _ _ _
      | exact ih9 _ _ _ _ _ _
      | exact ih10 _ _ _ _ _
      | exact ih11 _ _ _ _ _
      | exact ih12 _ _ _ _ _ _ _
      | exact ih13 _ _ _ _ _ _
      | exact ih14 _ _ _
      | exact ih15 _ _ _ _ _ _ _ _ _
      | exact ih16 _ _ _ _ _ _ _
      | exact ih17 _ _ _ _ _ _ _ _ _ _
      | exact ih18 _ _ _ _ _ _ _ _ _
      | exact ih19 _ _ _ _ _ _ _ _
      | exact ih20 _ _ _ _ _ _ _ _
      | exact LeO.none _
      | refine LeO.ite ?_ ?_
      | refine LeO.bind ?_ (fun _ => ?_)
    · intro y0 y1 y2
      unfold strconv_fmtEFG.l5
      repeat' first
      | (with_reducible exact ih0 _ _ _ _ _ _ _ _ _)
      | (with_reducible exact ih1 _ _ _ _ _ _ _)
      | (with_reducible exact ih2 _ _ _ _ _ _ _ _ _)
      | (with_reducible exact ih3 _ _ _ _ _ _)
      | (with_reducible exact ih4 _ _ _ _ _ _ _)
      | (with_reducible exact ih5 _ _ _ _)
      | (with_reducible exact ih6 _ _)
      | (with_reducible exact ih7 _ _ _)
      | (with_reducible exact ih8 _ _ _ _ _ _)
      | (with_reducible exact ih9 _ _ _ _ _ _)
      | (with_reducible exact ih10 _ _ _ _ _)
      | (with_reducible exact ih11 _ _ _ _ _)
      | (with_reducible exact ih12 _ _ _ _ _ _ _)
      | (with_reducible exact ih13 _ _ _ _ _ _)
      | (with_reducible exact ih14 _ _ _)
      | (with_reducible exact ih15 _ _ _ _ _ _ _ _ _)
      | (with_reducible exact ih16 _ _ _ _ _ _ _)
      | (with_reducible exact ih17 _ _ _ _ _ _ _ _ _ _)
      | (with_reducible exact ih18 _ _ _ _ _ _ _ _ _)
      | (with_reducible exact ih19 _ _ _ _ _ _ _ _)
      | (with_reducible exact ih20 _ _ _ _ _ _ _ _)
      | (with_reducible exact LeO.refl _)
      | (with_reducible exact LeO.none _)
      | (with_reducible refine LeO.ite ?_ ?_)
      | (with_reducible refine LeO.bind ?_ (fun _ => ?_))
      | exact ih0 _ _ _ _ _ _ _ _ _
      | exact ih1 _ _ _ _ _ _ _
      | exact ih2 _ _ _ _ _ _ _ _ _
      | exact ih3 _ _ _ _ _ _
      | exact ih4 _ _ _ _ _ _ _
      | exact ih5 _ _ _ _
      | exact ih6 _ _
      | exact ih7 _ _ _
      | exact ih8 _ _ _ _ _ _
      | exact ih9 _ _ _ _ _ _
      | exact ih10 _ _ _ _ _
      | exact ih11 _ _ _ _ _
      | exact ih12 _ _ _ _ _ _ _
      | exact ih13 _ _ _ _ _ _
      | exact ih14 _ _ _
      | exact ih15 _ _ _ _ _ _ _ _ _
      | exact ih16 _ _ _ _ _ _ _
      | exact ih17 _ _ _ _ _ _ _ _ _ _
      | exact ih18 _ _ _ _ _ _ _ _ _
      | exact ih19 _ _ _ _ _ _ _ _
      | exact ih20 _ _ _ _ _ _ _ _
      | exact LeO.none _
      | refine LeO.ite ?_ ?_
      | refine LeO.bind ?_ (fun _ => ?_)
    · intro y0 y1 y2 y3 y4 y5 y6 y7 y8
      unfold strconv_fmtEFG.l1
      repeat' first
      | (with_reducible exact ih0 _ _ _ _ _ _ _ _ _)
      | (with_reducible exact ih1 _ _ _ _ _ _ _)
      | (with_reducible exact ih2 _ _ _ _ _ _ _ _ _)
      | (with_reducible exact ih3 _ _ _ _ _ _)
      | (with_reducible exact ih4 _ _ _ _ _ _ _)
      | (with_reducible exact ih5 _ _ _ _)
      | (with_reducible exact ih6 _ _)
      | (with_reducible exact ih7 _ _ _)
      | (with_reducible exact ih8 _ _ _ _ _ _)
      | (with_reducible exact ih9 _ _ _ _ _ _)
      | (with_reducible exact ih10 _ _ _ _ _)
      | (with_reducible exact ih11 _ _ _ _ _)
      | (with_reducible exact ih12 _ _ _ _ _ _ _)
      | (with_reducible exact ih13 _ _ _ _ _ _)
      | (with_reducible exact ih14 _ _ _)
      | (with_reducible exact ih15 _ _ _ _ _ _ _ _ _)
      | (with_reducible exact ih16 _ _ _ _ _ _ _)
      | (with_reducible exact ih17 _ _ _ _ _ _ _ _ _ _)
      | (with_reducible exact ih18 _ _ _ _ _ _ _ _ _)
      | (with_reducible exact ih19 _ _ _ _ _ _ _ _)
      | (with_reducible exact ih20 _ _ _ _ _ _ _ _)
      | (with_reducible exact LeO.refl _)
      | (with_reducible exact LeO.none _)
      | (with_reducible refine LeO.ite ?_ ?_)
      | (with_reducible refine LeO.bind ?_ (fun _ => ?_))
      | exact ih0 _ _ _ _ _ _ _ _ _
      | exact ih1 _ _ _ _ _ _ _
      | exact ih2 _ _ _ _ _ _ _ _ _
      | exact ih3 _ _ _ _ _ _
      | exact ih4 _ _ _ _ _ _ _
      | exact ih5 _ _ _ _
      | exact ih6 _ _
      | exact ih7 _ _ _
      | exact ih8 _ _ _ _ _ _
      | exact ih9 _ _ _ _ _ _
      | exact ih10 _ _ _ _ _
      | exact ih11 _ _ _ _ _
      | exact ih12 _ _ _ _ _ _ _
      | exact ih13 _ _ _ _ _ _
      | exact ih14 _ _ _
      | exact ih15 _ _ _ _ _ _ _ _ _
      | exact ih16 _ _ _ _ _ _ _
      | exact ih17 _ _ _ _ _ _ _ _ _ _
      | exact ih18 _ _ _ _ _ _ _ _ _
      | exact ih19 _ _ _ _ _ _ _ _
      | exact ih20 _ _ _ _ _ _ _ _
      | exact LeO.none _
      | refine LeO.ite ?_ ?_
      | refine LeO.bind ?_ (fun _ => ?_)
    · intro y0 y1 y2 y3 y4 y5 y6
      unfold strconv_fmtEFG.l2
      repeat' first
      | (with_reducible exact ih0 _ _ _ _ _ _ _ _ _)
      | (with_reducible exact ih1 _ _ _ _ _ _ _)
      | (with_reducible exact ih2 _ _ _ _ _ _ _ _ _)
      | (with_reducible exact ih3 _ _ _ _ _ _)
      | (with_reducible exact ih4 _ _ _ _ _ _ _)
      | (with_reducible exact ih5 _ _ _ _)
      | (with_reducible exact ih6 _ _)
      | (with_reducible exact ih7 _ _ _)
      | (with_reducible exact ih8 _ _ _ _ _ _)
      | (with_reducible exact ih9 _ _ _ _ _ _)
      | (with_reducible exact ih10 _ _ _ _ _)
      | (with_reducible exact ih11 _ _ _ _ _)
      | (with_reducible exact ih12 _ _ _ _ _ _ _)
      | (with_reducible exact ih13 _ _ _ _ _ _)
      | (with_reducible exact ih14 _ _ _)
      | (with_reducible exact ih15 _ _ _ _ _ _ _ _ _)
      | (with_reducible exact ih16 _ _ _ _ _ _ _)
      | (with_reducible exact ih17 _ _ _ _ _ _ _ _ _ _)
      | (with_reducible exact ih18 _ _ _ _ _ _ _ _ _)
      | (with_reducible exact ih19 _ _ _ _ _ _ _ _)
      | (with_reducible exact ih20 _ _ _ _ _ _ _ _)
      | (with_reducible exact LeO.refl _)
      | (with_reducible exact LeO.none _)
      | (with_reducible refine LeO.ite ?_ ?_)
      | (with_reducible refine LeO.bind ?_ (fun _ => ?_))
      | exact ih0 _ _ _ _ _ _ _ _ _
      | exact ih1 _ _ _ _ _ _ _
      | exact ih2 _ _ _ _ _ _ _ _ _
      | exact ih3 _ _ _ _ _ _
      | exact ih4 _ _ _ _ _ _ _
      | exact ih5 _ _ _ _
      | exact ih6 _ _
      | exact ih7 _ _ _
      | exact ih8 _ _ _ _ _ _
      | exact ih9 _ _ _ _ _ _
      | exact ih10 _ _ _ _ _
      | exact ih11 _ _ _ _ _
      | exact ih12 _ _ _ _ _ _ _
      | exact ih13 _ _ _ _ _ _
      | exact ih14 _ _ _
      | exact ih15 _ _ _ _ _ _ _ _ _
      | exact ih16 _ _ _ _ _ _ _
      | exact ih17 _ _ _ _ _ _ _ _ _ _
      | exact ih18 _ _ _ _ _ _ _ _ _
      | exact ih19 _ _ _ _ _ _ _ _
      | exact ih20 _ _ _ _ _ _ _ _
      | exact LeO.none _
      | refine LeO.ite ?_ ?_
      | refine LeO.bind ?_ (fun _ => ?_)
    · intro y0 y1 y2 y3 y4 y5 y6 y7 y8 y9
      unfold strconv_fmtEFG.j1
      repeat' first
      | (with_reducible exact ih0 _ _ _ _ _ _ _ _ _)
      | (with_reducible exact ih1 _ _ _ _ _ _ _)
      | (with_reducible exact ih2 _ _ _ _ _ _ _ _ _)
      | (with_reducible exact ih3 _ _ _ _ _ _)
      | (with_reducible exact ih4 _ _ _ _ _ _ _)
      | (with_reducible exact ih5 _ _ _ _)
      | (with_reducible exact ih6 _ _)
      | (with_reducible exact ih7 _ _ _)
      | (with_reducible exact ih8 _ _ _ _ _ _)
      | (with_reducible exact ih9 _ _ _ _ _ _)
      | (with_reducible exact ih10 _ _ _ _ _)
      | (with_reducible exact ih11 _ _ _ _ _)
      | (with_reducible exact ih12 _ _ _ _ _ _ _)
      | (with_reducible exact ih13 _ _ _ _ _ _)
      | (with_reducible exact ih14 _ _ _)
      | (with_reducible exact ih15 _ _ _ _ _ _ _ _ _)
      | (with_reducible exact ih16 _ _ _ _ _ _ _)
      | (with_reducible exact ih17 _ _ _ _ _ _ _ _ _ _)
      | (with_reducible exact ih18 _ _ _ _ _ _ _ _ _)
      | (with_reducible exact ih19 _ _ _ _ _ _ _ _)
      | (with_reducible exact ih20 _ _ _ _ _ _ _ _)
      | (with_reducible exact LeO.refl _)
      | (with_reducible exact LeO.none _)
      | (with_reducible refine LeO.ite ?_ ?_)
      | (with_reducible refine LeO.bind ?_ (fun _ => ?_))
      | exact ih0 _ _ _ _ _ _ _ _ _
      | exact ih1 _ _ _ _ _ _ _
      | exact ih2 _ _ _ _ _ _ _ _ _
      | exact ih3 _ _ _ _ _ _
      | exact ih4 _ _ _ _ _ _ _
      | exact ih5 _ _ _ _
      | exact ih6 _ _
      | exact ih7 _ _ _
      | exact ih8 _ _ _ _ _ _
      | exact ih9 _ _ _ _ _ _
      | exact ih10 _ _ _ _ _
      | exact ih11 _ _ _ _ _
      | exact ih12 _ _ _ _ _ _ _
      | exact ih13 _ _ _ _ _ _
      | exact ih14 _ _ _
      | exact ih15 _ _ _ _ _ _ _ _ _
      | exact ih16 _ _ _ _ _ _ _
      | exact ih17 _ _ _ _ _ _ _ _ _ _
      | exact ih18 _ _ _ _ _ _ _ _ _
      | exact ih19 _ _ _ _ _ _ _ _
      | exact ih20 _ _ _ _ _ _ _ _
      | exact LeO.none _
      | refine LeO.ite ?_ ?_
      | refine LeO.bind ?_ (fun _ => ?_)
    · intro y0 y1 y2 y3 y4 y5 y6 y7 y8
      unfold strconv_fmtEFG.j2
      repeat' first
      | (with_reducible exact ih0 _ _ _ _ _ _ _ _ _)
      | (with_reducible exact ih1 _ _ _ _ _ _ _)
      | (with_reducible exact ih2 _ _ _ _ _ _ _ _ _)
      | (with_reducible exact ih3 _ _ _ _ _ _)
      | (with_reducible exact ih4 _ _ _ _ _ _ _)
      | (with_reducible exact ih5 _ _ _ _)
      | (with_reducible exact ih6 _ _)
      | (with_reducible exact ih7 _ _ _)
      | (with_reducible exact ih8 _ _ _ _ _ _)
      | (with_reducible exact ih9 _ _ _ _ _ _)
      | (with_reducible exact ih10 _ _ _ _ _)
      | (with_reducible exact ih11 _ _ _ _ _)
      | (with_reducible exact ih12 _ _ _ _ _ _ _)
      | (with_reducible exact ih13 _ _ _ _ _ _)
      | (with_reducible exact ih14 _ _ _)
      | (with_reducible exact ih15 _ _ _ _ _ _ _ _ _)
      | (with_reducible exact ih16 _ _ _ _ _ _ _)
      | (with_reducible exact ih17 _ _ _ _ _ _ _ _ _ _)
      | (with_reducible exact ih18 _ _ _ _ _ _ _ _ _)
      | (with_reducible exact ih19 _ _ _ _ _ _ _ _)
      | (with_reducible exact ih20 _ _ _ _ _ _ _ _)
      | (with_reducible exact LeO.refl _)
      | (with_reducible exact LeO.none _)
      | (with_reducible refine LeO.ite ?_ ?_)
      | (with_reducible refine LeO.bind ?_ (fun _ => ?_))
      | exact ih0 _ _ _ _ _ _ _ _ _
      | exact ih1 _ _ _ _ _ _ _
      | exact ih2 _ _ _ _ _ _ _ _ _
      | exact ih3 _ _ _ _ _ _
      | exact ih4 _ _ _ _ _ _ _
      | exact ih5 _ _ _ _
      | exact ih6 _ _
      | exact ih7 _ _ _
      | exact ih8 _ _ _ _ _ _
      | exact ih9 _ _ _ _ _ _
      | exact ih10 _ _ _ _ _
      | exact ih11 _ _ _ _ _
      | exact ih12 _ _ _ _ _ _ _
      | exact ih13 _ _ _ _ _ _
      | exact ih14 _ _ _
      | exact ih15 _ _ _ _ _ _ _ _ _
      | exact ih16 _ _ _ _ _ _ _
      | exact ih17 _ _ _ _ _ _ _ _ _ _
      | exact ih18 _ _ _ _ _ _ _ _ _
      | exact ih19 _ _ _ _ _ _ _ _
      | exact ih20 _ _ _ _ _ _ _ _
      | exact LeO.none _
      | refine LeO.ite ?_ ?_
      | refine LeO.bind ?_ (fun _ => ?_)
    · intro y0 y1 y2 y3 y4 y5 y6 y7
      unfold strconv_fmtEFG.j3
      repeat' first
      | (with_reducible exact ih0 _ _ _ _ _ _ _ _ _)
      | (with_reducible exact ih1 _ _ _ _ _ _ _)
      | (with_reducible exact ih2 _ _ _ _ _ _ _ _ _)
      | (with_reducible exact ih3 _ _ _ _ _ _)
      | (with_reducible exact ih4 _ _ _ _ _ _ _)
      | (with_reducible exact ih5 _ _ _ _)
      | (with_reducible exact ih6 _ _)
      | (with_reducible exact ih7 _ _ _)
      | (with_reducible exact ih8 _ _ _ _ _ _)
      | (with_reducible exact ih9 _ _ _ _ _ _)
      | (with_reducible exact ih10 _ _ _ _ _)
      | (with_reducible exact ih11 _ _ _ _ _)
      | (with_reducible exact ih12 _ _ _ _ _ _ _)
      | (with_reducible exact ih13 _ _ _ _ _ _)
      | (with_reducible exact ih14 _ _ _)
      | (with_reducible exact ih15 _ _ _ _ _ _ _ _ _)
      | (with_reducible exact ih16 _ _ _ _ _ _ _)
      | (with_reducible exact ih17 _ _ _ _ _ _ _ _ _ _)
      | (with_reducible exact ih18 _ _ _ _ _ _ _ _ _)
      | (with_reducible exact ih19 _ _ _ _ _ _ _ _)
      | (with_reducible exact ih20 _ _ _ _ _ _ _ _)
      | (with_reducible exact LeO.refl _)
      | (with_reducible exact LeO.none _)
      | (with_reducible refine LeO.ite ?_ ?_)
      | (with_reducible refine LeO.bind ?_ (fun _ => ?_))
      | exact ih0 _ _ _ _ _ _ _ _ _
      | exact ih1 _ _ _ _ _ _ _
      | exact ih2 _ _ _ _ _ _ _ _ _
      | exact ih3 _ _ _ _ _ _
      | exact ih4 _ _ _ _ _ _ _
      | exact ih5 _ _ _ _
      | exact ih6 _ _
      | exact ih7 _ _ _
      | exact ih8 _ _ _ _ _ _
      | exact ih9 _ _ _ _ _ _
      | exact ih10 _ _ _ _ _
      | exact ih11 _ _ _ _ _
      | exact ih12 _ _ _ _ _ _ _
      | exact ih13 _ _ _ _ _ _
      | exact ih14 _ _ _
      | exact ih15 _ _ _ _ _ _ _ _ _
      | exact ih16 _ _ _ _ _ _ _
      | exact ih17 _ _ _ _ _ _ _ _ _ _
      | exact ih18 _ _ _ _ _ _ _ _ _
      | exact ih19 _ _ _ _ _ _ _ _
      | exact ih20 _ _ _ _ _ _ _ _
      | exact LeO.none _
      | refine LeO.ite ?_ ?_
      | refine LeO.bind ?_ (fun _ => ?_)
    · intro y0 y1 y2 y3 y4 y5 y6 y7
      unfold strconv_fmtEFG.j4
      repeat' first
      | (with_reducible exact ih0 _ _ _ _ _ _ _ _ _)
      | (with_reducible exact ih1 _ _ _ _ _ _ _)
      | (with_reducible exact ih2 _ _ _ _ _ _ _ _ _)
      | (with_reducible exact ih3 _ _ _ _ _ _)
      | (with_reducible exact ih4 _ _ _ _ _ _ _)
      | (with_reducible exact ih5 _ _ _ _)
      | (with_reducible exact ih6 _ _)
      | (with_reducible exact ih7 _ _ _)
      | (with_reducible exact ih8 _ _ _ _ _ _)
      | (with_reducible exact ih9 _ _ _ _ _ _)
      | (with_reducible exact ih10 _ _ _ _ _)
      | (with_reducible exact ih11 _ _ _ _ _)
      | (with_reducible exact ih12 _ _ _ _ _ _ _)
      | (with_reducible exact ih13 _ _ _ _ _ _)
      | (with_reducible exact ih14 _ _ _)
      | (with_reducible exact ih15 _ _ _ _ _ _ _ _ _)
      | (with_reducible exact ih16 _ _ _ _ _ _ _)
      | (with_reducible exact ih17 _ _ _ _ _ _ _ _ _ _)
      | (with_reducible exact ih18 _ _ _ _ _ _ _ _ _)
      | (with_reducible exact ih19 _ _ _ _ _ _ _ _)
      | (with_reducible exact ih20 _ _ _ _ _ _ _ _)
      | (with_reducible exact LeO.refl _)
      | (with_reducible exact LeO.none _)
      | (with_reducible refine LeO.ite ?_ ?_)
      | (with_reducible refine LeO.bind ?_ (fun _ => ?_))
      | exact ih0 _ _ _ _ _ _ _ _ _
      | exact ih1 _ _ _ _ _ _ _
      | exact ih2 _ _ _ _ _ _ _ _ _
      | exact ih3 _ _ _ _ _ _
      | exact ih4 _ _ _ _ _ _ _
      | exact ih5 _ _ _ _
      | exact ih6 _ _
      | exact ih7 _ _ _
      | exact ih8 _ _ _ _ _ _
      | exact ih9 _ _ _ _ _ _
      | exact ih10 _ _ _ _ _
      | exact ih11 _ _ _ _ _
      | exact ih12 _ _ _ _ _ _ _
      | exact ih13 _ _ _ _ _ _
      | exact ih14 _ _ _
      | exact ih15 _ _ _ _ _ _ _ _ _
      | exact ih16 _ _ _ _ _ _ _
      | exact ih17 _ _ _ _ _ _ _ _ _ _
      | exact ih18 _ _ _ _ _ _ _ _ _
      | exact ih19 _ _ _ _ _ _ _ _
      | exact ih20 _ _ _ _ _ _ _ _
      | exact LeO.none _
      | refine LeO.ite ?_ ?_
      | refine LeO.bind ?_ (fun _ => ?_)
theorem strconv_fmtEFG.mono : ∀ a0 a1 a2 a3 a4 a5 a6 a7 k, LeO (strconv_fmtEFG.f k a0 a1 a2 a3 a4 a5 a6 a7) (strconv_fmtEFG.f (k + 1) a0 a1 a2 a3 a4 a5 a6 a7) := by
  intro a0 a1 a2 a3 a4 a5 a6 a7 k
  obtain ⟨ih0, ih1, ih2, ih3, ih4, ih5, ih6, ih7, ih8, ih9, ih10, ih11, ih12, ih13, ih14, ih15, ih16, ih17, ih18, ih19, ih20⟩ := strconv_fmtEFG.mono_l k
  unfold strconv_fmtEFG.f
  repeat' first
      | (with_reducible exact ih0 _ _ _ _ _ _ _ _ _)
      | (with_reducible exact ih1 _ _ _ _ _ _ _)
      | (with_reducible exact ih2 _ _ _ _ _ _ _ _ _)
      | (with_reducible exact ih3 _ _ _ _ _ _)
      | (with_reducible exact ih4 _ _ _ _ _ _ _)
      | (with_reducible exact ih5 _ _ _ _)
      | (with_reducible exact ih6 _ _)
      | (with_reducible exact ih7 _ _ _)
      | (with_reducible exact ih8 _ _ _ _ _ _)
      | (with_reducible exact ih9 _ _ _ _ _ _)
      | (with_reducible exact ih10 _ _ _ _ _)
      | (with_reducible exact ih11 _ _ _ _ _)
      | (with_reducible exact ih12 _ _ _ _ _ _ _)
      | (with_reducible exact ih13 _ _ _ _ _ _)
      | (with_reducible exact ih14 _ _ _)
      | (with_reducible exact ih15 _ _ _ _ _ _ _ _ _)
      | (with_reducible exact ih16 _ _ _ _ _ _ _)
      | (with_reducible exact ih17 _ _ _ _ _ _ _ _ _ _)
      | (with_reducible exact ih18 _ _ _ _ _ _ _ _ _)
      | (with_reducible exact ih19 _ _ _ _ _ _ _ _)
      | (with_reducible exact ih20 _ _ _ _ _ _ _ _)
      | (with_reducible exact LeO.refl _)
      | (with_reducible exact LeO.none _)
      | (with_reducible refine LeO.ite ?_ ?_)
      | (with_reducible refine LeO.bind ?_ (fun _ => ?_))
      | exact ih0 _ _ _ _ _ _ _ _ _
      | exact ih1 _ _ _ _ _ _ _
      | exact ih2 _ _ _ _ _ _ _ _ _
      | exact ih3 _ _ _ _ _ _
      | exact ih4 _ _ _ _ _ _ _
      | exact ih5 _ _ _ _
      | exact ih6 _ _
      | exact ih7 _ _ _
      | exact ih8 _ _ _ _ _ _
      | exact ih9 _ _ _ _ _ _
      | exact ih10 _ _ _ _ _
      | exact ih11 _ _ _ _ _
      | exact ih12 _ _ _ _ _ _ _
      | exact ih13 _ _ _ _ _ _
      | exact ih14 _ _ _
      | exact ih15 _ _ _ _ _ _ _ _ _
      | exact ih16 _ _ _ _ _ _ _
      | exact ih17 _ _ _ _ _ _ _ _ _ _
      | exact ih18 _ _ _ _ _ _ _ _ _
      | exact ih19 _ _ _ _ _ _ _ _
      | exact ih20 _ _ _ _ _ _ _ _
      | exact LeO.none _
      | refine LeO.ite ?_ ?_
      | refine LeO.bind ?_ (fun _ => ?_)
end Go.Proofs.YtiopeaponffmdaaDoor.PAll
