/- The texts of a proof, its declarations alone: part 16. -/
import Derived.WalkLawsBesides
import Derived.Laws.BitsAllLaws
import Derived.Handy
import Derived.Test.YtiopeaponffmdaaDoorVA1
import Derived.Test.YtiopeaponffmdaaDoorVA2
import Derived.Test.YtiopeaponffmdaaDoorVA3
import Derived.Test.YtiopeaponffmdaaDoorVA4
import Derived.Test.YtiopeaponffmdaaDoorVA5
import Derived.Test.YtiopeaponffmdaaDoorVA6
import Derived.Test.YtiopeaponffmdaaDoorVA7
import Derived.Test.YtiopeaponffmdaaDoorVA8
import Derived.Test.YtiopeaponffmdaaDoorVA9
import Derived.Test.YtiopeaponffmdaaDoorVA10
import Derived.Test.YtiopeaponffmdaaDoorVA11
import Derived.Test.YtiopeaponffmdaaDoorVA12
import Derived.Test.YtiopeaponffmdaaDoorVA13
import Derived.Test.YtiopeaponffmdaaDoorVA14
import Derived.Test.YtiopeaponffmdaaDoorVA15
set_option linter.unusedVariables false
set_option linter.unusedSimpArgs false
-- YtiopeaponffmdaaDoorMe
namespace Go.Proofs.YtiopeaponffmdaaDoor.Fm
theorem allB_at {f : Int → Bool} {n : Nat} {o : Int} (h : allB n (fun i => f ((i : Int) + o)) = true) (E : Int) (h0 : o ≤ E) (h1 : E < o + n) : f E = true := by
  have := allB_of h (E - o).toNat (by omega)
  rwa [show (((E - o).toNat : Nat) : Int) + o = E by omega] at this
theorem certE_64 (E : Int) (h0 : -1074 ≤ E) (h1 : E ≤ 971) : certE (2 ^ 54) 11 E = true := by
  by_cases a0 : E < -946
  · exact allB_at (f := fun E => certE (2 ^ 54) 11 E) e0 E (by omega) (by omega)
  by_cases a1 : E < -818
  · exact allB_at (f := fun E => certE (2 ^ 54) 11 E) e1 E (by omega) (by omega)
  by_cases a2 : E < -690
  · exact allB_at (f := fun E => certE (2 ^ 54) 11 E) e2 E (by omega) (by omega)
  by_cases a3 : E < -562
  · exact allB_at (f := fun E => certE (2 ^ 54) 11 E) e3 E (by omega) (by omega)
  by_cases a4 : E < -434
  · exact allB_at (f := fun E => certE (2 ^ 54) 11 E) e4 E (by omega) (by omega)
  by_cases a5 : E < -306
  · exact allB_at (f := fun E => certE (2 ^ 54) 11 E) e5 E (by omega) (by omega)
  by_cases a6 : E < -178
  · exact allB_at (f := fun E => certE (2 ^ 54) 11 E) e6 E (by omega) (by omega)
  by_cases a7 : E < -50
  · exact allB_at (f := fun E => certE (2 ^ 54) 11 E) e7 E (by omega) (by omega)
  by_cases a8 : E < 78
  · exact allB_at (f := fun E => certE (2 ^ 54) 11 E) e8 E (by omega) (by omega)
  by_cases a9 : E < 206
  · exact allB_at (f := fun E => certE (2 ^ 54) 11 E) e9 E (by omega) (by omega)
  by_cases a10 : E < 334
  · exact allB_at (f := fun E => certE (2 ^ 54) 11 E) e10 E (by omega) (by omega)
  by_cases a11 : E < 462
  · exact allB_at (f := fun E => certE (2 ^ 54) 11 E) e11 E (by omega) (by omega)
  by_cases a12 : E < 590
  · exact allB_at (f := fun E => certE (2 ^ 54) 11 E) e12 E (by omega) (by omega)
  by_cases a13 : E < 718
  · exact allB_at (f := fun E => certE (2 ^ 54) 11 E) e13 E (by omega) (by omega)
  by_cases a14 : E < 846
  · exact allB_at (f := fun E => certE (2 ^ 54) 11 E) e14 E (by omega) (by omega)
  exact allB_at (f := fun E => certE (2 ^ 54) 11 E) e15 E (by omega) (by omega)
theorem certS_64 (E : Int) (h0 : -1074 ≤ E) (h1 : E ≤ 971) : certS (2 ^ 55) 11 E = true := by
  by_cases a0 : E < -946
  · exact allB_at (f := fun E => certS (2 ^ 55) 11 E) s0 E (by omega) (by omega)
  by_cases a1 : E < -818
  · exact allB_at (f := fun E => certS (2 ^ 55) 11 E) s1 E (by omega) (by omega)
  by_cases a2 : E < -690
  · exact allB_at (f := fun E => certS (2 ^ 55) 11 E) s2 E (by omega) (by omega)
  by_cases a3 : E < -562
  · exact allB_at (f := fun E => certS (2 ^ 55) 11 E) s3 E (by omega) (by omega)
  by_cases a4 : E < -434
  · exact allB_at (f := fun E => certS (2 ^ 55) 11 E) s4 E (by omega) (by omega)
  by_cases a5 : E < -306
  · exact allB_at (f := fun E => certS (2 ^ 55) 11 E) s5 E (by omega) (by omega)
  by_cases a6 : E < -178
  · exact allB_at (f := fun E => certS (2 ^ 55) 11 E) s6 E (by omega) (by omega)
  by_cases a7 : E < -50
  · exact allB_at (f := fun E => certS (2 ^ 55) 11 E) s7 E (by omega) (by omega)
  by_cases a8 : E < 78
  · exact allB_at (f := fun E => certS (2 ^ 55) 11 E) s8 E (by omega) (by omega)
  by_cases a9 : E < 206
  · exact allB_at (f := fun E => certS (2 ^ 55) 11 E) s9 E (by omega) (by omega)
  by_cases a10 : E < 334
  · exact allB_at (f := fun E => certS (2 ^ 55) 11 E) s10 E (by omega) (by omega)
  by_cases a11 : E < 462
  · exact allB_at (f := fun E => certS (2 ^ 55) 11 E) s11 E (by omega) (by omega)
  by_cases a12 : E < 590
  · exact allB_at (f := fun E => certS (2 ^ 55) 11 E) s12 E (by omega) (by omega)
  by_cases a13 : E < 718
  · exact allB_at (f := fun E => certS (2 ^ 55) 11 E) s13 E (by omega) (by omega)
  by_cases a14 : E < 846
  · exact allB_at (f := fun E => certS (2 ^ 55) 11 E) s14 E (by omega) (by omega)
  exact allB_at (f := fun E => certS (2 ^ 55) 11 E) s15 E (by omega) (by omega)
end Go.Proofs.YtiopeaponffmdaaDoor.Fm
-- YtiopeaponffmdaaDoorPAllx26
namespace Go.Proofs.YtiopeaponffmdaaDoor.PAll
open Go.RowKit Go.Proofs.YtiopeaponffmdaaDoorW.PrintWords Go.Proofs.YtiopeaponffmdaaDoorW.PrintLast Go.Proofs.YtiopeaponffmdaaDoorW.PrintMore
attribute [local go_sem] max2_int min2_int max_two min_two max_three min_three max_four min_four   -- for this text's walks alone
set_option linter.unusedVariables false
set_option linter.unusedSimpArgs false

def spec_zeros.l0 : Nat → ByteArray → Int → Int → Option (ByteArray)
  | 0, _, _, _ => none
  | k + 1, x3, x4, x5 => if x5 < x4 then (if x3.size + 1 ≤ 9223372036854775807 then (spec_zeros.l0 k (x3 ++ (⟨#[48]⟩ : ByteArray)) x4 (wrap64 (x5 + 1))) else (none)) else (some x3)
def spec_zeros.f (k : Nat) (a0 : Int) : Option (ByteArray) := spec_zeros.l0 k (⟨#[]⟩ : ByteArray) a0 0
theorem spec_zeros.mono_l : ∀ k, (∀ y0 y1 y2, LeO (spec_zeros.l0 k y0 y1 y2) (spec_zeros.l0 (k + 1) y0 y1 y2))
  | 0 => fun _ _ _ r h => by simp [spec_zeros.l0] at h
  | k + 1 => by
    have ih0 := spec_zeros.mono_l k
    · intro y0 y1 y2
      unfold spec_zeros.l0
      repeat' first
      | (with_reducible exact ih0 _ _ _)
      | (with_reducible exact LeO.refl _)
      | (with_reducible exact LeO.none _)
      | (with_reducible refine LeO.ite ?_ ?_)
      | (with_reducible refine LeO.bind ?_ (fun _ => ?_))
      | exact ih0 _ _ _
      | exact LeO.none _
      | refine LeO.ite ?_ ?_
      | refine LeO.bind ?_ (fun _ => ?_)
theorem spec_zeros.mono : ∀ a0 k, LeO (spec_zeros.f k a0) (spec_zeros.f (k + 1) a0) := by
  intro a0 k
  have ih0 := spec_zeros.mono_l k
  unfold spec_zeros.f
  repeat' first
      | (with_reducible exact ih0 _ _ _)
      | (with_reducible exact LeO.refl _)
      | (with_reducible exact LeO.none _)
      | (with_reducible refine LeO.ite ?_ ?_)
      | (with_reducible refine LeO.bind ?_ (fun _ => ?_))
      | exact ih0 _ _ _
      | exact LeO.none _
      | refine LeO.ite ?_ ?_
      | refine LeO.bind ?_ (fun _ => ?_)
set_option maxHeartbeats 8000000 in
set_option maxRecDepth 100000 in
theorem spec_zeros.calls (k : Nat) (a0 : Int) (r : ByteArray) (w : World) (h : spec_zeros.f k a0 = some r) :
    Calls Tryd.prog 48 #[.int .i64 a0] w fun e w' => e = .returned (.string r) ∧ Drawn0 w w' := by
  have H : (spec_zeros.l0 k (⟨#[]⟩ : ByteArray) a0 0) = some r := h
  clear h
  have H' := Aside0.mk H
  clear H
  go_enter Tryd.func48, Tryd.ntmps48
  go_wp2
  go_loopg [3, 5] k (fun kq v3 v5 w' => ∃ (x3_1 : ByteArray) (x5_1 : Int), v3 = .string x3_1 ∧ v5 = .int .i64 x5_1 ∧ Aside0 (spec_zeros.l0 kq x3_1 a0 x5_1 = some r) ∧ Aside0 (kq ≤ k) ∧ Drawn0 w w')
  case atStart => exact ⟨((⟨#[]⟩ : ByteArray)), (0), (by first | rfl | (simp; done) | (simp [*]; done)), (by first | rfl | (simp; done) | (simp [*]; done)), H', ⟨Nat.le_refl _⟩, by repeat (first | exact Drawn0.refl _ | apply Drawn0.step)⟩
  case round =>
    clear H'
    obtain ⟨x3_1, x5_1, rfl, rfl, HA, HK1, ⟨m1, rfl⟩⟩ := hrel
    cases gk with
    | zero => exact absurd HA.out (by simp [spec_zeros.l0])
    | succ k1 =>
      have H := HA.out
      clear HA
      simp only [spec_zeros.l0] at H
      by_cases c2 : x5_1 < a0
      · rw [if_pos c2] at H
        have c2b0 : decide (x5_1 < a0) = true := decide_eq_true c2
        clear c2
        by_cases c3 : x3_1.size + 1 ≤ 9223372036854775807
        · rw [if_pos c3] at H
          have c3b0 := eq_true c3
          have c3b1 : decide (x3_1.size + 1 ≤ 9223372036854775807) = true := decide_eq_true c3
          try have c3b2 : (9223372036854775807 < x3_1.size + 1) = False := eq_false (Nat.not_lt.2 c3)
          have H' := Aside0.mk H
          clear H
          go_wp2
          go_roundg k1
          case measure => have := HK1.out; omega
          case rel => exact ⟨(x3_1 ++ (⟨#[48]⟩ : ByteArray)), (wrap64 (x5_1 + 1)), (by first | rfl | (simp; done) | (simp [*]; done)), (by first | rfl | (simp; done) | (simp [*]; done)), H', ⟨by have := HK1.out; omega⟩, by repeat (first | exact Drawn0.refl _ | apply Drawn0.step)⟩
        · rw [if_neg c3] at H
          exact absurd H (by simp)
      · rw [if_neg c2] at H
        have c2b0 : decide (x5_1 < a0) = false := decide_eq_false c2
        clear c2
        obtain rfl := Option.some.inj H
        go_wp2
        go_ret
        exact ⟨by first | rfl | (simp; done) | (simp [*]; done), by repeat (first | exact Drawn0.refl _ | apply Drawn0.step)⟩

end Go.Proofs.YtiopeaponffmdaaDoor.PAll
-- YtiopeaponffmdaaDoorPAllx27
namespace Go.Proofs.YtiopeaponffmdaaDoor.PAll
open Go.RowKit Go.Proofs.YtiopeaponffmdaaDoorW.PrintWords Go.Proofs.YtiopeaponffmdaaDoorW.PrintLast Go.Proofs.YtiopeaponffmdaaDoorW.PrintMore
attribute [local go_sem] max2_int min2_int max_two min_two max_three min_three max_four min_four   -- for this text's walks alone
set_option linter.unusedVariables false
set_option linter.unusedSimpArgs false

mutual
def spec_Laid.j2 : Nat → ByteArray → Int → Int → Option (ByteArray)
  | 0, _, _, _ => none
  | k + 1, x0, x1, x5 => (spec_decimals.f k (IntKind.u64.wrap (mx (wrap64 (x1 - 1)) 0))).bind fun t451 => (if 2 + t451.size ≤ 9223372036854775807 then (if (wrap64 (x1 - 1)) < 0 then ((spec_decimals.f k (IntKind.u64.wrap (wrap64 (1 - x1)))).bind fun t452 => (if 2 + t452.size ≤ 9223372036854775807 then (if x5 = 1 then (if x0.size + ((⟨#[101, 45]⟩ : ByteArray) ++ t452).size ≤ 9223372036854775807 then (some (x0 ++ ((⟨#[101, 45]⟩ : ByteArray) ++ t452))) else (none)) else (if 0 ≤ 1 then (if 1 ≤ (x0.size : Int) then (if (x0.extract 0 1).size + 1 ≤ 9223372036854775807 then (if ((x0.extract 0 1) ++ (⟨#[46]⟩ : ByteArray)).size + (x0.extract 1 x0.size).size ≤ 9223372036854775807 then (if (((x0.extract 0 1) ++ (⟨#[46]⟩ : ByteArray)) ++ (x0.extract 1 x0.size)).size + ((⟨#[101, 45]⟩ : ByteArray) ++ t452).size ≤ 9223372036854775807 then (some ((((x0.extract 0 1) ++ (⟨#[46]⟩ : ByteArray)) ++ (x0.extract 1 x0.size)) ++ ((⟨#[101, 45]⟩ : ByteArray) ++ t452))) else (none)) else (none)) else (none)) else (none)) else (none))) else (none))) else (if x5 = 1 then (if x0.size + ((⟨#[101, 43]⟩ : ByteArray) ++ t451).size ≤ 9223372036854775807 then (some (x0 ++ ((⟨#[101, 43]⟩ : ByteArray) ++ t451))) else (none)) else (if 0 ≤ 1 then (if 1 ≤ (x0.size : Int) then (if (x0.extract 0 1).size + 1 ≤ 9223372036854775807 then (if ((x0.extract 0 1) ++ (⟨#[46]⟩ : ByteArray)).size + (x0.extract 1 x0.size).size ≤ 9223372036854775807 then (if (((x0.extract 0 1) ++ (⟨#[46]⟩ : ByteArray)) ++ (x0.extract 1 x0.size)).size + ((⟨#[101, 43]⟩ : ByteArray) ++ t451).size ≤ 9223372036854775807 then (some ((((x0.extract 0 1) ++ (⟨#[46]⟩ : ByteArray)) ++ (x0.extract 1 x0.size)) ++ ((⟨#[101, 43]⟩ : ByteArray) ++ t451))) else (none)) else (none)) else (none)) else (none)) else (none)))) else (none))
def spec_Laid.j0 : Nat → ByteArray → Int → Int → Bool → Option (ByteArray)
  | 0, _, _, _, _ => none
  | k + 1, x0, x1, x5, x9 => if x9 = true then ((spec_zeros.f k (wrap64 (x1 - x5))).bind fun t449 => (if x0.size + t449.size ≤ 9223372036854775807 then (some (x0 ++ t449)) else (none))) else (if x1 > 0 then (spec_Laid.j1 k x0 x1 x5 (decide (x1 ≤ 21))) else (spec_Laid.j1 k x0 x1 x5 false))
def spec_Laid.j1 : Nat → ByteArray → Int → Int → Bool → Option (ByteArray)
  | 0, _, _, _, _ => none
  | k + 1, x0, x1, x5, x23 => if x23 = true then (if 0 ≤ x1 then (if x1 ≤ (x0.size : Int) then (if (x0.extract 0 (x1 : Int).toNat).size + 1 ≤ 9223372036854775807 then (if ((x0.extract 0 (x1 : Int).toNat) ++ (⟨#[46]⟩ : ByteArray)).size + (x0.extract (x1 : Int).toNat x0.size).size ≤ 9223372036854775807 then (some (((x0.extract 0 (x1 : Int).toNat) ++ (⟨#[46]⟩ : ByteArray)) ++ (x0.extract (x1 : Int).toNat x0.size))) else (none)) else (none)) else (none)) else (none)) else (if x1 > (-6) then (if x1 ≤ 0 then ((spec_zeros.f k (wrap64 (-x1))).bind fun t450 => (if 2 + t450.size ≤ 9223372036854775807 then (if ((⟨#[48, 46]⟩ : ByteArray) ++ t450).size + x0.size ≤ 9223372036854775807 then (some (((⟨#[48, 46]⟩ : ByteArray) ++ t450) ++ x0)) else (none)) else (none))) else (spec_Laid.j2 k x0 x1 x5)) else (spec_Laid.j2 k x0 x1 x5))
end
def spec_Laid.f (k : Nat) (a0 : ByteArray) (a1 : Int) : Option (ByteArray) := if (a0.size : Int) ≤ a1 then (spec_Laid.j0 k a0 a1 (a0.size : Int) (decide (a1 ≤ 21))) else (spec_Laid.j0 k a0 a1 (a0.size : Int) false)
theorem spec_Laid.mono_l : ∀ k, (∀ y0 y1 y2, LeO (spec_Laid.j2 k y0 y1 y2) (spec_Laid.j2 (k + 1) y0 y1 y2)) ∧ (∀ y0 y1 y2 y3, LeO (spec_Laid.j0 k y0 y1 y2 y3) (spec_Laid.j0 (k + 1) y0 y1 y2 y3)) ∧ (∀ y0 y1 y2 y3, LeO (spec_Laid.j1 k y0 y1 y2 y3) (spec_Laid.j1 (k + 1) y0 y1 y2 y3))
  | 0 => ⟨fun _ _ _ r h => by simp [spec_Laid.j2] at h, fun _ _ _ _ r h => by simp [spec_Laid.j0] at h, fun _ _ _ _ r h => by simp [spec_Laid.j1] at h⟩
  | k + 1 => by
    obtain ⟨ih0, ih1, ih2⟩ := spec_Laid.mono_l k
    refine ⟨?_, ?_, ?_⟩
    · intro y0 y1 y2
      unfold spec_Laid.j2
      repeat' first
      | (with_reducible exact ih0 _ _ _)
      | (with_reducible exact ih1 _ _ _ _)
      | (with_reducible exact ih2 _ _ _ _)
      | (with_reducible exact spec_decimals.mono _ _)
      | (with_reducible exact spec_zeros.mono _ _)
      | (with_reducible exact LeO.refl _)
      | (with_reducible exact LeO.none _)
      | (with_reducible refine LeO.ite ?_ ?_)
      | (with_reducible refine LeO.bind ?_ (fun _ => ?_))
      | exact ih0 _ _ _
      | exact ih1 _ _ _ _
      | exact ih2 _ _ _ _
      | exact spec_decimals.mono _ _
      | exact spec_zeros.mono _ _
      | exact LeO.none _
      | refine LeO.ite ?_ ?_
      | refine LeO.bind ?_ (fun _ => ?_)
    · intro y0 y1 y2 y3
      unfold spec_Laid.j0
      repeat' first
      | (with_reducible exact ih0 _ _ _)
      | (with_reducible exact ih1 _ _ _ _)
      | (with_reducible exact ih2 _ _ _ _)
      | (with_reducible exact spec_decimals.mono _ _)
      | (with_reducible exact spec_zeros.mono _ _)
      | (with_reducible exact LeO.refl _)
      | (with_reducible exact LeO.none _)
      | (with_reducible refine LeO.ite ?_ ?_)
      | (with_reducible refine LeO.bind ?_ (fun _ => ?_))
      | exact ih0 _ _ _
      | exact ih1 _ _ _ _
      | exact ih2 _ _ _ _
      | exact spec_decimals.mono _ _
      | exact spec_zeros.mono _ _
      | exact LeO.none _
      | refine LeO.ite ?_ ?_
      | refine LeO.bind ?_ (fun _ => ?_)
    · intro y0 y1 y2 y3
      unfold spec_Laid.j1
      repeat' first
      | (with_reducible exact ih0 _ _ _)
      | (with_reducible exact ih1 _ _ _ _)
      | (with_reducible exact ih2 _ _ _ _)
      | (with_reducible exact spec_decimals.mono _ _)
      | (with_reducible exact spec_zeros.mono _ _)
      | (with_reducible exact LeO.refl _)
      | (with_reducible exact LeO.none _)
      | (with_reducible refine LeO.ite ?_ ?_)
      | (with_reducible refine LeO.bind ?_ (fun _ => ?_))
      | exact ih0 _ _ _
      | exact ih1 _ _ _ _
      | exact ih2 _ _ _ _
      | exact spec_decimals.mono _ _
      | exact spec_zeros.mono _ _
      | exact LeO.none _
      | refine LeO.ite ?_ ?_
      | refine LeO.bind ?_ (fun _ => ?_)
theorem spec_Laid.mono : ∀ a0 a1 k, LeO (spec_Laid.f k a0 a1) (spec_Laid.f (k + 1) a0 a1) := by
  intro a0 a1 k
  obtain ⟨ih0, ih1, ih2⟩ := spec_Laid.mono_l k
  unfold spec_Laid.f
  repeat' first
      | (with_reducible exact ih0 _ _ _)
      | (with_reducible exact ih1 _ _ _ _)
      | (with_reducible exact ih2 _ _ _ _)
      | (with_reducible exact spec_decimals.mono _ _)
      | (with_reducible exact spec_zeros.mono _ _)
      | (with_reducible exact LeO.refl _)
      | (with_reducible exact LeO.none _)
      | (with_reducible refine LeO.ite ?_ ?_)
      | (with_reducible refine LeO.bind ?_ (fun _ => ?_))
      | exact ih0 _ _ _
      | exact ih1 _ _ _ _
      | exact ih2 _ _ _ _
      | exact spec_decimals.mono _ _
      | exact spec_zeros.mono _ _
      | exact LeO.none _
      | refine LeO.ite ?_ ?_
      | refine LeO.bind ?_ (fun _ => ?_)
set_option maxHeartbeats 8000000 in
set_option maxRecDepth 100000 in
theorem spec_Laid.calls (k : Nat) (a0 : ByteArray) (a1 : Int) (r : ByteArray) (w : World) (h : spec_Laid.f k a0 a1 = some r) :
    Calls Tryd.prog 35 #[.string a0, .int .i64 a1] w fun e w' => e = .returned (.string r) ∧ Below w.heap.size w w' := by
  have HB := Aside0.mk (Below.refl w.heap.size w)
  have H : (if (a0.size : Int) ≤ a1 then (spec_Laid.j0 k a0 a1 (a0.size : Int) (decide (a1 ≤ 21))) else (spec_Laid.j0 k a0 a1 (a0.size : Int) false)) = some r := h
  clear h
  have HC3 := Aside0.mk H
  clear H
  go_enter Tryd.func35, Tryd.ntmps35
  go_upto_block 0 with (fail)
  repeat (go_quiet (fail); go_upto_block 0 with (fail))
  go_cut [] (fun wc => ∃ (kq : Nat), Aside0 (spec_Laid.j2 kq a0 a1 (a0.size : Int) = some r) ∧ Aside0 (kq ≤ k) ∧ Aside0 (Below w.heap.size w wc))
  case first =>
    have H := HC3.out
    clear HC3
    have HC4 := Aside0.mk H
    clear H
    go_upto_region 2 with (fail)
    repeat (go_quiet (fail); go_upto_region 2 with (fail))
    go_cut [9] (fun v9 wc => ∃ (kq : Nat) (x9_3 : Bool), v9 = .bool x9_3 ∧ Aside0 (spec_Laid.j0 kq a0 a1 (a0.size : Int) x9_3 = some r) ∧ Aside0 (kq ≤ k) ∧ Aside0 (Below w.heap.size w wc))
    case first =>
      have H := HC4.out
      clear HC4
      by_cases c5 : (a0.size : Int) ≤ a1
      · rw [if_pos c5] at H
        have c5b0 : decide ((a0.size : Int) ≤ a1) = true := decide_eq_true c5
        clear c5
        (first | rw [c5b0] | (simp only [i64_w, i32_w]; rw [c5b0]) | skip)
        have H' := Aside0.mk H
        clear H
        go_wp2
        repeat (go_quiet (fail); try go_wp2)
        go_meet
        case rel => exact ⟨_, (decide (a1 ≤ 21)), (by first | rfl | (simp; done) | (simp [*]; done)), H', ⟨by first | omega | exact Nat.le_refl _⟩, ⟨by repeat (first | (with_reducible first | exact HB.out | apply below_alloc | apply pw_below_drewN | apply below_drew1) | exact HB.out)⟩⟩
      · rw [if_neg c5] at H
        have c5b0 : decide ((a0.size : Int) ≤ a1) = false := decide_eq_false c5
        clear c5
        (first | rw [c5b0] | (simp only [i64_w, i32_w]; rw [c5b0]) | skip)
        have H' := Aside0.mk H
        clear H
        go_wp2
        repeat (go_quiet (fail); try go_wp2)
        go_meet
        case rel => exact ⟨_, (false), (by first | rfl | (simp; done) | (simp [*]; done)), H', ⟨by first | omega | exact Nat.le_refl _⟩, ⟨by repeat (first | (with_reducible first | exact HB.out | apply below_alloc | apply pw_below_drewN | apply below_drew1) | exact HB.out)⟩⟩
    case rest =>
      clear HC4
      try clear p2
      try clear c3
      try clear c5
      try clear c5b0
      obtain ⟨kq, x9_3, rfl, HA, HJ3, HB⟩ := hcut
      cases kq with
      | zero => exact absurd HA.out (by simp [spec_Laid.j0])
      | succ kj3 =>
        have H := HA.out
        clear HA
        simp only [spec_Laid.j0] at H
        by_cases c6 : x9_3 = true
        · subst c6
          have H1 : ((spec_zeros.f kj3 (wrap64 (a1 - (a0.size : Int)))).bind fun t449 => (if a0.size + t449.size ≤ 9223372036854775807 then (some (a0 ++ t449)) else (none))) = some r := by rw [if_pos rfl] at H; exact H
          clear H
          have H := H1
          clear H1
          replace H := Option.bind_eq_some_iff.mp H
          obtain ⟨t449, A70, H⟩ := H
          replace H : (if a0.size + t449.size ≤ 9223372036854775807 then (some (a0 ++ t449)) else (none)) = some r := H
          have A7 := Aside0.mk A70
          clear A70
          by_cases c8 : a0.size + t449.size ≤ 9223372036854775807
          · rw [if_pos c8] at H
            have c8b0 := eq_true c8
            have c8b1 : decide (a0.size + t449.size ≤ 9223372036854775807) = true := decide_eq_true c8
            try have c8b2 : (9223372036854775807 < a0.size + t449.size) = False := eq_false (Nat.not_lt.2 c8)
            obtain rfl := Option.some.inj H
            go_wp2_with (first | (go_at_call 48; (with_reducible refine (spec_zeros.calls kj3 (wrap64 (a1 - (a0.size : Int))) t449 _ A7.out).mono ?_); rintro e w' ⟨rfl, ⟨nd, rfl⟩⟩; (try first | exact ⟨rfl, _, World.drewN_drewN _ _ _⟩ | exact ⟨rfl, _, Eq.trans (World.drewN_drewN _ _ _) (congrArg (World.drewN _) (Nat.add_assoc _ _ _))⟩)))
            repeat (go_quiet (first | (go_at_call 48; (with_reducible refine (spec_zeros.calls kj3 (wrap64 (a1 - (a0.size : Int))) t449 _ A7.out).mono ?_); rintro e w' ⟨rfl, ⟨nd, rfl⟩⟩; (try first | exact ⟨rfl, _, World.drewN_drewN _ _ _⟩ | exact ⟨rfl, _, Eq.trans (World.drewN_drewN _ _ _) (congrArg (World.drewN _) (Nat.add_assoc _ _ _))⟩))); try go_wp2_with (first | (go_at_call 48; (with_reducible refine (spec_zeros.calls kj3 (wrap64 (a1 - (a0.size : Int))) t449 _ A7.out).mono ?_); rintro e w' ⟨rfl, ⟨nd, rfl⟩⟩; (try first | exact ⟨rfl, _, World.drewN_drewN _ _ _⟩ | exact ⟨rfl, _, Eq.trans (World.drewN_drewN _ _ _) (congrArg (World.drewN _) (Nat.add_assoc _ _ _))⟩))))
            go_ret
            exact ⟨by first | rfl | (simp [errW_none, errW_some] <;> rfl) | (simp [*, errW_none, errW_some] <;> rfl), by repeat (first | (with_reducible first | exact HB.out | apply below_alloc | apply pw_below_drewN | apply below_drew1) | exact HB.out)⟩
          · rw [if_neg c8] at H
            exact absurd H (by simp)
        · replace c6 := Bool.eq_false_iff.mpr c6
          subst c6
          have H1 : (if a1 > 0 then (spec_Laid.j1 kj3 a0 a1 (a0.size : Int) (decide (a1 ≤ 21))) else (spec_Laid.j1 kj3 a0 a1 (a0.size : Int) false)) = some r := by rw [if_neg (show ¬ (false = true) by decide)] at H; exact H
          clear H
          have H := H1
          clear H1
          have HC9 := Aside0.mk H
          clear H
          go_upto_region 4 with (fail)
          repeat (go_quiet (fail); go_upto_region 4 with (fail))
          go_cut [23] (fun v23 wc => ∃ (kq : Nat) (x23_8 : Bool), v23 = .bool x23_8 ∧ Aside0 (spec_Laid.j1 kq a0 a1 (a0.size : Int) x23_8 = some r) ∧ Aside0 (kq ≤ kj3) ∧ Aside0 (Below w.heap.size w wc))
          case first =>
            have H := HC9.out
            clear HC9
            by_cases c10 : a1 > 0
            · rw [if_pos c10] at H
              have c10b0 : decide (0 < a1) = true := decide_eq_true c10
              clear c10
              (first | rw [c10b0] | (simp only [i64_w, i32_w]; rw [c10b0]) | skip)
              have H' := Aside0.mk H
              clear H
              go_wp2
              repeat (go_quiet (fail); try go_wp2)
              go_meet
              case rel => exact ⟨_, (decide (a1 ≤ 21)), (by first | rfl | (simp; done) | (simp [*]; done)), H', ⟨by have := HJ3.out; first | omega | exact Nat.le_refl _⟩, ⟨by repeat (first | (with_reducible first | exact HB.out | apply below_alloc | apply pw_below_drewN | apply below_drew1) | exact HB.out)⟩⟩
            · rw [if_neg c10] at H
              have c10b0 : decide (0 < a1) = false := decide_eq_false c10
              clear c10
              (first | rw [c10b0] | (simp only [i64_w, i32_w]; rw [c10b0]) | skip)
              have H' := Aside0.mk H
              clear H
              go_wp2
              repeat (go_quiet (fail); try go_wp2)
              go_meet
              case rel => exact ⟨_, (false), (by first | rfl | (simp; done) | (simp [*]; done)), H', ⟨by have := HJ3.out; first | omega | exact Nat.le_refl _⟩, ⟨by repeat (first | (with_reducible first | exact HB.out | apply below_alloc | apply pw_below_drewN | apply below_drew1) | exact HB.out)⟩⟩
          case rest =>
            clear HC9
            try clear c1
            try clear p2
            try clear c3
            try clear c5
            try clear c5b0
            try clear c6
            try clear p6
            try clear c8
            try clear c8b0
            try clear c8b1
            try clear c8b2
            try clear c10
            try clear c10b0
            try clear p2
            obtain ⟨kq, x23_8, rfl, HA, HJ8, HB⟩ := hcut
            cases kq with
            | zero => exact absurd HA.out (by simp [spec_Laid.j1])
            | succ kj8 =>
              have H := HA.out
              clear HA
              simp only [spec_Laid.j1] at H
              by_cases c11 : x23_8 = true
              · subst c11
                have H1 : (if 0 ≤ a1 then (if a1 ≤ (a0.size : Int) then (if (a0.extract 0 (a1 : Int).toNat).size + 1 ≤ 9223372036854775807 then (if ((a0.extract 0 (a1 : Int).toNat) ++ (⟨#[46]⟩ : ByteArray)).size + (a0.extract (a1 : Int).toNat a0.size).size ≤ 9223372036854775807 then (some (((a0.extract 0 (a1 : Int).toNat) ++ (⟨#[46]⟩ : ByteArray)) ++ (a0.extract (a1 : Int).toNat a0.size))) else (none)) else (none)) else (none)) else (none)) = some r := by rw [if_pos rfl] at H; exact H
                clear H
                have H := H1
                clear H1
                by_cases c12 : 0 ≤ a1
                · rw [if_pos c12] at H
                  have c12b0 := eq_true c12
                  have c12b1 : decide (0 ≤ a1) = true := decide_eq_true c12
                  clear c12
                  by_cases c13 : a1 ≤ (a0.size : Int)
                  · rw [if_pos c13] at H
                    have c13b0 := eq_true c13
                    have c13b1 : decide (a1 ≤ (a0.size : Int)) = true := decide_eq_true c13
                    clear c13
                    by_cases c14 : (a0.extract 0 (a1 : Int).toNat).size + 1 ≤ 9223372036854775807
                    · rw [if_pos c14] at H
                      have c14b0 := eq_true c14
                      have c14b1 : decide ((a0.extract 0 (a1 : Int).toNat).size + 1 ≤ 9223372036854775807) = true := decide_eq_true c14
                      try have c14b2 : (9223372036854775807 < (a0.extract 0 (a1 : Int).toNat).size + 1) = False := eq_false (Nat.not_lt.2 c14)
                      have c15b0 := eq_true (of_decide_eq_true (by first | (with_reducible assumption) | assumption) : 0 ≤ a1)
                      have c16b0 := eq_true (of_decide_eq_true (by first | (with_reducible assumption) | assumption) : a1 ≤ (a0.size : Int))
                      by_cases c17 : ((a0.extract 0 (a1 : Int).toNat) ++ (⟨#[46]⟩ : ByteArray)).size + (a0.extract (a1 : Int).toNat a0.size).size ≤ 9223372036854775807
                      · rw [if_pos c17] at H
                        have c17b0 := eq_true c17
                        have c17b1 : decide (((a0.extract 0 (a1 : Int).toNat) ++ (⟨#[46]⟩ : ByteArray)).size + (a0.extract (a1 : Int).toNat a0.size).size ≤ 9223372036854775807) = true := decide_eq_true c17
                        try have c17b2 : (9223372036854775807 < ((a0.extract 0 (a1 : Int).toNat) ++ (⟨#[46]⟩ : ByteArray)).size + (a0.extract (a1 : Int).toNat a0.size).size) = False := eq_false (Nat.not_lt.2 c17)
                        have y1 : a1.toNat + 1 ≤ 9223372036854775807 := by have h0 := of_eq_true c13b0; have h1 := of_eq_true c14b0; simp at h1; omega
                        have y2 : a1.toNat + 1 + (a0.size - a1.toNat) ≤ 9223372036854775807 := by have h0 := of_eq_true c13b0; have e1 : (⟨#[46]⟩ : ByteArray).size = 1 := rfl; have h1 := of_eq_true c17b0; simp [ByteArray.size_append, e1] at h1; omega
                        have y3 := eq_false (Nat.not_lt.2 y1)
                        have y4 := eq_false (Nat.not_lt.2 y2)
                        obtain rfl := Option.some.inj H
                        go_wp2
                        repeat (go_quiet (fail); try go_wp2)
                        go_ret
                        exact ⟨by first | rfl | (simp [errW_none, errW_some] <;> rfl) | (simp [*, errW_none, errW_some] <;> rfl), by repeat (first | (with_reducible first | exact HB.out | apply below_alloc | apply pw_below_drewN | apply below_drew1) | exact HB.out)⟩
                      · rw [if_neg c17] at H
                        exact absurd H (by simp)
                    · rw [if_neg c14] at H
                      exact absurd H (by simp)
                  · rw [if_neg c13] at H
                    exact absurd H (by simp)
                · rw [if_neg c12] at H
                  exact absurd H (by simp)
              · replace c11 := Bool.eq_false_iff.mpr c11
                subst c11
                have H1 : (if a1 > (-6) then (if a1 ≤ 0 then ((spec_zeros.f kj8 (wrap64 (-a1))).bind fun t450 => (if 2 + t450.size ≤ 9223372036854775807 then (if ((⟨#[48, 46]⟩ : ByteArray) ++ t450).size + a0.size ≤ 9223372036854775807 then (some (((⟨#[48, 46]⟩ : ByteArray) ++ t450) ++ a0)) else (none)) else (none))) else (spec_Laid.j2 kj8 a0 a1 (a0.size : Int))) else (spec_Laid.j2 kj8 a0 a1 (a0.size : Int))) = some r := by rw [if_neg (show ¬ (false = true) by decide)] at H; exact H
                clear H
                have H := H1
                clear H1
                by_cases c18 : a1 > (-6)
                · rw [if_pos c18] at H
                  have c18b0 : decide ((-6) < a1) = true := decide_eq_true c18
                  clear c18
                  by_cases c19 : a1 ≤ 0
                  · rw [if_pos c19] at H
                    have c19b0 : decide (a1 ≤ 0) = true := decide_eq_true c19
                    clear c19
                    replace H := Option.bind_eq_some_iff.mp H
                    obtain ⟨t450, A200, H⟩ := H
                    replace H : (if 2 + t450.size ≤ 9223372036854775807 then (if ((⟨#[48, 46]⟩ : ByteArray) ++ t450).size + a0.size ≤ 9223372036854775807 then (some (((⟨#[48, 46]⟩ : ByteArray) ++ t450) ++ a0)) else (none)) else (none)) = some r := H
                    have A20 := Aside0.mk A200
                    clear A200
                    by_cases c21 : 2 + t450.size ≤ 9223372036854775807
                    · rw [if_pos c21] at H
                      have c21b0 := eq_true c21
                      have c21b1 : decide (2 + t450.size ≤ 9223372036854775807) = true := decide_eq_true c21
                      try have c21b2 : (9223372036854775807 < 2 + t450.size) = False := eq_false (Nat.not_lt.2 c21)
                      by_cases c22 : ((⟨#[48, 46]⟩ : ByteArray) ++ t450).size + a0.size ≤ 9223372036854775807
                      · rw [if_pos c22] at H
                        have c22b0 := eq_true c22
                        have c22b1 : decide (((⟨#[48, 46]⟩ : ByteArray) ++ t450).size + a0.size ≤ 9223372036854775807) = true := decide_eq_true c22
                        try have c22b2 : (9223372036854775807 < ((⟨#[48, 46]⟩ : ByteArray) ++ t450).size + a0.size) = False := eq_false (Nat.not_lt.2 c22)
                        obtain rfl := Option.some.inj H
                        go_wp2_with (first | (go_at_call 48; (with_reducible refine (spec_zeros.calls kj8 (wrap64 (-a1)) t450 _ A20.out).mono ?_); rintro e w' ⟨rfl, ⟨nd, rfl⟩⟩; (try first | exact ⟨rfl, _, World.drewN_drewN _ _ _⟩ | exact ⟨rfl, _, Eq.trans (World.drewN_drewN _ _ _) (congrArg (World.drewN _) (Nat.add_assoc _ _ _))⟩)))
                        repeat (go_quiet (first | (go_at_call 48; (with_reducible refine (spec_zeros.calls kj8 (wrap64 (-a1)) t450 _ A20.out).mono ?_); rintro e w' ⟨rfl, ⟨nd, rfl⟩⟩; (try first | exact ⟨rfl, _, World.drewN_drewN _ _ _⟩ | exact ⟨rfl, _, Eq.trans (World.drewN_drewN _ _ _) (congrArg (World.drewN _) (Nat.add_assoc _ _ _))⟩))); try go_wp2_with (first | (go_at_call 48; (with_reducible refine (spec_zeros.calls kj8 (wrap64 (-a1)) t450 _ A20.out).mono ?_); rintro e w' ⟨rfl, ⟨nd, rfl⟩⟩; (try first | exact ⟨rfl, _, World.drewN_drewN _ _ _⟩ | exact ⟨rfl, _, Eq.trans (World.drewN_drewN _ _ _) (congrArg (World.drewN _) (Nat.add_assoc _ _ _))⟩))))
                        go_ret
                        exact ⟨by first | rfl | (simp [errW_none, errW_some] <;> rfl) | (simp [*, errW_none, errW_some] <;> rfl), by repeat (first | (with_reducible first | exact HB.out | apply below_alloc | apply pw_below_drewN | apply below_drew1) | exact HB.out)⟩
                      · rw [if_neg c22] at H
                        exact absurd H (by simp)
                    · rw [if_neg c21] at H
                      exact absurd H (by simp)
                  · rw [if_neg c19] at H
                    have c19b0 : decide (a1 ≤ 0) = false := decide_eq_false c19
                    clear c19
                    have H' := Aside0.mk H
                    clear H
                    go_wp2
                    repeat (go_quiet (fail); try go_wp2)
                    go_meet
                    case rel => exact ⟨_, H', ⟨by have := HJ3.out; have := HJ8.out; first | omega | exact Nat.le_refl _⟩, ⟨by repeat (first | (with_reducible first | exact HB.out | apply below_alloc | apply pw_below_drewN | apply below_drew1) | exact HB.out)⟩⟩
                · rw [if_neg c18] at H
                  have c18b0 : decide ((-6) < a1) = false := decide_eq_false c18
                  clear c18
                  have H' := Aside0.mk H
                  clear H
                  go_wp2
                  repeat (go_quiet (fail); try go_wp2)
                  go_meet
                  case rel => exact ⟨_, H', ⟨by have := HJ3.out; have := HJ8.out; first | omega | exact Nat.le_refl _⟩, ⟨by repeat (first | (with_reducible first | exact HB.out | apply below_alloc | apply pw_below_drewN | apply below_drew1) | exact HB.out)⟩⟩
  case rest =>
    clear HC3
    try clear c1
    try clear c2
    try clear p2
    try clear c3
    try clear c5
    try clear c5b0
    try clear c6
    try clear p6
    try clear c8
    try clear c8b0
    try clear c8b1
    try clear c8b2
    try clear c10
    try clear c10b0
    try clear c11
    try clear c12
    try clear c12b0
    try clear c12b1
    try clear c13
    try clear c13b0
    try clear c13b1
    try clear c14
    try clear c14b0
    try clear c14b1
    try clear c14b2
    try clear c15
    try clear c15b0
    try clear c16
    try clear c16b0
    try clear c17
    try clear c17b0
    try clear c17b1
    try clear c17b2
    try clear c18
    try clear c18b0
    try clear c19
    try clear c19b0
    try clear c21
    try clear c21b0
    try clear c21b1
    try clear c21b2
    try clear c22
    try clear c22b0
    try clear c22b1
    try clear c22b2
    try clear p2
    try clear p6
    obtain ⟨kq, HA, HJ2, HB⟩ := hcut
    cases kq with
    | zero => exact absurd HA.out (by simp [spec_Laid.j2])
    | succ kj2 =>
      have H := HA.out
      clear HA
      simp only [spec_Laid.j2] at H
      obtain ⟨ji23, hji23⟩ : ∃ j_ : Int, (mx (wrap64 (a1 - 1)) 0) = j_ := ⟨_, rfl⟩
      replace H : ((spec_decimals.f kj2 (IntKind.u64.wrap (ji23))).bind fun t451 => (if 2 + t451.size ≤ 9223372036854775807 then (if (wrap64 (a1 - 1)) < 0 then ((spec_decimals.f kj2 (IntKind.u64.wrap (wrap64 (1 - a1)))).bind fun t452 => (if 2 + t452.size ≤ 9223372036854775807 then (if (a0.size : Int) = 1 then (if a0.size + ((⟨#[101, 45]⟩ : ByteArray) ++ t452).size ≤ 9223372036854775807 then (some (a0 ++ ((⟨#[101, 45]⟩ : ByteArray) ++ t452))) else (none)) else (if 0 ≤ 1 then (if 1 ≤ (a0.size : Int) then (if (a0.extract 0 1).size + 1 ≤ 9223372036854775807 then (if ((a0.extract 0 1) ++ (⟨#[46]⟩ : ByteArray)).size + (a0.extract 1 a0.size).size ≤ 9223372036854775807 then (if (((a0.extract 0 1) ++ (⟨#[46]⟩ : ByteArray)) ++ (a0.extract 1 a0.size)).size + ((⟨#[101, 45]⟩ : ByteArray) ++ t452).size ≤ 9223372036854775807 then (some ((((a0.extract 0 1) ++ (⟨#[46]⟩ : ByteArray)) ++ (a0.extract 1 a0.size)) ++ ((⟨#[101, 45]⟩ : ByteArray) ++ t452))) else (none)) else (none)) else (none)) else (none)) else (none))) else (none))) else (if (a0.size : Int) = 1 then (if a0.size + ((⟨#[101, 43]⟩ : ByteArray) ++ t451).size ≤ 9223372036854775807 then (some (a0 ++ ((⟨#[101, 43]⟩ : ByteArray) ++ t451))) else (none)) else (if 0 ≤ 1 then (if 1 ≤ (a0.size : Int) then (if (a0.extract 0 1).size + 1 ≤ 9223372036854775807 then (if ((a0.extract 0 1) ++ (⟨#[46]⟩ : ByteArray)).size + (a0.extract 1 a0.size).size ≤ 9223372036854775807 then (if (((a0.extract 0 1) ++ (⟨#[46]⟩ : ByteArray)) ++ (a0.extract 1 a0.size)).size + ((⟨#[101, 43]⟩ : ByteArray) ++ t451).size ≤ 9223372036854775807 then (some ((((a0.extract 0 1) ++ (⟨#[46]⟩ : ByteArray)) ++ (a0.extract 1 a0.size)) ++ ((⟨#[101, 43]⟩ : ByteArray) ++ t451))) else (none)) else (none)) else (none)) else (none)) else (none)))) else (none))) = some r := by first | (rw [hji23] at H; exact H) | (simp only [hji23] at H ⊢; exact H)
      have hji23_ : (if (wrap64 (a1 - 1)) < 0 then 0 else (wrap64 (a1 - 1))) = ji23 := hji23
      replace H := Option.bind_eq_some_iff.mp H
      obtain ⟨t451, A240, H⟩ := H
      replace H : (if 2 + t451.size ≤ 9223372036854775807 then (if (wrap64 (a1 - 1)) < 0 then ((spec_decimals.f kj2 (IntKind.u64.wrap (wrap64 (1 - a1)))).bind fun t452 => (if 2 + t452.size ≤ 9223372036854775807 then (if (a0.size : Int) = 1 then (if a0.size + ((⟨#[101, 45]⟩ : ByteArray) ++ t452).size ≤ 9223372036854775807 then (some (a0 ++ ((⟨#[101, 45]⟩ : ByteArray) ++ t452))) else (none)) else (if 0 ≤ 1 then (if 1 ≤ (a0.size : Int) then (if (a0.extract 0 1).size + 1 ≤ 9223372036854775807 then (if ((a0.extract 0 1) ++ (⟨#[46]⟩ : ByteArray)).size + (a0.extract 1 a0.size).size ≤ 9223372036854775807 then (if (((a0.extract 0 1) ++ (⟨#[46]⟩ : ByteArray)) ++ (a0.extract 1 a0.size)).size + ((⟨#[101, 45]⟩ : ByteArray) ++ t452).size ≤ 9223372036854775807 then (some ((((a0.extract 0 1) ++ (⟨#[46]⟩ : ByteArray)) ++ (a0.extract 1 a0.size)) ++ ((⟨#[101, 45]⟩ : ByteArray) ++ t452))) else (none)) else (none)) else (none)) else (none)) else (none))) else (none))) else (if (a0.size : Int) = 1 then (if a0.size + ((⟨#[101, 43]⟩ : ByteArray) ++ t451).size ≤ 9223372036854775807 then (some (a0 ++ ((⟨#[101, 43]⟩ : ByteArray) ++ t451))) else (none)) else (if 0 ≤ 1 then (if 1 ≤ (a0.size : Int) then (if (a0.extract 0 1).size + 1 ≤ 9223372036854775807 then (if ((a0.extract 0 1) ++ (⟨#[46]⟩ : ByteArray)).size + (a0.extract 1 a0.size).size ≤ 9223372036854775807 then (if (((a0.extract 0 1) ++ (⟨#[46]⟩ : ByteArray)) ++ (a0.extract 1 a0.size)).size + ((⟨#[101, 43]⟩ : ByteArray) ++ t451).size ≤ 9223372036854775807 then (some ((((a0.extract 0 1) ++ (⟨#[46]⟩ : ByteArray)) ++ (a0.extract 1 a0.size)) ++ ((⟨#[101, 43]⟩ : ByteArray) ++ t451))) else (none)) else (none)) else (none)) else (none)) else (none)))) else (none)) = some r := H
      have A24 := Aside0.mk A240
      clear A240
      by_cases c25 : 2 + t451.size ≤ 9223372036854775807
      · rw [if_pos c25] at H
        have c25b0 := eq_true c25
        have c25b1 : decide (2 + t451.size ≤ 9223372036854775807) = true := decide_eq_true c25
        try have c25b2 : (9223372036854775807 < 2 + t451.size) = False := eq_false (Nat.not_lt.2 c25)
        by_cases c26 : (wrap64 (a1 - 1)) < 0
        · rw [if_pos c26] at H
          have c26b0 : decide ((wrap64 (a1 - 1)) < 0) = true := decide_eq_true c26
          clear c26
          replace H := Option.bind_eq_some_iff.mp H
          obtain ⟨t452, A270, H⟩ := H
          replace H : (if 2 + t452.size ≤ 9223372036854775807 then (if (a0.size : Int) = 1 then (if a0.size + ((⟨#[101, 45]⟩ : ByteArray) ++ t452).size ≤ 9223372036854775807 then (some (a0 ++ ((⟨#[101, 45]⟩ : ByteArray) ++ t452))) else (none)) else (if 0 ≤ 1 then (if 1 ≤ (a0.size : Int) then (if (a0.extract 0 1).size + 1 ≤ 9223372036854775807 then (if ((a0.extract 0 1) ++ (⟨#[46]⟩ : ByteArray)).size + (a0.extract 1 a0.size).size ≤ 9223372036854775807 then (if (((a0.extract 0 1) ++ (⟨#[46]⟩ : ByteArray)) ++ (a0.extract 1 a0.size)).size + ((⟨#[101, 45]⟩ : ByteArray) ++ t452).size ≤ 9223372036854775807 then (some ((((a0.extract 0 1) ++ (⟨#[46]⟩ : ByteArray)) ++ (a0.extract 1 a0.size)) ++ ((⟨#[101, 45]⟩ : ByteArray) ++ t452))) else (none)) else (none)) else (none)) else (none)) else (none))) else (none)) = some r := H
          have A27 := Aside0.mk A270
          clear A270
          by_cases c28 : 2 + t452.size ≤ 9223372036854775807
          · rw [if_pos c28] at H
            have c28b0 := eq_true c28
            have c28b1 : decide (2 + t452.size ≤ 9223372036854775807) = true := decide_eq_true c28
            try have c28b2 : (9223372036854775807 < 2 + t452.size) = False := eq_false (Nat.not_lt.2 c28)
            by_cases c29 : (a0.size : Int) = 1
            · rw [if_pos c29] at H
              have c29b0 : ((a0.size : Int) == 1) = true := beq_iff_eq.mpr c29
              have c29b1 : ((a0.size : Int) != 1) = false := bne_eq_false_iff_eq.mpr c29
              clear c29
              by_cases c30 : a0.size + ((⟨#[101, 45]⟩ : ByteArray) ++ t452).size ≤ 9223372036854775807
              · rw [if_pos c30] at H
                have c30b0 := eq_true c30
                have c30b1 : decide (a0.size + ((⟨#[101, 45]⟩ : ByteArray) ++ t452).size ≤ 9223372036854775807) = true := decide_eq_true c30
                try have c30b2 : (9223372036854775807 < a0.size + ((⟨#[101, 45]⟩ : ByteArray) ++ t452).size) = False := eq_false (Nat.not_lt.2 c30)
                obtain rfl := Option.some.inj H
                go_wp2_with (first | (go_at_call 46; (with_reducible refine (spec_decimals.calls kj2 (IntKind.u64.wrap (ji23)) t451 _ A24.out).mono ?_); rintro e w31 ⟨rfl, hb⟩; have n0_ := Aside0.mk (below_step (by repeat (first | (with_reducible first | exact HB.out | apply below_alloc | apply pw_below_drewN | apply below_drew1) | exact HB.out)) hb); clear HB; have HB := n0_; clear n0_; (try clear hb); (try clear hb2); (try clear hk); (try clear hi)) | (go_at_call 46; (with_reducible refine (spec_decimals.calls kj2 (IntKind.u64.wrap (wrap64 (1 - a1))) t452 _ A27.out).mono ?_); rintro e w32 ⟨rfl, hb⟩; have n0_ := Aside0.mk (below_step (by repeat (first | (with_reducible first | exact HB.out | apply below_alloc | apply pw_below_drewN | apply below_drew1) | exact HB.out)) hb); clear HB; have HB := n0_; clear n0_; (try clear hb); (try clear hb2); (try clear hk); (try clear hi)))
                repeat (go_quiet (first | (go_at_call 46; (with_reducible refine (spec_decimals.calls kj2 (IntKind.u64.wrap (ji23)) t451 _ A24.out).mono ?_); rintro e w31 ⟨rfl, hb⟩; have n0_ := Aside0.mk (below_step (by repeat (first | (with_reducible first | exact HB.out | apply below_alloc | apply pw_below_drewN | apply below_drew1) | exact HB.out)) hb); clear HB; have HB := n0_; clear n0_; (try clear hb); (try clear hb2); (try clear hk); (try clear hi)) | (go_at_call 46; (with_reducible refine (spec_decimals.calls kj2 (IntKind.u64.wrap (wrap64 (1 - a1))) t452 _ A27.out).mono ?_); rintro e w32 ⟨rfl, hb⟩; have n0_ := Aside0.mk (below_step (by repeat (first | (with_reducible first | exact HB.out | apply below_alloc | apply pw_below_drewN | apply below_drew1) | exact HB.out)) hb); clear HB; have HB := n0_; clear n0_; (try clear hb); (try clear hb2); (try clear hk); (try clear hi))); try go_wp2_with (first | (go_at_call 46; (with_reducible refine (spec_decimals.calls kj2 (IntKind.u64.wrap (ji23)) t451 _ A24.out).mono ?_); rintro e w31 ⟨rfl, hb⟩; have n0_ := Aside0.mk (below_step (by repeat (first | (with_reducible first | exact HB.out | apply below_alloc | apply pw_below_drewN | apply below_drew1) | exact HB.out)) hb); clear HB; have HB := n0_; clear n0_; (try clear hb); (try clear hb2); (try clear hk); (try clear hi)) | (go_at_call 46; (with_reducible refine (spec_decimals.calls kj2 (IntKind.u64.wrap (wrap64 (1 - a1))) t452 _ A27.out).mono ?_); rintro e w32 ⟨rfl, hb⟩; have n0_ := Aside0.mk (below_step (by repeat (first | (with_reducible first | exact HB.out | apply below_alloc | apply pw_below_drewN | apply below_drew1) | exact HB.out)) hb); clear HB; have HB := n0_; clear n0_; (try clear hb); (try clear hb2); (try clear hk); (try clear hi))))
                go_ret
                exact ⟨by first | rfl | (simp [errW_none, errW_some] <;> rfl) | (simp only [← hji23]; first | rfl | (simp [errW_none, errW_some] <;> rfl)) | (simp [*, errW_none, errW_some] <;> rfl), by repeat (first | (with_reducible first | exact HB.out | apply below_alloc | apply pw_below_drewN | apply below_drew1) | exact HB.out)⟩
              · rw [if_neg c30] at H
                exact absurd H (by simp)
            · rw [if_neg c29] at H
              have c29b0 : ((a0.size : Int) == 1) = false := beq_eq_false_iff_ne.mpr c29
              have c29b1 : ((a0.size : Int) != 1) = true := bne_iff_ne.mpr c29
              by_cases c33 : 0 ≤ 1
              · rw [if_pos c33] at H
                have c33b0 := eq_true c33
                have c33b1 : decide (0 ≤ 1) = true := decide_eq_true c33
                clear c33
                by_cases c34 : 1 ≤ (a0.size : Int)
                · rw [if_pos c34] at H
                  have c34b0 := eq_true c34
                  have c34b1 : decide (1 ≤ (a0.size : Int)) = true := decide_eq_true c34
                  clear c34
                  by_cases c35 : (a0.extract 0 1).size + 1 ≤ 9223372036854775807
                  · rw [if_pos c35] at H
                    have c35b0 := eq_true c35
                    have c35b1 : decide ((a0.extract 0 1).size + 1 ≤ 9223372036854775807) = true := decide_eq_true c35
                    try have c35b2 : (9223372036854775807 < (a0.extract 0 1).size + 1) = False := eq_false (Nat.not_lt.2 c35)
                    have c36b0 := eq_true (of_decide_eq_true (by first | (with_reducible assumption) | assumption) : 1 ≤ (a0.size : Int))
                    by_cases c37 : ((a0.extract 0 1) ++ (⟨#[46]⟩ : ByteArray)).size + (a0.extract 1 a0.size).size ≤ 9223372036854775807
                    · rw [if_pos c37] at H
                      have c37b0 := eq_true c37
                      have c37b1 : decide (((a0.extract 0 1) ++ (⟨#[46]⟩ : ByteArray)).size + (a0.extract 1 a0.size).size ≤ 9223372036854775807) = true := decide_eq_true c37
                      try have c37b2 : (9223372036854775807 < ((a0.extract 0 1) ++ (⟨#[46]⟩ : ByteArray)).size + (a0.extract 1 a0.size).size) = False := eq_false (Nat.not_lt.2 c37)
                      by_cases c38 : (((a0.extract 0 1) ++ (⟨#[46]⟩ : ByteArray)) ++ (a0.extract 1 a0.size)).size + ((⟨#[101, 45]⟩ : ByteArray) ++ t452).size ≤ 9223372036854775807
                      · rw [if_pos c38] at H
                        have c38b0 := eq_true c38
                        have c38b1 : decide ((((a0.extract 0 1) ++ (⟨#[46]⟩ : ByteArray)) ++ (a0.extract 1 a0.size)).size + ((⟨#[101, 45]⟩ : ByteArray) ++ t452).size ≤ 9223372036854775807) = true := decide_eq_true c38
                        try have c38b2 : (9223372036854775807 < (((a0.extract 0 1) ++ (⟨#[46]⟩ : ByteArray)) ++ (a0.extract 1 a0.size)).size + ((⟨#[101, 45]⟩ : ByteArray) ++ t452).size) = False := eq_false (Nat.not_lt.2 c38)
                        obtain rfl := Option.some.inj H
                        go_wp2_with (first | (go_at_call 46; (with_reducible refine (spec_decimals.calls kj2 (IntKind.u64.wrap (ji23)) t451 _ A24.out).mono ?_); rintro e w39 ⟨rfl, hb⟩; have n0_ := Aside0.mk (below_step (by repeat (first | (with_reducible first | exact HB.out | apply below_alloc | apply pw_below_drewN | apply below_drew1) | exact HB.out)) hb); clear HB; have HB := n0_; clear n0_; (try clear hb); (try clear hb2); (try clear hk); (try clear hi)) | (go_at_call 46; (with_reducible refine (spec_decimals.calls kj2 (IntKind.u64.wrap (wrap64 (1 - a1))) t452 _ A27.out).mono ?_); rintro e w40 ⟨rfl, hb⟩; have n0_ := Aside0.mk (below_step (by repeat (first | (with_reducible first | exact HB.out | apply below_alloc | apply pw_below_drewN | apply below_drew1) | exact HB.out)) hb); clear HB; have HB := n0_; clear n0_; (try clear hb); (try clear hb2); (try clear hk); (try clear hi)))
                        repeat (go_quiet (first | (go_at_call 46; (with_reducible refine (spec_decimals.calls kj2 (IntKind.u64.wrap (ji23)) t451 _ A24.out).mono ?_); rintro e w39 ⟨rfl, hb⟩; have n0_ := Aside0.mk (below_step (by repeat (first | (with_reducible first | exact HB.out | apply below_alloc | apply pw_below_drewN | apply below_drew1) | exact HB.out)) hb); clear HB; have HB := n0_; clear n0_; (try clear hb); (try clear hb2); (try clear hk); (try clear hi)) | (go_at_call 46; (with_reducible refine (spec_decimals.calls kj2 (IntKind.u64.wrap (wrap64 (1 - a1))) t452 _ A27.out).mono ?_); rintro e w40 ⟨rfl, hb⟩; have n0_ := Aside0.mk (below_step (by repeat (first | (with_reducible first | exact HB.out | apply below_alloc | apply pw_below_drewN | apply below_drew1) | exact HB.out)) hb); clear HB; have HB := n0_; clear n0_; (try clear hb); (try clear hb2); (try clear hk); (try clear hi))); try go_wp2_with (first | (go_at_call 46; (with_reducible refine (spec_decimals.calls kj2 (IntKind.u64.wrap (ji23)) t451 _ A24.out).mono ?_); rintro e w39 ⟨rfl, hb⟩; have n0_ := Aside0.mk (below_step (by repeat (first | (with_reducible first | exact HB.out | apply below_alloc | apply pw_below_drewN | apply below_drew1) | exact HB.out)) hb); clear HB; have HB := n0_; clear n0_; (try clear hb); (try clear hb2); (try clear hk); (try clear hi)) | (go_at_call 46; (with_reducible refine (spec_decimals.calls kj2 (IntKind.u64.wrap (wrap64 (1 - a1))) t452 _ A27.out).mono ?_); rintro e w40 ⟨rfl, hb⟩; have n0_ := Aside0.mk (below_step (by repeat (first | (with_reducible first | exact HB.out | apply below_alloc | apply pw_below_drewN | apply below_drew1) | exact HB.out)) hb); clear HB; have HB := n0_; clear n0_; (try clear hb); (try clear hb2); (try clear hk); (try clear hi))))
                        go_ret
                        exact ⟨by first | rfl | (simp [errW_none, errW_some] <;> rfl) | (simp only [← hji23]; first | rfl | (simp [errW_none, errW_some] <;> rfl)) | (simp [*, errW_none, errW_some] <;> rfl), by repeat (first | (with_reducible first | exact HB.out | apply below_alloc | apply pw_below_drewN | apply below_drew1) | exact HB.out)⟩
                      · rw [if_neg c38] at H
                        exact absurd H (by simp)
                    · rw [if_neg c37] at H
                      exact absurd H (by simp)
                  · rw [if_neg c35] at H
                    exact absurd H (by simp)
                · rw [if_neg c34] at H
                  exact absurd H (by simp)
              · rw [if_neg c33] at H
                exact absurd H (by simp)
          · rw [if_neg c28] at H
            exact absurd H (by simp)
        · rw [if_neg c26] at H
          have c26b0 : decide ((wrap64 (a1 - 1)) < 0) = false := decide_eq_false c26
          clear c26
          by_cases c41 : (a0.size : Int) = 1
          · rw [if_pos c41] at H
            have c41b0 : ((a0.size : Int) == 1) = true := beq_iff_eq.mpr c41
            have c41b1 : ((a0.size : Int) != 1) = false := bne_eq_false_iff_eq.mpr c41
            clear c41
            by_cases c42 : a0.size + ((⟨#[101, 43]⟩ : ByteArray) ++ t451).size ≤ 9223372036854775807
            · rw [if_pos c42] at H
              have c42b0 := eq_true c42
              have c42b1 : decide (a0.size + ((⟨#[101, 43]⟩ : ByteArray) ++ t451).size ≤ 9223372036854775807) = true := decide_eq_true c42
              try have c42b2 : (9223372036854775807 < a0.size + ((⟨#[101, 43]⟩ : ByteArray) ++ t451).size) = False := eq_false (Nat.not_lt.2 c42)
              obtain rfl := Option.some.inj H
              go_wp2_with (first | (go_at_call 46; (with_reducible refine (spec_decimals.calls kj2 (IntKind.u64.wrap (ji23)) t451 _ A24.out).mono ?_); rintro e w43 ⟨rfl, hb⟩; have n0_ := Aside0.mk (below_step (by repeat (first | (with_reducible first | exact HB.out | apply below_alloc | apply pw_below_drewN | apply below_drew1) | exact HB.out)) hb); clear HB; have HB := n0_; clear n0_; (try clear hb); (try clear hb2); (try clear hk); (try clear hi)))
              repeat (go_quiet (first | (go_at_call 46; (with_reducible refine (spec_decimals.calls kj2 (IntKind.u64.wrap (ji23)) t451 _ A24.out).mono ?_); rintro e w43 ⟨rfl, hb⟩; have n0_ := Aside0.mk (below_step (by repeat (first | (with_reducible first | exact HB.out | apply below_alloc | apply pw_below_drewN | apply below_drew1) | exact HB.out)) hb); clear HB; have HB := n0_; clear n0_; (try clear hb); (try clear hb2); (try clear hk); (try clear hi))); try go_wp2_with (first | (go_at_call 46; (with_reducible refine (spec_decimals.calls kj2 (IntKind.u64.wrap (ji23)) t451 _ A24.out).mono ?_); rintro e w43 ⟨rfl, hb⟩; have n0_ := Aside0.mk (below_step (by repeat (first | (with_reducible first | exact HB.out | apply below_alloc | apply pw_below_drewN | apply below_drew1) | exact HB.out)) hb); clear HB; have HB := n0_; clear n0_; (try clear hb); (try clear hb2); (try clear hk); (try clear hi))))
              go_ret
              exact ⟨by first | rfl | (simp [errW_none, errW_some] <;> rfl) | (simp only [← hji23]; first | rfl | (simp [errW_none, errW_some] <;> rfl)) | (simp [*, errW_none, errW_some] <;> rfl), by repeat (first | (with_reducible first | exact HB.out | apply below_alloc | apply pw_below_drewN | apply below_drew1) | exact HB.out)⟩
            · rw [if_neg c42] at H
              exact absurd H (by simp)
          · rw [if_neg c41] at H
            have c41b0 : ((a0.size : Int) == 1) = false := beq_eq_false_iff_ne.mpr c41
            have c41b1 : ((a0.size : Int) != 1) = true := bne_iff_ne.mpr c41
            by_cases c44 : 0 ≤ 1
            · rw [if_pos c44] at H
              have c44b0 := eq_true c44
              have c44b1 : decide (0 ≤ 1) = true := decide_eq_true c44
              clear c44
              by_cases c45 : 1 ≤ (a0.size : Int)
              · rw [if_pos c45] at H
                have c45b0 := eq_true c45
                have c45b1 : decide (1 ≤ (a0.size : Int)) = true := decide_eq_true c45
                clear c45
                by_cases c46 : (a0.extract 0 1).size + 1 ≤ 9223372036854775807
                · rw [if_pos c46] at H
                  have c46b0 := eq_true c46
                  have c46b1 : decide ((a0.extract 0 1).size + 1 ≤ 9223372036854775807) = true := decide_eq_true c46
                  try have c46b2 : (9223372036854775807 < (a0.extract 0 1).size + 1) = False := eq_false (Nat.not_lt.2 c46)
                  have c47b0 := eq_true (of_decide_eq_true (by first | (with_reducible assumption) | assumption) : 1 ≤ (a0.size : Int))
                  by_cases c48 : ((a0.extract 0 1) ++ (⟨#[46]⟩ : ByteArray)).size + (a0.extract 1 a0.size).size ≤ 9223372036854775807
                  · rw [if_pos c48] at H
                    have c48b0 := eq_true c48
                    have c48b1 : decide (((a0.extract 0 1) ++ (⟨#[46]⟩ : ByteArray)).size + (a0.extract 1 a0.size).size ≤ 9223372036854775807) = true := decide_eq_true c48
                    try have c48b2 : (9223372036854775807 < ((a0.extract 0 1) ++ (⟨#[46]⟩ : ByteArray)).size + (a0.extract 1 a0.size).size) = False := eq_false (Nat.not_lt.2 c48)
                    by_cases c49 : (((a0.extract 0 1) ++ (⟨#[46]⟩ : ByteArray)) ++ (a0.extract 1 a0.size)).size + ((⟨#[101, 43]⟩ : ByteArray) ++ t451).size ≤ 9223372036854775807
                    · rw [if_pos c49] at H
                      have c49b0 := eq_true c49
                      have c49b1 : decide ((((a0.extract 0 1) ++ (⟨#[46]⟩ : ByteArray)) ++ (a0.extract 1 a0.size)).size + ((⟨#[101, 43]⟩ : ByteArray) ++ t451).size ≤ 9223372036854775807) = true := decide_eq_true c49
                      try have c49b2 : (9223372036854775807 < (((a0.extract 0 1) ++ (⟨#[46]⟩ : ByteArray)) ++ (a0.extract 1 a0.size)).size + ((⟨#[101, 43]⟩ : ByteArray) ++ t451).size) = False := eq_false (Nat.not_lt.2 c49)
                      obtain rfl := Option.some.inj H
                      go_wp2_with (first | (go_at_call 46; (with_reducible refine (spec_decimals.calls kj2 (IntKind.u64.wrap (ji23)) t451 _ A24.out).mono ?_); rintro e w50 ⟨rfl, hb⟩; have n0_ := Aside0.mk (below_step (by repeat (first | (with_reducible first | exact HB.out | apply below_alloc | apply pw_below_drewN | apply below_drew1) | exact HB.out)) hb); clear HB; have HB := n0_; clear n0_; (try clear hb); (try clear hb2); (try clear hk); (try clear hi)))
                      repeat (go_quiet (first | (go_at_call 46; (with_reducible refine (spec_decimals.calls kj2 (IntKind.u64.wrap (ji23)) t451 _ A24.out).mono ?_); rintro e w50 ⟨rfl, hb⟩; have n0_ := Aside0.mk (below_step (by repeat (first | (with_reducible first | exact HB.out | apply below_alloc | apply pw_below_drewN | apply below_drew1) | exact HB.out)) hb); clear HB; have HB := n0_; clear n0_; (try clear hb); (try clear hb2); (try clear hk); (try clear hi))); try go_wp2_with (first | (go_at_call 46; (with_reducible refine (spec_decimals.calls kj2 (IntKind.u64.wrap (ji23)) t451 _ A24.out).mono ?_); rintro e w50 ⟨rfl, hb⟩; have n0_ := Aside0.mk (below_step (by repeat (first | (with_reducible first | exact HB.out | apply below_alloc | apply pw_below_drewN | apply below_drew1) | exact HB.out)) hb); clear HB; have HB := n0_; clear n0_; (try clear hb); (try clear hb2); (try clear hk); (try clear hi))))
                      go_ret
                      exact ⟨by first | rfl | (simp [errW_none, errW_some] <;> rfl) | (simp only [← hji23]; first | rfl | (simp [errW_none, errW_some] <;> rfl)) | (simp [*, errW_none, errW_some] <;> rfl), by repeat (first | (with_reducible first | exact HB.out | apply below_alloc | apply pw_below_drewN | apply below_drew1) | exact HB.out)⟩
                    · rw [if_neg c49] at H
                      exact absurd H (by simp)
                  · rw [if_neg c48] at H
                    exact absurd H (by simp)
                · rw [if_neg c46] at H
                  exact absurd H (by simp)
              · rw [if_neg c45] at H
                exact absurd H (by simp)
            · rw [if_neg c44] at H
              exact absurd H (by simp)
      · rw [if_neg c25] at H
        exact absurd H (by simp)

end Go.Proofs.YtiopeaponffmdaaDoor.PAll
-- YtiopeaponffmdaaDoorPAllx28
namespace Go.Proofs.YtiopeaponffmdaaDoor.PAll
open Go.RowKit Go.Proofs.YtiopeaponffmdaaDoorW.PrintWords Go.Proofs.YtiopeaponffmdaaDoorW.PrintLast Go.Proofs.YtiopeaponffmdaaDoorW.PrintMore
attribute [local go_sem] max2_int min2_int max_two min_two max_three min_three max_four min_four   -- for this text's walks alone
set_option linter.unusedVariables false
set_option linter.unusedSimpArgs false

def spec_Form_Text.f (k : Nat) (a0_0 : Int) (a0_1 : Int) (a1 : Int) : Option (ByteArray) := if a1 = 0 then (some (⟨#[48]⟩ : ByteArray)) else ((spec_Form_Shortest.f k a0_0 a0_1 a1).bind fun bt454 => ((spec_Laid.f k bt454.1 bt454.2).bind fun t456 => (some t456)))
theorem spec_Form_Text.mono : ∀ a0 a1 a2 k, LeO (spec_Form_Text.f k a0 a1 a2) (spec_Form_Text.f (k + 1) a0 a1 a2) := by
  intro a0 a1 a2 k
  unfold spec_Form_Text.f
  repeat' first
      | (with_reducible exact spec_Form_Shortest.mono _ _ _ _)
      | (with_reducible exact spec_Laid.mono _ _ _)
      | (with_reducible exact LeO.refl _)
      | (with_reducible exact LeO.none _)
      | (with_reducible refine LeO.ite ?_ ?_)
      | (with_reducible refine LeO.bind ?_ (fun _ => ?_))
      | exact spec_Form_Shortest.mono _ _ _ _
      | exact spec_Laid.mono _ _ _
      | exact LeO.none _
      | refine LeO.ite ?_ ?_
      | refine LeO.bind ?_ (fun _ => ?_)
set_option maxHeartbeats 8000000 in
set_option maxRecDepth 100000 in
theorem spec_Form_Text.calls (k : Nat) (a0_0 : Int) (a0_1 : Int) (a1 : Int) (r : ByteArray) (w : World) (h : spec_Form_Text.f k a0_0 a0_1 a1 = some r) :
    Calls Tryd.prog 26 #[.agg #[.int .i64 a0_0, .int .u64 a0_1], .int .u64 a1] w fun e w' => e = .returned (.string r) ∧ Below w.heap.size w w' := by
  have hu31 := Tryd.underlying31
  have HB := Aside0.mk (Below.refl w.heap.size w)
  have H : (if a1 = 0 then (some (⟨#[48]⟩ : ByteArray)) else ((spec_Form_Shortest.f k a0_0 a0_1 a1).bind fun bt454 => ((spec_Laid.f k bt454.1 bt454.2).bind fun t456 => (some t456)))) = some r := h
  clear h
  by_cases c3 : a1 = 0
  · rw [if_pos c3] at H
    have c3b0 : (a1 == 0) = true := beq_iff_eq.mpr c3
    have c3b1 : (a1 != 0) = false := bne_eq_false_iff_eq.mpr c3
    clear c3
    obtain rfl := Option.some.inj H
    go_enter Tryd.func26, Tryd.ntmps26
    go_wp2_with (first | ((with_reducible refine gate_dst (N := 2) rfl ?_); refine box_event ?hg (N := 2) ?hd (cs := #[.int .i64 a0_0, .int .u64 a0_1]) (t := 31) ?hr ?_; (case hd => rfl); (case hg => rfl); (case hr => first | (go_simp; done) | (go_simp; rfl)); intro gb453 hg w4 hbox hb; have n0_ := Aside0.mk (below_step (by repeat (first | (with_reducible first | exact HB.out | apply below_alloc | apply pw_below_drewN | apply below_drew1) | exact HB.out)) hb); have n1_ := Aside0.mk (hbox); have n2_ := Aside0.mk ((by rw [hg]; exact (below_size (by repeat (first | (with_reducible first | exact HB.out | apply below_alloc | apply pw_below_drewN | apply below_drew1) | exact HB.out))) : w.heap.size ≤ gb453)); have n3_ := Aside0.mk ((by rw [hg]; exact (below_size (by repeat (first | (with_reducible first | exact HB.out | apply below_alloc | apply pw_below_drewN | apply below_drew1) | exact HB.out))) : w.heap.size ≤ gb453)); clear HB; have HB := n0_; have BK453 := n1_; have GW453 := n2_; have GE453 := n3_; clear n0_ n1_ n2_ n3_; clear hb hbox hg))
    go_ret
    exact ⟨by first | rfl | (simp [errW_none, errW_some] <;> rfl) | (simp [*, errW_none, errW_some] <;> rfl), by repeat (first | (with_reducible first | exact HB.out | apply below_alloc | apply pw_below_drewN | apply below_drew1 | refine below_set ?_ GE453.out) | exact HB.out)⟩
  · rw [if_neg c3] at H
    have c3b0 : (a1 == 0) = false := beq_eq_false_iff_ne.mpr c3
    have c3b1 : (a1 != 0) = true := bne_iff_ne.mpr c3
    replace H := Option.bind_eq_some_iff.mp H
    obtain ⟨⟨t454, t455⟩, A50, H⟩ := H
    replace H : ((spec_Laid.f k t454 t455).bind fun t456 => (some t456)) = some r := H
    have A5 := Aside0.mk A50
    clear A50
    replace H := Option.bind_eq_some_iff.mp H
    obtain ⟨t456, A60, H⟩ := H
    replace H : (some t456) = some r := H
    have A6 := Aside0.mk A60
    clear A60
    obtain rfl := Option.some.inj H
    go_enter Tryd.func26, Tryd.ntmps26
    go_wp2_with (first | ((with_reducible refine gate_dst (N := 2) rfl ?_); refine box_event ?hg (N := 2) ?hd (cs := #[.int .i64 a0_0, .int .u64 a0_1]) (t := 31) ?hr ?_; (case hd => rfl); (case hg => rfl); (case hr => first | (go_simp; done) | (go_simp; rfl)); intro gb453 hg w7 hbox hb; have n0_ := Aside0.mk (below_step (by repeat (first | (with_reducible first | exact HB.out | apply below_alloc | apply pw_below_drewN | apply below_drew1) | exact HB.out)) hb); have n1_ := Aside0.mk (hbox); have n2_ := Aside0.mk ((by rw [hg]; exact (below_size (by repeat (first | (with_reducible first | exact HB.out | apply below_alloc | apply pw_below_drewN | apply below_drew1) | exact HB.out))) : w.heap.size ≤ gb453)); have n3_ := Aside0.mk ((by rw [hg]; exact (below_size (by repeat (first | (with_reducible first | exact HB.out | apply below_alloc | apply pw_below_drewN | apply below_drew1) | exact HB.out))) : w.heap.size ≤ gb453)); clear HB; have HB := n0_; have BK453 := n1_; have GW453 := n2_; have GE453 := n3_; clear n0_ n1_ n2_ n3_; clear hb hbox hg; have hcz8_0 : w7.cell? ⟨gb453, 0, none⟩ = some (.int .i64 a0_0) := (blk_cell BK453.out 0).trans rfl; have hcz8_1 : w7.cell? ⟨gb453, 1, none⟩ = some (.int .u64 a0_1) := (blk_cell BK453.out 1).trans rfl; have hfz8_0 := blk_frozen BK453.out 0; have hfz8_1 := blk_frozen BK453.out 1) | ((with_reducible refine gate_callee (f := 34) rfl ?_); refine goesL_ (some 12) rfl rfl Tryd.func34 (by kernel_rfl) rfl #[.agg #[.int .i64 a0_0, .int .u64 a0_1], .int .u64 a1] rfl (by (try simp only [List.map_toArray, List.map_cons, List.map_nil]); first | done | rfl | (simp only [List.length_drop, List.length_take]; rfl)) ?_; (with_reducible refine (spec_Form_Shortest.calls k a0_0 a0_1 a1 t454 t455 _ A5.out).mono ?_); rintro e w9 ⟨rfl, hb⟩; refine ⟨_, rfl, ?_⟩; have n0_ := Aside0.mk (blk_below (g := gb453) (o := .cells #[.int .i64 a0_0, .int .u64 a0_1] 31 (0, 0)) (by (with_reducible repeat (first | refine blk_drewN ?_ _ | refine blk_drew ?_ | refine blk_alloc ?_ _)); exact BK453.out) hb); have n1_ := Aside0.mk (below_step (by repeat (first | (with_reducible first | exact HB.out | apply below_alloc | apply pw_below_drewN | apply below_drew1 | refine below_set ?_ GE453.out) | exact HB.out)) hb); clear BK453; clear HB; have BK453 := n0_; have HB := n1_; clear n0_ n1_; (try clear hb); (try clear hb2); (try clear hk); (try clear hi)) | ((with_reducible refine gate_callee (f := 35) rfl ?_); refine goesL_ (some 17) rfl rfl Tryd.func35 (by kernel_rfl) rfl #[.string t454, .int .i64 t455] rfl (by (try simp only [List.map_toArray, List.map_cons, List.map_nil]); first | done | rfl | (simp only [List.length_drop, List.length_take]; rfl)) ?_; (with_reducible refine (spec_Laid.calls k t454 t455 t456 _ A6.out).mono ?_); rintro e w10 ⟨rfl, hb⟩; refine ⟨_, rfl, ?_⟩; have n0_ := Aside0.mk (blk_below (g := gb453) (o := .cells #[.int .i64 a0_0, .int .u64 a0_1] 31 (0, 0)) (by (with_reducible repeat (first | refine blk_drewN ?_ _ | refine blk_drew ?_ | refine blk_alloc ?_ _)); exact BK453.out) hb); have n1_ := Aside0.mk (below_step (by repeat (first | (with_reducible first | exact HB.out | apply below_alloc | apply pw_below_drewN | apply below_drew1 | refine below_set ?_ GE453.out) | exact HB.out)) hb); clear BK453; clear HB; have BK453 := n0_; have HB := n1_; clear n0_ n1_; (try clear hb); (try clear hb2); (try clear hk); (try clear hi)))
    go_ret
    exact ⟨by first | rfl | (simp [errW_none, errW_some] <;> rfl) | (simp [*, errW_none, errW_some] <;> rfl), by repeat (first | (with_reducible first | exact HB.out | apply below_alloc | apply pw_below_drewN | apply below_drew1 | refine below_set ?_ GE453.out) | exact HB.out)⟩

def laws_floatText8.f (k : Nat) (a0 : Bool) (a1_0 : Int) (a1_1 : Int) (a2 : Int) : Option (ByteArray) := if a0 = true then ((spec_Form_Text.f k a1_0 a1_1 a2).bind fun t458 => (if 1 + t458.size ≤ 9223372036854775807 then (some ((⟨#[45]⟩ : ByteArray) ++ t458)) else (none))) else ((spec_Form_Text.f k a1_0 a1_1 a2).bind fun t459 => (some t459))
theorem laws_floatText8.mono : ∀ a0 a1 a2 a3 k, LeO (laws_floatText8.f k a0 a1 a2 a3) (laws_floatText8.f (k + 1) a0 a1 a2 a3) := by
  intro a0 a1 a2 a3 k
  unfold laws_floatText8.f
  repeat' first
      | (with_reducible exact spec_Form_Text.mono _ _ _ _)
      | (with_reducible exact LeO.refl _)
      | (with_reducible exact LeO.none _)
      | (with_reducible refine LeO.ite ?_ ?_)
      | (with_reducible refine LeO.bind ?_ (fun _ => ?_))
      | exact spec_Form_Text.mono _ _ _ _
      | exact LeO.none _
      | refine LeO.ite ?_ ?_
      | refine LeO.bind ?_ (fun _ => ?_)
set_option maxHeartbeats 8000000 in
set_option maxRecDepth 100000 in
theorem laws_floatText8.calls (k : Nat) (a0 : Bool) (a1_0 : Int) (a1_1 : Int) (a2 : Int) (r : ByteArray) (w : World) (h : laws_floatText8.f k a0 a1_0 a1_1 a2 = some r) :
    Calls Tryd.prog 15 #[.bool a0, .agg #[.int .i64 a1_0, .int .u64 a1_1], .int .u64 a2] w fun e w' => e = .returned (.string r) ∧ Below w.heap.size w w' := by
  have hu31 := Tryd.underlying31
  have HB := Aside0.mk (Below.refl w.heap.size w)
  have H : (if a0 = true then ((spec_Form_Text.f k a1_0 a1_1 a2).bind fun t458 => (if 1 + t458.size ≤ 9223372036854775807 then (some ((⟨#[45]⟩ : ByteArray) ++ t458)) else (none))) else ((spec_Form_Text.f k a1_0 a1_1 a2).bind fun t459 => (some t459))) = some r := h
  clear h
  by_cases c4 : a0 = true
  · subst c4
    have H1 : ((spec_Form_Text.f k a1_0 a1_1 a2).bind fun t458 => (if 1 + t458.size ≤ 9223372036854775807 then (some ((⟨#[45]⟩ : ByteArray) ++ t458)) else (none))) = some r := by rw [if_pos rfl] at H; exact H
    clear H
    have H := H1
    clear H1
    replace H := Option.bind_eq_some_iff.mp H
    obtain ⟨t458, A50, H⟩ := H
    replace H : (if 1 + t458.size ≤ 9223372036854775807 then (some ((⟨#[45]⟩ : ByteArray) ++ t458)) else (none)) = some r := H
    have A5 := Aside0.mk A50
    clear A50
    by_cases c6 : 1 + t458.size ≤ 9223372036854775807
    · rw [if_pos c6] at H
      have c6b0 := eq_true c6
      have c6b1 : decide (1 + t458.size ≤ 9223372036854775807) = true := decide_eq_true c6
      try have c6b2 : (9223372036854775807 < 1 + t458.size) = False := eq_false (Nat.not_lt.2 c6)
      obtain rfl := Option.some.inj H
      go_enter Tryd.func15, Tryd.ntmps15
      go_wp2_with (first | ((with_reducible refine gate_dst (N := 4) rfl ?_); refine box_event ?hg (N := 4) ?hd (cs := #[.int .i64 a1_0, .int .u64 a1_1]) (t := 31) ?hr ?_; (case hd => rfl); (case hg => rfl); (case hr => first | (go_simp; done) | (go_simp; rfl)); intro gb457 hg w7 hbox hb; have n0_ := Aside0.mk (below_step (by repeat (first | (with_reducible first | exact HB.out | apply below_alloc | apply pw_below_drewN | apply below_drew1) | exact HB.out)) hb); have n1_ := Aside0.mk (hbox); have n2_ := Aside0.mk ((by rw [hg]; exact (below_size (by repeat (first | (with_reducible first | exact HB.out | apply below_alloc | apply pw_below_drewN | apply below_drew1) | exact HB.out))) : w.heap.size ≤ gb457)); have n3_ := Aside0.mk ((by rw [hg]; exact (below_size (by repeat (first | (with_reducible first | exact HB.out | apply below_alloc | apply pw_below_drewN | apply below_drew1) | exact HB.out))) : w.heap.size ≤ gb457)); clear HB; have HB := n0_; have BK457 := n1_; have GW457 := n2_; have GE457 := n3_; clear n0_ n1_ n2_ n3_; clear hb hbox hg; have hcz8_0 : w7.cell? ⟨gb457, 0, none⟩ = some (.int .i64 a1_0) := (blk_cell BK457.out 0).trans rfl; have hcz8_1 : w7.cell? ⟨gb457, 1, none⟩ = some (.int .u64 a1_1) := (blk_cell BK457.out 1).trans rfl; have hfz8_0 := blk_frozen BK457.out 0; have hfz8_1 := blk_frozen BK457.out 1) | ((with_reducible refine gate_callee (f := 26) rfl ?_); refine goesL_ (some 10) rfl rfl Tryd.func26 (by kernel_rfl) rfl #[.agg #[.int .i64 a1_0, .int .u64 a1_1], .int .u64 a2] rfl (by (try simp only [List.map_toArray, List.map_cons, List.map_nil]); first | done | rfl | (simp only [List.length_drop, List.length_take]; rfl)) ?_; (with_reducible refine (spec_Form_Text.calls k a1_0 a1_1 a2 t458 _ A5.out).mono ?_); rintro e w9 ⟨rfl, hb⟩; refine ⟨_, rfl, ?_⟩; have n0_ := Aside0.mk (blk_below (g := gb457) (o := .cells #[.int .i64 a1_0, .int .u64 a1_1] 31 (0, 0)) (by (with_reducible repeat (first | refine blk_drewN ?_ _ | refine blk_drew ?_ | refine blk_alloc ?_ _)); exact BK457.out) hb); have n1_ := Aside0.mk (below_step (by repeat (first | (with_reducible first | exact HB.out | apply below_alloc | apply pw_below_drewN | apply below_drew1 | refine below_set ?_ GE457.out) | exact HB.out)) hb); clear BK457; clear HB; have BK457 := n0_; have HB := n1_; clear n0_ n1_; (try clear hb); (try clear hb2); (try clear hk); (try clear hi)))
      go_ret
      exact ⟨by first | rfl | (simp [errW_none, errW_some] <;> rfl) | (simp [*, errW_none, errW_some] <;> rfl), by repeat (first | (with_reducible first | exact HB.out | apply below_alloc | apply pw_below_drewN | apply below_drew1 | refine below_set ?_ GE457.out) | exact HB.out)⟩
    · rw [if_neg c6] at H
      exact absurd H (by simp)
  · replace c4 := Bool.eq_false_iff.mpr c4
    subst c4
    have H1 : ((spec_Form_Text.f k a1_0 a1_1 a2).bind fun t459 => (some t459)) = some r := by rw [if_neg (show ¬ (false = true) by decide)] at H; exact H
    clear H
    have H := H1
    clear H1
    replace H := Option.bind_eq_some_iff.mp H
    obtain ⟨t459, A100, H⟩ := H
    replace H : (some t459) = some r := H
    have A10 := Aside0.mk A100
    clear A100
    obtain rfl := Option.some.inj H
    go_enter Tryd.func15, Tryd.ntmps15
    go_wp2_with (first | ((with_reducible refine gate_dst (N := 4) rfl ?_); refine box_event ?hg (N := 4) ?hd (cs := #[.int .i64 a1_0, .int .u64 a1_1]) (t := 31) ?hr ?_; (case hd => rfl); (case hg => rfl); (case hr => first | (go_simp; done) | (go_simp; rfl)); intro gb457 hg w11 hbox hb; have n0_ := Aside0.mk (below_step (by repeat (first | (with_reducible first | exact HB.out | apply below_alloc | apply pw_below_drewN | apply below_drew1) | exact HB.out)) hb); have n1_ := Aside0.mk (hbox); have n2_ := Aside0.mk ((by rw [hg]; exact (below_size (by repeat (first | (with_reducible first | exact HB.out | apply below_alloc | apply pw_below_drewN | apply below_drew1) | exact HB.out))) : w.heap.size ≤ gb457)); have n3_ := Aside0.mk ((by rw [hg]; exact (below_size (by repeat (first | (with_reducible first | exact HB.out | apply below_alloc | apply pw_below_drewN | apply below_drew1) | exact HB.out))) : w.heap.size ≤ gb457)); clear HB; have HB := n0_; have BK457 := n1_; have GW457 := n2_; have GE457 := n3_; clear n0_ n1_ n2_ n3_; clear hb hbox hg; have hcz12_0 : w11.cell? ⟨gb457, 0, none⟩ = some (.int .i64 a1_0) := (blk_cell BK457.out 0).trans rfl; have hcz12_1 : w11.cell? ⟨gb457, 1, none⟩ = some (.int .u64 a1_1) := (blk_cell BK457.out 1).trans rfl; have hfz12_0 := blk_frozen BK457.out 0; have hfz12_1 := blk_frozen BK457.out 1) | ((with_reducible refine gate_callee (f := 26) rfl ?_); refine goesL_ (some 14) rfl rfl Tryd.func26 (by kernel_rfl) rfl #[.agg #[.int .i64 a1_0, .int .u64 a1_1], .int .u64 a2] rfl (by (try simp only [List.map_toArray, List.map_cons, List.map_nil]); first | done | rfl | (simp only [List.length_drop, List.length_take]; rfl)) ?_; (with_reducible refine (spec_Form_Text.calls k a1_0 a1_1 a2 t459 _ A10.out).mono ?_); rintro e w13 ⟨rfl, hb⟩; refine ⟨_, rfl, ?_⟩; have n0_ := Aside0.mk (blk_below (g := gb457) (o := .cells #[.int .i64 a1_0, .int .u64 a1_1] 31 (0, 0)) (by (with_reducible repeat (first | refine blk_drewN ?_ _ | refine blk_drew ?_ | refine blk_alloc ?_ _)); exact BK457.out) hb); have n1_ := Aside0.mk (below_step (by repeat (first | (with_reducible first | exact HB.out | apply below_alloc | apply pw_below_drewN | apply below_drew1 | refine below_set ?_ GE457.out) | exact HB.out)) hb); clear BK457; clear HB; have BK457 := n0_; have HB := n1_; clear n0_ n1_; (try clear hb); (try clear hb2); (try clear hk); (try clear hi)))
    go_ret
    exact ⟨by first | rfl | (simp [errW_none, errW_some] <;> rfl) | (simp [*, errW_none, errW_some] <;> rfl), by repeat (first | (with_reducible first | exact HB.out | apply below_alloc | apply pw_below_drewN | apply below_drew1 | refine below_set ?_ GE457.out) | exact HB.out)⟩

def spec_Double.f  : Option (Int × Int) := some (52, 9218868437227405311)
set_option maxHeartbeats 8000000 in
set_option maxRecDepth 100000 in
theorem spec_Double.calls  (r1 : Int) (r2 : Int) (w : World) (h : spec_Double.f  = some (r1, r2)) :
    Calls Tryd.prog 16 #[] w fun e w' => e = .returned (.agg #[.int .i64 r1, .int .u64 r2]) ∧ Below w.heap.size w w' := by
  have hu31 := Tryd.underlying31
  have HB := Aside0.mk (Below.refl w.heap.size w)
  have H : (some (52, 9218868437227405311)) = some (r1, r2) := h
  clear h
  simp only [Option.some.injEq, Prod.mk.injEq] at H
  obtain ⟨rfl, rfl⟩ := H
  go_enter Tryd.func16, Tryd.ntmps16
  go_wp2_with (first | ((with_reducible refine gate_dst (N := 0) rfl ?_); refine box_event ?hg (N := 0) ?hd (cs := #[.int .i64 0, .int .u64 0]) (t := 31) ?hr ?_; (case hd => rfl); (case hg => rfl); (case hr => first | (go_simp; done) | (go_simp; rfl)); intro gb460 hg w1 hbox hb; have n0_ := Aside0.mk (below_step (by repeat (first | (with_reducible first | exact HB.out | apply below_alloc | apply pw_below_drewN | apply below_drew1) | exact HB.out)) hb); have n1_ := Aside0.mk (hbox); have n2_ := Aside0.mk ((by rw [hg]; exact (below_size (by repeat (first | (with_reducible first | exact HB.out | apply below_alloc | apply pw_below_drewN | apply below_drew1) | exact HB.out))) : w.heap.size ≤ gb460)); have n3_ := Aside0.mk ((by rw [hg]; exact (below_size (by repeat (first | (with_reducible first | exact HB.out | apply below_alloc | apply pw_below_drewN | apply below_drew1) | exact HB.out))) : w.heap.size ≤ gb460)); clear HB; have HB := n0_; have BK460 := n1_; have GW460 := n2_; have GE460 := n3_; clear n0_ n1_ n2_ n3_; clear hb hbox hg; have hcz2_0 : w1.cell? ⟨gb460, 0, none⟩ = some (.int .i64 0) := (blk_cell BK460.out 0).trans rfl; have hcz2_1 : w1.cell? ⟨gb460, 1, none⟩ = some (.int .u64 0) := (blk_cell BK460.out 1).trans rfl; have hfz2_0 := blk_frozen BK460.out 0; have hfz2_1 := blk_frozen BK460.out 1))
  refine bodyPost_ret (results_cell_row rfl _ _ gb460 31 #[.int .i64 52, .int .u64 9218868437227405311] (0, 0) _ rfl (by (with_reducible repeat (first | refine blk_drewN ?_ _ | refine blk_drew ?_ | refine blk_alloc ?_ _)); refine blk_put (cs := #[.int .i64 52, .int .u64 0]) ?_ 1 _ rfl; (with_reducible repeat (first | refine blk_drewN ?_ _ | refine blk_drew ?_ | refine blk_alloc ?_ _)); refine blk_put (cs := #[.int .i64 0, .int .u64 0]) ?_ 0 _ rfl; (with_reducible repeat (first | refine blk_drewN ?_ _ | refine blk_drew ?_ | refine blk_alloc ?_ _)); exact BK460.out) Tryd.underlying31 rfl (by kernel_rfl)) rfl ?_
  exact ⟨by first | rfl | (simp [errW_none, errW_some] <;> rfl) | (simp [*, errW_none, errW_some] <;> rfl), by repeat (first | (with_reducible first | exact HB.out | apply below_alloc | apply pw_below_drewN | apply below_drew1 | refine below_set ?_ GE460.out) | exact HB.out)⟩

end Go.Proofs.YtiopeaponffmdaaDoor.PAll
-- YtiopeaponffmdaaDoorNf
namespace Go.Proofs.YtiopeaponffmdaaDoor.PAll
open Go.RowKit Go.Proofs.YtiopeaponffmdaaDoorW.PrintWords Go.Proofs.YtiopeaponffmdaaDoorW.PrintLast Go.Proofs.YtiopeaponffmdaaDoorW.PrintMore

theorem zeros_ev (n : Nat) (hn : n ≤ 10000) : Ev (fun k => spec_zeros.f k (n : Int)) (strOfNums (List.replicate n 48)) := by
  have main : ∀ m i : Nat, i + m = n → Ev (fun k => spec_zeros.l0 k (strOfNums (List.replicate i 48)) (n : Int) (i : Int)) (strOfNums (List.replicate n 48)) := by
    intro m
    induction m with
    | zero =>
      intro i hi
      obtain rfl : i = n := by omega
      refine Ev.succ (g := fun _ => some (strOfNums (List.replicate i 48))) (fun k => ?_) (Ev.pure _)
      rw [spec_zeros.l0, if_neg (by omega)]
    | succ m ih =>
      intro i hi
      refine Ev.succ (fun k => ?_) (ih (i + 1) (by omega))
      rw [spec_zeros.l0, if_pos (by omega), if_pos (by rw [strOfNums_size, List.length_replicate]; omega), w64 _ (by omega) (by omega), show (⟨#[48]⟩ : ByteArray) = strOfNums [48] from rfl, str_append, List.replicate_succ']
      rfl
  exact main n 0 (by omega)

/-- the digits, laid out -/
def laidL (ds : List Int) (n : Int) : List Int :=
  if (ds.length : Int) ≤ n ∧ n ≤ 21 then ds ++ List.replicate (n - ds.length).toNat 48
  else if 0 < n ∧ n ≤ 21 then ds.take n.toNat ++ [46] ++ ds.drop n.toNat
  else if -6 < n ∧ n ≤ 0 then [48, 46] ++ List.replicate (-n).toNat 48 ++ ds
  else (if ds.length = 1 then ds else ds.take 1 ++ [46] ++ ds.drop 1) ++ (if n - 1 < 0 then [101, 45] ++ dec (1 - n).toNat else [101, 43] ++ dec (n - 1).toNat)

theorem laid_j2 (ds : List Int) (n : Int) (h1 : 1 ≤ ds.length) (h2 : ds.length ≤ 100) (hn0 : -1000 ≤ n) (hn1 : n ≤ 1000) :
    Ev (fun k => spec_Laid.j2 k (strOfNums ds) n (ds.length : Int)) (strOfNums ((if ds.length = 1 then ds else ds.take 1 ++ [46] ++ ds.drop 1) ++ (if n - 1 < 0 then [101, 45] ++ dec (1 - n).toNat else [101, 43] ++ dec (n - 1).toNat))) := by
  have e1 : wrap64 (n - 1) = n - 1 := w64 _ (by omega) (by omega)
  have e2 : wrap64 (1 - n) = 1 - n := w64 _ (by omega) (by omega)
  have x1 : (strOfNums ds).extract 0 1 = strOfNums (ds.take 1) := by rw [str_extract, List.drop_zero]
  have x2 : (strOfNums ds).extract 1 (strOfNums ds).size = strOfNums (ds.drop 1) := by
    rw [str_extract, strOfNums_size, List.take_of_length_le (by rw [List.length_drop]; omega)]
  have c1 : (⟨#[101, 45]⟩ : ByteArray) = strOfNums [101, 45] := rfl
  have c2 : (⟨#[101, 43]⟩ : ByteArray) = strOfNums [101, 43] := rfl
  have c3 : (⟨#[46]⟩ : ByteArray) = strOfNums [46] := rfl
  have l0 : (strOfNums ds).size = ds.length := strOfNums_size ds
  have t1 : (ds.take 1).length = 1 := by rw [List.length_take]; omega
  have t2 : (ds.drop 1).length ≤ 100 := by rw [List.length_drop]; omega
  have b20 : ∀ q : Nat, q ≤ 100000 → (dec q).length ≤ 20 := fun q hq => dec_length_le 19 q (Nat.lt_of_le_of_lt hq (by decide))
  by_cases hneg : n - 1 < 0
  · obtain ⟨q, hq⟩ : ∃ q : Nat, 1 - n = (q : Int) := ⟨(1 - n).toNat, by omega⟩
    obtain ⟨K1, d0⟩ := decimals_ev 0 (by decide)
    obtain ⟨K2, d1⟩ := decimals_ev q (by omega)
    have l1 := b20 q (by omega)
    have l2 := b20 0 (by omega)
    have m0 : IntKind.u64.wrap (mx (n - 1) 0) = ((0 : Nat) : Int) := by
      unfold mx; rw [wrapu _ (by split <;> omega) (by split <;> omega)]; split <;> omega
    have m1 : IntKind.u64.wrap (1 - n) = (q : Int) := by rw [wrapu _ (by omega) (by omega), hq]
    rw [if_pos hneg, hq, Int.toNat_natCast]
    refine ⟨K1 + K2 + 1, fun k hk => ?_⟩
    obtain ⟨j, rfl⟩ : ∃ j, k = j + 1 := ⟨k - 1, by omega⟩
    dsimp only
    rw [spec_Laid.j2, e1, m0]
    have g0 := d0 j (by omega)
    have g1 := d1 j (by omega)
    dsimp only at g0 g1
    rw [g0]
    rw [Option.bind_some, if_pos (by rw [strOfNums_size]; omega), if_pos hneg, e2, m1, g1]
    rw [Option.bind_some, if_pos (by rw [strOfNums_size]; omega), c1, str_append]
    by_cases hk1 : ds.length = 1
    · rw [if_pos (by omega), if_pos hk1, if_pos (by rw [l0, strOfNums_size, List.length_append]; simp only [List.length_cons, List.length_nil]; omega), str_append]
    · rw [if_neg (by omega), if_neg hk1, if_pos (by decide), if_pos (by rw [l0]; omega), x1, x2, c3]
      rw [if_pos (by rw [strOfNums_size]; omega), str_append, if_pos (by rw [strOfNums_size, strOfNums_size, List.length_append]; simp only [List.length_cons, List.length_nil]; omega), str_append, if_pos (by rw [strOfNums_size, strOfNums_size]; simp only [List.length_append, List.length_cons, List.length_nil]; omega), str_append]
  · obtain ⟨q, hq⟩ : ∃ q : Nat, n - 1 = (q : Int) := ⟨(n - 1).toNat, by omega⟩
    obtain ⟨K2, d1⟩ := decimals_ev q (by omega)
    have l1 := b20 q (by omega)
    have m0 : IntKind.u64.wrap (mx (n - 1) 0) = (q : Int) := by
      unfold mx; rw [wrapu _ (by split <;> omega) (by split <;> omega)]; split <;> omega
    rw [if_neg hneg, hq, Int.toNat_natCast]
    refine ⟨K2 + 1, fun k hk => ?_⟩
    obtain ⟨j, rfl⟩ : ∃ j, k = j + 1 := ⟨k - 1, by omega⟩
    dsimp only
    rw [spec_Laid.j2, e1, m0]
    have g1 := d1 j (by omega)
    dsimp only at g1
    rw [g1]
    rw [Option.bind_some, if_pos (by rw [strOfNums_size]; omega), if_neg hneg, c2, str_append]
    by_cases hk1 : ds.length = 1
    · rw [if_pos (by omega), if_pos hk1, if_pos (by rw [l0, strOfNums_size, List.length_append]; simp only [List.length_cons, List.length_nil]; omega), str_append]
    · rw [if_neg (by omega), if_neg hk1, if_pos (by decide), if_pos (by rw [l0]; omega), x1, x2, c3]
      rw [if_pos (by rw [strOfNums_size]; omega), str_append, if_pos (by rw [strOfNums_size, strOfNums_size, List.length_append]; simp only [List.length_cons, List.length_nil]; omega), str_append, if_pos (by rw [strOfNums_size, strOfNums_size]; simp only [List.length_append, List.length_cons, List.length_nil]; omega), str_append]

theorem Laid_ev (ds : List Int) (n : Int) (h1 : 1 ≤ ds.length) (h2 : ds.length ≤ 100) (hn0 : -1000 ≤ n) (hn1 : n ≤ 1000) :
    Ev (fun k => spec_Laid.f k (strOfNums ds) n) (strOfNums (laidL ds n)) := by
  have l0 : (strOfNums ds).size = ds.length := strOfNums_size ds
  have c3 : (⟨#[46]⟩ : ByteArray) = strOfNums [46] := rfl
  have c4 : (⟨#[48, 46]⟩ : ByteArray) = strOfNums [48, 46] := rfl
  have hf : ∀ k, spec_Laid.f k (strOfNums ds) n = spec_Laid.j0 k (strOfNums ds) n (ds.length : Int) (decide ((ds.length : Int) ≤ n ∧ n ≤ 21)) := by
    intro k
    rw [spec_Laid.f, l0]
    by_cases a : (ds.length : Int) ≤ n
    · rw [if_pos a]; simp [a]
    · rw [if_neg a]; simp [a]
  refine Ev.congr ?_ hf
  unfold laidL
  by_cases a1 : (ds.length : Int) ≤ n ∧ n ≤ 21
  · rw [if_pos a1, decide_eq_true a1]
    obtain ⟨q, hq⟩ : ∃ q : Nat, n - (ds.length : Int) = (q : Int) := ⟨(n - (ds.length : Int)).toNat, by omega⟩
    obtain ⟨K, z⟩ := zeros_ev q (by omega)
    rw [hq, Int.toNat_natCast]
    refine ⟨K + 1, fun k hk => ?_⟩
    obtain ⟨j, rfl⟩ : ∃ j, k = j + 1 := ⟨k - 1, by omega⟩
    have g := z j (by omega)
    dsimp only at g ⊢
    rw [spec_Laid.j0, if_pos rfl, w64 _ (by omega) (by omega), hq, g]
    rw [Option.bind_some, if_pos (by rw [l0, strOfNums_size, List.length_replicate]; omega), str_append]
  · rw [if_neg a1, decide_eq_false a1]
    refine Ev.succ (g := fun k => spec_Laid.j1 k (strOfNums ds) n (ds.length : Int) (decide (0 < n ∧ n ≤ 21))) (fun k => ?_) ?_
    · rw [spec_Laid.j0, if_neg (by decide)]
      by_cases a : n > 0
      · rw [if_pos a]; simp [a]
      · rw [if_neg a]
        have : decide (0 < n ∧ n ≤ 21) = false := by rw [decide_eq_false_iff_not]; omega
        rw [this]
    · by_cases a2 : 0 < n ∧ n ≤ 21
      · rw [if_pos a2, decide_eq_true a2]
        have hlt : n < (ds.length : Int) := by omega
        obtain ⟨q, rfl⟩ : ∃ q : Nat, n = (q : Int) := ⟨n.toNat, by omega⟩
        refine Ev.succ (g := fun _ => some (strOfNums (ds.take q ++ [46] ++ ds.drop q))) (fun k => ?_) (Ev.pure _)
        have x1 : (strOfNums ds).extract 0 q = strOfNums (ds.take q) := by rw [str_extract, List.drop_zero, Nat.sub_zero]
        have x2 : (strOfNums ds).extract q (strOfNums ds).size = strOfNums (ds.drop q) := by
          rw [str_extract, strOfNums_size, List.take_of_length_le (by rw [List.length_drop]; omega)]
        have t1 : (ds.take q).length ≤ 100 := by rw [List.length_take]; omega
        have t2 : (ds.drop q).length ≤ 100 := by rw [List.length_drop]; omega
        rw [spec_Laid.j1, if_pos rfl, if_pos (by omega), if_pos (by rw [l0]; omega), Int.toNat_natCast, x1, x2, c3, if_pos (by rw [strOfNums_size]; omega), str_append, if_pos (by rw [strOfNums_size, strOfNums_size, List.length_append]; simp only [List.length_cons, List.length_nil]; omega), str_append]
      · rw [if_neg a2, decide_eq_false a2]
        by_cases a3 : -6 < n ∧ n ≤ 0
        · rw [if_pos a3]
          obtain ⟨q, hq⟩ : ∃ q : Nat, -n = (q : Int) := ⟨(-n).toNat, by omega⟩
          obtain ⟨K, z⟩ := zeros_ev q (by omega)
          rw [hq, Int.toNat_natCast]
          refine ⟨K + 1, fun k hk => ?_⟩
          obtain ⟨j, rfl⟩ : ∃ j, k = j + 1 := ⟨k - 1, by omega⟩
          have g := z j (by omega)
          dsimp only at g ⊢
          rw [spec_Laid.j1, if_neg (by decide), if_pos (by omega), if_pos (by omega), w64 _ (by omega) (by omega), hq, g]
          rw [Option.bind_some, if_pos (by rw [strOfNums_size, List.length_replicate]; omega), c4, str_append, if_pos (by rw [l0, strOfNums_size, List.length_append, List.length_replicate]; simp only [List.length_cons, List.length_nil]; omega), str_append]
        · rw [if_neg a3]
          refine Ev.succ (fun k => ?_) (laid_j2 ds n h1 h2 hn0 hn1)
          rw [spec_Laid.j1, if_neg (by decide)]
          by_cases a : n > -6
          · rw [if_pos a, if_neg (by omega)]
          · rw [if_neg a]

/-- the text of a number that is not 0 -/
theorem Text_ev (f code : Nat) (most place : Int) (ds : List Int) (h0 : 1 ≤ code) (hS : Ev (fun k => spec_Form_Shortest.f k (f : Int) most (code : Int)) (strOfNums ds, place))
    (h1 : 1 ≤ ds.length) (h2 : ds.length ≤ 100) (hn0 : -1000 ≤ place) (hn1 : place ≤ 1000) :
    Ev (fun k => spec_Form_Text.f k (f : Int) most (code : Int)) (strOfNums (laidL ds place)) := by
  refine Ev.congr (Ev.bind (h := fun k bt => (spec_Laid.f k bt.1 bt.2).bind fun t => some t) hS (Ev.bind (Laid_ev ds place h1 h2 hn0 hn1) (Ev.pure _))) (fun k => ?_)
  rw [spec_Form_Text.f, if_neg (by omega)]
theorem Text_zero (f : Nat) (most : Int) : Ev (fun k => spec_Form_Text.f k (f : Int) most ((0 : Nat) : Int)) (strOfNums [48]) := by
  refine Ev.congr (Ev.pure _) (fun k => ?_)
  rw [spec_Form_Text.f, if_pos (by omega)]
  rfl
theorem floatText8_ev (neg : Bool) (f code : Nat) (most : Int) (l : List Int) (hl : l.length ≤ 100000) (hT : Ev (fun k => spec_Form_Text.f k (f : Int) most (code : Int)) (strOfNums l)) :
    Ev (fun k => laws_floatText8.f k neg (f : Int) most (code : Int)) (strOfNums ((if neg = true then [45] else []) ++ l)) := by
  cases neg with
  | true =>
    refine Ev.congr (Ev.bind (h := fun k t => if 1 + t.size ≤ 9223372036854775807 then some ((⟨#[45]⟩ : ByteArray) ++ t) else none) hT ?_) (fun k => ?_)
    · refine Ev.congr (Ev.pure _) (fun k => ?_)
      rw [if_pos (by rw [strOfNums_size]; omega), show (⟨#[45]⟩ : ByteArray) = strOfNums [45] from rfl, str_append, if_pos rfl]
    · rw [laws_floatText8.f, if_pos rfl]
  | false =>
    rw [if_neg (by decide), List.nil_append]
    refine Ev.congr (Ev.bind (h := fun k t => some t) hT (Ev.pure _)) (fun k => ?_)
    rw [laws_floatText8.f, if_neg (by decide)]
end Go.Proofs.YtiopeaponffmdaaDoor.PAll
-- YtiopeaponffmdaaDoorFh
namespace Go.Proofs.YtiopeaponffmdaaDoor.PAll
open Go.RowKit Go.Proofs.YtiopeaponffmdaaDoorW.PrintWords Go.Proofs.YtiopeaponffmdaaDoorW.PrintLast Go.Proofs.YtiopeaponffmdaaDoorW.PrintMore
attribute [local go_sem] max2_int min2_int max_two min_two max_three min_three max_four min_four

set_option maxHeartbeats 3200000 in
set_option maxRecDepth 100000 in
theorem ftoa64Z (P0_ : Nat → Prop) (v0 : Value) (l0 : List Int) (R : List Int → Prop) (x : Nat) (sg : Bool) (w0 w : World) (hx : x < 18446744073709551616)
    (hB : Below w0.heap.size w0 w) (ho : RM 5 w w0.heap.size P0_ v0 l0)
    (hneg : ((x : Int) / 9223372036854775808 != 0) = sg) (hexp : bits .and .i64 ((x : Int) / 4503599627370496) 2047 = 0) (hman : bits .and .u64 (x : Int) 4503599627370495 = 0)
    (hF : ∃ K r, fmtF.f K l0 sg [] 0 0 (-1) = some r ∧ R r) :
    Calls Tryd.prog 51 #[v0, .float .f64 x, .int .u8 102, .int .i64 (-1)] w (FtPost w0 R) := by
  have f53 := run53
  have HF := Lib.hid hF; have HO := Lib.hid ho; have HB := Lib.hid hB
  clear hF ho hB
  go_enter Tryd.func51, Tryd.ntmps51
  go_wp2_with (fail)
  go_quiet (fail)
  go_wp2_with (fail)
  obtain ⟨K, r, hr, hR⟩ := HF.out
  have C := fmtF.calls K P0_ v0 l0 sg none 0 [] 0 0 (-1) true r w0 (w.drewN nq) (pw_below_drewN HB.out _) (RM_drewN HO.out _) (fun W_ _ => Kd.C_of_reads (enc := Value.int .u8) (d := (0 : Int)) (h1 := fun _ => rfl) ⟨rfl, by simp, fun h => absurd h (Nat.lt_irrefl 0)⟩) (by simp) hr
  have HR := Lib.hid hR
  clear hr hR
  rw [List.length_nil] at C
  refine C.mono ?_
  rintro e w' ⟨v, rfl, q1, q2, q3⟩
  clear C
  go_wp2
  go_ret
  exact ⟨v, r, rfl, HR.out, RM_mono q1 (fun _ _ => trivial), q2⟩

end Go.Proofs.YtiopeaponffmdaaDoor.PAll
-- YtiopeaponffmdaaDoorFi
namespace Go.Proofs.YtiopeaponffmdaaDoor.PAll
open Go.RowKit Go.Proofs.YtiopeaponffmdaaDoorW.PrintWords Go.Proofs.YtiopeaponffmdaaDoorW.PrintLast Go.Proofs.YtiopeaponffmdaaDoorW.PrintMore

theorem run13 (x : Nat) (w : World) : (callFunc 13 #[.float .f64 x]).run Tryd.prog w = .ok (.value (.int .u64 (x : Int))) w := by kernel_rfl
theorem run31 (x : Nat) (w : World) : (callFunc 31 #[.int .u64 (x : Int)]).run Tryd.prog w = .ok (.value (.float .f64 x)) w := by kernel_rfl
/-- math.Abs, by its bits -/
theorem abs_calls (x y : Nat) (w : World) (h : bits .andNot .u64 (x : Int) 9223372036854775808 = (y : Int)) :
    Calls Tryd.prog 21 #[.float .f64 x] w fun e w' => e = .returned (.float .f64 y) ∧ w = w' := by
  have r13 := run13
  have r31 := run31
  go_enter Tryd.func21, Tryd.ntmps21
  go_wp2_with (fail)
  go_ret
  exact ⟨rfl, rfl⟩


set_option maxHeartbeats 1600000 in
theorem af49 (v0 : Value) (x : Nat) (fc : Int) (w0 w : World) (R : List Int → Prop) (h : Calls Tryd.prog 51 #[v0, .float .f64 x, .int .u8 fc, .int .i64 (-1)] w (FtPost w0 R)) :
    Calls Tryd.prog 49 #[v0, .float .f64 x, .int .u8 fc, .int .i64 (-1), .int .i64 64] w (FtPost w0 R) := by
  have H := Lib.hid h
  clear h
  go_enter Tryd.func49, Tryd.ntmps49
  go_wp2_with (fail)
  refine H.out.mono ?_
  rintro e w' ⟨v, r, rfl, q1, q2, q3⟩
  go_wp2_with (fail)
  go_ret
  exact ⟨v, r, rfl, q1, q2, q3⟩

set_option maxHeartbeats 1600000 in
theorem af42 (v0 : Value) (x : Nat) (fc : Int) (w0 w : World) (R : List Int → Prop) (h : Calls Tryd.prog 51 #[v0, .float .f64 x, .int .u8 fc, .int .i64 (-1)] w (FtPost w0 R)) :
    Calls Tryd.prog 42 #[v0, .float .f64 x, .int .u8 fc, .int .i64 (-1), .int .i64 64] w (FtPost w0 R) := by
  have H := Lib.hid (af49 v0 x fc w0 w R h)
  clear h
  go_enter Tryd.func42, Tryd.ntmps42
  go_wp2_with (fail)
  refine H.out.mono ?_
  rintro e w' ⟨v, r, rfl, q1, q2, q3⟩
  go_wp2_with (fail)
  go_ret
  exact ⟨v, r, rfl, q1, q2, q3⟩

/-- 'e-09' made 'e-9' -/
def fixE (r : List Int) : List Int :=
  match r.reverse with
  | d :: c :: b :: a :: q => if a = 101 ∧ b = 45 ∧ c = 48 then (d :: b :: a :: q).reverse else r
  | _ => r
theorem fixE_app (q : List Int) (a b c d : Int) : fixE (q ++ [a, b, c, d]) = if a = 101 ∧ b = 45 ∧ c = 48 then q ++ [a, b, d] else q ++ [a, b, c, d] := by
  simp [fixE]

/-- the last four bytes of a row of the call's own -/
theorem last_four {W : World} {base : Nat} {v : Value} {q : List Int} {a b c d : Int} (h : RM 5 W base (fun _ => True) v (q ++ [a, b, c, d])) :
    ∃ g cap, v = .slice (some ⟨g, 0, none⟩) (q.length + 4) cap ∧ q.length + 4 ≤ cap ∧ base ≤ g ∧ cap ≤ 9223372036854775807 ∧ W.frozen? ⟨g, q.length + 2, none⟩ = false ∧ W.cell? ⟨g, q.length, none⟩ = some (.int .u8 a) ∧ W.cell? ⟨g, q.length + 1, none⟩ = some (.int .u8 b) ∧ W.cell? ⟨g, q.length + 2, none⟩ = some (.int .u8 c) ∧ W.cell? ⟨g, q.length + 3, none⟩ = some (.int .u8 d) := by
  have hl : (q ++ [a, b, c, d]).length = q.length + 4 := by simp
  rcases h.2.2 with ⟨h1, h2⟩ | ⟨g, cap, cur, fz, h1, h2, h3, _, h4, h5, _⟩
  · simp at h2
  · rw [hl] at h1 h4
    unfold maxLen at h5
    subst h1
    have k := fun (j : Nat) (hj : j < 4) => RM_cell h (q.length + j) (by rw [hl]; omega)
    have r0 : (q ++ [a, b, c, d]).getD (q.length + 0) 0 = a := by simp
    have r1 : (q ++ [a, b, c, d]).getD (q.length + 1) 0 = b := by
      rw [List.getD_eq_getElem?_getD, List.getElem?_append_right (by omega)]; simp
    have r2 : (q ++ [a, b, c, d]).getD (q.length + 2) 0 = c := by
      rw [List.getD_eq_getElem?_getD, List.getElem?_append_right (by omega)]; simp
    have r3 : (q ++ [a, b, c, d]).getD (q.length + 3) 0 = d := by
      rw [List.getD_eq_getElem?_getD, List.getElem?_append_right (by omega)]; simp
    exact ⟨g, cap, rfl, h4, h2, h5, (k 2 (by omega)).2, by have := (k 0 (by omega)).1; rwa [r0] at this, by have := (k 1 (by omega)).1; rwa [r1] at this, by have := (k 2 (by omega)).1; rwa [r2] at this, by have := (k 3 (by omega)).1; rwa [r3] at this⟩

set_option maxHeartbeats 1600000 in
set_option maxRecDepth 100000 in
theorem af33E1 (v0 : Value) (x y : Nat) (w0 w : World) (R : List Int → Prop) (hy : bits .andNot .u64 (x : Int) 9223372036854775808 = (y : Int))
    (t0 : FloatKind.f64.format.order y 0 = some .gt) (t1 : FloatKind.f64.format.order y 4517329193108106637 = some .lt)
    (h : Calls Tryd.prog 51 #[v0, .float .f64 x, .int .u8 101, .int .i64 (-1)] w (FtPost w0 R)) (hshape : ∀ r, R r → ∃ q a b c d, r = q ++ [a, b, c, d] ∧ q.length ≤ 140737488355328) :
    Calls Tryd.prog 33 #[v0, .float .f64 x, .int .i64 64] w (FtPost w0 (fun r => ∃ r', R r' ∧ r = fixE r')) := by
  have A := fun w => abs_calls x y w hy
  have HA := Lib.hid A
  have H := Lib.hid (af42 v0 x 101 w0 w R h)
  have HS := Lib.hid hshape
  clear A hy h hshape
  go_enter Tryd.func33, Tryd.ntmps33
  go_wp2_with (fail)
  refine (HA.out _).mono ?_
  rintro e w' ⟨rfl, rfl⟩
  go_wp2_with (fail)
  refine H.out.mono ?_
  rintro e w' ⟨v, r, rfl, q1, q2, q3⟩
  obtain ⟨q, a, b, c, d, rfl, lq⟩ := HS.out r q1
  have Q1 := Lib.hid q1
  have Q2 := Lib.hid q2
  have Q3 := Lib.hid q3
  obtain ⟨g, cap, rfl, l1, l2, l3, lf, c0, c1, c2, c3⟩ := last_four q2
  clear q1 q3 q2
  clear l3
  by_cases ha : a = 101
  · by_cases hb : b = 45
    · by_cases hc : c = 48
      · subst ha hb hc
        go_wp2_with (fail)
        go_ret
        have T := RM_take (m := q.length + 3) (RM_put Q2.out (q.length + 2) (by simp) d) (by simp)
        have e : ((q ++ [101, 45, 48, d]).set (q.length + 2) d).take (q.length + 3) = fixE (q ++ [101, 45, 48, d]) := by
          rw [fixE_app, if_pos ⟨rfl, rfl, rfl⟩, List.set_append_right _ _ (by omega), List.take_append, List.take_of_length_le (by omega)]
          simp
        refine ⟨_, _, rfl, ⟨_, Q1.out, rfl⟩, by rw [← e]; exact T, Q3.out.setCell (p := ⟨g, q.length + 2, none⟩) l2 _⟩
      · have tc : (c == 48) = false := by rw [beq_eq_false_iff_ne]; omega
        have HN := Lib.hid (show fixE (q ++ [a, b, c, d]) = q ++ [a, b, c, d] by rw [fixE_app, if_neg (by omega)])
        clear hc
        subst ha hb
        go_wp2_with (fail)
        go_ret
        exact ⟨_, _, rfl, ⟨_, Q1.out, rfl⟩, by rw [HN.out]; exact Q2.out, Q3.out⟩
    · have tb : (b == 45) = false := by rw [beq_eq_false_iff_ne]; omega
      have HN := Lib.hid (show fixE (q ++ [a, b, c, d]) = q ++ [a, b, c, d] by rw [fixE_app, if_neg (by omega)])
      clear hb
      subst ha
      go_wp2_with (fail)
      go_ret
      exact ⟨_, _, rfl, ⟨_, Q1.out, rfl⟩, by rw [HN.out]; exact Q2.out, Q3.out⟩
  · have ta : (a == 101) = false := by rw [beq_eq_false_iff_ne]; omega
    have HN := Lib.hid (show fixE (q ++ [a, b, c, d]) = q ++ [a, b, c, d] by rw [fixE_app, if_neg (by omega)])
    clear ha
    go_wp2_with (fail)
    go_ret
    exact ⟨_, _, rfl, ⟨_, Q1.out, rfl⟩, by rw [HN.out]; exact Q2.out, Q3.out⟩
set_option maxHeartbeats 1600000 in
set_option maxRecDepth 100000 in
theorem af33E2 (v0 : Value) (x y : Nat) (w0 w : World) (R : List Int → Prop) (hy : bits .andNot .u64 (x : Int) 9223372036854775808 = (y : Int))
    (t0 : FloatKind.f64.format.order y 0 = some .gt) (t1 : FloatKind.f64.format.order y 4517329193108106637 = some .gt) (t2 : FloatKind.f64.format.order y 4921056587992461136 = some .gt)
    (h : Calls Tryd.prog 51 #[v0, .float .f64 x, .int .u8 101, .int .i64 (-1)] w (FtPost w0 R)) (hshape : ∀ r, R r → ∃ q a b c d, r = q ++ [a, b, c, d] ∧ q.length ≤ 140737488355328) :
    Calls Tryd.prog 33 #[v0, .float .f64 x, .int .i64 64] w (FtPost w0 (fun r => ∃ r', R r' ∧ r = fixE r')) := by
  have A := fun w => abs_calls x y w hy
  have HA := Lib.hid A
  have H := Lib.hid (af42 v0 x 101 w0 w R h)
  have HS := Lib.hid hshape
  clear A hy h hshape
  go_enter Tryd.func33, Tryd.ntmps33
  go_wp2_with (fail)
  refine (HA.out _).mono ?_
  rintro e w' ⟨rfl, rfl⟩
  go_wp2_with (fail)
  refine H.out.mono ?_
  rintro e w' ⟨v, r, rfl, q1, q2, q3⟩
  obtain ⟨q, a, b, c, d, rfl, lq⟩ := HS.out r q1
  have Q1 := Lib.hid q1
  have Q2 := Lib.hid q2
  have Q3 := Lib.hid q3
  obtain ⟨g, cap, rfl, l1, l2, l3, lf, c0, c1, c2, c3⟩ := last_four q2
  clear q1 q3 q2
  clear l3
  by_cases ha : a = 101
  · by_cases hb : b = 45
    · by_cases hc : c = 48
      · subst ha hb hc
        go_wp2_with (fail)
        go_ret
        have T := RM_take (m := q.length + 3) (RM_put Q2.out (q.length + 2) (by simp) d) (by simp)
        have e : ((q ++ [101, 45, 48, d]).set (q.length + 2) d).take (q.length + 3) = fixE (q ++ [101, 45, 48, d]) := by
          rw [fixE_app, if_pos ⟨rfl, rfl, rfl⟩, List.set_append_right _ _ (by omega), List.take_append, List.take_of_length_le (by omega)]
          simp
        refine ⟨_, _, rfl, ⟨_, Q1.out, rfl⟩, by rw [← e]; exact T, Q3.out.setCell (p := ⟨g, q.length + 2, none⟩) l2 _⟩
      · have tc : (c == 48) = false := by rw [beq_eq_false_iff_ne]; omega
        have HN := Lib.hid (show fixE (q ++ [a, b, c, d]) = q ++ [a, b, c, d] by rw [fixE_app, if_neg (by omega)])
        clear hc
        subst ha hb
        go_wp2_with (fail)
        go_ret
        exact ⟨_, _, rfl, ⟨_, Q1.out, rfl⟩, by rw [HN.out]; exact Q2.out, Q3.out⟩
    · have tb : (b == 45) = false := by rw [beq_eq_false_iff_ne]; omega
      have HN := Lib.hid (show fixE (q ++ [a, b, c, d]) = q ++ [a, b, c, d] by rw [fixE_app, if_neg (by omega)])
      clear hb
      subst ha
      go_wp2_with (fail)
      go_ret
      exact ⟨_, _, rfl, ⟨_, Q1.out, rfl⟩, by rw [HN.out]; exact Q2.out, Q3.out⟩
  · have ta : (a == 101) = false := by rw [beq_eq_false_iff_ne]; omega
    have HN := Lib.hid (show fixE (q ++ [a, b, c, d]) = q ++ [a, b, c, d] by rw [fixE_app, if_neg (by omega)])
    clear ha
    go_wp2_with (fail)
    go_ret
    exact ⟨_, _, rfl, ⟨_, Q1.out, rfl⟩, by rw [HN.out]; exact Q2.out, Q3.out⟩
set_option maxHeartbeats 1600000 in
set_option maxRecDepth 100000 in
theorem af33E3 (v0 : Value) (x y : Nat) (w0 w : World) (R : List Int → Prop) (hy : bits .andNot .u64 (x : Int) 9223372036854775808 = (y : Int))
    (t0 : FloatKind.f64.format.order y 0 = some .gt) (t1 : FloatKind.f64.format.order y 4517329193108106637 = some .gt) (t2 : FloatKind.f64.format.order y 4921056587992461136 = some .eq)
    (h : Calls Tryd.prog 51 #[v0, .float .f64 x, .int .u8 101, .int .i64 (-1)] w (FtPost w0 R)) (hshape : ∀ r, R r → ∃ q a b c d, r = q ++ [a, b, c, d] ∧ q.length ≤ 140737488355328) :
    Calls Tryd.prog 33 #[v0, .float .f64 x, .int .i64 64] w (FtPost w0 (fun r => ∃ r', R r' ∧ r = fixE r')) := by
  have A := fun w => abs_calls x y w hy
  have HA := Lib.hid A
  have H := Lib.hid (af42 v0 x 101 w0 w R h)
  have HS := Lib.hid hshape
  clear A hy h hshape
  go_enter Tryd.func33, Tryd.ntmps33
  go_wp2_with (fail)
  refine (HA.out _).mono ?_
  rintro e w' ⟨rfl, rfl⟩
  go_wp2_with (fail)
  refine H.out.mono ?_
  rintro e w' ⟨v, r, rfl, q1, q2, q3⟩
  obtain ⟨q, a, b, c, d, rfl, lq⟩ := HS.out r q1
  have Q1 := Lib.hid q1
  have Q2 := Lib.hid q2
  have Q3 := Lib.hid q3
  obtain ⟨g, cap, rfl, l1, l2, l3, lf, c0, c1, c2, c3⟩ := last_four q2
  clear q1 q3 q2
  clear l3
  by_cases ha : a = 101
  · by_cases hb : b = 45
    · by_cases hc : c = 48
      · subst ha hb hc
        go_wp2_with (fail)
        go_ret
        have T := RM_take (m := q.length + 3) (RM_put Q2.out (q.length + 2) (by simp) d) (by simp)
        have e : ((q ++ [101, 45, 48, d]).set (q.length + 2) d).take (q.length + 3) = fixE (q ++ [101, 45, 48, d]) := by
          rw [fixE_app, if_pos ⟨rfl, rfl, rfl⟩, List.set_append_right _ _ (by omega), List.take_append, List.take_of_length_le (by omega)]
          simp
        refine ⟨_, _, rfl, ⟨_, Q1.out, rfl⟩, by rw [← e]; exact T, Q3.out.setCell (p := ⟨g, q.length + 2, none⟩) l2 _⟩
      · have tc : (c == 48) = false := by rw [beq_eq_false_iff_ne]; omega
        have HN := Lib.hid (show fixE (q ++ [a, b, c, d]) = q ++ [a, b, c, d] by rw [fixE_app, if_neg (by omega)])
        clear hc
        subst ha hb
        go_wp2_with (fail)
        go_ret
        exact ⟨_, _, rfl, ⟨_, Q1.out, rfl⟩, by rw [HN.out]; exact Q2.out, Q3.out⟩
    · have tb : (b == 45) = false := by rw [beq_eq_false_iff_ne]; omega
      have HN := Lib.hid (show fixE (q ++ [a, b, c, d]) = q ++ [a, b, c, d] by rw [fixE_app, if_neg (by omega)])
      clear hb
      subst ha
      go_wp2_with (fail)
      go_ret
      exact ⟨_, _, rfl, ⟨_, Q1.out, rfl⟩, by rw [HN.out]; exact Q2.out, Q3.out⟩
  · have ta : (a == 101) = false := by rw [beq_eq_false_iff_ne]; omega
    have HN := Lib.hid (show fixE (q ++ [a, b, c, d]) = q ++ [a, b, c, d] by rw [fixE_app, if_neg (by omega)])
    clear ha
    go_wp2_with (fail)
    go_ret
    exact ⟨_, _, rfl, ⟨_, Q1.out, rfl⟩, by rw [HN.out]; exact Q2.out, Q3.out⟩

set_option maxHeartbeats 1600000 in
set_option maxRecDepth 100000 in
theorem af33F1 (v0 : Value) (x y : Nat) (w0 w : World) (R : List Int → Prop) (hy : bits .andNot .u64 (x : Int) 9223372036854775808 = (y : Int))
    (t0 : FloatKind.f64.format.order y 0 = some .gt) (t1 : FloatKind.f64.format.order y 4517329193108106637 = some .gt) (t2 : FloatKind.f64.format.order y 4921056587992461136 = some .lt)
    (h : Calls Tryd.prog 51 #[v0, .float .f64 x, .int .u8 102, .int .i64 (-1)] w (FtPost w0 R)) :
    Calls Tryd.prog 33 #[v0, .float .f64 x, .int .i64 64] w (FtPost w0 R) := by
  have A := fun w => abs_calls x y w hy
  have HA := Lib.hid A
  have H := Lib.hid (af42 v0 x 102 w0 w R h)
  clear A hy h
  go_enter Tryd.func33, Tryd.ntmps33
  go_wp2_with (fail)
  refine (HA.out _).mono ?_
  rintro e w' ⟨rfl, rfl⟩
  go_wp2_with (fail)
  refine H.out.mono ?_
  rintro e w' ⟨v, r, rfl, q1, q2, q3⟩
  have Q1 := Lib.hid q1
  have Q2 := Lib.hid q2
  have Q3 := Lib.hid q3
  clear q1 q2 q3
  go_wp2_with (fail)
  go_ret
  exact ⟨v, r, rfl, Q1.out, Q2.out, Q3.out⟩

set_option maxHeartbeats 1600000 in
set_option maxRecDepth 100000 in
theorem af33F2 (v0 : Value) (x y : Nat) (w0 w : World) (R : List Int → Prop) (hy : bits .andNot .u64 (x : Int) 9223372036854775808 = (y : Int))
    (t0 : FloatKind.f64.format.order y 0 = some .gt) (t1 : FloatKind.f64.format.order y 4517329193108106637 = some .eq) (t2 : FloatKind.f64.format.order y 4921056587992461136 = some .lt)
    (h : Calls Tryd.prog 51 #[v0, .float .f64 x, .int .u8 102, .int .i64 (-1)] w (FtPost w0 R)) :
    Calls Tryd.prog 33 #[v0, .float .f64 x, .int .i64 64] w (FtPost w0 R) := by
  have A := fun w => abs_calls x y w hy
  have HA := Lib.hid A
  have H := Lib.hid (af42 v0 x 102 w0 w R h)
  clear A hy h
  go_enter Tryd.func33, Tryd.ntmps33
  go_wp2_with (fail)
  refine (HA.out _).mono ?_
  rintro e w' ⟨rfl, rfl⟩
  go_wp2_with (fail)
  refine H.out.mono ?_
  rintro e w' ⟨v, r, rfl, q1, q2, q3⟩
  have Q1 := Lib.hid q1
  have Q2 := Lib.hid q2
  have Q3 := Lib.hid q3
  clear q1 q2 q3
  go_wp2_with (fail)
  go_ret
  exact ⟨v, r, rfl, Q1.out, Q2.out, Q3.out⟩

set_option maxHeartbeats 1600000 in
set_option maxRecDepth 100000 in
theorem af33Z (v0 : Value) (x y : Nat) (w0 w : World) (R : List Int → Prop) (hy : bits .andNot .u64 (x : Int) 9223372036854775808 = (y : Int))
    (t0 : FloatKind.f64.format.order y 0 = some .eq)
    (h : Calls Tryd.prog 51 #[v0, .float .f64 x, .int .u8 102, .int .i64 (-1)] w (FtPost w0 R)) :
    Calls Tryd.prog 33 #[v0, .float .f64 x, .int .i64 64] w (FtPost w0 R) := by
  have A := fun w => abs_calls x y w hy
  have HA := Lib.hid A
  have H := Lib.hid (af42 v0 x 102 w0 w R h)
  clear A hy h
  go_enter Tryd.func33, Tryd.ntmps33
  go_wp2_with (fail)
  refine (HA.out _).mono ?_
  rintro e w' ⟨rfl, rfl⟩
  go_wp2_with (fail)
  refine H.out.mono ?_
  rintro e w' ⟨v, r, rfl, q1, q2, q3⟩
  have Q1 := Lib.hid q1
  have Q2 := Lib.hid q2
  have Q3 := Lib.hid q3
  clear q1 q2 q3
  go_wp2_with (fail)
  go_ret
  exact ⟨v, r, rfl, Q1.out, Q2.out, Q3.out⟩

theorem af25 (v0 : Value) (x : Nat) (w0 w : World) (R : List Int → Prop) (h : Calls Tryd.prog 33 #[v0, .float .f64 x, .int .i64 64] w (FtPost w0 R)) :
    Calls Tryd.prog 25 #[v0, .float .f64 x, .int .i64 64] w (FtPost w0 R) := by
  have H := Lib.hid h
  clear h
  go_enter Tryd.func25, Tryd.ntmps25
  go_wp2_with (fail)
  refine H.out.mono ?_
  rintro e w' ⟨v, r, rfl, q1, q2, q3⟩
  go_wp2_with (fail)
  go_ret
  exact ⟨v, r, rfl, q1, q2, q3⟩

end Go.Proofs.YtiopeaponffmdaaDoor.PAll
-- YtiopeaponffmdaaDoorNg
namespace Go.Proofs.YtiopeaponffmdaaDoor.PAll
open Go.RowKit Go.Proofs.YtiopeaponffmdaaDoorW.PrintWords Go.Proofs.YtiopeaponffmdaaDoorW.PrintLast Go.Proofs.YtiopeaponffmdaaDoorW.PrintMore

theorem drop_rd (y : List Int) (i : Nat) (h : i < y.length) : y.drop i = rd y (i : Int) :: y.drop (i + 1) := by
  rw [List.drop_eq_getElem_cons h]
  congr 1
  simp [rd, List.getD, List.getElem?_eq_getElem h]

theorem ef_l5 (x0 : List Int) : Ev (fun k => strconv_fmtEFG.l5 k x0 0 0) x0 := by
  refine Ev.succ (g := fun _ => some x0) (fun k => ?_) (Ev.pure _)
  rw [strconv_fmtEFG.l5, if_neg (by omega)]

theorem ef_l4 (x2 : List Int) (b n : Nat) (hb : b + n ≤ x2.length) (hn : x2.length ≤ 100000) : ∀ (m i : Nat) (x0 : List Int), i + m = n → x0.length + m < 100000000000 →
    Ev (fun k => strconv_fmtEFG.l4 k x0 x2 (b : Int) 0 (n : Int) (i : Int)) (x0 ++ (x2.drop (b + i)).take m) := by
  intro m
  induction m with
  | zero =>
    intro i x0 hi hl
    rw [List.take_zero, List.append_nil]
    refine Ev.succ (fun k => ?_) (ef_l5 x0)
    rw [strconv_fmtEFG.l4, if_neg (by omega)]
  | succ m ih =>
    intro i x0 hi hl
    have f := ih (i + 1) (x0 ++ [rd x2 ((b + i : Nat) : Int)]) (by omega) (by rw [List.length_append]; simp only [List.length_cons, List.length_nil]; omega)
    have e : x0 ++ (x2.drop (b + i)).take (m + 1) = (x0 ++ [rd x2 ((b + i : Nat) : Int)]) ++ (x2.drop (b + (i + 1))).take m := by
      rw [drop_rd x2 (b + i) (by omega), List.take_succ_cons, List.append_cons]
      rfl
    rw [e]
    refine Ev.succ (fun k => ?_) f
    have w1 : wrap64 ((b : Int) + (i : Int)) = ((b + i : Nat) : Int) := by rw [w64 _ (by omega) (by omega)]; omega
    have w2 : wrap64 ((i : Int) + 1) = ((i + 1 : Nat) : Int) := by rw [w64 _ (by omega) (by omega)]; omega
    rw [strconv_fmtEFG.l4, if_pos (by omega), w1, if_pos (by omega), if_pos (by omega), if_pos (by omega), w2]

theorem ef_l3 (x2 : List Int) (b c n : Nat) (r : List Int) (hn : n ≤ 100000) : ∀ (m i : Nat) (x0 : List Int), i + m = n → x0.length + m < 100000000000 →
    Ev (fun k => strconv_fmtEFG.l4 k (x0 ++ List.replicate m 48) x2 (b : Int) 0 (c : Int) 0) r → Ev (fun k => strconv_fmtEFG.l3 k x0 x2 (b : Int) (c : Int) 0 (n : Int) (i : Int)) r := by
  intro m
  induction m with
  | zero =>
    intro i x0 hi hl h
    rw [List.replicate_zero, List.append_nil] at h
    refine Ev.succ (fun k => ?_) h
    rw [strconv_fmtEFG.l3, if_neg (by omega)]
  | succ m ih =>
    intro i x0 hi hl h
    rw [List.replicate_succ, List.append_cons] at h
    refine Ev.succ (fun k => ?_) (ih (i + 1) (x0 ++ [48]) (by omega) (by rw [List.length_append]; simp only [List.length_cons, List.length_nil]; omega) h)
    have w2 : wrap64 ((i : Int) + 1) = ((i + 1 : Nat) : Int) := by rw [w64 _ (by omega) (by omega)]; omega
    rw [strconv_fmtEFG.l3, if_pos (by omega), if_pos (by omega), w2]

theorem ef_l2 (x2 : List Int) (x3 x4 x5 : Int) (n : Nat) (r : List Int) (hn : n ≤ 100000) : ∀ (m i : Nat) (x0 : List Int), i + m = n → x0.length + m < 100000000000 →
    Ev (fun k => strconv_fmtEFG.j17 k (x0 ++ List.replicate m 48) x2 x3 x4 x5) r → Ev (fun k => strconv_fmtEFG.l2 k x0 x2 x3 x4 x5 (n : Int) (i : Int)) r := by
  intro m
  induction m with
  | zero =>
    intro i x0 hi hl h
    rw [List.replicate_zero, List.append_nil] at h
    refine Ev.succ (fun k => ?_) h
    rw [strconv_fmtEFG.l2, if_neg (by omega)]
  | succ m ih =>
    intro i x0 hi hl h
    rw [List.replicate_succ, List.append_cons] at h
    refine Ev.succ (fun k => ?_) (ih (i + 1) (x0 ++ [48]) (by omega) (by rw [List.length_append]; simp only [List.length_cons, List.length_nil]; omega) h)
    have w2 : wrap64 ((i : Int) + 1) = ((i + 1 : Nat) : Int) := by rw [w64 _ (by omega) (by omega)]; omega
    rw [strconv_fmtEFG.l2, if_pos (by omega), if_pos (by omega), w2]

theorem ef_l1 (x2 y : List Int) (x3 x4 x5 x23 : Int) (r : List Int) (hn : y.length ≤ 100000) : ∀ (m i : Nat) (x0 : List Int), i + m = y.length → x0.length + m < 100000000000 →
    Ev (fun k => strconv_fmtEFG.l2 k (x0 ++ y.drop i) x2 x3 x4 x5 (wrap64 (x3 - x23)) 0) r → Ev (fun k => strconv_fmtEFG.l1 k x0 x2 x3 x4 x5 x23 y (y.length : Int) (i : Int)) r := by
  intro m
  induction m with
  | zero =>
    intro i x0 hi hl h
    rw [List.drop_eq_nil_of_le (by omega), List.append_nil] at h
    refine Ev.succ (fun k => ?_) h
    rw [strconv_fmtEFG.l1, if_neg (by omega)]
  | succ m ih =>
    intro i x0 hi hl h
    rw [drop_rd y i (by omega), List.append_cons] at h
    refine Ev.succ (fun k => ?_) (ih (i + 1) (x0 ++ [rd y (i : Int)]) (by omega) (by rw [List.length_append]; simp only [List.length_cons, List.length_nil]; omega) h)
    have w2 : wrap64 ((i : Int) + 1) = ((i + 1 : Nat) : Int) := by rw [w64 _ (by omega) (by omega)]; omega
    rw [strconv_fmtEFG.l1, if_pos (by omega), if_pos (by omega), if_pos (by omega), if_pos (by omega), w2]

/-- behind the point -/
theorem ef_j17 (x0 x2 : List Int) (dp : Int) (nd : Nat) (hl : x0.length < 50000000000) (h2 : nd ≤ x2.length) (h3 : x2.length ≤ 100) (h4 : -1000 ≤ dp) (h5 : dp < nd) :
    Ev (fun k => strconv_fmtEFG.j17 k x0 x2 dp (nd : Int) ((nd : Int) - dp)) (x0 ++ [46] ++ List.replicate (-dp).toNat 48 ++ (x2.drop dp.toNat).take (nd - dp.toNat)) := by
  obtain ⟨z, hz⟩ : ∃ z, z = (-dp).toNat := ⟨_, rfl⟩
  obtain ⟨b, hb⟩ : ∃ b, b = dp.toNat := ⟨_, rfl⟩
  rw [← hz, ← hb]
  have a1 : mx 0 (wrap64 (-dp)) = (z : Int) := by rw [w64 _ (by omega) (by omega)]; unfold mx; split <;> omega
  have a2 : mn ((nd : Int) - dp) (z : Int) = (z : Int) := by unfold mn; split <;> omega
  have a3 : wrap64 (dp + (z : Int)) = (b : Int) := by rw [w64 _ (by omega) (by omega)]; omega
  have a4 : wrap64 ((nd : Int) - dp - (z : Int)) = ((nd - b : Nat) : Int) := by rw [w64 _ (by omega) (by omega)]; omega
  have a5 : mx 0 (wrap64 ((nd : Int) - (b : Int))) = ((nd - b : Nat) : Int) := by rw [w64 _ (by omega) (by omega)]; unfold mx; split <;> omega
  have a6 : mn ((nd - b : Nat) : Int) ((nd - b : Nat) : Int) = ((nd - b : Nat) : Int) := by unfold mn; split <;> rfl
  have a7 : mx 0 (wrap64 (((nd - b : Nat) : Int) - ((nd - b : Nat) : Int))) = 0 := by rw [w64 _ (by omega) (by omega)]; unfold mx; split <;> omega
  have f4 := ef_l4 x2 b (nd - b) (by omega) (by omega) (nd - b) 0 (x0 ++ [46] ++ List.replicate z 48) (by omega) (by simp only [List.length_append, List.length_cons, List.length_nil, List.length_replicate]; omega)
  have f3 := ef_l3 x2 b (nd - b) z _ (by omega) z 0 (x0 ++ [46]) (by omega) (by simp only [List.length_append, List.length_cons, List.length_nil]; omega) f4
  rw [Nat.add_zero] at f3
  refine Ev.succ (fun k => ?_) f3
  rw [strconv_fmtEFG.j17, if_pos (by omega), if_pos (by omega), a1, a2, a3, a4, a5, a6, a7]
  rfl

theorem fmtF_j14 (x0 buf : List Int) (nd : Nat) (dp : Int) (h1 : 1 ≤ nd) (h2 : nd ≤ buf.length) (h3 : buf.length ≤ 100) (hl : x0.length ≤ 40000000000) (hd0 : -6 < dp) (hd1 : dp ≤ 21) :
    Ev (fun k => strconv_fmtEFG.j14 k x0 buf dp (nd : Int) (mx ((nd : Int) - dp) 0)) (x0 ++ laidL (buf.take nd) dp) := by
  have hlen : (buf.take nd).length = nd := by rw [List.length_take]; omega
  unfold laidL
  rw [hlen]
  by_cases hp : dp > 0
  · obtain ⟨d, rfl⟩ : ∃ d : Nat, dp = (d : Int) := ⟨dp.toNat, by omega⟩
    by_cases hle : nd ≤ d
    · rw [if_pos ⟨by omega, hd1⟩]
      have a1 : mn (nd : Int) (d : Int) = (nd : Int) := by unfold mn; split <;> omega
      have a2 : mx ((nd : Int) - (d : Int)) 0 = 0 := by unfold mx; split <;> omega
      have a3 : ((d : Int) - (nd : Int)).toNat = d - nd := by omega
      rw [a2, a3]
      have f17 : Ev (fun k => strconv_fmtEFG.j17 k (x0 ++ (buf.take nd).drop 0 ++ List.replicate (d - nd) 48) buf (d : Int) (nd : Int) 0) (x0 ++ (buf.take nd ++ List.replicate (d - nd) 48)) := by
        refine Ev.succ (g := fun _ => some (x0 ++ (buf.take nd ++ List.replicate (d - nd) 48))) (fun k => ?_) (Ev.pure _)
        rw [strconv_fmtEFG.j17, if_neg (by omega), List.drop_zero, List.append_assoc]
      have f2 := ef_l2 buf (d : Int) (nd : Int) 0 (d - nd) _ (by omega) (d - nd) 0 (x0 ++ (buf.take nd).drop 0) (by omega) (by simp only [List.length_append, List.length_drop, hlen]; omega) f17
      have a4 : ((d - nd : Nat) : Int) = wrap64 ((d : Int) - (nd : Int)) := by rw [w64 _ (by omega) (by omega)]; omega
      rw [a4] at f2
      have f1 := ef_l1 buf (buf.take nd) (d : Int) (nd : Int) 0 (nd : Int) _ (by omega) nd 0 x0 (by omega) (by omega) f2
      refine Ev.succ (fun k => ?_) f1
      rw [strconv_fmtEFG.j14, if_pos hp, a1, if_pos (by omega), if_pos (by omega), Int.toNat_natCast, Option.bind_some]
      rfl
    · rw [if_neg (by omega), if_pos ⟨by omega, hd1⟩, Int.toNat_natCast]
      have a1 : mn (nd : Int) (d : Int) = (d : Int) := by unfold mn; split <;> omega
      have a2 : mx ((nd : Int) - (d : Int)) 0 = (nd : Int) - (d : Int) := by unfold mx; split <;> omega
      rw [a2]
      have hlen2 : (buf.take d).length = d := by rw [List.length_take]; omega
      have f17 := ef_j17 (x0 ++ buf.take d) buf (d : Int) nd (by rw [List.length_append]; omega) h2 h3 (by omega) (by omega)
      rw [show (-(d : Int)).toNat = 0 by omega, List.replicate_zero, List.append_nil, Int.toNat_natCast] at f17
      have e : x0 ++ ((buf.take nd).take d ++ [46] ++ (buf.take nd).drop d) = x0 ++ buf.take d ++ [46] ++ (buf.drop d).take (nd - d) := by
        rw [List.take_take, Nat.min_eq_left (by omega), List.drop_take]
        simp only [List.append_assoc]
      rw [e]
      have f2 := ef_l2 buf (d : Int) (nd : Int) ((nd : Int) - (d : Int)) 0 _ (by omega) 0 0 (x0 ++ (buf.take d).drop 0) (by omega) (by simp only [List.length_append, List.length_drop, hlen2]; omega) (by rw [List.replicate_zero, List.append_nil, List.drop_zero]; exact f17)
      have a4 : ((0 : Nat) : Int) = wrap64 ((d : Int) - (d : Int)) := by rw [w64 _ (by omega) (by omega)]; omega
      have f1 := ef_l1 buf (buf.take d) (d : Int) (nd : Int) ((nd : Int) - (d : Int)) (d : Int) _ (by omega) d 0 x0 (by omega) (by omega) (by rw [← a4]; exact f2)
      refine Ev.succ (fun k => ?_) f1
      rw [strconv_fmtEFG.j14, if_pos hp, a1, if_pos (by omega), if_pos (by omega), Int.toNat_natCast, Option.bind_some]
      rfl
  · rw [if_neg (by omega), if_neg (by omega), if_pos ⟨hd0, by omega⟩]
    have a2 : mx ((nd : Int) - dp) 0 = (nd : Int) - dp := by unfold mx; split <;> omega
    rw [a2]
    have f17 := ef_j17 (x0 ++ [48]) buf dp nd (by rw [List.length_append]; simp only [List.length_cons, List.length_nil]; omega) h2 h3 (by omega) (by omega)
    have e0 : dp.toNat = 0 := by omega
    rw [e0, List.drop_zero, Nat.sub_zero] at f17
    have e : x0 ++ ([48, 46] ++ List.replicate (-dp).toNat 48 ++ buf.take nd) = x0 ++ [48] ++ [46] ++ List.replicate (-dp).toNat 48 ++ buf.take nd := by
      simp only [List.append_assoc, List.cons_append, List.nil_append]
    rw [e]
    refine Ev.succ (fun k => ?_) f17
    rw [strconv_fmtEFG.j14, if_neg hp, if_pos (by omega)]

theorem fmtF_ev (l0 buf : List Int) (neg : Bool) (nd : Nat) (dp : Int) (h1 : 1 ≤ nd) (h2 : nd ≤ buf.length) (h3 : buf.length ≤ 100) (hl : l0.length ≤ 5000000000) (hd0 : -6 < dp) (hd1 : dp ≤ 21) :
    ∃ K, fmtF.f K l0 neg buf dp (nd : Int) (mx ((nd : Int) - dp) 0) = some (l0 ++ ((if neg = true then [45] else []) ++ laidL (buf.take nd) dp)) := by
  cases neg with
  | true =>
    obtain ⟨K, h⟩ := fmtF_j14 (l0 ++ [45]) buf nd dp h1 h2 h3 (by rw [List.length_append]; simp only [List.length_cons, List.length_nil]; omega) hd0 hd1
    refine ⟨K, ?_⟩
    rw [fmtF.f, if_pos rfl, if_pos (by omega), if_pos rfl, ← List.append_assoc]
    exact h K (Nat.le_refl _)
  | false =>
    obtain ⟨K, h⟩ := fmtF_j14 l0 buf nd dp h1 h2 h3 (by omega) hd0 hd1
    refine ⟨K, ?_⟩
    rw [fmtF.f, if_neg (by decide), if_neg (by decide), List.nil_append]
    exact h K (Nat.le_refl _)
theorem fmtF_zero (l0 : List Int) (neg : Bool) (hl : l0.length ≤ 5000000000) : ∃ K, fmtF.f K l0 neg [] 0 0 (-1) = some (l0 ++ ((if neg = true then [45] else []) ++ [48])) := by
  have h : ∀ x0 : List Int, x0.length < 50000000000 → strconv_fmtEFG.j14 2 x0 [] 0 0 (-1) = some (x0 ++ [48]) := by
    intro x0 hx
    rw [strconv_fmtEFG.j14, if_neg (by decide), if_pos (by omega), strconv_fmtEFG.j17, if_neg (by decide)]
  cases neg with
  | true =>
    refine ⟨2, ?_⟩
    rw [fmtF.f, if_pos rfl, if_pos (by omega), if_pos rfl, ← List.append_assoc]
    exact h _ (by rw [List.length_append]; simp only [List.length_cons, List.length_nil]; omega)
  | false =>
    refine ⟨2, ?_⟩
    rw [fmtF.f, if_neg (by decide), if_neg (by decide), List.nil_append]
    exact h _ (by omega)

/-- the digits of an exponent -/
def expL (x : Nat) : List Int := if x < 10 then [48, ((x + 48 : Nat) : Int)] else if x < 100 then [((x / 10 + 48 : Nat) : Int), ((x % 10 + 48 : Nat) : Int)] else [((x / 100 + 48 : Nat) : Int), ((x / 10 % 10 + 48 : Nat) : Int), ((x % 10 + 48 : Nat) : Int)]

theorem ef_j13 (x0 : List Int) (s : Int) (x : Nat) (hx : x < 1000) (hl : x0.length ≤ 90000000000) : Ev (fun k => strconv_fmtEFG.j13 k x0 s (x : Int)) (x0 ++ [s] ++ expL x) := by
  refine Ev.succ (g := fun _ => some (x0 ++ [s] ++ expL x)) (fun k => ?_) (Ev.pure _)
  have t10 : Int.tdiv (x : Int) 10 = ((x / 10 : Nat) : Int) := rfl
  have t100 : Int.tdiv (x : Int) 100 = ((x / 100 : Nat) : Int) := rfl
  have m10 : Int.tmod (x : Int) 10 = ((x % 10 : Nat) : Int) := rfl
  have ls : (x0 ++ [s]).length = x0.length + 1 := by simp
  rw [strconv_fmtEFG.j13, if_pos (by omega), t10, t100, m10, Option.bind_some]
  unfold expL
  by_cases h1 : x < 10
  · rw [if_pos (by omega), Option.bind_some, if_pos h1, if_pos (by rw [ls]; simp only [List.length_cons, List.length_nil]; omega)]
    have e : ((x : Int) % 256 + 48) % 256 = ((x + 48 : Nat) : Int) := by omega
    rw [e]
  · by_cases h2 : x < 100
    · rw [if_neg (by omega), if_neg h1, if_pos (by omega), Option.bind_some, if_pos h2, if_pos (by rw [ls]; simp only [List.length_cons, List.length_nil]; omega), w64 _ (by omega) (by omega)]
      have e1 : (((x / 10 : Nat) : Int) % 256 + 48) % 256 = ((x / 10 + 48 : Nat) : Int) := by omega
      have e2 : (((x % 10 : Nat) : Int) % 256 + 48) % 256 = ((x % 10 + 48 : Nat) : Int) := by omega
      rw [e1, e2]
    · rw [if_neg (by omega), if_neg h1, if_neg (by omega), Option.bind_some, if_neg h2, if_pos (by rw [ls]; simp only [List.length_cons, List.length_nil]; omega), w64 _ (by omega) (by omega), w64 _ (by omega) (by omega)]
      have e1 : (((x / 100 : Nat) : Int) % 256 + 48) % 256 = ((x / 100 + 48 : Nat) : Int) := by omega
      have e2 : (((x / 10 : Nat) : Int) % 256) % 10 + 48 = ((x / 10 % 10 + 48 : Nat) : Int) := by omega
      have e3 : (((x % 10 : Nat) : Int) % 256 + 48) % 256 = ((x % 10 + 48 : Nat) : Int) := by omega
      rw [e1, e2, e3]

theorem dec_expL (x : Nat) (hx : x < 1000) : (x < 10 → expL x = [48, ((x + 48 : Nat) : Int)] ∧ dec x = [((x + 48 : Nat) : Int)]) ∧ (10 ≤ x → x < 100 → dec x = expL x ∧ expL x = [((x / 10 + 48 : Nat) : Int), ((x % 10 + 48 : Nat) : Int)]) ∧ (100 ≤ x → dec x = expL x ∧ expL x = [((x / 100 + 48 : Nat) : Int), ((x / 10 % 10 + 48 : Nat) : Int), ((x % 10 + 48 : Nat) : Int)]) := by
  refine ⟨fun h => ⟨if_pos h, by rw [dec_lt h, Nat.add_comm]⟩, fun h1 h2 => ?_, fun h1 => ?_⟩
  · have e : expL x = [((x / 10 + 48 : Nat) : Int), ((x % 10 + 48 : Nat) : Int)] := by unfold expL; rw [if_neg (by omega), if_pos h2]
    refine ⟨?_, e⟩
    rw [e, dec_ge h1, dec_lt (by omega), Nat.add_comm 48, Nat.add_comm 48]
    rfl
  · have e : expL x = [((x / 100 + 48 : Nat) : Int), ((x / 10 % 10 + 48 : Nat) : Int), ((x % 10 + 48 : Nat) : Int)] := by unfold expL; rw [if_neg (by omega), if_neg (by omega)]
    refine ⟨?_, e⟩
    rw [e, dec_ge (n := x) (by omega), dec_ge (n := x / 10) (by omega), dec_lt (by omega), Nat.add_comm 48, Nat.add_comm 48, Nat.add_comm 48, Nat.div_div_eq_div_mul]
    rfl

/-- a text with its exponent, mended -/
theorem fixE_exp (p : List Int) (s : Int) (x : Nat) (hx : x < 1000) (h : (s = 45 ∧ 1 ≤ x) ∨ (s = 43 ∧ 10 ≤ x)) :
    (∃ q a b c d, p ++ [101] ++ [s] ++ expL x = q ++ [a, b, c, d] ∧ q.length ≤ p.length + 1) ∧ fixE (p ++ [101] ++ [s] ++ expL x) = p ++ ([101, s] ++ dec x) := by
  obtain ⟨d1, d2, d3⟩ := dec_expL x hx
  by_cases h1 : x < 10
  · obtain ⟨e1, e2⟩ := d1 h1
    have hs : s = 45 := by omega
    have e : p ++ [101] ++ [s] ++ expL x = p ++ [101, s, 48, ((x + 48 : Nat) : Int)] := by rw [e1]; simp
    refine ⟨⟨p, 101, s, 48, ((x + 48 : Nat) : Int), e, by omega⟩, ?_⟩
    rw [e, fixE_app, if_pos ⟨rfl, hs, rfl⟩, e2]
    rfl
  · by_cases h2 : x < 100
    · obtain ⟨e2, e1⟩ := d2 (by omega) h2
      have e : p ++ [101] ++ [s] ++ expL x = p ++ [101, s, ((x / 10 + 48 : Nat) : Int), ((x % 10 + 48 : Nat) : Int)] := by rw [e1]; simp
      refine ⟨⟨p, 101, s, ((x / 10 + 48 : Nat) : Int), ((x % 10 + 48 : Nat) : Int), e, by omega⟩, ?_⟩
      rw [e, fixE_app, if_neg (by omega), e2, e1]
      rfl
    · obtain ⟨e2, e1⟩ := d3 (by omega)
      have e : p ++ [101] ++ [s] ++ expL x = (p ++ [101]) ++ [s, ((x / 100 + 48 : Nat) : Int), ((x / 10 % 10 + 48 : Nat) : Int), ((x % 10 + 48 : Nat) : Int)] := by rw [e1]; simp
      refine ⟨⟨p ++ [101], s, ((x / 100 + 48 : Nat) : Int), ((x / 10 % 10 + 48 : Nat) : Int), ((x % 10 + 48 : Nat) : Int), e, by simp⟩, ?_⟩
      rw [e, fixE_app, if_neg (by omega), e2, e1]
      simp

theorem ef_j11 (x0 : List Int) (dp : Int) (nd : Nat) (hn : 1 ≤ nd) (hl : x0.length ≤ 80000000000) (h0 : -900 ≤ dp) (h1 : dp ≤ 900) :
    Ev (fun k => strconv_fmtEFG.j11 k x0 dp (nd : Int) 101) (x0 ++ [101] ++ [if dp - 1 < 0 then 45 else 43] ++ expL (dp - 1).natAbs) := by
  have ls : (x0 ++ [101]).length = x0.length + 1 := by simp
  refine Ev.succ (g := fun k => strconv_fmtEFG.j12 k (x0 ++ [101]) (dp - 1)) (fun k => ?_) ?_
  · rw [strconv_fmtEFG.j11, if_pos (by omega), Option.bind_some, if_neg (by omega), w64 _ (by omega) (by omega)]
  · by_cases h : dp - 1 < 0
    · rw [if_pos h]
      refine Ev.succ (fun k => ?_) (ef_j13 (x0 ++ [101]) 45 (dp - 1).natAbs (by omega) (by omega))
      rw [strconv_fmtEFG.j12, if_pos h, w64 _ (by omega) (by omega), show -(dp - 1) = ((dp - 1).natAbs : Int) by omega]
    · rw [if_neg h]
      refine Ev.succ (fun k => ?_) (ef_j13 (x0 ++ [101]) 43 (dp - 1).natAbs (by omega) (by omega))
      rw [strconv_fmtEFG.j12, if_neg h]
      congr 1
      omega

theorem fmtE_j7 (x0 buf : List Int) (nd : Nat) (dp : Int) (h1 : 1 ≤ nd) (h2 : nd ≤ buf.length) (h3 : buf.length ≤ 100) (hl : x0.length ≤ 40000000000) (hd0 : -900 ≤ dp) (hd1 : dp ≤ 900) :
    Ev (fun k => strconv_fmtEFG.j7 k x0 buf dp (nd : Int) ((nd : Int) - 1) 101) (x0 ++ (if nd = 1 then buf.take nd else (buf.take nd).take 1 ++ [46] ++ (buf.take nd).drop 1) ++ [101] ++ [if dp - 1 < 0 then 45 else 43] ++ expL (dp - 1).natAbs) := by
  have hlen : (buf.take nd).length = nd := by rw [List.length_take]; omega
  have t1 : buf.take 1 = [rd buf 0] := by
    have := take_snoc buf 0 (by omega)
    simpa using this
  have ls : (x0 ++ [rd buf 0]).length = x0.length + 1 := by simp
  refine Ev.succ (g := fun k => strconv_fmtEFG.j8 k x0 buf dp (nd : Int) ((nd : Int) - 1) 101 (rd buf 0)) (fun k => ?_) ?_
  · rw [strconv_fmtEFG.j7, if_neg (by omega), if_pos (by omega)]
  · by_cases hn : nd = 1
    · subst hn
      rw [if_pos rfl, t1]
      refine Ev.succ (fun k => ?_) (ef_j11 (x0 ++ [rd buf 0]) dp 1 (by omega) (by omega) hd0 hd1)
      rw [strconv_fmtEFG.j8, if_pos (by omega), Option.bind_some, if_neg (by omega)]
    · rw [if_neg hn, List.take_take, Nat.min_eq_left (by omega), t1]
      have a1 : mn (nd : Int) (wrap64 ((nd : Int) - 1 + 1)) = (nd : Int) := by rw [w64 _ (by omega) (by omega)]; unfold mn; split <;> omega
      have ls2 : (x0 ++ [rd buf 0] ++ [46]).length = x0.length + 2 := by simp
      have ls3 : ((buf.take nd).drop 1).length = nd - 1 := by rw [List.length_drop, hlen]
      have f := ef_j11 (x0 ++ [rd buf 0] ++ [46] ++ (buf.take nd).drop 1) dp nd h1 (by rw [List.length_append, ls2, ls3]; omega) hd0 hd1
      have f0 := Ev.succ (f := fun k => strconv_fmtEFG.l0 k (x0 ++ [rd buf 0] ++ [46] ++ (buf.take nd).drop 1) dp (nd : Int) 101 0 0) (fun k => by rw [strconv_fmtEFG.l0, if_neg (by omega)]) f
      have e : x0 ++ ([rd buf 0] ++ [46] ++ (buf.take nd).drop 1) = x0 ++ [rd buf 0] ++ [46] ++ (buf.take nd).drop 1 := by simp only [List.append_assoc]
      rw [e]
      refine Ev.succ (g := fun k => strconv_fmtEFG.j9 k (x0 ++ [rd buf 0] ++ [46] ++ (buf.take nd).drop 1) dp (nd : Int) ((nd : Int) - 1) 101 (nd : Int)) (fun k => ?_) ?_
      · rw [strconv_fmtEFG.j8, if_pos (by omega), Option.bind_some, if_pos (by omega), if_pos (by omega), Option.bind_some, a1, if_pos (by omega), if_pos (by omega), if_pos (by omega), Option.bind_some, Int.toNat_natCast, if_pos (by rw [ls2, ls3]; omega)]
      · refine Ev.succ (fun k => ?_) f0
        rw [strconv_fmtEFG.j9, w64 ((nd : Int) - 1 + 1) (by omega) (by omega), w64 _ (by omega) (by omega), show (nd : Int) - 1 + 1 - (nd : Int) = 0 by omega]

theorem fmtE_ev (l0 buf : List Int) (neg : Bool) (nd : Nat) (dp : Int) (h1 : 1 ≤ nd) (h2 : nd ≤ buf.length) (h3 : buf.length ≤ 100) (hl : l0.length ≤ 5000000000) (hd : (-900 ≤ dp ∧ dp ≤ -6) ∨ (21 < dp ∧ dp ≤ 900)) :
    ∃ K r, fmtE.f K l0 neg buf dp (nd : Int) ((nd : Int) - 1) = some r ∧ (∃ q a b c d, r = q ++ [a, b, c, d] ∧ q.length ≤ 140737488355328) ∧ fixE r = l0 ++ ((if neg = true then [45] else []) ++ laidL (buf.take nd) dp) := by
  have hlen : (buf.take nd).length = nd := by rw [List.length_take]; omega
  obtain ⟨p, hp⟩ : ∃ p, p = (l0 ++ (if neg = true then [45] else [])) ++ (if nd = 1 then buf.take nd else (buf.take nd).take 1 ++ [46] ++ (buf.take nd).drop 1) := ⟨_, rfl⟩
  have lp : p.length ≤ 10000000000 := by
    rw [hp, List.length_append, List.length_append]
    have x1 : (if neg = true then [45] else [] : List Int).length ≤ 1 := by split <;> simp
    have x2 : (if nd = 1 then buf.take nd else (buf.take nd).take 1 ++ [46] ++ (buf.take nd).drop 1).length ≤ 200 := by
      split
      · omega
      · simp only [List.length_append, List.length_take, List.length_drop, List.length_cons, List.length_nil]; omega
    omega
  have fx := fixE_exp p (if dp - 1 < 0 then 45 else 43) (dp - 1).natAbs (by omega) (by split <;> omega)
  obtain ⟨K, hK⟩ := fmtE_j7 (l0 ++ (if neg = true then [45] else [])) buf nd dp h1 h2 h3 (by
    have x1 : (if neg = true then [45] else [] : List Int).length ≤ 1 := by split <;> simp
    rw [List.length_append]; omega) (by omega) (by omega)
  refine ⟨K, p ++ [101] ++ [if dp - 1 < 0 then 45 else 43] ++ expL (dp - 1).natAbs, ?_, ?_, ?_⟩
  · have hk := hK K (Nat.le_refl _)
    dsimp only at hk
    rw [← hp] at hk
    cases neg with
    | true => rw [fmtE.f, if_pos rfl, if_pos (by omega)]; exact hk
    | false =>
      rw [fmtE.f, if_neg (by decide)]
      rw [if_neg (by decide), List.append_nil] at hk
      exact hk
  · obtain ⟨⟨q, a, b, c, d, e, lq⟩, _⟩ := fx
    exact ⟨q, a, b, c, d, e, by omega⟩
  · have e : laidL (buf.take nd) dp = (if nd = 1 then buf.take nd else (buf.take nd).take 1 ++ [46] ++ (buf.take nd).drop 1) ++ ([101, if dp - 1 < 0 then 45 else 43] ++ dec (dp - 1).natAbs) := by
      unfold laidL
      rw [hlen, if_neg (by omega), if_neg (by omega), if_neg (by omega)]
      congr 1
      by_cases h : dp - 1 < 0
      · rw [if_pos h, if_pos h, show (dp - 1).natAbs = (1 - dp).toNat by omega]
      · rw [if_neg h, if_neg h, show (dp - 1).natAbs = (dp - 1).toNat by omega]
    rw [fx.2, hp, e]
    simp only [List.append_assoc]
end Go.Proofs.YtiopeaponffmdaaDoor.PAll
-- YtiopeaponffmdaaDoorFl
namespace Go.Proofs.YtiopeaponffmdaaDoor.PAll
open Go.RowKit Go.Proofs.YtiopeaponffmdaaDoorW.PrintWords Go.Proofs.YtiopeaponffmdaaDoorW.PrintLast Go.Proofs.YtiopeaponffmdaaDoorW.PrintMore
open Fm

/-- the table of powers of ten lies in its block -/
def Tab3 (w : World) : Prop := 3 < w.heap.size ∧ ∀ i, i < 696 → w.cell? ⟨3, i * 2, none⟩ = some (.int .u64 ((Go.Pinned.pow10Rows.getD i (0, 0)).1 : Int)) ∧ w.cell? ⟨3, i * 2 + 1, none⟩ = some (.int .u64 ((Go.Pinned.pow10Rows.getD i (0, 0)).2 : Int))
theorem Tab3.at {w : World} (h : Tab3 w) {p : Int} {hi lo : Nat} (hr : rowOf p = (hi, lo)) (h0 : -348 ≤ p) (h1 : p ≤ 347) :
    w.cell? ⟨3, (p + 348).toNat * 2, none⟩ = some (.int .u64 (hi : Int)) ∧ w.cell? ⟨3, (p + 348).toNat * 2 + 1, none⟩ = some (.int .u64 (lo : Int)) := by
  have := h.2 (p + 348).toNat (by omega)
  unfold rowOf at hr
  rw [hr] at this
  exact this

theorem i64_and (n k : Nat) (h : n < 9223372036854775808) (hk : 2 ^ k ≤ 9223372036854775808) : bits .and .i64 (n : Int) ((2 ^ k - 1 : Nat) : Int) = ((n % 2 ^ k : Nat) : Int) := by
  have hp : 0 < 2 ^ k := Nat.two_pow_pos k
  have hm : n % 2 ^ k < 2 ^ k := Nat.mod_lt _ hp
  show IntKind.i64.wrap ((BitVec.ofInt 64 (n : Int) &&& BitVec.ofInt 64 ((2 ^ k - 1 : Nat) : Int)).toNat : Int) = _
  rw [BitVec.toNat_and, ofInt_u64 n (by omega), ofInt_u64 (2 ^ k - 1) (by omega), Nat.and_two_pow_sub_one_eq_mod]
  exact Go.Lib.wrap_i64_small _ (by omega)

/-- what shortFloat answers, and what the reference says of it -/
structure SfAns (f fn c mant : Nat) (E : Int) (most : Int) (D : Nat) (pp : Int) : Prop where
  pos : 0 < D
  lt : D < 1000000000000000000
  p0 : -400 ≤ pp
  p1 : pp ≤ 400
  ev : Ev (fun k => spec_Form_Shortest.f k (f : Int) most (c : Int)) (strOfNums (dec (cutz D)), ((dec D).length : Int) + pp)
  sh : ∃ n k x, ShAt f c 400 n k x ∧ cutz x = cutz D ∧ 0 < x ∧ n + ((dec x).length : Int) - (k : Int) = ((dec D).length : Int) + pp
  calls : ∀ W, Tab3 W → Calls Tryd.prog fn #[.int .u64 (mant : Int), .int .i64 E] W fun e W' => e = .returned (.tuple #[.int .u64 (D : Int), .int .i64 pp]) ∧ Below W.heap.size W W'

theorem T2_bound64 (c e311 : Nat) (he : e311 = 311) (hc : c < 2047 * 2 ^ 52) : T2 52 c < 2 ^ lst 52 * 10 ^ e311 := by
  have h1 : T2 52 c ≤ T2 52 (2047 * 2 ^ 52) := T2_mono 52 (by omega)
  refine Nat.lt_of_le_of_lt h1 ?_
  subst he
  decide +kernel
/-- a number below the normal ones -/
theorem sf64C (c L : Nat) (most : Int) (hc0 : 1 ≤ c) (hc : c < 4503599627370496) (hL1 : 1 ≤ L) (hL2 : L ≤ 52) (hLa : 2 ^ (L - 1) ≤ c) (hLb : c < 2 ^ L) :
    ∃ D pp, SfAns 52 66 c (c * 2 ^ (64 - L)) ((L : Int) - 1138) most D pp := by
  obtain ⟨z, hz⟩ : ∃ z, z = 64 - L := ⟨_, rfl⟩
  rw [← hz]
  have hT : T2 52 c = c := by unfold T2; rw [if_pos (by omega)]; omega
  have hTm : T2 52 (c - 1) = c - 1 := by unfold T2; rw [if_pos (by omega)]; omega
  have hTp : T2 52 (c + 1) = c + 1 := by
    have := T2_up 52 0 c (by omega)
    rw [Nat.zero_mul, Nat.zero_add, if_pos rfl] at this
    exact this
  have hcert := certE_64 (-1074) (by omega) (by omega)
  have hzb : c * 2 ^ z < 2 ^ 64 := by
    have : c * 2 ^ z < 2 ^ L * 2 ^ z := Nat.mul_lt_mul_of_pos_right hLb (Nat.two_pow_pos _)
    rw [← Nat.pow_add, show L + z = 64 by omega] at this
    exact this
  have hz1 : 2 ^ z = 2 * 2 ^ (z - 1) := by rw [show z = z - 1 + 1 by omega, Nat.pow_succ]; simp only [Nat.add_sub_cancel]; omega
  have hLz : 2 ^ (L - 1) * 2 ^ z = 2 ^ 63 := by rw [← Nat.pow_add, show L - 1 + z = 63 by omega]
  have hjb : (2 * c + 1) * 2 ^ (11 - 1 + (z - 11)) < 2 ^ 64 := by
    rw [show 11 - 1 + (z - 11) = z - 1 by omega]
    have h1 : (c + 1) * 2 ^ z ≤ 2 ^ L * 2 ^ z := Nat.mul_le_mul_right _ hLb
    rw [← Nat.pow_add, show L + z = 64 by omega, hz1] at h1
    have h2 : (2 * c + 1) * 2 ^ (z - 1) < (c + 1) * (2 * 2 ^ (z - 1)) := by
      rw [← Nat.mul_assoc]
      exact Nat.mul_lt_mul_of_pos_right (by omega) (Nat.two_pow_pos _)
    omega
  obtain ⟨s, hi, lo, r1, r2, r3, r4, r5, r6, r7, r8, ⟨u1, u2, u3, g1, g2, g3, g4, g5, g6, g7, g8, g9, g10, g11, g12, g13⟩⟩ := num_sym 52 11 (2 ^ 54) c c 0 (z - 11) most 400 rfl (.inl ⟨rfl, rfl, rfl⟩) hc0 (by omega) (by omega) 311 rfl (T2_bound64 c 311 rfl (by omega)) hc0 (by omega)
    (by rw [hT, Nat.pow_zero, Nat.mul_one]) (by rw [hTm, Nat.pow_zero, Nat.mul_one]) (by rw [hTp, Nat.pow_zero, Nat.mul_one]) hcert hjb (fun _ => ⟨rfl, rfl⟩)
  have hp : pOf (((0 : Nat) : Int) - ((lst 52 : Nat) : Int)) = 324 := by decide
  have hlp : lpOf 324 = 1076 := by decide
  have hlst : ((lst 52 : Nat) : Int) = 1074 := by decide
  rw [hp] at r1 g8 g9 g10 g11 g12 g13
  rw [hp, hlp, hlst] at r4
  rw [show 11 - 1 + (z - 11) = z - 1 by omega] at g1 g2 g3
  refine ⟨_, _, g8, g9, g10, g11, g12, g13, fun W hW => ?_⟩
  obtain ⟨t1, t2⟩ := hW.at r1 (by decide) (by decide)
  have hP0 : 0 < 2 ^ (z - 1) := Nat.two_pow_pos _
  have hzz : 2 ^ (z - 1) ≤ 4611686018427387904 := by
    have : 2 ^ (z - 1) ≤ 2 ^ 62 := Nat.pow_le_pow_right (by decide) (by omega)
    exact Nat.le_trans this (by decide)
  have m3 : 2 * c * 2 ^ (z - 1) = c * 2 ^ z := by rw [hz1, Nat.mul_left_comm, Nat.mul_assoc]
  have m1 : (2 * c - 1) * 2 ^ (z - 1) = c * 2 ^ z - 2 ^ (z - 1) := by rw [← m3, Nat.sub_mul, Nat.one_mul]
  have m2 : (2 * c + 1) * 2 ^ (z - 1) = c * 2 ^ z + 2 ^ (z - 1) := by rw [← m3, Nat.add_mul, Nat.one_mul]
  have m4 : 2 ^ (z - 1) ≤ c * 2 ^ z := by
    have : 1 * 2 ^ z ≤ c * 2 ^ z := Nat.mul_le_mul_right _ hc0
    omega
  rw [show 11 - 1 + (z - 11) = z - 1 by omega, m2] at hjb
  rw [m1] at g1; rw [m2] at g2; rw [m3] at g3
  have hmz : ((c * 2 ^ z : Nat) : Int) / 2 ^ z = (c : Int) := by
    rw [div_pow_cast, Nat.mul_div_cancel _ (Nat.two_pow_pos _)]
  have hod : bits .and .i64 (c : Int) 1 = ((c % 2 : Nat) : Int) := i64_and c 1 (by omega) (by decide)
  have hhf : IntKind.u64.wrap (2 ^ (z - 1)) = ((2 ^ (z - 1) : Nat) : Int) := by
    have e : (2 : Int) ^ (z - 1) = ((2 ^ (z - 1) : Nat) : Int) := by simp
    rw [e]; exact wrapuN _ (by omega)
  generalize 2 ^ (z - 1) = P at *
  generalize hmm : c * 2 ^ z = mant at *
  exact short64C mant (mant - P) (mant + P) (c % 2) u1 u2 u3 (s + (z - 11)) hi lo ((L : Int) - 1138) 324 1076 W hW.1 (by omega) z (by omega) (by omega) (by omega) (by omega) (P : Int) hhf c hmz (by omega) (by rw [show (L : Int) - 1138 + (z : Int) = -1074 by omega]; decide) (by decide) (by decide) (by decide)
    (by rw [wrapu _ (by omega) (by omega)]; omega) (by rw [wrapu _ (by omega) (by omega)]; omega) hod (by omega) (by omega) (by omega) t1 t2 r6 (by omega) (by omega) (by omega) (by omega) g1 g2 g3 g4 g5 g6 g7

theorem tri (M : Nat) (h : 1 ≤ M) : (2 * M - 1) * 1024 = M * 2048 - 1024 ∧ (2 * M + 1) * 1024 = M * 2048 + 1024 ∧ 2 * M * 1024 = M * 2048 := by omega
/-- a normal number, or the least one -/
theorem sf64B (q m P : Nat) (most : Int) (hP : P = 2 ^ 52) (hq : 1 ≤ q) (hq2 : q ≤ 2046) (hm : m < P) (hno : ¬ (m = 0 ∧ 2 ≤ q)) :
    ∃ D pp, SfAns 52 66 (q * P + m) ((m + P) * 2048) ((q : Int) - 1086) most D pp := by
  have hPa : 4503599627370495 < P := by rw [hP]; decide
  have hPb : P < 4503599627370497 := by rw [hP]; decide
  have hT := T2_at 52 q m (by rw [← hP]; exact hm)
  have hTp := T2_up 52 q m (by rw [← hP]; exact hm)
  have hqn : q ≠ 0 := by omega
  rw [if_neg hqn, ← hP] at hT hTp
  have hTm : T2 52 (q * P + m - 1) = (m + P - 1) * 2 ^ (q - 1) := by
    by_cases h0 : m = 0
    · have h1 : q = 1 := by omega
      have := T2_down0 52 q (by omega)
      rw [if_pos h1, ← hP] at this
      rw [h0, this, h1, Nat.zero_add, Nat.sub_self, Nat.pow_zero, Nat.mul_one]
    · have := T2_down 52 q m (by rw [← hP]; exact hm) (by omega)
      rw [if_neg hqn, ← hP] at this
      rw [this, show m - 1 + P = m + P - 1 by omega]
  have hlst : ((lst 52 : Nat) : Int) = 1074 := by decide
  have hcert := certE_64 (((q - 1 : Nat) : Int) - ((lst 52 : Nat) : Int)) (by omega) (by omega)
  have hcb : q * P + m < 2047 * P := by
    have : q * P ≤ 2046 * P := Nat.mul_le_mul_right _ hq2
    omega
  have hc1 : 1 ≤ q * P + m := by
    have : 1 * P ≤ q * P := Nat.mul_le_mul_right _ hq
    omega
  have hpar : (q * P + m) % 2 = (m + P) % 2 := by
    have h2 : P % 2 = 0 := by rw [hP]
    rw [Nat.add_mod, Nat.mul_mod, h2, Nat.add_mod m P, h2]
    simp
  obtain ⟨c, hcc⟩ : ∃ c, c = q * P + m := ⟨_, rfl⟩
  rw [← hcc] at hT hTp hTm hcb hc1 hpar ⊢
  have hTp' : T2 52 (c + 1) = (m + P + 1) * 2 ^ (q - 1) := by rw [hTp, show m + 1 + P = m + P + 1 by omega]
  have hc2 : (c + 1) / 2 ^ 52 ≤ 2100 := by
    rw [← hP]
    refine Nat.div_le_of_le_mul ?_
    omega
  have hcx : c < 18446744073709550000 := by omega
  have hb64 : c < 2047 * 2 ^ 52 := by rw [← hP]; exact hcb
  have hM : 1 ≤ m + P := by omega
  have hM2 : m + P < 2 ^ (52 + 1) := by rw [Nat.pow_succ, ← hP]; omega
  have hjb : (2 * (m + P) + 1) * 2 ^ (11 - 1 + 0) < 2 ^ 64 := by
    have e : (2 : Nat) ^ (11 - 1 + 0) = 1024 := by decide
    have e2 : (2 : Nat) ^ 64 = 18446744073709551616 := by decide
    rw [e, e2]; omega
  obtain ⟨s, hi, lo, r1, r2, r3, r4, r5, r6, r7, r8, ⟨u1, u2, u3, g1, g2, g3, g4, g5, g6, g7, g8, g9, g10, g11, g12, g13⟩⟩ := num_sym 52 11 (2 ^ 54) c (m + P) (q - 1) 0 most 400 rfl (.inl ⟨rfl, rfl, rfl⟩) hc1 hcx hc2 311 rfl (T2_bound64 c 311 rfl hb64) hM hM2
    hT hTm hTp' hcert hjb (fun h => absurd h (by omega))
  rw [hlst] at r1 r2 r3 r4 g8 g9 g10 g11 g12 g13
  obtain ⟨p, hp⟩ : ∃ p, p = pOf (((q - 1 : Nat) : Int) - 1074) := ⟨_, rfl⟩
  rw [← hp] at r1 r2 r3 r4 g8 g9 g10 g11 g12 g13
  refine ⟨_, _, g8, g9, g10, g11, g12, g13, fun W hW => ?_⟩
  obtain ⟨t1, t2⟩ := hW.at r1 r2 r3
  obtain ⟨M, hMM⟩ : ∃ M, M = m + P := ⟨_, rfl⟩
  rw [← hMM] at g1 g2 g3 hpar ⊢
  have hMb : 4503599627370495 < M ∧ M < 9007199254740993 := by omega
  have e10 : 2 ^ (11 - 1 + 0) = 1024 := by decide
  rw [e10] at g1 g2 g3
  obtain ⟨m1, m2, m3⟩ := tri M (Nat.le_trans (by decide) (Nat.le_of_lt hMb.1))
  rw [m1] at g1; rw [m2] at g2; rw [m3] at g3
  have hs : -((q : Int) - 1086 + lpOf p + 3) = ((s + 0 : Nat) : Int) := by omega
  have hbp : -(((q : Int) - 1086 + 11) * 78913 / 262144) = p := by rw [hp, show ((q - 1 : Nat) : Int) - 1074 = (q : Int) - 1086 + 11 by omega]; rfl
  have hod : bits .and .i64 (((M * 2048 : Nat) : Int) / 2048) 1 = ((c % 2 : Nat) : Int) := by
    have e : ((M * 2048 : Nat) : Int) / 2048 = (M : Int) := by omega
    have e2 := i64_and M 1 (by omega) (by decide)
    rw [e, hpar]
    exact e2
  have hmb : M * 2048 < 18446744073709551616 ∧ 2048 ≤ M * 2048 ∧ M * 2048 + 1024 < 18446744073709551616 := by omega
  have hne : M * 2048 = 9223372036854775808 → (m = 0) := by omega
  clear hMb m1 m2 m3 hpar hMM hM2 hjb hM hb64 hcx hc2 hTp' hT hTp hTm hcb hPa hPb hP
  generalize M * 2048 = mant at *
  exact short64B mant (mant - 1024) (mant + 1024) (c % 2) u1 u2 u3 (s + 0) hi lo ((q : Int) - 1086) p (lpOf p) W hW.1 hmb.1 (by omega) (by omega) (fun h => hno ⟨hne h.1, by omega⟩) hbp rfl r2 r3
    (by rw [wrapu _ (by omega) (by omega)]; omega) (by rw [wrapu _ (by omega) (by omega)]; omega) hod (by omega) (by omega) (by omega) t1 t2 r6 r7 r8 hs (by omega) g1 g2 g3 g4 g5 g6 g7

/-- a power of two -/
theorem sf64A (q P : Nat) (most : Int) (hP : P = 2 ^ 52) (hq : 2 ≤ q) (hq2 : q ≤ 2046) :
    ∃ D pp, SfAns 52 66 (q * P) 9223372036854775808 ((q : Int) - 1086) most D pp := by
  have hb64 : q * 2 ^ 52 < 2047 * 2 ^ 52 := Nat.mul_lt_mul_of_pos_right (by omega) (Nat.two_pow_pos _)
  have hpar : q * P % 2 = 0 := by
    have h2 : P % 2 = 0 := by rw [hP]
    rw [Nat.mul_mod, h2, Nat.mul_zero]
  have hlst : ((lst 52 : Nat) : Int) = 1074 := by decide
  have hcert := certS_64 (((q - 2 : Nat) : Int) + 1 - ((lst 52 : Nat) : Int)) (by omega) (by omega)
  obtain ⟨s, hi, lo, r1, r2, r3, r4, r5, r6, r7, r8, ⟨u1, u2, u3, g1, g2, g3, g4, g5, g6, g7, g8, g9, g10, g11, g12, g13⟩⟩ := num_pow 52 11 (2 ^ 55) q most 400 rfl (.inl ⟨rfl, rfl, rfl⟩) hq hq2 311 rfl (T2_bound64 _ 311 rfl hb64) hcert
  rw [← hP] at g8 g9 g10 g11 g12 g13
  obtain ⟨c, hcc⟩ : ∃ c, c = q * P := ⟨_, rfl⟩
  rw [← hcc] at g8 g9 g10 g11 g12 g13 hpar ⊢
  rw [hlst] at r1 r2 r3 r4 g8 g9 g10 g11 g12 g13
  obtain ⟨p, hp⟩ : ∃ p, p = pOf2 (((q - 2 : Nat) : Int) + 1 - 1074) := ⟨_, rfl⟩
  rw [← hp] at r1 r2 r3 r4 g8 g9 g10 g11 g12 g13
  refine ⟨_, _, g8, g9, g10, g11, g12, g13, fun W hW => ?_⟩
  obtain ⟨t1, t2⟩ := hW.at r1 r2 r3
  have e1 : (4 * 2 ^ 52 - 1) * 2 ^ (11 - 1 - 1 + 0) = 9223372036854775296 := by decide
  have e2 : (4 * 2 ^ 52 + 2) * 2 ^ (11 - 1 - 1 + 0) = 9223372036854776832 := by decide
  have e3 : 4 * 2 ^ 52 * 2 ^ (11 - 1 - 1 + 0) = 9223372036854775808 := by decide
  rw [e1] at g1; rw [e2] at g2; rw [e3] at g3
  have hod : bits .and .i64 (((9223372036854775808 : Nat) : Int) / 2048) 1 = ((c % 2 : Nat) : Int) := by
    rw [hpar]; decide
  have hs : -((q : Int) - 1086 + lpOf p + 3) = ((s + 0 : Nat) : Int) := by omega
  have hbp : -((((q : Int) - 1086 + 11) * 631305 - 261663) / 2097152) = p := by rw [hp, show ((q - 2 : Nat) : Int) + 1 - 1074 = (q : Int) - 1086 + 11 by omega]; rfl
  exact short64A 9223372036854775808 9223372036854775296 9223372036854776832 (c % 2) u1 u2 u3 (s + 0) hi lo ((q : Int) - 1086) p (lpOf p) W hW.1 (by omega) (by omega) (by omega) rfl hbp rfl r2 r3
    (by rw [wrapu _ (by omega) (by omega)]; rfl) (by rw [wrapu _ (by omega) (by omega)]; rfl) hod (by omega) (by omega) (by omega) t1 t2 r6 (by omega) (by omega) hs (by omega) g1 g2 g3 g4 g5 g6 g7
end Go.Proofs.YtiopeaponffmdaaDoor.PAll
-- YtiopeaponffmdaaDoorFj
namespace Go.Proofs.YtiopeaponffmdaaDoor.PAll
open Go.RowKit Go.Proofs.YtiopeaponffmdaaDoorW.PrintWords Go.Proofs.YtiopeaponffmdaaDoorW.PrintLast Go.Proofs.YtiopeaponffmdaaDoorW.PrintMore

theorem conv5 (s : ByteArray) (w : World) : (convert 9 39 (.string s)).run Tryd.prog w = .ok (.slice (some ⟨w.heap.size, 0, none⟩) s.size (grownCap w s.size 0 5)) (Lib.bytesWorld w 5 s) :=
  Lib.run_convert_string_bytes w 9 39 5 s Tryd.underlying9 Tryd.underlying39 Tryd.underlying5
/-- FloatText, by what AppendFloat answers on a row of the call's own -/
theorem floatText (tt : ByteArray) (x : Nat) (w : World) (R : List Int → Prop) (hto : tt.size ≤ 140737488355328)
    (h : ∀ (W : World) (v : Value), Below w.heap.size w W → RM 5 W w.heap.size (fun _ => True) v (bytesOf tt) → Calls Tryd.prog 25 #[v, .float .f64 x, .int .i64 64] W (FtPost w R)) :
    Calls Tryd.prog 14 #[.string tt, .float .f64 x, .int .i64 64] w fun e w' => ∃ r, R r ∧ e = .returned (.string (strOfNums r)) ∧ Below w.heap.size w w' := by
  have cv := conv5 tt w
  have H := h (Lib.bytesWorld w 5 tt) _ (Joins.below_bytesWorld _ _ _ _ (Nat.le_refl _)) (RM_bytes w 5 tt hto (Nat.le_refl _) trivial)
  obtain ⟨W, hW⟩ : ∃ X, X = Lib.bytesWorld w 5 tt := ⟨_, rfl⟩
  obtain ⟨cap, hcap⟩ : ∃ c, c = grownCap w tt.size 0 5 := ⟨_, rfl⟩
  rw [← hW, ← hcap] at cv H
  have HH := Lib.hid H
  clear H h hW hcap
  go_enter Tryd.func14, Tryd.ntmps14
  go_wp2_with (fail)
  refine HH.out.mono ?_
  rintro e w' ⟨v, r, rfl, q1, q2, q3⟩
  obtain ⟨A, c, rfl, hc, hr⟩ := RM_reads q2
  have cs := Kd.C_string (P := Tryd.prog) (w := w') (src := 39) (dst := 9) (e := 5) (c := c) Tryd.underlying39 Tryd.underlying5 Tryd.underlying9 hr
  have Q1 := Lib.hid q1
  have Q3 := Lib.hid q3
  clear q1 q2 q3 hr hc
  go_wp2_with (fail)
  go_returns
  exact ⟨_, Q1.out, rfl, Q3.out⟩
end Go.Proofs.YtiopeaponffmdaaDoor.PAll
