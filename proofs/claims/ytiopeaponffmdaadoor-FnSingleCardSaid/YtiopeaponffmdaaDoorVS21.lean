/- The texts of a proof, its declarations alone: part 21. -/
import Derived.Test.YtiopeaponffmdaaDoorVS4
import Derived.Test.YtiopeaponffmdaaDoorVS7
import Derived.Test.YtiopeaponffmdaaDoorVS11
import Derived.Test.YtiopeaponffmdaaDoorVS15
import Derived.Test.YtiopeaponffmdaaDoorVS20
set_option linter.unusedVariables false
set_option linter.unusedSimpArgs false
-- YtiopeaponffmdaaDoorMe
namespace Go.Proofs.YtiopeaponffmdaaDoor.Fm
theorem allB_at {f : Int → Bool} {n : Nat} {o : Int} (h : allB n (fun i => f ((i : Int) + o)) = true) (E : Int) (h0 : o ≤ E) (h1 : E < o + n) : f E = true := by
  have := allB_of h (E - o).toNat (by omega)
  rwa [show (((E - o).toNat : Nat) : Int) + o = E by omega] at this
theorem certE_32 (E : Int) (h0 : -149 ≤ E) (h1 : E ≤ 104) : certE (2 ^ 25) 40 E = true := allB_at (f := fun E => certE (2 ^ 25) 40 E) e32 E h0 (by omega)
theorem certS_32 (E : Int) (h0 : -149 ≤ E) (h1 : E ≤ 104) : certS (2 ^ 26) 40 E = true := allB_at (f := fun E => certS (2 ^ 26) 40 E) s32 E h0 (by omega)
end Go.Proofs.YtiopeaponffmdaaDoor.Fm
-- YtiopeaponffmdaaDoorPAllx26
namespace Go.Proofs.YtiopeaponffmdaaDoor.PAll
open Go.RowKit Go.Proofs.YtiopeaponffmdaaDoorW.PrintWords Go.Proofs.YtiopeaponffmdaaDoorW.PrintLast Go.Proofs.YtiopeaponffmdaaDoorW.PrintMore
attribute [local go_sem] max2_int min2_int max_two min_two max_three min_three max_four min_four   -- for this text's walks alone
set_option linter.unusedVariables false
set_option linter.unusedSimpArgs false

def spec_zeros.l0 : Nat → ByteArray → Int → Int → Option (ByteArray)
  | 0, _, _, _ => none
  | k + 1, x3, x4, x5 => if x5 < x4 then (if x3.size + 1 ≤ 9223372036854775807 then (spec_zeros.l0 k (x3 ++ (⟨#[48]⟩ : ByteArray)) x4 (wrap64 (x5 + 1))) else (none)) else (some x3)
def spec_zeros.f (k : Nat) (a0 : Int) : Option (ByteArray) := spec_zeros.l0 k (⟨#[]⟩ : ByteArray) a0 0
theorem spec_zeros.mono_l : ∀ k, (∀ y0 y1 y2, LeO (spec_zeros.l0 k y0 y1 y2) (spec_zeros.l0 (k + 1) y0 y1 y2))
  | 0 => fun _ _ _ r h => by simp [spec_zeros.l0] at h
  | k + 1 => by
    have ih0 := spec_zeros.mono_l k
    · intro y0 y1 y2
      unfold spec_zeros.l0
      repeat' first
      | (with_reducible exact ih0 _ _ _)
      | (with_reducible exact LeO.refl _)
      | (with_reducible exact LeO.none _)
      | (with_reducible refine LeO.ite ?_ ?_)
      | (with_reducible refine LeO.bind ?_ (fun _ => ?_))
      | exact ih0 _ _ _
      | exact LeO.none _
      | refine LeO.ite ?_ ?_
      | refine LeO.bind ?_ (fun _ => ?_)
theorem spec_zeros.mono : ∀ a0 k, LeO (spec_zeros.f k a0) (spec_zeros.f (k + 1) a0) := by
  intro a0 k
  have ih0 := spec_zeros.mono_l k
  unfold spec_zeros.f
  repeat' first
      | (with_reducible exact ih0 _ _ _)
      | (with_reducible exact LeO.refl _)
      | (with_reducible exact LeO.none _)
      | (with_reducible refine LeO.ite ?_ ?_)
      | (with_reducible refine LeO.bind ?_ (fun _ => ?_))
      | exact ih0 _ _ _
      | exact LeO.none _
      | refine LeO.ite ?_ ?_
      | refine LeO.bind ?_ (fun _ => ?_)
set_option maxHeartbeats 8000000 in
set_option maxRecDepth 100000 in
theorem spec_zeros.calls (k : Nat) (a0 : Int) (r : ByteArray) (w : World) (h : spec_zeros.f k a0 = some r) :
    Calls Tryd.prog 48 #[.int .i64 a0] w fun e w' => e = .returned (.string r) ∧ Drawn0 w w' := by
  have H : (spec_zeros.l0 k (⟨#[]⟩ : ByteArray) a0 0) = some r := h
  clear h
  have H' := Aside0.mk H
  clear H
  go_enter Tryd.func48, Tryd.ntmps48
  go_wp2
  go_loopg [3, 5] k (fun kq v3 v5 w' => ∃ (x3_1 : ByteArray) (x5_1 : Int), v3 = .string x3_1 ∧ v5 = .int .i64 x5_1 ∧ Aside0 (spec_zeros.l0 kq x3_1 a0 x5_1 = some r) ∧ Aside0 (kq ≤ k) ∧ Drawn0 w w')
  case atStart => exact ⟨((⟨#[]⟩ : ByteArray)), (0), (by first | rfl | (simp; done) | (simp [*]; done)), (by first | rfl | (simp; done) | (simp [*]; done)), H', ⟨Nat.le_refl _⟩, by repeat (first | exact Drawn0.refl _ | apply Drawn0.step)⟩
  case round =>
    clear H'
    obtain ⟨x3_1, x5_1, rfl, rfl, HA, HK1, ⟨m1, rfl⟩⟩ := hrel
    cases gk with
    | zero => exact absurd HA.out (by simp [spec_zeros.l0])
    | succ k1 =>
      have H := HA.out
      clear HA
      simp only [spec_zeros.l0] at H
      by_cases c2 : x5_1 < a0
      · rw [if_pos c2] at H
        have c2b0 : decide (x5_1 < a0) = true := decide_eq_true c2
        clear c2
        by_cases c3 : x3_1.size + 1 ≤ 9223372036854775807
        · rw [if_pos c3] at H
          have c3b0 := eq_true c3
          have c3b1 : decide (x3_1.size + 1 ≤ 9223372036854775807) = true := decide_eq_true c3
          try have c3b2 : (9223372036854775807 < x3_1.size + 1) = False := eq_false (Nat.not_lt.2 c3)
          have H' := Aside0.mk H
          clear H
          go_wp2
          go_roundg k1
          case measure => have := HK1.out; omega
          case rel => exact ⟨(x3_1 ++ (⟨#[48]⟩ : ByteArray)), (wrap64 (x5_1 + 1)), (by first | rfl | (simp; done) | (simp [*]; done)), (by first | rfl | (simp; done) | (simp [*]; done)), H', ⟨by have := HK1.out; omega⟩, by repeat (first | exact Drawn0.refl _ | apply Drawn0.step)⟩
        · rw [if_neg c3] at H
          exact absurd H (by simp)
      · rw [if_neg c2] at H
        have c2b0 : decide (x5_1 < a0) = false := decide_eq_false c2
        clear c2
        obtain rfl := Option.some.inj H
        go_wp2
        go_ret
        exact ⟨by first | rfl | (simp; done) | (simp [*]; done), by repeat (first | exact Drawn0.refl _ | apply Drawn0.step)⟩

end Go.Proofs.YtiopeaponffmdaaDoor.PAll
-- YtiopeaponffmdaaDoorPAllx27
namespace Go.Proofs.YtiopeaponffmdaaDoor.PAll
open Go.RowKit Go.Proofs.YtiopeaponffmdaaDoorW.PrintWords Go.Proofs.YtiopeaponffmdaaDoorW.PrintLast Go.Proofs.YtiopeaponffmdaaDoorW.PrintMore
attribute [local go_sem] max2_int min2_int max_two min_two max_three min_three max_four min_four   -- for this text's walks alone
set_option linter.unusedVariables false
set_option linter.unusedSimpArgs false

mutual
def spec_Laid.j2 : Nat → ByteArray → Int → Int → Option (ByteArray)
  | 0, _, _, _ => none
  | k + 1, x0, x1, x5 => (spec_decimals.f k (IntKind.u64.wrap (mx (wrap64 (x1 - 1)) 0))).bind fun t451 => (if 2 + t451.size ≤ 9223372036854775807 then (if (wrap64 (x1 - 1)) < 0 then ((spec_decimals.f k (IntKind.u64.wrap (wrap64 (1 - x1)))).bind fun t452 => (if 2 + t452.size ≤ 9223372036854775807 then (if x5 = 1 then (if x0.size + ((⟨#[101, 45]⟩ : ByteArray) ++ t452).size ≤ 9223372036854775807 then (some (x0 ++ ((⟨#[101, 45]⟩ : ByteArray) ++ t452))) else (none)) else (if 0 ≤ 1 then (if 1 ≤ (x0.size : Int) then (if (x0.extract 0 1).size + 1 ≤ 9223372036854775807 then (if ((x0.extract 0 1) ++ (⟨#[46]⟩ : ByteArray)).size + (x0.extract 1 x0.size).size ≤ 9223372036854775807 then (if (((x0.extract 0 1) ++ (⟨#[46]⟩ : ByteArray)) ++ (x0.extract 1 x0.size)).size + ((⟨#[101, 45]⟩ : ByteArray) ++ t452).size ≤ 9223372036854775807 then (some ((((x0.extract 0 1) ++ (⟨#[46]⟩ : ByteArray)) ++ (x0.extract 1 x0.size)) ++ ((⟨#[101, 45]⟩ : ByteArray) ++ t452))) else (none)) else (none)) else (none)) else (none)) else (none))) else (none))) else (if x5 = 1 then (if x0.size + ((⟨#[101, 43]⟩ : ByteArray) ++ t451).size ≤ 9223372036854775807 then (some (x0 ++ ((⟨#[101, 43]⟩ : ByteArray) ++ t451))) else (none)) else (if 0 ≤ 1 then (if 1 ≤ (x0.size : Int) then (if (x0.extract 0 1).size + 1 ≤ 9223372036854775807 then (if ((x0.extract 0 1) ++ (⟨#[46]⟩ : ByteArray)).size + (x0.extract 1 x0.size).size ≤ 9223372036854775807 then (if (((x0.extract 0 1) ++ (⟨#[46]⟩ : ByteArray)) ++ (x0.extract 1 x0.size)).size + ((⟨#[101, 43]⟩ : ByteArray) ++ t451).size ≤ 9223372036854775807 then (some ((((x0.extract 0 1) ++ (⟨#[46]⟩ : ByteArray)) ++ (x0.extract 1 x0.size)) ++ ((⟨#[101, 43]⟩ : ByteArray) ++ t451))) else (none)) else (none)) else (none)) else (none)) else (none)))) else (none))
def spec_Laid.j0 : Nat → ByteArray → Int → Int → Bool → Option (ByteArray)
  | 0, _, _, _, _ => none
  | k + 1, x0, x1, x5, x9 => if x9 = true then ((spec_zeros.f k (wrap64 (x1 - x5))).bind fun t449 => (if x0.size + t449.size ≤ 9223372036854775807 then (some (x0 ++ t449)) else (none))) else (if x1 > 0 then (spec_Laid.j1 k x0 x1 x5 (decide (x1 ≤ 21))) else (spec_Laid.j1 k x0 x1 x5 false))
def spec_Laid.j1 : Nat → ByteArray → Int → Int → Bool → Option (ByteArray)
  | 0, _, _, _, _ => none
  | k + 1, x0, x1, x5, x23 => if x23 = true then (if 0 ≤ x1 then (if x1 ≤ (x0.size : Int) then (if (x0.extract 0 (x1 : Int).toNat).size + 1 ≤ 9223372036854775807 then (if ((x0.extract 0 (x1 : Int).toNat) ++ (⟨#[46]⟩ : ByteArray)).size + (x0.extract (x1 : Int).toNat x0.size).size ≤ 9223372036854775807 then (some (((x0.extract 0 (x1 : Int).toNat) ++ (⟨#[46]⟩ : ByteArray)) ++ (x0.extract (x1 : Int).toNat x0.size))) else (none)) else (none)) else (none)) else (none)) else (if x1 > (-6) then (if x1 ≤ 0 then ((spec_zeros.f k (wrap64 (-x1))).bind fun t450 => (if 2 + t450.size ≤ 9223372036854775807 then (if ((⟨#[48, 46]⟩ : ByteArray) ++ t450).size + x0.size ≤ 9223372036854775807 then (some (((⟨#[48, 46]⟩ : ByteArray) ++ t450) ++ x0)) else (none)) else (none))) else (spec_Laid.j2 k x0 x1 x5)) else (spec_Laid.j2 k x0 x1 x5))
end
def spec_Laid.f (k : Nat) (a0 : ByteArray) (a1 : Int) : Option (ByteArray) := if (a0.size : Int) ≤ a1 then (spec_Laid.j0 k a0 a1 (a0.size : Int) (decide (a1 ≤ 21))) else (spec_Laid.j0 k a0 a1 (a0.size : Int) false)
theorem spec_Laid.mono_l : ∀ k, (∀ y0 y1 y2, LeO (spec_Laid.j2 k y0 y1 y2) (spec_Laid.j2 (k + 1) y0 y1 y2)) ∧ (∀ y0 y1 y2 y3, LeO (spec_Laid.j0 k y0 y1 y2 y3) (spec_Laid.j0 (k + 1) y0 y1 y2 y3)) ∧ (∀ y0 y1 y2 y3, LeO (spec_Laid.j1 k y0 y1 y2 y3) (spec_Laid.j1 (k + 1) y0 y1 y2 y3))
  | 0 => ⟨fun _ _ _ r h => by simp [spec_Laid.j2] at h, fun _ _ _ _ r h => by simp [spec_Laid.j0] at h, fun _ _ _ _ r h => by simp [spec_Laid.j1] at h⟩
  | k + 1 => by
    obtain ⟨ih0, ih1, ih2⟩ := spec_Laid.mono_l k
    refine ⟨?_, ?_, ?_⟩
    · intro y0 y1 y2
      unfold spec_Laid.j2
      repeat' first
      | (with_reducible exact ih0 _ _ _)
      | (with_reducible exact ih1 _ _ _ _)
      | (with_reducible exact ih2 _ _ _ _)
      | (with_reducible exact spec_decimals.mono _ _)
      | (with_reducible exact spec_zeros.mono _ _)
      | (with_reducible exact LeO.refl _)
      | (with_reducible exact LeO.none _)
      | (with_reducible refine LeO.ite ?_ ?_)
      | (with_reducible refine LeO.bind ?_ (fun _ => ?_))
      | exact ih0 _ _ _
      | exact ih1 _ _ _ _
      | exact ih2 _ _ _ _
      | exact spec_decimals.mono _ _
      | exact spec_zeros.mono _ _
      | exact LeO.none _
      | refine LeO.ite ?_ ?_
      | refine LeO.bind ?_ (fun _ => ?_)
    · intro y0 y1 y2 y3
      unfold spec_Laid.j0
      repeat' first
      | (with_reducible exact ih0 _ _ _)
      | (with_reducible exact ih1 _ _ _ _)
      | (with_reducible exact ih2 _ _ _ _)
      | (with_reducible exact spec_decimals.mono _ _)
      | (with_reducible exact spec_zeros.mono _ _)
      | (with_reducible exact LeO.refl _)
      | (with_reducible exact LeO.none _)
      | (with_reducible refine LeO.ite ?_ ?_)
      | (with_reducible refine LeO.bind ?_ (fun _ => ?_))
      | exact ih0 _ _ _
      | exact ih1 _ _ _ _
      | exact ih2 _ _ _ _
      | exact spec_decimals.mono _ _
      | exact spec_zeros.mono _ _
      | exact LeO.none _
      | refine LeO.ite ?_ ?_
      | refine LeO.bind ?_ (fun _ => ?_)
    · intro y0 y1 y2 y3
      unfold spec_Laid.j1
      repeat' first
      | (with_reducible exact ih0 _ _ _)
      | (with_reducible exact ih1 _ _ _ _)
      | (with_reducible exact ih2 _ _ _ _)
      | (with_reducible exact spec_decimals.mono _ _)
      | (with_reducible exact spec_zeros.mono _ _)
      | (with_reducible exact LeO.refl _)
      | (with_reducible exact LeO.none _)
      | (with_reducible refine LeO.ite ?_ ?_)
      | (with_reducible refine LeO.bind ?_ (fun _ => ?_))
      | exact ih0 _ _ _
      | exact ih1 _ _ _ _
      | exact ih2 _ _ _ _
      | exact spec_decimals.mono _ _
      | exact spec_zeros.mono _ _
      | exact LeO.none _
      | refine LeO.ite ?_ ?_
      | refine LeO.bind ?_ (fun _ => ?_)
theorem spec_Laid.mono : ∀ a0 a1 k, LeO (spec_Laid.f k a0 a1) (spec_Laid.f (k + 1) a0 a1) := by
  intro a0 a1 k
  obtain ⟨ih0, ih1, ih2⟩ := spec_Laid.mono_l k
  unfold spec_Laid.f
  repeat' first
      | (with_reducible exact ih0 _ _ _)
      | (with_reducible exact ih1 _ _ _ _)
      | (with_reducible exact ih2 _ _ _ _)
      | (with_reducible exact spec_decimals.mono _ _)
      | (with_reducible exact spec_zeros.mono _ _)
      | (with_reducible exact LeO.refl _)
      | (with_reducible exact LeO.none _)
      | (with_reducible refine LeO.ite ?_ ?_)
      | (with_reducible refine LeO.bind ?_ (fun _ => ?_))
      | exact ih0 _ _ _
      | exact ih1 _ _ _ _
      | exact ih2 _ _ _ _
      | exact spec_decimals.mono _ _
      | exact spec_zeros.mono _ _
      | exact LeO.none _
      | refine LeO.ite ?_ ?_
      | refine LeO.bind ?_ (fun _ => ?_)
set_option maxHeartbeats 8000000 in
set_option maxRecDepth 100000 in
theorem spec_Laid.calls (k : Nat) (a0 : ByteArray) (a1 : Int) (r : ByteArray) (w : World) (h : spec_Laid.f k a0 a1 = some r) :
    Calls Tryd.prog 35 #[.string a0, .int .i64 a1] w fun e w' => e = .returned (.string r) ∧ Below w.heap.size w w' := by
  have HB := Aside0.mk (Below.refl w.heap.size w)
  have H : (if (a0.size : Int) ≤ a1 then (spec_Laid.j0 k a0 a1 (a0.size : Int) (decide (a1 ≤ 21))) else (spec_Laid.j0 k a0 a1 (a0.size : Int) false)) = some r := h
  clear h
  have HC3 := Aside0.mk H
  clear H
  go_enter Tryd.func35, Tryd.ntmps35
  go_upto_block 0 with (fail)
  repeat (go_quiet (fail); go_upto_block 0 with (fail))
  go_cut [] (fun wc => ∃ (kq : Nat), Aside0 (spec_Laid.j2 kq a0 a1 (a0.size : Int) = some r) ∧ Aside0 (kq ≤ k) ∧ Aside0 (Below w.heap.size w wc))
  case first =>
    have H := HC3.out
    clear HC3
    have HC4 := Aside0.mk H
    clear H
    go_upto_region 2 with (fail)
    repeat (go_quiet (fail); go_upto_region 2 with (fail))
    go_cut [9] (fun v9 wc => ∃ (kq : Nat) (x9_3 : Bool), v9 = .bool x9_3 ∧ Aside0 (spec_Laid.j0 kq a0 a1 (a0.size : Int) x9_3 = some r) ∧ Aside0 (kq ≤ k) ∧ Aside0 (Below w.heap.size w wc))
    case first =>
      have H := HC4.out
      clear HC4
      by_cases c5 : (a0.size : Int) ≤ a1
      · rw [if_pos c5] at H
        have c5b0 : decide ((a0.size : Int) ≤ a1) = true := decide_eq_true c5
        clear c5
        (first | rw [c5b0] | (simp only [i64_w, i32_w]; rw [c5b0]) | skip)
        have H' := Aside0.mk H
        clear H
        go_wp2
        repeat (go_quiet (fail); try go_wp2)
        go_meet
        case rel => exact ⟨_, (decide (a1 ≤ 21)), (by first | rfl | (simp; done) | (simp [*]; done)), H', ⟨by first | omega | exact Nat.le_refl _⟩, ⟨by repeat (first | (with_reducible first | exact HB.out | apply below_alloc | apply pw_below_drewN | apply below_drew1) | exact HB.out)⟩⟩
      · rw [if_neg c5] at H
        have c5b0 : decide ((a0.size : Int) ≤ a1) = false := decide_eq_false c5
        clear c5
        (first | rw [c5b0] | (simp only [i64_w, i32_w]; rw [c5b0]) | skip)
        have H' := Aside0.mk H
        clear H
        go_wp2
        repeat (go_quiet (fail); try go_wp2)
        go_meet
        case rel => exact ⟨_, (false), (by first | rfl | (simp; done) | (simp [*]; done)), H', ⟨by first | omega | exact Nat.le_refl _⟩, ⟨by repeat (first | (with_reducible first | exact HB.out | apply below_alloc | apply pw_below_drewN | apply below_drew1) | exact HB.out)⟩⟩
    case rest =>
      clear HC4
      try clear p2
      try clear c3
      try clear c5
      try clear c5b0
      obtain ⟨kq, x9_3, rfl, HA, HJ3, HB⟩ := hcut
      cases kq with
      | zero => exact absurd HA.out (by simp [spec_Laid.j0])
      | succ kj3 =>
        have H := HA.out
        clear HA
        simp only [spec_Laid.j0] at H
        by_cases c6 : x9_3 = true
        · subst c6
          have H1 : ((spec_zeros.f kj3 (wrap64 (a1 - (a0.size : Int)))).bind fun t449 => (if a0.size + t449.size ≤ 9223372036854775807 then (some (a0 ++ t449)) else (none))) = some r := by rw [if_pos rfl] at H; exact H
          clear H
          have H := H1
          clear H1
          replace H := Option.bind_eq_some_iff.mp H
          obtain ⟨t449, A70, H⟩ := H
          replace H : (if a0.size + t449.size ≤ 9223372036854775807 then (some (a0 ++ t449)) else (none)) = some r := H
          have A7 := Aside0.mk A70
          clear A70
          by_cases c8 : a0.size + t449.size ≤ 9223372036854775807
          · rw [if_pos c8] at H
            have c8b0 := eq_true c8
            have c8b1 : decide (a0.size + t449.size ≤ 9223372036854775807) = true := decide_eq_true c8
            try have c8b2 : (9223372036854775807 < a0.size + t449.size) = False := eq_false (Nat.not_lt.2 c8)
            obtain rfl := Option.some.inj H
            go_wp2_with (first | (go_at_call 48; (with_reducible refine (spec_zeros.calls kj3 (wrap64 (a1 - (a0.size : Int))) t449 _ A7.out).mono ?_); rintro e w' ⟨rfl, ⟨nd, rfl⟩⟩; (try first | exact ⟨rfl, _, World.drewN_drewN _ _ _⟩ | exact ⟨rfl, _, Eq.trans (World.drewN_drewN _ _ _) (congrArg (World.drewN _) (Nat.add_assoc _ _ _))⟩)))
            repeat (go_quiet (first | (go_at_call 48; (with_reducible refine (spec_zeros.calls kj3 (wrap64 (a1 - (a0.size : Int))) t449 _ A7.out).mono ?_); rintro e w' ⟨rfl, ⟨nd, rfl⟩⟩; (try first | exact ⟨rfl, _, World.drewN_drewN _ _ _⟩ | exact ⟨rfl, _, Eq.trans (World.drewN_drewN _ _ _) (congrArg (World.drewN _) (Nat.add_assoc _ _ _))⟩))); try go_wp2_with (first | (go_at_call 48; (with_reducible refine (spec_zeros.calls kj3 (wrap64 (a1 - (a0.size : Int))) t449 _ A7.out).mono ?_); rintro e w' ⟨rfl, ⟨nd, rfl⟩⟩; (try first | exact ⟨rfl, _, World.drewN_drewN _ _ _⟩ | exact ⟨rfl, _, Eq.trans (World.drewN_drewN _ _ _) (congrArg (World.drewN _) (Nat.add_assoc _ _ _))⟩))))
            go_ret
            exact ⟨by first | rfl | (simp [errW_none, errW_some] <;> rfl) | (simp [*, errW_none, errW_some] <;> rfl), by repeat (first | (with_reducible first | exact HB.out | apply below_alloc | apply pw_below_drewN | apply below_drew1) | exact HB.out)⟩
          · rw [if_neg c8] at H
            exact absurd H (by simp)
        · replace c6 := Bool.eq_false_iff.mpr c6
          subst c6
          have H1 : (if a1 > 0 then (spec_Laid.j1 kj3 a0 a1 (a0.size : Int) (decide (a1 ≤ 21))) else (spec_Laid.j1 kj3 a0 a1 (a0.size : Int) false)) = some r := by rw [if_neg (show ¬ (false = true) by decide)] at H; exact H
          clear H
          have H := H1
          clear H1
          have HC9 := Aside0.mk H
          clear H
          go_upto_region 4 with (fail)
          repeat (go_quiet (fail); go_upto_region 4 with (fail))
          go_cut [23] (fun v23 wc => ∃ (kq : Nat) (x23_8 : Bool), v23 = .bool x23_8 ∧ Aside0 (spec_Laid.j1 kq a0 a1 (a0.size : Int) x23_8 = some r) ∧ Aside0 (kq ≤ kj3) ∧ Aside0 (Below w.heap.size w wc))
          case first =>
            have H := HC9.out
            clear HC9
            by_cases c10 : a1 > 0
            · rw [if_pos c10] at H
              have c10b0 : decide (0 < a1) = true := decide_eq_true c10
              clear c10
              (first | rw [c10b0] | (simp only [i64_w, i32_w]; rw [c10b0]) | skip)
              have H' := Aside0.mk H
              clear H
              go_wp2
              repeat (go_quiet (fail); try go_wp2)
              go_meet
              case rel => exact ⟨_, (decide (a1 ≤ 21)), (by first | rfl | (simp; done) | (simp [*]; done)), H', ⟨by have := HJ3.out; first | omega | exact Nat.le_refl _⟩, ⟨by repeat (first | (with_reducible first | exact HB.out | apply below_alloc | apply pw_below_drewN | apply below_drew1) | exact HB.out)⟩⟩
            · rw [if_neg c10] at H
              have c10b0 : decide (0 < a1) = false := decide_eq_false c10
              clear c10
              (first | rw [c10b0] | (simp only [i64_w, i32_w]; rw [c10b0]) | skip)
              have H' := Aside0.mk H
              clear H
              go_wp2
              repeat (go_quiet (fail); try go_wp2)
              go_meet
              case rel => exact ⟨_, (false), (by first | rfl | (simp; done) | (simp [*]; done)), H', ⟨by have := HJ3.out; first | omega | exact Nat.le_refl _⟩, ⟨by repeat (first | (with_reducible first | exact HB.out | apply below_alloc | apply pw_below_drewN | apply below_drew1) | exact HB.out)⟩⟩
          case rest =>
            clear HC9
            try clear c1
            try clear p2
            try clear c3
            try clear c5
            try clear c5b0
            try clear c6
            try clear p6
            try clear c8
            try clear c8b0
            try clear c8b1
            try clear c8b2
            try clear c10
            try clear c10b0
            try clear p2
            obtain ⟨kq, x23_8, rfl, HA, HJ8, HB⟩ := hcut
            cases kq with
            | zero => exact absurd HA.out (by simp [spec_Laid.j1])
            | succ kj8 =>
              have H := HA.out
              clear HA
              simp only [spec_Laid.j1] at H
              by_cases c11 : x23_8 = true
              · subst c11
                have H1 : (if 0 ≤ a1 then (if a1 ≤ (a0.size : Int) then (if (a0.extract 0 (a1 : Int).toNat).size + 1 ≤ 9223372036854775807 then (if ((a0.extract 0 (a1 : Int).toNat) ++ (⟨#[46]⟩ : ByteArray)).size + (a0.extract (a1 : Int).toNat a0.size).size ≤ 9223372036854775807 then (some (((a0.extract 0 (a1 : Int).toNat) ++ (⟨#[46]⟩ : ByteArray)) ++ (a0.extract (a1 : Int).toNat a0.size))) else (none)) else (none)) else (none)) else (none)) = some r := by rw [if_pos rfl] at H; exact H
                clear H
                have H := H1
                clear H1
                by_cases c12 : 0 ≤ a1
                · rw [if_pos c12] at H
                  have c12b0 := eq_true c12
                  have c12b1 : decide (0 ≤ a1) = true := decide_eq_true c12
                  clear c12
                  by_cases c13 : a1 ≤ (a0.size : Int)
                  · rw [if_pos c13] at H
                    have c13b0 := eq_true c13
                    have c13b1 : decide (a1 ≤ (a0.size : Int)) = true := decide_eq_true c13
                    clear c13
                    by_cases c14 : (a0.extract 0 (a1 : Int).toNat).size + 1 ≤ 9223372036854775807
                    · rw [if_pos c14] at H
                      have c14b0 := eq_true c14
                      have c14b1 : decide ((a0.extract 0 (a1 : Int).toNat).size + 1 ≤ 9223372036854775807) = true := decide_eq_true c14
                      try have c14b2 : (9223372036854775807 < (a0.extract 0 (a1 : Int).toNat).size + 1) = False := eq_false (Nat.not_lt.2 c14)
                      have c15b0 := eq_true (of_decide_eq_true (by first | (with_reducible assumption) | assumption) : 0 ≤ a1)
                      have c16b0 := eq_true (of_decide_eq_true (by first | (with_reducible assumption) | assumption) : a1 ≤ (a0.size : Int))
                      by_cases c17 : ((a0.extract 0 (a1 : Int).toNat) ++ (⟨#[46]⟩ : ByteArray)).size + (a0.extract (a1 : Int).toNat a0.size).size ≤ 9223372036854775807
                      · rw [if_pos c17] at H
                        have c17b0 := eq_true c17
                        have c17b1 : decide (((a0.extract 0 (a1 : Int).toNat) ++ (⟨#[46]⟩ : ByteArray)).size + (a0.extract (a1 : Int).toNat a0.size).size ≤ 9223372036854775807) = true := decide_eq_true c17
                        try have c17b2 : (9223372036854775807 < ((a0.extract 0 (a1 : Int).toNat) ++ (⟨#[46]⟩ : ByteArray)).size + (a0.extract (a1 : Int).toNat a0.size).size) = False := eq_false (Nat.not_lt.2 c17)
                        have y1 : a1.toNat + 1 ≤ 9223372036854775807 := by have h0 := of_eq_true c13b0; have h1 := of_eq_true c14b0; simp at h1; omega
                        have y2 : a1.toNat + 1 + (a0.size - a1.toNat) ≤ 9223372036854775807 := by have h0 := of_eq_true c13b0; have e1 : (⟨#[46]⟩ : ByteArray).size = 1 := rfl; have h1 := of_eq_true c17b0; simp [ByteArray.size_append, e1] at h1; omega
                        have y3 := eq_false (Nat.not_lt.2 y1)
                        have y4 := eq_false (Nat.not_lt.2 y2)
                        obtain rfl := Option.some.inj H
                        go_wp2
                        repeat (go_quiet (fail); try go_wp2)
                        go_ret
                        exact ⟨by first | rfl | (simp [errW_none, errW_some] <;> rfl) | (simp [*, errW_none, errW_some] <;> rfl), by repeat (first | (with_reducible first | exact HB.out | apply below_alloc | apply pw_below_drewN | apply below_drew1) | exact HB.out)⟩
                      · rw [if_neg c17] at H
                        exact absurd H (by simp)
                    · rw [if_neg c14] at H
                      exact absurd H (by simp)
                  · rw [if_neg c13] at H
                    exact absurd H (by simp)
                · rw [if_neg c12] at H
                  exact absurd H (by simp)
              · replace c11 := Bool.eq_false_iff.mpr c11
                subst c11
                have H1 : (if a1 > (-6) then (if a1 ≤ 0 then ((spec_zeros.f kj8 (wrap64 (-a1))).bind fun t450 => (if 2 + t450.size ≤ 9223372036854775807 then (if ((⟨#[48, 46]⟩ : ByteArray) ++ t450).size + a0.size ≤ 9223372036854775807 then (some (((⟨#[48, 46]⟩ : ByteArray) ++ t450) ++ a0)) else (none)) else (none))) else (spec_Laid.j2 kj8 a0 a1 (a0.size : Int))) else (spec_Laid.j2 kj8 a0 a1 (a0.size : Int))) = some r := by rw [if_neg (show ¬ (false = true) by decide)] at H; exact H
                clear H
                have H := H1
                clear H1
                by_cases c18 : a1 > (-6)
                · rw [if_pos c18] at H
                  have c18b0 : decide ((-6) < a1) = true := decide_eq_true c18
                  clear c18
                  by_cases c19 : a1 ≤ 0
                  · rw [if_pos c19] at H
                    have c19b0 : decide (a1 ≤ 0) = true := decide_eq_true c19
                    clear c19
                    replace H := Option.bind_eq_some_iff.mp H
                    obtain ⟨t450, A200, H⟩ := H
                    replace H : (if 2 + t450.size ≤ 9223372036854775807 then (if ((⟨#[48, 46]⟩ : ByteArray) ++ t450).size + a0.size ≤ 9223372036854775807 then (some (((⟨#[48, 46]⟩ : ByteArray) ++ t450) ++ a0)) else (none)) else (none)) = some r := H
                    have A20 := Aside0.mk A200
                    clear A200
                    by_cases c21 : 2 + t450.size ≤ 9223372036854775807
                    · rw [if_pos c21] at H
                      have c21b0 := eq_true c21
                      have c21b1 : decide (2 + t450.size ≤ 9223372036854775807) = true := decide_eq_true c21
                      try have c21b2 : (9223372036854775807 < 2 + t450.size) = False := eq_false (Nat.not_lt.2 c21)
                      by_cases c22 : ((⟨#[48, 46]⟩ : ByteArray) ++ t450).size + a0.size ≤ 9223372036854775807
                      · rw [if_pos c22] at H
                        have c22b0 := eq_true c22
                        have c22b1 : decide (((⟨#[48, 46]⟩ : ByteArray) ++ t450).size + a0.size ≤ 9223372036854775807) = true := decide_eq_true c22
                        try have c22b2 : (9223372036854775807 < ((⟨#[48, 46]⟩ : ByteArray) ++ t450).size + a0.size) = False := eq_false (Nat.not_lt.2 c22)
                        obtain rfl := Option.some.inj H
                        go_wp2_with (first | (go_at_call 48; (with_reducible refine (spec_zeros.calls kj8 (wrap64 (-a1)) t450 _ A20.out).mono ?_); rintro e w' ⟨rfl, ⟨nd, rfl⟩⟩; (try first | exact ⟨rfl, _, World.drewN_drewN _ _ _⟩ | exact ⟨rfl, _, Eq.trans (World.drewN_drewN _ _ _) (congrArg (World.drewN _) (Nat.add_assoc _ _ _))⟩)))
                        repeat (go_quiet (first | (go_at_call 48; (with_reducible refine (spec_zeros.calls kj8 (wrap64 (-a1)) t450 _ A20.out).mono ?_); rintro e w' ⟨rfl, ⟨nd, rfl⟩⟩; (try first | exact ⟨rfl, _, World.drewN_drewN _ _ _⟩ | exact ⟨rfl, _, Eq.trans (World.drewN_drewN _ _ _) (congrArg (World.drewN _) (Nat.add_assoc _ _ _))⟩))); try go_wp2_with (first | (go_at_call 48; (with_reducible refine (spec_zeros.calls kj8 (wrap64 (-a1)) t450 _ A20.out).mono ?_); rintro e w' ⟨rfl, ⟨nd, rfl⟩⟩; (try first | exact ⟨rfl, _, World.drewN_drewN _ _ _⟩ | exact ⟨rfl, _, Eq.trans (World.drewN_drewN _ _ _) (congrArg (World.drewN _) (Nat.add_assoc _ _ _))⟩))))
                        go_ret
                        exact ⟨by first | rfl | (simp [errW_none, errW_some] <;> rfl) | (simp [*, errW_none, errW_some] <;> rfl), by repeat (first | (with_reducible first | exact HB.out | apply below_alloc | apply pw_below_drewN | apply below_drew1) | exact HB.out)⟩
                      · rw [if_neg c22] at H
                        exact absurd H (by simp)
                    · rw [if_neg c21] at H
                      exact absurd H (by simp)
                  · rw [if_neg c19] at H
                    have c19b0 : decide (a1 ≤ 0) = false := decide_eq_false c19
                    clear c19
                    have H' := Aside0.mk H
                    clear H
                    go_wp2
                    repeat (go_quiet (fail); try go_wp2)
                    go_meet
                    case rel => exact ⟨_, H', ⟨by have := HJ3.out; have := HJ8.out; first | omega | exact Nat.le_refl _⟩, ⟨by repeat (first | (with_reducible first | exact HB.out | apply below_alloc | apply pw_below_drewN | apply below_drew1) | exact HB.out)⟩⟩
                · rw [if_neg c18] at H
                  have c18b0 : decide ((-6) < a1) = false := decide_eq_false c18
                  clear c18
                  have H' := Aside0.mk H
                  clear H
                  go_wp2
                  repeat (go_quiet (fail); try go_wp2)
                  go_meet
                  case rel => exact ⟨_, H', ⟨by have := HJ3.out; have := HJ8.out; first | omega | exact Nat.le_refl _⟩, ⟨by repeat (first | (with_reducible first | exact HB.out | apply below_alloc | apply pw_below_drewN | apply below_drew1) | exact HB.out)⟩⟩
  case rest =>
    clear HC3
    try clear c1
    try clear c2
    try clear p2
    try clear c3
    try clear c5
    try clear c5b0
    try clear c6
    try clear p6
    try clear c8
    try clear c8b0
    try clear c8b1
    try clear c8b2
    try clear c10
    try clear c10b0
    try clear c11
    try clear c12
    try clear c12b0
    try clear c12b1
    try clear c13
    try clear c13b0
    try clear c13b1
    try clear c14
    try clear c14b0
    try clear c14b1
    try clear c14b2
    try clear c15
    try clear c15b0
    try clear c16
    try clear c16b0
    try clear c17
    try clear c17b0
    try clear c17b1
    try clear c17b2
    try clear c18
    try clear c18b0
    try clear c19
    try clear c19b0
    try clear c21
    try clear c21b0
    try clear c21b1
    try clear c21b2
    try clear c22
    try clear c22b0
    try clear c22b1
    try clear c22b2
    try clear p2
    try clear p6
    obtain ⟨kq, HA, HJ2, HB⟩ := hcut
    cases kq with
    | zero => exact absurd HA.out (by simp [spec_Laid.j2])
    | succ kj2 =>
      have H := HA.out
      clear HA
      simp only [spec_Laid.j2] at H
      obtain ⟨ji23, hji23⟩ : ∃ j_ : Int, (mx (wrap64 (a1 - 1)) 0) = j_ := ⟨_, rfl⟩
      replace H : ((spec_decimals.f kj2 (IntKind.u64.wrap (ji23))).bind fun t451 => (if 2 + t451.size ≤ 9223372036854775807 then (if (wrap64 (a1 - 1)) < 0 then ((spec_decimals.f kj2 (IntKind.u64.wrap (wrap64 (1 - a1)))).bind fun t452 => (if 2 + t452.size ≤ 9223372036854775807 then (if (a0.size : Int) = 1 then (if a0.size + ((⟨#[101, 45]⟩ : ByteArray) ++ t452).size ≤ 9223372036854775807 then (some (a0 ++ ((⟨#[101, 45]⟩ : ByteArray) ++ t452))) else (none)) else (if 0 ≤ 1 then (if 1 ≤ (a0.size : Int) then (if (a0.extract 0 1).size + 1 ≤ 9223372036854775807 then (if ((a0.extract 0 1) ++ (⟨#[46]⟩ : ByteArray)).size + (a0.extract 1 a0.size).size ≤ 9223372036854775807 then (if (((a0.extract 0 1) ++ (⟨#[46]⟩ : ByteArray)) ++ (a0.extract 1 a0.size)).size + ((⟨#[101, 45]⟩ : ByteArray) ++ t452).size ≤ 9223372036854775807 then (some ((((a0.extract 0 1) ++ (⟨#[46]⟩ : ByteArray)) ++ (a0.extract 1 a0.size)) ++ ((⟨#[101, 45]⟩ : ByteArray) ++ t452))) else (none)) else (none)) else (none)) else (none)) else (none))) else (none))) else (if (a0.size : Int) = 1 then (if a0.size + ((⟨#[101, 43]⟩ : ByteArray) ++ t451).size ≤ 9223372036854775807 then (some (a0 ++ ((⟨#[101, 43]⟩ : ByteArray) ++ t451))) else (none)) else (if 0 ≤ 1 then (if 1 ≤ (a0.size : Int) then (if (a0.extract 0 1).size + 1 ≤ 9223372036854775807 then (if ((a0.extract 0 1) ++ (⟨#[46]⟩ : ByteArray)).size + (a0.extract 1 a0.size).size ≤ 9223372036854775807 then (if (((a0.extract 0 1) ++ (⟨#[46]⟩ : ByteArray)) ++ (a0.extract 1 a0.size)).size + ((⟨#[101, 43]⟩ : ByteArray) ++ t451).size ≤ 9223372036854775807 then (some ((((a0.extract 0 1) ++ (⟨#[46]⟩ : ByteArray)) ++ (a0.extract 1 a0.size)) ++ ((⟨#[101, 43]⟩ : ByteArray) ++ t451))) else (none)) else (none)) else (none)) else (none)) else (none)))) else (none))) = some r := by first | (rw [hji23] at H; exact H) | (simp only [hji23] at H ⊢; exact H)
      have hji23_ : (if (wrap64 (a1 - 1)) < 0 then 0 else (wrap64 (a1 - 1))) = ji23 := hji23
      replace H := Option.bind_eq_some_iff.mp H
      obtain ⟨t451, A240, H⟩ := H
      replace H : (if 2 + t451.size ≤ 9223372036854775807 then (if (wrap64 (a1 - 1)) < 0 then ((spec_decimals.f kj2 (IntKind.u64.wrap (wrap64 (1 - a1)))).bind fun t452 => (if 2 + t452.size ≤ 9223372036854775807 then (if (a0.size : Int) = 1 then (if a0.size + ((⟨#[101, 45]⟩ : ByteArray) ++ t452).size ≤ 9223372036854775807 then (some (a0 ++ ((⟨#[101, 45]⟩ : ByteArray) ++ t452))) else (none)) else (if 0 ≤ 1 then (if 1 ≤ (a0.size : Int) then (if (a0.extract 0 1).size + 1 ≤ 9223372036854775807 then (if ((a0.extract 0 1) ++ (⟨#[46]⟩ : ByteArray)).size + (a0.extract 1 a0.size).size ≤ 9223372036854775807 then (if (((a0.extract 0 1) ++ (⟨#[46]⟩ : ByteArray)) ++ (a0.extract 1 a0.size)).size + ((⟨#[101, 45]⟩ : ByteArray) ++ t452).size ≤ 9223372036854775807 then (some ((((a0.extract 0 1) ++ (⟨#[46]⟩ : ByteArray)) ++ (a0.extract 1 a0.size)) ++ ((⟨#[101, 45]⟩ : ByteArray) ++ t452))) else (none)) else (none)) else (none)) else (none)) else (none))) else (none))) else (if (a0.size : Int) = 1 then (if a0.size + ((⟨#[101, 43]⟩ : ByteArray) ++ t451).size ≤ 9223372036854775807 then (some (a0 ++ ((⟨#[101, 43]⟩ : ByteArray) ++ t451))) else (none)) else (if 0 ≤ 1 then (if 1 ≤ (a0.size : Int) then (if (a0.extract 0 1).size + 1 ≤ 9223372036854775807 then (if ((a0.extract 0 1) ++ (⟨#[46]⟩ : ByteArray)).size + (a0.extract 1 a0.size).size ≤ 9223372036854775807 then (if (((a0.extract 0 1) ++ (⟨#[46]⟩ : ByteArray)) ++ (a0.extract 1 a0.size)).size + ((⟨#[101, 43]⟩ : ByteArray) ++ t451).size ≤ 9223372036854775807 then (some ((((a0.extract 0 1) ++ (⟨#[46]⟩ : ByteArray)) ++ (a0.extract 1 a0.size)) ++ ((⟨#[101, 43]⟩ : ByteArray) ++ t451))) else (none)) else (none)) else (none)) else (none)) else (none)))) else (none)) = some r := H
      have A24 := Aside0.mk A240
      clear A240
      by_cases c25 : 2 + t451.size ≤ 9223372036854775807
      · rw [if_pos c25] at H
        have c25b0 := eq_true c25
        have c25b1 : decide (2 + t451.size ≤ 9223372036854775807) = true := decide_eq_true c25
        try have c25b2 : (9223372036854775807 < 2 + t451.size) = False := eq_false (Nat.not_lt.2 c25)
        by_cases c26 : (wrap64 (a1 - 1)) < 0
        · rw [if_pos c26] at H
          have c26b0 : decide ((wrap64 (a1 - 1)) < 0) = true := decide_eq_true c26
          clear c26
          replace H := Option.bind_eq_some_iff.mp H
          obtain ⟨t452, A270, H⟩ := H
          replace H : (if 2 + t452.size ≤ 9223372036854775807 then (if (a0.size : Int) = 1 then (if a0.size + ((⟨#[101, 45]⟩ : ByteArray) ++ t452).size ≤ 9223372036854775807 then (some (a0 ++ ((⟨#[101, 45]⟩ : ByteArray) ++ t452))) else (none)) else (if 0 ≤ 1 then (if 1 ≤ (a0.size : Int) then (if (a0.extract 0 1).size + 1 ≤ 9223372036854775807 then (if ((a0.extract 0 1) ++ (⟨#[46]⟩ : ByteArray)).size + (a0.extract 1 a0.size).size ≤ 9223372036854775807 then (if (((a0.extract 0 1) ++ (⟨#[46]⟩ : ByteArray)) ++ (a0.extract 1 a0.size)).size + ((⟨#[101, 45]⟩ : ByteArray) ++ t452).size ≤ 9223372036854775807 then (some ((((a0.extract 0 1) ++ (⟨#[46]⟩ : ByteArray)) ++ (a0.extract 1 a0.size)) ++ ((⟨#[101, 45]⟩ : ByteArray) ++ t452))) else (none)) else (none)) else (none)) else (none)) else (none))) else (none)) = some r := H
          have A27 := Aside0.mk A270
          clear A270
          by_cases c28 : 2 + t452.size ≤ 9223372036854775807
          · rw [if_pos c28] at H
            have c28b0 := eq_true c28
            have c28b1 : decide (2 + t452.size ≤ 9223372036854775807) = true := decide_eq_true c28
            try have c28b2 : (9223372036854775807 < 2 + t452.size) = False := eq_false (Nat.not_lt.2 c28)
            by_cases c29 : (a0.size : Int) = 1
            · rw [if_pos c29] at H
              have c29b0 : ((a0.size : Int) == 1) = true := beq_iff_eq.mpr c29
              have c29b1 : ((a0.size : Int) != 1) = false := bne_eq_false_iff_eq.mpr c29
              clear c29
              by_cases c30 : a0.size + ((⟨#[101, 45]⟩ : ByteArray) ++ t452).size ≤ 9223372036854775807
              · rw [if_pos c30] at H
                have c30b0 := eq_true c30
                have c30b1 : decide (a0.size + ((⟨#[101, 45]⟩ : ByteArray) ++ t452).size ≤ 9223372036854775807) = true := decide_eq_true c30
                try have c30b2 : (9223372036854775807 < a0.size + ((⟨#[101, 45]⟩ : ByteArray) ++ t452).size) = False := eq_false (Nat.not_lt.2 c30)
                obtain rfl := Option.some.inj H
                go_wp2_with (first | (go_at_call 46; (with_reducible refine (spec_decimals.calls kj2 (IntKind.u64.wrap (ji23)) t451 _ A24.out).mono ?_); rintro e w31 ⟨rfl, hb⟩; have n0_ := Aside0.mk (below_step (by repeat (first | (with_reducible first | exact HB.out | apply below_alloc | apply pw_below_drewN | apply below_drew1) | exact HB.out)) hb); clear HB; have HB := n0_; clear n0_; (try clear hb); (try clear hb2); (try clear hk); (try clear hi)) | (go_at_call 46; (with_reducible refine (spec_decimals.calls kj2 (IntKind.u64.wrap (wrap64 (1 - a1))) t452 _ A27.out).mono ?_); rintro e w32 ⟨rfl, hb⟩; have n0_ := Aside0.mk (below_step (by repeat (first | (with_reducible first | exact HB.out | apply below_alloc | apply pw_below_drewN | apply below_drew1) | exact HB.out)) hb); clear HB; have HB := n0_; clear n0_; (try clear hb); (try clear hb2); (try clear hk); (try clear hi)))
                repeat (go_quiet (first | (go_at_call 46; (with_reducible refine (spec_decimals.calls kj2 (IntKind.u64.wrap (ji23)) t451 _ A24.out).mono ?_); rintro e w31 ⟨rfl, hb⟩; have n0_ := Aside0.mk (below_step (by repeat (first | (with_reducible first | exact HB.out | apply below_alloc | apply pw_below_drewN | apply below_drew1) | exact HB.out)) hb); clear HB; have HB := n0_; clear n0_; (try clear hb); (try clear hb2); (try clear hk); (try clear hi)) | (go_at_call 46; (with_reducible refine (spec_decimals.calls kj2 (IntKind.u64.wrap (wrap64 (1 - a1))) t452 _ A27.out).mono ?_); rintro e w32 ⟨rfl, hb⟩; have n0_ := Aside0.mk (below_step (by repeat (first | (with_reducible first | exact HB.out | apply below_alloc | apply pw_below_drewN | apply below_drew1) | exact HB.out)) hb); clear HB; have HB := n0_; clear n0_; (try clear hb); (try clear hb2); (try clear hk); (try clear hi))); try go_wp2_with (first | (go_at_call 46; (with_reducible refine (spec_decimals.calls kj2 (IntKind.u64.wrap (ji23)) t451 _ A24.out).mono ?_); rintro e w31 ⟨rfl, hb⟩; have n0_ := Aside0.mk (below_step (by repeat (first | (with_reducible first | exact HB.out | apply below_alloc | apply pw_below_drewN | apply below_drew1) | exact HB.out)) hb); clear HB; have HB := n0_; clear n0_; (try clear hb); (try clear hb2); (try clear hk); (try clear hi)) | (go_at_call 46; (with_reducible refine (spec_decimals.calls kj2 (IntKind.u64.wrap (wrap64 (1 - a1))) t452 _ A27.out).mono ?_); rintro e w32 ⟨rfl, hb⟩; have n0_ := Aside0.mk (below_step (by repeat (first | (with_reducible first | exact HB.out | apply below_alloc | apply pw_below_drewN | apply below_drew1) | exact HB.out)) hb); clear HB; have HB := n0_; clear n0_; (try clear hb); (try clear hb2); (try clear hk); (try clear hi))))
                go_ret
                exact ⟨by first | rfl | (simp [errW_none, errW_some] <;> rfl) | (simp only [← hji23]; first | rfl | (simp [errW_none, errW_some] <;> rfl)) | (simp [*, errW_none, errW_some] <;> rfl), by repeat (first | (with_reducible first | exact HB.out | apply below_alloc | apply pw_below_drewN | apply below_drew1) | exact HB.out)⟩
              · rw [if_neg c30] at H
                exact absurd H (by simp)
            · rw [if_neg c29] at H
              have c29b0 : ((a0.size : Int) == 1) = false := beq_eq_false_iff_ne.mpr c29
              have c29b1 : ((a0.size : Int) != 1) = true := bne_iff_ne.mpr c29
              by_cases c33 : 0 ≤ 1
              · rw [if_pos c33] at H
                have c33b0 := eq_true c33
                have c33b1 : decide (0 ≤ 1) = true := decide_eq_true c33
                clear c33
                by_cases c34 : 1 ≤ (a0.size : Int)
                · rw [if_pos c34] at H
                  have c34b0 := eq_true c34
                  have c34b1 : decide (1 ≤ (a0.size : Int)) = true := decide_eq_true c34
                  clear c34
                  by_cases c35 : (a0.extract 0 1).size + 1 ≤ 9223372036854775807
                  · rw [if_pos c35] at H
                    have c35b0 := eq_true c35
                    have c35b1 : decide ((a0.extract 0 1).size + 1 ≤ 9223372036854775807) = true := decide_eq_true c35
                    try have c35b2 : (9223372036854775807 < (a0.extract 0 1).size + 1) = False := eq_false (Nat.not_lt.2 c35)
                    have c36b0 := eq_true (of_decide_eq_true (by first | (with_reducible assumption) | assumption) : 1 ≤ (a0.size : Int))
                    by_cases c37 : ((a0.extract 0 1) ++ (⟨#[46]⟩ : ByteArray)).size + (a0.extract 1 a0.size).size ≤ 9223372036854775807
                    · rw [if_pos c37] at H
                      have c37b0 := eq_true c37
                      have c37b1 : decide (((a0.extract 0 1) ++ (⟨#[46]⟩ : ByteArray)).size + (a0.extract 1 a0.size).size ≤ 9223372036854775807) = true := decide_eq_true c37
                      try have c37b2 : (9223372036854775807 < ((a0.extract 0 1) ++ (⟨#[46]⟩ : ByteArray)).size + (a0.extract 1 a0.size).size) = False := eq_false (Nat.not_lt.2 c37)
                      by_cases c38 : (((a0.extract 0 1) ++ (⟨#[46]⟩ : ByteArray)) ++ (a0.extract 1 a0.size)).size + ((⟨#[101, 45]⟩ : ByteArray) ++ t452).size ≤ 9223372036854775807
                      · rw [if_pos c38] at H
                        have c38b0 := eq_true c38
                        have c38b1 : decide ((((a0.extract 0 1) ++ (⟨#[46]⟩ : ByteArray)) ++ (a0.extract 1 a0.size)).size + ((⟨#[101, 45]⟩ : ByteArray) ++ t452).size ≤ 9223372036854775807) = true := decide_eq_true c38
                        try have c38b2 : (9223372036854775807 < (((a0.extract 0 1) ++ (⟨#[46]⟩ : ByteArray)) ++ (a0.extract 1 a0.size)).size + ((⟨#[101, 45]⟩ : ByteArray) ++ t452).size) = False := eq_false (Nat.not_lt.2 c38)
                        obtain rfl := Option.some.inj H
                        go_wp2_with (first | (go_at_call 46; (with_reducible refine (spec_decimals.calls kj2 (IntKind.u64.wrap (ji23)) t451 _ A24.out).mono ?_); rintro e w39 ⟨rfl, hb⟩; have n0_ := Aside0.mk (below_step (by repeat (first | (with_reducible first | exact HB.out | apply below_alloc | apply pw_below_drewN | apply below_drew1) | exact HB.out)) hb); clear HB; have HB := n0_; clear n0_; (try clear hb); (try clear hb2); (try clear hk); (try clear hi)) | (go_at_call 46; (with_reducible refine (spec_decimals.calls kj2 (IntKind.u64.wrap (wrap64 (1 - a1))) t452 _ A27.out).mono ?_); rintro e w40 ⟨rfl, hb⟩; have n0_ := Aside0.mk (below_step (by repeat (first | (with_reducible first | exact HB.out | apply below_alloc | apply pw_below_drewN | apply below_drew1) | exact HB.out)) hb); clear HB; have HB := n0_; clear n0_; (try clear hb); (try clear hb2); (try clear hk); (try clear hi)))
                        repeat (go_quiet (first | (go_at_call 46; (with_reducible refine (spec_decimals.calls kj2 (IntKind.u64.wrap (ji23)) t451 _ A24.out).mono ?_); rintro e w39 ⟨rfl, hb⟩; have n0_ := Aside0.mk (below_step (by repeat (first | (with_reducible first | exact HB.out | apply below_alloc | apply pw_below_drewN | apply below_drew1) | exact HB.out)) hb); clear HB; have HB := n0_; clear n0_; (try clear hb); (try clear hb2); (try clear hk); (try clear hi)) | (go_at_call 46; (with_reducible refine (spec_decimals.calls kj2 (IntKind.u64.wrap (wrap64 (1 - a1))) t452 _ A27.out).mono ?_); rintro e w40 ⟨rfl, hb⟩; have n0_ := Aside0.mk (below_step (by repeat (first | (with_reducible first | exact HB.out | apply below_alloc | apply pw_below_drewN | apply below_drew1) | exact HB.out)) hb); clear HB; have HB := n0_; clear n0_; (try clear hb); (try clear hb2); (try clear hk); (try clear hi))); try go_wp2_with (first | (go_at_call 46; (with_reducible refine (spec_decimals.calls kj2 (IntKind.u64.wrap (ji23)) t451 _ A24.out).mono ?_); rintro e w39 ⟨rfl, hb⟩; have n0_ := Aside0.mk (below_step (by repeat (first | (with_reducible first | exact HB.out | apply below_alloc | apply pw_below_drewN | apply below_drew1) | exact HB.out)) hb); clear HB; have HB := n0_; clear n0_; (try clear hb); (try clear hb2); (try clear hk); (try clear hi)) | (go_at_call 46; (with_reducible refine (spec_decimals.calls kj2 (IntKind.u64.wrap (wrap64 (1 - a1))) t452 _ A27.out).mono ?_); rintro e w40 ⟨rfl, hb⟩; have n0_ := Aside0.mk (below_step (by repeat (first | (with_reducible first | exact HB.out | apply below_alloc | apply pw_below_drewN | apply below_drew1) | exact HB.out)) hb); clear HB; have HB := n0_; clear n0_; (try clear hb); (try clear hb2); (try clear hk); (try clear hi))))
                        go_ret
                        exact ⟨by first | rfl | (simp [errW_none, errW_some] <;> rfl) | (simp only [← hji23]; first | rfl | (simp [errW_none, errW_some] <;> rfl)) | (simp [*, errW_none, errW_some] <;> rfl), by repeat (first | (with_reducible first | exact HB.out | apply below_alloc | apply pw_below_drewN | apply below_drew1) | exact HB.out)⟩
                      · rw [if_neg c38] at H
                        exact absurd H (by simp)
                    · rw [if_neg c37] at H
                      exact absurd H (by simp)
                  · rw [if_neg c35] at H
                    exact absurd H (by simp)
                · rw [if_neg c34] at H
                  exact absurd H (by simp)
              · rw [if_neg c33] at H
                exact absurd H (by simp)
          · rw [if_neg c28] at H
            exact absurd H (by simp)
        · rw [if_neg c26] at H
          have c26b0 : decide ((wrap64 (a1 - 1)) < 0) = false := decide_eq_false c26
          clear c26
          by_cases c41 : (a0.size : Int) = 1
          · rw [if_pos c41] at H
            have c41b0 : ((a0.size : Int) == 1) = true := beq_iff_eq.mpr c41
            have c41b1 : ((a0.size : Int) != 1) = false := bne_eq_false_iff_eq.mpr c41
            clear c41
            by_cases c42 : a0.size + ((⟨#[101, 43]⟩ : ByteArray) ++ t451).size ≤ 9223372036854775807
            · rw [if_pos c42] at H
              have c42b0 := eq_true c42
              have c42b1 : decide (a0.size + ((⟨#[101, 43]⟩ : ByteArray) ++ t451).size ≤ 9223372036854775807) = true := decide_eq_true c42
              try have c42b2 : (9223372036854775807 < a0.size + ((⟨#[101, 43]⟩ : ByteArray) ++ t451).size) = False := eq_false (Nat.not_lt.2 c42)
              obtain rfl := Option.some.inj H
              go_wp2_with (first | (go_at_call 46; (with_reducible refine (spec_decimals.calls kj2 (IntKind.u64.wrap (ji23)) t451 _ A24.out).mono ?_); rintro e w43 ⟨rfl, hb⟩; have n0_ := Aside0.mk (below_step (by repeat (first | (with_reducible first | exact HB.out | apply below_alloc | apply pw_below_drewN | apply below_drew1) | exact HB.out)) hb); clear HB; have HB := n0_; clear n0_; (try clear hb); (try clear hb2); (try clear hk); (try clear hi)))
              repeat (go_quiet (first | (go_at_call 46; (with_reducible refine (spec_decimals.calls kj2 (IntKind.u64.wrap (ji23)) t451 _ A24.out).mono ?_); rintro e w43 ⟨rfl, hb⟩; have n0_ := Aside0.mk (below_step (by repeat (first | (with_reducible first | exact HB.out | apply below_alloc | apply pw_below_drewN | apply below_drew1) | exact HB.out)) hb); clear HB; have HB := n0_; clear n0_; (try clear hb); (try clear hb2); (try clear hk); (try clear hi))); try go_wp2_with (first | (go_at_call 46; (with_reducible refine (spec_decimals.calls kj2 (IntKind.u64.wrap (ji23)) t451 _ A24.out).mono ?_); rintro e w43 ⟨rfl, hb⟩; have n0_ := Aside0.mk (below_step (by repeat (first | (with_reducible first | exact HB.out | apply below_alloc | apply pw_below_drewN | apply below_drew1) | exact HB.out)) hb); clear HB; have HB := n0_; clear n0_; (try clear hb); (try clear hb2); (try clear hk); (try clear hi))))
              go_ret
              exact ⟨by first | rfl | (simp [errW_none, errW_some] <;> rfl) | (simp only [← hji23]; first | rfl | (simp [errW_none, errW_some] <;> rfl)) | (simp [*, errW_none, errW_some] <;> rfl), by repeat (first | (with_reducible first | exact HB.out | apply below_alloc | apply pw_below_drewN | apply below_drew1) | exact HB.out)⟩
            · rw [if_neg c42] at H
              exact absurd H (by simp)
          · rw [if_neg c41] at H
            have c41b0 : ((a0.size : Int) == 1) = false := beq_eq_false_iff_ne.mpr c41
            have c41b1 : ((a0.size : Int) != 1) = true := bne_iff_ne.mpr c41
            by_cases c44 : 0 ≤ 1
            · rw [if_pos c44] at H
              have c44b0 := eq_true c44
              have c44b1 : decide (0 ≤ 1) = true := decide_eq_true c44
              clear c44
              by_cases c45 : 1 ≤ (a0.size : Int)
              · rw [if_pos c45] at H
                have c45b0 := eq_true c45
                have c45b1 : decide (1 ≤ (a0.size : Int)) = true := decide_eq_true c45
                clear c45
                by_cases c46 : (a0.extract 0 1).size + 1 ≤ 9223372036854775807
                · rw [if_pos c46] at H
                  have c46b0 := eq_true c46
                  have c46b1 : decide ((a0.extract 0 1).size + 1 ≤ 9223372036854775807) = true := decide_eq_true c46
                  try have c46b2 : (9223372036854775807 < (a0.extract 0 1).size + 1) = False := eq_false (Nat.not_lt.2 c46)
                  have c47b0 := eq_true (of_decide_eq_true (by first | (with_reducible assumption) | assumption) : 1 ≤ (a0.size : Int))
                  by_cases c48 : ((a0.extract 0 1) ++ (⟨#[46]⟩ : ByteArray)).size + (a0.extract 1 a0.size).size ≤ 9223372036854775807
                  · rw [if_pos c48] at H
                    have c48b0 := eq_true c48
                    have c48b1 : decide (((a0.extract 0 1) ++ (⟨#[46]⟩ : ByteArray)).size + (a0.extract 1 a0.size).size ≤ 9223372036854775807) = true := decide_eq_true c48
                    try have c48b2 : (9223372036854775807 < ((a0.extract 0 1) ++ (⟨#[46]⟩ : ByteArray)).size + (a0.extract 1 a0.size).size) = False := eq_false (Nat.not_lt.2 c48)
                    by_cases c49 : (((a0.extract 0 1) ++ (⟨#[46]⟩ : ByteArray)) ++ (a0.extract 1 a0.size)).size + ((⟨#[101, 43]⟩ : ByteArray) ++ t451).size ≤ 9223372036854775807
                    · rw [if_pos c49] at H
                      have c49b0 := eq_true c49
                      have c49b1 : decide ((((a0.extract 0 1) ++ (⟨#[46]⟩ : ByteArray)) ++ (a0.extract 1 a0.size)).size + ((⟨#[101, 43]⟩ : ByteArray) ++ t451).size ≤ 9223372036854775807) = true := decide_eq_true c49
                      try have c49b2 : (9223372036854775807 < (((a0.extract 0 1) ++ (⟨#[46]⟩ : ByteArray)) ++ (a0.extract 1 a0.size)).size + ((⟨#[101, 43]⟩ : ByteArray) ++ t451).size) = False := eq_false (Nat.not_lt.2 c49)
                      obtain rfl := Option.some.inj H
                      go_wp2_with (first | (go_at_call 46; (with_reducible refine (spec_decimals.calls kj2 (IntKind.u64.wrap (ji23)) t451 _ A24.out).mono ?_); rintro e w50 ⟨rfl, hb⟩; have n0_ := Aside0.mk (below_step (by repeat (first | (with_reducible first | exact HB.out | apply below_alloc | apply pw_below_drewN | apply below_drew1) | exact HB.out)) hb); clear HB; have HB := n0_; clear n0_; (try clear hb); (try clear hb2); (try clear hk); (try clear hi)))
                      repeat (go_quiet (first | (go_at_call 46; (with_reducible refine (spec_decimals.calls kj2 (IntKind.u64.wrap (ji23)) t451 _ A24.out).mono ?_); rintro e w50 ⟨rfl, hb⟩; have n0_ := Aside0.mk (below_step (by repeat (first | (with_reducible first | exact HB.out | apply below_alloc | apply pw_below_drewN | apply below_drew1) | exact HB.out)) hb); clear HB; have HB := n0_; clear n0_; (try clear hb); (try clear hb2); (try clear hk); (try clear hi))); try go_wp2_with (first | (go_at_call 46; (with_reducible refine (spec_decimals.calls kj2 (IntKind.u64.wrap (ji23)) t451 _ A24.out).mono ?_); rintro e w50 ⟨rfl, hb⟩; have n0_ := Aside0.mk (below_step (by repeat (first | (with_reducible first | exact HB.out | apply below_alloc | apply pw_below_drewN | apply below_drew1) | exact HB.out)) hb); clear HB; have HB := n0_; clear n0_; (try clear hb); (try clear hb2); (try clear hk); (try clear hi))))
                      go_ret
                      exact ⟨by first | rfl | (simp [errW_none, errW_some] <;> rfl) | (simp only [← hji23]; first | rfl | (simp [errW_none, errW_some] <;> rfl)) | (simp [*, errW_none, errW_some] <;> rfl), by repeat (first | (with_reducible first | exact HB.out | apply below_alloc | apply pw_below_drewN | apply below_drew1) | exact HB.out)⟩
                    · rw [if_neg c49] at H
                      exact absurd H (by simp)
                  · rw [if_neg c48] at H
                    exact absurd H (by simp)
                · rw [if_neg c46] at H
                  exact absurd H (by simp)
              · rw [if_neg c45] at H
                exact absurd H (by simp)
            · rw [if_neg c44] at H
              exact absurd H (by simp)
      · rw [if_neg c25] at H
        exact absurd H (by simp)

end Go.Proofs.YtiopeaponffmdaaDoor.PAll
-- YtiopeaponffmdaaDoorPAllx28
namespace Go.Proofs.YtiopeaponffmdaaDoor.PAll
open Go.RowKit Go.Proofs.YtiopeaponffmdaaDoorW.PrintWords Go.Proofs.YtiopeaponffmdaaDoorW.PrintLast Go.Proofs.YtiopeaponffmdaaDoorW.PrintMore
attribute [local go_sem] max2_int min2_int max_two min_two max_three min_three max_four min_four   -- for this text's walks alone
set_option linter.unusedVariables false
set_option linter.unusedSimpArgs false

def spec_Form_Text.f (k : Nat) (a0_0 : Int) (a0_1 : Int) (a1 : Int) : Option (ByteArray) := if a1 = 0 then (some (⟨#[48]⟩ : ByteArray)) else ((spec_Form_Shortest.f k a0_0 a0_1 a1).bind fun bt454 => ((spec_Laid.f k bt454.1 bt454.2).bind fun t456 => (some t456)))
theorem spec_Form_Text.mono : ∀ a0 a1 a2 k, LeO (spec_Form_Text.f k a0 a1 a2) (spec_Form_Text.f (k + 1) a0 a1 a2) := by
  intro a0 a1 a2 k
  unfold spec_Form_Text.f
  repeat' first
      | (with_reducible exact spec_Form_Shortest.mono _ _ _ _)
      | (with_reducible exact spec_Laid.mono _ _ _)
      | (with_reducible exact LeO.refl _)
      | (with_reducible exact LeO.none _)
      | (with_reducible refine LeO.ite ?_ ?_)
      | (with_reducible refine LeO.bind ?_ (fun _ => ?_))
      | exact spec_Form_Shortest.mono _ _ _ _
      | exact spec_Laid.mono _ _ _
      | exact LeO.none _
      | refine LeO.ite ?_ ?_
      | refine LeO.bind ?_ (fun _ => ?_)
set_option maxHeartbeats 8000000 in
set_option maxRecDepth 100000 in
theorem spec_Form_Text.calls (k : Nat) (a0_0 : Int) (a0_1 : Int) (a1 : Int) (r : ByteArray) (w : World) (h : spec_Form_Text.f k a0_0 a0_1 a1 = some r) :
    Calls Tryd.prog 26 #[.agg #[.int .i64 a0_0, .int .u64 a0_1], .int .u64 a1] w fun e w' => e = .returned (.string r) ∧ Below w.heap.size w w' := by
  have hu31 := Tryd.underlying31
  have HB := Aside0.mk (Below.refl w.heap.size w)
  have H : (if a1 = 0 then (some (⟨#[48]⟩ : ByteArray)) else ((spec_Form_Shortest.f k a0_0 a0_1 a1).bind fun bt454 => ((spec_Laid.f k bt454.1 bt454.2).bind fun t456 => (some t456)))) = some r := h
  clear h
  by_cases c3 : a1 = 0
  · rw [if_pos c3] at H
    have c3b0 : (a1 == 0) = true := beq_iff_eq.mpr c3
    have c3b1 : (a1 != 0) = false := bne_eq_false_iff_eq.mpr c3
    clear c3
    obtain rfl := Option.some.inj H
    go_enter Tryd.func26, Tryd.ntmps26
    go_wp2_with (first | ((with_reducible refine gate_dst (N := 2) rfl ?_); refine box_event ?hg (N := 2) ?hd (cs := #[.int .i64 a0_0, .int .u64 a0_1]) (t := 31) ?hr ?_; (case hd => rfl); (case hg => rfl); (case hr => first | (go_simp; done) | (go_simp; rfl)); intro gb453 hg w4 hbox hb; have n0_ := Aside0.mk (below_step (by repeat (first | (with_reducible first | exact HB.out | apply below_alloc | apply pw_below_drewN | apply below_drew1) | exact HB.out)) hb); have n1_ := Aside0.mk (hbox); have n2_ := Aside0.mk ((by rw [hg]; exact (below_size (by repeat (first | (with_reducible first | exact HB.out | apply below_alloc | apply pw_below_drewN | apply below_drew1) | exact HB.out))) : w.heap.size ≤ gb453)); have n3_ := Aside0.mk ((by rw [hg]; exact (below_size (by repeat (first | (with_reducible first | exact HB.out | apply below_alloc | apply pw_below_drewN | apply below_drew1) | exact HB.out))) : w.heap.size ≤ gb453)); clear HB; have HB := n0_; have BK453 := n1_; have GW453 := n2_; have GE453 := n3_; clear n0_ n1_ n2_ n3_; clear hb hbox hg))
    go_ret
    exact ⟨by first | rfl | (simp [errW_none, errW_some] <;> rfl) | (simp [*, errW_none, errW_some] <;> rfl), by repeat (first | (with_reducible first | exact HB.out | apply below_alloc | apply pw_below_drewN | apply below_drew1 | refine below_set ?_ GE453.out) | exact HB.out)⟩
  · rw [if_neg c3] at H
    have c3b0 : (a1 == 0) = false := beq_eq_false_iff_ne.mpr c3
    have c3b1 : (a1 != 0) = true := bne_iff_ne.mpr c3
    replace H := Option.bind_eq_some_iff.mp H
    obtain ⟨⟨t454, t455⟩, A50, H⟩ := H
    replace H : ((spec_Laid.f k t454 t455).bind fun t456 => (some t456)) = some r := H
    have A5 := Aside0.mk A50
    clear A50
    replace H := Option.bind_eq_some_iff.mp H
    obtain ⟨t456, A60, H⟩ := H
    replace H : (some t456) = some r := H
    have A6 := Aside0.mk A60
    clear A60
    obtain rfl := Option.some.inj H
    go_enter Tryd.func26, Tryd.ntmps26
    go_wp2_with (first | ((with_reducible refine gate_dst (N := 2) rfl ?_); refine box_event ?hg (N := 2) ?hd (cs := #[.int .i64 a0_0, .int .u64 a0_1]) (t := 31) ?hr ?_; (case hd => rfl); (case hg => rfl); (case hr => first | (go_simp; done) | (go_simp; rfl)); intro gb453 hg w7 hbox hb; have n0_ := Aside0.mk (below_step (by repeat (first | (with_reducible first | exact HB.out | apply below_alloc | apply pw_below_drewN | apply below_drew1) | exact HB.out)) hb); have n1_ := Aside0.mk (hbox); have n2_ := Aside0.mk ((by rw [hg]; exact (below_size (by repeat (first | (with_reducible first | exact HB.out | apply below_alloc | apply pw_below_drewN | apply below_drew1) | exact HB.out))) : w.heap.size ≤ gb453)); have n3_ := Aside0.mk ((by rw [hg]; exact (below_size (by repeat (first | (with_reducible first | exact HB.out | apply below_alloc | apply pw_below_drewN | apply below_drew1) | exact HB.out))) : w.heap.size ≤ gb453)); clear HB; have HB := n0_; have BK453 := n1_; have GW453 := n2_; have GE453 := n3_; clear n0_ n1_ n2_ n3_; clear hb hbox hg; have hcz8_0 : w7.cell? ⟨gb453, 0, none⟩ = some (.int .i64 a0_0) := (blk_cell BK453.out 0).trans rfl; have hcz8_1 : w7.cell? ⟨gb453, 1, none⟩ = some (.int .u64 a0_1) := (blk_cell BK453.out 1).trans rfl; have hfz8_0 := blk_frozen BK453.out 0; have hfz8_1 := blk_frozen BK453.out 1) | ((with_reducible refine gate_callee (f := 34) rfl ?_); refine goesL_ (some 12) rfl rfl Tryd.func34 (by kernel_rfl) rfl #[.agg #[.int .i64 a0_0, .int .u64 a0_1], .int .u64 a1] rfl (by (try simp only [List.map_toArray, List.map_cons, List.map_nil]); first | done | rfl | (simp only [List.length_drop, List.length_take]; rfl)) ?_; (with_reducible refine (spec_Form_Shortest.calls k a0_0 a0_1 a1 t454 t455 _ A5.out).mono ?_); rintro e w9 ⟨rfl, hb⟩; refine ⟨_, rfl, ?_⟩; have n0_ := Aside0.mk (blk_below (g := gb453) (o := .cells #[.int .i64 a0_0, .int .u64 a0_1] 31 (0, 0)) (by (with_reducible repeat (first | refine blk_drewN ?_ _ | refine blk_drew ?_ | refine blk_alloc ?_ _)); exact BK453.out) hb); have n1_ := Aside0.mk (below_step (by repeat (first | (with_reducible first | exact HB.out | apply below_alloc | apply pw_below_drewN | apply below_drew1 | refine below_set ?_ GE453.out) | exact HB.out)) hb); clear BK453; clear HB; have BK453 := n0_; have HB := n1_; clear n0_ n1_; (try clear hb); (try clear hb2); (try clear hk); (try clear hi)) | ((with_reducible refine gate_callee (f := 35) rfl ?_); refine goesL_ (some 17) rfl rfl Tryd.func35 (by kernel_rfl) rfl #[.string t454, .int .i64 t455] rfl (by (try simp only [List.map_toArray, List.map_cons, List.map_nil]); first | done | rfl | (simp only [List.length_drop, List.length_take]; rfl)) ?_; (with_reducible refine (spec_Laid.calls k t454 t455 t456 _ A6.out).mono ?_); rintro e w10 ⟨rfl, hb⟩; refine ⟨_, rfl, ?_⟩; have n0_ := Aside0.mk (blk_below (g := gb453) (o := .cells #[.int .i64 a0_0, .int .u64 a0_1] 31 (0, 0)) (by (with_reducible repeat (first | refine blk_drewN ?_ _ | refine blk_drew ?_ | refine blk_alloc ?_ _)); exact BK453.out) hb); have n1_ := Aside0.mk (below_step (by repeat (first | (with_reducible first | exact HB.out | apply below_alloc | apply pw_below_drewN | apply below_drew1 | refine below_set ?_ GE453.out) | exact HB.out)) hb); clear BK453; clear HB; have BK453 := n0_; have HB := n1_; clear n0_ n1_; (try clear hb); (try clear hb2); (try clear hk); (try clear hi)))
    go_ret
    exact ⟨by first | rfl | (simp [errW_none, errW_some] <;> rfl) | (simp [*, errW_none, errW_some] <;> rfl), by repeat (first | (with_reducible first | exact HB.out | apply below_alloc | apply pw_below_drewN | apply below_drew1 | refine below_set ?_ GE453.out) | exact HB.out)⟩

def laws_floatText8.f (k : Nat) (a0 : Bool) (a1_0 : Int) (a1_1 : Int) (a2 : Int) : Option (ByteArray) := if a0 = true then ((spec_Form_Text.f k a1_0 a1_1 a2).bind fun t458 => (if 1 + t458.size ≤ 9223372036854775807 then (some ((⟨#[45]⟩ : ByteArray) ++ t458)) else (none))) else ((spec_Form_Text.f k a1_0 a1_1 a2).bind fun t459 => (some t459))
theorem laws_floatText8.mono : ∀ a0 a1 a2 a3 k, LeO (laws_floatText8.f k a0 a1 a2 a3) (laws_floatText8.f (k + 1) a0 a1 a2 a3) := by
  intro a0 a1 a2 a3 k
  unfold laws_floatText8.f
  repeat' first
      | (with_reducible exact spec_Form_Text.mono _ _ _ _)
      | (with_reducible exact LeO.refl _)
      | (with_reducible exact LeO.none _)
      | (with_reducible refine LeO.ite ?_ ?_)
      | (with_reducible refine LeO.bind ?_ (fun _ => ?_))
      | exact spec_Form_Text.mono _ _ _ _
      | exact LeO.none _
      | refine LeO.ite ?_ ?_
      | refine LeO.bind ?_ (fun _ => ?_)
set_option maxHeartbeats 8000000 in
set_option maxRecDepth 100000 in
theorem laws_floatText8.calls (k : Nat) (a0 : Bool) (a1_0 : Int) (a1_1 : Int) (a2 : Int) (r : ByteArray) (w : World) (h : laws_floatText8.f k a0 a1_0 a1_1 a2 = some r) :
    Calls Tryd.prog 15 #[.bool a0, .agg #[.int .i64 a1_0, .int .u64 a1_1], .int .u64 a2] w fun e w' => e = .returned (.string r) ∧ Below w.heap.size w w' := by
  have hu31 := Tryd.underlying31
  have HB := Aside0.mk (Below.refl w.heap.size w)
  have H : (if a0 = true then ((spec_Form_Text.f k a1_0 a1_1 a2).bind fun t458 => (if 1 + t458.size ≤ 9223372036854775807 then (some ((⟨#[45]⟩ : ByteArray) ++ t458)) else (none))) else ((spec_Form_Text.f k a1_0 a1_1 a2).bind fun t459 => (some t459))) = some r := h
  clear h
  by_cases c4 : a0 = true
  · subst c4
    have H1 : ((spec_Form_Text.f k a1_0 a1_1 a2).bind fun t458 => (if 1 + t458.size ≤ 9223372036854775807 then (some ((⟨#[45]⟩ : ByteArray) ++ t458)) else (none))) = some r := by rw [if_pos rfl] at H; exact H
    clear H
    have H := H1
    clear H1
    replace H := Option.bind_eq_some_iff.mp H
    obtain ⟨t458, A50, H⟩ := H
    replace H : (if 1 + t458.size ≤ 9223372036854775807 then (some ((⟨#[45]⟩ : ByteArray) ++ t458)) else (none)) = some r := H
    have A5 := Aside0.mk A50
    clear A50
    by_cases c6 : 1 + t458.size ≤ 9223372036854775807
    · rw [if_pos c6] at H
      have c6b0 := eq_true c6
      have c6b1 : decide (1 + t458.size ≤ 9223372036854775807) = true := decide_eq_true c6
      try have c6b2 : (9223372036854775807 < 1 + t458.size) = False := eq_false (Nat.not_lt.2 c6)
      obtain rfl := Option.some.inj H
      go_enter Tryd.func15, Tryd.ntmps15
      go_wp2_with (first | ((with_reducible refine gate_dst (N := 4) rfl ?_); refine box_event ?hg (N := 4) ?hd (cs := #[.int .i64 a1_0, .int .u64 a1_1]) (t := 31) ?hr ?_; (case hd => rfl); (case hg => rfl); (case hr => first | (go_simp; done) | (go_simp; rfl)); intro gb457 hg w7 hbox hb; have n0_ := Aside0.mk (below_step (by repeat (first | (with_reducible first | exact HB.out | apply below_alloc | apply pw_below_drewN | apply below_drew1) | exact HB.out)) hb); have n1_ := Aside0.mk (hbox); have n2_ := Aside0.mk ((by rw [hg]; exact (below_size (by repeat (first | (with_reducible first | exact HB.out | apply below_alloc | apply pw_below_drewN | apply below_drew1) | exact HB.out))) : w.heap.size ≤ gb457)); have n3_ := Aside0.mk ((by rw [hg]; exact (below_size (by repeat (first | (with_reducible first | exact HB.out | apply below_alloc | apply pw_below_drewN | apply below_drew1) | exact HB.out))) : w.heap.size ≤ gb457)); clear HB; have HB := n0_; have BK457 := n1_; have GW457 := n2_; have GE457 := n3_; clear n0_ n1_ n2_ n3_; clear hb hbox hg; have hcz8_0 : w7.cell? ⟨gb457, 0, none⟩ = some (.int .i64 a1_0) := (blk_cell BK457.out 0).trans rfl; have hcz8_1 : w7.cell? ⟨gb457, 1, none⟩ = some (.int .u64 a1_1) := (blk_cell BK457.out 1).trans rfl; have hfz8_0 := blk_frozen BK457.out 0; have hfz8_1 := blk_frozen BK457.out 1) | ((with_reducible refine gate_callee (f := 26) rfl ?_); refine goesL_ (some 10) rfl rfl Tryd.func26 (by kernel_rfl) rfl #[.agg #[.int .i64 a1_0, .int .u64 a1_1], .int .u64 a2] rfl (by (try simp only [List.map_toArray, List.map_cons, List.map_nil]); first | done | rfl | (simp only [List.length_drop, List.length_take]; rfl)) ?_; (with_reducible refine (spec_Form_Text.calls k a1_0 a1_1 a2 t458 _ A5.out).mono ?_); rintro e w9 ⟨rfl, hb⟩; refine ⟨_, rfl, ?_⟩; have n0_ := Aside0.mk (blk_below (g := gb457) (o := .cells #[.int .i64 a1_0, .int .u64 a1_1] 31 (0, 0)) (by (with_reducible repeat (first | refine blk_drewN ?_ _ | refine blk_drew ?_ | refine blk_alloc ?_ _)); exact BK457.out) hb); have n1_ := Aside0.mk (below_step (by repeat (first | (with_reducible first | exact HB.out | apply below_alloc | apply pw_below_drewN | apply below_drew1 | refine below_set ?_ GE457.out) | exact HB.out)) hb); clear BK457; clear HB; have BK457 := n0_; have HB := n1_; clear n0_ n1_; (try clear hb); (try clear hb2); (try clear hk); (try clear hi)))
      go_ret
      exact ⟨by first | rfl | (simp [errW_none, errW_some] <;> rfl) | (simp [*, errW_none, errW_some] <;> rfl), by repeat (first | (with_reducible first | exact HB.out | apply below_alloc | apply pw_below_drewN | apply below_drew1 | refine below_set ?_ GE457.out) | exact HB.out)⟩
    · rw [if_neg c6] at H
      exact absurd H (by simp)
  · replace c4 := Bool.eq_false_iff.mpr c4
    subst c4
    have H1 : ((spec_Form_Text.f k a1_0 a1_1 a2).bind fun t459 => (some t459)) = some r := by rw [if_neg (show ¬ (false = true) by decide)] at H; exact H
    clear H
    have H := H1
    clear H1
    replace H := Option.bind_eq_some_iff.mp H
    obtain ⟨t459, A100, H⟩ := H
    replace H : (some t459) = some r := H
    have A10 := Aside0.mk A100
    clear A100
    obtain rfl := Option.some.inj H
    go_enter Tryd.func15, Tryd.ntmps15
    go_wp2_with (first | ((with_reducible refine gate_dst (N := 4) rfl ?_); refine box_event ?hg (N := 4) ?hd (cs := #[.int .i64 a1_0, .int .u64 a1_1]) (t := 31) ?hr ?_; (case hd => rfl); (case hg => rfl); (case hr => first | (go_simp; done) | (go_simp; rfl)); intro gb457 hg w11 hbox hb; have n0_ := Aside0.mk (below_step (by repeat (first | (with_reducible first | exact HB.out | apply below_alloc | apply pw_below_drewN | apply below_drew1) | exact HB.out)) hb); have n1_ := Aside0.mk (hbox); have n2_ := Aside0.mk ((by rw [hg]; exact (below_size (by repeat (first | (with_reducible first | exact HB.out | apply below_alloc | apply pw_below_drewN | apply below_drew1) | exact HB.out))) : w.heap.size ≤ gb457)); have n3_ := Aside0.mk ((by rw [hg]; exact (below_size (by repeat (first | (with_reducible first | exact HB.out | apply below_alloc | apply pw_below_drewN | apply below_drew1) | exact HB.out))) : w.heap.size ≤ gb457)); clear HB; have HB := n0_; have BK457 := n1_; have GW457 := n2_; have GE457 := n3_; clear n0_ n1_ n2_ n3_; clear hb hbox hg; have hcz12_0 : w11.cell? ⟨gb457, 0, none⟩ = some (.int .i64 a1_0) := (blk_cell BK457.out 0).trans rfl; have hcz12_1 : w11.cell? ⟨gb457, 1, none⟩ = some (.int .u64 a1_1) := (blk_cell BK457.out 1).trans rfl; have hfz12_0 := blk_frozen BK457.out 0; have hfz12_1 := blk_frozen BK457.out 1) | ((with_reducible refine gate_callee (f := 26) rfl ?_); refine goesL_ (some 14) rfl rfl Tryd.func26 (by kernel_rfl) rfl #[.agg #[.int .i64 a1_0, .int .u64 a1_1], .int .u64 a2] rfl (by (try simp only [List.map_toArray, List.map_cons, List.map_nil]); first | done | rfl | (simp only [List.length_drop, List.length_take]; rfl)) ?_; (with_reducible refine (spec_Form_Text.calls k a1_0 a1_1 a2 t459 _ A10.out).mono ?_); rintro e w13 ⟨rfl, hb⟩; refine ⟨_, rfl, ?_⟩; have n0_ := Aside0.mk (blk_below (g := gb457) (o := .cells #[.int .i64 a1_0, .int .u64 a1_1] 31 (0, 0)) (by (with_reducible repeat (first | refine blk_drewN ?_ _ | refine blk_drew ?_ | refine blk_alloc ?_ _)); exact BK457.out) hb); have n1_ := Aside0.mk (below_step (by repeat (first | (with_reducible first | exact HB.out | apply below_alloc | apply pw_below_drewN | apply below_drew1 | refine below_set ?_ GE457.out) | exact HB.out)) hb); clear BK457; clear HB; have BK457 := n0_; have HB := n1_; clear n0_ n1_; (try clear hb); (try clear hb2); (try clear hk); (try clear hi)))
    go_ret
    exact ⟨by first | rfl | (simp [errW_none, errW_some] <;> rfl) | (simp [*, errW_none, errW_some] <;> rfl), by repeat (first | (with_reducible first | exact HB.out | apply below_alloc | apply pw_below_drewN | apply below_drew1 | refine below_set ?_ GE457.out) | exact HB.out)⟩

def spec_Double.f  : Option (Int × Int) := some (52, 9218868437227405311)
set_option maxHeartbeats 8000000 in
set_option maxRecDepth 100000 in
theorem spec_Double.calls  (r1 : Int) (r2 : Int) (w : World) (h : spec_Double.f  = some (r1, r2)) :
    Calls Tryd.prog 16 #[] w fun e w' => e = .returned (.agg #[.int .i64 r1, .int .u64 r2]) ∧ Below w.heap.size w w' := by
  have hu31 := Tryd.underlying31
  have HB := Aside0.mk (Below.refl w.heap.size w)
  have H : (some (52, 9218868437227405311)) = some (r1, r2) := h
  clear h
  simp only [Option.some.injEq, Prod.mk.injEq] at H
  obtain ⟨rfl, rfl⟩ := H
  go_enter Tryd.func16, Tryd.ntmps16
  go_wp2_with (first | ((with_reducible refine gate_dst (N := 0) rfl ?_); refine box_event ?hg (N := 0) ?hd (cs := #[.int .i64 0, .int .u64 0]) (t := 31) ?hr ?_; (case hd => rfl); (case hg => rfl); (case hr => first | (go_simp; done) | (go_simp; rfl)); intro gb460 hg w1 hbox hb; have n0_ := Aside0.mk (below_step (by repeat (first | (with_reducible first | exact HB.out | apply below_alloc | apply pw_below_drewN | apply below_drew1) | exact HB.out)) hb); have n1_ := Aside0.mk (hbox); have n2_ := Aside0.mk ((by rw [hg]; exact (below_size (by repeat (first | (with_reducible first | exact HB.out | apply below_alloc | apply pw_below_drewN | apply below_drew1) | exact HB.out))) : w.heap.size ≤ gb460)); have n3_ := Aside0.mk ((by rw [hg]; exact (below_size (by repeat (first | (with_reducible first | exact HB.out | apply below_alloc | apply pw_below_drewN | apply below_drew1) | exact HB.out))) : w.heap.size ≤ gb460)); clear HB; have HB := n0_; have BK460 := n1_; have GW460 := n2_; have GE460 := n3_; clear n0_ n1_ n2_ n3_; clear hb hbox hg; have hcz2_0 : w1.cell? ⟨gb460, 0, none⟩ = some (.int .i64 0) := (blk_cell BK460.out 0).trans rfl; have hcz2_1 : w1.cell? ⟨gb460, 1, none⟩ = some (.int .u64 0) := (blk_cell BK460.out 1).trans rfl; have hfz2_0 := blk_frozen BK460.out 0; have hfz2_1 := blk_frozen BK460.out 1))
  refine bodyPost_ret (results_cell_row rfl _ _ gb460 31 #[.int .i64 52, .int .u64 9218868437227405311] (0, 0) _ rfl (by (with_reducible repeat (first | refine blk_drewN ?_ _ | refine blk_drew ?_ | refine blk_alloc ?_ _)); refine blk_put (cs := #[.int .i64 52, .int .u64 0]) ?_ 1 _ rfl; (with_reducible repeat (first | refine blk_drewN ?_ _ | refine blk_drew ?_ | refine blk_alloc ?_ _)); refine blk_put (cs := #[.int .i64 0, .int .u64 0]) ?_ 0 _ rfl; (with_reducible repeat (first | refine blk_drewN ?_ _ | refine blk_drew ?_ | refine blk_alloc ?_ _)); exact BK460.out) Tryd.underlying31 rfl (by kernel_rfl)) rfl ?_
  exact ⟨by first | rfl | (simp [errW_none, errW_some] <;> rfl) | (simp [*, errW_none, errW_some] <;> rfl), by repeat (first | (with_reducible first | exact HB.out | apply below_alloc | apply pw_below_drewN | apply below_drew1 | refine below_set ?_ GE460.out) | exact HB.out)⟩

end Go.Proofs.YtiopeaponffmdaaDoor.PAll
