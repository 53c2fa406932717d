/- The texts of a proof, its declarations alone: part 6. -/
import Derived.Test.YtiopeaponffmdaaDoorVU1
import Derived.Test.YtiopeaponffmdaaDoorVU5
set_option linter.unusedVariables false
set_option linter.unusedSimpArgs false
-- YtiopeaponffmdaaDoorFb
namespace Go.Proofs.YtiopeaponffmdaaDoor.PAll
open Go.RowKit Go.Proofs.YtiopeaponffmdaaDoorW.PrintWords Go.Proofs.YtiopeaponffmdaaDoorW.PrintLast Go.Proofs.YtiopeaponffmdaaDoorW.PrintMore

set_option maxHeartbeats 800000 in
set_option maxRecDepth 100000 in
theorem prescale_new (e p lp hi lo : Int) (w : World) (h3 : 3 < w.heap.size) (he0 : -100000 ≤ e) (he1 : e ≤ 100000) (hl0 : -100000 ≤ lp) (hl1 : lp ≤ 100000)
    (hp0 : -348 ≤ p) (hp1 : p ≤ 347) (hhi : w.cell? ⟨3, (p + 348).toNat * 2, none⟩ = some (.int .u64 hi)) (hlo : w.cell? ⟨3, (p + 348).toNat * 2 + 1, none⟩ = some (.int .u64 lo)) :
    Calls Tryd.prog 71 #[.pointer (some ⟨w.heap.size, 0, none⟩), .int .i64 e, .int .i64 p, .int .i64 lp] (w.alloc (.cells #[.int .u64 0, .int .u64 0, .int .i64 0] 100)) fun e' w' =>
      e' = .returned (.tuple #[]) ∧ w.alloc (.cells #[.int .u64 hi, .int .u64 lo, .int .i64 (-(e + lp + 3))] 100) = w' := by
  have hne : (3 : Nat) ≠ w.heap.size := by omega
  go_enter Tryd.func71, Tryd.ntmps71
  go_wp2
  go_end0
  exact ⟨rfl, rfl⟩

/-- what shortFloat answers, by the three unrounded numbers -/
def sfRes (u1 u2 u3 od : Nat) (p : Int) : Nat × Int :=
  if (u1 + od + 3) / 4 ≤ (u2 - od) / 4 / 10 * 10 then ((u2 - od) / 4 / 10, -(p - 1))
  else if (u1 + od + 3) / 4 < (u2 - od) / 4 then ((u3 + 1 + u3 / 4 % 2) / 4, -p) else ((u1 + od + 3) / 4, -p)

set_option maxHeartbeats 6400000 in
set_option maxRecDepth 100000 in
theorem short64A (m mn mx od u1 u2 u3 s hi lo : Nat) (e p lp : Int) (w : World) (h3 : 3 < w.heap.size) (h1 : m < 18446744073709551616) (he0 : -1085 < e) (he1 : e ≤ 2000)
    (c1 : ((m : Int) == 9223372036854775808) = true)
    (hp : -(((e + 11) * 631305 - 261663) / 2097152) = p) (hlp : p * 108853 / 32768 = lp) (hp0 : -348 ≤ p) (hp1 : p ≤ 347)
    (hmn : IntKind.u64.wrap ((m : Int) - 512) = (mn : Int)) (hmx : IntKind.u64.wrap ((m : Int) + 1024) = (mx : Int)) (hod : bits .and .i64 ((m : Int) / 2048) 1 = (od : Int))
    (bmn : mn < 18446744073709551616) (bmx : mx < 18446744073709551616) (bod : od ≤ 1)
    (hhi : w.cell? ⟨3, (p + 348).toNat * 2, none⟩ = some (.int .u64 (hi : Int))) (hlo : w.cell? ⟨3, (p + 348).toNat * 2 + 1, none⟩ = some (.int .u64 (lo : Int)))
    (bhi : 1 ≤ hi) (bhi2 : hi < 18446744073709551616) (blo : lo < 18446744073709551616) (hs : -(e + lp + 3) = (s : Int)) (bs : s < 64)
    (hu1 : Fm.usc mn hi lo s = u1) (hu2 : Fm.usc mx hi lo s = u2) (hu3 : Fm.usc m hi lo s = u3) (b1 : u1 + 10 < 18446744073709551616) (b2 : u2 + 10 < 18446744073709551616) (b21 : 1 ≤ u2) (b3 : u3 + 10 < 18446744073709551616) :
    Calls Tryd.prog 66 #[.int .u64 (m : Int), .int .i64 e] w fun e' w' => e' = .returned (.tuple #[.int .u64 ((sfRes u1 u2 u3 od p).1 : Int), .int .i64 (sfRes u1 u2 u3 od p).2]) ∧ Below w.heap.size w w' := by
  have U1 := fun w' c0 c1 c2 => uscale_calls mn w.heap.size hi lo s w' bmn bhi bhi2 blo bs c0 c1 c2
  have U2 := fun w' c0 c1 c2 => uscale_calls mx w.heap.size hi lo s w' bmx bhi bhi2 blo bs c0 c1 c2
  have U3 := fun w' c0 c1 c2 => uscale_calls m w.heap.size hi lo s w' h1 bhi bhi2 blo bs c0 c1 c2
  rw [hu1] at U1; rw [hu2] at U2; rw [hu3] at U3
  have P := prescale_new e p lp hi lo w h3 (by omega) (by omega) (by omega) (by omega) hp0 hp1 hhi hlo
  rw [hs] at P
  have HU1 := Lib.hid U1; have HU2 := Lib.hid U2; have HU3 := Lib.hid U3; have HP := Lib.hid P
  clear U1 U2 U3 P hu1 hu2 hu3 hs hhi hlo
  obtain ⟨v1, hv1⟩ : ∃ v, u1 + od = v := ⟨_, rfl⟩
  obtain ⟨v2, hv2⟩ : ∃ v, u2 - od = v := ⟨_, rfl⟩
  obtain ⟨dmin, hdmin⟩ : ∃ v, (v1 + 3) / 4 = v := ⟨_, rfl⟩
  obtain ⟨dmax, hdmax⟩ : ∃ v, v2 / 4 = v := ⟨_, rfl⟩
  obtain ⟨dr, hdr⟩ : ∃ v, (u3 + 1 + u3 / 4 % 2) / 4 = v := ⟨_, rfl⟩
  obtain ⟨t, ht⟩ : ∃ v, dmax / 10 = v := ⟨_, rfl⟩
  have N1 : ∀ w, Calls Tryd.prog 74 #[.int .u64 (u1 : Int), .int .i64 (od : Int)] w fun e w' => e = .returned (.int .u64 (v1 : Int)) ∧ w = w' := fun w => by
    have h := nudge_calls (u1 : Int) (od : Int) w (by omega) (by omega)
    rwa [show (u1 : Int) + (od : Int) = (v1 : Int) by omega] at h
  have N2 : ∀ w, Calls Tryd.prog 74 #[.int .u64 (u2 : Int), .int .i64 (-(od : Int))] w fun e w' => e = .returned (.int .u64 (v2 : Int)) ∧ w = w' := fun w => by
    have h := nudge_calls (u2 : Int) (-(od : Int)) w (by omega) (by omega)
    rwa [show (u2 : Int) + -(od : Int) = (v2 : Int) by omega] at h
  have C1 : ∀ w, Calls Tryd.prog 75 #[.int .u64 (v1 : Int)] w fun e w' => e = .returned (.int .u64 (dmin : Int)) ∧ w = w' := fun w => by
    have h := ceil_calls (v1 : Int) w (by omega) (by omega)
    rwa [show ((v1 : Int) + 3) / 4 = (dmin : Int) by omega] at h
  have F1 : ∀ w, Calls Tryd.prog 76 #[.int .u64 (v2 : Int)] w fun e w' => e = .returned (.int .u64 (dmax : Int)) ∧ w = w' := fun w => by
    have h := floor_calls (v2 : Int) w (by omega) (by omega)
    rwa [show (v2 : Int) / 4 = (dmax : Int) by omega] at h
  have R1 : ∀ w, Calls Tryd.prog 77 #[.int .u64 (u3 : Int)] w fun e w' => e = .returned (.int .u64 (dr : Int)) ∧ w = w' := fun w => by
    have h := round_calls (u3 : Int) w (by omega) (by omega)
    rwa [show ((u3 : Int) + 1 + (u3 : Int) / 4 % 2) / 4 = (dr : Int) by omega] at h
  have HN1 := Lib.hid N1; have HN2 := Lib.hid N2; have HC1 := Lib.hid C1; have HF1 := Lib.hid F1; have HR1 := Lib.hid R1
  have hfin : sfRes u1 u2 u3 od p = if dmin ≤ t * 10 then (t, -(p - 1)) else if dmin < dmax then (dr, -p) else (dmin, -p) := by
    unfold sfRes; rw [hv1, hv2, hdmin, hdmax, hdr, ht]
  have bdmax : dmax < 4611686018427387904 := by omega
  have bt : t * 10 ≤ dmax := by omega
  have e10 : (dmax : Int) / 10 = (t : Int) := by omega
  clear N1 N2 C1 F1 R1 hv1 hv2 hdmin hdmax hdr ht b1 b2 b3 b21
  by_cases q1 : dmin ≤ t * 10
  · rw [if_pos q1] at hfin
    have HFIN := Lib.hid hfin
    clear hfin
    go_enter Tryd.func66, Tryd.ntmps66
    go_wp2_with (fail)
    refine (skewed_calls _ _ (by omega) (by omega)).mono ?_
    rintro e w' ⟨rfl, rfl⟩
    go_wp2_with (fail)
    refine (log2Pow10_calls _ _ (by omega) (by omega)).mono ?_
    rintro e w' ⟨rfl, rfl⟩
    go_wp2_with (fail)
    refine HP.out.mono ?_
    rintro e w' ⟨rfl, rfl⟩
    go_wp2_with (fail)
    refine (HU1.out _ ?c0a ?c1a ?c2a).mono ?_
    case c0a => simp
    case c1a => simp
    case c2a => simp
    rintro e w' ⟨rfl, ⟨⟨n1, rfl⟩⟩⟩
    go_wp2_with (fail)
    refine (HN1.out _).mono ?_
    rintro e w' ⟨rfl, rfl⟩
    go_wp2_with (fail)
    refine (HC1.out _).mono ?_
    rintro e w' ⟨rfl, rfl⟩
    go_wp2_with (fail)
    refine (HU2.out _ ?c3a ?c4a ?c5a).mono ?_
    case c3a => simp
    case c4a => simp
    case c5a => simp
    rintro e w' ⟨rfl, ⟨⟨n2, rfl⟩⟩⟩
    go_wp2_with (fail)
    refine (HN2.out _).mono ?_
    rintro e w' ⟨rfl, rfl⟩
    go_wp2_with (fail)
    refine (HF1.out _).mono ?_
    rintro e w' ⟨rfl, rfl⟩
    go_wp2_with (fail)
    go_ret2
    exact ⟨by rw [HFIN.out]; rfl, by repeat (first | exact Below.refl _ _ | apply pw_below_drewN | apply below_alloc)⟩
  · rw [if_neg q1] at hfin
    by_cases q2 : dmin < dmax
    · rw [if_pos q2] at hfin
      have HFIN := Lib.hid hfin
      clear hfin
      go_enter Tryd.func66, Tryd.ntmps66
      go_wp2_with (fail)
      refine (skewed_calls _ _ (by omega) (by omega)).mono ?_
      rintro e w' ⟨rfl, rfl⟩
      go_wp2_with (fail)
      refine (log2Pow10_calls _ _ (by omega) (by omega)).mono ?_
      rintro e w' ⟨rfl, rfl⟩
      go_wp2_with (fail)
      refine HP.out.mono ?_
      rintro e w' ⟨rfl, rfl⟩
      go_wp2_with (fail)
      refine (HU1.out _ ?c0b ?c1b ?c2b).mono ?_
      case c0b => simp
      case c1b => simp
      case c2b => simp
      rintro e w' ⟨rfl, ⟨⟨n1, rfl⟩⟩⟩
      go_wp2_with (fail)
      refine (HN1.out _).mono ?_
      rintro e w' ⟨rfl, rfl⟩
      go_wp2_with (fail)
      refine (HC1.out _).mono ?_
      rintro e w' ⟨rfl, rfl⟩
      go_wp2_with (fail)
      refine (HU2.out _ ?c3b ?c4b ?c5b).mono ?_
      case c3b => simp
      case c4b => simp
      case c5b => simp
      rintro e w' ⟨rfl, ⟨⟨n2, rfl⟩⟩⟩
      go_wp2_with (fail)
      refine (HN2.out _).mono ?_
      rintro e w' ⟨rfl, rfl⟩
      go_wp2_with (fail)
      refine (HF1.out _).mono ?_
      rintro e w' ⟨rfl, rfl⟩
      go_wp2_with (fail)
      refine (HU3.out _ ?c6b ?c7b ?c8b).mono ?_
      case c6b => simp
      case c7b => simp
      case c8b => simp
      rintro e w' ⟨rfl, ⟨⟨n3, rfl⟩⟩⟩
      go_wp2_with (fail)
      refine (HR1.out _).mono ?_
      rintro e w' ⟨rfl, rfl⟩
      go_wp2_with (fail)
      go_ret2
      exact ⟨by rw [HFIN.out]; rfl, by repeat (first | exact Below.refl _ _ | apply pw_below_drewN | apply below_alloc)⟩
    · rw [if_neg q2] at hfin
      have HFIN := Lib.hid hfin
      clear hfin
      go_enter Tryd.func66, Tryd.ntmps66
      go_wp2_with (fail)
      refine (skewed_calls _ _ (by omega) (by omega)).mono ?_
      rintro e w' ⟨rfl, rfl⟩
      go_wp2_with (fail)
      refine (log2Pow10_calls _ _ (by omega) (by omega)).mono ?_
      rintro e w' ⟨rfl, rfl⟩
      go_wp2_with (fail)
      refine HP.out.mono ?_
      rintro e w' ⟨rfl, rfl⟩
      go_wp2_with (fail)
      refine (HU1.out _ ?c0c ?c1c ?c2c).mono ?_
      case c0c => simp
      case c1c => simp
      case c2c => simp
      rintro e w' ⟨rfl, ⟨⟨n1, rfl⟩⟩⟩
      go_wp2_with (fail)
      refine (HN1.out _).mono ?_
      rintro e w' ⟨rfl, rfl⟩
      go_wp2_with (fail)
      refine (HC1.out _).mono ?_
      rintro e w' ⟨rfl, rfl⟩
      go_wp2_with (fail)
      refine (HU2.out _ ?c3c ?c4c ?c5c).mono ?_
      case c3c => simp
      case c4c => simp
      case c5c => simp
      rintro e w' ⟨rfl, ⟨⟨n2, rfl⟩⟩⟩
      go_wp2_with (fail)
      refine (HN2.out _).mono ?_
      rintro e w' ⟨rfl, rfl⟩
      go_wp2_with (fail)
      refine (HF1.out _).mono ?_
      rintro e w' ⟨rfl, rfl⟩
      go_wp2_with (fail)
      go_ret2
      exact ⟨by rw [HFIN.out]; rfl, by repeat (first | exact Below.refl _ _ | apply pw_below_drewN | apply below_alloc)⟩

set_option maxHeartbeats 6400000 in
set_option maxRecDepth 100000 in
theorem short64B (m mn mx od u1 u2 u3 s hi lo : Nat) (e p lp : Int) (w : World) (h3 : 3 < w.heap.size) (h1 : m < 18446744073709551616) (he0 : -1085 ≤ e) (he1 : e ≤ 2000)
    (t1 : ¬ (m = 9223372036854775808 ∧ -1085 < e))
    (hp : -((e + 11) * 78913 / 262144) = p) (hlp : p * 108853 / 32768 = lp) (hp0 : -348 ≤ p) (hp1 : p ≤ 347)
    (hmn : IntKind.u64.wrap ((m : Int) - 1024) = (mn : Int)) (hmx : IntKind.u64.wrap ((m : Int) + 1024) = (mx : Int)) (hod : bits .and .i64 ((m : Int) / 2048) 1 = (od : Int))
    (bmn : mn < 18446744073709551616) (bmx : mx < 18446744073709551616) (bod : od ≤ 1)
    (hhi : w.cell? ⟨3, (p + 348).toNat * 2, none⟩ = some (.int .u64 (hi : Int))) (hlo : w.cell? ⟨3, (p + 348).toNat * 2 + 1, none⟩ = some (.int .u64 (lo : Int)))
    (bhi : 1 ≤ hi) (bhi2 : hi < 18446744073709551616) (blo : lo < 18446744073709551616) (hs : -(e + lp + 3) = (s : Int)) (bs : s < 64)
    (hu1 : Fm.usc mn hi lo s = u1) (hu2 : Fm.usc mx hi lo s = u2) (hu3 : Fm.usc m hi lo s = u3) (b1 : u1 + 10 < 18446744073709551616) (b2 : u2 + 10 < 18446744073709551616) (b21 : 1 ≤ u2) (b3 : u3 + 10 < 18446744073709551616) :
    Calls Tryd.prog 66 #[.int .u64 (m : Int), .int .i64 e] w fun e' w' => e' = .returned (.tuple #[.int .u64 ((sfRes u1 u2 u3 od p).1 : Int), .int .i64 (sfRes u1 u2 u3 od p).2]) ∧ Below w.heap.size w w' := by
  have U1 := fun w' c0 c1 c2 => uscale_calls mn w.heap.size hi lo s w' bmn bhi bhi2 blo bs c0 c1 c2
  have U2 := fun w' c0 c1 c2 => uscale_calls mx w.heap.size hi lo s w' bmx bhi bhi2 blo bs c0 c1 c2
  have U3 := fun w' c0 c1 c2 => uscale_calls m w.heap.size hi lo s w' h1 bhi bhi2 blo bs c0 c1 c2
  rw [hu1] at U1; rw [hu2] at U2; rw [hu3] at U3
  have P := prescale_new e p lp hi lo w h3 (by omega) (by omega) (by omega) (by omega) hp0 hp1 hhi hlo
  rw [hs] at P
  have HU1 := Lib.hid U1; have HU2 := Lib.hid U2; have HU3 := Lib.hid U3; have HP := Lib.hid P
  clear U1 U2 U3 P hu1 hu2 hu3 hs hhi hlo
  obtain ⟨v1, hv1⟩ : ∃ v, u1 + od = v := ⟨_, rfl⟩
  obtain ⟨v2, hv2⟩ : ∃ v, u2 - od = v := ⟨_, rfl⟩
  obtain ⟨dmin, hdmin⟩ : ∃ v, (v1 + 3) / 4 = v := ⟨_, rfl⟩
  obtain ⟨dmax, hdmax⟩ : ∃ v, v2 / 4 = v := ⟨_, rfl⟩
  obtain ⟨dr, hdr⟩ : ∃ v, (u3 + 1 + u3 / 4 % 2) / 4 = v := ⟨_, rfl⟩
  obtain ⟨t, ht⟩ : ∃ v, dmax / 10 = v := ⟨_, rfl⟩
  have N1 : ∀ w, Calls Tryd.prog 74 #[.int .u64 (u1 : Int), .int .i64 (od : Int)] w fun e w' => e = .returned (.int .u64 (v1 : Int)) ∧ w = w' := fun w => by
    have h := nudge_calls (u1 : Int) (od : Int) w (by omega) (by omega)
    rwa [show (u1 : Int) + (od : Int) = (v1 : Int) by omega] at h
  have N2 : ∀ w, Calls Tryd.prog 74 #[.int .u64 (u2 : Int), .int .i64 (-(od : Int))] w fun e w' => e = .returned (.int .u64 (v2 : Int)) ∧ w = w' := fun w => by
    have h := nudge_calls (u2 : Int) (-(od : Int)) w (by omega) (by omega)
    rwa [show (u2 : Int) + -(od : Int) = (v2 : Int) by omega] at h
  have C1 : ∀ w, Calls Tryd.prog 75 #[.int .u64 (v1 : Int)] w fun e w' => e = .returned (.int .u64 (dmin : Int)) ∧ w = w' := fun w => by
    have h := ceil_calls (v1 : Int) w (by omega) (by omega)
    rwa [show ((v1 : Int) + 3) / 4 = (dmin : Int) by omega] at h
  have F1 : ∀ w, Calls Tryd.prog 76 #[.int .u64 (v2 : Int)] w fun e w' => e = .returned (.int .u64 (dmax : Int)) ∧ w = w' := fun w => by
    have h := floor_calls (v2 : Int) w (by omega) (by omega)
    rwa [show (v2 : Int) / 4 = (dmax : Int) by omega] at h
  have R1 : ∀ w, Calls Tryd.prog 77 #[.int .u64 (u3 : Int)] w fun e w' => e = .returned (.int .u64 (dr : Int)) ∧ w = w' := fun w => by
    have h := round_calls (u3 : Int) w (by omega) (by omega)
    rwa [show ((u3 : Int) + 1 + (u3 : Int) / 4 % 2) / 4 = (dr : Int) by omega] at h
  have HN1 := Lib.hid N1; have HN2 := Lib.hid N2; have HC1 := Lib.hid C1; have HF1 := Lib.hid F1; have HR1 := Lib.hid R1
  have hfin : sfRes u1 u2 u3 od p = if dmin ≤ t * 10 then (t, -(p - 1)) else if dmin < dmax then (dr, -p) else (dmin, -p) := by
    unfold sfRes; rw [hv1, hv2, hdmin, hdmax, hdr, ht]
  have bdmax : dmax < 4611686018427387904 := by omega
  have bt : t * 10 ≤ dmax := by omega
  have e10 : (dmax : Int) / 10 = (t : Int) := by omega
  clear N1 N2 C1 F1 R1 hv1 hv2 hdmin hdmax hdr ht b1 b2 b3 b21
  by_cases c1 : ((m : Int) == 9223372036854775808) = true
  · have c2 : e = -1085 := by
      have : m = 9223372036854775808 := by have := eq_of_beq c1; omega
      omega
    have c3 : ¬ (-1085 < e) := by omega
    clear t1 c2
    by_cases q1 : dmin ≤ t * 10
    · rw [if_pos q1] at hfin
      have HFIN := Lib.hid hfin
      clear hfin
      go_enter Tryd.func66, Tryd.ntmps66
      go_wp2_with (fail)
      refine (log10Pow2_calls _ _ (by omega) (by omega)).mono ?_
      rintro e w' ⟨rfl, rfl⟩
      go_wp2_with (fail)
      refine (log2Pow10_calls _ _ (by omega) (by omega)).mono ?_
      rintro e w' ⟨rfl, rfl⟩
      go_wp2_with (fail)
      refine HP.out.mono ?_
      rintro e w' ⟨rfl, rfl⟩
      go_wp2_with (fail)
      refine (HU1.out _ ?c0xa ?c1xa ?c2xa).mono ?_
      case c0xa => simp
      case c1xa => simp
      case c2xa => simp
      rintro e w' ⟨rfl, ⟨⟨n1, rfl⟩⟩⟩
      go_wp2_with (fail)
      refine (HN1.out _).mono ?_
      rintro e w' ⟨rfl, rfl⟩
      go_wp2_with (fail)
      refine (HC1.out _).mono ?_
      rintro e w' ⟨rfl, rfl⟩
      go_wp2_with (fail)
      refine (HU2.out _ ?c3xa ?c4xa ?c5xa).mono ?_
      case c3xa => simp
      case c4xa => simp
      case c5xa => simp
      rintro e w' ⟨rfl, ⟨⟨n2, rfl⟩⟩⟩
      go_wp2_with (fail)
      refine (HN2.out _).mono ?_
      rintro e w' ⟨rfl, rfl⟩
      go_wp2_with (fail)
      refine (HF1.out _).mono ?_
      rintro e w' ⟨rfl, rfl⟩
      go_wp2_with (fail)
      go_ret2
      exact ⟨by rw [HFIN.out]; rfl, by repeat (first | exact Below.refl _ _ | apply pw_below_drewN | apply below_alloc)⟩
    · rw [if_neg q1] at hfin
      by_cases q2 : dmin < dmax
      · rw [if_pos q2] at hfin
        have HFIN := Lib.hid hfin
        clear hfin
        go_enter Tryd.func66, Tryd.ntmps66
        go_wp2_with (fail)
        refine (log10Pow2_calls _ _ (by omega) (by omega)).mono ?_
        rintro e w' ⟨rfl, rfl⟩
        go_wp2_with (fail)
        refine (log2Pow10_calls _ _ (by omega) (by omega)).mono ?_
        rintro e w' ⟨rfl, rfl⟩
        go_wp2_with (fail)
        refine HP.out.mono ?_
        rintro e w' ⟨rfl, rfl⟩
        go_wp2_with (fail)
        refine (HU1.out _ ?c0xb ?c1xb ?c2xb).mono ?_
        case c0xb => simp
        case c1xb => simp
        case c2xb => simp
        rintro e w' ⟨rfl, ⟨⟨n1, rfl⟩⟩⟩
        go_wp2_with (fail)
        refine (HN1.out _).mono ?_
        rintro e w' ⟨rfl, rfl⟩
        go_wp2_with (fail)
        refine (HC1.out _).mono ?_
        rintro e w' ⟨rfl, rfl⟩
        go_wp2_with (fail)
        refine (HU2.out _ ?c3xb ?c4xb ?c5xb).mono ?_
        case c3xb => simp
        case c4xb => simp
        case c5xb => simp
        rintro e w' ⟨rfl, ⟨⟨n2, rfl⟩⟩⟩
        go_wp2_with (fail)
        refine (HN2.out _).mono ?_
        rintro e w' ⟨rfl, rfl⟩
        go_wp2_with (fail)
        refine (HF1.out _).mono ?_
        rintro e w' ⟨rfl, rfl⟩
        go_wp2_with (fail)
        refine (HU3.out _ ?c6xb ?c7xb ?c8xb).mono ?_
        case c6xb => simp
        case c7xb => simp
        case c8xb => simp
        rintro e w' ⟨rfl, ⟨⟨n3, rfl⟩⟩⟩
        go_wp2_with (fail)
        refine (HR1.out _).mono ?_
        rintro e w' ⟨rfl, rfl⟩
        go_wp2_with (fail)
        go_ret2
        exact ⟨by rw [HFIN.out]; rfl, by repeat (first | exact Below.refl _ _ | apply pw_below_drewN | apply below_alloc)⟩
      · rw [if_neg q2] at hfin
        have HFIN := Lib.hid hfin
        clear hfin
        go_enter Tryd.func66, Tryd.ntmps66
        go_wp2_with (fail)
        refine (log10Pow2_calls _ _ (by omega) (by omega)).mono ?_
        rintro e w' ⟨rfl, rfl⟩
        go_wp2_with (fail)
        refine (log2Pow10_calls _ _ (by omega) (by omega)).mono ?_
        rintro e w' ⟨rfl, rfl⟩
        go_wp2_with (fail)
        refine HP.out.mono ?_
        rintro e w' ⟨rfl, rfl⟩
        go_wp2_with (fail)
        refine (HU1.out _ ?c0xc ?c1xc ?c2xc).mono ?_
        case c0xc => simp
        case c1xc => simp
        case c2xc => simp
        rintro e w' ⟨rfl, ⟨⟨n1, rfl⟩⟩⟩
        go_wp2_with (fail)
        refine (HN1.out _).mono ?_
        rintro e w' ⟨rfl, rfl⟩
        go_wp2_with (fail)
        refine (HC1.out _).mono ?_
        rintro e w' ⟨rfl, rfl⟩
        go_wp2_with (fail)
        refine (HU2.out _ ?c3xc ?c4xc ?c5xc).mono ?_
        case c3xc => simp
        case c4xc => simp
        case c5xc => simp
        rintro e w' ⟨rfl, ⟨⟨n2, rfl⟩⟩⟩
        go_wp2_with (fail)
        refine (HN2.out _).mono ?_
        rintro e w' ⟨rfl, rfl⟩
        go_wp2_with (fail)
        refine (HF1.out _).mono ?_
        rintro e w' ⟨rfl, rfl⟩
        go_wp2_with (fail)
        go_ret2
        exact ⟨by rw [HFIN.out]; rfl, by repeat (first | exact Below.refl _ _ | apply pw_below_drewN | apply below_alloc)⟩
  · have c1 : ((m : Int) == 9223372036854775808) = false := by simpa using c1
    clear t1
    by_cases q1 : dmin ≤ t * 10
    · rw [if_pos q1] at hfin
      have HFIN := Lib.hid hfin
      clear hfin
      go_enter Tryd.func66, Tryd.ntmps66
      go_wp2_with (fail)
      refine (log10Pow2_calls _ _ (by omega) (by omega)).mono ?_
      rintro e w' ⟨rfl, rfl⟩
      go_wp2_with (fail)
      refine (log2Pow10_calls _ _ (by omega) (by omega)).mono ?_
      rintro e w' ⟨rfl, rfl⟩
      go_wp2_with (fail)
      refine HP.out.mono ?_
      rintro e w' ⟨rfl, rfl⟩
      go_wp2_with (fail)
      refine (HU1.out _ ?c0ya ?c1ya ?c2ya).mono ?_
      case c0ya => simp
      case c1ya => simp
      case c2ya => simp
      rintro e w' ⟨rfl, ⟨⟨n1, rfl⟩⟩⟩
      go_wp2_with (fail)
      refine (HN1.out _).mono ?_
      rintro e w' ⟨rfl, rfl⟩
      go_wp2_with (fail)
      refine (HC1.out _).mono ?_
      rintro e w' ⟨rfl, rfl⟩
      go_wp2_with (fail)
      refine (HU2.out _ ?c3ya ?c4ya ?c5ya).mono ?_
      case c3ya => simp
      case c4ya => simp
      case c5ya => simp
      rintro e w' ⟨rfl, ⟨⟨n2, rfl⟩⟩⟩
      go_wp2_with (fail)
      refine (HN2.out _).mono ?_
      rintro e w' ⟨rfl, rfl⟩
      go_wp2_with (fail)
      refine (HF1.out _).mono ?_
      rintro e w' ⟨rfl, rfl⟩
      go_wp2_with (fail)
      go_ret2
      exact ⟨by rw [HFIN.out]; rfl, by repeat (first | exact Below.refl _ _ | apply pw_below_drewN | apply below_alloc)⟩
    · rw [if_neg q1] at hfin
      by_cases q2 : dmin < dmax
      · rw [if_pos q2] at hfin
        have HFIN := Lib.hid hfin
        clear hfin
        go_enter Tryd.func66, Tryd.ntmps66
        go_wp2_with (fail)
        refine (log10Pow2_calls _ _ (by omega) (by omega)).mono ?_
        rintro e w' ⟨rfl, rfl⟩
        go_wp2_with (fail)
        refine (log2Pow10_calls _ _ (by omega) (by omega)).mono ?_
        rintro e w' ⟨rfl, rfl⟩
        go_wp2_with (fail)
        refine HP.out.mono ?_
        rintro e w' ⟨rfl, rfl⟩
        go_wp2_with (fail)
        refine (HU1.out _ ?c0yb ?c1yb ?c2yb).mono ?_
        case c0yb => simp
        case c1yb => simp
        case c2yb => simp
        rintro e w' ⟨rfl, ⟨⟨n1, rfl⟩⟩⟩
        go_wp2_with (fail)
        refine (HN1.out _).mono ?_
        rintro e w' ⟨rfl, rfl⟩
        go_wp2_with (fail)
        refine (HC1.out _).mono ?_
        rintro e w' ⟨rfl, rfl⟩
        go_wp2_with (fail)
        refine (HU2.out _ ?c3yb ?c4yb ?c5yb).mono ?_
        case c3yb => simp
        case c4yb => simp
        case c5yb => simp
        rintro e w' ⟨rfl, ⟨⟨n2, rfl⟩⟩⟩
        go_wp2_with (fail)
        refine (HN2.out _).mono ?_
        rintro e w' ⟨rfl, rfl⟩
        go_wp2_with (fail)
        refine (HF1.out _).mono ?_
        rintro e w' ⟨rfl, rfl⟩
        go_wp2_with (fail)
        refine (HU3.out _ ?c6yb ?c7yb ?c8yb).mono ?_
        case c6yb => simp
        case c7yb => simp
        case c8yb => simp
        rintro e w' ⟨rfl, ⟨⟨n3, rfl⟩⟩⟩
        go_wp2_with (fail)
        refine (HR1.out _).mono ?_
        rintro e w' ⟨rfl, rfl⟩
        go_wp2_with (fail)
        go_ret2
        exact ⟨by rw [HFIN.out]; rfl, by repeat (first | exact Below.refl _ _ | apply pw_below_drewN | apply below_alloc)⟩
      · rw [if_neg q2] at hfin
        have HFIN := Lib.hid hfin
        clear hfin
        go_enter Tryd.func66, Tryd.ntmps66
        go_wp2_with (fail)
        refine (log10Pow2_calls _ _ (by omega) (by omega)).mono ?_
        rintro e w' ⟨rfl, rfl⟩
        go_wp2_with (fail)
        refine (log2Pow10_calls _ _ (by omega) (by omega)).mono ?_
        rintro e w' ⟨rfl, rfl⟩
        go_wp2_with (fail)
        refine HP.out.mono ?_
        rintro e w' ⟨rfl, rfl⟩
        go_wp2_with (fail)
        refine (HU1.out _ ?c0yc ?c1yc ?c2yc).mono ?_
        case c0yc => simp
        case c1yc => simp
        case c2yc => simp
        rintro e w' ⟨rfl, ⟨⟨n1, rfl⟩⟩⟩
        go_wp2_with (fail)
        refine (HN1.out _).mono ?_
        rintro e w' ⟨rfl, rfl⟩
        go_wp2_with (fail)
        refine (HC1.out _).mono ?_
        rintro e w' ⟨rfl, rfl⟩
        go_wp2_with (fail)
        refine (HU2.out _ ?c3yc ?c4yc ?c5yc).mono ?_
        case c3yc => simp
        case c4yc => simp
        case c5yc => simp
        rintro e w' ⟨rfl, ⟨⟨n2, rfl⟩⟩⟩
        go_wp2_with (fail)
        refine (HN2.out _).mono ?_
        rintro e w' ⟨rfl, rfl⟩
        go_wp2_with (fail)
        refine (HF1.out _).mono ?_
        rintro e w' ⟨rfl, rfl⟩
        go_wp2_with (fail)
        go_ret2
        exact ⟨by rw [HFIN.out]; rfl, by repeat (first | exact Below.refl _ _ | apply pw_below_drewN | apply below_alloc)⟩

set_option maxHeartbeats 6400000 in
set_option maxRecDepth 100000 in
theorem short64C (m mn mx od u1 u2 u3 s hi lo : Nat) (e p lp : Int) (w : World) (h3 : 3 < w.heap.size) (h1 : m < 18446744073709551616) (z : Nat) (hz : 11 + (-1085 - e) = (z : Int)) (hz1 : 2 ≤ z) (hz2 : z ≤ 63) (he0 : e < -1085) (hf : Int) (hhf : IntKind.u64.wrap (2 ^ (z - 1)) = hf) (mz : Nat) (hmz : (m : Int) / 2 ^ z = (mz : Int)) (bmz : mz < 9223372036854775808)
    
    (hp : -((e + z) * 78913 / 262144) = p) (hlp : p * 108853 / 32768 = lp) (hp0 : -348 ≤ p) (hp1 : p ≤ 347)
    (hmn : IntKind.u64.wrap ((m : Int) - hf) = (mn : Int)) (hmx : IntKind.u64.wrap ((m : Int) + hf) = (mx : Int)) (hod : bits .and .i64 (mz : Int) 1 = (od : Int))
    (bmn : mn < 18446744073709551616) (bmx : mx < 18446744073709551616) (bod : od ≤ 1)
    (hhi : w.cell? ⟨3, (p + 348).toNat * 2, none⟩ = some (.int .u64 (hi : Int))) (hlo : w.cell? ⟨3, (p + 348).toNat * 2 + 1, none⟩ = some (.int .u64 (lo : Int)))
    (bhi : 1 ≤ hi) (bhi2 : hi < 18446744073709551616) (blo : lo < 18446744073709551616) (hs : -(e + lp + 3) = (s : Int)) (bs : s < 64)
    (hu1 : Fm.usc mn hi lo s = u1) (hu2 : Fm.usc mx hi lo s = u2) (hu3 : Fm.usc m hi lo s = u3) (b1 : u1 + 10 < 18446744073709551616) (b2 : u2 + 10 < 18446744073709551616) (b21 : 1 ≤ u2) (b3 : u3 + 10 < 18446744073709551616) :
    Calls Tryd.prog 66 #[.int .u64 (m : Int), .int .i64 e] w fun e' w' => e' = .returned (.tuple #[.int .u64 ((sfRes u1 u2 u3 od p).1 : Int), .int .i64 (sfRes u1 u2 u3 od p).2]) ∧ Below w.heap.size w w' := by
  have U1 := fun w' c0 c1 c2 => uscale_calls mn w.heap.size hi lo s w' bmn bhi bhi2 blo bs c0 c1 c2
  have U2 := fun w' c0 c1 c2 => uscale_calls mx w.heap.size hi lo s w' bmx bhi bhi2 blo bs c0 c1 c2
  have U3 := fun w' c0 c1 c2 => uscale_calls m w.heap.size hi lo s w' h1 bhi bhi2 blo bs c0 c1 c2
  rw [hu1] at U1; rw [hu2] at U2; rw [hu3] at U3
  have P := prescale_new e p lp hi lo w h3 (by omega) (by omega) (by omega) (by omega) hp0 hp1 hhi hlo
  rw [hs] at P
  have HU1 := Lib.hid U1; have HU2 := Lib.hid U2; have HU3 := Lib.hid U3; have HP := Lib.hid P
  clear U1 U2 U3 P hu1 hu2 hu3 hs hhi hlo
  obtain ⟨v1, hv1⟩ : ∃ v, u1 + od = v := ⟨_, rfl⟩
  obtain ⟨v2, hv2⟩ : ∃ v, u2 - od = v := ⟨_, rfl⟩
  obtain ⟨dmin, hdmin⟩ : ∃ v, (v1 + 3) / 4 = v := ⟨_, rfl⟩
  obtain ⟨dmax, hdmax⟩ : ∃ v, v2 / 4 = v := ⟨_, rfl⟩
  obtain ⟨dr, hdr⟩ : ∃ v, (u3 + 1 + u3 / 4 % 2) / 4 = v := ⟨_, rfl⟩
  obtain ⟨t, ht⟩ : ∃ v, dmax / 10 = v := ⟨_, rfl⟩
  have N1 : ∀ w, Calls Tryd.prog 74 #[.int .u64 (u1 : Int), .int .i64 (od : Int)] w fun e w' => e = .returned (.int .u64 (v1 : Int)) ∧ w = w' := fun w => by
    have h := nudge_calls (u1 : Int) (od : Int) w (by omega) (by omega)
    rwa [show (u1 : Int) + (od : Int) = (v1 : Int) by omega] at h
  have N2 : ∀ w, Calls Tryd.prog 74 #[.int .u64 (u2 : Int), .int .i64 (-(od : Int))] w fun e w' => e = .returned (.int .u64 (v2 : Int)) ∧ w = w' := fun w => by
    have h := nudge_calls (u2 : Int) (-(od : Int)) w (by omega) (by omega)
    rwa [show (u2 : Int) + -(od : Int) = (v2 : Int) by omega] at h
  have C1 : ∀ w, Calls Tryd.prog 75 #[.int .u64 (v1 : Int)] w fun e w' => e = .returned (.int .u64 (dmin : Int)) ∧ w = w' := fun w => by
    have h := ceil_calls (v1 : Int) w (by omega) (by omega)
    rwa [show ((v1 : Int) + 3) / 4 = (dmin : Int) by omega] at h
  have F1 : ∀ w, Calls Tryd.prog 76 #[.int .u64 (v2 : Int)] w fun e w' => e = .returned (.int .u64 (dmax : Int)) ∧ w = w' := fun w => by
    have h := floor_calls (v2 : Int) w (by omega) (by omega)
    rwa [show (v2 : Int) / 4 = (dmax : Int) by omega] at h
  have R1 : ∀ w, Calls Tryd.prog 77 #[.int .u64 (u3 : Int)] w fun e w' => e = .returned (.int .u64 (dr : Int)) ∧ w = w' := fun w => by
    have h := round_calls (u3 : Int) w (by omega) (by omega)
    rwa [show ((u3 : Int) + 1 + (u3 : Int) / 4 % 2) / 4 = (dr : Int) by omega] at h
  have HN1 := Lib.hid N1; have HN2 := Lib.hid N2; have HC1 := Lib.hid C1; have HF1 := Lib.hid F1; have HR1 := Lib.hid R1
  have hfin : sfRes u1 u2 u3 od p = if dmin ≤ t * 10 then (t, -(p - 1)) else if dmin < dmax then (dr, -p) else (dmin, -p) := by
    unfold sfRes; rw [hv1, hv2, hdmin, hdmax, hdr, ht]
  have bdmax : dmax < 4611686018427387904 := by omega
  have bt : t * 10 ≤ dmax := by omega
  have e10 : (dmax : Int) / 10 = (t : Int) := by omega
  clear N1 N2 C1 F1 R1 hv1 hv2 hdmin hdmax hdr ht b1 b2 b3 b21
  by_cases c1 : ((m : Int) == 9223372036854775808) = true
  · have c3 : ¬ (-1085 < e) := by omega
    by_cases q1 : dmin ≤ t * 10
    · rw [if_pos q1] at hfin
      have HFIN := Lib.hid hfin
      clear hfin
      go_enter Tryd.func66, Tryd.ntmps66
      go_wp2_with (fail)
      refine (log10Pow2_calls _ _ (by omega) (by omega)).mono ?_
      rintro e w' ⟨rfl, rfl⟩
      go_wp2_with (fail)
      refine (log2Pow10_calls _ _ (by omega) (by omega)).mono ?_
      rintro e w' ⟨rfl, rfl⟩
      go_wp2_with (fail)
      refine HP.out.mono ?_
      rintro e w' ⟨rfl, rfl⟩
      go_wp2_with (fail)
      refine (HU1.out _ ?c0xa ?c1xa ?c2xa).mono ?_
      case c0xa => simp
      case c1xa => simp
      case c2xa => simp
      rintro e w' ⟨rfl, ⟨⟨n1, rfl⟩⟩⟩
      go_wp2_with (fail)
      refine (HN1.out _).mono ?_
      rintro e w' ⟨rfl, rfl⟩
      go_wp2_with (fail)
      refine (HC1.out _).mono ?_
      rintro e w' ⟨rfl, rfl⟩
      go_wp2_with (fail)
      refine (HU2.out _ ?c3xa ?c4xa ?c5xa).mono ?_
      case c3xa => simp
      case c4xa => simp
      case c5xa => simp
      rintro e w' ⟨rfl, ⟨⟨n2, rfl⟩⟩⟩
      go_wp2_with (fail)
      refine (HN2.out _).mono ?_
      rintro e w' ⟨rfl, rfl⟩
      go_wp2_with (fail)
      refine (HF1.out _).mono ?_
      rintro e w' ⟨rfl, rfl⟩
      go_wp2_with (fail)
      go_ret2
      exact ⟨by rw [HFIN.out]; rfl, by repeat (first | exact Below.refl _ _ | apply pw_below_drewN | apply below_alloc)⟩
    · rw [if_neg q1] at hfin
      by_cases q2 : dmin < dmax
      · rw [if_pos q2] at hfin
        have HFIN := Lib.hid hfin
        clear hfin
        go_enter Tryd.func66, Tryd.ntmps66
        go_wp2_with (fail)
        refine (log10Pow2_calls _ _ (by omega) (by omega)).mono ?_
        rintro e w' ⟨rfl, rfl⟩
        go_wp2_with (fail)
        refine (log2Pow10_calls _ _ (by omega) (by omega)).mono ?_
        rintro e w' ⟨rfl, rfl⟩
        go_wp2_with (fail)
        refine HP.out.mono ?_
        rintro e w' ⟨rfl, rfl⟩
        go_wp2_with (fail)
        refine (HU1.out _ ?c0xb ?c1xb ?c2xb).mono ?_
        case c0xb => simp
        case c1xb => simp
        case c2xb => simp
        rintro e w' ⟨rfl, ⟨⟨n1, rfl⟩⟩⟩
        go_wp2_with (fail)
        refine (HN1.out _).mono ?_
        rintro e w' ⟨rfl, rfl⟩
        go_wp2_with (fail)
        refine (HC1.out _).mono ?_
        rintro e w' ⟨rfl, rfl⟩
        go_wp2_with (fail)
        refine (HU2.out _ ?c3xb ?c4xb ?c5xb).mono ?_
        case c3xb => simp
        case c4xb => simp
        case c5xb => simp
        rintro e w' ⟨rfl, ⟨⟨n2, rfl⟩⟩⟩
        go_wp2_with (fail)
        refine (HN2.out _).mono ?_
        rintro e w' ⟨rfl, rfl⟩
        go_wp2_with (fail)
        refine (HF1.out _).mono ?_
        rintro e w' ⟨rfl, rfl⟩
        go_wp2_with (fail)
        refine (HU3.out _ ?c6xb ?c7xb ?c8xb).mono ?_
        case c6xb => simp
        case c7xb => simp
        case c8xb => simp
        rintro e w' ⟨rfl, ⟨⟨n3, rfl⟩⟩⟩
        go_wp2_with (fail)
        refine (HR1.out _).mono ?_
        rintro e w' ⟨rfl, rfl⟩
        go_wp2_with (fail)
        go_ret2
        exact ⟨by rw [HFIN.out]; rfl, by repeat (first | exact Below.refl _ _ | apply pw_below_drewN | apply below_alloc)⟩
      · rw [if_neg q2] at hfin
        have HFIN := Lib.hid hfin
        clear hfin
        go_enter Tryd.func66, Tryd.ntmps66
        go_wp2_with (fail)
        refine (log10Pow2_calls _ _ (by omega) (by omega)).mono ?_
        rintro e w' ⟨rfl, rfl⟩
        go_wp2_with (fail)
        refine (log2Pow10_calls _ _ (by omega) (by omega)).mono ?_
        rintro e w' ⟨rfl, rfl⟩
        go_wp2_with (fail)
        refine HP.out.mono ?_
        rintro e w' ⟨rfl, rfl⟩
        go_wp2_with (fail)
        refine (HU1.out _ ?c0xc ?c1xc ?c2xc).mono ?_
        case c0xc => simp
        case c1xc => simp
        case c2xc => simp
        rintro e w' ⟨rfl, ⟨⟨n1, rfl⟩⟩⟩
        go_wp2_with (fail)
        refine (HN1.out _).mono ?_
        rintro e w' ⟨rfl, rfl⟩
        go_wp2_with (fail)
        refine (HC1.out _).mono ?_
        rintro e w' ⟨rfl, rfl⟩
        go_wp2_with (fail)
        refine (HU2.out _ ?c3xc ?c4xc ?c5xc).mono ?_
        case c3xc => simp
        case c4xc => simp
        case c5xc => simp
        rintro e w' ⟨rfl, ⟨⟨n2, rfl⟩⟩⟩
        go_wp2_with (fail)
        refine (HN2.out _).mono ?_
        rintro e w' ⟨rfl, rfl⟩
        go_wp2_with (fail)
        refine (HF1.out _).mono ?_
        rintro e w' ⟨rfl, rfl⟩
        go_wp2_with (fail)
        go_ret2
        exact ⟨by rw [HFIN.out]; rfl, by repeat (first | exact Below.refl _ _ | apply pw_below_drewN | apply below_alloc)⟩
  · have c1 : ((m : Int) == 9223372036854775808) = false := by simpa using c1
    by_cases q1 : dmin ≤ t * 10
    · rw [if_pos q1] at hfin
      have HFIN := Lib.hid hfin
      clear hfin
      go_enter Tryd.func66, Tryd.ntmps66
      go_wp2_with (fail)
      refine (log10Pow2_calls _ _ (by omega) (by omega)).mono ?_
      rintro e w' ⟨rfl, rfl⟩
      go_wp2_with (fail)
      refine (log2Pow10_calls _ _ (by omega) (by omega)).mono ?_
      rintro e w' ⟨rfl, rfl⟩
      go_wp2_with (fail)
      refine HP.out.mono ?_
      rintro e w' ⟨rfl, rfl⟩
      go_wp2_with (fail)
      refine (HU1.out _ ?c0ya ?c1ya ?c2ya).mono ?_
      case c0ya => simp
      case c1ya => simp
      case c2ya => simp
      rintro e w' ⟨rfl, ⟨⟨n1, rfl⟩⟩⟩
      go_wp2_with (fail)
      refine (HN1.out _).mono ?_
      rintro e w' ⟨rfl, rfl⟩
      go_wp2_with (fail)
      refine (HC1.out _).mono ?_
      rintro e w' ⟨rfl, rfl⟩
      go_wp2_with (fail)
      refine (HU2.out _ ?c3ya ?c4ya ?c5ya).mono ?_
      case c3ya => simp
      case c4ya => simp
      case c5ya => simp
      rintro e w' ⟨rfl, ⟨⟨n2, rfl⟩⟩⟩
      go_wp2_with (fail)
      refine (HN2.out _).mono ?_
      rintro e w' ⟨rfl, rfl⟩
      go_wp2_with (fail)
      refine (HF1.out _).mono ?_
      rintro e w' ⟨rfl, rfl⟩
      go_wp2_with (fail)
      go_ret2
      exact ⟨by rw [HFIN.out]; rfl, by repeat (first | exact Below.refl _ _ | apply pw_below_drewN | apply below_alloc)⟩
    · rw [if_neg q1] at hfin
      by_cases q2 : dmin < dmax
      · rw [if_pos q2] at hfin
        have HFIN := Lib.hid hfin
        clear hfin
        go_enter Tryd.func66, Tryd.ntmps66
        go_wp2_with (fail)
        refine (log10Pow2_calls _ _ (by omega) (by omega)).mono ?_
        rintro e w' ⟨rfl, rfl⟩
        go_wp2_with (fail)
        refine (log2Pow10_calls _ _ (by omega) (by omega)).mono ?_
        rintro e w' ⟨rfl, rfl⟩
        go_wp2_with (fail)
        refine HP.out.mono ?_
        rintro e w' ⟨rfl, rfl⟩
        go_wp2_with (fail)
        refine (HU1.out _ ?c0yb ?c1yb ?c2yb).mono ?_
        case c0yb => simp
        case c1yb => simp
        case c2yb => simp
        rintro e w' ⟨rfl, ⟨⟨n1, rfl⟩⟩⟩
        go_wp2_with (fail)
        refine (HN1.out _).mono ?_
        rintro e w' ⟨rfl, rfl⟩
        go_wp2_with (fail)
        refine (HC1.out _).mono ?_
        rintro e w' ⟨rfl, rfl⟩
        go_wp2_with (fail)
        refine (HU2.out _ ?c3yb ?c4yb ?c5yb).mono ?_
        case c3yb => simp
        case c4yb => simp
        case c5yb => simp
        rintro e w' ⟨rfl, ⟨⟨n2, rfl⟩⟩⟩
        go_wp2_with (fail)
        refine (HN2.out _).mono ?_
        rintro e w' ⟨rfl, rfl⟩
        go_wp2_with (fail)
        refine (HF1.out _).mono ?_
        rintro e w' ⟨rfl, rfl⟩
        go_wp2_with (fail)
        refine (HU3.out _ ?c6yb ?c7yb ?c8yb).mono ?_
        case c6yb => simp
        case c7yb => simp
        case c8yb => simp
        rintro e w' ⟨rfl, ⟨⟨n3, rfl⟩⟩⟩
        go_wp2_with (fail)
        refine (HR1.out _).mono ?_
        rintro e w' ⟨rfl, rfl⟩
        go_wp2_with (fail)
        go_ret2
        exact ⟨by rw [HFIN.out]; rfl, by repeat (first | exact Below.refl _ _ | apply pw_below_drewN | apply below_alloc)⟩
      · rw [if_neg q2] at hfin
        have HFIN := Lib.hid hfin
        clear hfin
        go_enter Tryd.func66, Tryd.ntmps66
        go_wp2_with (fail)
        refine (log10Pow2_calls _ _ (by omega) (by omega)).mono ?_
        rintro e w' ⟨rfl, rfl⟩
        go_wp2_with (fail)
        refine (log2Pow10_calls _ _ (by omega) (by omega)).mono ?_
        rintro e w' ⟨rfl, rfl⟩
        go_wp2_with (fail)
        refine HP.out.mono ?_
        rintro e w' ⟨rfl, rfl⟩
        go_wp2_with (fail)
        refine (HU1.out _ ?c0yc ?c1yc ?c2yc).mono ?_
        case c0yc => simp
        case c1yc => simp
        case c2yc => simp
        rintro e w' ⟨rfl, ⟨⟨n1, rfl⟩⟩⟩
        go_wp2_with (fail)
        refine (HN1.out _).mono ?_
        rintro e w' ⟨rfl, rfl⟩
        go_wp2_with (fail)
        refine (HC1.out _).mono ?_
        rintro e w' ⟨rfl, rfl⟩
        go_wp2_with (fail)
        refine (HU2.out _ ?c3yc ?c4yc ?c5yc).mono ?_
        case c3yc => simp
        case c4yc => simp
        case c5yc => simp
        rintro e w' ⟨rfl, ⟨⟨n2, rfl⟩⟩⟩
        go_wp2_with (fail)
        refine (HN2.out _).mono ?_
        rintro e w' ⟨rfl, rfl⟩
        go_wp2_with (fail)
        refine (HF1.out _).mono ?_
        rintro e w' ⟨rfl, rfl⟩
        go_wp2_with (fail)
        go_ret2
        exact ⟨by rw [HFIN.out]; rfl, by repeat (first | exact Below.refl _ _ | apply pw_below_drewN | apply below_alloc)⟩

end Go.Proofs.YtiopeaponffmdaaDoor.PAll
-- YtiopeaponffmdaaDoorMg
namespace Go.Proofs.YtiopeaponffmdaaDoor.PAll
open Go.RowKit Go.Proofs.YtiopeaponffmdaaDoorW.PrintWords Go.Proofs.YtiopeaponffmdaaDoorW.PrintLast Go.Proofs.YtiopeaponffmdaaDoorW.PrintMore
open Fm

/-- the grid of tenths: 10^(n-k), in units of 2^-(least+1) 10^-a -/
def Ug (f : Nat) (n : Int) (a k : Nat) : Nat := 2 ^ (lst f + 1) * 10 ^ (n - (k : Int) + (a : Int)).toNat

theorem Ug_pos (f : Nat) (n : Int) (a k : Nat) : 0 < Ug f n a k := Nat.mul_pos (Nat.two_pow_pos _) (Nat.pow_pos (by decide))
theorem Ug_succ (f : Nat) (n : Int) (a k : Nat) (h : 0 ≤ n - (k : Int) - 1 + (a : Int)) : Ug f n a k = 10 * Ug f n a (k + 1) := by
  unfold Ug
  rw [show (n - (k : Int) + (a : Int)).toNat = (n - ((k + 1 : Nat) : Int) + (a : Int)).toNat + 1 by omega, Nat.pow_succ]
  grind

theorem agn_scale (f D : Nat) (i : Int) (H a : Nat) (h : 0 ≤ i + (a : Int)) : agn f D i H = cmp (D * (2 ^ (lst f + 1) * 10 ^ (i + (a : Int)).toNat)) (H * 10 ^ a) := by
  unfold agn
  rw [← cmp_mul _ _ (10 ^ (a - (-i).toNat)) (Nat.pow_pos (by decide))]
  have e1 : (i + (a : Int)).toNat = i.toNat + (a - (-i).toNat) := by omega
  have e2 : H * 10 ^ (-i).toNat * 10 ^ (a - (-i).toNat) = H * 10 ^ a := by
    rw [Nat.mul_assoc, ← Nat.pow_add]
    congr 2
    omega
  rw [e1, e2, Nat.pow_add]
  congr 1
  grind

theorem two_ten (L e : Nat) (hL : L ≤ 1074) (he : 324 ≤ e) : 2 ^ L ≤ 10 ^ e := by
  obtain ⟨m, hm⟩ : ∃ m, m = 11 := ⟨_, rfl⟩
  calc 2 ^ L ≤ 2 ^ (93 * m + 51) := Nat.pow_le_pow_right (by decide) (by omega)
    _ = (2 ^ 93) ^ m * 2 ^ 51 := by rw [Nat.pow_add, Nat.pow_mul]
    _ ≤ (10 ^ 28) ^ m * 10 ^ 16 := Nat.mul_le_mul (Nat.pow_le_pow_left (by decide) m) (by decide)
    _ = 10 ^ (28 * m + 16) := by rw [Nat.pow_add, Nat.pow_mul]
    _ ≤ 10 ^ e := Nat.pow_le_pow_right (by decide) (by omega)
/-- a number's place among the powers of ten -/
theorem ref_ready (f c : Nat) (most : Int) (a : Nat) (ha : 400 ≤ a) (hf : f = 52 ∨ f = 23) (hc0 : 1 ≤ c) (hc1 : c < 18446744073709550000) (hc2 : (c + 1) / 2 ^ f ≤ 2100)
    (hT0 : 1 ≤ T2 f c) (e311 : Nat) (he311 : e311 = 311) (hT1 : T2 f c < 2 ^ lst f * 10 ^ e311) :
    ∃ n : Int, -329 ≤ n ∧ n ≤ 311 ∧ Ug f n a 1 ≤ T2 f c * 2 ^ 1 * 10 ^ a ∧ T2 f c * 2 ^ 1 * 10 ^ a < Ug f n a 0 ∧
      ∀ kk x : Nat, 1 ≤ kk → kk ≤ 17 →
        (∀ j, 1 ≤ j → j < kk → refStep (T2 f c * 2 ^ 1 * 10 ^ a) ((T2 f (c - 1) + T2 f c) * 10 ^ a) ((T2 f c + T2 f (c + 1)) * 10 ^ a) (decide (c % 2 = 0)) (Ug f n a j) = none) →
        refStep (T2 f c * 2 ^ 1 * 10 ^ a) ((T2 f (c - 1) + T2 f c) * 10 ^ a) ((T2 f c + T2 f (c + 1)) * 10 ^ a) (decide (c % 2 = 0)) (Ug f n a kk) = some x →
        Ev (fun k => spec_Form_Shortest.f k (f : Int) most (c : Int)) (strOfNums (dec (cutz x)), n + ((dec x).length : Int) - (kk : Int)) := by
  have q1 : c / 2 ^ f ≤ 2100 := Nat.le_trans (Nat.div_le_div_right (by omega)) hc2
  obtain ⟨r, r1, r2, r3, r4, r5⟩ := top_ev f c most hf (by omega) q1
  obtain ⟨V, hV⟩ : ∃ V, V = T2 f c * 2 ^ 1 * 10 ^ a := ⟨_, rfl⟩
  have hL := lst_le f
  -- the bounds of V
  have b1 : Ug f (r + 1) a 1 ≤ V := by
    have g := agn_scale f 1 r (T2 f c * 2 ^ 1) a (by omega)
    rw [Nat.one_mul, ← hV] at g
    have eU : Ug f (r + 1) a 1 = 2 ^ (lst f + 1) * 10 ^ (r + (a : Int)).toNat := by
      unfold Ug; rw [show r + 1 - ((1 : Nat) : Int) + (a : Int) = r + (a : Int) by omega]
    rw [eU]
    rcases r3 with rfl | r3
    · obtain ⟨e, he⟩ : ∃ e, e = 330 := ⟨_, rfl⟩
      obtain ⟨i, hi⟩ : ∃ i, i = (-330 + (a : Int)).toNat := ⟨_, rfl⟩
      have ei : e + i = a := by omega
      have k1 := two_ten (lst f) e hL (by omega)
      have k2 : (2 : Nat) ^ (lst f + 1) = 2 ^ lst f * 2 := Nat.pow_succ ..
      rw [hV, ← hi, k2]
      calc 2 ^ lst f * 2 * 10 ^ i ≤ 10 ^ e * 2 * 10 ^ i := Nat.mul_le_mul_right _ (Nat.mul_le_mul_right _ k1)
        _ = 1 * 2 ^ 1 * 10 ^ (e + i) := by rw [Nat.pow_add]; grind
        _ = 1 * 2 ^ 1 * 10 ^ a := by rw [ei]
        _ ≤ T2 f c * 2 ^ 1 * 10 ^ a := Nat.mul_le_mul_right _ (Nat.mul_le_mul_right _ hT0)
    · rw [g, cmp_le_zero] at r3
      exact r3
  have b2 : V < Ug f (r + 1) a 0 := by
    have g := agn_scale f 1 (r + 1) (T2 f c * 2 ^ 1) a (by omega)
    rw [Nat.one_mul, ← hV] at g
    have eU : Ug f (r + 1) a 0 = 2 ^ (lst f + 1) * 10 ^ (r + 1 + (a : Int)).toNat := by
      unfold Ug; rw [show r + 1 - ((0 : Nat) : Int) + (a : Int) = r + 1 + (a : Int) by omega]
    rw [eU]
    rcases r4 with rfl | r4
    · have ei : ((310 : Int) + 1 + (a : Int)).toNat = e311 + a := by omega
      have k2 : (2 : Nat) ^ (lst f + 1) = 2 ^ lst f * 2 := Nat.pow_succ ..
      rw [hV, ei, k2, Nat.pow_add]
      have k3 : T2 f c * (2 * 10 ^ a) < 2 ^ lst f * 10 ^ e311 * (2 * 10 ^ a) := Nat.mul_lt_mul_of_pos_right hT1 (Nat.mul_pos (by decide) (Nat.pow_pos (by decide)))
      calc T2 f c * 2 ^ 1 * 10 ^ a = T2 f c * (2 * 10 ^ a) := by rw [Nat.pow_one, Nat.mul_assoc]
        _ < 2 ^ lst f * 10 ^ e311 * (2 * 10 ^ a) := k3
        _ = 2 ^ lst f * 2 * (10 ^ e311 * 10 ^ a) := by generalize 10 ^ e311 = X; generalize 10 ^ a = Y; generalize 2 ^ lst f = Z; grind
    · rw [g, cmp_le_zero] at r4
      omega
  -- all digits
  obtain ⟨q, s1, s2, s3, s4⟩ := below_ev f c most (r + 1 - 17) hf (by omega) q1 (by omega) (by omega)
  have hU : ∀ k : Nat, k < 17 → Ug f (r + 1) a k = 10 * Ug f (r + 1) a (k + 1) := fun k hk => Ug_succ f (r + 1) a k (by omega)
  have hg : ∀ D, agn f D (r + 1 - 17) (T2 f c * 2 ^ 1) = cmp (D * Ug f (r + 1) a 17) V := fun D => by
    rw [agn_scale f D (r + 1 - 17) (T2 f c * 2 ^ 1) a (by omega), ← hV]
    rfl
  have c1 : q * Ug f (r + 1) a 17 ≤ V := by
    rcases s2 with rfl | s2
    · omega
    · rw [hg, cmp_le_zero] at s2; exact s2
  have U0 := unit_mul (Ug f (r + 1) a) hU 0 17 (by omega)
  rw [Nat.zero_add] at U0
  have c2 : V < (q + 1) * Ug f (r + 1) a 17 := by
    rcases s3 with rfl | s3
    · have e : 99999999999999999 + 1 = 10 ^ 17 := by decide
      rw [e, ← U0]; exact b2
    · rw [hg, cmp_le_zero] at s3; omega
  have hdiv : V / Ug f (r + 1) a 17 = q := Nat.div_eq_of_lt_le c1 c2
  have hx : ∀ k, 1 ≤ k → k ≤ 17 → V / Ug f (r + 1) a k = q / 10 ^ (17 - k) := by
    intro k k1 k2
    have := unit_mul (Ug f (r + 1) a) hU k (17 - k) (by omega)
    rw [show k + (17 - k) = 17 by omega] at this
    rw [this, Nat.mul_comm, ← Nat.div_div_eq_div_mul, hdiv]
  refine ⟨r + 1, by omega, by omega, by rw [← hV]; exact b1, by rw [← hV]; exact b2, fun kk x k1 k2 hnone hsome => ?_⟩
  rw [← hV] at hnone hsome
  have hr : ∀ k D : Nat, 1 ≤ k → k ≤ 17 → readsB f c D (r + 1 - (k : Int)) = decide (Inn ((T2 f (c - 1) + T2 f c) * 10 ^ a) ((T2 f c + T2 f (c + 1)) * 10 ^ a) (decide (c % 2 = 0)) (D * Ug f (r + 1) a k)) := by
    intro k D k1 k2
    unfold readsB
    rw [decide_eq_decide, agn_scale f D (r + 1 - (k : Int)) _ a (by omega), agn_scale f D (r + 1 - (k : Int)) _ a (by omega)]
    have eU : D * (2 ^ (lst f + 1) * 10 ^ (r + 1 - (k : Int) + (a : Int)).toNat) = D * Ug f (r + 1) a k := rfl
    rw [eU]
    unfold Inn
    generalize D * Ug f (r + 1) a k = w
    generalize (T2 f (c - 1) + T2 f c) * 10 ^ a = lo
    generalize (T2 f c + T2 f (c + 1)) * 10 ^ a = hi
    have z1 := cmp_le_zero w lo
    have z2 := cmp_zero w lo
    have z3 := cmp_neg w hi
    have z4 := cmp_zero w hi
    rw [decide_eq_true_eq]
    generalize cmp w lo = x1 at *
    generalize cmp w hi = x2 at *
    omega
  have hcl : ∀ k x : Nat, 1 ≤ k → k ≤ 17 → decide (agn f (2 * x + 1) (r + 1 - (k : Int)) (T2 f c * 2 ^ 2) < 0 ∨ (agn f (2 * x + 1) (r + 1 - (k : Int)) (T2 f c * 2 ^ 2) = 0 ∧ x % 2 = 1)) = decide (Closer V (Ug f (r + 1) a k) x) := by
    intro k x k1 k2
    rw [agn_scale f (2 * x + 1) (r + 1 - (k : Int)) _ a (by omega), decide_eq_decide, cmp_neg, cmp_zero]
    unfold Closer
    show ((2 * x + 1) * Ug f (r + 1) a k < _ ∨ (2 * x + 1) * Ug f (r + 1) a k = _ ∧ _) ↔ _
    have e : T2 f c * 2 ^ 2 * 10 ^ a = 2 * V := by
      rw [hV]
      generalize 10 ^ a = Y
      generalize T2 f c = X
      grind
    rw [e]
  have hloop := shortest_loop f c q most (r + 1) hf hc0 (by omega) hc2 (by omega) (by omega) (by omega) V _ _ _ _ hx hr hcl kk x k1 k2 hnone hsome
  refine Ev.congr (Ev.bind (h := fun k t => (spec_Form_below.f k (f : Int) most (c : Int) (wrap64 (t - 17))).bind fun t442 => spec_Form_Shortest.l0 k (c : Int) t t442 10000000000000000 1 (f : Int) most) r5 ?_) (fun k => rfl)
  rw [w64 (r + 1 - 17) (by omega) (by omega)]
  exact Ev.bind s4 hloop

/-- the same number in two ways -/
theorem cutz_mul (x : Nat) (hx : 0 < x) : ∀ i, cutz (x * 10 ^ i) = cutz x ∧ (dec (x * 10 ^ i)).length = (dec x).length + i := by
  intro i
  induction i with
  | zero => rw [Nat.pow_zero, Nat.mul_one]; exact ⟨rfl, rfl⟩
  | succ i ih =>
    have hp : 0 < x * 10 ^ i := Nat.mul_pos hx (Nat.pow_pos (by decide))
    have e : x * 10 ^ (i + 1) = x * 10 ^ i * 10 := by rw [Nat.pow_succ, Nat.mul_assoc]
    rw [e]
    generalize x * 10 ^ i = y at *
    rw [cutz_pos (by omega) (by omega), dec_ge (by omega), Nat.mul_div_cancel _ (by decide)]
    refine ⟨ih.1, ?_⟩
    rw [List.length_append, ih.2]
    simp only [List.length_cons, List.length_nil]
    omega
theorem cutz_same {x y i j : Nat} (hx : 0 < x) (hy : 0 < y) (h : x * 10 ^ i = y * 10 ^ j) : cutz x = cutz y ∧ (dec x).length + i = (dec y).length + j := by
  have h1 := cutz_mul x hx i
  have h2 := cutz_mul y hy j
  rw [h] at h1
  exact ⟨h1.1.symm.trans h2.1, h1.2.symm.trans h2.2⟩

/-- one grid's answer, and the reference's -/
theorem core {V Bm Bp u1 u2 u3 od kk : Nat} {ev : Bool} {U : Nat → Nat} {p : Int} (hU : ∀ k, k < 17 → U k = 10 * U (k + 1)) (k1 : 1 ≤ kk) (k2 : kk ≤ 17) (hpos : 0 < U kk) (hBm0 : 0 < Bm) (hBm : Bm < V) (hBp : V < Bp)
    (hsym : Bp - V ≤ 2 * (V - Bm)) (hsym2 : V - Bm ≤ Bp - V) (hwide : Bm + U kk < Bp ∨ (Bm + U kk = Bp ∧ V % U kk = 0) ∨ (Bm + U kk ≤ Bp ∧ ev = true)) (hw2 : Bp < Bm + 10 * U kk)
    (hu1 : u1 = unr (4 * Bm) (U kk)) (hu2 : u2 = unr (4 * Bp) (U kk)) (hu3 : u3 = unr (4 * V) (U kk)) (hod : od = if ev then 0 else 1)
    (hone : kk = 1 → (u1 + od + 3) / 4 ≤ (u2 - od) / 4 / 10 * 10 → ∃ x, refStep V Bm Bp ev (U 1) = some x ∧ x * U 1 = (u2 - od) / 4 / 10 * U 0) :
    ∃ k x, 1 ≤ k ∧ k ≤ 17 ∧ (∀ j, 1 ≤ j → j < k → refStep V Bm Bp ev (U j) = none) ∧ refStep V Bm Bp ev (U k) = some x ∧
      0 < (sfRes u1 u2 u3 od p).1 ∧ (sfRes u1 u2 u3 od p).1 * U kk ≤ Bp ∧
      (((sfRes u1 u2 u3 od p).2 = -p ∧ x * U k = (sfRes u1 u2 u3 od p).1 * U kk) ∨ ((sfRes u1 u2 u3 od p).2 = -(p - 1) ∧ x * U k = (sfRes u1 u2 u3 od p).1 * U (kk - 1))) := by
  obtain ⟨dmin, hdmin⟩ : ∃ d, d = (u1 + od + 3) / 4 := ⟨_, rfl⟩
  obtain ⟨dmax, hdmax⟩ : ∃ d, d = (u2 - od) / 4 := ⟨_, rfl⟩
  have hmin : ∀ d, dmin ≤ d ↔ (Bm < d * U kk ∨ (ev = true ∧ Bm = d * U kk)) := fun d => by
    have := unr_ceil (n := Bm) hpos ev d
    rw [← hu1, ← hod, ← hdmin] at this
    exact this
  have hmax : ∀ d, d ≤ dmax ↔ (d * U kk < Bp ∨ (ev = true ∧ d * U kk = Bp)) := fun d => by
    have := unr_floor (n := Bp) hpos ev d (by omega)
    rw [← hu2, ← hod, ← hdmax] at this
    exact this
  have hin : ∀ d, Inn Bm Bp ev (d * U kk) ↔ dmin ≤ d ∧ d ≤ dmax := fun d => by rw [hmin, hmax]; rfl
  have hmin1 : 1 ≤ dmin := by
    refine Nat.pos_of_ne_zero fun h => ?_
    have := (hmin 0).1 (by omega)
    rw [Nat.zero_mul] at this
    omega
  have eU : U (kk - 1) = 10 * U kk := by
    have := hU (kk - 1) (by omega)
    rwa [show kk - 1 + 1 = kk by omega] at this
  unfold sfRes
  rw [← hdmin, ← hdmax]
  by_cases hc : dmin ≤ dmax / 10 * 10
  · rw [if_pos hc]
    have hd : Inn Bm Bp ev (dmax / 10 * U (kk - 1)) := by
      rw [eU, ← Nat.mul_assoc]
      exact (hin _).2 ⟨hc, by omega⟩
    have hpos10 : 0 < dmax / 10 := by omega
    have hle : dmax / 10 * U kk ≤ Bp := by
      have h1 := hd.2
      rw [eU] at h1
      have : dmax / 10 * U kk ≤ dmax / 10 * (10 * U kk) := Nat.mul_le_mul_left _ (by omega)
      omega
    by_cases hk : 2 ≤ kk
    · obtain ⟨k, x, e1, e2, e3, e4, e5⟩ := find_short hU k2 hpos hBm hBp hw2 hk hd
      exact ⟨k, x, e1, by omega, e3, e4, hpos10, hle, .inr ⟨rfl, e5⟩⟩
    · obtain rfl : kk = 1 := by omega
      obtain ⟨x, e4, e5⟩ := hone rfl (by rw [← hdmin, ← hdmax]; exact hc)
      rw [← hdmax] at e5
      exact ⟨1, x, by omega, by omega, fun j j1 j2 => by omega, e4, hpos10, hle, .inr ⟨rfl, e5⟩⟩
  · rw [if_neg hc]
    have hno : 2 ≤ kk → ∀ d, ¬ Inn Bm Bp ev (d * U (kk - 1)) := by
      intro _ d hd
      rw [eU, ← Nat.mul_assoc, hin] at hd
      omega
    have hnone := find_long (V := V) hU k2 hno
    have hh := here hpos hBm hBp hmin hmax hsym hsym2 hwide
    have er : (u3 + 1 + u3 / 4 % 2) / 4 = rne V (U kk) := by rw [hu3]; exact unr_round hpos
    by_cases hlt : dmin < dmax
    · rw [if_pos hlt] at hh ⊢
      rw [er]
      obtain ⟨h1, h2⟩ := (hin _).1 hh.2
      have h3 := hh.2.2
      exact ⟨kk, _, k1, k2, hnone, hh.1, by omega, by dsimp only; omega, .inl ⟨rfl, rfl⟩⟩
    · rw [if_neg hlt] at hh ⊢
      have h3 := hh.2.2
      exact ⟨kk, _, k1, k2, hnone, hh.1, by omega, by dsimp only; omega, .inl ⟨rfl, rfl⟩⟩
end Go.Proofs.YtiopeaponffmdaaDoor.PAll
