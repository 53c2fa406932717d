/- The texts of a proof, its declarations alone: part 23. -/
import Derived.WalkLawsBesides
import Derived.Test.YtiopeaponffmdaaDoorVS4
import Derived.Test.YtiopeaponffmdaaDoorVS22
set_option linter.unusedVariables false
set_option linter.unusedSimpArgs false
-- YtiopeaponffmdaaDoorPAllx1
namespace Go.Proofs.YtiopeaponffmdaaDoor.PAll
open Go.RowKit Go.Proofs.YtiopeaponffmdaaDoorW.PrintWords Go.Proofs.YtiopeaponffmdaaDoorW.PrintLast Go.Proofs.YtiopeaponffmdaaDoorW.PrintMore
attribute [local go_sem] max2_int min2_int max_two min_two max_three min_three max_four min_four   -- for this text's walks alone
set_option linter.unusedVariables false
set_option linter.unusedSimpArgs false

def laws_fits8.l0 : Nat → List ByteArray → Int → Int → Option (Bool)
  | 0, _, _, _ => none
  | k + 1, x5, x6, x7 => if x7 < x6 then (if 0 ≤ x7 then (if x7 < (x5.length : Int) then (if ((rdOf ByteArray.empty x5 x7).size : Int) > 1000 then (some false) else (laws_fits8.l0 k x5 x6 (wrap64 (x7 + 1)))) else (none)) else (none)) else (some true)
def laws_fits8.f (k : Nat) (l0 : List ByteArray) : Option (Bool) := laws_fits8.l0 k l0 (l0.length : Int) 0
theorem laws_fits8.mono_l : ∀ k, (∀ y0 y1 y2, LeO (laws_fits8.l0 k y0 y1 y2) (laws_fits8.l0 (k + 1) y0 y1 y2))
  | 0 => fun _ _ _ r h => by simp [laws_fits8.l0] at h
  | k + 1 => by
    have ih0 := laws_fits8.mono_l k
    · intro y0 y1 y2
      unfold laws_fits8.l0
      repeat' first
      | (with_reducible exact ih0 _ _ _)
      | (with_reducible exact LeO.refl _)
      | (with_reducible exact LeO.none _)
      | (with_reducible refine LeO.ite ?_ ?_)
      | (with_reducible refine LeO.bind ?_ (fun _ => ?_))
      | exact ih0 _ _ _
      | exact LeO.none _
      | refine LeO.ite ?_ ?_
      | refine LeO.bind ?_ (fun _ => ?_)
theorem laws_fits8.mono : ∀ a0 k, LeO (laws_fits8.f k a0) (laws_fits8.f (k + 1) a0) := by
  intro a0 k
  have ih0 := laws_fits8.mono_l k
  unfold laws_fits8.f
  repeat' first
      | (with_reducible exact ih0 _ _ _)
      | (with_reducible exact LeO.refl _)
      | (with_reducible exact LeO.none _)
      | (with_reducible refine LeO.ite ?_ ?_)
      | (with_reducible refine LeO.bind ?_ (fun _ => ?_))
      | exact ih0 _ _ _
      | exact LeO.none _
      | refine LeO.ite ?_ ?_
      | refine LeO.bind ?_ (fun _ => ?_)
set_option maxHeartbeats 8000000 in
set_option maxRecDepth 100000 in
theorem laws_fits8.calls (k : Nat) (A0 : Option Addr) (c0 : Nat) (l0 : List ByteArray) (r : Bool) (w : World) (hr0 : Kd.C Kd.string w A0 l0.length l0) (hc0 : l0.length ≤ c0) (h : laws_fits8.f k l0 = some r) :
    Calls Tryd.prog 11 #[.slice A0 l0.length c0] w fun e w' => e = .returned (.bool r) ∧ Drawn0 w w' := by
  have HR0 := Aside0.mk hr0
  have HC0 := Aside0.mk hc0
  clear hr0 hc0
  have H : (laws_fits8.l0 k l0 (l0.length : Int) 0) = some r := h
  clear h
  have H' := Aside0.mk H
  clear H
  go_enter Tryd.func11, Tryd.ntmps11
  go_wp2
  go_loopg [7] k (fun kq v7 w' => ∃ (x7_1 : Int), v7 = .int .i64 x7_1 ∧ Aside0 (laws_fits8.l0 kq l0 (l0.length : Int) x7_1 = some r) ∧ Aside0 (kq ≤ k) ∧ Drawn0 w w')
  case atStart => exact ⟨(0), (by first | rfl | (simp; done) | (simp [*]; done)), H', ⟨Nat.le_refl _⟩, by repeat (first | exact Drawn0.refl _ | apply Drawn0.step)⟩
  case round =>
    clear H'
    try clear c1
    obtain ⟨x7_1, rfl, HA, HK1, ⟨m1, rfl⟩⟩ := hrel
    cases gk with
    | zero => exact absurd HA.out (by simp [laws_fits8.l0])
    | succ k1 =>
      have H := HA.out
      clear HA
      simp only [laws_fits8.l0] at H
      by_cases c2 : x7_1 < (l0.length : Int)
      · rw [if_pos c2] at H
        have c2b0 : decide (x7_1 < (l0.length : Int)) = true := decide_eq_true c2
        clear c2
        by_cases c3 : 0 ≤ x7_1
        · rw [if_pos c3] at H
          have c3b0 : decide (0 ≤ x7_1) = true := decide_eq_true c3
          clear c3
          by_cases c4 : x7_1 < (l0.length : Int)
          · rw [if_pos c4] at H
            have c4b0 : decide (x7_1 < (l0.length : Int)) = true := decide_eq_true c4
            clear c4
            by_cases c5 : ((rdOf ByteArray.empty l0 x7_1).size : Int) > 1000
            · rw [if_pos c5] at H
              have c5b0 : decide (1000 < ((rdOf ByteArray.empty l0 x7_1).size : Int)) = true := decide_eq_true c5
              have c5b1 : decide (1000 < (rdOf ByteArray.empty l0 x7_1).size) = true := decide_eq_true (by omega)
              clear c5
              obtain rfl := Option.some.inj H
              have p101 : 0 ≤ (x7_1 : Int) := of_decide_eq_true (by first | (with_reducible assumption) | assumption)
              have q101 : x7_1 < (l0.length : Int) := of_decide_eq_true (by first | (with_reducible assumption) | assumption)
              obtain ⟨ad101, e101, hx101_0⟩ := Kd.at_string HR0.out x7_1 p101 q101
              cases e101
              replace p101 := eq_true p101
              replace q101 := eq_true q101
              go_wp2
              go_ret
              exact ⟨by first | rfl | (simp; done) | (simp [*]; done), by repeat (first | exact Drawn0.refl _ | apply Drawn0.step)⟩
            · rw [if_neg c5] at H
              have c5b0 : decide (1000 < ((rdOf ByteArray.empty l0 x7_1).size : Int)) = false := decide_eq_false c5
              have c5b1 : decide (1000 < (rdOf ByteArray.empty l0 x7_1).size) = false := decide_eq_false (by omega)
              clear c5
              have H' := Aside0.mk H
              clear H
              have p101 : 0 ≤ (x7_1 : Int) := of_decide_eq_true (by first | (with_reducible assumption) | assumption)
              have q101 : x7_1 < (l0.length : Int) := of_decide_eq_true (by first | (with_reducible assumption) | assumption)
              obtain ⟨ad101, e101, hx101_0⟩ := Kd.at_string HR0.out x7_1 p101 q101
              cases e101
              replace p101 := eq_true p101
              replace q101 := eq_true q101
              go_wp2
              go_roundg k1
              case measure => have := HK1.out; omega
              case rel => exact ⟨(wrap64 (x7_1 + 1)), (by first | rfl | (simp; done) | (simp [*]; done)), H', ⟨by have := HK1.out; omega⟩, by repeat (first | exact Drawn0.refl _ | apply Drawn0.step)⟩
          · rw [if_neg c4] at H
            exact absurd H (by simp)
        · rw [if_neg c3] at H
          exact absurd H (by simp)
      · rw [if_neg c2] at H
        have c2b0 : decide (x7_1 < (l0.length : Int)) = false := decide_eq_false c2
        clear c2
        obtain rfl := Option.some.inj H
        go_wp2
        go_ret
        exact ⟨by first | rfl | (simp; done) | (simp [*]; done), by repeat (first | exact Drawn0.refl _ | apply Drawn0.step)⟩

end Go.Proofs.YtiopeaponffmdaaDoor.PAll
-- YtiopeaponffmdaaDoorFp
namespace Go.Proofs.YtiopeaponffmdaaDoor.PAll
open Go.RowKit Go.Proofs.YtiopeaponffmdaaDoorW.PrintWords Go.Proofs.YtiopeaponffmdaaDoorW.PrintLast Go.Proofs.YtiopeaponffmdaaDoorW.PrintMore

/-- x - x, x finite -/
theorem sub_self (F : Ieee.Format) (s : Bool) (m : Nat) (i : Int) (x : Nat) (h : F.read x = .number s m i) : F.sub x x = some 0 := by
  unfold Ieee.Format.sub
  rw [h]
  have e : (Ieee.signed s m (i - i).toNat + Ieee.signed (!s) m (i - i).toNat) = 0 := by
    unfold Ieee.signed
    cases s <;> simp <;> omega
  have h2 : (Ieee.Datum.number s m i).sum (Ieee.Datum.number s m i).opposite = some (.number false 0 (min i i)) := by
    unfold Ieee.Datum.opposite Ieee.Datum.sum
    simp only [Int.min_self]
    rw [e, if_pos rfl]
    cases s <;> rfl
  rw [h2]
  rfl

theorem read_fin (F : Ieee.Format) (x : Nat) (h : x % F.signWeight < F.infRung) : ∃ s m i, F.read x = .number s m i := by
  unfold Ieee.Format.read
  dsimp only
  split
  · exact ⟨_, _, _, rfl⟩
  · exact ⟨_, _, _, rfl⟩
theorem read_nonfin (F : Ieee.Format) (x : Nat) (h : F.infRung ≤ x % F.signWeight) (hb : F.binade ≤ F.infRung) : (∃ s, F.read x = .infinity s) ∨ ∃ s t, F.read x = .nan s t := by
  unfold Ieee.Format.read
  dsimp only
  rw [if_neg (by omega), if_neg (by omega)]
  split
  · exact .inl ⟨_, rfl⟩
  · exact .inr ⟨_, _, rfl⟩
theorem read_nan (F : Ieee.Format) (x : Nat) (h : F.infRung < x % F.signWeight) (hb : F.binade ≤ F.infRung) : ∃ s t, F.read x = .nan s t := by
  unfold Ieee.Format.read
  dsimp only
  rw [if_neg (by omega), if_neg (by omega), if_neg (by omega)]
  exact ⟨_, _, rfl⟩
theorem sub_self_none (F : Ieee.Format) (x : Nat) (h : F.infRung ≤ x % F.signWeight) (hb : F.binade ≤ F.infRung) : F.sub x x = none := by
  unfold Ieee.Format.sub
  rcases read_nonfin F x h hb with ⟨s, e⟩ | ⟨s, t, e⟩
  · rw [e]
    unfold Ieee.Datum.opposite Ieee.Datum.sum
    cases s <;> rfl
  · rw [e]; rfl

end Go.Proofs.YtiopeaponffmdaaDoor.PAll
-- YtiopeaponffmdaaDoorFr
namespace Go.Proofs.YtiopeaponffmdaaDoor.PAll
open Go.RowKit Go.Proofs.YtiopeaponffmdaaDoorW.PrintWords Go.Proofs.YtiopeaponffmdaaDoorW.PrintLast Go.Proofs.YtiopeaponffmdaaDoorW.PrintMore
open Fm

/-- the text of a finite number without its sign -/
def NumText (f c : Nat) (l : List Int) : Prop := (c = 0 ∧ l = [48]) ∨ (1 ≤ c ∧ ∃ (n : Int) (k y : Nat), ShAt f c 400 n k y ∧ 0 < y ∧ l = laidL (dec (cutz y)) (n + ((dec y).length : Int) - (k : Int)))

theorem laidL_head (ds : List Int) (n : Int) (h1 : 1 ≤ ds.length) (hd : ∀ b ∈ ds, 48 ≤ b ∧ b ≤ 57) : ∃ b t, laidL ds n = b :: t ∧ 48 ≤ b ∧ b ≤ 57 := by
  obtain ⟨b, t, rfl⟩ : ∃ b t, ds = b :: t := by
    cases ds with
    | nil => simp at h1
    | cons b t => exact ⟨b, t, rfl⟩
  have hb := hd b (by simp)
  unfold laidL
  split
  · exact ⟨b, _, rfl, hb⟩
  · split
    · rename_i h
      obtain ⟨m, hm⟩ : ∃ m, n.toNat = m + 1 := ⟨n.toNat - 1, by omega⟩
      rw [hm, List.take_succ_cons]
      exact ⟨b, _, rfl, hb⟩
    · split
      · exact ⟨48, _, rfl, by omega⟩
      · split
        · exact ⟨b, _, rfl, hb⟩
        · exact ⟨b, _, rfl, hb⟩
theorem NumText.head {f c : Nat} {l : List Int} (h : NumText f c l) : ∃ b t, l = b :: t ∧ 48 ≤ b ∧ b ≤ 57 := by
  rcases h with ⟨_, rfl⟩ | ⟨_, n, k, y, _, _, rfl⟩
  · exact ⟨48, [], rfl, by omega⟩
  · exact laidL_head _ _ (dec_length_pos _) (dec_digit _)
theorem cutz_len (D : Nat) : (dec (cutz D)).length ≤ (dec D).length := by
  induction D using Nat.strongRecOn with
  | ind D ih =>
    by_cases h : 10 ≤ D ∧ D % 10 = 0
    · rw [cutz_pos h.1 h.2, dec_ge h.1, List.length_append]
      have := ih (D / 10) (by omega)
      omega
    · rw [cutz_neg h]; exact Nat.le_refl _
/-- the digits fit the grid -/
theorem ShAt.upper {f c a : Nat} {n : Int} {k x : Nat} (h : ShAt f c a n k x) (ha : 400 ≤ a) : x ≤ 10 ^ k := by
  have hr := h.some
  have hU : ∀ i : Nat, i < 17 → Ug f n a i = 10 * Ug f n a (i + 1) := fun i hi => Ug_succ f n a i (by have := h.n0; omega)
  have hm := unit_mul (Ug f n a) hU 0 k (by have := h.k2; omega)
  rw [Nat.zero_add] at hm
  have hq : (T2 f c * 2 ^ 1 * 10 ^ a) / Ug f n a k < 10 ^ k := by
    rw [Nat.div_lt_iff_lt_mul (Ug_pos _ _ _ _), ← hm]
    exact h.high
  unfold refStep at hr
  dsimp only at hr
  split at hr
  · have := Option.some.inj hr
    rw [← this]
    split <;> omega
  · cases hr
theorem NumText.len {f c : Nat} {l : List Int} (h : NumText f c l) : l.length ≤ 100 := by
  rcases h with ⟨_, rfl⟩ | ⟨_, n, k, y, h, h0, rfl⟩
  · decide
  · have hu := h.upper (by decide)
    have hk := h.k2
    have h1 : y < 10 ^ (17 + 1) := Nat.lt_of_le_of_lt hu (Nat.pow_lt_pow_right (by decide) (by omega))
    have h2 := dec_length_le 17 y h1
    have h3 := cutz_len y
    have n0 := h.n0
    have n1 := h.n1
    have k1 := h.k1
    exact laidL_len _ _ (by omega) (by omega) (by omega)
end Go.Proofs.YtiopeaponffmdaaDoor.PAll
-- YtiopeaponffmdaaDoorFni
namespace Go.Proofs.YtiopeaponffmdaaDoor.PAll
open Go.RowKit Go.Proofs.YtiopeaponffmdaaDoorW.PrintWords Go.Proofs.YtiopeaponffmdaaDoorW.PrintLast Go.Proofs.YtiopeaponffmdaaDoorW.PrintMore

theorem cut_exact (s : Bool) (m d : Nat) (hm : 0 < m) : Ieee.Toward.even.cut s (m * 2 ^ d) d = m := by
  unfold Ieee.Toward.cut
  have hlog : d ≤ (m * 2 ^ d).log2 + 2 := by
    have h1 : 2 ^ d ≤ m * 2 ^ d := by
      have := Nat.mul_le_mul_right (2 ^ d) hm
      omega
    have h2 : d ≤ (m * 2 ^ d).log2 := (Nat.le_log2 (by have := Nat.two_pow_pos d; omega)).2 h1
    omega
  have hg : 1 <<< min d ((m * 2 ^ d).log2 + 2) = 2 ^ d := by
    rw [Nat.min_eq_left hlog, Nat.shiftLeft_eq, Nat.one_mul]
  have hp : 0 < 2 ^ d := Nat.two_pow_pos d
  dsimp only
  rw [hg, Nat.mul_div_cancel _ hp, Nat.mul_mod_left]
  have e1 : decide (2 ^ d < 2 * 0) = false := by rw [decide_eq_false_iff_not]; omega
  have e2 : (2 ^ d == 2 * 0) = false := by rw [beq_eq_false_iff_ne]; omega
  rw [e1, e2]
  rfl

/-- a number that the format holds is written without loss -/
theorem nearest_exact (F : Ieee.Format) (s : Bool) (mag : Nat) (place : Int) (k : Nat) (j : Nat) (hm : 0 < mag) (hl : mag.log2 + k = F.fractionBits) (hj : place - (k : Int) = F.leastPlace + (j : Int)) (hf : j * 2 ^ F.fractionBits + mag * 2 ^ k ≤ F.infRung) :
    F.nearest s mag place = F.word s (j * 2 ^ F.fractionBits + mag * 2 ^ k) := by
  unfold Ieee.Format.nearest
  rw [if_neg (by omega)]
  have hlast : max (place + (mag.log2 : Int) - (F.fractionBits : Int)) F.leastPlace = F.leastPlace + (j : Int) := by omega
  dsimp only
  rw [hlast]
  have e1 : (place - (F.leastPlace + (j : Int))).toNat = k := by omega
  have e2 : (F.leastPlace + (j : Int) - place).toNat = 0 := by omega
  have e3 : (F.leastPlace + (j : Int) - F.leastPlace).toNat = j := by omega
  rw [e1, e2, e3, Nat.shiftLeft_eq]
  have hc := cut_exact s (mag * 2 ^ k) 0 (Nat.mul_pos hm (Nat.two_pow_pos _))
  rw [Nat.pow_zero, Nat.mul_one] at hc
  rw [hc]
  unfold Ieee.Format.binade
  rw [Nat.min_eq_left hf]
end Go.Proofs.YtiopeaponffmdaaDoor.PAll
-- YtiopeaponffmdaaDoorFls
namespace Go.Proofs.YtiopeaponffmdaaDoor.PAll
open Go.RowKit Go.Proofs.YtiopeaponffmdaaDoorW.PrintWords Go.Proofs.YtiopeaponffmdaaDoorW.PrintLast Go.Proofs.YtiopeaponffmdaaDoorW.PrintMore
open Fm

/-- a number below the normal ones -/
theorem sf32C (c L : Nat) (most : Int) (hc0 : 1 ≤ c) (hc : c < 8388608) (hL1 : 1 ≤ L) (hL2 : L ≤ 23) (hLa : 2 ^ (L - 1) ≤ c) (hLb : c < 2 ^ L) :
    ∃ D pp, SfAns 23 58 c (c * 2 ^ (64 - L)) ((L : Int) - 213) most D pp := by
  obtain ⟨z, hz⟩ : ∃ z, z = 64 - L := ⟨_, rfl⟩
  rw [← hz]
  have hT : T2 23 c = c := by unfold T2; rw [if_pos (by omega)]; omega
  have hTm : T2 23 (c - 1) = c - 1 := by unfold T2; rw [if_pos (by omega)]; omega
  have hTp : T2 23 (c + 1) = c + 1 := by
    have := T2_up 23 0 c (by omega)
    rw [Nat.zero_mul, Nat.zero_add, if_pos rfl] at this
    exact this
  have hcert := certE_32 (-149) (by omega) (by omega)
  have hzb : c * 2 ^ z < 2 ^ 64 := by
    have : c * 2 ^ z < 2 ^ L * 2 ^ z := Nat.mul_lt_mul_of_pos_right hLb (Nat.two_pow_pos _)
    rw [← Nat.pow_add, show L + z = 64 by omega] at this
    exact this
  have hz1 : 2 ^ z = 2 * 2 ^ (z - 1) := by rw [show z = z - 1 + 1 by omega, Nat.pow_succ]; simp only [Nat.add_sub_cancel]; omega
  have hLz : 2 ^ (L - 1) * 2 ^ z = 2 ^ 63 := by rw [← Nat.pow_add, show L - 1 + z = 63 by omega]
  have hjb : (2 * c + 1) * 2 ^ (40 - 1 + (z - 40)) < 2 ^ 64 := by
    rw [show 40 - 1 + (z - 40) = z - 1 by omega]
    have h1 : (c + 1) * 2 ^ z ≤ 2 ^ L * 2 ^ z := Nat.mul_le_mul_right _ hLb
    rw [← Nat.pow_add, show L + z = 64 by omega, hz1] at h1
    have h2 : (2 * c + 1) * 2 ^ (z - 1) < (c + 1) * (2 * 2 ^ (z - 1)) := by
      rw [← Nat.mul_assoc]
      exact Nat.mul_lt_mul_of_pos_right (by omega) (Nat.two_pow_pos _)
    omega
  obtain ⟨s, hi, lo, r1, r2, r3, r4, r5, r6, r7, r8, ⟨u1, u2, u3, g1, g2, g3, g4, g5, g6, g7, g8, g9, g10, g11, g12, g13⟩⟩ := num_sym 23 40 (2 ^ 25) c c 0 (z - 40) most 400 rfl (.inr ⟨rfl, rfl, rfl⟩) hc0 (by omega) (by omega) 311 rfl (T2_bound32 c 311 rfl (by omega)) hc0 (by omega)
    (by rw [hT, Nat.pow_zero, Nat.mul_one]) (by rw [hTm, Nat.pow_zero, Nat.mul_one]) (by rw [hTp, Nat.pow_zero, Nat.mul_one]) hcert hjb (fun _ => ⟨rfl, rfl⟩)
  have hp : pOf (((0 : Nat) : Int) - ((lst 23 : Nat) : Int)) = 45 := by decide
  have hlp : lpOf 45 = 149 := by decide
  have hlst : ((lst 23 : Nat) : Int) = 149 := by decide
  rw [hp] at r1 g8 g9 g10 g11 g12 g13
  rw [hp, hlp, hlst] at r4
  rw [show 40 - 1 + (z - 40) = z - 1 by omega] at g1 g2 g3
  refine ⟨_, _, g8, g9, g10, g11, g12, g13, fun W hW => ?_⟩
  obtain ⟨t1, t2⟩ := hW.at r1 (by decide) (by decide)
  have hP0 : 0 < 2 ^ (z - 1) := Nat.two_pow_pos _
  have hzz : 2 ^ (z - 1) ≤ 4611686018427387904 := by
    have : 2 ^ (z - 1) ≤ 2 ^ 62 := Nat.pow_le_pow_right (by decide) (by omega)
    exact Nat.le_trans this (by decide)
  have m3 : 2 * c * 2 ^ (z - 1) = c * 2 ^ z := by rw [hz1, Nat.mul_left_comm, Nat.mul_assoc]
  have m1 : (2 * c - 1) * 2 ^ (z - 1) = c * 2 ^ z - 2 ^ (z - 1) := by rw [← m3, Nat.sub_mul, Nat.one_mul]
  have m2 : (2 * c + 1) * 2 ^ (z - 1) = c * 2 ^ z + 2 ^ (z - 1) := by rw [← m3, Nat.add_mul, Nat.one_mul]
  have m4 : 2 ^ (z - 1) ≤ c * 2 ^ z := by
    have : 1 * 2 ^ z ≤ c * 2 ^ z := Nat.mul_le_mul_right _ hc0
    omega
  rw [show 40 - 1 + (z - 40) = z - 1 by omega, m2] at hjb
  rw [m1] at g1; rw [m2] at g2; rw [m3] at g3
  have hmz : ((c * 2 ^ z : Nat) : Int) / 2 ^ z = (c : Int) := by
    rw [div_pow_cast, Nat.mul_div_cancel _ (Nat.two_pow_pos _)]
  have hod : bits .and .i64 (c : Int) 1 = ((c % 2 : Nat) : Int) := i64_and c 1 (by omega) (by decide)
  have hhf : IntKind.u64.wrap (2 ^ (z - 1)) = ((2 ^ (z - 1) : Nat) : Int) := by
    have e : (2 : Int) ^ (z - 1) = ((2 ^ (z - 1) : Nat) : Int) := by simp
    rw [e]; exact wrapuN _ (by omega)
  generalize 2 ^ (z - 1) = P at *
  generalize hmm : c * 2 ^ z = mant at *
  exact short32C mant (mant - P) (mant + P) (c % 2) u1 u2 u3 (s + (z - 40)) hi lo ((L : Int) - 213) 45 149 W hW.1 (by omega) z (by omega) (by omega) (by omega) (by omega) (P : Int) hhf c hmz (by omega) (by rw [show (L : Int) - 213 + (z : Int) = -149 by omega]; decide) (by decide) (by decide) (by decide)
    (by rw [wrapu _ (by omega) (by omega)]; omega) (by rw [wrapu _ (by omega) (by omega)]; omega) hod (by omega) (by omega) (by omega) t1 t2 r6 (by omega) (by omega) (by omega) (by omega) g1 g2 g3 g4 g5 g6 g7

theorem b32 (M : Nat) (h1 : 8388607 < M) (h2 : M < 16777216) : ∃ mant mn mx : Nat, mant = M * 1099511627776 ∧ (2 * M - 1) * 549755813888 = mn ∧ (2 * M + 1) * 549755813888 = mx ∧ 2 * M * 549755813888 = mant ∧ (mant : Int) - 549755813888 = (mn : Int) ∧ (mant : Int) + 549755813888 = (mx : Int) ∧ mx < 18446744073709551616 ∧ mn < 18446744073709551616 ∧ mant < 18446744073709551616 ∧ (mant : Int) / 1099511627776 = (M : Int) ∧ (mant = 9223372036854775808 → M ≤ 8388608) := by
  refine ⟨M * 1099511627776, (2 * M - 1) * 549755813888, (2 * M + 1) * 549755813888, rfl, rfl, rfl, ?_, ?_, ?_, ?_, ?_, ?_, ?_, ?_⟩
  all_goals first | omega | (intro h; omega)
/-- a normal number, or the least one -/
theorem sf32B (q m P : Nat) (most : Int) (hP : P = 2 ^ 23) (hq : 1 ≤ q) (hq2 : q ≤ 254) (hm : m < P) (hno : ¬ (m = 0 ∧ 2 ≤ q)) :
    ∃ D pp, SfAns 23 58 (q * P + m) ((m + P) * 1099511627776) ((q : Int) - 190) most D pp := by
  have hPa : 8388607 < P := by rw [hP]; decide
  have hPb : P < 8388609 := by rw [hP]; decide
  have hT := T2_at 23 q m (by rw [← hP]; exact hm)
  have hTp := T2_up 23 q m (by rw [← hP]; exact hm)
  have hqn : q ≠ 0 := by omega
  rw [if_neg hqn, ← hP] at hT hTp
  have hTm : T2 23 (q * P + m - 1) = (m + P - 1) * 2 ^ (q - 1) := by
    by_cases h0 : m = 0
    · have h1 : q = 1 := by omega
      have := T2_down0 23 q (by omega)
      rw [if_pos h1, ← hP] at this
      rw [h0, this, h1, Nat.zero_add, Nat.sub_self, Nat.pow_zero, Nat.mul_one]
    · have := T2_down 23 q m (by rw [← hP]; exact hm) (by omega)
      rw [if_neg hqn, ← hP] at this
      rw [this, show m - 1 + P = m + P - 1 by omega]
  have hlst : ((lst 23 : Nat) : Int) = 149 := by decide
  have hcert := certE_32 (((q - 1 : Nat) : Int) - ((lst 23 : Nat) : Int)) (by omega) (by omega)
  have hcb : q * P + m < 255 * P := by
    have : q * P ≤ 254 * P := Nat.mul_le_mul_right _ hq2
    omega
  have hc1 : 1 ≤ q * P + m := by
    have : 1 * P ≤ q * P := Nat.mul_le_mul_right _ hq
    omega
  have hpar : (q * P + m) % 2 = (m + P) % 2 := by
    have h2 : P % 2 = 0 := by rw [hP]
    rw [Nat.add_mod, Nat.mul_mod, h2, Nat.add_mod m P, h2]
    simp
  obtain ⟨c, hcc⟩ : ∃ c, c = q * P + m := ⟨_, rfl⟩
  rw [← hcc] at hT hTp hTm hcb hc1 hpar ⊢
  have hTp' : T2 23 (c + 1) = (m + P + 1) * 2 ^ (q - 1) := by rw [hTp, show m + 1 + P = m + P + 1 by omega]
  have hc2 : (c + 1) / 2 ^ 23 ≤ 2100 := by
    rw [← hP]
    refine Nat.div_le_of_le_mul ?_
    omega
  have hcx : c < 18446744073709550000 := by omega
  have hb64 : c < 255 * 2 ^ 23 := by rw [← hP]; exact hcb
  have hM : 1 ≤ m + P := by omega
  have hM2 : m + P < 2 ^ (23 + 1) := by rw [Nat.pow_succ, ← hP]; omega
  have hjb : (2 * (m + P) + 1) * 2 ^ (40 - 1 + 0) < 2 ^ 64 := by
    have e : (2 : Nat) ^ (40 - 1 + 0) = 549755813888 := by decide
    have e2 : (2 : Nat) ^ 64 = 18446744073709551616 := by decide
    rw [e, e2]; omega
  obtain ⟨s, hi, lo, r1, r2, r3, r4, r5, r6, r7, r8, ⟨u1, u2, u3, g1, g2, g3, g4, g5, g6, g7, g8, g9, g10, g11, g12, g13⟩⟩ := num_sym 23 40 (2 ^ 25) c (m + P) (q - 1) 0 most 400 rfl (.inr ⟨rfl, rfl, rfl⟩) hc1 hcx hc2 311 rfl (T2_bound32 c 311 rfl hb64) hM hM2
    hT hTm hTp' hcert hjb (fun h => absurd h (by omega))
  rw [hlst] at r1 r2 r3 r4 g8 g9 g10 g11 g12 g13
  obtain ⟨p, hp⟩ : ∃ p, p = pOf (((q - 1 : Nat) : Int) - 149) := ⟨_, rfl⟩
  rw [← hp] at r1 r2 r3 r4 g8 g9 g10 g11 g12 g13
  refine ⟨_, _, g8, g9, g10, g11, g12, g13, fun W hW => ?_⟩
  obtain ⟨t1, t2⟩ := hW.at r1 r2 r3
  obtain ⟨M, hMM⟩ : ∃ M, M = m + P := ⟨_, rfl⟩
  rw [← hMM] at g1 g2 g3 hpar ⊢
  have hMb : 8388607 < M ∧ M < 16777216 := by omega
  have e10 : 2 ^ (40 - 1 + 0) = 549755813888 := by decide
  rw [e10] at g1 g2 g3
  obtain ⟨mant, mn, mx, k0, k1, k2, k3, k4, k5, k6, k7, k8, k9, k10⟩ := b32 M hMb.1 hMb.2
  rw [k1] at g1; rw [k2] at g2; rw [k3] at g3
  rw [← k0]
  have hs : -((q : Int) - 190 + lpOf p + 3) = ((s + 0 : Nat) : Int) := by omega
  have hbp : -(((q : Int) - 190 + 40) * 78913 / 262144) = p := by rw [hp, show ((q - 1 : Nat) : Int) - 149 = (q : Int) - 190 + 40 by omega]; rfl
  have hod : bits .and .i64 ((mant : Int) / 1099511627776) 1 = ((c % 2 : Nat) : Int) := by
    have e2 := i64_and M 1 (by omega) (by decide)
    rw [k9, hpar]
    exact e2
  have hm0 : M ≤ 8388608 → m = 0 := by omega
  have hw1 : IntKind.u64.wrap ((mant : Int) - 549755813888) = (mn : Int) := by rw [k4]; exact wrapuN _ k7
  have hw2 : IntKind.u64.wrap ((mant : Int) + 549755813888) = (mx : Int) := by rw [k5]; exact wrapuN _ k6
  have hb1 : -189 ≤ (q : Int) - 190 := by omega
  have hb2 : (q : Int) - 190 ≤ 2000 := by omega
  have hb3 : ¬ (mant = 9223372036854775808 ∧ -189 < (q : Int) - 190) := fun h => hno ⟨hm0 (k10 h.1), by omega⟩
  have hb4 : s + 0 < 64 := by omega
  have hb5 : c % 2 ≤ 1 := by omega
  exact short32B mant mn mx (c % 2) u1 u2 u3 (s + 0) hi lo ((q : Int) - 190) p (lpOf p) W hW.1 k8 hb1 hb2 hb3 hbp rfl r2 r3 hw1 hw2 hod k7 k6 hb5 t1 t2 r6 r7 r8 hs hb4 g1 g2 g3 g4 g5 g6 g7

/-- a power of two -/
theorem sf32A (q P : Nat) (most : Int) (hP : P = 2 ^ 23) (hq : 2 ≤ q) (hq2 : q ≤ 254) :
    ∃ D pp, SfAns 23 58 (q * P) 9223372036854775808 ((q : Int) - 190) most D pp := by
  have hb64 : q * 2 ^ 23 < 255 * 2 ^ 23 := Nat.mul_lt_mul_of_pos_right (by omega) (Nat.two_pow_pos _)
  have hpar : q * P % 2 = 0 := by
    have h2 : P % 2 = 0 := by rw [hP]
    rw [Nat.mul_mod, h2, Nat.mul_zero]
  have hlst : ((lst 23 : Nat) : Int) = 149 := by decide
  have hcert := certS_32 (((q - 2 : Nat) : Int) + 1 - ((lst 23 : Nat) : Int)) (by omega) (by omega)
  obtain ⟨s, hi, lo, r1, r2, r3, r4, r5, r6, r7, r8, ⟨u1, u2, u3, g1, g2, g3, g4, g5, g6, g7, g8, g9, g10, g11, g12, g13⟩⟩ := num_pow 23 40 (2 ^ 26) q most 400 rfl (.inr ⟨rfl, rfl, rfl⟩) hq (by omega) 311 rfl (T2_bound32 _ 311 rfl hb64) hcert
  rw [← hP] at g8 g9 g10 g11 g12 g13
  obtain ⟨c, hcc⟩ : ∃ c, c = q * P := ⟨_, rfl⟩
  rw [← hcc] at g8 g9 g10 g11 g12 g13 hpar ⊢
  rw [hlst] at r1 r2 r3 r4 g8 g9 g10 g11 g12 g13
  obtain ⟨p, hp⟩ : ∃ p, p = pOf2 (((q - 2 : Nat) : Int) + 1 - 149) := ⟨_, rfl⟩
  rw [← hp] at r1 r2 r3 r4 g8 g9 g10 g11 g12 g13
  refine ⟨_, _, g8, g9, g10, g11, g12, g13, fun W hW => ?_⟩
  obtain ⟨t1, t2⟩ := hW.at r1 r2 r3
  have e1 : (4 * 2 ^ 23 - 1) * 2 ^ (40 - 1 - 1 + 0) = 9223371761976868864 := by decide
  have e2 : (4 * 2 ^ 23 + 2) * 2 ^ (40 - 1 - 1 + 0) = 9223372586610589696 := by decide
  have e3 : 4 * 2 ^ 23 * 2 ^ (40 - 1 - 1 + 0) = 9223372036854775808 := by decide
  rw [e1] at g1; rw [e2] at g2; rw [e3] at g3
  have hod : bits .and .i64 (((9223372036854775808 : Nat) : Int) / 1099511627776) 1 = ((c % 2 : Nat) : Int) := by
    rw [hpar]; decide
  have hs : -((q : Int) - 190 + lpOf p + 3) = ((s + 0 : Nat) : Int) := by omega
  have hbp : -((((q : Int) - 190 + 40) * 631305 - 261663) / 2097152) = p := by rw [hp, show ((q - 2 : Nat) : Int) + 1 - 149 = (q : Int) - 190 + 40 by omega]; rfl
  exact short32A 9223372036854775808 9223371761976868864 9223372586610589696 (c % 2) u1 u2 u3 (s + 0) hi lo ((q : Int) - 190) p (lpOf p) W hW.1 (by omega) (by omega) (by omega) rfl hbp rfl r2 r3
    (by rw [wrapu _ (by omega) (by omega)]; rfl) (by rw [wrapu _ (by omega) (by omega)]; rfl) hod (by omega) (by omega) (by omega) t1 t2 r6 (by omega) (by omega) hs (by omega) g1 g2 g3 g4 g5 g6 g7
end Go.Proofs.YtiopeaponffmdaaDoor.PAll
-- YtiopeaponffmdaaDoorFsi
namespace Go.Proofs.YtiopeaponffmdaaDoor.PAll
open Go.RowKit Go.Proofs.YtiopeaponffmdaaDoorW.PrintWords Go.Proofs.YtiopeaponffmdaaDoorW.PrintLast Go.Proofs.YtiopeaponffmdaaDoorW.PrintMore
set_option maxHeartbeats 1600000 in
set_option maxRecDepth 100000 in
theorem af49s (v0 : Value) (x z : Nat) (fc : Int) (w0 w : World) (R : List Int → Prop) (cv1 : ∀ W, (convert 22 46 (Value.float FloatKind.f64 x)).run Tryd.prog W = .ok (.float .f32 z) W)
    (h : Calls Tryd.prog 50 #[v0, .float .f32 z, .int .u8 fc, .int .i64 (-1)] w (FtPost w0 R)) :
    Calls Tryd.prog 49 #[v0, .float .f64 x, .int .u8 fc, .int .i64 (-1), .int .i64 32] w (FtPost w0 R) := by
  have H := Lib.hid h
  clear h
  go_enter Tryd.func49, Tryd.ntmps49
  go_wp2_with (fail)
  refine H.out.mono ?_
  rintro e w' ⟨v, r, rfl, q1, q2, q3⟩
  go_wp2_with (fail)
  go_ret
  exact ⟨v, r, rfl, q1, q2, q3⟩
set_option maxHeartbeats 1600000 in
set_option maxRecDepth 100000 in
theorem af42s (v0 : Value) (x z : Nat) (fc : Int) (w0 w : World) (R : List Int → Prop) (cv1 : ∀ W, (convert 22 46 (Value.float FloatKind.f64 x)).run Tryd.prog W = .ok (.float .f32 z) W)
    (h : Calls Tryd.prog 50 #[v0, .float .f32 z, .int .u8 fc, .int .i64 (-1)] w (FtPost w0 R)) :
    Calls Tryd.prog 42 #[v0, .float .f64 x, .int .u8 fc, .int .i64 (-1), .int .i64 32] w (FtPost w0 R) := by
  have H := Lib.hid (af49s v0 x z fc w0 w R cv1 h)
  clear h cv1
  go_enter Tryd.func42, Tryd.ntmps42
  go_wp2_with (fail)
  refine H.out.mono ?_
  rintro e w' ⟨v, r, rfl, q1, q2, q3⟩
  go_wp2_with (fail)
  go_ret
  exact ⟨v, r, rfl, q1, q2, q3⟩
set_option maxHeartbeats 1600000 in
set_option maxRecDepth 100000 in
theorem as33E1 (v0 : Value) (x z y zy : Nat) (w0 w : World) (R : List Int → Prop) (cv1 : ∀ W, (convert 22 46 (Value.float FloatKind.f64 x)).run Tryd.prog W = .ok (.float .f32 z) W) (cv2 : ∀ W, (convert 46 22 (Value.float FloatKind.f32 z)).run Tryd.prog W = .ok (.float .f64 x) W) (cv3 : ∀ W, (convert 22 46 (Value.float FloatKind.f64 y)).run Tryd.prog W = .ok (.float .f32 zy) W) (hy : bits .andNot .u64 (x : Int) 9223372036854775808 = (y : Int))
    (t0 : FloatKind.f64.format.order y 0 = some .gt) (t1 : FloatKind.f32.format.order zy 897988541 = some .lt)
    (h : Calls Tryd.prog 50 #[v0, .float .f32 z, .int .u8 101, .int .i64 (-1)] w (FtPost w0 R)) (hshape : ∀ r, R r → ∃ q a b c d, r = q ++ [a, b, c, d] ∧ q.length ≤ 140737488355328) :
    Calls Tryd.prog 33 #[v0, .float .f64 x, .int .i64 32] w (FtPost w0 (fun r => ∃ r', R r' ∧ r = fixE r')) := by
  have A := fun w => abs_calls x y w hy
  have HA := Lib.hid A
  have H := Lib.hid (af42s v0 x z 101 w0 w R cv1 h)
  have HS := Lib.hid hshape
  clear A hy h hshape
  go_enter Tryd.func33, Tryd.ntmps33
  go_wp2_with (fail)
  refine (HA.out _).mono ?_
  rintro e w' ⟨rfl, rfl⟩
  go_wp2_with (fail)
  refine H.out.mono ?_
  rintro e w' ⟨v, r, rfl, q1, q2, q3⟩
  obtain ⟨q, a, b, c, d, rfl, lq⟩ := HS.out r q1
  have Q1 := Lib.hid q1
  have Q2 := Lib.hid q2
  have Q3 := Lib.hid q3
  obtain ⟨g, cap, rfl, l1, l2, l3, lf, c0, c1, c2, c3⟩ := last_four q2
  clear q1 q3 q2
  clear l3
  by_cases ha : a = 101
  · by_cases hb : b = 45
    · by_cases hc : c = 48
      · subst ha hb hc
        go_wp2_with (fail)
        go_ret
        have T := RM_take (m := q.length + 3) (RM_put Q2.out (q.length + 2) (by simp) d) (by simp)
        have e : ((q ++ [101, 45, 48, d]).set (q.length + 2) d).take (q.length + 3) = fixE (q ++ [101, 45, 48, d]) := by
          rw [fixE_app, if_pos ⟨rfl, rfl, rfl⟩, List.set_append_right _ _ (by omega), List.take_append, List.take_of_length_le (by omega)]
          simp
        refine ⟨_, _, rfl, ⟨_, Q1.out, rfl⟩, by rw [← e]; exact T, Q3.out.setCell (p := ⟨g, q.length + 2, none⟩) l2 _⟩
      · have tc : (c == 48) = false := by rw [beq_eq_false_iff_ne]; omega
        have HN := Lib.hid (show fixE (q ++ [a, b, c, d]) = q ++ [a, b, c, d] by rw [fixE_app, if_neg (by omega)])
        clear hc
        subst ha hb
        go_wp2_with (fail)
        go_ret
        exact ⟨_, _, rfl, ⟨_, Q1.out, rfl⟩, by rw [HN.out]; exact Q2.out, Q3.out⟩
    · have tb : (b == 45) = false := by rw [beq_eq_false_iff_ne]; omega
      have HN := Lib.hid (show fixE (q ++ [a, b, c, d]) = q ++ [a, b, c, d] by rw [fixE_app, if_neg (by omega)])
      clear hb
      subst ha
      go_wp2_with (fail)
      go_ret
      exact ⟨_, _, rfl, ⟨_, Q1.out, rfl⟩, by rw [HN.out]; exact Q2.out, Q3.out⟩
  · have ta : (a == 101) = false := by rw [beq_eq_false_iff_ne]; omega
    have HN := Lib.hid (show fixE (q ++ [a, b, c, d]) = q ++ [a, b, c, d] by rw [fixE_app, if_neg (by omega)])
    clear ha
    go_wp2_with (fail)
    go_ret
    exact ⟨_, _, rfl, ⟨_, Q1.out, rfl⟩, by rw [HN.out]; exact Q2.out, Q3.out⟩
set_option maxHeartbeats 1600000 in
set_option maxRecDepth 100000 in
theorem as33E2 (v0 : Value) (x z y zy : Nat) (w0 w : World) (R : List Int → Prop) (cv1 : ∀ W, (convert 22 46 (Value.float FloatKind.f64 x)).run Tryd.prog W = .ok (.float .f32 z) W) (cv2 : ∀ W, (convert 46 22 (Value.float FloatKind.f32 z)).run Tryd.prog W = .ok (.float .f64 x) W) (cv3 : ∀ W, (convert 22 46 (Value.float FloatKind.f64 y)).run Tryd.prog W = .ok (.float .f32 zy) W) (hy : bits .andNot .u64 (x : Int) 9223372036854775808 = (y : Int))
    (t0 : FloatKind.f64.format.order y 0 = some .gt) (t1 : FloatKind.f32.format.order zy 897988541 = some .gt) (t2 : FloatKind.f32.format.order zy 1649989415 = some .gt)
    (h : Calls Tryd.prog 50 #[v0, .float .f32 z, .int .u8 101, .int .i64 (-1)] w (FtPost w0 R)) (hshape : ∀ r, R r → ∃ q a b c d, r = q ++ [a, b, c, d] ∧ q.length ≤ 140737488355328) :
    Calls Tryd.prog 33 #[v0, .float .f64 x, .int .i64 32] w (FtPost w0 (fun r => ∃ r', R r' ∧ r = fixE r')) := by
  have A := fun w => abs_calls x y w hy
  have HA := Lib.hid A
  have H := Lib.hid (af42s v0 x z 101 w0 w R cv1 h)
  have HS := Lib.hid hshape
  clear A hy h hshape
  go_enter Tryd.func33, Tryd.ntmps33
  go_wp2_with (fail)
  refine (HA.out _).mono ?_
  rintro e w' ⟨rfl, rfl⟩
  go_wp2_with (fail)
  refine H.out.mono ?_
  rintro e w' ⟨v, r, rfl, q1, q2, q3⟩
  obtain ⟨q, a, b, c, d, rfl, lq⟩ := HS.out r q1
  have Q1 := Lib.hid q1
  have Q2 := Lib.hid q2
  have Q3 := Lib.hid q3
  obtain ⟨g, cap, rfl, l1, l2, l3, lf, c0, c1, c2, c3⟩ := last_four q2
  clear q1 q3 q2
  clear l3
  by_cases ha : a = 101
  · by_cases hb : b = 45
    · by_cases hc : c = 48
      · subst ha hb hc
        go_wp2_with (fail)
        go_ret
        have T := RM_take (m := q.length + 3) (RM_put Q2.out (q.length + 2) (by simp) d) (by simp)
        have e : ((q ++ [101, 45, 48, d]).set (q.length + 2) d).take (q.length + 3) = fixE (q ++ [101, 45, 48, d]) := by
          rw [fixE_app, if_pos ⟨rfl, rfl, rfl⟩, List.set_append_right _ _ (by omega), List.take_append, List.take_of_length_le (by omega)]
          simp
        refine ⟨_, _, rfl, ⟨_, Q1.out, rfl⟩, by rw [← e]; exact T, Q3.out.setCell (p := ⟨g, q.length + 2, none⟩) l2 _⟩
      · have tc : (c == 48) = false := by rw [beq_eq_false_iff_ne]; omega
        have HN := Lib.hid (show fixE (q ++ [a, b, c, d]) = q ++ [a, b, c, d] by rw [fixE_app, if_neg (by omega)])
        clear hc
        subst ha hb
        go_wp2_with (fail)
        go_ret
        exact ⟨_, _, rfl, ⟨_, Q1.out, rfl⟩, by rw [HN.out]; exact Q2.out, Q3.out⟩
    · have tb : (b == 45) = false := by rw [beq_eq_false_iff_ne]; omega
      have HN := Lib.hid (show fixE (q ++ [a, b, c, d]) = q ++ [a, b, c, d] by rw [fixE_app, if_neg (by omega)])
      clear hb
      subst ha
      go_wp2_with (fail)
      go_ret
      exact ⟨_, _, rfl, ⟨_, Q1.out, rfl⟩, by rw [HN.out]; exact Q2.out, Q3.out⟩
  · have ta : (a == 101) = false := by rw [beq_eq_false_iff_ne]; omega
    have HN := Lib.hid (show fixE (q ++ [a, b, c, d]) = q ++ [a, b, c, d] by rw [fixE_app, if_neg (by omega)])
    clear ha
    go_wp2_with (fail)
    go_ret
    exact ⟨_, _, rfl, ⟨_, Q1.out, rfl⟩, by rw [HN.out]; exact Q2.out, Q3.out⟩
set_option maxHeartbeats 1600000 in
set_option maxRecDepth 100000 in
theorem as33E3 (v0 : Value) (x z y zy : Nat) (w0 w : World) (R : List Int → Prop) (cv1 : ∀ W, (convert 22 46 (Value.float FloatKind.f64 x)).run Tryd.prog W = .ok (.float .f32 z) W) (cv2 : ∀ W, (convert 46 22 (Value.float FloatKind.f32 z)).run Tryd.prog W = .ok (.float .f64 x) W) (cv3 : ∀ W, (convert 22 46 (Value.float FloatKind.f64 y)).run Tryd.prog W = .ok (.float .f32 zy) W) (hy : bits .andNot .u64 (x : Int) 9223372036854775808 = (y : Int))
    (t0 : FloatKind.f64.format.order y 0 = some .gt) (t1 : FloatKind.f32.format.order zy 897988541 = some .gt) (t2 : FloatKind.f32.format.order zy 1649989415 = some .eq)
    (h : Calls Tryd.prog 50 #[v0, .float .f32 z, .int .u8 101, .int .i64 (-1)] w (FtPost w0 R)) (hshape : ∀ r, R r → ∃ q a b c d, r = q ++ [a, b, c, d] ∧ q.length ≤ 140737488355328) :
    Calls Tryd.prog 33 #[v0, .float .f64 x, .int .i64 32] w (FtPost w0 (fun r => ∃ r', R r' ∧ r = fixE r')) := by
  have A := fun w => abs_calls x y w hy
  have HA := Lib.hid A
  have H := Lib.hid (af42s v0 x z 101 w0 w R cv1 h)
  have HS := Lib.hid hshape
  clear A hy h hshape
  go_enter Tryd.func33, Tryd.ntmps33
  go_wp2_with (fail)
  refine (HA.out _).mono ?_
  rintro e w' ⟨rfl, rfl⟩
  go_wp2_with (fail)
  refine H.out.mono ?_
  rintro e w' ⟨v, r, rfl, q1, q2, q3⟩
  obtain ⟨q, a, b, c, d, rfl, lq⟩ := HS.out r q1
  have Q1 := Lib.hid q1
  have Q2 := Lib.hid q2
  have Q3 := Lib.hid q3
  obtain ⟨g, cap, rfl, l1, l2, l3, lf, c0, c1, c2, c3⟩ := last_four q2
  clear q1 q3 q2
  clear l3
  by_cases ha : a = 101
  · by_cases hb : b = 45
    · by_cases hc : c = 48
      · subst ha hb hc
        go_wp2_with (fail)
        go_ret
        have T := RM_take (m := q.length + 3) (RM_put Q2.out (q.length + 2) (by simp) d) (by simp)
        have e : ((q ++ [101, 45, 48, d]).set (q.length + 2) d).take (q.length + 3) = fixE (q ++ [101, 45, 48, d]) := by
          rw [fixE_app, if_pos ⟨rfl, rfl, rfl⟩, List.set_append_right _ _ (by omega), List.take_append, List.take_of_length_le (by omega)]
          simp
        refine ⟨_, _, rfl, ⟨_, Q1.out, rfl⟩, by rw [← e]; exact T, Q3.out.setCell (p := ⟨g, q.length + 2, none⟩) l2 _⟩
      · have tc : (c == 48) = false := by rw [beq_eq_false_iff_ne]; omega
        have HN := Lib.hid (show fixE (q ++ [a, b, c, d]) = q ++ [a, b, c, d] by rw [fixE_app, if_neg (by omega)])
        clear hc
        subst ha hb
        go_wp2_with (fail)
        go_ret
        exact ⟨_, _, rfl, ⟨_, Q1.out, rfl⟩, by rw [HN.out]; exact Q2.out, Q3.out⟩
    · have tb : (b == 45) = false := by rw [beq_eq_false_iff_ne]; omega
      have HN := Lib.hid (show fixE (q ++ [a, b, c, d]) = q ++ [a, b, c, d] by rw [fixE_app, if_neg (by omega)])
      clear hb
      subst ha
      go_wp2_with (fail)
      go_ret
      exact ⟨_, _, rfl, ⟨_, Q1.out, rfl⟩, by rw [HN.out]; exact Q2.out, Q3.out⟩
  · have ta : (a == 101) = false := by rw [beq_eq_false_iff_ne]; omega
    have HN := Lib.hid (show fixE (q ++ [a, b, c, d]) = q ++ [a, b, c, d] by rw [fixE_app, if_neg (by omega)])
    clear ha
    go_wp2_with (fail)
    go_ret
    exact ⟨_, _, rfl, ⟨_, Q1.out, rfl⟩, by rw [HN.out]; exact Q2.out, Q3.out⟩

set_option maxHeartbeats 1600000 in
set_option maxRecDepth 100000 in
theorem as33F1 (v0 : Value) (x z y zy : Nat) (w0 w : World) (R : List Int → Prop) (cv1 : ∀ W, (convert 22 46 (Value.float FloatKind.f64 x)).run Tryd.prog W = .ok (.float .f32 z) W) (cv2 : ∀ W, (convert 46 22 (Value.float FloatKind.f32 z)).run Tryd.prog W = .ok (.float .f64 x) W) (cv3 : ∀ W, (convert 22 46 (Value.float FloatKind.f64 y)).run Tryd.prog W = .ok (.float .f32 zy) W) (hy : bits .andNot .u64 (x : Int) 9223372036854775808 = (y : Int))
    (t0 : FloatKind.f64.format.order y 0 = some .gt) (t1 : FloatKind.f32.format.order zy 897988541 = some .gt) (t2 : FloatKind.f32.format.order zy 1649989415 = some .lt)
    (h : Calls Tryd.prog 50 #[v0, .float .f32 z, .int .u8 102, .int .i64 (-1)] w (FtPost w0 R)) :
    Calls Tryd.prog 33 #[v0, .float .f64 x, .int .i64 32] w (FtPost w0 R) := by
  have A := fun w => abs_calls x y w hy
  have HA := Lib.hid A
  have H := Lib.hid (af42s v0 x z 102 w0 w R cv1 h)
  clear A hy h
  go_enter Tryd.func33, Tryd.ntmps33
  go_wp2_with (fail)
  refine (HA.out _).mono ?_
  rintro e w' ⟨rfl, rfl⟩
  go_wp2_with (fail)
  refine H.out.mono ?_
  rintro e w' ⟨v, r, rfl, q1, q2, q3⟩
  have Q1 := Lib.hid q1
  have Q2 := Lib.hid q2
  have Q3 := Lib.hid q3
  clear q1 q2 q3
  go_wp2_with (fail)
  go_ret
  exact ⟨v, r, rfl, Q1.out, Q2.out, Q3.out⟩

set_option maxHeartbeats 1600000 in
set_option maxRecDepth 100000 in
theorem as33F2 (v0 : Value) (x z y zy : Nat) (w0 w : World) (R : List Int → Prop) (cv1 : ∀ W, (convert 22 46 (Value.float FloatKind.f64 x)).run Tryd.prog W = .ok (.float .f32 z) W) (cv2 : ∀ W, (convert 46 22 (Value.float FloatKind.f32 z)).run Tryd.prog W = .ok (.float .f64 x) W) (cv3 : ∀ W, (convert 22 46 (Value.float FloatKind.f64 y)).run Tryd.prog W = .ok (.float .f32 zy) W) (hy : bits .andNot .u64 (x : Int) 9223372036854775808 = (y : Int))
    (t0 : FloatKind.f64.format.order y 0 = some .gt) (t1 : FloatKind.f32.format.order zy 897988541 = some .eq) (t2 : FloatKind.f32.format.order zy 1649989415 = some .lt)
    (h : Calls Tryd.prog 50 #[v0, .float .f32 z, .int .u8 102, .int .i64 (-1)] w (FtPost w0 R)) :
    Calls Tryd.prog 33 #[v0, .float .f64 x, .int .i64 32] w (FtPost w0 R) := by
  have A := fun w => abs_calls x y w hy
  have HA := Lib.hid A
  have H := Lib.hid (af42s v0 x z 102 w0 w R cv1 h)
  clear A hy h
  go_enter Tryd.func33, Tryd.ntmps33
  go_wp2_with (fail)
  refine (HA.out _).mono ?_
  rintro e w' ⟨rfl, rfl⟩
  go_wp2_with (fail)
  refine H.out.mono ?_
  rintro e w' ⟨v, r, rfl, q1, q2, q3⟩
  have Q1 := Lib.hid q1
  have Q2 := Lib.hid q2
  have Q3 := Lib.hid q3
  clear q1 q2 q3
  go_wp2_with (fail)
  go_ret
  exact ⟨v, r, rfl, Q1.out, Q2.out, Q3.out⟩

set_option maxHeartbeats 1600000 in
set_option maxRecDepth 100000 in
theorem as33Z (v0 : Value) (x z y zy : Nat) (w0 w : World) (R : List Int → Prop) (cv1 : ∀ W, (convert 22 46 (Value.float FloatKind.f64 x)).run Tryd.prog W = .ok (.float .f32 z) W) (cv2 : ∀ W, (convert 46 22 (Value.float FloatKind.f32 z)).run Tryd.prog W = .ok (.float .f64 x) W) (cv3 : ∀ W, (convert 22 46 (Value.float FloatKind.f64 y)).run Tryd.prog W = .ok (.float .f32 zy) W) (hy : bits .andNot .u64 (x : Int) 9223372036854775808 = (y : Int))
    (t0 : FloatKind.f64.format.order y 0 = some .eq)
    (h : Calls Tryd.prog 50 #[v0, .float .f32 z, .int .u8 102, .int .i64 (-1)] w (FtPost w0 R)) :
    Calls Tryd.prog 33 #[v0, .float .f64 x, .int .i64 32] w (FtPost w0 R) := by
  have A := fun w => abs_calls x y w hy
  have HA := Lib.hid A
  have H := Lib.hid (af42s v0 x z 102 w0 w R cv1 h)
  clear A hy h
  go_enter Tryd.func33, Tryd.ntmps33
  go_wp2_with (fail)
  refine (HA.out _).mono ?_
  rintro e w' ⟨rfl, rfl⟩
  go_wp2_with (fail)
  refine H.out.mono ?_
  rintro e w' ⟨v, r, rfl, q1, q2, q3⟩
  have Q1 := Lib.hid q1
  have Q2 := Lib.hid q2
  have Q3 := Lib.hid q3
  clear q1 q2 q3
  go_wp2_with (fail)
  go_ret
  exact ⟨v, r, rfl, Q1.out, Q2.out, Q3.out⟩

end Go.Proofs.YtiopeaponffmdaaDoor.PAll
-- YtiopeaponffmdaaDoorFos
namespace Go.Proofs.YtiopeaponffmdaaDoor.PAll
open Go.RowKit Go.Proofs.YtiopeaponffmdaaDoorW.PrintWords Go.Proofs.YtiopeaponffmdaaDoorW.PrintLast Go.Proofs.YtiopeaponffmdaaDoorW.PrintMore
open Fm

theorem num32 (c q m P : Nat) (most : Int) (hP : P = 2 ^ 23) (hc : c = q * P + m) (hm : m < P) (hc0 : 1 ≤ c) (hq : q ≤ 254) :
    ∃ M L D pp, M = (if q = 0 then m else m + P) ∧ Lib.bitLen M = L ∧ 1 ≤ L ∧ L ≤ 24 ∧ 1 ≤ M ∧ M < 16777216 ∧ M * 2 ^ (64 - L) < 18446744073709551616 ∧
      SfAns 23 58 c (M * 2 ^ (64 - L)) ((if q = 0 then (-126 : Int) else (q : Int) + -127) - (64 - (L : Int)) - 23) most D pp := by
  have hPa : 8388607 < P := by rw [hP]; decide
  have hPb : P < 8388609 := by rw [hP]; decide
  obtain ⟨M, hM⟩ : ∃ M, M = (if q = 0 then m else m + P) := ⟨_, rfl⟩
  have hM1 : 1 ≤ M := by
    rw [hM]; split
    · rename_i h; rw [h, Nat.zero_mul] at hc; omega
    · omega
  have hM2 : M < 2 * P := by rw [hM]; split <;> omega
  obtain ⟨L, l1, l2, l3, l4, l5⟩ := bitLen_of M hM1 (by omega)
  have hL24 : L ≤ 24 := by
    have : 2 ^ (L - 1) < 2 ^ 24 := by
      refine Nat.lt_of_le_of_lt l4 (Nat.lt_of_lt_of_le hM2 ?_)
      rw [hP]; decide
    have := pow2_lt this
    omega
  have hmant : M * 2 ^ (64 - L) < 18446744073709551616 := by
    have : M * 2 ^ (64 - L) < 2 ^ L * 2 ^ (64 - L) := Nat.mul_lt_mul_of_pos_right l5 (Nat.two_pow_pos _)
    rw [← Nat.pow_add, show L + (64 - L) = 64 by omega] at this
    exact this
  have hMb : M < 16777216 := by
    have e : 2 * P = 16777216 := by rw [hP]
    omega
  by_cases h0 : q = 0
  · rw [if_pos h0] at hM ⊢
    have hcm : c = m := by rw [hc, h0, Nat.zero_mul, Nat.zero_add]
    have hL23 : L ≤ 23 := by
      have : 2 ^ (L - 1) < 2 ^ 23 := by
        refine Nat.lt_of_le_of_lt l4 ?_
        rw [← hP, hM]; exact hm
      have := pow2_lt this
      omega
    have hMc : M = c := hM.trans hcm.symm
    have hcP : c < 8388608 := by
      have e : P = 8388608 := by rw [hP]
      omega
    rw [hMc] at l4 l5 hmant l1 hMb hM1
    obtain ⟨D, pp, h⟩ := sf32C c L most hc0 hcP l2 hL23 l4 l5
    refine ⟨c, L, D, pp, hcm, l1, l2, hL24, hM1, hMb, hmant, ?_⟩
    rw [if_pos h0, show (-126 : Int) - (64 - (L : Int)) - 23 = (L : Int) - 213 by omega]
    exact h
  · rw [if_neg h0] at hM ⊢
    have hL : L = 24 := by
      have : 2 ^ 23 < 2 ^ L := by
        refine Nat.lt_of_le_of_lt ?_ l5
        rw [← hP, hM]; omega
      have := pow2_lt this
      omega
    have e11 : (2 : Nat) ^ (64 - 24) = 1099511627776 := by decide
    have eE : (q : Int) + -127 - (64 - ((24 : Nat) : Int)) - 23 = (q : Int) - 190 := by omega
    by_cases hA : m = 0 ∧ 2 ≤ q
    · obtain ⟨D, pp, h⟩ := sf32A q P most hP hA.2 hq
      refine ⟨M, L, D, pp, hM, l1, l2, hL24, hM1, hMb, hmant, ?_⟩
      rw [if_neg h0, hL, e11, eE, hM, hA.1, Nat.zero_add, hc, hA.1, Nat.add_zero]
      have e : P * 1099511627776 = 9223372036854775808 := by rw [hP]
      rw [e]
      exact h
    · obtain ⟨D, pp, h⟩ := sf32B q m P most hP (by omega) hq hm hA
      refine ⟨M, L, D, pp, hM, l1, l2, hL24, hM1, hMb, hmant, ?_⟩
      rw [if_neg h0, hL, e11, eE, hM, hc]
      exact h

/-- the parts of a word -/
theorem parts32 (x c q m P : Nat) (hx : x < 4294967296) (hP : P = 2 ^ 23) (hc : c = x % 2147483648) (hcq : c = q * P + m) (hm : m < P) :
    bits .and .i64 ((x : Int) / 8388608) 255 = (q : Int) ∧ bits .and .u64 (x : Int) 8388607 = (m : Int) ∧ bits .or .u64 (m : Int) 8388608 = ((m + P : Nat) : Int) ∧ q < 256 := by
  have hPe : P = 8388608 := by rw [hP]
  have hcq' : c = q * 8388608 + m := by rw [← hPe]; exact hcq
  have e1 := i64_and (x / 8388608) 8 (by omega) (by decide)
  have e2 := u64_and_nat x (2 ^ 23 - 1) (by omega) (by decide)
  rw [Nat.and_two_pow_sub_one_eq_mod] at e2
  have e3 := u64_or_nat m (2 ^ 23) (by omega) (by decide)
  have e4 : m ||| 2 ^ 23 = m + P := by
    have := Nat.two_pow_add_eq_or_of_lt (b := m) (i := 23) (by rw [← hP]; exact hm) 1
    rw [Nat.mul_one] at this
    rw [Nat.or_comm, ← this, hP, Nat.add_comm]
  rw [e4] at e3
  have q1 : x / 8388608 % 2 ^ 8 = q := by omega
  have q2 : x % 2 ^ 23 = m := by omega
  rw [q1] at e1
  rw [q2] at e2
  refine ⟨?_, e2, e3, by omega⟩
  have : ((x / 8388608 : Nat) : Int) = (x : Int) / 8388608 := by omega
  rw [← this]
  exact e1

/-- the digits of a finite number that is not 0 -/
structure N32 (c : Nat) (most : Int) (q m P M L D : Nat) (pp : Int) : Prop where
  hP : P = 2 ^ 23
  hcq : c = q * P + m
  hmP : m < P
  hq : q ≤ 254
  hM : M = (if q = 0 then m else m + P)
  l1 : Lib.bitLen M = L
  l2 : 1 ≤ L
  l3 : L ≤ 24
  hM1 : 1 ≤ M
  hM2 : M < 16777216
  hmant : M * 2 ^ (64 - L) < 18446744073709551616
  hS : SfAns 23 58 c (M * 2 ^ (64 - L)) ((if q = 0 then (-126 : Int) else (q : Int) + -127) - (64 - (L : Int)) - 23) most D pp
theorem n32 (c : Nat) (most : Int) (hc0 : 1 ≤ c) (hc1 : c < 2139095040) : ∃ q m P M L D pp, N32 c most q m P M L D pp := by
  obtain ⟨P, hP⟩ : ∃ P : Nat, P = 2 ^ 23 := ⟨_, rfl⟩
  have hPe : P = 8388608 := by rw [hP]
  obtain ⟨q, hq⟩ : ∃ q, q = c / P := ⟨_, rfl⟩
  obtain ⟨m, hm⟩ : ∃ m, m = c % P := ⟨_, rfl⟩
  have hcq : c = q * P + m := by rw [hq, hm, Nat.mul_comm]; exact (Nat.div_add_mod _ _).symm
  have hmP : m < P := by rw [hm]; exact Nat.mod_lt _ (by omega)
  have hq54 : q ≤ 254 := by
    refine Nat.le_of_lt_succ ?_
    rw [hq]
    exact Nat.div_lt_of_lt_mul (by omega)
  obtain ⟨M, L, D, pp, hM, l1, l2, l3, hM1, hM2, hmant, hS⟩ := num32 c q m P most hP hcq hmP hc0 hq54
  exact ⟨q, m, P, M, L, D, pp, hP, hcq, hmP, hq54, hM, l1, l2, l3, hM1, hM2, hmant, hS⟩

section
variable (P0_ : Nat → Prop) (v0 : Value) (l0 : List Int) (x c : Nat) (most : Int) (sg : Bool) (w0 w : World) (hx : x < 4294967296) (hc : c = x % 2147483648) {q m P M L D : Nat} {pp : Int} (N : N32 c most q m P M L D pp)
    (hsg : ((x : Int) / 2147483648 != 0) = sg) (hB : Below w0.heap.size w0 w) (ho : RM 5 w w0.heap.size P0_ v0 l0) (hR : Rdy w) (hl : l0.length ≤ 5000000000)
include hx hc N hsg hB ho hR hl

/-- its text in either format -/
theorem ftoa32_any : (-6 < ((dec D).length : Int) + pp → ((dec D).length : Int) + pp ≤ 21 →
        Calls Tryd.prog 50 #[v0, .float .f32 x, .int .u8 102, .int .i64 (-1)] w (FtPost w0 (fun r => r = l0 ++ ((if sg = true then [45] else []) ++ laidL (dec (cutz D)) (((dec D).length : Int) + pp))))) ∧
      (((dec D).length : Int) + pp ≤ -6 ∨ 21 < ((dec D).length : Int) + pp →
        Calls Tryd.prog 50 #[v0, .float .f32 x, .int .u8 101, .int .i64 (-1)] w (FtPost w0 (fun r => (∃ q a b c d, r = q ++ [a, b, c, d] ∧ q.length ≤ 140737488355328) ∧ fixE r = l0 ++ ((if sg = true then [45] else []) ++ laidL (dec (cutz D)) (((dec D).length : Int) + pp))))) := by
  obtain ⟨hP, hcq, hmP, hq54, hM, l1, l2, l3, hM1, hM2, hmant, hS⟩ := N
  obtain ⟨b1, b2, b3, b4⟩ := parts32 x c q m P hx hP hc hcq hmP
  obtain ⟨nd, hnd⟩ : ∃ nd, nd = (dec D).length := ⟨_, rfl⟩
  have hnd2 : nd ≤ 18 := by rw [hnd]; exact dec_length_le 17 D hS.lt
  have hnd1 : 1 ≤ nd := by rw [hnd]; exact dec_length_pos D
  have hD1 : 10 ^ (nd - 1) ≤ D := by rw [hnd]; exact dec_lower D hS.pos
  have hD2 : D < 10 ^ nd := by rw [hnd]; exact dec_upper D
  have hD3 : D < 18446744073709551616 := Nat.lt_trans hS.lt (by decide)
  have hp0 := hS.p0
  have hp1 := hS.p1
  have hND : ∀ W, Below w.heap.size w W → Calls Tryd.prog 60 #[.int .u64 (D : Int)] W fun e W' => e = .returned (.int .i64 (nd : Int)) ∧ W = W' := fun W hb => by
    have h := Tryd.internal_strconv_numDigits D hS.pos hD3 W (hR W hb).2
    rw [nDigits_dec, ← hnd] at h
    exact h.mono fun _ _ h => ⟨h.1, h.2.symm⟩
  have hSF : ∀ W, Below w.heap.size w W → Calls Tryd.prog 58 #[.int .u64 ((M * 2 ^ (64 - L) : Nat) : Int), .int .i64 ((if q = 0 then (-126 : Int) else (q : Int) + -127) - (64 - (L : Int)) - 23)] W fun e W' => e = .returned (.tuple #[.int .u64 (D : Int), .int .i64 pp]) ∧ Below W.heap.size W W' := fun W hb => hS.calls W (hR W hb).1
  have hwr : IntKind.u64.wrap ((M : Int) * 2 ^ (64 - L)) = ((M * 2 ^ (64 - L) : Nat) : Int) := by rw [pow_cast]; exact wrapuN _ hmant
  have hbuf : ∀ k, Left D nd k → (bufL D nd).take k = dec (cutz D) := fun k hk => buf_take D nd k hnd hk (by omega)
  have hF : -6 < (nd : Int) + pp → (nd : Int) + pp ≤ 21 → ∀ k, Left D nd k → ∃ K r, fmtF.f K l0 sg (bufL D nd) ((nd : Int) + pp) k (mx ((k : Int) - ((nd : Int) + pp)) 0) = some r ∧ r = l0 ++ ((if sg = true then [45] else []) ++ laidL (dec (cutz D)) ((nd : Int) + pp)) := fun d1 d2 k hk => by
    have k2 := hk.2.1
    obtain ⟨K, h⟩ := fmtF_ev l0 (bufL D nd) sg k ((nd : Int) + pp) hk.1 (by rw [bufL_length]; omega) (by rw [bufL_length]; decide) hl d1 d2
    rw [hbuf k hk] at h
    exact ⟨K, _, h, rfl⟩
  have hE : (nd : Int) + pp ≤ -6 ∨ 21 < (nd : Int) + pp → ∀ k, Left D nd k → ∃ K r, fmtE.f K l0 sg (bufL D nd) ((nd : Int) + pp) k ((k : Int) - 1) = some r ∧ (∃ q a b c d, r = q ++ [a, b, c, d] ∧ q.length ≤ 140737488355328) ∧ fixE r = l0 ++ ((if sg = true then [45] else []) ++ laidL (dec (cutz D)) ((nd : Int) + pp)) := fun d k hk => by
    have k2 := hk.2.1
    obtain ⟨K, r, h1, h2, h3⟩ := fmtE_ev l0 (bufL D nd) sg k ((nd : Int) + pp) hk.1 (by rw [bufL_length]; omega) (by rw [bufL_length]; decide) hl (by omega)
    rw [hbuf k hk] at h3
    exact ⟨K, r, h1, h2, h3⟩
  rw [← hnd]
  by_cases h0 : q = 0
  · rw [if_pos h0] at hM
    rw [h0] at b1
    rw [← hM] at b2
    refine ⟨fun d1 d2 => ?_, fun d => ?_⟩
    · exact ftoa32FS P0_ v0 l0 _ x M L (M * 2 ^ (64 - L)) D nd _ pp sg w0 w hx hB ho hsg b1 b2 hM1 hM2 l1 l2 l3 hwr rfl (by rw [if_pos h0] at hSF; exact hSF) hND hD1 hD2 hD3 hnd1 (by omega) (by omega) (by omega) (hF d1 d2)
    · exact ftoa32ES P0_ v0 l0 _ x M L (M * 2 ^ (64 - L)) D nd _ pp sg w0 w hx hB ho hsg b1 b2 hM1 hM2 l1 l2 l3 hwr rfl (by rw [if_pos h0] at hSF; exact hSF) hND hD1 hD2 hD3 hnd1 (by omega) (by omega) (by omega) (hE d)
  · rw [if_neg h0] at hM
    rw [← hM] at b3
    refine ⟨fun d1 d2 => ?_, fun d => ?_⟩
    · exact ftoa32FN P0_ v0 l0 _ x q m M L (M * 2 ^ (64 - L)) D nd _ pp sg w0 w hx hB ho hsg b1 b2 (by omega) (by omega) b3 hM1 hM2 l1 l2 l3 hwr rfl (by rw [if_neg h0] at hSF; exact hSF) hND hD1 hD2 hD3 hnd1 (by omega) (by omega) (by omega) (hF d1 d2)
    · exact ftoa32EN P0_ v0 l0 _ x q m M L (M * 2 ^ (64 - L)) D nd _ pp sg w0 w hx hB ho hsg b1 b2 (by omega) (by omega) b3 hM1 hM2 l1 l2 l3 hwr rfl (by rw [if_neg h0] at hSF; exact hSF) hND hD1 hD2 hD3 hnd1 (by omega) (by omega) (by omega) (hE d)
end

theorem order32 (c y : Nat) (hc : c < 2139095040) (hy : y < 2139095040) : (c < y → FloatKind.f32.format.order c y = some .lt) ∧ (c = y → FloatKind.f32.format.order c y = some .eq) ∧ (y < c → FloatKind.f32.format.order c y = some .gt) := by
  have h := order_pos FloatKind.f32.format c y (by decide +kernel) (Nat.lt_of_lt_of_le hc (by decide +kernel)) (Nat.lt_of_lt_of_le hy (by decide +kernel))
  refine ⟨fun e => ?_, fun e => ?_, fun e => ?_⟩
  · rw [h, if_pos (T2_strict _ e)]
  · rw [h, e, if_neg (Nat.lt_irrefl _), if_pos rfl]
  · have := T2_strict FloatKind.f32.format.fractionBits e
    rw [h, if_neg (Nat.lt_asymm this), if_neg (Nat.ne_of_gt this)]


/-- the conversions of a number of single precision, there and back -/
structure Conv32 (z X : Nat) : Prop where
  there : ∀ W, (convert 46 22 (Value.float FloatKind.f32 z)).run Tryd.prog W = .ok (.float .f64 X) W
  back : ∀ W, (convert 22 46 (Value.float FloatKind.f64 X)).run Tryd.prog W = .ok (.float .f32 z) W

/-- FloatText at a finite number that is not 0 -/
theorem text32N (tt : ByteArray) (x X Y c : Nat) (most : Int) (sg : Bool) (w : World) (hto : tt.size ≤ 4000000000) (hx : x < 4294967296) (hc : c = x % 2147483648) (hc0 : 1 ≤ c) (hc1 : c < 2139095040) {q m P M L D : Nat} {pp : Int} (N : N32 c most q m P M L D pp)
    (hsg : ((x : Int) / 2147483648 != 0) = sg) (hR : Rdy w) (cv : Conv32 x X) (cvY : Conv32 c Y) (hY : bits .andNot .u64 (X : Int) 9223372036854775808 = (Y : Int)) (hY0 : FloatKind.f64.format.order Y 0 = some .gt) :
    Calls Tryd.prog 14 #[.string tt, .float .f64 X, .int .i64 32] w fun e w' => e = .returned (.string (strOfNums (bytesOf tt ++ ((if sg = true then [45] else []) ++ laidL (dec (cutz D)) (((dec D).length : Int) + pp))))) ∧ Below w.heap.size w w' := by
  obtain ⟨n, k, y, hsh, hy, hy0, hpl⟩ := N.hS.sh
  have pl := place32 rfl hsh hy0
  rw [hpl] at pl
  have o1 := order32 c 897988541 hc1 (by decide)
  have o2 := order32 c 1649989415 hc1 (by decide)
  refine (floatText32 tt X w (fun r => r = bytesOf tt ++ ((if sg = true then [45] else []) ++ laidL (dec (cutz D)) (((dec D).length : Int) + pp))) (by omega) (fun W v hB ho => ?_)).mono ?_
  · refine af25s v _ w W _ ?_
    have hRW := hR.mono hB
    obtain ⟨F, E⟩ := ftoa32_any (fun _ => True) v (bytesOf tt) x c most sg w W hx hc N hsg hB ho hRW (by rw [bytesOf_length]; omega)
    generalize ((dec D).length : Int) + pp = dp at *
    have post : ∀ e w', (FtPost w (fun r => ∃ r', ((∃ q a b c d, r' = q ++ [a, b, c, d] ∧ q.length ≤ 140737488355328) ∧ fixE r' = bytesOf tt ++ ((if sg = true then [45] else []) ++ laidL (dec (cutz D)) dp)) ∧ r = fixE r')) e w' → FtPost w (fun r => r = bytesOf tt ++ ((if sg = true then [45] else []) ++ laidL (dec (cutz D)) dp)) e w' := by
      rintro e w' ⟨v', r, h1, ⟨r', ⟨g1, g2⟩, rfl⟩, h3, h4⟩
      exact ⟨v', _, h1, g2, h3, h4⟩
    by_cases d1 : dp ≤ -6
    · have hlt := pl.1.1 d1
      exact (as33E1 v X x Y c w W _ cv.back cv.there cvY.back hY hY0 (o1.1 hlt) (E (.inl d1)) (fun r hr => hr.1)).mono post
    · have hge : 897988541 ≤ c := Nat.not_lt.1 fun h => d1 (pl.1.2 h)
      by_cases d2 : dp ≤ 21
      · have hlt := pl.2.1 d2
        rcases Nat.lt_or_ge 897988541 c with hgt | hle
        · exact as33F1 v X x Y c w W _ cv.back cv.there cvY.back hY hY0 (o1.2.2 hgt) (o2.1 hlt) (F (by omega) d2)
        · exact as33F2 v X x Y c w W _ cv.back cv.there cvY.back hY hY0 (o1.2.1 (Nat.le_antisymm hle hge)) (o2.1 hlt) (F (by omega) d2)
      · have hge2 : 1649989415 ≤ c := Nat.not_lt.1 fun h => d2 (pl.2.2 h)
        have hgt1 : 897988541 < c := Nat.lt_of_lt_of_le (by decide) hge2
        rcases Nat.lt_or_ge 1649989415 c with hgt | hle
        · exact (as33E2 v X x Y c w W _ cv.back cv.there cvY.back hY hY0 (o1.2.2 hgt1) (o2.2.2 hgt) (E (.inr (by omega))) (fun r hr => hr.1)).mono post
        · exact (as33E3 v X x Y c w W _ cv.back cv.there cvY.back hY hY0 (o1.2.2 hgt1) (o2.2.1 (Nat.le_antisymm hle hge2)) (E (.inr (by omega))) (fun r hr => hr.1)).mono post
  · rintro e w' ⟨r, rfl, h2, h3⟩
    exact ⟨h2, h3⟩

/-- FloatText at a zero -/
theorem text32Z (tt : ByteArray) (x X Y : Nat) (sg : Bool) (w : World) (hto : tt.size ≤ 4000000000) (hx : x < 4294967296) (hc : 0 = x % 2147483648)
    (hsg : ((x : Int) / 2147483648 != 0) = sg) (cv : Conv32 x X) (cvY : Conv32 0 Y) (hY : bits .andNot .u64 (X : Int) 9223372036854775808 = (Y : Int)) (hY0 : FloatKind.f64.format.order Y 0 = some .eq) :
    Calls Tryd.prog 14 #[.string tt, .float .f64 X, .int .i64 32] w fun e w' => e = .returned (.string (strOfNums (bytesOf tt ++ ((if sg = true then [45] else []) ++ [48])))) ∧ Below w.heap.size w w' := by
  obtain ⟨b1, b2, b3, b4⟩ := parts32 x 0 0 0 (2 ^ 23) hx rfl hc (by decide) (by decide)
  refine (floatText32 tt X w (fun r => r = bytesOf tt ++ ((if sg = true then [45] else []) ++ [48])) (by omega) (fun W v hB ho => ?_)).mono ?_
  · refine af25s v _ w W _ ?_
    obtain ⟨K, h⟩ := fmtF_zero (bytesOf tt) sg (by rw [bytesOf_length]; omega)
    exact as33Z v X x Y 0 w W _ cv.back cv.there cvY.back hY hY0 (ftoa32Z (fun _ => True) v (bytesOf tt) _ x sg w W hx hB ho hsg b1 b2 ⟨K, _, h, rfl⟩)
  · rintro e w' ⟨r, rfl, h2, h3⟩
    exact ⟨h2, h3⟩
end Go.Proofs.YtiopeaponffmdaaDoor.PAll
-- YtiopeaponffmdaaDoorFnj
namespace Go.Proofs.YtiopeaponffmdaaDoor.PAll
open Go.RowKit Go.Proofs.YtiopeaponffmdaaDoorW.PrintWords Go.Proofs.YtiopeaponffmdaaDoorW.PrintLast Go.Proofs.YtiopeaponffmdaaDoorW.PrintMore

theorem nearest_drop (F : Ieee.Format) (s : Bool) (m d : Nat) (place : Int) (j : Nat) (hm : 0 < m) (hl : max (place + ((m * 2 ^ d).log2 : Int) - (F.fractionBits : Int)) F.leastPlace = place + (d : Int)) (hj : place + (d : Int) = F.leastPlace + (j : Int)) (hf : j * 2 ^ F.fractionBits + m ≤ F.infRung) :
    F.nearest s (m * 2 ^ d) place = F.word s (j * 2 ^ F.fractionBits + m) := by
  have hp : 0 < m * 2 ^ d := Nat.mul_pos hm (Nat.two_pow_pos _)
  unfold Ieee.Format.nearest
  rw [if_neg (by omega)]
  dsimp only
  rw [hl]
  have e1 : (place - (place + (d : Int))).toNat = 0 := by omega
  have e2 : (place + (d : Int) - place).toNat = d := by omega
  have e3 : (place + (d : Int) - F.leastPlace).toNat = j := by omega
  rw [e1, e2, e3, Nat.shiftLeft_zero, cut_exact s m d hm]
  unfold Ieee.Format.binade
  rw [Nat.min_eq_left hf]

theorem read_sgn (F : Ieee.Format) (x : Nat) (h2 : x % F.signWeight < F.infRung) :
    F.read x = .number (x / F.signWeight % 2 == 1) (mgP F.fractionBits (x % F.signWeight)).1 (F.leastPlace + ((mgP F.fractionBits (x % F.signWeight)).2 : Nat)) := by
  unfold Ieee.Format.read
  dsimp only
  unfold mgP Ieee.Format.binade
  by_cases h : x % F.signWeight < 2 ^ F.fractionBits
  · rw [if_pos h, if_pos h]
    simp
  · rw [if_neg h, if_neg h, if_pos h2]
theorem word_parts (F : Ieee.Format) (s : Bool) (R : Nat) (h : R < F.signWeight) : F.word s R % F.signWeight = R ∧ (F.word s R / F.signWeight % 2 == 1) = s := by
  unfold Ieee.Format.word
  cases s with
  | true =>
    rw [if_pos rfl, Nat.add_mod_left, Nat.mod_eq_of_lt h, Nat.add_div_left _ (by omega), Nat.div_eq_of_lt h]
    exact ⟨rfl, rfl⟩
  | false =>
    rw [if_neg (by decide), Nat.mod_eq_of_lt h, Nat.div_eq_of_lt h]
    exact ⟨rfl, rfl⟩

/-- the parts of a number of single precision in double precision -/
theorem up32 (c : Nat) (hc0 : 1 ≤ c) (hc : c < 2139095040) : ∃ R : Nat, 1 ≤ R ∧ R < 9218868437227405312 ∧ ∀ s : Bool,
    Ieee.double.nearest s (mgP 23 c).1 (-149 + ((mgP 23 c).2 : Int)) = Ieee.double.word s R ∧
    Ieee.single.nearest s (mgP 52 R).1 (-1074 + ((mgP 52 R).2 : Int)) = Ieee.single.word s c := by
  obtain ⟨mag, hmag⟩ : ∃ m, m = (mgP 23 c).1 := ⟨_, rfl⟩
  obtain ⟨pl, hpl⟩ : ∃ p, p = (mgP 23 c).2 := ⟨_, rfl⟩
  rw [← hmag, ← hpl]
  -- what they are
  have hcases : (c < 8388608 ∧ mag = c ∧ pl = 0) ∨ (8388608 ≤ mag ∧ mag < 16777216 ∧ pl ≤ 253 ∧ c = pl * 8388608 + mag) := by
    unfold mgP at hmag hpl
    have e : (2 : Nat) ^ 23 = 8388608 := by decide
    rw [e] at hmag hpl
    by_cases h : c < 8388608
    · rw [if_pos h] at hmag hpl
      exact .inl ⟨h, hmag, hpl⟩
    · rw [if_neg h] at hmag hpl
      simp only at hmag hpl
      right
      omega
  have hm0 : 0 < mag := by omega
  have hm24 : mag < 2 ^ 24 := by
    have e : (2 : Nat) ^ 24 = 16777216 := by decide
    omega
  obtain ⟨g, hg⟩ : ∃ g, g = mag.log2 := ⟨_, rfl⟩
  have hg1 : 2 ^ g ≤ mag := by rw [hg]; exact Nat.log2_self_le (by omega)
  have hg2 : mag < 2 ^ (g + 1) := by rw [hg]; exact Nat.lt_log2_self
  have hg23 : g ≤ 23 := by
    have := pow2_lt (Nat.lt_of_le_of_lt hg1 hm24)
    omega
  have hk1 : 2 ^ 52 ≤ mag * 2 ^ (52 - g) := by
    have := Nat.mul_le_mul_right (2 ^ (52 - g)) hg1
    rwa [← Nat.pow_add, show g + (52 - g) = 52 by omega] at this
  have hk2 : mag * 2 ^ (52 - g) < 2 ^ 53 := by
    have := Nat.mul_lt_mul_of_pos_right hg2 (Nat.two_pow_pos (52 - g))
    rwa [← Nat.pow_add, show g + 1 + (52 - g) = 53 by omega] at this
  have e52 : (2 : Nat) ^ 52 = 4503599627370496 := by decide
  have e53 : (2 : Nat) ^ 53 = 9007199254740992 := by decide
  obtain ⟨j, hj⟩ : ∃ j : Nat, j = 925 + pl - (52 - g) := ⟨_, rfl⟩
  obtain ⟨B, hB⟩ : ∃ B, B = mag * 2 ^ (52 - g) := ⟨_, rfl⟩
  rw [← hB] at hk1 hk2
  have hpl253 : pl ≤ 253 := by omega
  have n1 := fun s : Bool => nearest_exact Ieee.double s mag (-149 + (pl : Int)) (52 - g) j hm0 (by rw [← hg]; show g + (52 - g) = 52; omega) (by show (-149 + (pl : Int)) - ((52 - g : Nat) : Int) = -1074 + (j : Int); omega)
    (by rw [← hB]; show j * 2 ^ 52 + B ≤ 9218868437227405312; omega)
  rw [← hB] at n1
  refine ⟨j * 2 ^ 52 + B, by omega, by omega, fun s => ⟨n1 s, ?_⟩⟩
  have hmg : mgP 52 (j * 2 ^ 52 + B) = (B, j) := by
    unfold mgP
    rw [if_neg (by omega)]
    have d1 : (j * 2 ^ 52 + B) / 2 ^ 52 = j + 1 := by omega
    have d2 : (j * 2 ^ 52 + B) % 2 ^ 52 = B - 2 ^ 52 := by omega
    rw [d1, d2]
    refine Prod.ext ?_ rfl
    show 2 ^ 52 + (B - 2 ^ 52) = B
    omega
  rw [hmg, hB]
  show Ieee.single.nearest s (mag * 2 ^ (52 - g)) (-1074 + (j : Int)) = _
  have hlog : (mag * 2 ^ (52 - g)).log2 = 52 := by
    rw [← hB]
    have a1 : 52 ≤ B.log2 := (Nat.le_log2 (by omega)).2 hk1
    have a2 : B.log2 < 53 := (Nat.log2_lt (by omega)).2 hk2
    omega
  rcases hcases with ⟨h1, h2, h3⟩ | ⟨h1, h2, h3, h4⟩
  · have := nearest_drop Ieee.single s mag (52 - g) (-1074 + (j : Int)) 0 hm0 (by rw [hlog]; show max (-1074 + (j : Int) + ((52 : Nat) : Int) - ((23 : Nat) : Int)) (-149) = -1074 + (j : Int) + ((52 - g : Nat) : Int); omega) (by show -1074 + (j : Int) + ((52 - g : Nat) : Int) = -149 + ((0 : Nat) : Int); omega) (by show 0 * 2 ^ 23 + mag ≤ 2139095040; omega)
    rw [this, Nat.zero_mul, Nat.zero_add, h2]
  · have hg' : g = 23 := by
      have h5 : 2 ^ 23 < 2 ^ (g + 1) := Nat.lt_of_le_of_lt (by show 2 ^ 23 ≤ mag; have e : (2 : Nat) ^ 23 = 8388608 := by decide
                                                               omega) hg2
      have := pow2_lt h5
      omega
    have e23 : (2 : Nat) ^ 23 = 8388608 := by decide
    have := nearest_drop Ieee.single s mag (52 - g) (-1074 + (j : Int)) pl hm0 (by rw [hlog]; show max (-1074 + (j : Int) + ((52 : Nat) : Int) - ((23 : Nat) : Int)) (-149) = -1074 + (j : Int) + ((52 - g : Nat) : Int); omega) (by show -1074 + (j : Int) + ((52 - g : Nat) : Int) = -149 + (pl : Int); omega) (by show pl * 2 ^ 23 + mag ≤ 2139095040; omega)
    rw [this, h4]
    congr 1

/-- there and back -/
theorem conv32 (z c : Nat) (sg : Bool) (hz : z < 4294967296) (hc : c = z % 2147483648) (hc1 : c < 2139095040) (hsg : ((z : Int) / 2147483648 != 0) = sg) :
    ∃ R : Nat, R < 9218868437227405312 ∧ (c = 0 ↔ R = 0) ∧ Conv32 z (Ieee.double.word sg R) ∧ Conv32 c R := by
  -- one lemma for both signs
  have one : ∀ (z : Nat) (sg : Bool) (R : Nat), z % Ieee.single.signWeight = c → (z / Ieee.single.signWeight % 2 == 1) = sg → R < 9218868437227405312 →
      Ieee.double.nearest sg (mgP 23 c).1 (-149 + ((mgP 23 c).2 : Int)) = Ieee.double.word sg R → Ieee.single.nearest sg (mgP 52 R).1 (-1074 + ((mgP 52 R).2 : Int)) = z → Conv32 z (Ieee.double.word sg R) := by
    intro z sg R e1 e2 hRb h1 h2
    have hr := read_sgn Ieee.single z (by rw [e1]; exact hc1)
    rw [e1, e2] at hr
    obtain ⟨w1, w2⟩ := word_parts Ieee.double sg R (Nat.lt_of_lt_of_le hRb (by decide))
    have hr2 := read_sgn Ieee.double (Ieee.double.word sg R) (by rw [w1]; exact hRb)
    rw [w1, w2] at hr2
    have f1 : floatToFloatBits .f32 z .f64 = some (Ieee.double.word sg R) := by
      unfold floatToFloatBits
      rw [if_neg (by decide)]
      have d : FloatKind.f32.decode z = .number sg (mgP 23 c).1 (-149 + ((mgP 23 c).2 : Int)) := hr
      have en : FloatKind.f64.encode (.number sg (mgP 23 c).1 (-149 + ((mgP 23 c).2 : Int))) = Ieee.double.word sg R := h1
      rw [d]
      simp only
      rw [en]
      have d2 : FloatKind.f64.decode (Ieee.double.word sg R) = .number sg (mgP 52 R).1 (-1074 + ((mgP 52 R).2 : Int)) := hr2
      rw [d2]
      rfl
    have f2 : floatToFloatBits .f64 (Ieee.double.word sg R) .f32 = some z := by
      unfold floatToFloatBits
      rw [if_neg (by decide)]
      have d2 : FloatKind.f64.decode (Ieee.double.word sg R) = .number sg (mgP 52 R).1 (-1074 + ((mgP 52 R).2 : Int)) := hr2
      have en : FloatKind.f32.encode (.number sg (mgP 52 R).1 (-1074 + ((mgP 52 R).2 : Int))) = z := h2
      rw [d2]
      simp only
      rw [en]
      have d : FloatKind.f32.decode z = .number sg (mgP 23 c).1 (-149 + ((mgP 23 c).2 : Int)) := hr
      rw [d]
      rfl
    exact ⟨fun W => run_convert_float_float W 46 22 .f32 .f64 z _ (by rw [Tryd.underlying46]; rfl) Tryd.underlying22 f1, fun W => run_convert_float_float W 22 46 .f64 .f32 _ z (by rw [Tryd.underlying22]; rfl) Tryd.underlying46 f2⟩
  have sw : Ieee.single.signWeight = 2147483648 := by decide
  have hzw : z = Ieee.single.word sg c := by
    unfold Ieee.Format.word
    rw [sw]
    cases sg with
    | true => rw [if_pos rfl]; rw [bne_iff_ne] at hsg; omega
    | false => rw [if_neg (by decide)]; rw [bne_eq_false_iff_eq] at hsg; omega
  have hcs : c < Ieee.single.signWeight := by rw [sw]; omega
  have wz := word_parts Ieee.single sg c hcs
  have wc := word_parts Ieee.single false c hcs
  have hcw : c = Ieee.single.word false c := by unfold Ieee.Format.word; rw [if_neg (by decide)]
  by_cases h0 : c = 0
  · refine ⟨0, by decide, by simp [h0], ?_, ?_⟩
    · refine one z sg 0 (by rw [hzw]; exact wz.1) (by rw [hzw]; exact wz.2) (by decide) ?_ ?_
      · rw [h0]; rfl
      · rw [hzw, h0]; rfl
    · have := one c false 0 (by rw [Nat.mod_eq_of_lt hcs]) (by rw [Nat.div_eq_of_lt hcs]; rfl) (by decide) (by rw [h0]; rfl) (by rw [h0]; rfl)
      exact this
  · obtain ⟨R, r1, r2, r3⟩ := up32 c (by omega) hc1
    refine ⟨R, r2, by omega, ?_, ?_⟩
    · exact one z sg R (by rw [hzw]; exact wz.1) (by rw [hzw]; exact wz.2) r2 (r3 sg).1 (by rw [hzw]; exact (r3 sg).2)
    · have := one c false R (by rw [Nat.mod_eq_of_lt hcs]) (by rw [Nat.div_eq_of_lt hcs]; rfl) r2 (r3 false).1 (by rw [(r3 false).2, ← hcw])
      exact this
end Go.Proofs.YtiopeaponffmdaaDoor.PAll
-- YtiopeaponffmdaaDoorPAllx33
namespace Go.Proofs.YtiopeaponffmdaaDoor.PAll
open Go.RowKit Go.Proofs.YtiopeaponffmdaaDoorW.PrintWords Go.Proofs.YtiopeaponffmdaaDoorW.PrintLast Go.Proofs.YtiopeaponffmdaaDoorW.PrintMore
attribute [local go_sem] max2_int min2_int max_two min_two max_three min_three max_four min_four   -- for this text's walks alone
set_option linter.unusedVariables false
set_option linter.unusedSimpArgs false

def spec_Single.f  : Option (Int × Int) := some (23, 2139095039)
set_option maxHeartbeats 8000000 in
set_option maxRecDepth 100000 in
theorem spec_Single.calls  (r1 : Int) (r2 : Int) (w : World) (h : spec_Single.f  = some (r1, r2)) :
    Calls Tryd.prog 23 #[] w fun e w' => e = .returned (.agg #[.int .i64 r1, .int .u64 r2]) ∧ Below w.heap.size w w' := by
  have hu31 := Tryd.underlying31
  have HB := Aside0.mk (Below.refl w.heap.size w)
  have H : (some (23, 2139095039)) = some (r1, r2) := h
  clear h
  simp only [Option.some.injEq, Prod.mk.injEq] at H
  obtain ⟨rfl, rfl⟩ := H
  go_enter Tryd.func23, Tryd.ntmps23
  go_wp2_with (first | ((with_reducible refine gate_dst (N := 0) rfl ?_); refine box_event ?hg (N := 0) ?hd (cs := #[.int .i64 0, .int .u64 0]) (t := 31) ?hr ?_; (case hd => rfl); (case hg => rfl); (case hr => first | (go_simp; done) | (go_simp; rfl)); intro gb512 hg w1 hbox hb; have n0_ := Aside0.mk (below_step (by repeat (first | (with_reducible first | exact HB.out | apply below_alloc | apply pw_below_drewN | apply below_drew1) | exact HB.out)) hb); have n1_ := Aside0.mk (hbox); have n2_ := Aside0.mk ((by rw [hg]; exact (below_size (by repeat (first | (with_reducible first | exact HB.out | apply below_alloc | apply pw_below_drewN | apply below_drew1) | exact HB.out))) : w.heap.size ≤ gb512)); have n3_ := Aside0.mk ((by rw [hg]; exact (below_size (by repeat (first | (with_reducible first | exact HB.out | apply below_alloc | apply pw_below_drewN | apply below_drew1) | exact HB.out))) : w.heap.size ≤ gb512)); clear HB; have HB := n0_; have BK512 := n1_; have GW512 := n2_; have GE512 := n3_; clear n0_ n1_ n2_ n3_; clear hb hbox hg; have hcz2_0 : w1.cell? ⟨gb512, 0, none⟩ = some (.int .i64 0) := (blk_cell BK512.out 0).trans rfl; have hcz2_1 : w1.cell? ⟨gb512, 1, none⟩ = some (.int .u64 0) := (blk_cell BK512.out 1).trans rfl; have hfz2_0 := blk_frozen BK512.out 0; have hfz2_1 := blk_frozen BK512.out 1))
  refine bodyPost_ret (results_cell_row rfl _ _ gb512 31 #[.int .i64 23, .int .u64 2139095039] (0, 0) _ rfl (by (with_reducible repeat (first | refine blk_drewN ?_ _ | refine blk_drew ?_ | refine blk_alloc ?_ _)); refine blk_put (cs := #[.int .i64 23, .int .u64 0]) ?_ 1 _ rfl; (with_reducible repeat (first | refine blk_drewN ?_ _ | refine blk_drew ?_ | refine blk_alloc ?_ _)); refine blk_put (cs := #[.int .i64 0, .int .u64 0]) ?_ 0 _ rfl; (with_reducible repeat (first | refine blk_drewN ?_ _ | refine blk_drew ?_ | refine blk_alloc ?_ _)); exact BK512.out) Tryd.underlying31 rfl (by kernel_rfl)) rfl ?_
  exact ⟨by first | rfl | (simp [errW_none, errW_some] <;> rfl) | (simp [*, errW_none, errW_some] <;> rfl), by repeat (first | (with_reducible first | exact HB.out | apply below_alloc | apply pw_below_drewN | apply below_drew1 | refine below_set ?_ GE512.out) | exact HB.out)⟩

end Go.Proofs.YtiopeaponffmdaaDoor.PAll
