-- PRINTED BY print.sh 35421559b90ae4d0a3588c463048766b98c2df88dd9212a6774a882060cdf62d: not written by this session
import Derived.Test.YtokkjljncoiajaaDoorPFnStringTokenx0
import Derived.Test.YtokkjljncoiajaaDoorPFnStringTokenx2
namespace Go.Proofs.YtokkjljncoiajaaDoor.PFnStringToken
open Go.RowKit Go.Proofs.YtokkjljncoiajaaDoorW.PrintWords Go.Proofs.YtokkjljncoiajaaDoorW.PrintLast Go.Proofs.YtokkjljncoiajaaDoorW.PrintMore
attribute [local go_sem] max2_int min2_int max_two min_two max_three min_three max_four min_four   -- for this text's walks alone
set_option linter.unusedVariables false
set_option linter.unusedSimpArgs false

/-! ### spec_IsText: function 10 -/
def spec_IsText.l0 : Nat → ByteArray → Option (Bool)
  | 0, _ => none
  | k + 1, x0 => if x0.toList = ([] : List UInt8) then (some true) else ((spec_runeLength.f k x0).bind fun t102 => (if t102 = 0 then (some false) else (if 0 ≤ t102 then (if t102 ≤ (x0.size : Int) then (spec_IsText.l0 k (x0.extract (t102 : Int).toNat x0.size)) else (none)) else (none))))
def spec_IsText.f (k : Nat) (a0 : ByteArray) : Option (Bool) := spec_IsText.l0 k a0
theorem spec_IsText.mono_l : ∀ k, (∀ y0, LeO (spec_IsText.l0 k y0) (spec_IsText.l0 (k + 1) y0))
  | 0 => fun _ r h => by simp [spec_IsText.l0] at h
  | k + 1 => by
    have ih0 := spec_IsText.mono_l k
    · intro y0
      unfold spec_IsText.l0
      repeat' first
      | (with_reducible exact ih0 _)
      | (with_reducible exact spec_runeLength.mono _ _)
      | (with_reducible exact LeO.refl _)
      | (with_reducible exact LeO.none _)
      | (with_reducible refine LeO.ite ?_ ?_)
      | (with_reducible refine LeO.bind ?_ (fun _ => ?_))
      | exact ih0 _
      | exact spec_runeLength.mono _ _
      | exact LeO.none _
      | refine LeO.ite ?_ ?_
      | refine LeO.bind ?_ (fun _ => ?_)
theorem spec_IsText.mono : ∀ a0 k, LeO (spec_IsText.f k a0) (spec_IsText.f (k + 1) a0) := by
  intro a0 k
  have ih0 := spec_IsText.mono_l k
  unfold spec_IsText.f
  repeat' first
      | (with_reducible exact ih0 _)
      | (with_reducible exact spec_runeLength.mono _ _)
      | (with_reducible exact LeO.refl _)
      | (with_reducible exact LeO.none _)
      | (with_reducible refine LeO.ite ?_ ?_)
      | (with_reducible refine LeO.bind ?_ (fun _ => ?_))
      | exact ih0 _
      | exact spec_runeLength.mono _ _
      | exact LeO.none _
      | refine LeO.ite ?_ ?_
      | refine LeO.bind ?_ (fun _ => ?_)
set_option maxHeartbeats 8000000 in
set_option maxRecDepth 100000 in
theorem spec_IsText.calls (k : Nat) (a0 : ByteArray) (r : Bool) (w : World) (h : spec_IsText.f k a0 = some r) :
    Calls Tryd.prog 10 #[.string a0] w fun e w' => e = .returned (.bool r) ∧ Drawn0 w w' := by
  have H : (spec_IsText.l0 k a0) = some r := h
  clear h
  have H' := Aside0.mk H
  clear H
  go_enter Tryd.func10, Tryd.ntmps10
  go_wp2
  go_loopg [0] k (fun kq v0 w' => ∃ (x0_1 : ByteArray), v0 = .string x0_1 ∧ Aside0 (spec_IsText.l0 kq x0_1 = some r) ∧ Aside0 (kq ≤ k) ∧ Drawn0 w w')
  case atStart => exact ⟨(a0), (by first | rfl | (simp; done) | (simp [*]; done)), H', ⟨Nat.le_refl _⟩, by repeat (first | exact Drawn0.refl _ | apply Drawn0.step)⟩
  case round =>
    clear H'
    try clear c1
    obtain ⟨x0_1, rfl, HA, HK1, ⟨m1, rfl⟩⟩ := hrel
    cases gk with
    | zero => exact absurd HA.out (by simp [spec_IsText.l0])
    | succ k1 =>
      have H := HA.out
      clear HA
      simp only [spec_IsText.l0] at H
      by_cases c2 : x0_1.toList = ([] : List UInt8)
      · rw [if_pos c2] at H
        have c2b0 : (x0_1.toList == ([] : List UInt8)) = true := beq_iff_eq.mpr c2
        have c2b1 : (x0_1.toList != ([] : List UInt8)) = false := bne_eq_false_iff_eq.mpr c2
        clear c2
        obtain rfl := Option.some.inj H
        go_wp2
        go_ret
        exact ⟨by first | rfl | (simp; done) | (simp [*]; done), by repeat (first | exact Drawn0.refl _ | apply Drawn0.step)⟩
      · rw [if_neg c2] at H
        have c2b0 : (x0_1.toList == ([] : List UInt8)) = false := beq_eq_false_iff_ne.mpr c2
        have c2b1 : (x0_1.toList != ([] : List UInt8)) = true := bne_iff_ne.mpr c2
        replace H := Option.bind_eq_some_iff.mp H
        obtain ⟨t102, A30, H⟩ := H
        replace H : (if t102 = 0 then (some false) else (if 0 ≤ t102 then (if t102 ≤ (x0_1.size : Int) then (spec_IsText.l0 k1 (x0_1.extract (t102 : Int).toNat x0_1.size)) else (none)) else (none))) = some r := H
        have A3 := Aside0.mk A30
        clear A30
        by_cases c4 : t102 = 0
        · rw [if_pos c4] at H
          have c4b0 : (t102 == 0) = true := beq_iff_eq.mpr c4
          have c4b1 : (t102 != 0) = false := bne_eq_false_iff_eq.mpr c4
          clear c4
          obtain rfl := Option.some.inj H
          go_wp2_with (first | ((with_reducible refine gate_callee (f := 19) rfl ?_); refine goesL_ (some 7) rfl rfl Tryd.func19 (by kernel_rfl) rfl #[.string x0_1] rfl (by (try simp only [List.map_toArray, List.map_cons, List.map_nil]); first | done | rfl | (simp only [List.length_drop, List.length_take]; rfl)) ?_; (with_reducible refine (spec_runeLength.calls k1 x0_1 t102 _ A3.out).mono ?_); rintro e w' ⟨rfl, ⟨nd, rfl⟩⟩; refine ⟨_, rfl, ?_⟩))
          go_ret
          exact ⟨by first | rfl | (simp; done) | (simp [*]; done), by repeat (first | exact Drawn0.refl _ | apply Drawn0.step)⟩
        · rw [if_neg c4] at H
          have c4b0 : (t102 == 0) = false := beq_eq_false_iff_ne.mpr c4
          have c4b1 : (t102 != 0) = true := bne_iff_ne.mpr c4
          by_cases c5 : 0 ≤ t102
          · rw [if_pos c5] at H
            have c5b0 := eq_true c5
            have c5b1 : decide (0 ≤ t102) = true := decide_eq_true c5
            clear c5
            by_cases c6 : t102 ≤ (x0_1.size : Int)
            · rw [if_pos c6] at H
              have c6b0 := eq_true c6
              have c6b1 : decide (t102 ≤ (x0_1.size : Int)) = true := decide_eq_true c6
              clear c6
              have H' := Aside0.mk H
              clear H
              go_wp2_with (first | ((with_reducible refine gate_callee (f := 19) rfl ?_); refine goesL_ (some 7) rfl rfl Tryd.func19 (by kernel_rfl) rfl #[.string x0_1] rfl (by (try simp only [List.map_toArray, List.map_cons, List.map_nil]); first | done | rfl | (simp only [List.length_drop, List.length_take]; rfl)) ?_; (with_reducible refine (spec_runeLength.calls k1 x0_1 t102 _ A3.out).mono ?_); rintro e w' ⟨rfl, ⟨nd, rfl⟩⟩; refine ⟨_, rfl, ?_⟩))
              go_roundg k1
              case measure => have := HK1.out; omega
              case rel => exact ⟨(x0_1.extract (t102 : Int).toNat x0_1.size), (by first | rfl | (simp; done) | (simp [*]; done)), H', ⟨by have := HK1.out; omega⟩, by repeat (first | exact Drawn0.refl _ | apply Drawn0.step)⟩
            · rw [if_neg c6] at H
              exact absurd H (by simp)
          · rw [if_neg c5] at H
            exact absurd H (by simp)

-- NOT PRINTED: function 25 (jsontext_decodeBuffer_previousOffsetStart)

-- NOT PRINTED: function 26 (jsontext_Kind_normalize)

-- NOT PRINTED: function 16 (jsontext_Token_Kind)

-- NOT PRINTED: function 34 (jsontext_decodeBuffer_previousBuffer)

-- NOT PRINTED: function 35 (jsontext_internal_jsonwire_ConsumeSimpleString)

-- NOT PRINTED: function 47 (slices_Grow_byte_byte)

-- NOT PRINTED: function 64 (utf8_decodeRuneSlow)

-- NOT PRINTED: function 50 (utf8_DecodeRune)

-- NOT PRINTED: function 48 (jsontext_internal_jsonwire_NewInvalidCharacterError_byte)

end Go.Proofs.YtokkjljncoiajaaDoor.PFnStringToken
