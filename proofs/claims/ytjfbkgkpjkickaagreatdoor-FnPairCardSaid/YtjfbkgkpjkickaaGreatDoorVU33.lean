/- The texts of a proof, its declarations alone: part 33. -/
import Derived.WalkSpells
import Derived.Test.YtjfbkgkpjkickaaGreatDoorVU31
set_option linter.unusedVariables false
set_option linter.unusedSimpArgs false
-- YtjfbkgkpjkickaaGreatDoorMd
set_option linter.unusedVariables false
set_option linter.unusedSimpArgs false
namespace Go.Proofs.YtjfbkgkpjkickaaGreatDoor.PAll
open Go.RowKit Go.Proofs.YtjfbkgkpjkickaaGreatDoorW.PrintWords Go.Proofs.YtjfbkgkpjkickaaGreatDoorW.PrintLast Go.Proofs.YtjfbkgkpjkickaaGreatDoorW.PrintMore

abbrev escB : ByteArray := ⟨#[34, 92, 47, 98, 102, 110, 114, 116]⟩
theorem bytesOf_extract1 (s : ByteArray) (a : Nat) (h : a < s.size) : bytesOf (s.extract a (a + 1)) = [bt s (a : Int)] := by
  unfold bytesOf
  rw [ByteArray.data_extract, Array.toList_extract, List.extract_eq_take_drop, show a + 1 - a = 1 by omega]
  have hl : a < s.data.toList.length := by rw [Array.length_toList]; exact h
  rw [List.drop_eq_getElem_cons hl]
  simp only [List.take_succ_cons, List.take_zero, List.map_cons, List.map_nil]
  unfold bt
  rw [dif_pos (by simpa using h)]
  rfl
theorem evr_esc (s : ByteArray) (a : Nat) (h : a < s.size) : evr (s.extract a (a + 1)) escB = decide (isEsc (bt s (a : Int))) := by
  unfold evr
  rw [bytesOf_extract1 s a h, List.all_cons, List.all_nil, Bool.and_true]
  rw [show bytesOf escB = [34, 92, 47, 98, 102, 110, 114, 116] from rfl]
  unfold isEsc
  simp only [List.any_cons, List.any_nil, Bool.or_false]
  rw [Bool.eq_iff_iff]
  simp only [Bool.or_eq_true, beq_iff_eq]
  exact decide_eq_true_iff.symm
theorem lw_nil (f : Bool) : lw f [] = some f := by unfold lw; rfl
theorem lw_step (f : Bool) (l : List Int) (i : Nat) (h : i < l.length) :
    lw f (l.drop i) = if rd l (i : Int) < 32 ∨ 126 < rd l (i : Int) ∨ (rd l (i : Int) = 92 ∧ i + 1 < l.length ∧ rd l ((i + 1 : Nat) : Int) = 117) then none
      else if rd l (i : Int) = 92 then lw (f && decide (i + 1 < l.length ∧ isEsc (rd l ((i + 1 : Nat) : Int)))) (l.drop (i + 2)) else lw (f && decide (rd l (i : Int) ≠ 34)) (l.drop (i + 1)) := by
  rw [drop_cons l i h]
  by_cases h2 : i + 1 < l.length
  · rw [drop_cons l (i + 1) h2]
    show (if rd l (i : Int) < 32 ∨ 126 < rd l (i : Int) ∨ (rd l (i : Int) = 92 ∧ rd l ((i + 1 : Nat) : Int) = 117) then none else if rd l (i : Int) = 92 then lw (f && decide (isEsc (rd l ((i + 1 : Nat) : Int)))) (l.drop (i + 1 + 1)) else lw (f && decide (rd l (i : Int) ≠ 34)) (rd l ((i + 1 : Nat) : Int) :: l.drop (i + 1 + 1))) = _
    simp only [h2, true_and]
  · rw [List.drop_of_length_le (show l.length ≤ i + 1 by omega), List.drop_of_length_le (show l.length ≤ i + 2 by omega)]
    show (if rd l (i : Int) < 32 ∨ 126 < rd l (i : Int) then none else if rd l (i : Int) = 92 then some false else some (f && decide (rd l (i : Int) ≠ 34))) = _
    simp only [h2, false_and, and_false, or_false, decide_false, Bool.and_false, lw_nil]
set_option maxRecDepth 100000 in
set_option maxHeartbeats 8000000 in
theorem w13 (s : ByteArray) (hs : s.size ≤ 9223372036854775807) (w : World) (V : Bool → Bool → List Int → Prop) (hV : ∀ d l, V d false (34 :: (l ++ [34])) ↔ strS true 0 (l ++ [34]) = some (l.length + 1)) (HI : Isv V w) :
    Calls Tryz.prog 13 #[.string s] w (Law w) := by
  have C20 := Lib.hid (f20 s w)
  by_cases hbig : s.size > 2147483647
  · have d1 : decide ((2147483647 : Int) < (s.size : Int)) = true := decide_eq_true (by omega)
    have d2 : decide (2147483647 < s.size) = true := decide_eq_true hbig
    clear hV HI
    go_enter Tryz.func13, Tryz.ntmps13
    go_wp2_with (fail)
    go_returns
    exact ⟨rfl, Below.refl _ _⟩
  have d1 : decide ((2147483647 : Int) < (s.size : Int)) = false := decide_eq_false (by omega)
  have d2 : decide (2147483647 < s.size) = false := decide_eq_false hbig
  by_cases h5 : s.size ≤ 1000
  · rw [decide_eq_true h5] at C20
    have H16 := Lib.hid (fun (W : World) (x : ByteArray) (hW : Below w.heap.size w W) (hx : bytesOf x = 34 :: (bytesOf s ++ [34])) => (show Calls Tryz.prog 16 #[.string x, optsV false false] W (IsV (V false false (34 :: (bytesOf s ++ [34]))) W) from hx ▸ HI false false x W hW (by have := congrArg List.length hx; rw [bytesOf_length] at this; simp [bytesOf_length] at this; omega) (by rw [hx]; intro b hb; simp at hb; subst hb; decide)))
    have HV := Lib.hid (hV false (bytesOf s))
    clear hV HI
    go_enter Tryz.func13, Tryz.ntmps13
    go_wp2_with (fail)
    refine C20.out.mono ?_
    rintro e w1 ⟨rfl, hb1⟩
    have HB1 := Lib.hid hb1
    clear hb1
    go_wp2_with (fail)
    go_loopg [3, 4] (s.size + 2) (fun kq v3 v4 w' => ∃ (i : Nat) (f : Bool), v3 = .bool f ∧ v4 = .int .i64 i ∧ i ≤ s.size + 1 ∧ s.size + 2 ≤ kq + i ∧ Hid (lw true (bytesOf s) = lw f ((bytesOf s).drop i)) ∧ Hid (Below w.heap.size w w'))
    case atStart => exact ⟨0, true, rfl, rfl, by omega, by omega, Lib.hid rfl, HB1⟩
    case round => as_aux_lemma =>
      obtain ⟨i, f, rfl, rfl, hi, hk, HL, HB⟩ := hrel
      by_cases hlt : i < s.size
      · have q1 : decide ((i : Int) < (s.size : Int)) = true := decide_eq_true (by omega)
        have q2 : decide (i < s.size) = true := decide_eq_true hlt
        have hst := lw_step f (bytesOf s) i (by rw [bytesOf_length]; exact hlt)
        rw [rd_bytesOf, rd_bytesOf, bytesOf_length] at hst
        obtain ⟨c, hc⟩ : ∃ c, ((s[i]'hlt).toNat : Int) = c := ⟨_, rfl⟩
        have hcb : bt s (i : Int) = c := by rw [← hc]; unfold bt; rw [dif_pos (by simpa using hlt)]; simp
        have hcr : 0 ≤ c ∧ c ≤ 255 := by rw [← hcb]; exact bt_range s _
        rw [hcb] at hst
        by_cases a1 : c < 32
        · have e1 : decide (c < 32) = true := decide_eq_true a1
          clear hst
          go_wp2_with (fail)
          go_returns
          exact ⟨rfl, HB.out⟩
        have e1 : decide (c < 32) = false := decide_eq_false a1
        by_cases a2 : 126 < c
        · have e2 : decide (126 < c) = true := decide_eq_true a2
          clear hst
          go_wp2_with (fail)
          go_returns
          exact ⟨rfl, HB.out⟩
        have e2 : decide (126 < c) = false := decide_eq_false a2
        by_cases a3 : c = 92
        · subst a3
          by_cases hl2 : i + 1 < s.size
          · have q3 : decide ((i : Int) + 1 < (s.size : Int)) = true := decide_eq_true (by omega)
            have q4 : decide (i + 1 < s.size) = true := decide_eq_true hl2
            obtain ⟨d, hd⟩ : ∃ d, ((s[i + 1]'hl2).toNat : Int) = d := ⟨_, rfl⟩
            have hdb : bt s ((i + 1 : Nat) : Int) = d := by rw [← hd]; unfold bt; rw [dif_pos (by simpa using hl2)]; simp
            rw [hdb] at hst
            by_cases a4 : d = 117
            · have e4 : (d == 117) = true := by rw [beq_iff_eq]; exact a4
              clear hst
              go_wp2_with (fail)
              go_returns
              exact ⟨rfl, HB.out⟩
            · have e4 : (d == 117) = false := by rw [beq_eq_false_iff_ne]; exact a4
              rw [if_neg (by omega), if_pos rfl] at hst
              have HST := Lib.hid (HL.out.trans hst)
              clear hst
              cases f with
              | false =>
                rw [Bool.false_and] at HST
                go_wp2_with (fail)
                go_roundg (gk - 1)
                case measure => omega
                case rel => exact ⟨i + 2, false, rfl, by first | rfl | go_num, by omega, by omega, HST, HB⟩
              | true =>
                obtain ⟨k, hkk⟩ := every8_ev (s.extract (i + 1) (i + 1 + 1)) escB (by rw [← bytesOf_length, bytesOf_extract1 s (i + 1) hl2]; simp) (by decide)
                rw [evr_esc s (i + 1) hl2, hdb] at hkk
                have C22 := Lib.hid (fun W => laws_every8.calls k _ _ _ W hkk)
                rw [Bool.true_and, show decide (i + 1 < s.size ∧ isEsc d) = decide (isEsc d) by simp [hl2]] at HST
                clear hkk
                generalize decide (isEsc d) = g at *
                go_wp2_with (fail)
                refine (C22.out _).mono ?_
                rintro e w2 ⟨rfl, hdr⟩
                have HB2 := Lib.hid (HB.out.trans (hdr.below.mono HB.out.size))
                clear hdr
                cases g with
                | false =>
                  go_wp2_with (fail)
                  go_roundg (gk - 1)
                  case measure => omega
                  case rel => exact ⟨i + 2, false, rfl, by first | rfl | go_num, by omega, by omega, HST, HB2⟩
                | true =>
                  go_wp2_with (fail)
                  go_roundg (gk - 1)
                  case measure => omega
                  case rel => exact ⟨i + 2, true, rfl, by first | rfl | go_num, by omega, by omega, HST, HB2⟩
          · have q3 : decide ((i : Int) + 1 < (s.size : Int)) = false := decide_eq_false (by omega)
            have q4 : decide (i + 1 < s.size) = false := decide_eq_false hl2
            rw [if_neg (by omega), if_pos rfl, decide_eq_false (show ¬ (i + 1 < s.size ∧ isEsc (bt s ((i + 1 : Nat) : Int))) from fun h => hl2 h.1), Bool.and_false] at hst
            have HST := Lib.hid (HL.out.trans hst)
            clear hst
            cases f with
            | false =>
              go_wp2_with (fail)
              go_roundg (gk - 1)
              case measure => omega
              case rel => exact ⟨i + 2, false, rfl, by first | rfl | go_num, by omega, by omega, HST, HB⟩
            | true =>
              go_wp2_with (fail)
              go_roundg (gk - 1)
              case measure => omega
              case rel => exact ⟨i + 2, false, rfl, by first | rfl | go_num, by omega, by omega, HST, HB⟩
        · have e3 : (c == 92) = false := by rw [beq_eq_false_iff_ne]; exact a3
          rw [if_neg (by omega), if_neg a3] at hst
          have HST := Lib.hid (HL.out.trans hst)
          clear hst
          by_cases a4 : c = 34
          · have e4 : (c != 34) = false := by rw [bne_eq_false_iff_eq]; exact a4
            rw [decide_eq_false (show ¬ (c ≠ 34) from fun h => h a4), Bool.and_false] at HST
            clear a4
            cases f <;>
            · go_wp2_with (fail)
              go_roundg (gk - 1)
              case measure => omega
              case rel => exact ⟨i + 1, false, rfl, by first | rfl | go_num, by omega, by omega, HST, HB⟩
          · have e4 : (c != 34) = true := by rw [bne_iff_ne]; exact a4
            rw [decide_eq_true a4, Bool.and_true] at HST
            cases f with
            | false =>
              go_wp2_with (fail)
              go_roundg (gk - 1)
              case measure => omega
              case rel => exact ⟨i + 1, false, rfl, by first | rfl | go_num, by omega, by omega, HST, HB⟩
            | true =>
              go_wp2_with (fail)
              go_roundg (gk - 1)
              case measure => omega
              case rel => exact ⟨i + 1, true, rfl, by first | rfl | go_num, by omega, by omega, HST, HB⟩
      · have q1 : decide ((i : Int) < (s.size : Int)) = false := decide_eq_false (by omega)
        have q2 : decide (i < s.size) = false := decide_eq_false hlt
        have hl0 : lw true (bytesOf s) = some f := by rw [HL.out, List.drop_of_length_le (by rw [bytesOf_length]; omega), lw_nil]
        have HF := Lib.hid ((lw_iff _ (bytesOf s) true f (Nat.le_refl _) hl0).trans (by simp : (true = true ∧ strS true 0 (bytesOf s ++ [34]) = some ((bytesOf s).length + 1)) ↔ strS true 0 (bytesOf s ++ [34]) = some ((bytesOf s).length + 1)))
        clear hl0
        go_wp2_with (fail)
        refine (H16.out _ _ HB.out ?hx).mono ?_
        case hx => rw [bytesOf_append, bytesOf_append]; rfl
        rintro e w2 ⟨r, rfl, hr, hb⟩
        obtain rfl : r = f := Bool.eq_iff_iff.2 ((hr.trans HV.out).trans HF.out.symm)
        have HB2 := Lib.hid (HB.out.trans (hb.mono HB.out.size))
        clear hr hb
        have hrr : (r == r) = true := beq_self_eq_true r
        go_wp2_with (fail)
        go_returns
        exact ⟨rfl, HB2.out⟩
  · rw [decide_eq_false h5] at C20
    clear hV HI
    go_enter Tryz.func13, Tryz.ntmps13
    go_wp2_with (fail)
    refine C20.out.mono ?_
    rintro e w1 ⟨rfl, hb1⟩
    have HB1 := Lib.hid hb1
    clear hb1
    go_wp2_with (fail)
    go_returns
    exact ⟨rfl, HB1.out⟩
end Go.Proofs.YtjfbkgkpjkickaaGreatDoor.PAll
