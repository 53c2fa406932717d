/- The texts of a proof, its declarations alone: part 29. -/
import Derived.Test.YtjfbkgkpjkickaaGreatDoorVU13
set_option linter.unusedVariables false
set_option linter.unusedSimpArgs false
-- YtjfbkgkpjkickaaGreatDoorMb
set_option linter.unusedVariables false
set_option linter.unusedSimpArgs false
namespace Go.Proofs.YtjfbkgkpjkickaaGreatDoor.PAll
open Go.RowKit Go.Proofs.YtjfbkgkpjkickaaGreatDoorW.PrintWords Go.Proofs.YtjfbkgkpjkickaaGreatDoorW.PrintLast Go.Proofs.YtjfbkgkpjkickaaGreatDoorW.PrintMore

abbrev numsB : ByteArray := ⟨#[48, 49, 50, 51, 52, 53, 54, 55, 56, 57, 43, 45, 46, 101, 69]⟩
theorem nums_bd (b : Int) (h : (bytesOf numsB).any (fun c => b == c) = true) : isD b ∨ b = 43 ∨ b = 45 ∨ b = 46 ∨ b = 101 ∨ b = 69 := by
  obtain ⟨c, hc, he⟩ := List.any_eq_true.1 h
  have e := beq_iff_eq.1 he
  subst e
  have : ∀ x ∈ bytesOf numsB, isD x ∨ x = 43 ∨ x = 45 ∨ x = 46 ∨ x = 101 ∨ x = 69 := by decide +kernel
  exact this b hc
/-- whether a text is short enough -/
theorem f20 (s : ByteArray) (w : World) : Calls Tryz.prog 20 #[.slice (some ⟨w.heap.size, 0, none⟩) 1 1] (w.alloc (.cells #[.string s] 9)) fun e w' => e = .returned (.bool (decide (s.size ≤ 1000))) ∧ Below w.heap.size w w' := by
  obtain ⟨k, hk⟩ := fits8_ev s
  refine (laws_fits8.calls k (some ⟨w.heap.size, 0, none⟩) 1 [s] _ (w.alloc (.cells #[.string s] 9)) ?_ (Nat.le_refl _) hk).mono fun e w' ⟨h1, h2⟩ => ⟨h1, (below_alloc (Below.refl _ _) _).trans (h2.below.mono (by simp))⟩
  refine Kd.C_of_reads (enc := Value.string) (d := ByteArray.empty) (h1 := fun _ => rfl) ⟨rfl, by simp, fun _ => ⟨_, rfl, fun j hj => ?_⟩⟩
  have hj0 : j = 0 := by simpa using hj
  subst hj0
  exact cell_one_new w (.string s) 9 0 _ rfl
set_option maxRecDepth 100000 in
set_option maxHeartbeats 4000000 in
theorem w10 (s : ByteArray) (hs : s.size ≤ 9223372036854775807) (w : World) (V : Bool → Bool → List Int → Prop) (hV : ∀ d i l, (∀ b ∈ l, isD b ∨ b = 43 ∨ b = 45 ∨ b = 46 ∨ b = 101 ∨ b = 69) → (V d i l ↔ nrun 0 l = true)) (HI : Isv V w) :
    Calls Tryz.prog 10 #[.string s] w (Law w) := by
  have C20 := Lib.hid (f20 s w)
  by_cases hbig : s.size > 2147483647
  · have d1 : decide ((2147483647 : Int) < (s.size : Int)) = true := decide_eq_true (by omega)
    have d2 : decide (2147483647 < s.size) = true := decide_eq_true hbig
    clear hV HI
    go_enter Tryz.func10, Tryz.ntmps10
    go_wp2_with (fail)
    go_returns
    exact ⟨rfl, Below.refl _ _⟩
  · have d1 : decide ((2147483647 : Int) < (s.size : Int)) = false := decide_eq_false (by omega)
    have d2 : decide (2147483647 < s.size) = false := decide_eq_false hbig
    by_cases h5 : s.size ≤ 1000
    · rw [decide_eq_true h5] at C20
      obtain ⟨k, hk⟩ := every8_ev s numsB (by omega) (by decide)
      have C22 := Lib.hid (fun W => laws_every8.calls k s numsB (evr s numsB) W hk)
      obtain ⟨r, hr⟩ : ∃ r, evr s numsB = r := ⟨_, rfl⟩
      rw [hr] at C22
      cases r with
      | false =>
        clear hV HI hr hk
        go_enter Tryz.func10, Tryz.ntmps10
        go_wp2_with (fail)
        refine C20.out.mono ?_
        rintro e w1 ⟨rfl, hb1⟩
        have HB1 := Lib.hid hb1
        clear hb1
        go_wp2_with (fail)
        refine (C22.out _).mono ?_
        rintro e w2 ⟨rfl, hd⟩
        have HB := Lib.hid (HB1.out.trans (hd.below.mono HB1.out.size))
        clear hd
        go_wp2_with (fail)
        go_returns
        exact ⟨rfl, HB.out⟩
      | true =>
        have hl : ∀ b ∈ bytesOf s, isD b ∨ b = 43 ∨ b = 45 ∨ b = 46 ∨ b = 101 ∨ b = 69 := fun b hb => nums_bd b (evr_all hr b hb)
        have H16 := Lib.hid (fun (W : World) (hW : Below w.heap.size w W) => HI false false s W hW (by omega) (fun b hb => by
          have := hl b (List.mem_of_mem_head? hb)
          unfold isD at this
          refine ⟨by omega, by omega, ?_⟩
          unfold isW
          simp only [Bool.or_eq_false_iff, beq_eq_false_iff_ne]
          omega))
        have HV := Lib.hid (hV false false (bytesOf s) hl)
        obtain ⟨k2, hk2⟩ := number8_ev s (by omega)
        have C23 := Lib.hid (fun W => laws_number8.calls k2 s (nrun 0 (bytesOf s)) W hk2)
        clear hV HI hr hk hl hk2
        go_enter Tryz.func10, Tryz.ntmps10
        go_wp2_with (fail)
        refine C20.out.mono ?_
        rintro e w1 ⟨rfl, hb1⟩
        have HB1 := Lib.hid hb1
        clear hb1
        go_wp2_with (fail)
        refine (C22.out _).mono ?_
        rintro e w2 ⟨rfl, hd⟩
        have HB := Lib.hid (HB1.out.trans (hd.below.mono HB1.out.size))
        clear hd
        have C := Lib.hid (H16.out w2 HB.out)
        unfold optsV at C
        go_wp2_with (fail)
        refine C.out.mono ?_
        rintro e w3 ⟨r, rfl, hr, hb⟩
        have hr2 : r = nrun 0 (bytesOf s) := Bool.eq_iff_iff.2 (hr.trans HV.out)
        have HB2 := Lib.hid (HB.out.trans (hb.mono HB.out.size))
        clear hr hb
        subst hr2
        generalize nrun 0 (bytesOf s) = r at *
        go_wp2_with (fail)
        refine (C23.out _).mono ?_
        rintro e w4 ⟨rfl, hd⟩
        have HB3 := Lib.hid (HB2.out.trans (hd.below.mono HB2.out.size))
        clear hd
        have hrr : (r == r) = true := beq_self_eq_true r
        go_wp2_with (fail)
        go_returns
        exact ⟨rfl, HB3.out⟩
    · rw [decide_eq_false h5] at C20
      clear hV HI
      go_enter Tryz.func10, Tryz.ntmps10
      go_wp2_with (fail)
      refine C20.out.mono ?_
      rintro e w1 ⟨rfl, hb1⟩
      have HB1 := Lib.hid hb1
      clear hb1
      go_wp2_with (fail)
      go_returns
      exact ⟨rfl, HB1.out⟩
end Go.Proofs.YtjfbkgkpjkickaaGreatDoor.PAll
