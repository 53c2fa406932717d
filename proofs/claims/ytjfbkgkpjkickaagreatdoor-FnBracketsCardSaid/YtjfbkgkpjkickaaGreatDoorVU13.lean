/- The texts of a proof, its declarations alone: part 13. -/
import Derived.Test.YtjfbkgkpjkickaaGreatDoorVU9
import Derived.Test.YtjfbkgkpjkickaaGreatDoorVU12
set_option linter.unusedVariables false
set_option linter.unusedSimpArgs false
-- YtjfbkgkpjkickaaGreatDoorMa
set_option linter.unusedVariables false
set_option linter.unusedSimpArgs false
namespace Go.Proofs.YtjfbkgkpjkickaaGreatDoor.PAll
open Go.RowKit Go.Proofs.YtjfbkgkpjkickaaGreatDoorW.PrintWords Go.Proofs.YtjfbkgkpjkickaaGreatDoorW.PrintLast Go.Proofs.YtjfbkgkpjkickaaGreatDoorW.PrintMore

/-- IsValid, whatever it means -/
def Isv (V : Bool → Bool → List Int → Prop) (w : World) : Prop := ∀ (d i : Bool) (x : ByteArray) (W : World), Below w.heap.size w W → x.size ≤ 4000000000 → (∀ b ∈ (bytesOf x).head?, b ≠ 91 ∧ b ≠ 123 ∧ isW b = false) → Calls Tryz.prog 16 #[.string x, optsV d i] W (IsV (V d i (bytesOf x)) W)
/-- a law that holds -/
def Law (w : World) (e : Ending) (w' : World) : Prop := e = .returned (.bool true) ∧ Below w.heap.size w w'
abbrev lettersB : ByteArray := ⟨#[97, 98, 99, 100, 101, 102, 103, 104, 105, 106, 107, 108, 109, 110, 111, 112, 113, 114, 115, 116, 117, 118, 119, 120, 121, 122]⟩
theorem letters_bd (b : Int) (h : (bytesOf lettersB).any (fun c => b == c) = true) : 97 ≤ b ∧ b ≤ 122 := by
  obtain ⟨c, hc, he⟩ := List.any_eq_true.1 h
  have e := beq_iff_eq.1 he
  subst e
  have : ∀ x ∈ bytesOf lettersB, 97 ≤ x ∧ x ≤ 122 := by decide +kernel
  exact this b hc
theorem evr_all {x y : ByteArray} (h : evr x y = true) : ∀ b ∈ bytesOf x, (bytesOf y).any (fun c => b == c) = true := List.all_eq_true.1 h
theorem tl (s : ByteArray) (l : List UInt8) (m : List Int) (hm : m = l.map fun b => (b.toNat : Int)) : (s.toList == l) = decide (bytesOf s = m) := by
  subst hm
  by_cases h : s.toList = l
  · rw [beq_iff_eq.2 h, decide_eq_true]
    rw [← h, ByteArray.toList_eq]; rfl
  · rw [beq_eq_false_iff_ne.2 h, decide_eq_false]
    intro e
    refine h ?_
    rw [ByteArray.toList_eq]
    unfold bytesOf at e
    exact (List.map_inj_right (fun a b e => UInt8.toNat_inj.1 (by omega))).1 e
set_option maxRecDepth 100000 in
set_option maxHeartbeats 4000000 in
theorem w14 (s : ByteArray) (hs : s.size ≤ 9223372036854775807) (w : World) (V : Bool → Bool → List Int → Prop) (hV : ∀ d i l, (∀ b ∈ l, 97 ≤ b ∧ b ≤ 122) → (V d i l ↔ l = [110, 117, 108, 108] ∨ l = [116, 114, 117, 101] ∨ l = [102, 97, 108, 115, 101])) (HI : Isv V w) :
    Calls Tryz.prog 14 #[.string s] w (Law w) := by
  by_cases hbig : s.size > 2147483647
  · have d1 : decide ((2147483647 : Int) < (s.size : Int)) = true := decide_eq_true (by omega)
    have d2 : decide (2147483647 < s.size) = true := decide_eq_true hbig
    clear hV HI
    go_enter Tryz.func14, Tryz.ntmps14
    go_wp2_with (fail)
    go_returns
    exact ⟨rfl, Below.refl _ _⟩
  · by_cases h5 : s.size > 5
    · have d1 : decide ((2147483647 : Int) < (s.size : Int)) = false := decide_eq_false (by omega)
      have d2 : decide (2147483647 < s.size) = false := decide_eq_false hbig
      have d3 : decide ((5 : Int) < (s.size : Int)) = true := decide_eq_true (by omega)
      have d4 : decide (5 < s.size) = true := decide_eq_true h5
      clear hV HI
      go_enter Tryz.func14, Tryz.ntmps14
      go_wp2_with (fail)
      go_returns
      exact ⟨rfl, Below.refl _ _⟩
    · have d1 : decide ((2147483647 : Int) < (s.size : Int)) = false := decide_eq_false (by omega)
      have d2 : decide (2147483647 < s.size) = false := decide_eq_false hbig
      have d3 : decide ((5 : Int) < (s.size : Int)) = false := decide_eq_false (by omega)
      have d4 : decide (5 < s.size) = false := decide_eq_false h5
      obtain ⟨k, hk⟩ := every8_ev s lettersB (by omega) (by decide)
      have C22 := Lib.hid (laws_every8.calls k s lettersB (evr s lettersB) w hk)
      obtain ⟨r, hr⟩ : ∃ r, evr s lettersB = r := ⟨_, rfl⟩
      rw [hr] at C22
      cases r with
      | false =>
        clear hV HI hr hk
        go_enter Tryz.func14, Tryz.ntmps14
        go_wp2_with (fail)
        refine C22.out.mono ?_
        rintro e w1 ⟨rfl, hd⟩
        have HB := Lib.hid hd.below
        clear hd
        go_wp2_with (fail)
        go_returns
        exact ⟨rfl, HB.out⟩
      | true =>
        have hl : ∀ b ∈ bytesOf s, 97 ≤ b ∧ b ≤ 122 := fun b hb => letters_bd b (evr_all hr b hb)
        have H16 := Lib.hid (fun (W : World) (hW : Below w.heap.size w W) => HI false false s W hW (by omega) (fun b hb => by
          have := hl b (List.mem_of_mem_head? hb)
          refine ⟨by omega, by omega, ?_⟩
          unfold isW
          simp only [Bool.or_eq_false_iff, beq_eq_false_iff_ne]
          omega))
        have HV := Lib.hid (hV false false (bytesOf s) hl)
        clear hV HI hr hk hl
        go_enter Tryz.func14, Tryz.ntmps14
        go_wp2_with (fail)
        refine C22.out.mono ?_
        rintro e w1 ⟨rfl, hd⟩
        have HB := Lib.hid hd.below
        clear hd
        have C := Lib.hid (H16.out w1 HB.out)
        unfold optsV at C
        go_wp2_with (fail)
        refine C.out.mono ?_
        rintro e w2 ⟨r, rfl, hr, hb⟩
        have HR := Lib.hid (hr.trans HV.out)
        have HB2 := Lib.hid (HB.out.trans (hb.mono HB.out.size))
        clear hr hb
        have t1 := tl s [110, 117, 108, 108] [110, 117, 108, 108] rfl
        have t2 := tl s [116, 114, 117, 101] [116, 114, 117, 101] rfl
        have t3 := tl s [102, 97, 108, 115, 101] [102, 97, 108, 115, 101] rfl
        have hr2 : r = (decide (bytesOf s = [110, 117, 108, 108]) || decide (bytesOf s = [116, 114, 117, 101]) || decide (bytesOf s = [102, 97, 108, 115, 101])) := by
          rw [Bool.eq_iff_iff, HR.out]
          simp [or_assoc]
        clear HR
        cases h1 : decide (bytesOf s = [110, 117, 108, 108]) <;> cases h2 : decide (bytesOf s = [116, 114, 117, 101]) <;> cases h3 : decide (bytesOf s = [102, 97, 108, 115, 101])
        all_goals
          rw [h1] at t1 hr2
          rw [h2] at t2 hr2
          rw [h3] at t3 hr2
          simp only [Bool.or_true, Bool.true_or, Bool.or_false, Bool.false_or] at hr2
          subst hr2
          clear h1 h2 h3
          go_wp2_with (fail)
          go_returns
          exact ⟨rfl, HB2.out⟩
end Go.Proofs.YtjfbkgkpjkickaaGreatDoor.PAll
