/- The texts of a proof, its declarations alone: part 5. -/
import Derived.Test.YtjfbkgkpjkickaaGreatDoorVU2
import Derived.Test.YtjfbkgkpjkickaaGreatDoorVU3
import Derived.Test.YtjfbkgkpjkickaaGreatDoorVU4
import Derived.Test.YtjfbkgkpjkickaaGreatDoorVU5
import Derived.Test.YtjfbkgkpjkickaaGreatDoorVU6
import Derived.Test.YtjfbkgkpjkickaaGreatDoorVU7
import Derived.Test.YtjfbkgkpjkickaaGreatDoorVU8
import Derived.Test.YtjfbkgkpjkickaaGreatDoorVU9
import Derived.Test.YtjfbkgkpjkickaaGreatDoorVU10
import Derived.Test.YtjfbkgkpjkickaaGreatDoorVU11
import Derived.Test.YtjfbkgkpjkickaaGreatDoorVU12
import Derived.Test.YtjfbkgkpjkickaaGreatDoorVU13
import Derived.Test.YtjfbkgkpjkickaaGreatDoorVE2
import Derived.Test.YtjfbkgkpjkickaaGreatDoorVE4
set_option linter.unusedVariables false
set_option linter.unusedSimpArgs false
-- YtjfbkgkpjkickaaGreatDoorEf
set_option linter.unusedVariables false
set_option linter.unusedSimpArgs false
namespace Go.Proofs.YtjfbkgkpjkickaaGreatDoor.PAll
open Go.RowKit Go.Proofs.YtjfbkgkpjkickaaGreatDoorW.PrintWords Go.Proofs.YtjfbkgkpjkickaaGreatDoorW.PrintLast Go.Proofs.YtjfbkgkpjkickaaGreatDoorW.PrintMore

theorem conv1 (c : Int) (W : World) : (convert 22 9 (.slice (some ⟨W.heap.size, 0, none⟩) 1 1)).run Tryz.prog (W.alloc (.cells #[.int .u8 c] 5)) = .ok (.string (strOfNums [c])) (W.alloc (.cells #[.int .u8 c] 5)) := by
  have hrb : RB (W.alloc (.cells #[.int .u8 c] 5)) W.heap.size 0 [c] := by
    intro j hj
    have hj0 : j = 0 := by simpa using hj
    subst hj0
    exact cell_one_new W (.int .u8 c) 5 0 _ rfl
  exact take_conv 1 W.heap.size 0 1 [c] _ hrb (by simp)
set_option maxRecDepth 100000 in
set_option maxHeartbeats 8000000 in
theorem w3 (c : Int) (w : World) (V : Bool → Bool → List Int → Prop) (G : GV) (hE : Env w G) (hV : ∀ d l, V d false (34 :: (l ++ [34])) ↔ strS true 0 (l ++ [34]) = some (l.length + 1)) (HI : Isv V w) :
    Calls Tryz.prog 3 #[.int .i64 c] w (Law w) := by
  by_cases h0 : c < 0
  · have d1 : decide (c < 0) = true := decide_eq_true h0
    clear hV HI hE
    go_enter Tryz.func3, Tryz.ntmps3
    go_wp2_with (fail)
    go_returns
    exact ⟨rfl, Below.refl _ _⟩
  have d1 : decide (c < 0) = false := decide_eq_false h0
  by_cases h1 : 255 < c
  · have d2 : decide (255 < c) = true := decide_eq_true h1
    clear hV HI hE
    go_enter Tryz.func3, Tryz.ntmps3
    go_wp2_with (fail)
    go_returns
    exact ⟨rfl, Below.refl _ _⟩
  have d2 : decide (255 < c) = false := decide_eq_false h1
  by_cases hu : c = 117
  · subst hu
    clear hV HI hE
    go_enter Tryz.func3, Tryz.ntmps3
    go_wp2_with (fail)
    go_returns
    exact ⟨rfl, Below.refl _ _⟩
  have d3 : (c == 117) = false := by rw [beq_eq_false_iff_ne]; exact hu
  have HV := Lib.hid ((hV false [92, c]).trans (esc_iff true c hu))
  have H16 := Lib.hid (fun (W : World) (x : ByteArray) (hW : Below w.heap.size w W) (hx : bytesOf x = 34 :: ([92, c] ++ [34])) => (show Calls Tryz.prog 16 #[.string x, optsV false false] W (IsV (V false false (34 :: ([92, c] ++ [34]))) W) from hx ▸ HI false false x W hW (by have := congrArg List.length hx; rw [bytesOf_length] at this; simp at this; omega) (by rw [hx]; intro b hb; simp at hb; subst hb; decide)))
  have H15 := Lib.hid (fun (W : World) (x : ByteArray) (hW : Below w.heap.size w W) (hx : bytesOf x = [34, 92, c, 34]) => (show Calls Tryz.prog 15 #[.string ⟨#[]⟩, .string x] W (UnqPost W [34, 92, c, 34] (PE c)) from hx ▸ f15 x (PE c) W G (hx ▸ utext_esc c (by omega) (by omega) hu) (hE.mono hW)))
  clear hV HI hE
  by_cases hesc : isEsc c
  · unfold isEsc at hesc
    rcases hesc with rfl | rfl | rfl | rfl | rfl | rfl | rfl | rfl
    · as_aux_lemma =>
        have q1 : (convert 22 9 (.slice (some ⟨w.heap.size, 0, none⟩) 1 1)).run Tryz.prog (w.alloc (.cells #[.int .u8 34] 5)) = .ok (.string ⟨#[34]⟩) (w.alloc (.cells #[.int .u8 34] 5)) := conv1 34 w
        have q2 : (convert 22 9 (.slice (some ⟨w.heap.size + 1, 0, none⟩) 1 1)).run Tryz.prog ((w.alloc (.cells #[.int .u8 34] 5)).alloc (.cells #[.int .u8 34] 5)) = .ok (.string ⟨#[34]⟩) ((w.alloc (.cells #[.int .u8 34] 5)).alloc (.cells #[.int .u8 34] 5)) := by
          have := conv1 34 (w.alloc (.cells #[.int .u8 34] 5))
          rw [show (w.alloc (.cells #[.int .u8 34] 5)).heap.size = w.heap.size + 1 by simp] at this
          exact this
        have HB0 := Lib.hid (below_alloc (below_alloc (Below.refl w.heap.size w) (.cells #[.int .u8 34] 5)) (.cells #[.int .u8 34] 5))
        clear d1 d2 d3 h0 h1 hu
        go_enter Tryz.func3, Tryz.ntmps3
        go_wp2_with (fail)
        refine (H15.out _ _ HB0.out ?hx0).mono ?_
        case hx0 => rfl
        rintro e w1 ⟨str, ok, rfl, hb1, hr⟩
        rcases unq_esc (by decide) hr with ⟨_, rfl, hs⟩ | ⟨hn, _⟩
        · have hs2 : str = ⟨#[34]⟩ := hs.trans rfl
          subst hs2
          have HB1 := Lib.hid (HB0.out.trans (hb1.mono HB0.out.size))
          clear hr hs hb1
          go_wp2_with (fail)
          refine (H16.out _ _ HB1.out ?hx1).mono ?_
          case hx1 => rfl
          rintro e w2 ⟨r, rfl, hr, hb⟩
          obtain rfl : r = true := hr.2 (HV.out.2 (by decide))
          have HB2 := Lib.hid (HB1.out.trans (hb.mono HB1.out.size))
          clear hr hb
          go_wp2_with (fail)
          go_returns
          exact ⟨rfl, HB2.out⟩
        · exact absurd (by decide) hn
    · as_aux_lemma =>
        have q1 : (convert 22 9 (.slice (some ⟨w.heap.size, 0, none⟩) 1 1)).run Tryz.prog (w.alloc (.cells #[.int .u8 92] 5)) = .ok (.string ⟨#[92]⟩) (w.alloc (.cells #[.int .u8 92] 5)) := conv1 92 w
        have q2 : (convert 22 9 (.slice (some ⟨w.heap.size + 1, 0, none⟩) 1 1)).run Tryz.prog ((w.alloc (.cells #[.int .u8 92] 5)).alloc (.cells #[.int .u8 92] 5)) = .ok (.string ⟨#[92]⟩) ((w.alloc (.cells #[.int .u8 92] 5)).alloc (.cells #[.int .u8 92] 5)) := by
          have := conv1 92 (w.alloc (.cells #[.int .u8 92] 5))
          rw [show (w.alloc (.cells #[.int .u8 92] 5)).heap.size = w.heap.size + 1 by simp] at this
          exact this
        have HB0 := Lib.hid (below_alloc (below_alloc (Below.refl w.heap.size w) (.cells #[.int .u8 92] 5)) (.cells #[.int .u8 92] 5))
        clear d1 d2 d3 h0 h1 hu
        go_enter Tryz.func3, Tryz.ntmps3
        go_wp2_with (fail)
        refine (H15.out _ _ HB0.out ?hx0).mono ?_
        case hx0 => rfl
        rintro e w1 ⟨str, ok, rfl, hb1, hr⟩
        rcases unq_esc (by decide) hr with ⟨_, rfl, hs⟩ | ⟨hn, _⟩
        · have hs2 : str = ⟨#[92]⟩ := hs.trans rfl
          subst hs2
          have HB1 := Lib.hid (HB0.out.trans (hb1.mono HB0.out.size))
          clear hr hs hb1
          go_wp2_with (fail)
          refine (H16.out _ _ HB1.out ?hx1).mono ?_
          case hx1 => rfl
          rintro e w2 ⟨r, rfl, hr, hb⟩
          obtain rfl : r = true := hr.2 (HV.out.2 (by decide))
          have HB2 := Lib.hid (HB1.out.trans (hb.mono HB1.out.size))
          clear hr hb
          go_wp2_with (fail)
          go_returns
          exact ⟨rfl, HB2.out⟩
        · exact absurd (by decide) hn
    · as_aux_lemma =>
        have q1 : (convert 22 9 (.slice (some ⟨w.heap.size, 0, none⟩) 1 1)).run Tryz.prog (w.alloc (.cells #[.int .u8 47] 5)) = .ok (.string ⟨#[47]⟩) (w.alloc (.cells #[.int .u8 47] 5)) := conv1 47 w
        have q2 : (convert 22 9 (.slice (some ⟨w.heap.size + 1, 0, none⟩) 1 1)).run Tryz.prog ((w.alloc (.cells #[.int .u8 47] 5)).alloc (.cells #[.int .u8 47] 5)) = .ok (.string ⟨#[47]⟩) ((w.alloc (.cells #[.int .u8 47] 5)).alloc (.cells #[.int .u8 47] 5)) := by
          have := conv1 47 (w.alloc (.cells #[.int .u8 47] 5))
          rw [show (w.alloc (.cells #[.int .u8 47] 5)).heap.size = w.heap.size + 1 by simp] at this
          exact this
        have HB0 := Lib.hid (below_alloc (below_alloc (Below.refl w.heap.size w) (.cells #[.int .u8 47] 5)) (.cells #[.int .u8 47] 5))
        clear d1 d2 d3 h0 h1 hu
        go_enter Tryz.func3, Tryz.ntmps3
        go_wp2_with (fail)
        refine (H15.out _ _ HB0.out ?hx0).mono ?_
        case hx0 => rfl
        rintro e w1 ⟨str, ok, rfl, hb1, hr⟩
        rcases unq_esc (by decide) hr with ⟨_, rfl, hs⟩ | ⟨hn, _⟩
        · have hs2 : str = ⟨#[47]⟩ := hs.trans rfl
          subst hs2
          have HB1 := Lib.hid (HB0.out.trans (hb1.mono HB0.out.size))
          clear hr hs hb1
          go_wp2_with (fail)
          refine (H16.out _ _ HB1.out ?hx1).mono ?_
          case hx1 => rfl
          rintro e w2 ⟨r, rfl, hr, hb⟩
          obtain rfl : r = true := hr.2 (HV.out.2 (by decide))
          have HB2 := Lib.hid (HB1.out.trans (hb.mono HB1.out.size))
          clear hr hb
          go_wp2_with (fail)
          go_returns
          exact ⟨rfl, HB2.out⟩
        · exact absurd (by decide) hn
    · as_aux_lemma =>
        have q1 : (convert 22 9 (.slice (some ⟨w.heap.size, 0, none⟩) 1 1)).run Tryz.prog (w.alloc (.cells #[.int .u8 98] 5)) = .ok (.string ⟨#[98]⟩) (w.alloc (.cells #[.int .u8 98] 5)) := conv1 98 w
        have HB0 := Lib.hid (below_alloc (Below.refl w.heap.size w) (.cells #[.int .u8 98] 5))
        clear d1 d2 d3 h0 h1 hu
        go_enter Tryz.func3, Tryz.ntmps3
        go_wp2_with (fail)
        refine (H15.out _ _ HB0.out ?hx0).mono ?_
        case hx0 => rfl
        rintro e w1 ⟨str, ok, rfl, hb1, hr⟩
        rcases unq_esc (by decide) hr with ⟨_, rfl, hs⟩ | ⟨hn, _⟩
        · have hs2 : str = ⟨#[8]⟩ := hs.trans rfl
          subst hs2
          have HB1 := Lib.hid (HB0.out.trans (hb1.mono HB0.out.size))
          clear hr hs hb1
          go_wp2_with (fail)
          refine (H16.out _ _ HB1.out ?hx1).mono ?_
          case hx1 => rfl
          rintro e w2 ⟨r, rfl, hr, hb⟩
          obtain rfl : r = true := hr.2 (HV.out.2 (by decide))
          have HB2 := Lib.hid (HB1.out.trans (hb.mono HB1.out.size))
          clear hr hb
          go_wp2_with (fail)
          go_returns
          exact ⟨rfl, HB2.out⟩
        · exact absurd (by decide) hn
    · as_aux_lemma =>
        have q1 : (convert 22 9 (.slice (some ⟨w.heap.size, 0, none⟩) 1 1)).run Tryz.prog (w.alloc (.cells #[.int .u8 102] 5)) = .ok (.string ⟨#[102]⟩) (w.alloc (.cells #[.int .u8 102] 5)) := conv1 102 w
        have HB0 := Lib.hid (below_alloc (Below.refl w.heap.size w) (.cells #[.int .u8 102] 5))
        clear d1 d2 d3 h0 h1 hu
        go_enter Tryz.func3, Tryz.ntmps3
        go_wp2_with (fail)
        refine (H15.out _ _ HB0.out ?hx0).mono ?_
        case hx0 => rfl
        rintro e w1 ⟨str, ok, rfl, hb1, hr⟩
        rcases unq_esc (by decide) hr with ⟨_, rfl, hs⟩ | ⟨hn, _⟩
        · have hs2 : str = ⟨#[12]⟩ := hs.trans rfl
          subst hs2
          have HB1 := Lib.hid (HB0.out.trans (hb1.mono HB0.out.size))
          clear hr hs hb1
          go_wp2_with (fail)
          refine (H16.out _ _ HB1.out ?hx1).mono ?_
          case hx1 => rfl
          rintro e w2 ⟨r, rfl, hr, hb⟩
          obtain rfl : r = true := hr.2 (HV.out.2 (by decide))
          have HB2 := Lib.hid (HB1.out.trans (hb.mono HB1.out.size))
          clear hr hb
          go_wp2_with (fail)
          go_returns
          exact ⟨rfl, HB2.out⟩
        · exact absurd (by decide) hn
    · as_aux_lemma =>
        have q1 : (convert 22 9 (.slice (some ⟨w.heap.size, 0, none⟩) 1 1)).run Tryz.prog (w.alloc (.cells #[.int .u8 110] 5)) = .ok (.string ⟨#[110]⟩) (w.alloc (.cells #[.int .u8 110] 5)) := conv1 110 w
        have HB0 := Lib.hid (below_alloc (Below.refl w.heap.size w) (.cells #[.int .u8 110] 5))
        clear d1 d2 d3 h0 h1 hu
        go_enter Tryz.func3, Tryz.ntmps3
        go_wp2_with (fail)
        refine (H15.out _ _ HB0.out ?hx0).mono ?_
        case hx0 => rfl
        rintro e w1 ⟨str, ok, rfl, hb1, hr⟩
        rcases unq_esc (by decide) hr with ⟨_, rfl, hs⟩ | ⟨hn, _⟩
        · have hs2 : str = ⟨#[10]⟩ := hs.trans rfl
          subst hs2
          have HB1 := Lib.hid (HB0.out.trans (hb1.mono HB0.out.size))
          clear hr hs hb1
          go_wp2_with (fail)
          refine (H16.out _ _ HB1.out ?hx1).mono ?_
          case hx1 => rfl
          rintro e w2 ⟨r, rfl, hr, hb⟩
          obtain rfl : r = true := hr.2 (HV.out.2 (by decide))
          have HB2 := Lib.hid (HB1.out.trans (hb.mono HB1.out.size))
          clear hr hb
          go_wp2_with (fail)
          go_returns
          exact ⟨rfl, HB2.out⟩
        · exact absurd (by decide) hn
    · as_aux_lemma =>
        have q1 : (convert 22 9 (.slice (some ⟨w.heap.size, 0, none⟩) 1 1)).run Tryz.prog (w.alloc (.cells #[.int .u8 114] 5)) = .ok (.string ⟨#[114]⟩) (w.alloc (.cells #[.int .u8 114] 5)) := conv1 114 w
        have HB0 := Lib.hid (below_alloc (Below.refl w.heap.size w) (.cells #[.int .u8 114] 5))
        clear d1 d2 d3 h0 h1 hu
        go_enter Tryz.func3, Tryz.ntmps3
        go_wp2_with (fail)
        refine (H15.out _ _ HB0.out ?hx0).mono ?_
        case hx0 => rfl
        rintro e w1 ⟨str, ok, rfl, hb1, hr⟩
        rcases unq_esc (by decide) hr with ⟨_, rfl, hs⟩ | ⟨hn, _⟩
        · have hs2 : str = ⟨#[13]⟩ := hs.trans rfl
          subst hs2
          have HB1 := Lib.hid (HB0.out.trans (hb1.mono HB0.out.size))
          clear hr hs hb1
          go_wp2_with (fail)
          refine (H16.out _ _ HB1.out ?hx1).mono ?_
          case hx1 => rfl
          rintro e w2 ⟨r, rfl, hr, hb⟩
          obtain rfl : r = true := hr.2 (HV.out.2 (by decide))
          have HB2 := Lib.hid (HB1.out.trans (hb.mono HB1.out.size))
          clear hr hb
          go_wp2_with (fail)
          go_returns
          exact ⟨rfl, HB2.out⟩
        · exact absurd (by decide) hn
    · as_aux_lemma =>
        have q1 : (convert 22 9 (.slice (some ⟨w.heap.size, 0, none⟩) 1 1)).run Tryz.prog (w.alloc (.cells #[.int .u8 116] 5)) = .ok (.string ⟨#[116]⟩) (w.alloc (.cells #[.int .u8 116] 5)) := conv1 116 w
        have HB0 := Lib.hid (below_alloc (Below.refl w.heap.size w) (.cells #[.int .u8 116] 5))
        clear d1 d2 d3 h0 h1 hu
        go_enter Tryz.func3, Tryz.ntmps3
        go_wp2_with (fail)
        refine (H15.out _ _ HB0.out ?hx0).mono ?_
        case hx0 => rfl
        rintro e w1 ⟨str, ok, rfl, hb1, hr⟩
        rcases unq_esc (by decide) hr with ⟨_, rfl, hs⟩ | ⟨hn, _⟩
        · have hs2 : str = ⟨#[9]⟩ := hs.trans rfl
          subst hs2
          have HB1 := Lib.hid (HB0.out.trans (hb1.mono HB0.out.size))
          clear hr hs hb1
          go_wp2_with (fail)
          refine (H16.out _ _ HB1.out ?hx1).mono ?_
          case hx1 => rfl
          rintro e w2 ⟨r, rfl, hr, hb⟩
          obtain rfl : r = true := hr.2 (HV.out.2 (by decide))
          have HB2 := Lib.hid (HB1.out.trans (hb.mono HB1.out.size))
          clear hr hb
          go_wp2_with (fail)
          go_returns
          exact ⟨rfl, HB2.out⟩
        · exact absurd (by decide) hn
  · as_aux_lemma =>
      have q1 := conv1 c w
      have HST := Lib.hid (bytesOf_nums [c] (by intro b hb; simp at hb; subst hb; omega))
      have hcw : IntKind.u8.wrap c = c := by rw [IntKind.wrap_u8]; omega
      have hcm : c % 256 = c := by omega
      generalize strOfNums [c] = cstr at *
      have hsz : cstr.size = 1 := by have := congrArg List.length HST.out; rw [bytesOf_length] at this; exact this
      have HB0 := Lib.hid (below_alloc (Below.refl w.heap.size w) (.cells #[.int .u8 c] 5))
      have k34 : (c == 34) = false := by rw [beq_eq_false_iff_ne]; unfold isEsc at hesc; omega
      have k92 : (c == 92) = false := by rw [beq_eq_false_iff_ne]; unfold isEsc at hesc; omega
      have k47 : (c == 47) = false := by rw [beq_eq_false_iff_ne]; unfold isEsc at hesc; omega
      have k98 : (c == 98) = false := by rw [beq_eq_false_iff_ne]; unfold isEsc at hesc; omega
      have k102 : (c == 102) = false := by rw [beq_eq_false_iff_ne]; unfold isEsc at hesc; omega
      have k110 : (c == 110) = false := by rw [beq_eq_false_iff_ne]; unfold isEsc at hesc; omega
      have k114 : (c == 114) = false := by rw [beq_eq_false_iff_ne]; unfold isEsc at hesc; omega
      have k116 : (c == 116) = false := by rw [beq_eq_false_iff_ne]; unfold isEsc at hesc; omega
      have HNE := Lib.hid hesc
      have HU := Lib.hid hu
      clear hesc hu
      go_enter Tryz.func3, Tryz.ntmps3
      go_wp2_with (fail)
      refine (H15.out _ _ HB0.out ?hx0).mono ?_
      case hx0 => rw [bytesOf_append, bytesOf_append, HST.out]; rfl
      rintro e w1 ⟨str, ok, rfl, hb1, hr⟩
      rcases unq_esc HU.out hr with ⟨hy, _⟩ | ⟨_, rfl⟩
      · exact absurd hy HNE.out
      have HB1 := Lib.hid (HB0.out.trans (hb1.mono HB0.out.size))
      clear hr hb1
      go_wp2_with (fail)
      refine (H16.out _ _ HB1.out ?hx1).mono ?_
      case hx1 => rw [bytesOf_append, bytesOf_append, HST.out]; rfl
      rintro e w2 ⟨r, rfl, hr, hb⟩
      obtain rfl : r = false := by cases r with | false => rfl | true => exact absurd (HV.out.1 (hr.1 rfl)) HNE.out
      have HB2 := Lib.hid (HB1.out.trans (hb.mono HB1.out.size))
      clear hr hb
      go_wp2_with (fail)
      go_returns
      exact ⟨rfl, HB2.out⟩
end Go.Proofs.YtjfbkgkpjkickaaGreatDoor.PAll
