/- The texts of a proof, its declarations alone: part 7. -/
import Derived.Deep.DeepCutAuto
import Derived.Test.YtjfbkgkpjkickaaGreatDoorVU2
import Derived.Test.YtjfbkgkpjkickaaGreatDoorVU3
import Derived.Test.YtjfbkgkpjkickaaGreatDoorVU4
import Derived.Test.YtjfbkgkpjkickaaGreatDoorVU5
import Derived.Test.YtjfbkgkpjkickaaGreatDoorVU6
import Derived.Test.YtjfbkgkpjkickaaGreatDoorVU7
import Derived.Test.YtjfbkgkpjkickaaGreatDoorVU8
import Derived.Test.YtjfbkgkpjkickaaGreatDoorVU9
import Derived.Test.YtjfbkgkpjkickaaGreatDoorVU10
import Derived.Test.YtjfbkgkpjkickaaGreatDoorVU11
import Derived.Test.YtjfbkgkpjkickaaGreatDoorVU12
import Derived.Test.YtjfbkgkpjkickaaGreatDoorVU13
import Derived.Test.YtjfbkgkpjkickaaGreatDoorVU29
import Derived.Test.YtjfbkgkpjkickaaGreatDoorVU31
import Derived.Test.YtjfbkgkpjkickaaGreatDoorVU33
import Derived.Test.YtjfbkgkpjkickaaGreatDoorVU35
import Derived.Test.YtjfbkgkpjkickaaGreatDoorVU36
import Derived.Test.YtjfbkgkpjkickaaGreatDoorVE2
import Derived.Test.YtjfbkgkpjkickaaGreatDoorVE4
set_option linter.unusedVariables false
set_option linter.unusedSimpArgs false
-- YtjfbkgkpjkickaaGreatDoorEg
set_option linter.unusedVariables false
set_option linter.unusedSimpArgs false
namespace Go.Proofs.YtjfbkgkpjkickaaGreatDoor.PAll
open Go.RowKit Go.Proofs.YtjfbkgkpjkickaaGreatDoorW.PrintWords Go.Proofs.YtjfbkgkpjkickaaGreatDoorW.PrintLast Go.Proofs.YtjfbkgkpjkickaaGreatDoorW.PrintMore

theorem conv4 (a b c d : Int) (W : World) : (convert 22 9 (.slice (some ⟨W.heap.size, 0, none⟩) 4 4)).run Tryz.prog (W.alloc (.cells #[.int .u8 a, .int .u8 b, .int .u8 c, .int .u8 d] 5)) = .ok (.string (strOfNums [a, b, c, d])) (W.alloc (.cells #[.int .u8 a, .int .u8 b, .int .u8 c, .int .u8 d] 5)) := by
  have hrb : RB (W.alloc (.cells #[.int .u8 a, .int .u8 b, .int .u8 c, .int .u8 d] 5)) W.heap.size 0 [a, b, c, d] := by
    intro j hj
    rw [Nat.zero_add, cell_of_row _ W.heap.size j #[.int .u8 a, .int .u8 b, .int .u8 c, .int .u8 d] 5 (0, 0) (heap_alloc_new W _)]
    match j, hj with
    | 0, _ => rfl
    | 1, _ => rfl
    | 2, _ => rfl
    | 3, _ => rfl
    | j + 4, hj => simp at hj; omega
  exact take_conv 4 W.heap.size 0 4 [a, b, c, d] _ hrb (by simp)
theorem and15 (x : Int) (h0 : 0 ≤ x) (h : x < 1099511627776) : Go.bits .and .i64 x 15 = x % 16 := by
  obtain ⟨n, rfl⟩ := Int.eq_ofNat_of_zero_le h0
  have h1 : (BitVec.ofInt 64 (n : Int)).toNat = n := by
    rw [BitVec.ofInt_natCast, BitVec.toNat_ofNat]; exact Nat.mod_eq_of_lt (by omega)
  have h2 : (BitVec.ofInt 64 (15 : Int)).toNat = 2 ^ 4 - 1 := by decide
  show IntKind.i64.wrap ((BitVec.ofInt 64 (n : Int) &&& BitVec.ofInt 64 15).toNat : Int) = _
  rw [BitVec.toNat_and, h1, h2, Nat.and_two_pow_sub_one_eq_mod, IntKind.wrap_i64]
  omega
abbrev hexLo : ByteArray := ⟨#[48, 49, 50, 51, 52, 53, 54, 55, 56, 57, 97, 98, 99, 100, 101, 102]⟩
abbrev hexUp : ByteArray := ⟨#[48, 49, 50, 51, 52, 53, 54, 55, 56, 57, 65, 66, 67, 68, 69, 70]⟩
/-- a row of hexadecimal digits -/
structure HexRow (hs : ByteArray) : Prop where
  size : hs.size = 16
  dig : ∀ x, (h : x < hs.size) → hexV ((hs[x]'h).toNat : Int) = some (x : Int)
theorem hexLo_ok : HexRow hexLo := ⟨rfl, fun x h => (show ∀ x : Fin 16, hexV ((hexLo[x.val]'x.isLt).toNat : Int) = some (x.val : Int) by decide +kernel) ⟨x, h⟩⟩
theorem hexUp_ok : HexRow hexUp := ⟨rfl, fun x h => (show ∀ x : Fin 16, hexV ((hexUp[x.val]'x.isLt).toNat : Int) = some (x.val : Int) by decide +kernel) ⟨x, h⟩⟩
/-- a number's four digits -/
theorem digits4 (c : Int) (h0 : 0 ≤ c) (h1 : c ≤ 65535) : ∃ x3 x2 x1 x0 : Nat, c / 4096 = (x3 : Int) ∧ Go.bits .and .i64 (c / 256) 15 = (x2 : Int) ∧ Go.bits .and .i64 (c / 16) 15 = (x1 : Int) ∧ Go.bits .and .i64 c 15 = (x0 : Int) ∧ x3 < 16 ∧ x2 < 16 ∧ x1 < 16 ∧ x0 < 16 ∧ 4096 * (x3 : Int) + 256 * (x2 : Int) + 16 * (x1 : Int) + (x0 : Int) = c :=
  ⟨(c / 4096).toNat, (c / 256 % 16).toNat, (c / 16 % 16).toNat, (c % 16).toNat, by omega, by rw [and15 _ (by omega) (by omega)]; omega, by rw [and15 _ (by omega) (by omega)]; omega, by rw [and15 _ (by omega) (by omega)]; omega, by omega, by omega, by omega, by omega, by omega⟩
set_option maxRecDepth 100000 in
set_option maxHeartbeats 8000000 in
theorem w5 (c : Int) (great : Bool) (w : World) (V : Bool → Bool → List Int → Prop) (G : GV) (hE : Env w G) (hV : ∀ d i l, V d i (34 :: (l ++ [34])) ↔ strS (!i) 0 (l ++ [34]) = some (l.length + 1)) (HI : Isv V w) :
    Calls Tryz.prog 5 #[.int .i64 c, .bool great] w (Law w) := by
  by_cases h0 : c < 0
  · have d1 : decide (c < 0) = true := decide_eq_true h0
    clear hV HI hE
    go_enter Tryz.func5, Tryz.ntmps5
    go_wp2_with (fail)
    go_returns
    exact ⟨rfl, Below.refl _ _⟩
  have d1 : decide (c < 0) = false := decide_eq_false h0
  by_cases h1 : 65535 < c
  · have d2 : decide (65535 < c) = true := decide_eq_true h1
    clear hV HI hE
    go_enter Tryz.func5, Tryz.ntmps5
    go_wp2_with (fail)
    go_returns
    exact ⟨rfl, Below.refl _ _⟩
  have d2 : decide (65535 < c) = false := decide_eq_false h1
  obtain ⟨x3, x2, x1, x0, e3, e2, e1, e0, b3, b2, b1, b0, hsum⟩ := digits4 c (by omega) (by omega)
  have H16 := Lib.hid (fun (i : Bool) (W : World) (x : ByteArray) (l : List Int) (hW : Below w.heap.size w W) (hl : l.length ≤ 100) (hx : bytesOf x = 34 :: (l ++ [34])) => (show Calls Tryz.prog 16 #[.string x, optsV false i] W (IsV (V false i (34 :: (l ++ [34]))) W) from hx ▸ HI false i x W hW (by have := congrArg List.length hx; rw [bytesOf_length] at this; simp at this; omega) (by rw [hx]; intro b hb; simp at hb; subst hb; decide)))
  have HE := Lib.hid hE
  have HV := Lib.hid (fun i l => hV false i l)
  have HS := Lib.hid hsum
  have C18 := Lib.hid f18
  have ENC := Lib.hid (fun W => spec_Encoded.calls 1 c _ W (enc_ev 0 c (by omega) (by omega)))
  clear hV HI hE hsum
  have fin : ∀ hs : ByteArray, HexRow hs → ∀ (h3 : x3 < hs.size) (h2 : x2 < hs.size) (h1 : x1 < hs.size) (h0 : x0 < hs.size), True := fun _ _ _ _ _ _ => trivial
  clear fin
  cases great
  case false =>
    have hh : HexRow ⟨#[48, 49, 50, 51, 52, 53, 54, 55, 56, 57, 97, 98, 99, 100, 101, 102]⟩ := hexLo_ok
    go_enter Tryz.func5, Tryz.ntmps5
    go_upto_region 6 with (fail)
    generalize ({ data := #[48, 49, 50, 51, 52, 53, 54, 55, 56, 57, 97, 98, 99, 100, 101, 102] } : ByteArray) = hs at *
    have hsz := hh.size
    have l3 : x3 < hs.size := by omega
    have l2 : x2 < hs.size := by omega
    have l1 : x1 < hs.size := by omega
    have l0 : x0 < hs.size := by omega
    obtain ⟨a3, i3⟩ : ∃ a, ((hs[x3]'l3).toNat : Int) = a := ⟨_, rfl⟩
    obtain ⟨a2, i2⟩ : ∃ a, ((hs[x2]'l2).toNat : Int) = a := ⟨_, rfl⟩
    obtain ⟨a1, i1⟩ : ∃ a, ((hs[x1]'l1).toNat : Int) = a := ⟨_, rfl⟩
    obtain ⟨a0, i0⟩ : ∃ a, ((hs[x0]'l0).toNat : Int) = a := ⟨_, rfl⟩
    have p3 := hh.dig x3 l3; rw [i3] at p3
    have p2 := hh.dig x2 l2; rw [i2] at p2
    have p1 := hh.dig x1 l1; rw [i1] at p1
    have p0 := hh.dig x0 l0; rw [i0] at p0
    have g3 : 0 ≤ a3 ∧ a3 < 256 := by have := (hs[x3]'l3).toNat_lt; omega
    have g2 : 0 ≤ a2 ∧ a2 < 256 := by have := (hs[x2]'l2).toNat_lt; omega
    have g1 : 0 ≤ a1 ∧ a1 < 256 := by have := (hs[x1]'l1).toNat_lt; omega
    have g0 : 0 ≤ a0 ∧ a0 < 256 := by have := (hs[x0]'l0).toNat_lt; omega
    have hx8 : hex4 [34, 92, 117, a3, a2, a1, a0, 34] 3 = some c := by rw [← HS.out]; exact hex4_at _ 3 a3 a2 a1 a0 rfl rfl rfl rfl (by simp) _ _ _ _ p3 p2 p1 p0
    have hx7 : hex4 [92, 117, a3, a2, a1, a0, 34] 2 = some c := by rw [← HS.out]; exact hex4_at _ 2 a3 a2 a1 a0 rfl rfl rfl rfl (by simp) _ _ _ _ p3 p2 p1 p0
    have hba : Bs [a3, a2, a1, a0] := by intro b hb; simp at hb; omega
    have H15 := Lib.hid (fun (W : World) (x : ByteArray) (hW : Below w.heap.size w W) (hx : bytesOf x = [34, 92, 117, a3, a2, a1, a0, 34]) => (show Calls Tryz.prog 15 #[.string ⟨#[]⟩, .string x] W (UnqPost W [34, 92, 117, a3, a2, a1, a0, 34] (PU c)) from hx ▸ f15 x (PU c) W G (hx ▸ utext_uni a3 a2 a1 a0 c hba hx8) (HE.out.mono hW)))
    have HV2 := Lib.hid (fun i => (HV.out i [92, 117, a3, a2, a1, a0]).trans (uni_iff (!i) a3 a2 a1 a0 c hx7))
    have q1 := conv4 a3 a2 a1 a0 w.drew
    have q1b : (convert 22 9 (.slice (some ⟨w.heap.size, 0, none⟩) 4 4)).run Tryz.prog ((w.alloc (.cells #[.int .u8 a3, .int .u8 a2, .int .u8 a1, .int .u8 a0] 5)).drew) = .ok (.string (strOfNums [a3, a2, a1, a0])) ((w.alloc (.cells #[.int .u8 a3, .int .u8 a2, .int .u8 a1, .int .u8 a0] 5)).drew) := q1
    have HST := Lib.hid (bytesOf_nums [a3, a2, a1, a0] hba)
    generalize strOfNums [a3, a2, a1, a0] = dstr at *
    have hsd : dstr.size = 4 := by have := congrArg List.length HST.out; rw [bytesOf_length] at this; exact this
    have HB0 := Lib.hid (below_drew (below_alloc (Below.refl w.heap.size w) (.cells #[.int .u8 a3, .int .u8 a2, .int .u8 a1, .int .u8 a0] 5)))
    clear q1 hh p3 p2 p1 p0 g3 g2 g1 g0 hx8 hx7 hba HS HV HE
    go_cut [6] (fun s6 wx => ∃ x : ByteArray, s6 = .string x ∧ Hid (bytesOf x = 34 :: ([92, 117, a3, a2, a1, a0] ++ [34])) ∧ Hid (Below w.heap.size w wx))
    case first =>
      go_region_with (fail)
      all_goals (go_wp2_with (fail))
      all_goals go_meet
      all_goals exact ⟨_, rfl, Lib.hid (by rw [bytesOf_append, bytesOf_append, HST.out]; rfl), HB0⟩
    obtain ⟨x, rfl, HTX, HB0⟩ := hcut
    clear e3 e2 e1 e0 i3 i2 i1 i0 l3 l2 l1 l0 b3 b2 b1 b0 hsz q1b HST hsd
    go_wp2_with (fail)
    refine (H15.out _ _ HB0.out HTX.out).mono ?_
    rintro e w1 ⟨str, ok, rfl, hb1, hr⟩
    obtain ⟨hs1, hok⟩ := unq_uni hr
    subst hs1
    have HB1 := Lib.hid (HB0.out.trans (hb1.mono HB0.out.size))
    clear hr hb1
    generalize strOfNums (encS c) = es at *
    have hcs : c < 55296 ∨ (55296 ≤ c ∧ c ≤ 57343) ∨ 57343 < c := by omega
    rcases hcs with hlo | hsu | hhi
    · have y1 : decide (55296 ≤ c) = false := by first | exact decide_eq_true (by omega) | exact decide_eq_false (by omega)
      skip
      obtain rfl : ok = true := by
        rw [hok]
        first
          | (rw [decide_eq_true (by omega)]; rfl)
          | (rw [decide_eq_false (by omega)]; rfl)
      have HV3 := Lib.hid (show ∀ r : Bool, (r = true ↔ V false false (34 :: ([92, 117, a3, a2, a1, a0] ++ [34]))) → r = true from fun r h => Bool.eq_iff_iff.2 ((h.trans (HV2.out false)).trans ⟨fun h => by first | rfl | exact absurd ⟨rfl, by omega⟩ h, fun h => by first | exact fun hh => absurd hh.2 (by omega) | cases h⟩))
      have HV4 := Lib.hid (show V false true (34 :: ([92, 117, a3, a2, a1, a0] ++ [34])) from (HV2.out true).2 (fun h => by cases h.1))
      clear hok
      go_wp2_with (fail)
      refine (ENC.out _).mono ?_
      rintro e w2 ⟨rfl, hb2⟩
      have HB2 := Lib.hid (HB1.out.trans (hb2.mono HB1.out.size))
      clear hb2
      go_wp2_with (fail)
      refine (H16.out false _ _ _ HB2.out (by simp) HTX.out).mono ?_
      rintro e w3 ⟨r, rfl, hr, hb3⟩
      obtain rfl := HV3.out r hr
      have HB3 := Lib.hid (HB2.out.trans (hb3.mono HB2.out.size))
      clear hr hb3
      go_wp2_with (fail)
      refine (C18.out _).mono ?_
      rintro e w4 ⟨rfl, hb4⟩
      have HB4 := Lib.hid (HB3.out.trans (hb4.mono HB3.out.size))
      clear hb4
      unfold optsV
      go_wp2_with (fail)
      refine (H16.out true _ _ _ HB4.out (by simp) HTX.out).mono ?_
      rintro e w5 ⟨r, rfl, hr, hb5⟩
      obtain rfl : r = true := hr.2 HV4.out
      have HB5 := Lib.hid (HB4.out.trans (hb5.mono HB4.out.size))
      clear hr hb5
      go_wp2_with (fail)
      go_returns
      exact ⟨rfl, HB5.out⟩
    · have y1 : decide (55296 ≤ c) = true := by first | exact decide_eq_true (by omega) | exact decide_eq_false (by omega)
      have y2 : decide (c ≤ 57343) = true := by first | exact decide_eq_true (by omega) | exact decide_eq_false (by omega)
      obtain rfl : ok = false := by
        rw [hok]
        first
          | (rw [decide_eq_true (by omega)]; rfl)
          | (rw [decide_eq_false (by omega)]; rfl)
      have HV3 := Lib.hid (show ∀ r : Bool, (r = true ↔ V false false (34 :: ([92, 117, a3, a2, a1, a0] ++ [34]))) → r = false from fun r h => Bool.eq_iff_iff.2 ((h.trans (HV2.out false)).trans ⟨fun h => by first | rfl | exact absurd ⟨rfl, by omega⟩ h, fun h => by first | exact fun hh => absurd hh.2 (by omega) | cases h⟩))
      have HV4 := Lib.hid (show V false true (34 :: ([92, 117, a3, a2, a1, a0] ++ [34])) from (HV2.out true).2 (fun h => by cases h.1))
      clear hok
      go_wp2_with (fail)
      refine (ENC.out _).mono ?_
      rintro e w2 ⟨rfl, hb2⟩
      have HB2 := Lib.hid (HB1.out.trans (hb2.mono HB1.out.size))
      clear hb2
      go_wp2_with (fail)
      refine (H16.out false _ _ _ HB2.out (by simp) HTX.out).mono ?_
      rintro e w3 ⟨r, rfl, hr, hb3⟩
      obtain rfl := HV3.out r hr
      have HB3 := Lib.hid (HB2.out.trans (hb3.mono HB2.out.size))
      clear hr hb3
      go_wp2_with (fail)
      refine (C18.out _).mono ?_
      rintro e w4 ⟨rfl, hb4⟩
      have HB4 := Lib.hid (HB3.out.trans (hb4.mono HB3.out.size))
      clear hb4
      unfold optsV
      go_wp2_with (fail)
      refine (H16.out true _ _ _ HB4.out (by simp) HTX.out).mono ?_
      rintro e w5 ⟨r, rfl, hr, hb5⟩
      obtain rfl : r = true := hr.2 HV4.out
      have HB5 := Lib.hid (HB4.out.trans (hb5.mono HB4.out.size))
      clear hr hb5
      go_wp2_with (fail)
      go_returns
      exact ⟨rfl, HB5.out⟩
    · have y1 : decide (55296 ≤ c) = true := by first | exact decide_eq_true (by omega) | exact decide_eq_false (by omega)
      have y2 : decide (c ≤ 57343) = false := by first | exact decide_eq_true (by omega) | exact decide_eq_false (by omega)
      obtain rfl : ok = true := by
        rw [hok]
        first
          | (rw [decide_eq_true (by omega)]; rfl)
          | (rw [decide_eq_false (by omega)]; rfl)
      have HV3 := Lib.hid (show ∀ r : Bool, (r = true ↔ V false false (34 :: ([92, 117, a3, a2, a1, a0] ++ [34]))) → r = true from fun r h => Bool.eq_iff_iff.2 ((h.trans (HV2.out false)).trans ⟨fun h => by first | rfl | exact absurd ⟨rfl, by omega⟩ h, fun h => by first | exact fun hh => absurd hh.2 (by omega) | cases h⟩))
      have HV4 := Lib.hid (show V false true (34 :: ([92, 117, a3, a2, a1, a0] ++ [34])) from (HV2.out true).2 (fun h => by cases h.1))
      clear hok
      go_wp2_with (fail)
      refine (ENC.out _).mono ?_
      rintro e w2 ⟨rfl, hb2⟩
      have HB2 := Lib.hid (HB1.out.trans (hb2.mono HB1.out.size))
      clear hb2
      go_wp2_with (fail)
      refine (H16.out false _ _ _ HB2.out (by simp) HTX.out).mono ?_
      rintro e w3 ⟨r, rfl, hr, hb3⟩
      obtain rfl := HV3.out r hr
      have HB3 := Lib.hid (HB2.out.trans (hb3.mono HB2.out.size))
      clear hr hb3
      go_wp2_with (fail)
      refine (C18.out _).mono ?_
      rintro e w4 ⟨rfl, hb4⟩
      have HB4 := Lib.hid (HB3.out.trans (hb4.mono HB3.out.size))
      clear hb4
      unfold optsV
      go_wp2_with (fail)
      refine (H16.out true _ _ _ HB4.out (by simp) HTX.out).mono ?_
      rintro e w5 ⟨r, rfl, hr, hb5⟩
      obtain rfl : r = true := hr.2 HV4.out
      have HB5 := Lib.hid (HB4.out.trans (hb5.mono HB4.out.size))
      clear hr hb5
      go_wp2_with (fail)
      go_returns
      exact ⟨rfl, HB5.out⟩
  case true =>
    have hh : HexRow ⟨#[48, 49, 50, 51, 52, 53, 54, 55, 56, 57, 65, 66, 67, 68, 69, 70]⟩ := hexUp_ok
    go_enter Tryz.func5, Tryz.ntmps5
    go_upto_region 6 with (fail)
    generalize ({ data := #[48, 49, 50, 51, 52, 53, 54, 55, 56, 57, 65, 66, 67, 68, 69, 70] } : ByteArray) = hs at *
    have hsz := hh.size
    have l3 : x3 < hs.size := by omega
    have l2 : x2 < hs.size := by omega
    have l1 : x1 < hs.size := by omega
    have l0 : x0 < hs.size := by omega
    obtain ⟨a3, i3⟩ : ∃ a, ((hs[x3]'l3).toNat : Int) = a := ⟨_, rfl⟩
    obtain ⟨a2, i2⟩ : ∃ a, ((hs[x2]'l2).toNat : Int) = a := ⟨_, rfl⟩
    obtain ⟨a1, i1⟩ : ∃ a, ((hs[x1]'l1).toNat : Int) = a := ⟨_, rfl⟩
    obtain ⟨a0, i0⟩ : ∃ a, ((hs[x0]'l0).toNat : Int) = a := ⟨_, rfl⟩
    have p3 := hh.dig x3 l3; rw [i3] at p3
    have p2 := hh.dig x2 l2; rw [i2] at p2
    have p1 := hh.dig x1 l1; rw [i1] at p1
    have p0 := hh.dig x0 l0; rw [i0] at p0
    have g3 : 0 ≤ a3 ∧ a3 < 256 := by have := (hs[x3]'l3).toNat_lt; omega
    have g2 : 0 ≤ a2 ∧ a2 < 256 := by have := (hs[x2]'l2).toNat_lt; omega
    have g1 : 0 ≤ a1 ∧ a1 < 256 := by have := (hs[x1]'l1).toNat_lt; omega
    have g0 : 0 ≤ a0 ∧ a0 < 256 := by have := (hs[x0]'l0).toNat_lt; omega
    have hx8 : hex4 [34, 92, 117, a3, a2, a1, a0, 34] 3 = some c := by rw [← HS.out]; exact hex4_at _ 3 a3 a2 a1 a0 rfl rfl rfl rfl (by simp) _ _ _ _ p3 p2 p1 p0
    have hx7 : hex4 [92, 117, a3, a2, a1, a0, 34] 2 = some c := by rw [← HS.out]; exact hex4_at _ 2 a3 a2 a1 a0 rfl rfl rfl rfl (by simp) _ _ _ _ p3 p2 p1 p0
    have hba : Bs [a3, a2, a1, a0] := by intro b hb; simp at hb; omega
    have H15 := Lib.hid (fun (W : World) (x : ByteArray) (hW : Below w.heap.size w W) (hx : bytesOf x = [34, 92, 117, a3, a2, a1, a0, 34]) => (show Calls Tryz.prog 15 #[.string ⟨#[]⟩, .string x] W (UnqPost W [34, 92, 117, a3, a2, a1, a0, 34] (PU c)) from hx ▸ f15 x (PU c) W G (hx ▸ utext_uni a3 a2 a1 a0 c hba hx8) (HE.out.mono hW)))
    have HV2 := Lib.hid (fun i => (HV.out i [92, 117, a3, a2, a1, a0]).trans (uni_iff (!i) a3 a2 a1 a0 c hx7))
    have q1 := conv4 a3 a2 a1 a0 w.drew
    have q1b : (convert 22 9 (.slice (some ⟨w.heap.size, 0, none⟩) 4 4)).run Tryz.prog ((w.alloc (.cells #[.int .u8 a3, .int .u8 a2, .int .u8 a1, .int .u8 a0] 5)).drew) = .ok (.string (strOfNums [a3, a2, a1, a0])) ((w.alloc (.cells #[.int .u8 a3, .int .u8 a2, .int .u8 a1, .int .u8 a0] 5)).drew) := q1
    have HST := Lib.hid (bytesOf_nums [a3, a2, a1, a0] hba)
    generalize strOfNums [a3, a2, a1, a0] = dstr at *
    have hsd : dstr.size = 4 := by have := congrArg List.length HST.out; rw [bytesOf_length] at this; exact this
    have HB0 := Lib.hid (below_drew (below_alloc (Below.refl w.heap.size w) (.cells #[.int .u8 a3, .int .u8 a2, .int .u8 a1, .int .u8 a0] 5)))
    clear q1 hh p3 p2 p1 p0 g3 g2 g1 g0 hx8 hx7 hba HS HV HE
    go_cut [6] (fun s6 wx => ∃ x : ByteArray, s6 = .string x ∧ Hid (bytesOf x = 34 :: ([92, 117, a3, a2, a1, a0] ++ [34])) ∧ Hid (Below w.heap.size w wx))
    case first =>
      go_region_with (fail)
      all_goals (go_wp2_with (fail))
      all_goals go_meet
      all_goals exact ⟨_, rfl, Lib.hid (by rw [bytesOf_append, bytesOf_append, HST.out]; rfl), HB0⟩
    obtain ⟨x, rfl, HTX, HB0⟩ := hcut
    clear e3 e2 e1 e0 i3 i2 i1 i0 l3 l2 l1 l0 b3 b2 b1 b0 hsz q1b HST hsd
    go_wp2_with (fail)
    refine (H15.out _ _ HB0.out HTX.out).mono ?_
    rintro e w1 ⟨str, ok, rfl, hb1, hr⟩
    obtain ⟨hs1, hok⟩ := unq_uni hr
    subst hs1
    have HB1 := Lib.hid (HB0.out.trans (hb1.mono HB0.out.size))
    clear hr hb1
    generalize strOfNums (encS c) = es at *
    have hcs : c < 55296 ∨ (55296 ≤ c ∧ c ≤ 57343) ∨ 57343 < c := by omega
    rcases hcs with hlo | hsu | hhi
    · have y1 : decide (55296 ≤ c) = false := by first | exact decide_eq_true (by omega) | exact decide_eq_false (by omega)
      skip
      obtain rfl : ok = true := by
        rw [hok]
        first
          | (rw [decide_eq_true (by omega)]; rfl)
          | (rw [decide_eq_false (by omega)]; rfl)
      have HV3 := Lib.hid (show ∀ r : Bool, (r = true ↔ V false false (34 :: ([92, 117, a3, a2, a1, a0] ++ [34]))) → r = true from fun r h => Bool.eq_iff_iff.2 ((h.trans (HV2.out false)).trans ⟨fun h => by first | rfl | exact absurd ⟨rfl, by omega⟩ h, fun h => by first | exact fun hh => absurd hh.2 (by omega) | cases h⟩))
      have HV4 := Lib.hid (show V false true (34 :: ([92, 117, a3, a2, a1, a0] ++ [34])) from (HV2.out true).2 (fun h => by cases h.1))
      clear hok
      go_wp2_with (fail)
      refine (ENC.out _).mono ?_
      rintro e w2 ⟨rfl, hb2⟩
      have HB2 := Lib.hid (HB1.out.trans (hb2.mono HB1.out.size))
      clear hb2
      go_wp2_with (fail)
      refine (H16.out false _ _ _ HB2.out (by simp) HTX.out).mono ?_
      rintro e w3 ⟨r, rfl, hr, hb3⟩
      obtain rfl := HV3.out r hr
      have HB3 := Lib.hid (HB2.out.trans (hb3.mono HB2.out.size))
      clear hr hb3
      go_wp2_with (fail)
      refine (C18.out _).mono ?_
      rintro e w4 ⟨rfl, hb4⟩
      have HB4 := Lib.hid (HB3.out.trans (hb4.mono HB3.out.size))
      clear hb4
      unfold optsV
      go_wp2_with (fail)
      refine (H16.out true _ _ _ HB4.out (by simp) HTX.out).mono ?_
      rintro e w5 ⟨r, rfl, hr, hb5⟩
      obtain rfl : r = true := hr.2 HV4.out
      have HB5 := Lib.hid (HB4.out.trans (hb5.mono HB4.out.size))
      clear hr hb5
      go_wp2_with (fail)
      go_returns
      exact ⟨rfl, HB5.out⟩
    · have y1 : decide (55296 ≤ c) = true := by first | exact decide_eq_true (by omega) | exact decide_eq_false (by omega)
      have y2 : decide (c ≤ 57343) = true := by first | exact decide_eq_true (by omega) | exact decide_eq_false (by omega)
      obtain rfl : ok = false := by
        rw [hok]
        first
          | (rw [decide_eq_true (by omega)]; rfl)
          | (rw [decide_eq_false (by omega)]; rfl)
      have HV3 := Lib.hid (show ∀ r : Bool, (r = true ↔ V false false (34 :: ([92, 117, a3, a2, a1, a0] ++ [34]))) → r = false from fun r h => Bool.eq_iff_iff.2 ((h.trans (HV2.out false)).trans ⟨fun h => by first | rfl | exact absurd ⟨rfl, by omega⟩ h, fun h => by first | exact fun hh => absurd hh.2 (by omega) | cases h⟩))
      have HV4 := Lib.hid (show V false true (34 :: ([92, 117, a3, a2, a1, a0] ++ [34])) from (HV2.out true).2 (fun h => by cases h.1))
      clear hok
      go_wp2_with (fail)
      refine (ENC.out _).mono ?_
      rintro e w2 ⟨rfl, hb2⟩
      have HB2 := Lib.hid (HB1.out.trans (hb2.mono HB1.out.size))
      clear hb2
      go_wp2_with (fail)
      refine (H16.out false _ _ _ HB2.out (by simp) HTX.out).mono ?_
      rintro e w3 ⟨r, rfl, hr, hb3⟩
      obtain rfl := HV3.out r hr
      have HB3 := Lib.hid (HB2.out.trans (hb3.mono HB2.out.size))
      clear hr hb3
      go_wp2_with (fail)
      refine (C18.out _).mono ?_
      rintro e w4 ⟨rfl, hb4⟩
      have HB4 := Lib.hid (HB3.out.trans (hb4.mono HB3.out.size))
      clear hb4
      unfold optsV
      go_wp2_with (fail)
      refine (H16.out true _ _ _ HB4.out (by simp) HTX.out).mono ?_
      rintro e w5 ⟨r, rfl, hr, hb5⟩
      obtain rfl : r = true := hr.2 HV4.out
      have HB5 := Lib.hid (HB4.out.trans (hb5.mono HB4.out.size))
      clear hr hb5
      go_wp2_with (fail)
      go_returns
      exact ⟨rfl, HB5.out⟩
    · have y1 : decide (55296 ≤ c) = true := by first | exact decide_eq_true (by omega) | exact decide_eq_false (by omega)
      have y2 : decide (c ≤ 57343) = false := by first | exact decide_eq_true (by omega) | exact decide_eq_false (by omega)
      obtain rfl : ok = true := by
        rw [hok]
        first
          | (rw [decide_eq_true (by omega)]; rfl)
          | (rw [decide_eq_false (by omega)]; rfl)
      have HV3 := Lib.hid (show ∀ r : Bool, (r = true ↔ V false false (34 :: ([92, 117, a3, a2, a1, a0] ++ [34]))) → r = true from fun r h => Bool.eq_iff_iff.2 ((h.trans (HV2.out false)).trans ⟨fun h => by first | rfl | exact absurd ⟨rfl, by omega⟩ h, fun h => by first | exact fun hh => absurd hh.2 (by omega) | cases h⟩))
      have HV4 := Lib.hid (show V false true (34 :: ([92, 117, a3, a2, a1, a0] ++ [34])) from (HV2.out true).2 (fun h => by cases h.1))
      clear hok
      go_wp2_with (fail)
      refine (ENC.out _).mono ?_
      rintro e w2 ⟨rfl, hb2⟩
      have HB2 := Lib.hid (HB1.out.trans (hb2.mono HB1.out.size))
      clear hb2
      go_wp2_with (fail)
      refine (H16.out false _ _ _ HB2.out (by simp) HTX.out).mono ?_
      rintro e w3 ⟨r, rfl, hr, hb3⟩
      obtain rfl := HV3.out r hr
      have HB3 := Lib.hid (HB2.out.trans (hb3.mono HB2.out.size))
      clear hr hb3
      go_wp2_with (fail)
      refine (C18.out _).mono ?_
      rintro e w4 ⟨rfl, hb4⟩
      have HB4 := Lib.hid (HB3.out.trans (hb4.mono HB3.out.size))
      clear hb4
      unfold optsV
      go_wp2_with (fail)
      refine (H16.out true _ _ _ HB4.out (by simp) HTX.out).mono ?_
      rintro e w5 ⟨r, rfl, hr, hb5⟩
      obtain rfl : r = true := hr.2 HV4.out
      have HB5 := Lib.hid (HB4.out.trans (hb5.mono HB4.out.size))
      clear hr hb5
      go_wp2_with (fail)
      go_returns
      exact ⟨rfl, HB5.out⟩
end Go.Proofs.YtjfbkgkpjkickaaGreatDoor.PAll
