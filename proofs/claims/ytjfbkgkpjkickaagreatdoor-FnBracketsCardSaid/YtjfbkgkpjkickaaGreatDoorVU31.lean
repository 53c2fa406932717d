/- The texts of a proof, its declarations alone: part 31. -/
import Derived.Test.YtjfbkgkpjkickaaGreatDoorVU29
set_option linter.unusedVariables false
set_option linter.unusedSimpArgs false
-- YtjfbkgkpjkickaaGreatDoorMc
set_option linter.unusedVariables false
set_option linter.unusedSimpArgs false
namespace Go.Proofs.YtjfbkgkpjkickaaGreatDoor.PAll
open Go.RowKit Go.Proofs.YtjfbkgkpjkickaaGreatDoorW.PrintWords Go.Proofs.YtjfbkgkpjkickaaGreatDoorW.PrintLast Go.Proofs.YtjfbkgkpjkickaaGreatDoorW.PrintMore

theorem bytesOf_append (x y : ByteArray) : bytesOf (x ++ y) = bytesOf x ++ bytesOf y := by
  unfold bytesOf
  rw [ByteArray.data_append, Array.toList_append, List.map_append]
theorem bytesOf_nums (l : List Int) (h : Bs l) : bytesOf (strOfNums l) = l := by
  unfold bytesOf strOfNums
  simp only [List.map_map]
  induction l with
  | nil => rfl
  | cons b t ih =>
    have hb := h b (List.mem_cons_self ..)
    simp only [List.map_cons, Function.comp]
    rw [ih (fun x hx => h x (List.mem_cons_of_mem _ hx))]
    congr 1
    rw [UInt8.toNat_ofNat']
    omega
theorem ulen_no (b d : Int) (t : List Int) (hd : d < 128) : ulen (b :: d :: t) = 0 := by
  unfold ulen rlo cont
  rw [rd_cons0, rd_cons1]
  split
  · rw [if_neg (by omega)]
  · split
    · rw [if_neg]
      rintro ⟨_, ⟨h, _⟩, _⟩
      split at h
      · omega
      · split at h <;> omega
    · split
      · rw [if_neg]
        rintro ⟨_, ⟨h, _⟩, _⟩
        split at h
        · omega
        · split at h <;> omega
      · rfl
theorem ctrl_iff (c : Int) (h0 : 0 ≤ c) (h1 : c < 256) : strS true 0 ([97, c, 99] ++ [34]) = some (([97, c, 99] : List Int).length + 1) ↔ (32 ≤ c ∧ c < 128 ∧ c ≠ 34 ∧ c ≠ 92) := by
  have e1 : stepN true (97 :: [c, 99, 34]) = 0 + 1 := stepN_ascii _ _ (by rw [rd_cons0]; decide) (by rw [rd_cons0]; decide) (by rw [rd_cons0]; decide)
  have e3 : stepN true (99 :: [34]) = 0 + 1 := stepN_ascii _ _ (by decide) (by decide) (by decide)
  have e4 : strS true 0 [34] = some 1 := rfl
  rw [show ([97, c, 99] ++ [34] : List Int) = 97 :: [c, 99, 34] from rfl, strS0s true 97 [c, 99, 34] 0 (by decide) e1, List.drop_zero]
  show Option.map (fun x => x + 1) (strS true 0 (c :: [99, 34])) = some 4 ↔ _
  by_cases k34 : c = 34
  · rw [k34, strS0, if_pos rfl]
    exact ⟨(fun h => by cases h), fun h => absurd rfl h.2.2.1⟩
  by_cases k92 : c = 92
  · subst k92
    have es : stepN true (92 :: [99, 34]) = 0 := by
      rw [stepN_esc _ _ rfl]
      unfold escN
      rw [if_neg (by decide), rd_cons1, if_neg (by decide), if_neg (by decide)]
    rw [strS0n true 92 _ (by decide) es]
    exact ⟨(fun h => by cases h), fun h => absurd rfl h.2.2.2⟩
  by_cases k32 : c < 32
  · rw [strS0n true c _ k34 (stepN_ctrl _ _ k32)]
    exact ⟨fun h => (by cases h), fun h => by omega⟩
  by_cases k128 : c < 128
  · have es : stepN true (c :: [99, 34]) = 0 + 1 := stepN_ascii _ _ k92 (by rw [rd_cons0]; omega) k128
    rw [strS0s true c _ 0 k34 es, List.drop_zero, strS0s true 99 _ 0 (by decide) e3, List.drop_zero, e4]
    exact ⟨fun _ => ⟨by omega, k128, k34, k92⟩, fun _ => rfl⟩
  · have es : stepN true (c :: [99, 34]) = 0 := by
      rw [stepN_rune _ _ (by rw [rd_cons0]; omega), ulen_no _ _ _ (by decide), if_pos rfl]
      rfl
    rw [strS0n true c _ k34 es]
    exact ⟨fun h => (by cases h), fun h => absurd h.2.1 k128⟩
set_option maxRecDepth 100000 in
set_option maxHeartbeats 4000000 in
theorem w8 (c : Int) (w : World) (V : Bool → Bool → List Int → Prop) (hV : ∀ d l, V d false (34 :: (l ++ [34])) ↔ strS true 0 (l ++ [34]) = some (l.length + 1)) (HI : Isv V w) :
    Calls Tryz.prog 8 #[.int .i64 c] w (Law w) := by
  by_cases h0 : c < 0
  · have d1 : decide (c < 0) = true := decide_eq_true h0
    clear hV HI
    go_enter Tryz.func8, Tryz.ntmps8
    go_wp2_with (fail)
    go_returns
    exact ⟨rfl, Below.refl _ _⟩
  · by_cases h1 : 255 < c
    · have d1 : decide (c < 0) = false := decide_eq_false h0
      have d2 : decide (255 < c) = true := decide_eq_true h1
      clear hV HI
      go_enter Tryz.func8, Tryz.ntmps8
      go_wp2_with (fail)
      go_returns
      exact ⟨rfl, Below.refl _ _⟩
    · have d1 : decide (c < 0) = false := decide_eq_false h0
      have d2 : decide (255 < c) = false := decide_eq_false h1
      have hb0 := below_alloc (Below.refl w.heap.size w) (.cells #[.int .u8 c] 5)
      have hrb : RB (w.alloc (.cells #[.int .u8 c] 5)) w.heap.size 0 [c] := by
        intro j hj
        have hj0 : j = 0 := by simpa using hj
        subst hj0
        exact cell_one_new w (.int .u8 c) 5 0 _ rfl
      have HCV := take_conv 1 w.heap.size 0 1 [c] _ hrb (by simp)
      have hbs : Bs [c] := by intro b hb; simp at hb; subst hb; omega
      rw [show ([c] : List Int).take 1 = [c] from rfl] at HCV
      have HST := Lib.hid (bytesOf_nums [c] hbs)
      have H16 := Lib.hid (fun (W : World) (x : ByteArray) (hW : Below w.heap.size w W) (hx : bytesOf x = 34 :: ([97, c, 99] ++ [34])) => (show Calls Tryz.prog 16 #[.string x, optsV false false] W (IsV (V false false (34 :: ([97, c, 99] ++ [34]))) W) from hx ▸ HI false false x W hW (by have := congrArg List.length hx; rw [bytesOf_length] at this; simp at this; omega) (by rw [hx]; intro b hb; simp at hb; subst hb; decide)))
      have HV := Lib.hid ((hV false [97, c, 99]).trans (ctrl_iff c (by omega) (by omega)))
      have HB0 := Lib.hid hb0
      have hcw : IntKind.u8.wrap c = c := by rw [IntKind.wrap_u8]; omega
      have hcm : c % 256 = c := by omega
      clear hV HI hrb hbs hb0
      generalize strOfNums [c] = str at *
      have hsz : str.size = 1 := by have := congrArg List.length HST.out; rw [bytesOf_length] at this; exact this
      have fin : ∀ f : Bool, (f = true ↔ (32 ≤ c ∧ c < 128 ∧ c ≠ 34 ∧ c ≠ 92)) → ∀ r : Bool, (r = true ↔ V false false (34 :: ([97, c, 99] ++ [34]))) → r = f := fun f hf r hr => Bool.eq_iff_iff.2 ((hr.trans HV.out).trans hf.symm)
      have FIN := Lib.hid fin
      clear fin
      by_cases k32 : 32 ≤ c
      · have e32 : decide (32 ≤ c) = true := decide_eq_true k32
        by_cases k128 : c < 128
        · have e128 : decide (c < 128) = true := decide_eq_true k128
          by_cases k34 : c = 34
          · have e34 : (c != 34) = false := by rw [bne_eq_false_iff_eq]; exact k34
            have FF := Lib.hid (FIN.out false ⟨(fun h => by cases h), fun h => absurd k34 h.2.2.1⟩)
            clear FIN HV k34
            go_enter Tryz.func8, Tryz.ntmps8
            go_wp2_with (fail)
            refine (H16.out _ _ HB0.out ?hx0).mono ?_
            case hx0 => rw [bytesOf_append, bytesOf_append, HST.out]; rfl
            rintro e w1 ⟨r, rfl, hr, hb⟩
            obtain rfl := FF.out r hr
            have HB1 := Lib.hid (HB0.out.trans (hb.mono HB0.out.size))
            clear hr hb
            go_wp2_with (fail)
            go_returns
            exact ⟨rfl, HB1.out⟩
          · have e34 : (c != 34) = true := by rw [bne_iff_ne]; exact k34
            by_cases k92 : c = 92
            · have e92 : (c != 92) = false := by rw [bne_eq_false_iff_eq]; exact k92
              have FF := Lib.hid (FIN.out false ⟨(fun h => by cases h), fun h => absurd k92 h.2.2.2⟩)
              clear FIN HV k92 k34
              go_enter Tryz.func8, Tryz.ntmps8
              go_wp2_with (fail)
              refine (H16.out _ _ HB0.out ?hx1).mono ?_
              case hx1 => rw [bytesOf_append, bytesOf_append, HST.out]; rfl
              rintro e w1 ⟨r, rfl, hr, hb⟩
              obtain rfl := FF.out r hr
              have HB1 := Lib.hid (HB0.out.trans (hb.mono HB0.out.size))
              clear hr hb
              go_wp2_with (fail)
              go_returns
              exact ⟨rfl, HB1.out⟩
            · have e92 : (c != 92) = true := by rw [bne_iff_ne]; exact k92
              have FF := Lib.hid (FIN.out true ⟨fun _ => ⟨k32, k128, k34, k92⟩, fun _ => rfl⟩)
              clear FIN HV k92 k34
              go_enter Tryz.func8, Tryz.ntmps8
              go_wp2_with (fail)
              refine (H16.out _ _ HB0.out ?hx2).mono ?_
              case hx2 => rw [bytesOf_append, bytesOf_append, HST.out]; rfl
              rintro e w1 ⟨r, rfl, hr, hb⟩
              obtain rfl := FF.out r hr
              have HB1 := Lib.hid (HB0.out.trans (hb.mono HB0.out.size))
              clear hr hb
              go_wp2_with (fail)
              go_returns
              exact ⟨rfl, HB1.out⟩
        · have e128 : decide (c < 128) = false := decide_eq_false k128
          have FF := Lib.hid (FIN.out false ⟨(fun h => by cases h), fun h => absurd h.2.1 k128⟩)
          clear FIN HV k128
          go_enter Tryz.func8, Tryz.ntmps8
          go_wp2_with (fail)
          refine (H16.out _ _ HB0.out ?hx3).mono ?_
          case hx3 => rw [bytesOf_append, bytesOf_append, HST.out]; rfl
          rintro e w1 ⟨r, rfl, hr, hb⟩
          obtain rfl := FF.out r hr
          have HB1 := Lib.hid (HB0.out.trans (hb.mono HB0.out.size))
          clear hr hb
          go_wp2_with (fail)
          go_returns
          exact ⟨rfl, HB1.out⟩
      · have e32 : decide (32 ≤ c) = false := decide_eq_false k32
        have FF := Lib.hid (FIN.out false ⟨(fun h => by cases h), fun h => absurd h.1 k32⟩)
        clear FIN HV k32
        go_enter Tryz.func8, Tryz.ntmps8
        go_wp2_with (fail)
        refine (H16.out _ _ HB0.out ?hx4).mono ?_
        case hx4 => rw [bytesOf_append, bytesOf_append, HST.out]; rfl
        rintro e w1 ⟨r, rfl, hr, hb⟩
        obtain rfl := FF.out r hr
        have HB1 := Lib.hid (HB0.out.trans (hb.mono HB0.out.size))
        clear hr hb
        go_wp2_with (fail)
        go_returns
        exact ⟨rfl, HB1.out⟩
end Go.Proofs.YtjfbkgkpjkickaaGreatDoor.PAll
