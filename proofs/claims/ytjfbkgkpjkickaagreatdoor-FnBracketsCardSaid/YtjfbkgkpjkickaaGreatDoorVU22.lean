/- The texts of a proof, its declarations alone: part 22. -/
import Derived.Deep.DeepCutAuto
import Derived.WalkMore
import Derived.Deep.Light
import Derived.Test.YtjfbkgkpjkickaaGreatDoorVU8
set_option linter.unusedVariables false
set_option linter.unusedSimpArgs false
-- YtjfbkgkpjkickaaGreatDoorBo1
set_option linter.unusedVariables false
set_option linter.unusedSimpArgs false
namespace Go.Proofs.YtjfbkgkpjkickaaGreatDoor.PAll
open Go.RowKit Go.Proofs.YtjfbkgkpjkickaaGreatDoorW.PrintWords Go.Proofs.YtjfbkgkpjkickaaGreatDoorW.PrintLast Go.Proofs.YtjfbkgkpjkickaaGreatDoorW.PrintMore

set_option maxRecDepth 100000 in
set_option maxHeartbeats 40000000 in
theorem f164 (v : Bool) (F B o c : Nat) (l : List Int) (f0 : Int) (w : World) (G : GV) (hS0 : StF w w G F B o l f0) (hl : 0 < l.length) (hl2 : l.length ≤ 4000000000) (hbs : Bs l) (hc : l.length ≤ c) (hc2 : c ≤ 9223372036854775807) (h0 : rd l 0 = 34) :
    Calls Tryz.prog 164 #[.pointer (some ⟨F, 0, none⟩), .slice (some ⟨B, o, none⟩) l.length c, .int .i64 0, .bool v] w (StrPost v l G F B o f0 w) := by
  have hc0 : w.cell? ⟨B, o, none⟩ = some (.int .u8 34) := by have := hS0.rb 0 hl; rw [show ((0 : Nat) : Int) = 0 from rfl, h0] at this; exact this
  have d1 : decide ((0 : Int) < (l.length : Int)) = true := decide_eq_true (by omega)
  have d2 : decide (0 < l.length) = true := decide_eq_true hl
  have d3 : ((l.length : Int) == 0) = false := by rw [beq_eq_false_iff_ne]; omega
  have HS0 := Lib.hid hS0
  have HBS := Lib.hid hbs
  have HST := Lib.hid (show RdF v l 1 f0 f0 from ⟨(simple_start l hl h0 v).1, fun _ => Reach.refl, id⟩)
  clear hS0 hbs h0
  go_enter Tryz.func164, Tryz.ntmps164
  go_wp2_with (fail)
  go_loopg [8, 2] l.length (fun kq v8 v2 w' => ∃ (i ro : Nat) (g : Int), v8 = .int .i64 i ∧ v2 = .int .i64 ro ∧ 1 ≤ i ∧ i ≤ l.length ∧ ro ≤ l.length ∧ Hid (RdF v l i f0 g) ∧ l.length ≤ kq + i ∧ Hid (StF w w' G F B o l g))
  case atStart => exact ⟨1, 0, f0, by first | rfl | go_num, rfl, by omega, by omega, by omega, HST, by omega, HS0⟩
  case round => as_aux_lemma =>
    obtain ⟨i, ro, g, rfl, rfl, hi1, hil, hrl, HRD, hk, HS⟩ := hrel
    obtain ⟨gko, rfl⟩ : ∃ x, x = gk := ⟨gk, rfl⟩
    clear HS0 HST hc0 d1 d2 d3
    by_cases hlt : i < l.length
    · have q1 : decide ((i : Int) < (l.length : Int)) = true := decide_eq_true (by go_light; omega)
      have q2 : decide (i < l.length) = true := decide_eq_true (by go_light; omega)
      go_wp2_with (fail)
      go_loopg [8] l.length (fun kq v8 w' => ∃ j : Nat, v8 = .int .i64 j ∧ i ≤ j ∧ j ≤ l.length ∧ Hid (RdF v l j f0 g) ∧ l.length ≤ kq + j ∧ wr = w')
      case atStart => exact ⟨i, rfl, by omega, by omega, HRD, by omega, rfl⟩
      case round => as_aux_lemma =>
        obtain ⟨j, rfl, hij, hjl, HJ, hk2, rfl⟩ := hrel
        by_cases hlt2 : j < l.length
        · obtain ⟨b, hb⟩ : ∃ b, rd l (j : Int) = b := ⟨_, rfl⟩
          have cb : wr.cell? ⟨B, o + j, none⟩ = some (.int .u8 b) := by have := HS.out.rb j hlt2; rw [hb] at this; exact this
          obtain ⟨kba, kbb⟩ : 0 ≤ b ∧ b < 256 := by have := HBS.out.rd j; rw [hb] at this; exact this
          have Hb := Lib.hid hb
          clear hb
          have q1 : decide ((j : Int) < (l.length : Int)) = true := decide_eq_true (by go_light; omega)
          have q2 : decide (j < l.length) = true := decide_eq_true (by go_light; omega)
          by_cases hn : noEsc b
          · have r1 : decide (noEsc b) = true := decide_eq_true hn
            go_wp2_with (go_at_call 180; refine (f180e _ _).mono ?_; rintro en w1 ⟨rfl, rfl⟩)
            go_roundg (gk - 1)
            case measure => go_light; omega
            case rel => exact ⟨j + 1, by go_num, by omega, by omega, Lib.hid (HJ.out.ascii hlt2 Hb.out hn), by omega, rfl⟩
          · have r1 : decide (noEsc b) = false := decide_eq_false hn
            have q3 : decide ((l.length : Int) ≤ (j : Int)) = false := decide_eq_false (by go_light; omega)
            have q4 : decide (l.length ≤ j) = false := decide_eq_false (by go_light; omega)
            by_cases h34 : b = 34
            · as_aux_lemma =>
                have r2 : (b == 34) = true := by rw [beq_iff_eq]; exact h34
                have HN := Lib.hid (show strEnd v l = some (j + 1) by rw [HJ.out.e, strF_step v l j hlt2, Hb.out, if_pos h34])
                clear h34 hn
                go_wp2_with (go_at_call 180; refine (f180e _ _).mono ?_; rintro en w1 ⟨rfl, rfl⟩)
                go_returns
                exact ⟨j + 1, _, g, by first | rfl | go_num, by omega, HS.out, HJ.out.m, .inl ⟨HN.out, rfl, fun h => HJ.out.r h⟩⟩
            · by_cases h92 : b = 92
              · as_aux_lemma =>
                  have r2 : (b == 34) = false := by rw [beq_eq_false_iff_ne]; exact h34
                  have H34 := Lib.hid h34
                  have C62 := Lib.hid (f62a B (o + j) (c - j) (l.drop j) b wr (HS.out.rb.sub j (o + j) (fun _ => rfl)) (by rw [List.length_drop]; omega) (by rw [List.length_drop]; omega) ((rd_drop0 l j).trans Hb.out) kba (by omega))
                  rw [List.length_drop] at C62
                  go_wp2_with (go_at_call 180; refine (f180e _ _).mono ?_; rintro en w1 ⟨rfl, rfl⟩)
                  refine C62.out.mono ?_
                  rintro en w1 ⟨rfl, rfl⟩
                  clear cb hn h34 kba kbb r1 r2 HRD
                  subst h92
                  go_wp2_with (fail)
                  refine (f177s HS.out 1 (.inl rfl)).mono ?_
                  rintro en w1 ⟨rfl, g1, hS1, hn1, hm1⟩
                  have HS1 := Lib.hid hS1
                  have HM1 := Lib.hid hm1
                  have HN1 := Lib.hid (hn1 (by decide))
                  clear hS1 hn1 hm1
                  by_cases h2 : j + 1 < l.length
                  · obtain ⟨e, he⟩ : ∃ e, rd l ((j + 1 : Nat) : Int) = e := ⟨_, rfl⟩
                    have ce : w1.cell? ⟨B, o + (j + 1), none⟩ = some (.int .u8 e) := by have := HS1.out.rb (j + 1) h2; rw [he] at this; exact this
                    obtain ⟨kea, keb⟩ : 0 ≤ e ∧ e < 256 := by have := HBS.out.rd (j + 1); rw [he] at this; exact this
                    have HE := Lib.hid he
                    clear he
                    have s1 : decide ((l.length : Int) < (j : Int) + 2) = false := decide_eq_false (by go_light; omega)
                    have s2 : decide (l.length < j + 2) = false := decide_eq_false (by go_light; omega)
                    by_cases t47 : e = 47
                    · as_aux_lemma =>
                        subst t47
                        have HG := Lib.hid (show strEnd v l = strF v l (j + 2) from HJ.out.go hlt2 Hb.out (by decide) (st_two v l j Hb.out h2 (by rw [HE.out]; decide)) (by decide))
                        go_wp2_with (fail)
                        refine (f177s HS1.out 2 (.inr (.inl rfl))).mono ?_
                        rintro en w2 ⟨rfl, g2, hS2, hn2, hm2⟩
                        have HS2 := Lib.hid hS2
                        have HM2 := Lib.hid hm2
                        clear hS2 hn2 hm2
                        go_wp2_with (fail)
                        go_roundg (gko - 1)
                        case measure => go_light; omega
                        case rel => exact ⟨j + 2, j, _, by first | rfl | go_num, rfl, by omega, by omega, by omega, Lib.hid ⟨HG.out, fun h => absurd (HM2.out HN1.out) h, fun _ => HM2.out HN1.out⟩, by omega, HS2⟩
                    · by_cases tesc : isEsc e
                      · have HG := Lib.hid (show strEnd v l = strF v l (j + 2) from HJ.out.go hlt2 Hb.out (by decide) (st_two v l j Hb.out h2 (by rw [HE.out]; exact tesc)) (by decide))
                        have te : e = 34 ∨ e = 92 ∨ e = 98 ∨ e = 102 ∨ e = 110 ∨ e = 114 ∨ e = 116 := by unfold isEsc at tesc; omega
                        clear tesc
                        rcases te with rfl | rfl | rfl | rfl | rfl | rfl | rfl
                        all_goals (as_aux_lemma =>
                          go_wp2_with (fail)
                          go_roundg (gko - 1)
                          case measure => go_light; omega
                          case rel => exact ⟨j + 2, j, _, by first | rfl | go_num, rfl, by omega, by omega, by omega, Lib.hid ⟨HG.out, fun h => absurd HN1.out h, fun _ => HN1.out⟩, by omega, HS1⟩)
                      · by_cases t117 : e = 117
                        · subst t117
                          clear t47 tesc
                          by_cases h6 : j + 6 ≤ l.length
                          · have u1 : decide ((l.length : Int) < (j : Int) + 6) = false := decide_eq_false (by go_light; omega)
                            have u2 : decide (l.length < j + 6) = false := decide_eq_false (by go_light; omega)
                            as_aux_lemma =>
                              have C65 := Lib.hid (f65 B o (c - (j + 2)) l (j + 2) w1 HS1.out.rb (by omega) (by omega))
                              cases hx : hex4 l (j + 2) with
                              | none =>
                                rw [hx] at C65
                                simp only [hexR] at C65
                                have HNO := Lib.hid (show strEnd v l = none from HJ.out.bad hlt2 Hb.out (by decide) (st_uNone v l j Hb.out HE.out hx))
                                clear hx
                                go_wp2_with (fail)
                                refine C65.out.mono ?_
                                rintro en w2 ⟨rfl, m, rfl⟩
                                go_wp2_with (fail)
                                refine (f177s (HS1.out.drewN m) 2 (.inr (.inl rfl))).mono ?_
                                rintro en w3 ⟨rfl, g3, hS3, hn3, hm3⟩
                                have HS3 := Lib.hid hS3
                                have HM3 := Lib.hid hm3
                                clear hS3 hn3 hm3
                                go_wp2_with (fail)
                                refine (f64g B _ _ _ w3 ?hcell ?hn64 ?hc64).mono ?_
                                case hcell => exact sub_cells HS3.out.rb (j) _ _ (by omega) (by omega)
                                case hn64 => omega
                                case hc64 => omega
                                rintro en w9 ⟨gg, rfl, hb⟩
                                have HB := Lib.hid hb
                                clear hb
                                go_wp2_with (fail)
                                go_returns
                                exact ⟨_, _, g3, rfl, by omega, HS3.out.next HB.out, fun _ => HM3.out HN1.out, .inr ⟨HNO.out, .inr ⟨gg, rfl⟩⟩⟩
                              | some v1 =>
                                rw [hx] at C65
                                simp only [hexR] at C65
                                obtain ⟨v1a, v1b⟩ := hex4_bd hx
                                have HX := Lib.hid hx
                                clear hx
                                go_wp2_with (fail)
                                refine C65.out.mono ?_
                                rintro en w2 ⟨rfl, m, rfl⟩
                                go_upto_block 7 with (fail)
                                go_cut [8] (fun s8 wx => ∃ gc : Int, s8 = .int .i64 j ∧ Hid (StF w wx G F B o l gc) ∧ Hid (nv gc))
                                case first => as_aux_lemma =>
                                  have H32a : (0 : Int) ≤ v1 := v1a
                                  by_cases c32 : 32 ≤ v1
                                  · have x8 : (v1 == 8) = false := by rw [beq_eq_false_iff_ne]; omega
                                    have x12 : (v1 == 12) = false := by rw [beq_eq_false_iff_ne]; omega
                                    have x10 : (v1 == 10) = false := by rw [beq_eq_false_iff_ne]; omega
                                    have x13 : (v1 == 13) = false := by rw [beq_eq_false_iff_ne]; omega
                                    have x9 : (v1 == 9) = false := by rw [beq_eq_false_iff_ne]; omega
                                    have x32 : decide (32 ≤ v1) = true := decide_eq_true (by go_light; omega)
                                    clear c32
                                    as_aux_lemma =>
                                    go_wp2_with (fail)
                                    refine (f177s (HS1.out.drewN m) 2 (.inr (.inl rfl))).mono ?_
                                    rintro en w3 ⟨rfl, g3, hS3, hn3, hm3⟩
                                    have HS3 := Lib.hid hS3
                                    have HM3 := Lib.hid hm3
                                    clear hS3 hn3 hm3
                                    go_wp2_with (fail)
                                    go_meet
                                    exact ⟨g3, rfl, HS3, Lib.hid (HM3.out HN1.out)⟩
                                  · by_cases c5 : v1 = 8 ∨ v1 = 12 ∨ v1 = 10 ∨ v1 = 13 ∨ v1 = 9
                                    · have C177 := fun w' => f177s (w := w) (wc := w') (G := G) (F := F) (B := B) (o := o) (l := l) (f := g1)
                                      clear C65 HX v1a v1b H32a c32
                                      rcases c5 with rfl | rfl | rfl | rfl | rfl
                                      all_goals (as_aux_lemma => (go_wp2_with (fail); refine (f177s (HS1.out.drewN m) 2 (.inr (.inl rfl))).mono ?_; rintro en w3 ⟨rfl, g3, hS3, hn3, hm3⟩; go_wp2_with (fail); go_meet; exact ⟨g3, rfl, Lib.hid hS3, Lib.hid (hm3 HN1.out)⟩))
                                    · have x8 : (v1 == 8) = false := by rw [beq_eq_false_iff_ne]; omega
                                      have x12 : (v1 == 12) = false := by rw [beq_eq_false_iff_ne]; omega
                                      have x10 : (v1 == 10) = false := by rw [beq_eq_false_iff_ne]; omega
                                      have x13 : (v1 == 13) = false := by rw [beq_eq_false_iff_ne]; omega
                                      have x9 : (v1 == 9) = false := by rw [beq_eq_false_iff_ne]; omega
                                      have x32 : decide (32 ≤ v1) = false := decide_eq_false (by go_light; omega)
                                      clear c32 c5
                                      go_upto_region 54 with (fail)
                                      go_cut [195, 196, 197] (fun s195 s196 s197 wx => ∃ mm cc : Nat, s195 = .slice (some ⟨B, o + (j + 2), none⟩) mm cc ∧ s196 = .int .i64 mm ∧ s197 = .int .i64 0 ∧ Hid (mm = 4) ∧ w1.drewN m = wx)
                                      case first => as_aux_lemma =>
                                        go_wp2_with (fail)
                                        go_meet
                                        exact ⟨_, _, rfl, by first | rfl | (congr 1; omega), rfl, Lib.hid (by omega), rfl⟩
                                      case rest => as_aux_lemma =>
                                        obtain ⟨mm, cc, rfl, rfl, rfl, HMM, rfl⟩ := hcut
                                        have hm4 : mm ≤ 4 := by have := HMM.out; omega
                                        go_wp2_with (fail)
                                        go_loopg [197] 4 (fun kq v197 w' => ∃ (t : Nat) (g' : Int), v197 = .int .i64 t ∧ t ≤ mm ∧ mm ≤ kq + t ∧ Hid (StF w w' G F B o l g') ∧ Hid (nv g'))
                                        case atStart => exact ⟨0, g1, rfl, by omega, by have := HMM.out; omega, Lib.hid (HS1.out.drewN m), HN1⟩
                                        case round => as_aux_lemma =>
                                          obtain ⟨t, g', rfl, ht4, hkt, HSt, HNt⟩ := hrel
                                          by_cases htl : t < mm
                                          · have y1 : decide ((t : Int) < (mm : Int)) = true := decide_eq_true (by go_light; omega)
                                            have y2 : decide (t < mm) = true := decide_eq_true (by go_light; omega)
                                            obtain ⟨d, hd⟩ : ∃ x, rd l ((j + 2 + t : Nat) : Int) = x := ⟨_, rfl⟩
                                            have cd : ∀ w', Hid (StF w w' G F B o l g') → w'.cell? ⟨B, o + (j + 2) + t, none⟩ = some (.int .u8 d) := fun w' H => by have h4 := HMM.out; have := H.out.rb (j + 2 + t) (by omega); rw [hd, ← Nat.add_assoc] at this; exact this
                                            have cd := cd _ HSt
                                            clear hd
                                            by_cases e1 : 65 ≤ d
                                            · by_cases e2 : d ≤ 70
                                              · have z1 : decide (65 ≤ d) = true := decide_eq_true (by go_light; omega)
                                                have z2 : decide (d ≤ 70) = true := decide_eq_true (by go_light; omega)
                                                go_wp2_with (fail)
                                                refine (f177s HSt.out 2 (.inr (.inl rfl))).mono ?_
                                                rintro en w3 ⟨rfl, g3, hS3, hn3, hm3⟩
                                                have HS3 := Lib.hid hS3
                                                have HN3 := Lib.hid (hm3 HNt.out)
                                                clear hS3 hn3 hm3
                                                go_wp2_with (fail)
                                                go_roundg (gk - 1)
                                                case measure => go_light; omega
                                                case rel => exact ⟨t + 1, g3, by first | rfl | go_num, by omega, by omega, HS3, HN3⟩
                                              · have z1 : decide (65 ≤ d) = true := decide_eq_true (by go_light; omega)
                                                have z2 : decide (d ≤ 70) = false := decide_eq_false (by go_light; omega)
                                                go_wp2_with (fail)
                                                go_roundg (gk - 1)
                                                case measure => go_light; omega
                                                case rel => exact ⟨t + 1, g', by first | rfl | go_num, by omega, by omega, HSt, HNt⟩
                                            · have z1 : decide (65 ≤ d) = false := decide_eq_false (by go_light; omega)
                                              go_wp2_with (fail)
                                              go_roundg (gk - 1)
                                              case measure => go_light; omega
                                              case rel => exact ⟨t + 1, g', by first | rfl | go_num, by omega, by omega, HSt, HNt⟩
                                          · have y1 : decide ((t : Int) < (mm : Int)) = false := decide_eq_false (by go_light; omega)
                                            have y2 : decide (t < mm) = false := decide_eq_false (by go_light; omega)
                                            go_wp2_with (fail)
                                            go_meet
                                            exact ⟨g', rfl, HSt, HNt⟩
                                case rest => as_aux_lemma =>
                                  obtain ⟨gc, rfl, HSc, HNc⟩ := hcut
                                  clear HS1 HN1 HM1 C65 HS
                                  go_upto_region 67 with (fail)
                                  go_cut [8, 18] (fun s8 s18 wx => ∃ p : Nat, s8 = .int .i64 p ∧ Hid (p = j + 6 ∧ p + 2 = j + 8) ∧ s18 = .int .i32 v1 ∧ wc = wx)
                                  case first => as_aux_lemma =>
                                    have hw : wrap32 v1 = v1 := by unfold wrap32; omega
                                    go_wp2_with (fail)
                                    go_meet
                                    exact ⟨j + 6, by first | rfl | go_num, Lib.hid ⟨rfl, rfl⟩, by first | rfl | go_num, rfl⟩
                                  case rest => as_aux_lemma =>
                                    obtain ⟨p, rfl, HP, rfl, rfl⟩ := hcut
                                    have hpl : p ≤ l.length := by have := HP.out; omega
                                    have hp6 : 6 ≤ p := by have := HP.out; omega
                                    have hpm : (p : Int) - 6 = (j : Int) := by have := HP.out; omega
                                    have hjp : j + 6 ≤ p := by have := HP.out; omega
                                    cases v with
                                    | false =>
                                      have HG := Lib.hid (show strEnd false l = strF false l p by rw [HP.out.1]; exact HJ.out.go hlt2 Hb.out (by decide) (st_uPlain false l j Hb.out HE.out HX.out (fun h => nomatch h.1)) (by decide))
                                      go_wp2_with (fail)
                                      have hpj := HP.out.1
                                      go_roundg (gko - 1)
                                      case measure => go_light; omega
                                      case rel => exact ⟨p, j, _, by first | rfl | go_num, rfl, by omega, by omega, by omega, Lib.hid ⟨HG.out, fun h => absurd HNc.out h, fun _ => HNc.out⟩, by omega, HSc⟩
                                    | true =>
                                      have C66 := Lib.hid (f66 v1 wc)
                                      by_cases hsur : 55296 ≤ v1 ∧ v1 ≤ 57343
                                      · rw [decide_eq_true hsur] at C66
                                        go_wp2_with (fail)
                                        refine C66.out.mono ?_
                                        rintro en w5 ⟨rfl, m5, rfl⟩
                                        by_cases hps : p + 6 ≤ l.length
                                        · have u3 : decide ((l.length : Int) < (p : Int) + 6) = false := decide_eq_false (by go_light; omega)
                                          have u4 : decide (l.length < p + 6) = false := decide_eq_false (by go_light; omega)
                                          obtain ⟨⟨x2, ok2⟩, hr2⟩ : ∃ r2, hexR (hex4 l (p + 2)) = r2 := ⟨_, rfl⟩
                                          have C65 := f65 B o (c - (p + 2)) l (p + 2) (wc.drewN m5) (HSc.out.drewN m5).rb (by omega) (by omega)
                                          rw [hr2] at C65
                                          have H65 := Lib.hid C65
                                          have HR2 := Lib.hid hr2
                                          clear C65 hr2
                                          go_wp2_with (fail)
                                          refine H65.out.mono ?_
                                          rintro en w6 ⟨rfl, hd6⟩
                                          have HS6 := Lib.hid ((HSc.out.drewN m5).next hd6.below)
                                          clear hd6
                                          obtain ⟨b6, hb6⟩ : ∃ x, rd l (p : Int) = x := ⟨_, rfl⟩
                                          obtain ⟨b7, hb7⟩ : ∃ x, rd l ((p + 1 : Nat) : Int) = x := ⟨_, rfl⟩
                                          have c6 : w6.cell? ⟨B, o + p, none⟩ = some (.int .u8 b6) := by have := HS6.out.rb p (by omega); rw [hb6] at this; exact this
                                          have c7 : w6.cell? ⟨B, o + (p + 1), none⟩ = some (.int .u8 b7) := by have := HS6.out.rb (p + 1) (by omega); rw [hb7] at this; exact this
                                          have Hb6 := Lib.hid hb6
                                          have Hb7 := Lib.hid hb7
                                          clear hb6 hb7
                                          by_cases h6 : b6 = 92
                                          · have y6 : (b6 != 92) = false := by rw [bne_eq_false_iff_eq]; exact h6
                                            by_cases h7 : b7 = 117
                                            · have y7 : (b7 != 117) = false := by rw [bne_eq_false_iff_eq]; exact h7
                                              have H6 := Lib.hid h6
                                              have H7 := Lib.hid h7
                                              clear h6 h7
                                              cases ok2 with
                                              | false =>
                                                have HNO := Lib.hid (show strEnd true l = none from HJ.out.pairNo hlt2 Hb.out HE.out HX.out hsur HP.out.1 (fun h => by obtain ⟨_, _, _, _, v2, h, _⟩ := h; rw [hexR_false HR2.out] at h; cases h))
                                                as_aux_lemma =>
                                                  go_wp2_with (fail)
                                                  refine (f177s HS6.out 2 (.inr (.inl rfl))).mono ?_
                                                  rintro en w7 ⟨rfl, g7, hS7, hn7, hm7⟩
                                                  have HS7 := Lib.hid hS7
                                                  have HM7 := Lib.hid hm7
                                                  clear hS7 hn7 hm7
                                                  go_wp2_with (fail)
                                                  refine (f64g B _ _ _ w7 ?hcell ?hn64 ?hc64).mono ?_
                                                  case hcell => exact sub_cells HS7.out.rb (j) _ _ (by omega) (by omega)
                                                  case hn64 => omega
                                                  case hc64 => omega
                                                  rintro en w9 ⟨gg, rfl, hb⟩
                                                  have HB := Lib.hid hb
                                                  clear hb
                                                  go_wp2_with (fail)
                                                  go_returns
                                                  exact ⟨j, _, g7, rfl, by omega, HS7.out.next HB.out, fun _ => HM7.out HNc.out, .inr ⟨HNO.out, .inr ⟨gg, rfl⟩⟩⟩
                                              | true =>
                                                have hx2 := hexR_true HR2.out
                                                obtain ⟨x2a, x2b⟩ := hex4_bd hx2
                                                have HX2 := Lib.hid hx2
                                                clear hx2
                                                have hw1 : wrap32 v1 = v1 := by unfold wrap32; omega
                                                have hw2 : wrap32 x2 = x2 := by unfold wrap32; omega
                                                have C68 := f68 v1 x2 w6
                                                by_cases hv : 55296 ≤ v1 ∧ v1 < 56320 ∧ 56320 ≤ x2 ∧ x2 < 57344
                                                · have HG := Lib.hid (show strEnd true l = strF true l (p + 6) from HJ.out.pairYes hlt2 Hb.out HE.out HX.out hsur HP.out.1 ⟨by omega, hps, by rw [Hb6.out, H6.out], by rw [Hb7.out, H7.out], x2, HX2.out, by omega, by omega⟩)
                                                  have y8 : (pairR v1 x2 == 65533) = false := by rw [beq_eq_false_iff_ne]; exact fun h => (pairR_ne v1 x2).1 h hv
                                                  generalize pairR v1 x2 = pr at *
                                                  have H68 := Lib.hid C68
                                                  clear C68 hv
                                                  as_aux_lemma =>
                                                  go_wp2_with (fail)
                                                  refine H68.out.mono ?_
                                                  rintro en w7 ⟨rfl, hd7⟩
                                                  have HS7 := Lib.hid (HS6.out.next hd7.below)
                                                  clear hd7
                                                  go_wp2_with (fail)
                                                  have hpj := HP.out.1
                                                  go_roundg (gko - 1)
                                                  case measure => go_light; omega
                                                  case rel => exact ⟨p + 6, j, _, by first | rfl | go_num, rfl, by omega, by omega, by omega, Lib.hid ⟨HG.out, fun h => absurd HNc.out h, fun _ => HNc.out⟩, by omega, HS7⟩
                                                · have HNO := Lib.hid (show strEnd true l = none from HJ.out.pairNo hlt2 Hb.out HE.out HX.out hsur HP.out.1 (fun h => by obtain ⟨h1, _, _, _, v2, h, h2, h3⟩ := h; rw [HX2.out] at h; injection h with h; exact hv ⟨hsur.1, h1, by omega, by omega⟩))
                                                  have y8 : (pairR v1 x2 == 65533) = true := by rw [beq_iff_eq]; exact (pairR_ne v1 x2).2 hv
                                                  generalize pairR v1 x2 = pr at *
                                                  have H68 := Lib.hid C68
                                                  clear C68 hv
                                                  as_aux_lemma =>
                                                  go_wp2_with (fail)
                                                  refine H68.out.mono ?_
                                                  rintro en w7 ⟨rfl, hd7⟩
                                                  have HS7 := Lib.hid (HS6.out.next hd7.below)
                                                  clear hd7
                                                  go_wp2_with (fail)
                                                  refine (f177s HS7.out 2 (.inr (.inl rfl))).mono ?_
                                                  rintro en w8 ⟨rfl, g8, hS8, hn8, hm8⟩
                                                  have HS8 := Lib.hid hS8
                                                  have HM8 := Lib.hid hm8
                                                  clear hS8 hn8 hm8
                                                  go_wp2_with (fail)
                                                  refine (f64g B _ _ _ w8 ?hcell ?hn64 ?hc64).mono ?_
                                                  case hcell => exact sub_cells HS8.out.rb (j) _ _ (by omega) (by omega)
                                                  case hn64 => omega
                                                  case hc64 => omega
                                                  rintro en w9 ⟨gg, rfl, hb⟩
                                                  have HB := Lib.hid hb
                                                  clear hb
                                                  go_wp2_with (fail)
                                                  go_returns
                                                  exact ⟨j, _, g8, rfl, by omega, HS8.out.next HB.out, fun _ => HM8.out HNc.out, .inr ⟨HNO.out, .inr ⟨gg, rfl⟩⟩⟩
                                            · have y7 : (b7 != 117) = true := by rw [bne_iff_ne]; exact h7
                                              have HNO := Lib.hid (show strEnd true l = none from HJ.out.pairNo hlt2 Hb.out HE.out HX.out hsur HP.out.1 (fun h => h7 (Hb7.out ▸ h.2.2.2.1)))
                                              clear h6 h7
                                              as_aux_lemma =>
                                                go_wp2_with (fail)
                                                refine (f177s HS6.out 2 (.inr (.inl rfl))).mono ?_
                                                rintro en w7 ⟨rfl, g7, hS7, hn7, hm7⟩
                                                have HS7 := Lib.hid hS7
                                                have HM7 := Lib.hid hm7
                                                clear hS7 hn7 hm7
                                                go_wp2_with (fail)
                                                refine (f64g B _ _ _ w7 ?hcell ?hn64 ?hc64).mono ?_
                                                case hcell => exact sub_cells HS7.out.rb (j) _ _ (by omega) (by omega)
                                                case hn64 => omega
                                                case hc64 => omega
                                                rintro en w9 ⟨gg, rfl, hb⟩
                                                have HB := Lib.hid hb
                                                clear hb
                                                go_wp2_with (fail)
                                                go_returns
                                                exact ⟨j, _, g7, rfl, by omega, HS7.out.next HB.out, fun _ => HM7.out HNc.out, .inr ⟨HNO.out, .inr ⟨gg, rfl⟩⟩⟩
                                          · have y6 : (b6 != 92) = true := by rw [bne_iff_ne]; exact h6
                                            have HNO := Lib.hid (show strEnd true l = none from HJ.out.pairNo hlt2 Hb.out HE.out HX.out hsur HP.out.1 (fun h => h6 (Hb6.out ▸ h.2.2.1)))
                                            clear h6
                                            as_aux_lemma =>
                                              go_wp2_with (fail)
                                              refine (f177s HS6.out 2 (.inr (.inl rfl))).mono ?_
                                              rintro en w7 ⟨rfl, g7, hS7, hn7, hm7⟩
                                              have HS7 := Lib.hid hS7
                                              have HM7 := Lib.hid hm7
                                              clear hS7 hn7 hm7
                                              go_wp2_with (fail)
                                              refine (f64g B _ _ _ w7 ?hcell ?hn64 ?hc64).mono ?_
                                              case hcell => exact sub_cells HS7.out.rb (j) _ _ (by omega) (by omega)
                                              case hn64 => omega
                                              case hc64 => omega
                                              rintro en w9 ⟨gg, rfl, hb⟩
                                              have HB := Lib.hid hb
                                              clear hb
                                              go_wp2_with (fail)
                                              go_returns
                                              exact ⟨j, _, g7, rfl, by omega, HS7.out.next HB.out, fun _ => HM7.out HNc.out, .inr ⟨HNO.out, .inr ⟨gg, rfl⟩⟩⟩
                                        · have u3 : decide ((l.length : Int) < (p : Int) + 6) = true := decide_eq_true (by go_light; omega)
                                          have u4 : decide (l.length < p + 6) = true := decide_eq_true (by go_light; omega)
                                          have HNO := Lib.hid (show strEnd true l = none from HJ.out.pairNo hlt2 Hb.out HE.out HX.out hsur HP.out.1 (fun h => hps h.2.1))
                                          obtain ⟨off, ho, _, hsl⟩ := sub22 B o p l.length c (by omega) hc
                                          have C63 := Lib.hid (f63 B off (c - p) (l.drop p) true (wc.drewN m5) ((HSc.out.drewN m5).rb.sub p off ho) (by rw [List.length_drop]; omega) (by rw [List.length_drop]; omega))
                                          rw [List.length_drop] at C63
                                          go_wp2_with (fail)
                                          refine C63.out.mono ?_
                                          rintro en w6 ⟨r, rfl, hd6⟩
                                          have HS6 := Lib.hid ((HSc.out.drewN m5).next hd6.below)
                                          clear hd6
                                          have hu := HS6.out.env.h1
                                          cases r with
                                          | true =>
                                            go_wp2_with (fail)
                                            go_quiet (fail)
                                            go_wp2_with (fail)
                                            go_returns
                                            exact ⟨j, _, gc, rfl, by omega, by repeat (first | exact HS6.out | refine StF.drewN ?_ _), fun _ => HNc.out, .inr ⟨HNO.out, .inl ⟨_, rfl, .inl rfl⟩⟩⟩
                                          | false =>
                                            go_wp2_with (fail)
                                            refine (f177s HS6.out 2 (.inr (.inl rfl))).mono ?_
                                            rintro en w7 ⟨rfl, g7, hS7, hn7, hm7⟩
                                            have HS7 := Lib.hid hS7
                                            have HM7 := Lib.hid hm7
                                            clear hS7 hn7 hm7
                                            go_wp2_with (fail)
                                            refine (f64g B _ _ _ w7 ?hcell ?hn64 ?hc64).mono ?_
                                            case hcell => exact sub_cells HS7.out.rb (j) _ _ (by omega) (by omega)
                                            case hn64 => omega
                                            case hc64 => omega
                                            rintro en w9 ⟨gg, rfl, hb⟩
                                            have HB := Lib.hid hb
                                            clear hb
                                            go_wp2_with (fail)
                                            go_returns
                                            exact ⟨j, _, g7, rfl, by omega, HS7.out.next HB.out, fun _ => HM7.out HNc.out, .inr ⟨HNO.out, .inr ⟨gg, rfl⟩⟩⟩
                                      · rw [decide_eq_false hsur] at C66
                                        have HG := Lib.hid (show strEnd true l = strF true l p by rw [HP.out.1]; exact HJ.out.go hlt2 Hb.out (by decide) (st_uPlain true l j Hb.out HE.out HX.out (fun h => hsur h.2)) (by decide))
                                        go_wp2_with (fail)
                                        refine C66.out.mono ?_
                                        rintro en w5 ⟨rfl, m5, rfl⟩
                                        go_wp2_with (fail)
                                        have hpj := HP.out.1
                                        go_roundg (gko - 1)
                                        case measure => go_light; omega
                                        case rel => exact ⟨p, j, _, by first | rfl | go_num, rfl, by omega, by omega, by omega, Lib.hid ⟨HG.out, fun h => absurd HNc.out h, fun _ => HNc.out⟩, by omega, Lib.hid (HSc.out.drewN _)⟩
                          · have u1 : decide ((l.length : Int) < (j : Int) + 6) = true := decide_eq_true (by go_light; omega)
                            have u2 : decide (l.length < j + 6) = true := decide_eq_true (by go_light; omega)
                            as_aux_lemma =>
                              have C63 := Lib.hid (f63 B (o + j) (c - j) (l.drop j) false w1 (HS1.out.rb.sub j (o + j) (fun _ => rfl)) (by rw [List.length_drop]; omega) (by rw [List.length_drop]; omega))
                              rw [List.length_drop] at C63
                              have HNO := Lib.hid (show strEnd v l = none from HJ.out.bad hlt2 Hb.out (by decide) (st_uNone v l j Hb.out HE.out (by unfold hex4; rw [if_neg (by omega)])))
                              have hu := HS1.out.env.h1
                              go_wp2_with (fail)
                              refine C63.out.mono ?_
                              rintro en w2 ⟨r, rfl, m, rfl⟩
                              cases r with
                              | true =>
                                go_wp2_with (fail)
                                go_quiet (fail)
                                go_wp2_with (fail)
                                go_returns
                                exact ⟨j, _, g1, rfl, by omega, by repeat (first | exact HS1.out | refine StF.drewN ?_ _), fun _ => HN1.out, .inr ⟨HNO.out, .inl ⟨_, rfl, .inl rfl⟩⟩⟩
                              | false =>
                                go_wp2_with (fail)
                                refine (f177s (HS1.out.drewN m) 2 (.inr (.inl rfl))).mono ?_
                                rintro en w3 ⟨rfl, g3, hS3, hn3, hm3⟩
                                have HS3 := Lib.hid hS3
                                have HM3 := Lib.hid hm3
                                clear hS3 hn3 hm3
                                go_wp2_with (fail)
                                refine (f64g B _ _ _ w3 ?hcell ?hn64 ?hc64).mono ?_
                                case hcell => exact sub_cells HS3.out.rb (j) _ _ (by omega) (by omega)
                                case hn64 => omega
                                case hc64 => omega
                                rintro en w9 ⟨gg, rfl, hb⟩
                                have HB := Lib.hid hb
                                clear hb
                                go_wp2_with (fail)
                                go_returns
                                exact ⟨_, _, g3, rfl, by omega, HS3.out.next HB.out, fun _ => HM3.out HN1.out, .inr ⟨HNO.out, .inr ⟨gg, rfl⟩⟩⟩
                        · as_aux_lemma =>
                          have HNO := Lib.hid (show strEnd v l = none from HJ.out.bad hlt2 Hb.out (by decide) (st_bad v l j Hb.out (by rw [HE.out]; exact tesc) (by rw [HE.out]; exact t117)))
                          have te : e ≠ 34 ∧ e ≠ 92 ∧ e ≠ 98 ∧ e ≠ 102 ∧ e ≠ 110 ∧ e ≠ 114 ∧ e ≠ 116 := by unfold isEsc at tesc; omega
                          have x47 : (e == 47) = false := by rw [beq_eq_false_iff_ne]; omega
                          have x34 : (e == 34) = false := by rw [beq_eq_false_iff_ne]; omega
                          have x92 : (e == 92) = false := by rw [beq_eq_false_iff_ne]; omega
                          have x98 : (e == 98) = false := by rw [beq_eq_false_iff_ne]; omega
                          have x102 : (e == 102) = false := by rw [beq_eq_false_iff_ne]; omega
                          have x110 : (e == 110) = false := by rw [beq_eq_false_iff_ne]; omega
                          have x114 : (e == 114) = false := by rw [beq_eq_false_iff_ne]; omega
                          have x116 : (e == 116) = false := by rw [beq_eq_false_iff_ne]; omega
                          have x117 : (e == 117) = false := by rw [beq_eq_false_iff_ne]; omega
                          clear te tesc t47 t117
                          go_wp2_with (fail)
                          refine (f177s HS1.out 2 (.inr (.inl rfl))).mono ?_
                          rintro en w2 ⟨rfl, g2, hS2, hn2, hm2⟩
                          have HS2 := Lib.hid hS2
                          have HM2 := Lib.hid hm2
                          clear hS2 hn2 hm2
                          go_wp2_with (fail)
                          refine (f64g B _ _ _ w2 ?hcell ?hn64 ?hc64).mono ?_
                          case hcell => exact sub_cells HS2.out.rb (j) _ _ (by omega) (by omega)
                          case hn64 => omega
                          case hc64 => omega
                          rintro en w9 ⟨gg, rfl, hb⟩
                          have HB := Lib.hid hb
                          clear hb
                          go_wp2_with (fail)
                          go_returns
                          exact ⟨_, _, g2, rfl, by omega, HS2.out.next HB.out, fun _ => HM2.out HN1.out, .inr ⟨HNO.out, .inr ⟨gg, rfl⟩⟩⟩
                  · have s1 : decide ((l.length : Int) < (j : Int) + 2) = true := decide_eq_true (by go_light; omega)
                    have s2 : decide (l.length < j + 2) = true := decide_eq_true (by go_light; omega)
                    as_aux_lemma =>
                      have HNO := Lib.hid (show strEnd v l = none from HJ.out.bad hlt2 Hb.out (by decide) (st_short v l j Hb.out h2))
                      have hu := HS1.out.env.h1
                      go_wp2_with (fail)
                      go_quiet (fail)
                      go_wp2_with (fail)
                      go_returns
                      exact ⟨j, _, g1, rfl, by omega, by repeat (first | exact HS1.out | refine StF.drewN ?_ _), fun _ => HN1.out, .inr ⟨HNO.out, .inl ⟨_, rfl, .inl rfl⟩⟩⟩
              · by_cases h32 : b < 32
                · as_aux_lemma =>
                    have r2 : (b == 34) = false := by rw [beq_eq_false_iff_ne]; exact h34
                    have H34 := Lib.hid h34
                    have C62 := Lib.hid (f62a B (o + j) (c - j) (l.drop j) b wr (HS.out.rb.sub j (o + j) (fun _ => rfl)) (by rw [List.length_drop]; omega) (by rw [List.length_drop]; omega) ((rd_drop0 l j).trans Hb.out) kba (by omega))
                    rw [List.length_drop] at C62
                    go_wp2_with (go_at_call 180; refine (f180e _ _).mono ?_; rintro en w1 ⟨rfl, rfl⟩)
                    refine C62.out.mono ?_
                    rintro en w1 ⟨rfl, rfl⟩
                    have x92 : (b == 92) = false := by rw [beq_eq_false_iff_ne]; omega
                    have x65 : (b == 65533) = false := by rw [beq_eq_false_iff_ne]; omega
                    have x32 : decide (b < 32) = true := decide_eq_true (by go_light; omega)
                    have HNO := Lib.hid (show strEnd v l = none from HJ.out.bad hlt2 Hb.out H34.out (stepN_ctrl v _ (by rw [rd_drop0, Hb.out]; exact h32)))
                    go_wp2_with (fail)
                    refine (f177s HS.out 3 (.inr (.inr rfl))).mono ?_
                    rintro en w1 ⟨rfl, g1, hS1, hn1, hm1⟩
                    have HS1 := Lib.hid hS1
                    have HM1 := Lib.hid hm1
                    have HN1 := Lib.hid (hn1 (by decide))
                    clear hS1 hn1 hm1
                    have C60 := Lib.hid (fun s' => f60 B (o + j) (c - j) (l.drop j) s' w1 G HS1.out.env (HS1.out.rb.sub j (o + j) (fun _ => rfl)) (by rw [List.length_drop]; omega) (by rw [List.length_drop]; omega) (HBS.out.drop j) (by rw [List.length_drop]; omega) (by omega))
                    rw [List.length_drop] at C60
                    go_wp2_with (fail)
                    refine (C60.out _).mono ?_
                    rintro en w9 ⟨gg, rfl, hb⟩
                    have HB := Lib.hid hb
                    clear hb
                    go_wp2_with (fail)
                    go_returns
                    exact ⟨_, _, g1, rfl, by omega, HS1.out.next HB.out, fun _ => HN1.out, .inr ⟨HNO.out, .inr ⟨gg, rfl⟩⟩⟩
                · as_aux_lemma =>
                    have h128 : 128 ≤ b := by
                      unfold noEsc at hn
                      omega
                    have r2 : (b == 34) = false := by rw [beq_eq_false_iff_ne]; exact h34
                    have hd0 : rd (l.drop j) 0 = b := (rd_drop0 l j).trans Hb.out
                    have C62 := Lib.hid (f62b B (o + j) (c - j) (l.drop j) wr G HS.out.env (HS.out.rb.sub j (o + j) (fun _ => rfl)) (by rw [List.length_drop]; omega) (by rw [List.length_drop]; omega) (HBS.out.drop j) (by rw [hd0]; exact h128))
                    rw [List.length_drop] at C62
                    have HD0 := Lib.hid hd0
                    clear hd0
                    by_cases hul : ulen (l.drop j) = 0
                    · have HUL := Lib.hid hul
                      go_wp2_with (go_at_call 180; refine (f180e _ _).mono ?_; rintro en w1 ⟨rfl, rfl⟩)
                      refine C62.out.mono ?_
                      rintro en w1 ⟨r, rfl, hr65, hb1⟩
                      obtain rfl := hr65 hul
                      have HS1 := Lib.hid (HS.out.next hb1)
                      clear hb1 hr65
                      rw [if_pos hul]
                      clear hul
                      have C69 := Lib.hid (f69 B (o + j) (c - j) (l.drop j) w1 G HS1.out.env (HS1.out.rb.sub j (o + j) (fun _ => rfl)) (by rw [List.length_drop]; omega) (by rw [List.length_drop]; omega) (HBS.out.drop j) (by rw [HD0.out]; exact h128))
                      rw [List.length_drop] at C69
                      have hstep : stepN v (l.drop j) = if v then 0 else 1 := by rw [stepN_rune v _ (by rw [HD0.out]; exact h128), if_pos HUL.out]
                      have HSTEP := Lib.hid hstep
                      clear hstep
                      go_wp2_with (fail)
                      refine C69.out.mono ?_
                      rintro en w2 ⟨r, rfl, hhi, hb2⟩
                      have HS2 := Lib.hid (HS1.out.next hb2)
                      clear hb2
                      cases r with
                      | false =>
                        have HNO := Lib.hid (show strEnd v l = none by rw [HJ.out.e]; unfold strF; rw [strS_high 0 _ v (hhi rfl)]; rfl)
                        clear hhi
                        have hu := HS2.out.env.h1
                        go_wp2_with (fail)
                        go_quiet (fail)
                        go_wp2_with (fail)
                        go_returns
                        exact ⟨j, _, g, rfl, by omega, by repeat (first | exact HS2.out | refine StF.drewN ?_ _), HJ.out.m, .inr ⟨HNO.out, .inl ⟨_, rfl, .inl rfl⟩⟩⟩
                      | true =>
                        clear hhi
                        go_wp2_with (fail)
                        refine (f177s HS2.out 3 (.inr (.inr rfl))).mono ?_
                        rintro en w3 ⟨rfl, g3, hS3, hn3, hm3⟩
                        have HS3 := Lib.hid hS3
                        have HM3 := Lib.hid hm3
                        have HN3 := Lib.hid (hn3 (by decide))
                        clear hS3 hn3 hm3
                        have hu := HS3.out.env.h2
                        cases v with
                        | true =>
                          have HNO := Lib.hid (show strEnd true l = none from HJ.out.bad hlt2 Hb.out h34 (by rw [HSTEP.out]; rfl))
                          go_wp2_with (fail)
                          go_quiet (fail)
                          go_wp2_with (fail)
                          go_returns
                          exact ⟨j, _, g3, rfl, by omega, by repeat (first | exact HS3.out | refine StF.drewN ?_ _), fun _ => HN3.out, .inr ⟨HNO.out, .inl ⟨_, rfl, .inr (.inl rfl)⟩⟩⟩
                        | false =>
                          have HG := Lib.hid (show strEnd false l = strF false l (j + 1) from HJ.out.go hlt2 Hb.out h34 HSTEP.out (by decide))
                          go_wp2_with (fail)
                          go_roundg (gko - 1)
                          case measure => go_light; omega
                          case rel => exact ⟨j + 1, ro, _, by first | rfl | go_num, rfl, by omega, by omega, by omega, Lib.hid ⟨HG.out, fun h => absurd HN3.out h, fun _ => HN3.out⟩, by omega, HS3⟩
                    · have hle := ulen_le (l.drop j)
                      rw [List.length_drop] at hle
                      have hge : 2 ≤ ulen (l.drop j) := ulen_two _ hul
                      have HST := Lib.hid (show stepN v (l.drop j) = ulen (l.drop j) by rw [stepN_rune v _ (by rw [HD0.out]; exact h128), if_neg hul])
                      have HRN := Lib.hid (HJ.out.rune hlt2 Hb.out h34 (by omega) (fun _ => hul) HST.out hul)
                      have C62u : Calls Tryz.prog 62 #[.slice (some ⟨B, o + j, none⟩) (l.length - j) (c - j)] wr (fun e w' => ∃ r : Int, e = .returned (.tuple #[.int .i32 r, .int .i64 ((ulen (l.drop j) : Nat) : Int)]) ∧ Below wr.heap.size wr w') := C62.out.mono (fun e w' ⟨r, h1, _, h2⟩ => ⟨r, by rw [h1, if_neg hul], h2⟩)
                      have CU := Lib.hid C62u
                      clear C62 C62u
                      clear HST
                      generalize ulen (l.drop j) = u at *
                      have x1 : ((u : Int) == 1) = false := by rw [beq_eq_false_iff_ne]; omega
                      have u1 : decide ((1 : Int) < (u : Int)) = true := decide_eq_true (by go_light; omega)
                      have u2 : decide (1 < u) = true := decide_eq_true (by go_light; omega)
                      go_wp2_with (go_at_call 180; refine (f180e _ _).mono ?_; rintro en w1 ⟨rfl, rfl⟩)
                      refine CU.out.mono ?_
                      rintro en w1 ⟨r, rfl, hb1⟩
                      have HS1 := Lib.hid (HS.out.next hb1)
                      clear hb1
                      go_wp2_with (fail)
                      go_roundg (gko - 1)
                      case measure => go_light; omega
                      case rel => exact ⟨j + u, ro, _, by first | rfl | go_num, rfl, by omega, by omega, by omega, Lib.hid HRN.out, by omega, HS1⟩
        · as_aux_lemma =>
            have q1 : decide ((j : Int) < (l.length : Int)) = false := decide_eq_false (by go_light; omega)
            have q2 : decide (j < l.length) = false := decide_eq_false (by go_light; omega)
            have q3 : decide ((l.length : Int) ≤ (j : Int)) = true := decide_eq_true (by go_light; omega)
            have q4 : decide (l.length ≤ j) = true := decide_eq_true (by go_light; omega)
            have HN := Lib.hid (show strEnd v l = none by rw [HJ.out.e]; exact strF_end v l j (by omega))
            have hu := HS.out.env.h1
            go_wp2_with (fail)
            go_quiet (fail)
            go_wp2_with (fail)
            go_returns
            exact ⟨j, _, g, rfl, by omega, HS.out.drewN _, HJ.out.m, .inr ⟨HN.out, .inl ⟨_, rfl, .inl rfl⟩⟩⟩
    · have q1 : decide ((i : Int) < (l.length : Int)) = false := decide_eq_false (by go_light; omega)
      have q2 : decide (i < l.length) = false := decide_eq_false (by go_light; omega)
      have HNO := Lib.hid (show strEnd v l = none by rw [HRD.out.e]; exact strF_end v l i (by omega))
      have hu := HS.out.env.h1
      go_wp2_with (fail)
      go_quiet (fail)
      go_wp2_with (fail)
      go_returns
      exact ⟨i, _, g, rfl, by omega, HS.out.drewN _, HRD.out.m, .inr ⟨HNO.out, .inl ⟨_, rfl, .inl rfl⟩⟩⟩
end Go.Proofs.YtjfbkgkpjkickaaGreatDoor.PAll
