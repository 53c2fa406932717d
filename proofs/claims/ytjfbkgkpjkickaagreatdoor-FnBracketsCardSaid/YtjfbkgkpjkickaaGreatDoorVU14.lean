/- The texts of a proof, its declarations alone: part 14. -/
import Derived.Test.YtjfbkgkpjkickaaGreatDoorVU8
import Derived.Test.YtjfbkgkpjkickaaGreatDoorVU11
set_option linter.unusedVariables false
set_option linter.unusedSimpArgs false
-- YtjfbkgkpjkickaaGreatDoorBr
set_option linter.unusedVariables false
set_option linter.unusedSimpArgs false
namespace Go.Proofs.YtjfbkgkpjkickaaGreatDoor.PAll
open Go.RowKit Go.Proofs.YtjfbkgkpjkickaaGreatDoorW.PrintWords Go.Proofs.YtjfbkgkpjkickaaGreatDoorW.PrintLast Go.Proofs.YtjfbkgkpjkickaaGreatDoorW.PrintMore

/-- what is told of a number of the text, from a place on -/
def NumAt (t : List Int) (p : Nat) (G : GV) (w : World) (e : Ending) (w' : World) : Prop :=
  ∃ (q : Nat) (x : Value), e = .returned (.tuple #[.int .i64 (q : Int), x]) ∧ q ≤ t.length ∧ Below w.heap.size w w' ∧
    ((∃ n, numEnd (t.drop p) = some n ∧ q = p + n ∧ x = .nilIface) ∨ (numEnd (t.drop p) = none ∧ ErrS G x))
set_option maxRecDepth 100000 in
set_option maxHeartbeats 4000000 in
theorem f123 (D B c p : Nat) (t : List Int) (s : DS) (loose dup : Bool) (w : World) (G : GV) (hI : Inv w G D B c t s loose dup) (hp : p < t.length) :
    Calls Tryz.prog 123 #[.pointer (some ⟨D, 0, none⟩), .int .i64 p] w (NumAt t p G w) := by
  have hc := hI.hc
  have hl := hI.hl
  have hc2 := hI.hc2
  have c7 := hI.c7
  have C165 := f165 B p (c - p) (t.drop p) w G hI.env (hI.rb.sub p p (fun _ => by omega)) (by rw [List.length_drop]; omega) (by rw [List.length_drop]; omega) (hI.bs.drop p) (by rw [List.length_drop]; omega) (by omega)
  rw [List.length_drop] at C165
  have H165 := Lib.hid C165
  have HI := Lib.hid hI
  clear C165 hI
  go_enter Tryz.func123, Tryz.ntmps123
  go_wp2_with (fail)
  go_loopg [1, 5, 6, 7] 1 (fun kq v1 v5 v6 v7 w' => v1 = .int .i64 p ∧ v5 = .nilIface ∧ v6 = .int .i64 0 ∧ v7 = .int .u64 0 ∧ w = w')
  case atStart => exact ⟨rfl, rfl, rfl, rfl, rfl⟩
  case round =>
    obtain ⟨rfl, rfl, rfl, rfl, rfl⟩ := hrel
    go_wp2_with (fail)
    refine H165.out.mono ?_
    rintro e w2 ⟨n, st, v, rfl, hn, hb, hr⟩
    have HB := Lib.hid hb
    have HI2 := Lib.hid (HI.out.mono hb)
    have hu := HI2.out.env.h1
    have e7 := HI2.out.c7
    have e10 := HI2.out.c10
    have hnl : p + n ≤ t.length := by rw [List.length_drop] at hn; omega
    have ec : ((p + n : Nat) : Int) = (p : Int) + (n : Int) := by omega
    have C147 := Lib.hid (f147 D s G w2 HI2.out.env HI2.out.dec)
    have C88 := f88 D (p + n) s (some ⟨B, 0, none⟩) t.length c w2 HI2.out.dec HI2.out.buf hl (by omega)
    rw [ec] at C88
    clear hb c7 hn
    rcases hr with ⟨h1, rfl⟩ | ⟨h1, rfl⟩ | ⟨h1, h2, gg, rfl⟩
    · have H1 := Lib.hid h1
      clear h1
      have q0 := eqNil w2 (.pointer (some G.ueof))
      by_cases hend : p + n = t.length
      · rw [decide_eq_true hend] at C88
        have H88 := Lib.hid C88
        clear C88 hend
        have q1 := eqSent HI2.out.sent (a := G.ueof) (b := G.ueof) (.inr (.inl rfl)) (.inr (.inl rfl))
        rw [decide_eq_true rfl] at q1
        go_wp2_with (fail)
        refine H88.out.mono ?_
        rintro e w3 ⟨rfl, rfl⟩
        go_wp2_with (fail)
        refine C147.out.mono ?_
        rintro e w3 ⟨rfl, rfl⟩
        go_wp2_with (fail)
        go_returns
        exact ⟨p + n, _, by rw [ec]; rfl, hnl, HB.out, .inl ⟨n, H1.out, rfl, rfl⟩⟩
      · rw [decide_eq_false hend] at C88
        have H88 := Lib.hid C88
        clear C88 hend
        go_wp2_with (fail)
        refine H88.out.mono ?_
        rintro e w3 ⟨rfl, rfl⟩
        go_wp2_with (fail)
        go_returns
        exact ⟨p + n, _, by rw [ec]; rfl, hnl, HB.out, .inl ⟨n, H1.out, rfl, rfl⟩⟩
    · have H1 := Lib.hid h1
      clear h1 C88
      have q1 := eqSent HI2.out.sent (a := G.ueof) (b := G.ueof) (.inr (.inl rfl)) (.inr (.inl rfl))
      rw [decide_eq_true rfl] at q1
      go_wp2_with (fail)
      refine C147.out.mono ?_
      rintro e w3 ⟨rfl, rfl⟩
      go_wp2_with (fail)
      go_returns
      exact ⟨p, _, rfl, by omega, HB.out, .inr ⟨H1.out, .inl ⟨_, rfl, .inl rfl⟩⟩⟩
    · have H1 := Lib.hid h1
      rw [decide_eq_false (by rw [List.length_drop] at h2; omega)] at C88
      have H88 := Lib.hid C88
      clear h1 h2 C88
      have q0 := eq153 w2 (.pointer (some ⟨gg, 0, none⟩)) (.pointer (some G.ueof))
      go_wp2_with (fail)
      refine H88.out.mono ?_
      rintro e w3 ⟨rfl, rfl⟩
      go_wp2_with (fail)
      go_returns
      exact ⟨p + n, _, by rw [ec]; rfl, hnl, HB.out, .inr ⟨H1.out, .inr ⟨gg, rfl⟩⟩⟩
end Go.Proofs.YtjfbkgkpjkickaaGreatDoor.PAll
-- YtjfbkgkpjkickaaGreatDoorBv
set_option linter.unusedVariables false
set_option linter.unusedSimpArgs false
namespace Go.Proofs.YtjfbkgkpjkickaaGreatDoor.PAll
open Go.RowKit Go.Proofs.YtjfbkgkpjkickaaGreatDoorW.PrintWords Go.Proofs.YtjfbkgkpjkickaaGreatDoorW.PrintLast Go.Proofs.YtjfbkgkpjkickaaGreatDoorW.PrintMore

theorem numF_stop (l : List Int) (n : Nat) (h1 : rd l (n : Int) ≠ 46) (h2 : rd l (n : Int) ≠ 101) (h3 : rd l (n : Int) ≠ 69) : numF l n = some n := by
  unfold numF
  rw [if_neg (fun h => h1 h.2)]
  unfold numE
  rw [if_neg (fun h => h.2.elim h2 h3)]
set_option maxRecDepth 100000 in
set_option maxHeartbeats 4000000 in
theorem f122 (B o c : Nat) (l : List Int) (w : World) (hr : RB w B o l) (hl : 0 < l.length) (hl2 : l.length ≤ 4000000000) (hbs : Bs l) :
    Calls Tryz.prog 122 #[.slice (some ⟨B, o, none⟩) l.length c] w fun e w' => ∃ n : Nat, e = .returned (.int .i64 (n : Int)) ∧ n ≤ l.length ∧ (n ≠ 0 → n < l.length → numEnd l = some n) ∧ w = w' := by
  obtain ⟨b0, h0⟩ : ∃ b0, rd l 0 = b0 := ⟨_, rfl⟩
  have hc0 : w.cell? ⟨B, o, none⟩ = some (.int .u8 b0) := by have := hr 0 hl; rw [show ((0 : Nat) : Int) = 0 from rfl, h0] at this; exact this
  have d1 : decide ((0 : Int) < (l.length : Int)) = true := decide_eq_true (by omega)
  have d2 : decide (0 < l.length) = true := decide_eq_true hl
  have HR := Lib.hid hr
  have HBS := Lib.hid hbs
  have HN := Lib.hid (show b0 ≠ 45 → numEnd l = if b0 = 48 then numF l 1 else if 49 ≤ b0 ∧ b0 ≤ 57 then numF l (digN l) else none from fun h => by
    unfold numEnd
    rw [h0, if_neg (fun x => h x.2)]
    unfold numI
    rw [if_pos hl, show ((0 : Nat) : Int) = 0 from rfl, h0, List.drop_zero, Nat.zero_add (digN l)])
  have H0 := Lib.hid h0
  clear hr hbs h0
  go_enter Tryz.func122, Tryz.ntmps122
  go_upto_if 9 with (fail)
  go_cut [2] (fun s2 wx => ∃ n : Nat, s2 = .int .i64 n ∧ n ≤ l.length ∧ 1 ≤ n ∧ Hid (numEnd l = numF l n) ∧ w = wx)
  case first => as_aux_lemma =>
    by_cases h48 : b0 = 48
    · have q1 : (b0 == 48) = true := by rw [beq_iff_eq]; exact h48
      have HM := Lib.hid (show numEnd l = numF l 1 by rw [HN.out (by omega), if_pos h48])
      go_wp2_with (fail)
      go_meet
      exact ⟨1, by first | rfl | go_num, by omega, by omega, HM, rfl⟩
    · have q1 : (b0 == 48) = false := by rw [beq_eq_false_iff_ne]; exact h48
      by_cases hlo : 49 ≤ b0
      · have r1 : decide (49 ≤ b0) = true := decide_eq_true hlo
        by_cases hhi : b0 ≤ 57
        · have r2 : decide (b0 ≤ 57) = true := decide_eq_true hhi
          have hE : numEnd l = numF l (digN l) := by rw [HN.out (by omega), if_neg h48, if_pos ⟨hlo, hhi⟩]
          have hd := digN_step l 0 hl
          rw [List.drop_zero, show ((0 : Nat) : Int) = 0 from rfl, H0.out, if_pos ⟨by omega, hhi⟩, Nat.zero_add] at hd
          have HD := Lib.hid hd
          have HE := Lib.hid hE
          clear hd hE
          go_wp2_with (fail)
          go_loopg [2] l.length (fun kq v2 w' => ∃ i : Nat, v2 = .int .i64 i ∧ 1 ≤ i ∧ i ≤ l.length ∧ Hid (i + digN (l.drop i) = digN l) ∧ l.length ≤ kq + i ∧ w = w')
          case atStart => exact ⟨1, by first | rfl | go_num, by omega, by omega, Lib.hid (by rw [HD.out]; omega), by omega, rfl⟩
          case round => as_aux_lemma =>
            obtain ⟨i, rfl, hi1, hil, HI, hk, rfl⟩ := hrel
            by_cases hlt : i < l.length
            · obtain ⟨b, hb⟩ : ∃ b, rd l (i : Int) = b := ⟨_, rfl⟩
              have cb : w.cell? ⟨B, o + i, none⟩ = some (.int .u8 b) := by have := HR.out i hlt; rw [hb] at this; exact this
              have Hb := Lib.hid hb
              clear hb
              have q1 : decide ((i : Int) < (l.length : Int)) = true := decide_eq_true (by omega)
              have q2 : decide (i < l.length) = true := decide_eq_true (by omega)
              have hst := Lib.hid (digN_step l i hlt)
              by_cases hlo : 48 ≤ b
              · by_cases hhi : b ≤ 57
                · have r1 : decide (48 ≤ b) = true := decide_eq_true (by omega)
                  have r2 : decide (b ≤ 57) = true := decide_eq_true (by omega)
                  go_wp2_with (fail)
                  go_roundg (gk - 1)
                  case measure => omega
                  case rel => exact ⟨i + 1, by go_num, by omega, by omega, Lib.hid (by have h1 := HI.out; have h2 := hst.out; rw [Hb.out, if_pos ⟨hlo, hhi⟩] at h2; omega), by omega, rfl⟩
                · have r1 : decide (48 ≤ b) = true := decide_eq_true (by omega)
                  have r2 : decide (b ≤ 57) = false := decide_eq_false (by omega)
                  have HM := Lib.hid (show numEnd l = numF l i by rw [HE.out]; congr 1; have h1 := HI.out; have h2 := hst.out; rw [Hb.out, if_neg (fun h => hhi h.2)] at h2; omega)
                  go_wp2_with (fail)
                  go_meet
                  exact ⟨i, by first | rfl | go_num, by omega, by omega, HM, rfl⟩
              · have r1 : decide (48 ≤ b) = false := decide_eq_false (by omega)
                have HM := Lib.hid (show numEnd l = numF l i by rw [HE.out]; congr 1; have h1 := HI.out; have h2 := hst.out; rw [Hb.out, if_neg (fun h => hlo h.1)] at h2; omega)
                go_wp2_with (fail)
                go_meet
                exact ⟨i, by first | rfl | go_num, by omega, by omega, HM, rfl⟩
            · have q1 : decide ((i : Int) < (l.length : Int)) = false := decide_eq_false (by omega)
              have q2 : decide (i < l.length) = false := decide_eq_false (by omega)
              have HM := Lib.hid (show numEnd l = numF l i by rw [HE.out]; congr 1; have h1 := HI.out; have h2 := digN_end l i (by omega); omega)
              go_wp2_with (fail)
              go_meet
              exact ⟨i, by first | rfl | go_num, by omega, by omega, HM, rfl⟩
        · have r2 : decide (b0 ≤ 57) = false := decide_eq_false hhi
          go_wp2_with (fail)
          go_returns
          exact ⟨0, rfl, by omega, fun h => absurd rfl h, rfl⟩
      · have r1 : decide (49 ≤ b0) = false := decide_eq_false hlo
        go_wp2_with (fail)
        go_returns
        exact ⟨0, rfl, by omega, fun h => absurd rfl h, rfl⟩
  case rest => as_aux_lemma =>
    obtain ⟨n, rfl, hnl, hn1, HE, rfl⟩ := hcut
    by_cases hlt : n < l.length
    · obtain ⟨b, hb⟩ : ∃ b, rd l (n : Int) = b := ⟨_, rfl⟩
      have cb : w.cell? ⟨B, o + n, none⟩ = some (.int .u8 b) := by have := HR.out n hlt; rw [hb] at this; exact this
      have Hb := Lib.hid hb
      clear hb
      have q1 : decide ((l.length : Int) ≤ (n : Int)) = false := decide_eq_false (by omega)
      have q2 : decide (l.length ≤ n) = false := decide_eq_false (by omega)
      by_cases h1 : b = 46
      · have r1 : (b != 46) = false := by rw [bne_eq_false_iff_eq]; exact h1
        go_wp2_with (fail)
        go_returns
        exact ⟨0, rfl, by omega, fun h => absurd rfl h, rfl⟩
      · have r1 : (b != 46) = true := by rw [bne_iff_ne]; exact h1
        by_cases h2 : b = 101
        · have r2 : (b != 101) = false := by rw [bne_eq_false_iff_eq]; exact h2
          go_wp2_with (fail)
          go_returns
          exact ⟨0, rfl, by omega, fun h => absurd rfl h, rfl⟩
        · have r2 : (b != 101) = true := by rw [bne_iff_ne]; exact h2
          by_cases h3 : b = 69
          · have r3 : (b != 69) = false := by rw [bne_eq_false_iff_eq]; exact h3
            go_wp2_with (fail)
            go_returns
            exact ⟨0, rfl, by omega, fun h => absurd rfl h, rfl⟩
          · have r3 : (b != 69) = true := by rw [bne_iff_ne]; exact h3
            have HM := Lib.hid (show numEnd l = some n by rw [HE.out]; exact numF_stop l n (by rw [Hb.out]; exact h1) (by rw [Hb.out]; exact h2) (by rw [Hb.out]; exact h3))
            go_wp2_with (fail)
            go_returns
            exact ⟨n, rfl, by omega, fun _ _ => HM.out, rfl⟩
    · have q1 : decide ((l.length : Int) ≤ (n : Int)) = true := decide_eq_true (by omega)
      have q2 : decide (l.length ≤ n) = true := decide_eq_true (by omega)
      go_wp2_with (fail)
      go_returns
      exact ⟨n, rfl, by omega, fun _ h => absurd h (by omega), rfl⟩
end Go.Proofs.YtjfbkgkpjkickaaGreatDoor.PAll
