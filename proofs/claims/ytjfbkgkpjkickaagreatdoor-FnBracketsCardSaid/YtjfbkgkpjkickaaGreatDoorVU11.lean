/- The texts of a proof, its declarations alone: part 11. -/
import Derived.Deep.DeepCutAuto
import Derived.WalkMore
import Derived.Test.YtjfbkgkpjkickaaGreatDoorVU3
set_option linter.unusedVariables false
set_option linter.unusedSimpArgs false
-- YtjfbkgkpjkickaaGreatDoorBi
set_option linter.unusedVariables false
set_option linter.unusedSimpArgs false
namespace Go.Proofs.YtjfbkgkpjkickaaGreatDoor.PAll
open Go.RowKit Go.Proofs.YtjfbkgkpjkickaaGreatDoorW.PrintWords Go.Proofs.YtjfbkgkpjkickaaGreatDoorW.PrintLast Go.Proofs.YtjfbkgkpjkickaaGreatDoorW.PrintMore

def isD (b : Int) : Prop := 48 ≤ b ∧ b ≤ 57
instance (b : Int) : Decidable (isD b) := by unfold isD; infer_instance
/-- the digits at the head of a row -/
def digN : List Int → Nat
  | [] => 0
  | b :: t => if isD b then digN t + 1 else 0
theorem digN_le (l : List Int) : digN l ≤ l.length := by
  induction l with
  | nil => exact Nat.le_refl _
  | cons b t ih => unfold digN; split <;> simp <;> omega
/-- the stages of a number, from a place on: exponent, fraction, whole part -/
def numE (l : List Int) (n : Nat) : Option Nat :=
  if n < l.length ∧ (rd l (n : Int) = 101 ∨ rd l (n : Int) = 69) then
    (if n + 1 < l.length ∧ (rd l ((n + 1 : Nat) : Int) = 45 ∨ rd l ((n + 1 : Nat) : Int) = 43) then
      (if n + 2 < l.length ∧ isD (rd l ((n + 2 : Nat) : Int)) then some (n + 2 + digN (l.drop (n + 2))) else none)
    else (if n + 1 < l.length ∧ isD (rd l ((n + 1 : Nat) : Int)) then some (n + 1 + digN (l.drop (n + 1))) else none))
  else some n
def numF (l : List Int) (n : Nat) : Option Nat :=
  if n < l.length ∧ rd l (n : Int) = 46 then (if n + 1 < l.length ∧ isD (rd l ((n + 1 : Nat) : Int)) then numE l (n + 1 + digN (l.drop (n + 1))) else none) else numE l n
def numI (l : List Int) (a : Nat) : Option Nat :=
  if a < l.length then (if rd l (a : Int) = 48 then numF l (a + 1) else if 49 ≤ rd l (a : Int) ∧ rd l (a : Int) ≤ 57 then numF l (a + digN (l.drop a)) else none) else none
def numEnd (l : List Int) : Option Nat := numI l (if 0 < l.length ∧ rd l 0 = 45 then 1 else 0)
/-- what is told of a number -/
def NumPost (l : List Int) (G : GV) (w : World) (e : Ending) (w' : World) : Prop := ∃ (n : Nat) (st : Int) (v : Value), e = .returned (.tuple #[.int .i64 (n : Int), .int .u64 st, v]) ∧ n ≤ l.length ∧ Below w.heap.size w w' ∧
  ((numEnd l = some n ∧ v = .nilIface) ∨ (numEnd l = none ∧ v = .iface 265 (.pointer (some G.ueof))) ∨ (numEnd l = none ∧ n < l.length ∧ ∃ g : Nat, v = .iface 153 (.pointer (some ⟨g, 0, none⟩))))
theorem digN_step (l : List Int) (i : Nat) (h : i < l.length) : digN (l.drop i) = if isD (rd l (i : Int)) then digN (l.drop (i + 1)) + 1 else 0 := by
  rw [drop_cons l i h]; rfl
theorem digN_end (l : List Int) (i : Nat) (h : l.length ≤ i) : digN (l.drop i) = 0 := by rw [List.drop_of_length_le h]; rfl
set_option maxHeartbeats 4000000 in
set_option maxRecDepth 100000 in
theorem f165 (B o c : Nat) (l : List Int) (w : World) (G : GV) (hE : Env w G) (hr : RB w B o l) (hl : 0 < l.length) (hl2 : l.length ≤ 4000000000) (hbs : Bs l) (hc : l.length ≤ c) (hc2 : c ≤ 9223372036854775807) :
    Calls Tryz.prog 165 #[.slice (some ⟨B, o, none⟩) l.length c, .int .i64 0, .int .u64 0] w (NumPost l G w) := by
  have hu := hE.h1
  obtain ⟨b0, h0⟩ : ∃ b0, rd l 0 = b0 := ⟨_, rfl⟩
  have hc0 : w.cell? ⟨B, o, none⟩ = some (.int .u8 b0) := by have := hr 0 hl; rw [show ((0 : Nat) : Int) = 0 from rfl, h0] at this; exact this
  have d1 : decide ((0 : Int) < (l.length : Int)) = true := decide_eq_true (by omega)
  have d2 : decide (0 < l.length) = true := decide_eq_true hl
  obtain ⟨a, ha⟩ : ∃ a : Nat, a = if b0 = 45 then 1 else 0 := ⟨_, rfl⟩
  have hN : numEnd l = numI l a := by
    unfold numEnd; rw [h0, ha]
    by_cases h : b0 = 45
    · rw [if_pos ⟨hl, h⟩, if_pos h]
    · rw [if_neg (fun x => h x.2), if_neg h]
  have HN := Lib.hid hN
  have HR := Lib.hid hr
  have HE := Lib.hid hE
  have HBS := Lib.hid hbs
  have HA := Lib.hid ha
  clear hN hr hE hbs ha h0
  go_enter Tryz.func165, Tryz.ntmps165
  go_wp2_with (fail)
  go_step3
  go_wp2_with (fail)
  go_step3
  go_upto_if 68 with (fail)
  go_cut [6] (fun s6 wx => s6 = .int .i64 a ∧ w = wx)
  case first => as_aux_lemma =>
    by_cases h45 : b0 = 45
    · have q1 : (b0 == 45) = true := by rw [beq_iff_eq]; exact h45
      go_wp2_with (fail)
      go_meet
      exact ⟨by rw [HA.out, if_pos h45]; rfl, rfl⟩
    · have q1 : (b0 == 45) = false := by rw [beq_eq_false_iff_ne]; exact h45
      go_wp2_with (fail)
      go_meet
      exact ⟨by rw [HA.out, if_neg h45]; rfl, rfl⟩
  case rest => as_aux_lemma =>
    obtain ⟨rfl, rfl⟩ := hcut
    have ha1 : a ≤ 1 := by rw [HA.out]; split <;> omega
    go_upto_block 4 with (fail)
    go_cut [6, 2] (fun s6 s2 wx => ∃ (n1 : Nat) (st : Int), s6 = .int .i64 n1 ∧ s2 = .int .u64 st ∧ n1 ≤ l.length ∧ numEnd l = numF l n1 ∧ w = wx)
    case first => as_aux_lemma =>
      by_cases hlt : a < l.length
      · obtain ⟨b, hb⟩ : ∃ b, rd l (a : Int) = b := ⟨_, rfl⟩
        have cb : w.cell? ⟨B, o + a, none⟩ = some (.int .u8 b) := by have := HR.out a hlt; rw [hb] at this; exact this
        obtain ⟨kba, kbb⟩ : 0 ≤ b ∧ b < 256 := by have := HBS.out.rd a; rw [hb] at this; exact this
        have Hb := Lib.hid hb
        clear hb
        have q3 : decide ((l.length : Int) ≤ (a : Int)) = false := decide_eq_false (by omega)
        have q4 : decide (l.length ≤ a) = false := decide_eq_false (by omega)
        have p1 : decide ((a : Int) < (l.length : Int)) = true := decide_eq_true (by omega)
        have p2 : decide (a < l.length) = true := decide_eq_true (by omega)
        by_cases h48 : b = 48
        · have r1 : (b == 48) = true := by rw [beq_iff_eq]; exact h48
          have HM := Lib.hid (show numEnd l = numF l (a + 1) by rw [HN.out]; unfold numI; rw [if_pos hlt, Hb.out, if_pos h48])
          go_wp2_with (fail)
          go_meet
          exact ⟨a + 1, _, by first | rfl | go_num, rfl, by omega, HM.out, rfl⟩
        · have r1 : (b == 48) = false := by rw [beq_eq_false_iff_ne]; exact h48
          by_cases hlo : 49 ≤ b
          · have r2 : decide (49 ≤ b) = true := decide_eq_true hlo
            by_cases hhi : b ≤ 57
            · have r3 : decide (b ≤ 57) = true := decide_eq_true hhi
              have hst := Lib.hid (digN_step l a hlt)
              have hEa : a + 1 + digN (l.drop (a + 1)) = a + digN (l.drop a) := by have := hst.out; rw [Hb.out, if_pos ⟨by omega, hhi⟩] at this; omega
              have HEa := Lib.hid hEa
              clear hEa
              have HEND := Lib.hid (show numEnd l = numF l (a + digN (l.drop a)) by rw [HN.out]; unfold numI; rw [if_pos hlt, Hb.out, if_neg h48, if_pos ⟨hlo, hhi⟩])
              go_wp2_with (fail)
              generalize hEE : a + digN (l.drop a) = EE at *
              clear hEE cb q3 q4 p1 p2 r1 r2 r3 h48 hlo hhi kba kbb Hb hst
              go_loopg [6] l.length (fun kq v6 w' => ∃ i : Nat, v6 = .int .i64 i ∧ i ≤ l.length ∧ i + digN (l.drop i) = EE ∧ l.length ≤ kq + i ∧ w = w')
              case atStart => exact ⟨a + 1, by go_num, by omega, HEa.out, by omega, rfl⟩
              case round => as_aux_lemma =>
                obtain ⟨i, rfl, hil, hiE, hik, rfl⟩ := hrel
                have HIE := Lib.hid hiE
                clear hiE
                by_cases hlt : i < l.length
                · obtain ⟨b, hb⟩ : ∃ b, rd l (i : Int) = b := ⟨_, rfl⟩
                  have cb : w.cell? ⟨B, o + i, none⟩ = some (.int .u8 b) := by have := HR.out i hlt; rw [hb] at this; exact this
                  obtain ⟨kba, kbb⟩ : 0 ≤ b ∧ b < 256 := by have := HBS.out.rd i; rw [hb] at this; exact this
                  have Hb := Lib.hid hb
                  clear hb
                  have q1 : decide ((i : Int) < (l.length : Int)) = true := decide_eq_true (by omega)
                  have q2 : decide (i < l.length) = true := decide_eq_true (by omega)
                  have hstep := Lib.hid (digN_step l i hlt)
                  by_cases hlo : 48 ≤ b
                  · by_cases hhi : b ≤ 57
                    · have r1 : decide (48 ≤ b) = true := decide_eq_true (by omega)
                      have r2 : decide (b ≤ 57) = true := decide_eq_true (by omega)
                      go_wp2_with (fail)
                      go_roundg (gk - 1)
                      case measure => omega
                      case rel => exact ⟨i + 1, by go_num, by omega, by have h1 := HIE.out; have h2 := hstep.out; rw [Hb.out, if_pos ⟨hlo, hhi⟩] at h2; omega, by omega, rfl⟩
                    · have r1 : decide (48 ≤ b) = true := decide_eq_true (by omega)
                      have r2 : decide (b ≤ 57) = false := decide_eq_false (by omega)
                      have hE := Lib.hid (show i = EE by have h1 := HIE.out; have h2 := hstep.out; rw [Hb.out, if_neg (fun h => hhi h.2)] at h2; omega)
                      have HM := Lib.hid (show numEnd l = numF l i by rw [HEND.out, hE.out])
                      go_wp2_with (fail)
                      go_meet
                      exact ⟨i, _, by first | rfl | go_num, rfl, by omega, HM.out, rfl⟩
                  · have r1 : decide (48 ≤ b) = false := decide_eq_false (by omega)
                    have hE := Lib.hid (show i = EE by have h1 := HIE.out; have h2 := hstep.out; rw [Hb.out, if_neg (fun h => hlo h.1)] at h2; omega)
                    have HM := Lib.hid (show numEnd l = numF l i by rw [HEND.out, hE.out])
                    go_wp2_with (fail)
                    go_meet
                    exact ⟨i, _, by first | rfl | go_num, rfl, by omega, HM.out, rfl⟩
                · have q1 : decide ((i : Int) < (l.length : Int)) = false := decide_eq_false (by omega)
                  have q2 : decide (i < l.length) = false := decide_eq_false (by omega)
                  have hE := Lib.hid (show i = EE by have h1 := HIE.out; have h2 := digN_end l i (by omega); omega)
                  have HM := Lib.hid (show numEnd l = numF l i by rw [HEND.out, hE.out])
                  go_wp2_with (fail)
                  go_meet
                  exact ⟨i, _, by first | rfl | go_num, rfl, by omega, HM.out, rfl⟩
            · have r3 : decide (b ≤ 57) = false := decide_eq_false hhi
              have HNN := Lib.hid (show numEnd l = none by rw [HN.out]; unfold numI; rw [if_pos hlt, Hb.out, if_neg h48, if_neg (fun h => hhi h.2)])
              have C60 := Lib.hid (fun s' => f60 B (o + a) (c - a) (l.drop a) s' w G HE.out (HR.out.sub a (o + a) (fun _ => rfl)) (by rw [List.length_drop]; omega) (by rw [List.length_drop]; omega) (HBS.out.drop a) (by rw [List.length_drop]; omega) (by omega))
              rw [List.length_drop] at C60
              go_wp2_with (go_at_call 60; (with_reducible refine (C60.out _).mono ?_); rintro e w1 ⟨g, rfl, hb⟩; have HB := Lib.hid hb; clear hb)
              rw [Exit.noGoto_ret]
              go_returns
              exact ⟨a, _, _, rfl, by omega, HB.out, .inr (.inr ⟨HNN.out, by omega, g, rfl⟩)⟩
          · have r2 : decide (49 ≤ b) = false := decide_eq_false hlo
            have HNN := Lib.hid (show numEnd l = none by rw [HN.out]; unfold numI; rw [if_pos hlt, Hb.out, if_neg h48, if_neg (fun h => hlo h.1)])
            have C60 := Lib.hid (fun s' => f60 B (o + a) (c - a) (l.drop a) s' w G HE.out (HR.out.sub a (o + a) (fun _ => rfl)) (by rw [List.length_drop]; omega) (by rw [List.length_drop]; omega) (HBS.out.drop a) (by rw [List.length_drop]; omega) (by omega))
            rw [List.length_drop] at C60
            go_wp2_with (go_at_call 60; (with_reducible refine (C60.out _).mono ?_); rintro e w1 ⟨g, rfl, hb⟩; have HB := Lib.hid hb; clear hb)
            rw [Exit.noGoto_ret]
            go_returns
            exact ⟨a, _, _, rfl, by omega, HB.out, .inr (.inr ⟨HNN.out, by omega, g, rfl⟩)⟩
      · have q3 : decide ((l.length : Int) ≤ (a : Int)) = true := decide_eq_true (by omega)
        have q4 : decide (l.length ≤ a) = true := decide_eq_true (by omega)
        have HNN := Lib.hid (show numEnd l = none by rw [HN.out]; unfold numI; rw [if_neg hlt])
        go_wp2_with (fail)
        go_quiet (fail)
        go_wp2_with (fail)
        rw [Exit.noGoto_ret]
        go_returns
        exact ⟨0, _, _, rfl, by omega, by repeat (first | exact Below.refl _ _ | apply pw_below_drewN), .inr (.inl ⟨HNN.out, rfl⟩)⟩
    case rest => as_aux_lemma =>
      obtain ⟨n1, st, rfl, rfl, hn1, hF, rfl⟩ := hcut
      have HF := Lib.hid hF
      clear hF HA ha1
      go_wp2_with (fail)
      go_step3
      obtain ⟨dot, hdot⟩ : ∃ d : Bool, d = decide (n1 < l.length ∧ rd l (n1 : Int) = 46) := ⟨_, rfl⟩
      have Hdot := Lib.hid hdot
      clear hdot
      go_upto_region 31 with (fail)
      go_cut [143] (fun s wx => s = .bool dot ∧ w = wx)
      case first => as_aux_lemma =>
        by_cases hlt : n1 < l.length
        · obtain ⟨b, hb⟩ : ∃ b, rd l (n1 : Int) = b := ⟨_, rfl⟩
          have cb : w.cell? ⟨B, o + n1, none⟩ = some (.int .u8 b) := by have := HR.out n1 hlt; rw [hb] at this; exact this
          obtain ⟨kba, kbb⟩ : 0 ≤ b ∧ b < 256 := by have := HBS.out.rd n1; rw [hb] at this; exact this
          have Hb := Lib.hid hb
          clear hb
          have q1 : decide ((n1 : Int) < (l.length : Int)) = true := decide_eq_true (by omega)
          have q2 : decide (n1 < l.length) = true := decide_eq_true (by omega)
          by_cases h1 : b = 46
          · have r1 : (b == 46) = true := by rw [beq_iff_eq]; exact h1
            have HV := Lib.hid (show dot = true by rw [Hdot.out, decide_eq_true ⟨hlt, by rw [Hb.out]; exact h1⟩])
            go_wp2_with (fail)
            go_meet
            exact ⟨by rw [HV.out], rfl⟩
          · have r1 : (b == 46) = false := by rw [beq_eq_false_iff_ne]; exact h1
            have HV := Lib.hid (show dot = false by rw [Hdot.out, decide_eq_false (fun h => h1 (by rw [← Hb.out]; exact h.2))])
            go_wp2_with (fail)
            go_meet
            exact ⟨by rw [HV.out], rfl⟩
        · have q1 : decide ((n1 : Int) < (l.length : Int)) = false := decide_eq_false (by omega)
          have q2 : decide (n1 < l.length) = false := decide_eq_false (by omega)
          have HV := Lib.hid (show dot = false by rw [Hdot.out, decide_eq_false (fun h => hlt h.1)])
          go_wp2_with (fail)
          go_meet
          exact ⟨by rw [HV.out], rfl⟩
      case rest => as_aux_lemma =>
        obtain ⟨rfl, rfl⟩ := hcut
        go_upto_if 143 with (fail)
        go_cut [6, 2, 1] (fun s6 s2 s1 wx => ∃ (n2 : Nat) (st : Int) (ro : Nat), s6 = .int .i64 n2 ∧ s2 = .int .u64 st ∧ s1 = .int .i64 ro ∧ ro ≤ l.length ∧ n2 ≤ l.length ∧ numEnd l = numE l n2 ∧ w = wx)
        case first => as_aux_lemma =>
          cases dot with
          | false =>
            have HM := Lib.hid (show numEnd l = numE l n1 by rw [HF.out]; unfold numF; rw [if_neg (of_decide_eq_false Hdot.out.symm)])
            go_wp2_with (fail)
            go_meet
            exact ⟨n1, _, 0, rfl, rfl, rfl, by omega, by omega, HM.out, rfl⟩
          | true =>
            have hdt := of_decide_eq_true Hdot.out.symm
            have hn1l := hdt.1
            have HFF := Lib.hid (show numEnd l = (if n1 + 1 < l.length ∧ isD (rd l ((n1 + 1 : Nat) : Int)) then numE l (n1 + 1 + digN (l.drop (n1 + 1))) else none) by rw [HF.out]; unfold numF; rw [if_pos hdt])
            clear hdt
            have ec : ((n1 + 1 : Nat) : Int) = (n1 : Int) + 1 := by omega
            go_upto_block 7 with (fail)
            rw [← ec]
            generalize hm : n1 + 1 = m at *
            have Hm := Lib.hid hm
            have hml : m ≤ l.length := by omega
            clear hm ec
            by_cases hlt : m < l.length
            · obtain ⟨b, hb⟩ : ∃ b, rd l (m : Int) = b := ⟨_, rfl⟩
              have cb : w.cell? ⟨B, o + m, none⟩ = some (.int .u8 b) := by have := HR.out m hlt; rw [hb] at this; exact this
              obtain ⟨kba, kbb⟩ : 0 ≤ b ∧ b < 256 := by have := HBS.out.rd m; rw [hb] at this; exact this
              have Hb := Lib.hid hb
              clear hb
              have q3 : decide ((l.length : Int) ≤ (m : Int)) = false := decide_eq_false (by omega)
              have q4 : decide (l.length ≤ m) = false := decide_eq_false (by omega)
              have p1 : decide ((m : Int) < (l.length : Int)) = true := decide_eq_true (by omega)
              have p2 : decide (m < l.length) = true := decide_eq_true (by omega)
              by_cases hlo : 48 ≤ b
              · have r2 : decide (48 ≤ b) = true := decide_eq_true hlo
                by_cases hhi : b ≤ 57
                · have r3 : decide (b ≤ 57) = true := decide_eq_true hhi
                  have hst := Lib.hid (digN_step l m hlt)
                  have hEa : m + 1 + digN (l.drop (m + 1)) = m + digN (l.drop m) := by have := hst.out; rw [Hb.out, if_pos ⟨hlo, hhi⟩] at this; omega
                  have HEa := Lib.hid hEa
                  clear hEa
                  have HEND := Lib.hid (show numEnd l = numE l (m + digN (l.drop m)) by rw [HFF.out, Hb.out, if_pos ⟨hlt, hlo, hhi⟩])
                  go_wp2_with (fail)
                  generalize hEE : m + digN (l.drop m) = EE at *
                  clear hEE cb q3 q4 p1 p2 r2 r3 hlo hhi kba kbb Hb hst
                  go_loopg [6] l.length (fun kq v6 w' => ∃ i : Nat, v6 = .int .i64 i ∧ i ≤ l.length ∧ i + digN (l.drop i) = EE ∧ l.length ≤ kq + i ∧ w = w')
                  case atStart => exact ⟨m + 1, by go_num, by omega, HEa.out, by omega, rfl⟩
                  case round => as_aux_lemma =>
                    obtain ⟨i, rfl, hil, hiE, hik, rfl⟩ := hrel
                    have HIE := Lib.hid hiE
                    clear hiE
                    by_cases hlt : i < l.length
                    · obtain ⟨b, hb⟩ : ∃ b, rd l (i : Int) = b := ⟨_, rfl⟩
                      have cb : w.cell? ⟨B, o + i, none⟩ = some (.int .u8 b) := by have := HR.out i hlt; rw [hb] at this; exact this
                      obtain ⟨kba, kbb⟩ : 0 ≤ b ∧ b < 256 := by have := HBS.out.rd i; rw [hb] at this; exact this
                      have Hb := Lib.hid hb
                      clear hb
                      have q1 : decide ((i : Int) < (l.length : Int)) = true := decide_eq_true (by omega)
                      have q2 : decide (i < l.length) = true := decide_eq_true (by omega)
                      have hstep := Lib.hid (digN_step l i hlt)
                      by_cases hlo : 48 ≤ b
                      · by_cases hhi : b ≤ 57
                        · have r1 : decide (48 ≤ b) = true := decide_eq_true (by omega)
                          have r2 : decide (b ≤ 57) = true := decide_eq_true (by omega)
                          go_wp2_with (fail)
                          go_roundg (gk - 1)
                          case measure => omega
                          case rel => exact ⟨i + 1, by go_num, by omega, by have h1 := HIE.out; have h2 := hstep.out; rw [Hb.out, if_pos ⟨hlo, hhi⟩] at h2; omega, by omega, rfl⟩
                        · have r1 : decide (48 ≤ b) = true := decide_eq_true (by omega)
                          have r2 : decide (b ≤ 57) = false := decide_eq_false (by omega)
                          have hE := Lib.hid (show i = EE by have h1 := HIE.out; have h2 := hstep.out; rw [Hb.out, if_neg (fun h => hhi h.2)] at h2; omega)
                          have HM := Lib.hid (show numEnd l = numE l i by rw [HEND.out, hE.out])
                          go_wp2_with (fail)
                          go_meet
                          exact ⟨i, _, n1, rfl, rfl, rfl, by omega, by omega, HM.out, rfl⟩
                      · have r1 : decide (48 ≤ b) = false := decide_eq_false (by omega)
                        have hE := Lib.hid (show i = EE by have h1 := HIE.out; have h2 := hstep.out; rw [Hb.out, if_neg (fun h => hlo h.1)] at h2; omega)
                        have HM := Lib.hid (show numEnd l = numE l i by rw [HEND.out, hE.out])
                        go_wp2_with (fail)
                        go_meet
                        exact ⟨i, _, n1, rfl, rfl, rfl, by omega, by omega, HM.out, rfl⟩
                    · have q1 : decide ((i : Int) < (l.length : Int)) = false := decide_eq_false (by omega)
                      have q2 : decide (i < l.length) = false := decide_eq_false (by omega)
                      have hE := Lib.hid (show i = EE by have h1 := HIE.out; have h2 := digN_end l i (by omega); omega)
                      have HM := Lib.hid (show numEnd l = numE l i by rw [HEND.out, hE.out])
                      go_wp2_with (fail)
                      go_meet
                      exact ⟨i, _, n1, rfl, rfl, rfl, by omega, by omega, HM.out, rfl⟩
                · have r3 : decide (b ≤ 57) = false := decide_eq_false hhi
                  have HNN := Lib.hid (show numEnd l = none by rw [HFF.out]; exact if_neg (fun h => hhi (Hb.out ▸ h.2.2)))
                  have C60 := Lib.hid (fun s' => f60 B (o + m) (c - m) (l.drop m) s' w G HE.out (HR.out.sub m (o + m) (fun _ => rfl)) (by rw [List.length_drop]; omega) (by rw [List.length_drop]; omega) (HBS.out.drop m) (by rw [List.length_drop]; omega) (by omega))
                  rw [List.length_drop] at C60
                  go_wp2_with (go_at_call 60; (with_reducible refine (C60.out _).mono ?_); rintro e w1 ⟨g, rfl, hb⟩; have HB := Lib.hid hb; clear hb)
                  rw [Exit.noGoto_ret]
                  go_returns
                  exact ⟨m, _, _, rfl, by omega, HB.out, .inr (.inr ⟨HNN.out, by omega, g, rfl⟩)⟩
              · have r2 : decide (48 ≤ b) = false := decide_eq_false hlo
                have HNN := Lib.hid (show numEnd l = none by rw [HFF.out]; exact if_neg (fun h => hlo (Hb.out ▸ h.2.1)))
                have C60 := Lib.hid (fun s' => f60 B (o + m) (c - m) (l.drop m) s' w G HE.out (HR.out.sub m (o + m) (fun _ => rfl)) (by rw [List.length_drop]; omega) (by rw [List.length_drop]; omega) (HBS.out.drop m) (by rw [List.length_drop]; omega) (by omega))
                rw [List.length_drop] at C60
                go_wp2_with (go_at_call 60; (with_reducible refine (C60.out _).mono ?_); rintro e w1 ⟨g, rfl, hb⟩; have HB := Lib.hid hb; clear hb)
                rw [Exit.noGoto_ret]
                go_returns
                exact ⟨m, _, _, rfl, by omega, HB.out, .inr (.inr ⟨HNN.out, by omega, g, rfl⟩)⟩
            · have q3 : decide ((l.length : Int) ≤ (m : Int)) = true := decide_eq_true (by omega)
              have q4 : decide (l.length ≤ m) = true := decide_eq_true (by omega)
              have HNN := Lib.hid (show numEnd l = none by rw [HFF.out]; exact if_neg (fun h => hlt h.1))
              go_wp2_with (fail)
              go_quiet (fail)
              go_wp2_with (fail)
              rw [Exit.noGoto_ret]
              go_returns
              exact ⟨n1, _, _, rfl, by omega, by repeat (first | exact Below.refl _ _ | apply pw_below_drewN), .inr (.inl ⟨HNN.out, rfl⟩)⟩
        case rest => as_aux_lemma =>
          obtain ⟨n2, st2, ro, rfl, rfl, rfl, hro, hn2, hE2, rfl⟩ := hcut
          have HE2 := Lib.hid hE2
          clear hE2
          go_wp2_with (fail)
          go_step3
          obtain ⟨ex, hex⟩ : ∃ d : Bool, d = decide (n2 < l.length ∧ (rd l (n2 : Int) = 101 ∨ rd l (n2 : Int) = 69)) := ⟨_, rfl⟩
          have Hex := Lib.hid hex
          clear hex
          go_upto_region 42 with (fail)
          go_cut [218] (fun s wx => s = .bool ex ∧ w = wx)
          case first => as_aux_lemma =>
            by_cases hlt : n2 < l.length
            · obtain ⟨b, hb⟩ : ∃ b, rd l (n2 : Int) = b := ⟨_, rfl⟩
              have cb : w.cell? ⟨B, o + n2, none⟩ = some (.int .u8 b) := by have := HR.out n2 hlt; rw [hb] at this; exact this
              obtain ⟨kba, kbb⟩ : 0 ≤ b ∧ b < 256 := by have := HBS.out.rd n2; rw [hb] at this; exact this
              have Hb := Lib.hid hb
              clear hb
              have q1 : decide ((n2 : Int) < (l.length : Int)) = true := decide_eq_true (by omega)
              have q2 : decide (n2 < l.length) = true := decide_eq_true (by omega)
              by_cases h1 : b = 101
              · have r1 : (b == 101) = true := by rw [beq_iff_eq]; exact h1
                have HV := Lib.hid (show ex = true by rw [Hex.out, decide_eq_true ⟨hlt, .inl (by rw [Hb.out]; exact h1)⟩])
                go_wp2_with (fail)
                go_meet
                exact ⟨by rw [HV.out], rfl⟩
              · have r1 : (b == 101) = false := by rw [beq_eq_false_iff_ne]; exact h1
                by_cases h2 : b = 69
                · have r2 : (b == 69) = true := by rw [beq_iff_eq]; exact h2
                  have HV := Lib.hid (show ex = true by rw [Hex.out, decide_eq_true ⟨hlt, .inr (by rw [Hb.out]; exact h2)⟩])
                  go_wp2_with (fail)
                  go_meet
                  exact ⟨by rw [HV.out], rfl⟩
                · have r2 : (b == 69) = false := by rw [beq_eq_false_iff_ne]; exact h2
                  have HV := Lib.hid (show ex = false by rw [Hex.out, decide_eq_false (fun h => by rw [Hb.out] at h; rcases h.2 with h | h; exact h1 h; exact h2 h)])
                  go_wp2_with (fail)
                  go_meet
                  exact ⟨by rw [HV.out], rfl⟩
            · have q1 : decide ((n2 : Int) < (l.length : Int)) = false := decide_eq_false (by omega)
              have q2 : decide (n2 < l.length) = false := decide_eq_false (by omega)
              have HV := Lib.hid (show ex = false by rw [Hex.out, decide_eq_false (fun h => hlt h.1)])
              go_wp2_with (fail)
              go_meet
              exact ⟨by rw [HV.out], rfl⟩
          case rest => as_aux_lemma =>
            obtain ⟨rfl, rfl⟩ := hcut
            go_upto_if 218 with (fail)
            go_cut [6, 2] (fun s6 s2 wx => ∃ (n3 : Nat) (st : Int), s6 = .int .i64 n3 ∧ s2 = .int .u64 st ∧ n3 ≤ l.length ∧ numEnd l = some n3 ∧ w = wx)
            case first => as_aux_lemma =>
              cases ex with
              | false =>
                have HM := Lib.hid (show numEnd l = some n2 by rw [HE2.out]; unfold numE; rw [if_neg (of_decide_eq_false Hex.out.symm)])
                go_wp2_with (fail)
                go_meet
                exact ⟨n2, _, rfl, rfl, by omega, HM.out, rfl⟩
              | true =>
                have hdt := of_decide_eq_true Hex.out.symm
                have hn2l := hdt.1
                have HFF := Lib.hid (show numEnd l = (if n2 + 1 < l.length ∧ (rd l ((n2 + 1 : Nat) : Int) = 45 ∨ rd l ((n2 + 1 : Nat) : Int) = 43) then (if n2 + 1 + 1 < l.length ∧ isD (rd l ((n2 + 1 + 1 : Nat) : Int)) then some (n2 + 1 + 1 + digN (l.drop (n2 + 1 + 1))) else none) else (if n2 + 1 < l.length ∧ isD (rd l ((n2 + 1 : Nat) : Int)) then some (n2 + 1 + digN (l.drop (n2 + 1))) else none)) from HE2.out.trans (if_pos hdt))
                clear hdt
                have ec : ((n2 + 1 : Nat) : Int) = (n2 : Int) + 1 := by omega
                go_upto_region 45 with (fail)
                rw [← ec]
                generalize hm : n2 + 1 = m at *
                have Hm := Lib.hid hm
                have hml : m ≤ l.length := by omega
                clear hm ec
                obtain ⟨sg, hsg⟩ : ∃ d : Bool, d = decide (m < l.length ∧ (rd l (m : Int) = 45 ∨ rd l (m : Int) = 43)) := ⟨_, rfl⟩
                have Hsg := Lib.hid hsg
                clear hsg
                go_upto_region 45 with (fail)
                go_cut [241] (fun s wx => s = .bool sg ∧ w = wx)
                case first => as_aux_lemma =>
                  by_cases hlt : m < l.length
                  · obtain ⟨b, hb⟩ : ∃ b, rd l (m : Int) = b := ⟨_, rfl⟩
                    have cb : w.cell? ⟨B, o + m, none⟩ = some (.int .u8 b) := by have := HR.out m hlt; rw [hb] at this; exact this
                    obtain ⟨kba, kbb⟩ : 0 ≤ b ∧ b < 256 := by have := HBS.out.rd m; rw [hb] at this; exact this
                    have Hb := Lib.hid hb
                    clear hb
                    have q1 : decide ((m : Int) < (l.length : Int)) = true := decide_eq_true (by omega)
                    have q2 : decide (m < l.length) = true := decide_eq_true (by omega)
                    by_cases h1 : b = 45
                    · have r1 : (b == 45) = true := by rw [beq_iff_eq]; exact h1
                      have HV := Lib.hid (show sg = true by rw [Hsg.out, decide_eq_true ⟨hlt, .inl (by rw [Hb.out]; exact h1)⟩])
                      go_wp2_with (fail)
                      go_meet
                      exact ⟨by rw [HV.out], rfl⟩
                    · have r1 : (b == 45) = false := by rw [beq_eq_false_iff_ne]; exact h1
                      by_cases h2 : b = 43
                      · have r2 : (b == 43) = true := by rw [beq_iff_eq]; exact h2
                        have HV := Lib.hid (show sg = true by rw [Hsg.out, decide_eq_true ⟨hlt, .inr (by rw [Hb.out]; exact h2)⟩])
                        go_wp2_with (fail)
                        go_meet
                        exact ⟨by rw [HV.out], rfl⟩
                      · have r2 : (b == 43) = false := by rw [beq_eq_false_iff_ne]; exact h2
                        have HV := Lib.hid (show sg = false by rw [Hsg.out, decide_eq_false (fun h => by rw [Hb.out] at h; rcases h.2 with h | h; exact h1 h; exact h2 h)])
                        go_wp2_with (fail)
                        go_meet
                        exact ⟨by rw [HV.out], rfl⟩
                  · have q1 : decide ((m : Int) < (l.length : Int)) = false := decide_eq_false (by omega)
                    have q2 : decide (m < l.length) = false := decide_eq_false (by omega)
                    have HV := Lib.hid (show sg = false by rw [Hsg.out, decide_eq_false (fun h => hlt h.1)])
                    go_wp2_with (fail)
                    go_meet
                    exact ⟨by rw [HV.out], rfl⟩
                case rest => as_aux_lemma =>
                  obtain ⟨rfl, rfl⟩ := hcut
                  go_upto_if 241 with (fail)
                  go_cut [6] (fun s6 wx => ∃ k : Nat, s6 = .int .i64 k ∧ k ≤ l.length ∧ numEnd l = (if k < l.length ∧ isD (rd l (k : Int)) then some (k + digN (l.drop k)) else none) ∧ w = wx)
                  case first => as_aux_lemma =>
                    cases sg with
                    | false =>
                      have HM := Lib.hid (show numEnd l = (if m < l.length ∧ isD (rd l (m : Int)) then some (m + digN (l.drop m)) else none) from HFF.out.trans (if_neg (of_decide_eq_false Hsg.out.symm)))
                      go_wp2_with (fail)
                      go_meet
                      exact ⟨m, rfl, by omega, HM.out, rfl⟩
                    | true =>
                      have hdt := of_decide_eq_true Hsg.out.symm
                      have hmll := hdt.1
                      have HM := Lib.hid (show numEnd l = (if m + 1 < l.length ∧ isD (rd l ((m + 1 : Nat) : Int)) then some (m + 1 + digN (l.drop (m + 1))) else none) from HFF.out.trans (if_pos hdt))
                      clear hdt
                      go_wp2_with (fail)
                      go_meet
                      exact ⟨m + 1, by first | rfl | go_num, by omega, HM.out, rfl⟩
                  case rest => as_aux_lemma =>
                    obtain ⟨k, rfl, hk, hkE, rfl⟩ := hcut
                    have HFE := Lib.hid hkE
                    clear hkE
                    go_upto_block 10 with (fail)
                    by_cases hlt : k < l.length
                    · obtain ⟨b, hb⟩ : ∃ b, rd l (k : Int) = b := ⟨_, rfl⟩
                      have cb : w.cell? ⟨B, o + k, none⟩ = some (.int .u8 b) := by have := HR.out k hlt; rw [hb] at this; exact this
                      obtain ⟨kba, kbb⟩ : 0 ≤ b ∧ b < 256 := by have := HBS.out.rd k; rw [hb] at this; exact this
                      have Hb := Lib.hid hb
                      clear hb
                      have q3 : decide ((l.length : Int) ≤ (k : Int)) = false := decide_eq_false (by omega)
                      have q4 : decide (l.length ≤ k) = false := decide_eq_false (by omega)
                      have p1 : decide ((k : Int) < (l.length : Int)) = true := decide_eq_true (by omega)
                      have p2 : decide (k < l.length) = true := decide_eq_true (by omega)
                      by_cases hlo : 48 ≤ b
                      · have r2 : decide (48 ≤ b) = true := decide_eq_true hlo
                        by_cases hhi : b ≤ 57
                        · have r3 : decide (b ≤ 57) = true := decide_eq_true hhi
                          have hst := Lib.hid (digN_step l k hlt)
                          have hEa : k + 1 + digN (l.drop (k + 1)) = k + digN (l.drop k) := by have := hst.out; rw [Hb.out, if_pos ⟨hlo, hhi⟩] at this; omega
                          have HEa := Lib.hid hEa
                          clear hEa
                          have HEND := Lib.hid (show numEnd l = some (k + digN (l.drop k)) by rw [HFE.out, Hb.out, if_pos ⟨hlt, hlo, hhi⟩])
                          go_wp2_with (fail)
                          generalize hEE : k + digN (l.drop k) = EE at *
                          clear hEE cb q3 q4 p1 p2 r2 r3 hlo hhi kba kbb Hb hst
                          go_loopg [6] l.length (fun kq v6 w' => ∃ i : Nat, v6 = .int .i64 i ∧ i ≤ l.length ∧ i + digN (l.drop i) = EE ∧ l.length ≤ kq + i ∧ w = w')
                          case atStart => exact ⟨k + 1, by go_num, by omega, HEa.out, by omega, rfl⟩
                          case round => as_aux_lemma =>
                            obtain ⟨i, rfl, hil, hiE, hik, rfl⟩ := hrel
                            have HIE := Lib.hid hiE
                            clear hiE
                            by_cases hlt : i < l.length
                            · obtain ⟨b, hb⟩ : ∃ b, rd l (i : Int) = b := ⟨_, rfl⟩
                              have cb : w.cell? ⟨B, o + i, none⟩ = some (.int .u8 b) := by have := HR.out i hlt; rw [hb] at this; exact this
                              obtain ⟨kba, kbb⟩ : 0 ≤ b ∧ b < 256 := by have := HBS.out.rd i; rw [hb] at this; exact this
                              have Hb := Lib.hid hb
                              clear hb
                              have q1 : decide ((i : Int) < (l.length : Int)) = true := decide_eq_true (by omega)
                              have q2 : decide (i < l.length) = true := decide_eq_true (by omega)
                              have hstep := Lib.hid (digN_step l i hlt)
                              by_cases hlo : 48 ≤ b
                              · by_cases hhi : b ≤ 57
                                · have r1 : decide (48 ≤ b) = true := decide_eq_true (by omega)
                                  have r2 : decide (b ≤ 57) = true := decide_eq_true (by omega)
                                  go_wp2_with (fail)
                                  go_roundg (gk - 1)
                                  case measure => omega
                                  case rel => exact ⟨i + 1, by go_num, by omega, by have h1 := HIE.out; have h2 := hstep.out; rw [Hb.out, if_pos ⟨hlo, hhi⟩] at h2; omega, by omega, rfl⟩
                                · have r1 : decide (48 ≤ b) = true := decide_eq_true (by omega)
                                  have r2 : decide (b ≤ 57) = false := decide_eq_false (by omega)
                                  have hE := Lib.hid (show i = EE by have h1 := HIE.out; have h2 := hstep.out; rw [Hb.out, if_neg (fun h => hhi h.2)] at h2; omega)
                                  have HM := Lib.hid (show numEnd l = some i by rw [HEND.out, hE.out])
                                  go_wp2_with (fail)
                                  go_meet
                                  exact ⟨i, _, rfl, rfl, by omega, HM.out, rfl⟩
                              · have r1 : decide (48 ≤ b) = false := decide_eq_false (by omega)
                                have hE := Lib.hid (show i = EE by have h1 := HIE.out; have h2 := hstep.out; rw [Hb.out, if_neg (fun h => hlo h.1)] at h2; omega)
                                have HM := Lib.hid (show numEnd l = some i by rw [HEND.out, hE.out])
                                go_wp2_with (fail)
                                go_meet
                                exact ⟨i, _, rfl, rfl, by omega, HM.out, rfl⟩
                            · have q1 : decide ((i : Int) < (l.length : Int)) = false := decide_eq_false (by omega)
                              have q2 : decide (i < l.length) = false := decide_eq_false (by omega)
                              have hE := Lib.hid (show i = EE by have h1 := HIE.out; have h2 := digN_end l i (by omega); omega)
                              have HM := Lib.hid (show numEnd l = some i by rw [HEND.out, hE.out])
                              go_wp2_with (fail)
                              go_meet
                              exact ⟨i, _, rfl, rfl, by omega, HM.out, rfl⟩
                        · have r3 : decide (b ≤ 57) = false := decide_eq_false hhi
                          have HNN := Lib.hid (show numEnd l = none by rw [HFE.out]; exact if_neg (fun h => hhi (Hb.out ▸ h.2.2)))
                          have C60 := Lib.hid (fun s' => f60 B (o + k) (c - k) (l.drop k) s' w G HE.out (HR.out.sub k (o + k) (fun _ => rfl)) (by rw [List.length_drop]; omega) (by rw [List.length_drop]; omega) (HBS.out.drop k) (by rw [List.length_drop]; omega) (by omega))
                          rw [List.length_drop] at C60
                          go_wp2_with (go_at_call 60; (with_reducible refine (C60.out _).mono ?_); rintro e w1 ⟨g, rfl, hb⟩; have HB := Lib.hid hb; clear hb)
                          rw [Exit.noGoto_ret]
                          go_returns
                          exact ⟨k, _, _, rfl, by omega, HB.out, .inr (.inr ⟨HNN.out, by omega, g, rfl⟩)⟩
                      · have r2 : decide (48 ≤ b) = false := decide_eq_false hlo
                        have HNN := Lib.hid (show numEnd l = none by rw [HFE.out]; exact if_neg (fun h => hlo (Hb.out ▸ h.2.1)))
                        have C60 := Lib.hid (fun s' => f60 B (o + k) (c - k) (l.drop k) s' w G HE.out (HR.out.sub k (o + k) (fun _ => rfl)) (by rw [List.length_drop]; omega) (by rw [List.length_drop]; omega) (HBS.out.drop k) (by rw [List.length_drop]; omega) (by omega))
                        rw [List.length_drop] at C60
                        go_wp2_with (go_at_call 60; (with_reducible refine (C60.out _).mono ?_); rintro e w1 ⟨g, rfl, hb⟩; have HB := Lib.hid hb; clear hb)
                        rw [Exit.noGoto_ret]
                        go_returns
                        exact ⟨k, _, _, rfl, by omega, HB.out, .inr (.inr ⟨HNN.out, by omega, g, rfl⟩)⟩
                    · have q3 : decide ((l.length : Int) ≤ (k : Int)) = true := decide_eq_true (by omega)
                      have q4 : decide (l.length ≤ k) = true := decide_eq_true (by omega)
                      have HNN := Lib.hid (show numEnd l = none by rw [HFE.out]; exact if_neg (fun h => hlt h.1))
                      go_wp2_with (fail)
                      go_quiet (fail)
                      go_wp2_with (fail)
                      rw [Exit.noGoto_ret]
                      go_returns
                      exact ⟨n2, _, _, rfl, by omega, by repeat (first | exact Below.refl _ _ | apply pw_below_drewN), .inr (.inl ⟨HNN.out, rfl⟩)⟩
            case rest => as_aux_lemma =>
              obtain ⟨n3, st3, rfl, rfl, hn3, hok, rfl⟩ := hcut
              have HOK := Lib.hid hok
              clear hok
              go_wp2_with (fail)
              rw [Exit.noGoto_ret]
              go_returns
              exact ⟨n3, _, _, rfl, hn3, by repeat (first | exact Below.refl _ _ | apply pw_below_drewN), .inl ⟨HOK.out, rfl⟩⟩
end Go.Proofs.YtjfbkgkpjkickaaGreatDoor.PAll
