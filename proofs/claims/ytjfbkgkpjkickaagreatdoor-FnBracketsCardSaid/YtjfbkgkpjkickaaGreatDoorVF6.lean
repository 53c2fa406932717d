/- The texts of a proof, its declarations alone: part 6. -/
import Derived.Test.YtjfbkgkpjkickaaGreatDoorVF4
import Derived.Test.YtjfbkgkpjkickaaGreatDoorVF5
set_option linter.unusedVariables false
set_option linter.unusedSimpArgs false
-- YtjfbkgkpjkickaaGreatDoorFg
set_option linter.unusedVariables false
set_option linter.unusedSimpArgs false
namespace Go.Proofs.YtjfbkgkpjkickaaGreatDoor.PAll
open Go.RowKit Go.Proofs.YtjfbkgkpjkickaaGreatDoorW.PrintWords Go.Proofs.YtjfbkgkpjkickaaGreatDoorW.PrintLast Go.Proofs.YtjfbkgkpjkickaaGreatDoorW.PrintMore

/-- an array of arrays is read: what is told -/
def RVb (b q k : Nat) (s : DS) (D : Nat) (w : World) (e : Ending) (w' : World) : Prop :=
  ∃ v x : Value, e = .returned (.tuple #[v, x]) ∧ Below D w w' ∧
    ((k ≤ b ∧ x = .nilIface ∧ (∃ A m n, v = .slice A m n) ∧ ∃ g cs p0 q2 : Nat, q2 = q + 2 * k ∧ DecAt w' D { s with stack := .slice (some ⟨g, 0, none⟩) 0 cs, last := s.last + 1, ps := (p0 : Int), pe := (q2 : Int) }) ∨
     (b < k ∧ (∃ g : Nat, x = .iface 67 (.pointer (some ⟨g, 0, none⟩))) ∧ v = .slice none 0 0 ∧ DecAt w' D s))
set_option maxRecDepth 100000 in
set_option maxHeartbeats 16000000 in
theorem f71b (D B c q a b k : Nat) (fp : Value) (t : List Int) (s : DS) (loose dup : Bool) (w : World) (G : GV) (hI : Inv w G D B c t s loose dup) (hT : Top s) (hb : Brk t a b) (ha : a ≤ 900) (hqa : q + (k + 1) = a) (hs0 : s.stack = .slice none 0 0) (hpe : s.pe = (q : Int)) (hql : q ≤ t.length) :
    Calls Tryz.prog 71 #[.pointer (some ⟨D, 0, none⟩), fp] w (RVb b q (k + 1) s D w) := by
  have HS0 := Lib.hid hs0
  clear hs0
  have hl := hI.hl
  have hc := hI.hc
  have hc2 := hI.hc2
  obtain ⟨sA, sc, hst⟩ := hT.stack
  obtain ⟨n0, hn0⟩ : ∃ n0, wsN (t.drop q) = n0 := ⟨_, rfl⟩
  have HZ0 := Lib.hid (show n0 = 0 by rw [← hn0]; exact hb.ws q)
  have HLEN := Lib.hid hb.len
  have HQA := Lib.hid hqa
  clear hqa
  have hln0 : q + n0 ≤ t.length := by have := wsN_le (t.drop q); rw [List.length_drop] at this; omega
  have c5 := hI.c5
  have C86 := Lib.hid (f86 D s w hI.dec)
  have HI := Lib.hid hI
  have HT := Lib.hid hT
  have HN0 := Lib.hid hn0
  have HQ := Lib.hid hpe
  have HST := Lib.hid hst
  clear hI hT hn0 hpe hst
  go_enter Tryz.func71, Tryz.ntmps71
  go_wp2_with (fail)
  refine C86.out.mono ?_
  rintro e w1 ⟨rfl, hd1⟩
  have HB1 := Lib.hid hd1.below
  have HI1 := Lib.hid (HI.out.mono hd1.below)
  have c7 := HI1.out.c7
  have c9 := HI1.out.c9
  rw [HQ.out] at c9
  clear hd1 c5
  obtain ⟨off1, ho1, _, hsl1⟩ := sub22 B 0 q t.length c (by omega) hc
  have C87 := f87 (some ⟨B, off1, none⟩) (c - q) (t.drop q) w1 (HI1.out.rbT.C q (some ⟨B, off1, none⟩) (fun h => by rw [ho1 h, Nat.zero_add]) (by omega)) (by rw [List.length_drop]; omega) (by rw [List.length_drop]; omega)
  rw [List.length_drop, HN0.out] at C87
  have H87 := Lib.hid C87
  clear C87 ho1
  go_wp2_with (fail)
  refine H87.out.mono ?_
  rintro e w2 ⟨rfl, hd2⟩
  have HB2 := Lib.hid (HB1.out.trans (hd2.below.mono HB1.out.size))
  have HI2 := Lib.hid (HI1.out.mono hd2.below)
  have d7 := HI2.out.c7
  clear hd2 c7 c9 H87 hsl1
  have C88 := f88 D (q + n0) s (some ⟨B, 0, none⟩) t.length c w2 HI2.out.dec HI2.out.buf hl (by omega)
  rw [Int.natCast_add] at C88
  have hend : ¬ q + n0 = t.length := by have h1 := HZ0.out; have h2 := HLEN.out; have h3 := HQA.out; omega
  rw [decide_eq_false hend] at C88
  have H88 := Lib.hid C88
  clear C88
  have hlt0 : q + n0 < t.length := by omega
  have bd := HI2.out.bs.rd (q + n0)
  obtain ⟨cn, hcn⟩ : ∃ cn : Nat, rd t ((q + n0 : Nat) : Int) = (cn : Int) := ⟨(rd t ((q + n0 : Nat) : Int)).toNat, by omega⟩
  have hc91 : cn = 91 := by have h1 := HZ0.out; have h3 := HQA.out; have := hb.op (q + n0) (by omega); omega
  have hdel : ¬ (cn = 58 ∨ cn = 44) := by omega
  have hcn2 : cn < 256 := by omega
  have cb : w2.cell? ⟨B, q + n0, none⟩ = some (.int .u8 (cn : Int)) := by have := HI2.out.rb (q + n0) hlt0; rw [hcn, Nat.zero_add] at this; exact this
  have HCN := Lib.hid hcn
  have e0 := HI2.out.c0
  rw [HST.out] at e0
  have e1 := HI2.out.c1
  have HC91 := Lib.hid hc91
  clear bd hcn hend
  have x58 : ((cn : Int) == 58) = false := by rw [beq_eq_false_iff_ne]; omega
  have x44 : ((cn : Int) == 44) = false := by rw [beq_eq_false_iff_ne]; omega
  have HDEL := Lib.hid hdel
  clear hdel hc91
  obtain ⟨kn, hkn⟩ : ∃ kn, normK cn = kn := ⟨_, rfl⟩
  have C85 := f85 cn G w2 HI2.out.env hcn2
  rw [hkn] at C85
  have H85 := Lib.hid C85
  have HKN := Lib.hid hkn
  have C93 := Lib.hid (fun W => f93 HT.out.last W sA sc (kn : Nat))
  clear C85 hkn
  go_wp2_with (fail)
  refine H88.out.mono ?_
  rintro e w3 ⟨rfl, rfl⟩
  go_wp2_with (fail)
  refine H85.out.mono ?_
  rintro e w3 ⟨rfl, rfl⟩
  go_wp2_with (fail)
  refine (C93.out _).mono ?_
  rintro e w3 ⟨rfl, hb3⟩
  have HB3 := Lib.hid (HB2.out.trans (hb3.mono HB2.out.size))
  have HI3 := Lib.hid (HI2.out.mono hb3)
  have g0 := HI3.out.c0
  rw [HST.out] at g0
  have g1 := HI3.out.c1
  have g10 := HI3.out.c10
  clear hb3 e0 e1 cb d7 C93 H85 H88
  have C90 := Lib.hid (fun W => f90 sA sc s.last W)
  go_wp2_with (fail)
  refine (C90.out _).mono ?_
  rintro e w4 ⟨rfl, hb4⟩
  have HB4 := Lib.hid (HB3.out.trans (hb4.mono HB3.out.size))
  have HI4 := Lib.hid (HI3.out.mono hb4)
  clear hb4 g0 g1 g10
  have C := arr95 fp hb ha (q + n0) k w4 (by have h1 := HZ0.out; have h3 := HQA.out; omega) HI4.out
  rw [Int.natCast_add] at C
  have H95 := Lib.hid C
  have HBK := Lib.hid hb
  clear C hb
  go_wp2_with (fail)
  refine H95.out.mono ?_
  rintro e w5 ⟨q2, x, rfl, hq2, hb5, hcase⟩
  have HB5 := Lib.hid (HB4.out.trans (hb5.mono HB4.out.size))
  have HI5 := Lib.hid (HI4.out.mono hb5)
  have HD5 := Lib.hid (HB5.out.mono (Nat.le_of_lt HI.out.ltD))
  have k10 := HI5.out.c10
  clear hb5
  rcases hcase with ⟨hkb, hq2e, rfl⟩ | ⟨hkb, hx⟩
  · have HKB := Lib.hid hkb
    have HQ2 := Lib.hid hq2e
    obtain ⟨n, hn⟩ : ∃ n, n = 2 * (k + 1) := ⟨_, rfl⟩
    have hq2n : q2 = q + n0 + n := by have := HZ0.out; omega
    have HN := Lib.hid hn
    have hn14 : wrap64 ((q2 : Int) - ((q : Int) + (n0 : Int))) = (n : Int) := by unfold wrap64; omega
    clear hkb hq2e hn
    go_upto_region 37 with (fail)
    go_cut [8, 14] (fun s8 s14 wx => s8 = .int .i64 q2 ∧ s14 = .int .i64 n ∧ w5 = wx)
    case first => as_aux_lemma =>
      go_wp2_with (fail)
      go_meet
      exact ⟨by congr 1; omega, by congr 1; omega, rfl⟩
    case rest =>
      obtain ⟨rfl, rfl, rfl⟩ := hcut
      obtain rfl : cn = 91 := HC91.out
      obtain rfl : (91 : Nat) = kn := HKN.out
      have C110 := Lib.hid (f110s D s w5 HI5.out.dec HT.out.last HS0.out)
      have HQN := Lib.hid hq2n
      have hnq : n ≤ q2 := by omega
      have hq2c : q2 ≤ c := by omega
      obtain ⟨p0, hp0⟩ : ∃ p0, p0 = q + n0 := ⟨_, rfl⟩
      have hsub : (q2 : Int) - (n : Int) = (p0 : Int) := by omega
      have hp0q : p0 ≤ q2 := by omega
      have HP0 := Lib.hid hp0
      clear hq2n hn14 hp0 hln0 hlt0 hql
      go_wp2_with (fail)
      refine C110.out.mono ?_
      rintro e w6 ⟨rfl, hb6, g, cs, hg, hcs, hcell, hd6⟩
      have HB6 := Lib.hid hb6
      have HD6 := Lib.hid hd6
      have C111 := Lib.hid (f111s D g cs _ (s.last + 1) w6 hd6 rfl rfl hcs hcell (by have := HI5.out.ltD; omega))
      clear hb6 hd6 hcell
      go_wp2_with (fail)
      refine C111.out.mono ?_
      rintro e w7 ⟨rfl, hb7, hd7⟩
      have HB7 := Lib.hid (HB6.out.trans hb7)
      have HD7 := Lib.hid hd7
      have m7 : w7.cell? ⟨D, 7, none⟩ = some (.slice (some ⟨B, 0, none⟩) t.length c) := hd7.cell 7 _ (by rw [← HI5.out.buf]; rfl)
      have m8 : w7.cell? ⟨D, 8, none⟩ = some (.int .i64 s.ps) := hd7.cell 8 _ rfl
      have m9 : w7.cell? ⟨D, 9, none⟩ = some (.int .i64 s.pe) := hd7.cell 9 _ rfl
      have z8 := hd7.fz 8
      have z9 := hd7.fz 9
      clear hb7 hd7 k10
      go_wp2_with (fail)
      all_goals (go_returns)
      all_goals (refine ⟨_, _, rfl, HD5.out.trans (((HB7.out.set 9 _).set 8 _).below (Nat.le_refl _) (Nat.le_of_lt HI5.out.ltD)), .inl ⟨HKB.out, rfl, ⟨_, _, _, rfl⟩, g, cs, p0, q2, ?_, ?_⟩⟩)
      all_goals (first | (have h1 := HQN.out; have h2 := HN.out; have h3 := HZ0.out; omega) | exact (HD7.out.setPe _).setPs _ | (obtain rfl : q2 = p0 := (by omega); exact (HD7.out.setPe _).setPs _))
  · have HKB := Lib.hid hkb
    clear hkb
    rcases hx with rfl | ⟨m, hm0, hmk, hw⟩
    · have C91 := Lib.hid (f91w D B c q2 t s loose dup 1 (.iface 265 (.pointer (some G.ueof))) w5 G HI5.out HT.out hq2 (.inl ⟨_, rfl, .inl rfl⟩))
      go_wp2_with (fail)
      refine C91.out.mono ?_
      rintro e w6 ⟨g6, rfl, hb6⟩
      have HB6 := Lib.hid hb6
      clear hb6
      go_wp2_with (fail)
      go_returns
      exact ⟨_, _, rfl, HD5.out.trans (HB6.out.mono (Nat.le_of_lt HI5.out.ltD)), .inr ⟨HKB.out, ⟨g6, rfl⟩, rfl, HI5.out.dec.mono HB6.out⟩⟩
    · have C91 := f91p D B c q2 m t s loose dup 1 x w4 w5 G HI5.out HT.out hq2 hm0 (by have := HQA.out; omega) hw
      obtain ⟨P, v, rfl, hE⟩ := hw
      have H91 := Lib.hid C91
      clear C91 hE
      go_wp2_with (fail)
      refine H91.out.mono ?_
      rintro e w6 ⟨g6, rfl, hb6⟩
      have HB6 := Lib.hid hb6
      clear hb6
      go_wp2_with (fail)
      go_returns
      exact ⟨_, _, rfl, HD5.out.trans (HB6.out.mono (Nat.le_of_lt HI5.out.ltD)), .inr ⟨HKB.out, ⟨g6, rfl⟩, rfl, HI5.out.dec.mono HB6.out⟩⟩
end Go.Proofs.YtjfbkgkpjkickaaGreatDoor.PAll
