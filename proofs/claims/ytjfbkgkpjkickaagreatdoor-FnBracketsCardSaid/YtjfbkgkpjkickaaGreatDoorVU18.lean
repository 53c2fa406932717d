/- The texts of a proof, its declarations alone: part 18. -/
import Derived.Deep.DeepCutAuto
import Derived.Test.YtjfbkgkpjkickaaGreatDoorVU9
import Derived.Test.YtjfbkgkpjkickaaGreatDoorVU17
set_option linter.unusedVariables false
set_option linter.unusedSimpArgs false
-- YtjfbkgkpjkickaaGreatDoorCc
set_option linter.unusedVariables false
set_option linter.unusedSimpArgs false
namespace Go.Proofs.YtjfbkgkpjkickaaGreatDoor.PAll
open Go.RowKit Go.Proofs.YtjfbkgkpjkickaaGreatDoorW.PrintWords Go.Proofs.YtjfbkgkpjkickaaGreatDoorW.PrintLast Go.Proofs.YtjfbkgkpjkickaaGreatDoorW.PrintMore

/-- white space, then a value: what is told -/
def RV (E : List Int → Option Nat) (t : List Int) (q : Nat) (s : DS) (G : GV) (D : Nat) (w : World) (e : Ending) (w' : World) : Prop :=
  ∃ v x : Value, e = .returned (.tuple #[v, x]) ∧ Below D w w' ∧
    ((x = .nilIface ∧ ∃ n, q + wsN (t.drop q) < t.length ∧ E (t.drop (q + wsN (t.drop q))) = some n ∧ (∃ A m k, v = .slice A m k) ∧ DecAt w' D { s with last := s.last + 1, ps := ((q + wsN (t.drop q) : Nat) : Int), pe := ((q + wsN (t.drop q) + n : Nat) : Int) }) ∨
     (((∃ g : Nat, x = .iface 67 (.pointer (some ⟨g, 0, none⟩))) ∨ x = .iface 265 (.pointer (some G.eof))) ∧ v = .slice none 0 0 ∧ (q + wsN (t.drop q) < t.length → E (t.drop (q + wsN (t.drop q))) = none) ∧ DecAt w' D s))
theorem Inv.c0 {w : World} {G : GV} {D B c : Nat} {t : List Int} {s : DS} {loose dup : Bool} (h : Inv w G D B c t s loose dup) : w.cell? ⟨D, 0, none⟩ = some s.stack := h.dec.cell 0 _ rfl
theorem Inv.c1 {w : World} {G : GV} {D B c : Nat} {t : List Int} {s : DS} {loose dup : Bool} (h : Inv w G D B c t s loose dup) : w.cell? ⟨D, 1, none⟩ = some (.int .u64 s.last) := h.dec.cell 1 _ rfl
theorem Inv.c5 {w : World} {G : GV} {D B c : Nat} {t : List Int} {s : DS} {loose dup : Bool} (h : Inv w G D B c t s loose dup) : w.cell? ⟨D, 5, none⟩ = some (.int .i64 0) := h.dec.cell 5 _ rfl
theorem Inv.c9 {w : World} {G : GV} {D B c : Nat} {t : List Int} {s : DS} {loose dup : Bool} (h : Inv w G D B c t s loose dup) : w.cell? ⟨D, 9, none⟩ = some (.int .i64 s.pe) := h.dec.cell 9 _ rfl
theorem Inv.ltD {w : World} {G : GV} {D B c : Nat} {t : List Int} {s : DS} {loose dup : Bool} (h : Inv w G D B c t s loose dup) : D < w.heap.size := h.dec.lt
theorem Inv.rbT {w : World} {G : GV} {D B c : Nat} {t : List Int} {s : DS} {loose dup : Bool} (h : Inv w G D B c t s loose dup) : TextAt w B t := fun j hj => by have := h.rb j hj; rw [Nat.zero_add, rd_getD] at this; exact this
set_option maxRecDepth 100000 in
set_option maxHeartbeats 8000000 in
theorem f71 (D B c F q : Nat) (t : List Int) (s : DS) (loose dup : Bool) (E : List Int → Option Nat) (w : World) (G : GV) (hI : Inv w G D B c t s loose dup) (hT : Top s) (hF : D < F) (hf : FlAt w F 0) (hpe : s.pe = (q : Int)) (hql : q ≤ t.length)
    (hK : ∀ l n, E l = some n → rd l 0 = 110 ∨ rd l 0 = 102 ∨ rd l 0 = 116 ∨ rd l 0 = 34 ∨ rd l 0 = 45 ∨ isD (rd l 0))
    (hE : ∀ l, rd l 0 = 58 ∨ rd l 0 = 44 → E l = none)
    (C95 : ∀ W p, p = q + wsN (t.drop q) → p < t.length → Inv W G D B c t s loose dup → FlAt W F 0 → Calls Tryz.prog 95 #[.pointer (some ⟨D, 0, none⟩), .pointer (some ⟨F, 0, none⟩), .int .i64 p, .int .i64 1] W (ValAt (E (t.drop p)) t p G F W)) :
    Calls Tryz.prog 71 #[.pointer (some ⟨D, 0, none⟩), .pointer (some ⟨F, 0, none⟩)] w (RV E t q s G D w) := by
  have hl := hI.hl
  have hc := hI.hc
  have hc2 := hI.hc2
  obtain ⟨sA, sc, hst⟩ := hT.stack
  obtain ⟨n0, hn0⟩ : ∃ n0, wsN (t.drop q) = n0 := ⟨_, rfl⟩
  have hln0 : q + n0 ≤ t.length := by have := wsN_le (t.drop q); rw [List.length_drop] at this; omega
  have c5 := hI.c5
  have C86 := Lib.hid (f86 D s w hI.dec)
  have HI := Lib.hid hI
  have HT := Lib.hid hT
  have HN0 := Lib.hid hn0
  have HQ := Lib.hid hpe
  have HST := Lib.hid hst
  clear hI hT hn0 hpe hst
  go_enter Tryz.func71, Tryz.ntmps71
  go_wp2_with (fail)
  refine C86.out.mono ?_
  rintro e w1 ⟨rfl, hd1⟩
  have HB1 := Lib.hid hd1.below
  have HI1 := Lib.hid (HI.out.mono hd1.below)
  have c7 := HI1.out.c7
  have c9 := HI1.out.c9
  rw [HQ.out] at c9
  clear hd1 c5
  obtain ⟨off1, ho1, _, hsl1⟩ := sub22 B 0 q t.length c (by omega) hc
  have C87 := f87 (some ⟨B, off1, none⟩) (c - q) (t.drop q) w1 (HI1.out.rbT.C q (some ⟨B, off1, none⟩) (fun h => by rw [ho1 h, Nat.zero_add]) (by omega)) (by rw [List.length_drop]; omega) (by rw [List.length_drop]; omega)
  rw [List.length_drop, HN0.out] at C87
  have H87 := Lib.hid C87
  clear C87 ho1
  go_wp2_with (fail)
  refine H87.out.mono ?_
  rintro e w2 ⟨rfl, hd2⟩
  have HB2 := Lib.hid (HB1.out.trans (hd2.below.mono HB1.out.size))
  have HI2 := Lib.hid (HI1.out.mono hd2.below)
  have d7 := HI2.out.c7
  clear hd2 c7 c9 H87 hsl1
  have C88 := f88 D (q + n0) s (some ⟨B, 0, none⟩) t.length c w2 HI2.out.dec HI2.out.buf hl (by omega)
  rw [Int.natCast_add] at C88
  by_cases hend : q + n0 = t.length
  · rw [decide_eq_true hend] at C88
    have H88 := Lib.hid C88
    clear C88
    have C89 := f89 D B c t s G w2 HI2.out.env HI2.out.dec HI2.out.buf HI2.out.rbT hl hc
    rw [show ((t.length : Nat) : Int) = (q : Int) + (n0 : Int) by omega] at C89
    have H89 := Lib.hid C89
    clear C89
    have HEND := Lib.hid hend
    clear hend
    go_wp2_with (fail)
    refine H88.out.mono ?_
    rintro e w3 ⟨rfl, rfl⟩
    go_wp2_with (fail)
    refine H89.out.mono ?_
    rintro e w3 ⟨rfl, hd3⟩
    have HB3 := Lib.hid (HB2.out.trans (hd3.below.mono HB2.out.size))
    have HI3 := Lib.hid (HI2.out.mono hd3.below)
    clear hd3 d7
    have q1 := eqSent HI3.out.sent (a := G.ueof) (b := G.ueof) (.inr (.inl rfl)) (.inr (.inl rfl))
    rw [decide_eq_true rfl] at q1
    have hu := HI3.out.env.h1
    have h0 := HI3.out.env.h0
    have e0 := HI3.out.c0
    rw [HST.out] at e0
    have e1 := HI3.out.c1
    have C90 := Lib.hid (fun W => f90 sA sc s.last W)
    go_wp2_with (fail)
    refine (C90.out _).mono ?_
    rintro e w4 ⟨rfl, hb4⟩
    have HB4 := Lib.hid (HB3.out.trans (hb4.mono HB3.out.size))
    have HI4 := Lib.hid (HI3.out.mono hb4)
    have h04 := HI4.out.env.h0
    clear hb4 e0 e1 h0 hu q1
    have C91 := f91e D B c t s loose dup ((q : Int) + (n0 : Int)) 0 w4 G HI4.out
    have H91 := Lib.hid C91
    clear C91
    go_wp2_with (fail)
    refine H91.out.mono ?_
    rintro e w5 ⟨rfl, rfl⟩
    go_wp2_with (fail)
    go_returns
    exact ⟨_, _, rfl, HB4.out.mono (Nat.le_of_lt HI.out.ltD), .inr ⟨.inr rfl, rfl, fun h => absurd h (by rw [HN0.out]; have := HEND.out; omega), HI4.out.dec⟩⟩
  · rw [decide_eq_false hend] at C88
    have H88 := Lib.hid C88
    clear C88
    have hlt0 : q + n0 < t.length := by omega
    have bd := HI2.out.bs.rd (q + n0)
    obtain ⟨cn, hcn⟩ : ∃ cn : Nat, rd t ((q + n0 : Nat) : Int) = (cn : Int) := ⟨(rd t ((q + n0 : Nat) : Int)).toNat, by omega⟩
    have hcn2 : cn < 256 := by omega
    have cb : w2.cell? ⟨B, q + n0, none⟩ = some (.int .u8 (cn : Int)) := by have := HI2.out.rb (q + n0) hlt0; rw [hcn, Nat.zero_add] at this; exact this
    have HCN := Lib.hid hcn
    have e0 := HI2.out.c0
    rw [HST.out] at e0
    have e1 := HI2.out.c1
    clear bd hcn hend
    by_cases hdel : cn = 58 ∨ cn = 44
    · rcases hdel with rfl | rfl
      · as_aux_lemma =>
          obtain ⟨off2, ho2, _, hsl2⟩ := sub22 B 0 (q + n0 + 1) t.length c (by omega) hc
          rw [show ((q + n0 + 1 : Nat) : Int) = (q : Int) + (n0 : Int) + 1 by omega] at hsl2
          obtain ⟨n1, hn1⟩ : ∃ n1, wsN (t.drop (q + n0 + 1)) = n1 := ⟨_, rfl⟩
          have hln1 : q + n0 + 1 + n1 ≤ t.length := by have := wsN_le (t.drop (q + n0 + 1)); rw [List.length_drop] at this; omega
          have C87 := f87 (some ⟨B, off2, none⟩) (c - (q + n0 + 1)) (t.drop (q + n0 + 1)) w2 (HI2.out.rbT.C (q + n0 + 1) (some ⟨B, off2, none⟩) (fun h => by rw [ho2 h, Nat.zero_add]) (by omega)) (by rw [List.length_drop]; omega) (by rw [List.length_drop]; omega)
          rw [List.length_drop, hn1] at C87
          have H87 := Lib.hid C87
          clear C87 ho2 hn1
          have hEN := Lib.hid (show E (t.drop (q + n0)) = none from hE _ (by rw [rd_drop0, HCN.out]; simp))
          have hws := Lib.hid (show q + wsN (t.drop q) < t.length by rw [HN0.out]; exact hlt0)
          go_wp2_with (fail)
          refine H88.out.mono ?_
          rintro e w3 ⟨rfl, rfl⟩
          go_wp2_with (fail)
          refine H87.out.mono ?_
          rintro e w3 ⟨rfl, hd3⟩
          have HB3 := Lib.hid (HB2.out.trans (hd3.below.mono HB2.out.size))
          have HI3 := Lib.hid (HI2.out.mono hd3.below)
          have f7 := HI3.out.c7
          have f0 := HI3.out.c0
          rw [HST.out] at f0
          have f1 := HI3.out.c1
          clear hd3 d7 e0 e1 cb H87 hsl2
          have ec : ((q + n0 + 1 + n1 : Nat) : Int) = (q : Int) + (n0 : Int) + 1 + (n1 : Int) := by omega
          have C88b := f88 D (q + n0 + 1 + n1) s (some ⟨B, 0, none⟩) t.length c w3 HI3.out.dec HI3.out.buf hl (by omega)
          rw [ec] at C88b
          by_cases hend2 : q + n0 + 1 + n1 = t.length
          · rw [decide_eq_true hend2] at C88b
            have H88b := Lib.hid C88b
            have C89 := f89 D B c t s G w3 HI3.out.env HI3.out.dec HI3.out.buf HI3.out.rbT hl hc
            have etl : ((t.length : Nat) : Int) = (q : Int) + (n0 : Int) + 1 + (n1 : Int) := by omega
            rw [etl] at C89
            have H89 := Lib.hid C89
            have C91 := fun W (hI : Inv W G D B c t s loose dup) => f91w D B c t.length t s loose dup 0 (.iface 265 (.pointer (some G.ueof))) W G hI HT.out (Nat.le_refl _) (.inl ⟨_, rfl, .inl rfl⟩)
            rw [etl] at C91
            have H91 := Lib.hid C91
            have C92 := Lib.hid (fun W x (hI : Inv W G D B c t s loose dup) => f92 D B c q t s loose dup 58 x W G hI HT.out (by decide) HQ.out hws.out)
            clear C88b C89 C91 etl ec hend2
            go_wp2_with (fail)
            refine H88b.out.mono ?_
            rintro e w4 ⟨rfl, rfl⟩
            go_wp2_with (fail)
            refine H89.out.mono ?_
            rintro e w4 ⟨rfl, hd4⟩
            have HB4 := Lib.hid (HB3.out.trans (hd4.below.mono HB3.out.size))
            have HI4 := Lib.hid (HI3.out.mono hd4.below)
            clear hd4 f7 f0 f1
            go_wp2_with (fail)
            refine (H91.out _ HI4.out).mono ?_
            rintro e w5 ⟨g5, rfl, hb5⟩
            have HB5 := Lib.hid (HB4.out.trans (hb5.mono HB4.out.size))
            have HI5 := Lib.hid (HI4.out.mono hb5)
            clear hb5
            go_wp2_with (fail)
            refine (C92.out _ _ HI5.out).mono ?_
            rintro e w6 ⟨g6, rfl, hb6⟩
            have HB6 := Lib.hid (HB5.out.trans (hb6.mono HB5.out.size))
            have HI6 := Lib.hid (HI5.out.mono hb6)
            clear hb6
            go_wp2_with (fail)
            go_returns
            exact ⟨_, _, rfl, HB6.out.mono (Nat.le_of_lt HI.out.ltD), .inr ⟨(.inl ⟨g6, rfl⟩), rfl, fun _ => by rw [HN0.out]; exact hEN.out, HI6.out.dec⟩⟩
          · rw [decide_eq_false hend2] at C88b
            have H88b := Lib.hid C88b
            have hlt2 : q + n0 + 1 + n1 < t.length := by omega
            have bd := HI3.out.bs.rd (q + n0 + 1 + n1)
            obtain ⟨cm, hcm⟩ : ∃ cm : Nat, rd t ((q + n0 + 1 + n1 : Nat) : Int) = (cm : Int) := ⟨(rd t ((q + n0 + 1 + n1 : Nat) : Int)).toNat, by omega⟩
            have cbm : w3.cell? ⟨B, q + n0 + 1 + n1, none⟩ = some (.int .u8 (cm : Int)) := by have := HI3.out.rb (q + n0 + 1 + n1) hlt2; rw [hcm, Nat.zero_add] at this; exact this
            have C85 := Lib.hid (f85 cm G w3 HI3.out.env (by omega))
            have C93 := Lib.hid (fun W => f93 HT.out.last W sA sc (normK cm : Nat))
            have C94 := Lib.hid (fun W (hI : Inv W G D B c t s loose dup) => f94 D B c q t s loose dup 58 (normK cm : Nat) W G hI HT.out (by decide) HQ.out hws.out)
            clear C88b bd hcm hend2
            go_wp2_with (fail)
            refine H88b.out.mono ?_
            rintro e w4 ⟨rfl, rfl⟩
            go_wp2_with (fail)
            refine C85.out.mono ?_
            rintro e w4 ⟨rfl, rfl⟩
            go_wp2_with (fail)
            refine (C93.out _).mono ?_
            rintro e w4 ⟨rfl, hb4⟩
            have HB4 := Lib.hid (HB3.out.trans (hb4.mono HB3.out.size))
            have HI4 := Lib.hid (HI3.out.mono hb4)
            clear hb4 f7 f0 f1 cbm
            go_wp2_with (fail)
            refine (C94.out _ HI4.out).mono ?_
            rintro e w5 ⟨g5, rfl, hb5⟩
            have HB5 := Lib.hid (HB4.out.trans (hb5.mono HB4.out.size))
            have HI5 := Lib.hid (HI4.out.mono hb5)
            clear hb5
            go_wp2_with (fail)
            go_returns
            exact ⟨_, _, rfl, HB5.out.mono (Nat.le_of_lt HI.out.ltD), .inr ⟨(.inl ⟨g5, rfl⟩), rfl, fun _ => by rw [HN0.out]; exact hEN.out, HI5.out.dec⟩⟩
      · as_aux_lemma =>
          obtain ⟨off2, ho2, _, hsl2⟩ := sub22 B 0 (q + n0 + 1) t.length c (by omega) hc
          rw [show ((q + n0 + 1 : Nat) : Int) = (q : Int) + (n0 : Int) + 1 by omega] at hsl2
          obtain ⟨n1, hn1⟩ : ∃ n1, wsN (t.drop (q + n0 + 1)) = n1 := ⟨_, rfl⟩
          have hln1 : q + n0 + 1 + n1 ≤ t.length := by have := wsN_le (t.drop (q + n0 + 1)); rw [List.length_drop] at this; omega
          have C87 := f87 (some ⟨B, off2, none⟩) (c - (q + n0 + 1)) (t.drop (q + n0 + 1)) w2 (HI2.out.rbT.C (q + n0 + 1) (some ⟨B, off2, none⟩) (fun h => by rw [ho2 h, Nat.zero_add]) (by omega)) (by rw [List.length_drop]; omega) (by rw [List.length_drop]; omega)
          rw [List.length_drop, hn1] at C87
          have H87 := Lib.hid C87
          clear C87 ho2 hn1
          have hEN := Lib.hid (show E (t.drop (q + n0)) = none from hE _ (by rw [rd_drop0, HCN.out]; simp))
          have hws := Lib.hid (show q + wsN (t.drop q) < t.length by rw [HN0.out]; exact hlt0)
          go_wp2_with (fail)
          refine H88.out.mono ?_
          rintro e w3 ⟨rfl, rfl⟩
          go_wp2_with (fail)
          refine H87.out.mono ?_
          rintro e w3 ⟨rfl, hd3⟩
          have HB3 := Lib.hid (HB2.out.trans (hd3.below.mono HB2.out.size))
          have HI3 := Lib.hid (HI2.out.mono hd3.below)
          have f7 := HI3.out.c7
          have f0 := HI3.out.c0
          rw [HST.out] at f0
          have f1 := HI3.out.c1
          clear hd3 d7 e0 e1 cb H87 hsl2
          have ec : ((q + n0 + 1 + n1 : Nat) : Int) = (q : Int) + (n0 : Int) + 1 + (n1 : Int) := by omega
          have C88b := f88 D (q + n0 + 1 + n1) s (some ⟨B, 0, none⟩) t.length c w3 HI3.out.dec HI3.out.buf hl (by omega)
          rw [ec] at C88b
          by_cases hend2 : q + n0 + 1 + n1 = t.length
          · rw [decide_eq_true hend2] at C88b
            have H88b := Lib.hid C88b
            have C89 := f89 D B c t s G w3 HI3.out.env HI3.out.dec HI3.out.buf HI3.out.rbT hl hc
            have etl : ((t.length : Nat) : Int) = (q : Int) + (n0 : Int) + 1 + (n1 : Int) := by omega
            rw [etl] at C89
            have H89 := Lib.hid C89
            have C91 := fun W (hI : Inv W G D B c t s loose dup) => f91w D B c t.length t s loose dup 0 (.iface 265 (.pointer (some G.ueof))) W G hI HT.out (Nat.le_refl _) (.inl ⟨_, rfl, .inl rfl⟩)
            rw [etl] at C91
            have H91 := Lib.hid C91
            have C92 := Lib.hid (fun W x (hI : Inv W G D B c t s loose dup) => f92 D B c q t s loose dup 44 x W G hI HT.out (by decide) HQ.out hws.out)
            clear C88b C89 C91 etl ec hend2
            go_wp2_with (fail)
            refine H88b.out.mono ?_
            rintro e w4 ⟨rfl, rfl⟩
            go_wp2_with (fail)
            refine H89.out.mono ?_
            rintro e w4 ⟨rfl, hd4⟩
            have HB4 := Lib.hid (HB3.out.trans (hd4.below.mono HB3.out.size))
            have HI4 := Lib.hid (HI3.out.mono hd4.below)
            clear hd4 f7 f0 f1
            go_wp2_with (fail)
            refine (H91.out _ HI4.out).mono ?_
            rintro e w5 ⟨g5, rfl, hb5⟩
            have HB5 := Lib.hid (HB4.out.trans (hb5.mono HB4.out.size))
            have HI5 := Lib.hid (HI4.out.mono hb5)
            clear hb5
            go_wp2_with (fail)
            refine (C92.out _ _ HI5.out).mono ?_
            rintro e w6 ⟨g6, rfl, hb6⟩
            have HB6 := Lib.hid (HB5.out.trans (hb6.mono HB5.out.size))
            have HI6 := Lib.hid (HI5.out.mono hb6)
            clear hb6
            go_wp2_with (fail)
            go_returns
            exact ⟨_, _, rfl, HB6.out.mono (Nat.le_of_lt HI.out.ltD), .inr ⟨(.inl ⟨g6, rfl⟩), rfl, fun _ => by rw [HN0.out]; exact hEN.out, HI6.out.dec⟩⟩
          · rw [decide_eq_false hend2] at C88b
            have H88b := Lib.hid C88b
            have hlt2 : q + n0 + 1 + n1 < t.length := by omega
            have bd := HI3.out.bs.rd (q + n0 + 1 + n1)
            obtain ⟨cm, hcm⟩ : ∃ cm : Nat, rd t ((q + n0 + 1 + n1 : Nat) : Int) = (cm : Int) := ⟨(rd t ((q + n0 + 1 + n1 : Nat) : Int)).toNat, by omega⟩
            have cbm : w3.cell? ⟨B, q + n0 + 1 + n1, none⟩ = some (.int .u8 (cm : Int)) := by have := HI3.out.rb (q + n0 + 1 + n1) hlt2; rw [hcm, Nat.zero_add] at this; exact this
            have C85 := Lib.hid (f85 cm G w3 HI3.out.env (by omega))
            have C93 := Lib.hid (fun W => f93 HT.out.last W sA sc (normK cm : Nat))
            have C94 := Lib.hid (fun W (hI : Inv W G D B c t s loose dup) => f94 D B c q t s loose dup 44 (normK cm : Nat) W G hI HT.out (by decide) HQ.out hws.out)
            clear C88b bd hcm hend2
            go_wp2_with (fail)
            refine H88b.out.mono ?_
            rintro e w4 ⟨rfl, rfl⟩
            go_wp2_with (fail)
            refine C85.out.mono ?_
            rintro e w4 ⟨rfl, rfl⟩
            go_wp2_with (fail)
            refine (C93.out _).mono ?_
            rintro e w4 ⟨rfl, hb4⟩
            have HB4 := Lib.hid (HB3.out.trans (hb4.mono HB3.out.size))
            have HI4 := Lib.hid (HI3.out.mono hb4)
            clear hb4 f7 f0 f1 cbm
            go_wp2_with (fail)
            refine (C94.out _ HI4.out).mono ?_
            rintro e w5 ⟨g5, rfl, hb5⟩
            have HB5 := Lib.hid (HB4.out.trans (hb5.mono HB4.out.size))
            have HI5 := Lib.hid (HI4.out.mono hb5)
            clear hb5
            go_wp2_with (fail)
            go_returns
            exact ⟨_, _, rfl, HB5.out.mono (Nat.le_of_lt HI.out.ltD), .inr ⟨(.inl ⟨g5, rfl⟩), rfl, fun _ => by rw [HN0.out]; exact hEN.out, HI5.out.dec⟩⟩
    · have x58 : ((cn : Int) == 58) = false := by rw [beq_eq_false_iff_ne]; omega
      have x44 : ((cn : Int) == 44) = false := by rw [beq_eq_false_iff_ne]; omega
      have HDEL := Lib.hid hdel
      clear hdel
      obtain ⟨kn, hkn⟩ : ∃ kn, normK cn = kn := ⟨_, rfl⟩
      have C85 := f85 cn G w2 HI2.out.env hcn2
      rw [hkn] at C85
      have H85 := Lib.hid C85
      have HKN := Lib.hid hkn
      have C93 := Lib.hid (fun W => f93 HT.out.last W sA sc (kn : Nat))
      clear C85 hkn
      as_aux_lemma =>
        go_wp2_with (fail)
        refine H88.out.mono ?_
        rintro e w3 ⟨rfl, rfl⟩
        go_wp2_with (fail)
        refine H85.out.mono ?_
        rintro e w3 ⟨rfl, rfl⟩
        go_wp2_with (fail)
        refine (C93.out _).mono ?_
        rintro e w3 ⟨rfl, hb3⟩
        have HB3 := Lib.hid (HB2.out.trans (hb3.mono HB2.out.size))
        have HI3 := Lib.hid (HI2.out.mono hb3)
        have g0 := HI3.out.c0
        rw [HST.out] at g0
        have g1 := HI3.out.c1
        have g10 := HI3.out.c10
        clear hb3 e0 e1 cb d7 C93 H85 H88
        have C90 := Lib.hid (fun W => f90 sA sc s.last W)
        go_wp2_with (fail)
        refine (C90.out _).mono ?_
        rintro e w4 ⟨rfl, hb4⟩
        have HB4 := Lib.hid (HB3.out.trans (hb4.mono HB3.out.size))
        have HI4 := Lib.hid (HI3.out.mono hb4)
        clear hb4 g0 g1 g10
        have hF4 : FlAt w4 F 0 := hf.mono HB4.out
        have C := C95 w4 (q + n0) (by rw [HN0.out]) hlt0 HI4.out hF4
        rw [Int.natCast_add] at C
        have H95 := Lib.hid C
        clear C hF4
        go_wp2_with (fail)
        refine H95.out.mono ?_
        rintro e w5 ⟨q2, x, g, rfl, hq2, hbb, hfl, hf3, hr⟩
        have HB5 := Lib.hid hbb
        have HI5 := Lib.hid (HI4.out.bb hbb hF)
        have HD5 := Lib.hid (show Below D w w5 from (HB4.out.mono (Nat.le_of_lt HI.out.ltD)).trans (hbb.below (Nat.le_of_lt hF) (Nat.le_of_lt HI4.out.ltD)))
        have k10 := HI5.out.c10
        clear hbb hfl hf3
        rcases hr with ⟨n, hEn, hq2e, rfl⟩ | ⟨hEn, hx⟩
        · have HEN := Lib.hid hEn
          have HQ2 := Lib.hid hq2e
          have hkind := hK _ n hEn
          rw [rd_drop0, HCN.out] at hkind
          clear hEn
          have hn14 : wrap64 ((q2 : Int) - ((q : Int) + (n0 : Int))) = (n : Int) := by unfold wrap64; omega
          go_upto_region 37 with (fail)
          go_cut [8, 14] (fun s8 s14 wx => s8 = .int .i64 q2 ∧ s14 = .int .i64 n ∧ w5 = wx)
          case first => as_aux_lemma =>
            go_wp2_with (fail)
            go_meet
            exact ⟨by congr 1; omega, by congr 1; omega, rfl⟩
          case rest => as_aux_lemma =>
            obtain ⟨rfl, rfl, rfl⟩ := hcut
            clear hq2e hn14
            have hge : q + n0 + n ≤ t.length := by have := HQ2.out; omega
            have C96 := Lib.hid (f96 D s w5 HI5.out.dec HT.out.last)
            have C106 := Lib.hid (fun W (hb : Below w5.heap.size w5 W) => f106 D s W (HI5.out.dec.mono hb) HT.out.last)
            have C107 := Lib.hid (f107 D s w5 HI5.out.dec HT.out.last)
            have C97 := Lib.hid (fun W => f97 HT.out.last W)
            have k1 := HI5.out.c1
            have hnq : n ≤ q2 := by have := HQ2.out; omega
            have hq2c : q2 ≤ c := by omega
            rcases hkind with h | h | h | h | h
            · obtain rfl : cn = 110 := by omega
              obtain rfl : (110 : Nat) = kn := HKN.out
              clear h
              as_aux_lemma =>
                go_wp2_with (fail)
                refine C96.out.mono ?_
                rintro e w6 ⟨rfl, hb6, hd6⟩
                have HB6 := Lib.hid hb6
                have HD6 := Lib.hid hd6
                have m7 : w6.cell? ⟨D, 7, none⟩ = some (.slice (some ⟨B, 0, none⟩) t.length c) := hd6.cell 7 _ (by rw [← HI5.out.buf]; rfl)
                have m8 : w6.cell? ⟨D, 8, none⟩ = some (.int .i64 s.ps) := hd6.cell 8 _ rfl
                have m9 : w6.cell? ⟨D, 9, none⟩ = some (.int .i64 s.pe) := hd6.cell 9 _ rfl
                have z8 := hd6.fz 8
                have z9 := hd6.fz 9
                clear hb6 hd6 k1 k10 hE hK C95 hf hF
                obtain ⟨p0, hp0⟩ : ∃ p0, p0 = q + n0 := ⟨_, rfl⟩
                have hsub : (q2 : Int) - (n : Int) = (p0 : Int) := by have := HQ2.out; omega
                have hp0q : p0 ≤ q2 := by have := HQ2.out; omega
                have HP0 := Lib.hid hp0
                have HLT := Lib.hid hlt0
                clear hp0 hnq hge hlt0 hln0
                go_wp2_with (fail)
                all_goals (go_returns)
                all_goals (refine ⟨_, _, rfl, HD5.out.trans (((HB6.out.set 9 _).set 8 _).below (Nat.le_refl _) (Nat.le_of_lt HI5.out.ltD)), .inl ⟨rfl, n, by rw [HN0.out]; exact HLT.out, by rw [HN0.out]; exact HEN.out, ⟨_, _, _, rfl⟩, ?_⟩⟩)
                all_goals (rw [HN0.out, ← HQ2.out, ← HP0.out])
                all_goals (first | exact (HD6.out.setPe _).setPs _ | (obtain rfl : q2 = p0 := (by omega); exact (HD6.out.setPe _).setPs _))
            · obtain rfl : cn = 102 := by omega
              obtain rfl : (102 : Nat) = kn := HKN.out
              clear h
              as_aux_lemma =>
                go_wp2_with (fail)
                refine C96.out.mono ?_
                rintro e w6 ⟨rfl, hb6, hd6⟩
                have HB6 := Lib.hid hb6
                have HD6 := Lib.hid hd6
                have m7 : w6.cell? ⟨D, 7, none⟩ = some (.slice (some ⟨B, 0, none⟩) t.length c) := hd6.cell 7 _ (by rw [← HI5.out.buf]; rfl)
                have m8 : w6.cell? ⟨D, 8, none⟩ = some (.int .i64 s.ps) := hd6.cell 8 _ rfl
                have m9 : w6.cell? ⟨D, 9, none⟩ = some (.int .i64 s.pe) := hd6.cell 9 _ rfl
                have z8 := hd6.fz 8
                have z9 := hd6.fz 9
                clear hb6 hd6 k1 k10 hE hK C95 hf hF
                obtain ⟨p0, hp0⟩ : ∃ p0, p0 = q + n0 := ⟨_, rfl⟩
                have hsub : (q2 : Int) - (n : Int) = (p0 : Int) := by have := HQ2.out; omega
                have hp0q : p0 ≤ q2 := by have := HQ2.out; omega
                have HP0 := Lib.hid hp0
                have HLT := Lib.hid hlt0
                clear hp0 hnq hge hlt0 hln0
                go_wp2_with (fail)
                all_goals (go_returns)
                all_goals (refine ⟨_, _, rfl, HD5.out.trans (((HB6.out.set 9 _).set 8 _).below (Nat.le_refl _) (Nat.le_of_lt HI5.out.ltD)), .inl ⟨rfl, n, by rw [HN0.out]; exact HLT.out, by rw [HN0.out]; exact HEN.out, ⟨_, _, _, rfl⟩, ?_⟩⟩)
                all_goals (rw [HN0.out, ← HQ2.out, ← HP0.out])
                all_goals (first | exact (HD6.out.setPe _).setPs _ | (obtain rfl : q2 = p0 := (by omega); exact (HD6.out.setPe _).setPs _))
            · obtain rfl : cn = 116 := by omega
              obtain rfl : (116 : Nat) = kn := HKN.out
              clear h
              as_aux_lemma =>
                go_wp2_with (fail)
                refine C96.out.mono ?_
                rintro e w6 ⟨rfl, hb6, hd6⟩
                have HB6 := Lib.hid hb6
                have HD6 := Lib.hid hd6
                have m7 : w6.cell? ⟨D, 7, none⟩ = some (.slice (some ⟨B, 0, none⟩) t.length c) := hd6.cell 7 _ (by rw [← HI5.out.buf]; rfl)
                have m8 : w6.cell? ⟨D, 8, none⟩ = some (.int .i64 s.ps) := hd6.cell 8 _ rfl
                have m9 : w6.cell? ⟨D, 9, none⟩ = some (.int .i64 s.pe) := hd6.cell 9 _ rfl
                have z8 := hd6.fz 8
                have z9 := hd6.fz 9
                clear hb6 hd6 k1 k10 hE hK C95 hf hF
                obtain ⟨p0, hp0⟩ : ∃ p0, p0 = q + n0 := ⟨_, rfl⟩
                have hsub : (q2 : Int) - (n : Int) = (p0 : Int) := by have := HQ2.out; omega
                have hp0q : p0 ≤ q2 := by have := HQ2.out; omega
                have HP0 := Lib.hid hp0
                have HLT := Lib.hid hlt0
                clear hp0 hnq hge hlt0 hln0
                go_wp2_with (fail)
                all_goals (go_returns)
                all_goals (refine ⟨_, _, rfl, HD5.out.trans (((HB6.out.set 9 _).set 8 _).below (Nat.le_refl _) (Nat.le_of_lt HI5.out.ltD)), .inl ⟨rfl, n, by rw [HN0.out]; exact HLT.out, by rw [HN0.out]; exact HEN.out, ⟨_, _, _, rfl⟩, ?_⟩⟩)
                all_goals (rw [HN0.out, ← HQ2.out, ← HP0.out])
                all_goals (first | exact (HD6.out.setPe _).setPs _ | (obtain rfl : q2 = p0 := (by omega); exact (HD6.out.setPe _).setPs _))
            · obtain rfl : cn = 34 := by omega
              obtain rfl : (34 : Nat) = kn := HKN.out
              clear h
              as_aux_lemma =>
                go_wp2_with (fail)
                refine (C97.out _).mono ?_
                rintro e w6 ⟨rfl, m6, rfl⟩
                go_wp2_with (fail)
                have hbd := Lib.hid (show Below w5.heap.size w5 (w5.drewN m6) from pw_below_drewN (Below.refl _ _) _)
                refine (C106.out _ hbd.out).mono ?_
                rintro e w6 ⟨rfl, hb6, hd6⟩
                have HB6 := Lib.hid ((BB.of hbd.out).trans hb6)
                have HD6 := Lib.hid hd6
                have m7 : w6.cell? ⟨D, 7, none⟩ = some (.slice (some ⟨B, 0, none⟩) t.length c) := hd6.cell 7 _ (by rw [← HI5.out.buf]; rfl)
                have m8 : w6.cell? ⟨D, 8, none⟩ = some (.int .i64 s.ps) := hd6.cell 8 _ rfl
                have m9 : w6.cell? ⟨D, 9, none⟩ = some (.int .i64 s.pe) := hd6.cell 9 _ rfl
                have z8 := hd6.fz 8
                have z9 := hd6.fz 9
                clear hb6 hd6 k1 k10 hE hK C95 hf hF
                obtain ⟨p0, hp0⟩ : ∃ p0, p0 = q + n0 := ⟨_, rfl⟩
                have hsub : (q2 : Int) - (n : Int) = (p0 : Int) := by have := HQ2.out; omega
                have hp0q : p0 ≤ q2 := by have := HQ2.out; omega
                have HP0 := Lib.hid hp0
                have HLT := Lib.hid hlt0
                clear hp0 hnq hge hlt0 hln0
                go_wp2_with (fail)
                all_goals (go_returns)
                all_goals (refine ⟨_, _, rfl, HD5.out.trans (((HB6.out.set 9 _).set 8 _).below (Nat.le_refl _) (Nat.le_of_lt HI5.out.ltD)), .inl ⟨rfl, n, by rw [HN0.out]; exact HLT.out, by rw [HN0.out]; exact HEN.out, ⟨_, _, _, rfl⟩, ?_⟩⟩)
                all_goals (rw [HN0.out, ← HQ2.out, ← HP0.out])
                all_goals (first | exact (HD6.out.setPe _).setPs _ | (obtain rfl : q2 = p0 := (by omega); exact (HD6.out.setPe _).setPs _))
            · obtain rfl : (48 : Nat) = kn := by
                have := HKN.out
                rw [normK_num cn (by unfold isD at h; omega)] at this
                exact this
              clear h
              as_aux_lemma =>
                go_wp2_with (fail)
                refine C107.out.mono ?_
                rintro e w6 ⟨rfl, hb6, hd6⟩
                have HB6 := Lib.hid hb6
                have HD6 := Lib.hid hd6
                have m7 : w6.cell? ⟨D, 7, none⟩ = some (.slice (some ⟨B, 0, none⟩) t.length c) := hd6.cell 7 _ (by rw [← HI5.out.buf]; rfl)
                have m8 : w6.cell? ⟨D, 8, none⟩ = some (.int .i64 s.ps) := hd6.cell 8 _ rfl
                have m9 : w6.cell? ⟨D, 9, none⟩ = some (.int .i64 s.pe) := hd6.cell 9 _ rfl
                have z8 := hd6.fz 8
                have z9 := hd6.fz 9
                clear hb6 hd6 k1 k10 hE hK C95 hf hF
                obtain ⟨p0, hp0⟩ : ∃ p0, p0 = q + n0 := ⟨_, rfl⟩
                have hsub : (q2 : Int) - (n : Int) = (p0 : Int) := by have := HQ2.out; omega
                have hp0q : p0 ≤ q2 := by have := HQ2.out; omega
                have HP0 := Lib.hid hp0
                have HLT := Lib.hid hlt0
                clear hp0 hnq hge hlt0 hln0
                go_wp2_with (fail)
                all_goals (go_returns)
                all_goals (refine ⟨_, _, rfl, HD5.out.trans (((HB6.out.set 9 _).set 8 _).below (Nat.le_refl _) (Nat.le_of_lt HI5.out.ltD)), .inl ⟨rfl, n, by rw [HN0.out]; exact HLT.out, by rw [HN0.out]; exact HEN.out, ⟨_, _, _, rfl⟩, ?_⟩⟩)
                all_goals (rw [HN0.out, ← HQ2.out, ← HP0.out])
                all_goals (first | exact (HD6.out.setPe _).setPs _ | (obtain rfl : q2 = p0 := (by omega); exact (HD6.out.setPe _).setPs _))
        · have HEN := Lib.hid hEn
          have C91 := Lib.hid (f91w D B c q2 t s loose dup 1 x w5 G HI5.out HT.out hq2 hx)
          have fin : ∀ (e : Ending) (w' : World), SynPost w5 e w' → (∃ g : Nat, e = .returned (.iface 67 (.pointer (some ⟨g, 0, none⟩)))) ∧ Below w5.heap.size w5 w' := fun e w' ⟨g, h1, h2⟩ => ⟨⟨g, h1⟩, h2⟩
          rcases hx with ⟨a, rfl, ha⟩ | ⟨gg, rfl⟩
          · clear hEn ha
            go_wp2_with (fail)
            refine C91.out.mono ?_
            rintro e w6 ⟨g6, rfl, hb6⟩
            have HB6 := Lib.hid hb6
            clear hb6
            go_wp2_with (fail)
            go_returns
            exact ⟨_, _, rfl, HD5.out.trans (HB6.out.mono (Nat.le_of_lt HI5.out.ltD)), .inr ⟨.inl ⟨g6, rfl⟩, rfl, fun _ => by rw [HN0.out]; exact HEN.out, HI5.out.dec.mono HB6.out⟩⟩
          · clear hEn
            go_wp2_with (fail)
            refine C91.out.mono ?_
            rintro e w6 ⟨g6, rfl, hb6⟩
            have HB6 := Lib.hid hb6
            clear hb6
            go_wp2_with (fail)
            go_returns
            exact ⟨_, _, rfl, HD5.out.trans (HB6.out.mono (Nat.le_of_lt HI5.out.ltD)), .inr ⟨.inl ⟨g6, rfl⟩, rfl, fun _ => by rw [HN0.out]; exact HEN.out, HI5.out.dec.mono HB6.out⟩⟩
end Go.Proofs.YtjfbkgkpjkickaaGreatDoor.PAll
