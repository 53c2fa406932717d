/- The texts of a proof, its declarations alone: part 3. -/
import Derived.Deep.DeepCutAuto
import Derived.Test.YtjfbkgkpjkickaaGreatDoorVU2
import Derived.Test.YtjfbkgkpjkickaaGreatDoorVU3
import Derived.Test.YtjfbkgkpjkickaaGreatDoorVU8
import Derived.Test.YtjfbkgkpjkickaaGreatDoorVU9
import Derived.Test.YtjfbkgkpjkickaaGreatDoorVU11
import Derived.Test.YtjfbkgkpjkickaaGreatDoorVU14
import Derived.Test.YtjfbkgkpjkickaaGreatDoorVU15
import Derived.Test.YtjfbkgkpjkickaaGreatDoorVU16
import Derived.Test.YtjfbkgkpjkickaaGreatDoorVU17
import Derived.Test.YtjfbkgkpjkickaaGreatDoorVU18
import Derived.Test.YtjfbkgkpjkickaaGreatDoorVF2
set_option linter.unusedVariables false
set_option linter.unusedSimpArgs false
-- YtjfbkgkpjkickaaGreatDoorFd
set_option linter.unusedVariables false
set_option linter.unusedSimpArgs false
namespace Go.Proofs.YtjfbkgkpjkickaaGreatDoor.PAll
open Go.RowKit Go.Proofs.YtjfbkgkpjkickaaGreatDoorW.PrintWords Go.Proofs.YtjfbkgkpjkickaaGreatDoorW.PrintLast Go.Proofs.YtjfbkgkpjkickaaGreatDoorW.PrintMore

/-- so many brackets open, and so many shut -/
structure Brk (t : List Int) (a b : Nat) : Prop where
  len : t.length = a + b
  op : ∀ j, j < a → rd t (j : Int) = 91
  sh : ∀ j, a ≤ j → j < a + b → rd t (j : Int) = 93
theorem Brk.ws {t : List Int} {a b : Nat} (h : Brk t a b) (p : Nat) : wsN (t.drop p) = 0 := by
  by_cases hp : p < t.length
  · rw [drop_cons t p hp]
    have : isW (rd t (p : Int)) = false := by
      have hl := h.len
      by_cases h1 : p < a
      · rw [h.op p h1]; rfl
      · rw [h.sh p (by omega) (by omega)]; rfl
    unfold wsN
    rw [this]
    rfl
  · rw [List.drop_of_length_le (by omega)]
    rfl
/-- what is told of an array of so many arrays, each within the one before -/
def ArrP (t : List Int) (b p k : Nat) (G : GV) (w : World) (e : Ending) (w' : World) : Prop :=
  ∃ (q : Nat) (x : Value), e = .returned (.tuple #[.int .i64 (q : Int), x]) ∧ q ≤ t.length ∧ Below w.heap.size w w' ∧
    ((k ≤ b ∧ q = p + 2 * k ∧ x = .nilIface) ∨ (b < k ∧ (x = .iface 265 (.pointer (some G.ueof)) ∨ ∃ m, 0 < m ∧ m ≤ k ∧ Wrapped w G m x w')))
theorem Wrapped.lower {w0 W w : World} {G : GV} {m : Nat} {x : Value} (h : Wrapped W G m x w) (hb : Below w0.heap.size w0 W) : Wrapped w0 G m x w := by
  obtain ⟨P, v, rfl, hE⟩ := h
  exact ⟨P, v, rfl, ⟨hb.trans (hE.bel.mono hb.size), hE.obj, RM_lower hE.rm hb.size, Nat.le_trans hb.size hE.hP⟩⟩
section
variable {D B c a b p k : Nat} {t : List Int} {s : DS} {loose dup : Bool} {w : World} {G : GV}
theorem ws0 (hI : Inv w G D B c t s loose dup) (hb : Brk t a b) (q : Nat) (hq : q ≤ t.length) :
    ∃ off : Nat, (∀ W, (Instr.sliceAt 22 (.slice (some ⟨B, 0, none⟩) t.length c) (some (.int .i64 q)) none none).run Tryz.prog W = .ok (.slice (some ⟨B, off, none⟩) (t.length - q) (c - q)) W) ∧
      ∀ W, Below w.heap.size w W → Calls Tryz.prog 87 #[.slice (some ⟨B, off, none⟩) (t.length - q) (c - q)] W fun e w' => e = .returned (.int .i64 0) ∧ Drawn0 W w' := by
  have hc := hI.hc
  have hl := hI.hl
  obtain ⟨off1, ho1, _, hsl1⟩ := sub22 B 0 q t.length c hq hc
  refine ⟨off1, hsl1, fun W hW => ?_⟩
  have C87 := f87 (some ⟨B, off1, none⟩) (c - q) (t.drop q) W ((hI.mono hW).rbT.C q (some ⟨B, off1, none⟩) (fun h => by rw [ho1 h, Nat.zero_add]) (by omega)) (by rw [List.length_drop]; omega) (by rw [List.length_drop]; omega)
  rw [List.length_drop, hb.ws q] at C87
  exact C87
set_option maxRecDepth 100000 in
set_option maxHeartbeats 8000000 in
theorem f157e (fp : Value) (dep : Int) (hI : Inv w G D B c t s loose dup) (hb : Brk t a b) (hp : p + 1 = t.length) (hpa : p < a) (hd : 0 ≤ dep ∧ dep < 10001) :
    Calls Tryz.prog 157 #[.pointer (some ⟨D, 0, none⟩), fp, .int .i64 p, .int .i64 dep] w fun e w' => e = .returned (.tuple #[.int .i64 (t.length : Int), .iface 265 (.pointer (some G.ueof))]) ∧ Below w.heap.size w w' := by
  have hl := hI.hl
  have hc := hI.hc
  have hc2 := hI.hc2
  have c7 := hI.c7
  have cb : w.cell? ⟨B, p, none⟩ = some (.int .u8 91) := by have := hI.rb p (by omega); rw [hb.op p hpa, Nat.zero_add] at this; exact this
  have d1 : decide ((t.length : Int) ≤ (p : Int)) = false := decide_eq_false (by omega)
  have d2 : decide (t.length ≤ p) = false := decide_eq_false (by omega)
  have d3 : (dep == 10001) = false := by rw [beq_eq_false_iff_ne]; omega
  obtain ⟨q, hq⟩ : ∃ q, q = p + 1 := ⟨_, rfl⟩
  obtain ⟨off, hsl, C87⟩ := ws0 hI hb q (by omega)
  have hpq : (p : Int) + 1 = (q : Int) := by omega
  have hqt : q = t.length := by omega
  have HI := Lib.hid hI
  have H87 := Lib.hid C87
  have C88 := Lib.hid (fun W (hW : Below w.heap.size w W) => f88 D q s (some ⟨B, 0, none⟩) t.length c W (hI.mono hW).dec hI.buf hl (by omega))
  rw [decide_eq_true hqt] at C88
  have C89 := Lib.hid (fun W (hW : Below w.heap.size w W) => f89 D B c t s G W (hI.mono hW).env (hI.mono hW).dec hI.buf (hI.mono hW).rbT hl hc)
  rw [← hqt] at C89
  have HQ := Lib.hid hqt
  clear hI hb C87 hq hqt
  go_enter Tryz.func157, Tryz.ntmps157
  go_wp2_with (fail)
  refine (H87.out _ (Below.refl _ _)).mono ?_
  rintro e w1 ⟨rfl, hd1⟩
  have HB1 := Lib.hid hd1.below
  clear hd1
  go_wp2_with (fail)
  refine (C88.out _ HB1.out).mono ?_
  rintro e w2 ⟨rfl, rfl⟩
  go_wp2_with (fail)
  refine (C89.out _ HB1.out).mono ?_
  rintro e w3 ⟨rfl, hd3⟩
  have HB3 := Lib.hid (HB1.out.trans (hd3.below.mono HB1.out.size))
  clear hd3
  go_wp2_with (fail)
  go_returns
  exact ⟨by first | rfl | (rw [HQ.out]; rfl), HB3.out⟩
set_option maxRecDepth 100000 in
set_option maxHeartbeats 8000000 in
theorem f157s (fp : Value) (dep : Int) (hI : Inv w G D B c t s loose dup) (hb : Brk t a b) (hp : p + 1 = a) (h1 : 1 ≤ b) (hd : 0 ≤ dep ∧ dep < 10001) :
    Calls Tryz.prog 157 #[.pointer (some ⟨D, 0, none⟩), fp, .int .i64 p, .int .i64 dep] w fun e w' => e = .returned (.tuple #[.int .i64 ((p + 2 : Nat) : Int), .nilIface]) ∧ Below w.heap.size w w' := by
  have hlen := hb.len
  have hpa : p < a := by omega
  have hl := hI.hl
  have hc := hI.hc
  have hc2 := hI.hc2
  have c7 := hI.c7
  have cb : w.cell? ⟨B, p, none⟩ = some (.int .u8 91) := by have := hI.rb p (by omega); rw [hb.op p hpa, Nat.zero_add] at this; exact this
  have d1 : decide ((t.length : Int) ≤ (p : Int)) = false := decide_eq_false (by omega)
  have d2 : decide (t.length ≤ p) = false := decide_eq_false (by omega)
  have d3 : (dep == 10001) = false := by rw [beq_eq_false_iff_ne]; omega
  obtain ⟨q, hq⟩ : ∃ q, q = p + 1 := ⟨_, rfl⟩
  obtain ⟨off, hsl, C87⟩ := ws0 hI hb q (by omega)
  have hpq : (p : Int) + 1 = (q : Int) := by omega
  have hqt : q < t.length := by omega
  have HI := Lib.hid hI
  have H87 := Lib.hid C87
  have C88 := Lib.hid (fun W (hW : Below w.heap.size w W) => f88 D q s (some ⟨B, 0, none⟩) t.length c W (hI.mono hW).dec hI.buf hl (by omega))
  rw [decide_eq_false (show ¬ q = t.length by omega)] at C88
  have cq : w.cell? ⟨B, q, none⟩ = some (.int .u8 93) := by have := hI.rb q hqt; rw [hb.sh q (by omega) (by omega), Nat.zero_add] at this; exact this
  have hq2 : (q : Int) + 1 = ((p + 2 : Nat) : Int) := by omega
  obtain ⟨r, hr⟩ : ∃ r, r = p + 2 := ⟨_, rfl⟩
  rw [← hr] at hq2 ⊢
  clear hI hb C87 hq hr hlen hpa
  go_enter Tryz.func157, Tryz.ntmps157
  go_wp2_with (fail)
  refine (H87.out _ (Below.refl _ _)).mono ?_
  rintro e w1 ⟨rfl, hd1⟩
  have HB1 := Lib.hid hd1.below
  have e7 := (HI.out.mono hd1.below).c7
  have eq1 := pw_cell_below hd1.below cq
  clear hd1 cq c7 cb
  go_wp2_with (fail)
  refine (C88.out _ HB1.out).mono ?_
  rintro e w2 ⟨rfl, rfl⟩
  go_wp2_with (fail)
  go_returns
  exact ⟨by first | rfl | (congr 3; omega), HB1.out⟩
set_option maxRecDepth 100000 in
set_option maxHeartbeats 16000000 in
theorem f157n (fp : Value) (dep : Int) (k : Nat) (hI : Inv w G D B c t s loose dup) (hb : Brk t a b) (hp : p + (k + 2) = a) (hk : k ≤ 900) (hd : 0 ≤ dep ∧ dep < 10001)
    (C95 : ∀ W, Below w.heap.size w W → Calls Tryz.prog 95 #[.pointer (some ⟨D, 0, none⟩), fp, .int .i64 ((p + 1 : Nat) : Int), .int .i64 (dep + 1)] W (ArrP t b (p + 1) (k + 1) G W)) :
    Calls Tryz.prog 157 #[.pointer (some ⟨D, 0, none⟩), fp, .int .i64 p, .int .i64 dep] w (ArrP t b p (k + 2) G w) := by
  have hlen := hb.len
  have hpa : p < a := by omega
  have hl := hI.hl
  have hc := hI.hc
  have hc2 := hI.hc2
  have c7 := hI.c7
  have cb : w.cell? ⟨B, p, none⟩ = some (.int .u8 91) := by have := hI.rb p (by omega); rw [hb.op p hpa, Nat.zero_add] at this; exact this
  have d1 : decide ((t.length : Int) ≤ (p : Int)) = false := decide_eq_false (by omega)
  have d2 : decide (t.length ≤ p) = false := decide_eq_false (by omega)
  have d3 : (dep == 10001) = false := by rw [beq_eq_false_iff_ne]; omega
  obtain ⟨q, hq⟩ : ∃ q, q = p + 1 := ⟨_, rfl⟩
  obtain ⟨off, hsl, C87⟩ := ws0 hI hb q (by omega)
  have hpq : (p : Int) + 1 = (q : Int) := by omega
  have hqt : q < t.length := by omega
  have HI := Lib.hid hI
  have H87 := Lib.hid C87
  have C88 := Lib.hid (fun W (hW : Below w.heap.size w W) => f88 D q s (some ⟨B, 0, none⟩) t.length c W (hI.mono hW).dec hI.buf hl (by omega))
  rw [decide_eq_false (show ¬ q = t.length by omega)] at C88
  have cq : w.cell? ⟨B, q, none⟩ = some (.int .u8 91) := by have := hI.rb q hqt; rw [hb.op q (by omega), Nat.zero_add] at this; exact this
  rw [← hq] at C95
  have H95 := Lib.hid C95
  have HBK := Lib.hid hb
  have HQ := Lib.hid hq
  have HL := Lib.hid hlen
  have HP := Lib.hid hp
  have hw1 : IntKind.i64.wrap (dep + 1) = dep + 1 := by rw [IntKind.wrap_i64]; omega
  clear hI hb C87 hq C95 hlen hpa hp
  go_enter Tryz.func157, Tryz.ntmps157
  go_wp2_with (fail)
  refine (H87.out _ (Below.refl _ _)).mono ?_
  rintro e w1 ⟨rfl, hd1⟩
  have HB1 := Lib.hid hd1.below
  have e7 := (HI.out.mono hd1.below).c7
  have eq1 := pw_cell_below hd1.below cq
  clear hd1 cq c7 cb
  go_wp2_with (fail)
  refine (C88.out _ HB1.out).mono ?_
  rintro e w2 ⟨rfl, rfl⟩
  go_wp2_with (fail)
  go_loopg [2, 10] 1 (fun kq s2 s10 w' => s2 = .int .i64 q ∧ s10 = .int .i64 0 ∧ w1 = w')
  case atStart => exact ⟨rfl, rfl, rfl⟩
  case round =>
    obtain ⟨rfl, rfl, rfl⟩ := hrel
    go_wp2_with (fail)
    refine (H87.out _ HB1.out).mono ?_
    rintro e w2 ⟨rfl, hd2⟩
    have HB2 := Lib.hid (HB1.out.trans (hd2.below.mono HB1.out.size))
    clear hd2 e7 eq1
    go_wp2_with (fail)
    refine (C88.out _ HB2.out).mono ?_
    rintro e w3 ⟨rfl, rfl⟩
    go_wp2_with (fail)
    refine (H95.out _ HB2.out).mono ?_
    rintro e w3 ⟨r, x, rfl, hr, hb3, hcase⟩
    have HB3 := Lib.hid (HB2.out.trans (hb3.mono HB2.out.size))
    have HIW := Lib.hid (HI.out.mono HB3.out)
    rcases hcase with ⟨hkb, hrq, rfl⟩ | ⟨hkb, hx⟩
    · obtain ⟨off2, hsl2, C87r⟩ := ws0 HI.out HBK.out r hr
      have H87r := Lib.hid C87r
      have C88r := fun W (hW : Below w.heap.size w W) => f88 D r s (some ⟨B, 0, none⟩) t.length c W (HI.out.mono hW).dec HI.out.buf hl (by omega)
      have g7 := HIW.out.c7
      clear C87r hb3 H95 H87 C88
      by_cases hend : r = t.length
      · rw [decide_eq_true hend] at C88r
        have H88r := Lib.hid C88r
        have C89r := fun W (hW : Below w.heap.size w W) => f89 D B c t s G W (HI.out.mono hW).env (HI.out.mono hW).dec HI.out.buf (HI.out.mono hW).rbT hl hc
        rw [← hend] at C89r
        have H89r := Lib.hid C89r
        have HEND := Lib.hid hend
        have HRQ := Lib.hid hrq
        clear C88r C89r hend hrq
        go_wp2_with (fail)
        refine (H87r.out _ HB3.out).mono ?_
        rintro e w4 ⟨rfl, hd4⟩
        have HB4 := Lib.hid (HB3.out.trans (hd4.below.mono HB3.out.size))
        clear hd4 g7
        go_wp2_with (fail)
        refine (H88r.out _ HB4.out).mono ?_
        rintro e w5 ⟨rfl, rfl⟩
        go_wp2_with (fail)
        refine (H89r.out _ HB4.out).mono ?_
        rintro e w5 ⟨rfl, hd5⟩
        have HB5 := Lib.hid (HB4.out.trans (hd5.below.mono HB4.out.size))
        clear hd5
        go_wp2_with (fail)
        go_returns
        exact ⟨r, _, rfl, hr, HB5.out, .inr ⟨by have h1 := HEND.out; have h2 := HRQ.out; have h3 := HQ.out; have h4 := HL.out; have h5 := HP.out; omega, .inl rfl⟩⟩
      · rw [decide_eq_false hend] at C88r
        have H88r := Lib.hid C88r
        have hrl : r < t.length := by omega
        have cr : w3.cell? ⟨B, r, none⟩ = some (.int .u8 93) := by
          have h3 := HQ.out; have h4 := HL.out; have h5 := HP.out
          have := HIW.out.rb r hrl
          rw [HBK.out.sh r (by omega) (by omega), Nat.zero_add] at this
          exact this
        have HRQ := Lib.hid hrq
        clear C88r hend hrq
        go_wp2_with (fail)
        refine (H87r.out _ HB3.out).mono ?_
        rintro e w4 ⟨rfl, hd4⟩
        have HB4 := Lib.hid (HB3.out.trans (hd4.below.mono HB3.out.size))
        have k7 := (HIW.out.mono hd4.below).c7
        have cr4 := pw_cell_below hd4.below cr
        clear hd4 g7 cr
        go_wp2_with (fail)
        refine (H88r.out _ HB4.out).mono ?_
        rintro e w5 ⟨rfl, rfl⟩
        go_wp2_with (fail)
        go_returns
        exact ⟨r + 1, _, by first | rfl | (congr 3; omega), hrl, HB4.out, .inl ⟨by have h2 := HRQ.out; have h3 := HQ.out; have h4 := HL.out; have h5 := HP.out; omega, by have h2 := HRQ.out; have h3 := HQ.out; omega, rfl⟩⟩
    · have HKB := Lib.hid hkb
      clear H95 H87 C88 hkb
      rcases hx with rfl | ⟨m, hm0, hmk, hw⟩
      · have C178 := Lib.hid (f178a w w3 G HB3.out)
        clear hb3
        go_wp2_with (fail)
        refine C178.out.mono ?_
        rintro e w4 ⟨x', rfl, hw', hb4⟩
        have K1 := Lib.hid hw'
        have K2 := Lib.hid hb4
        clear hw' hb4
        go_wp2_with (fail)
        go_returns
        exact ⟨r, x', rfl, hr, K2.out, .inr ⟨by have := HKB.out; omega, .inr ⟨1, by omega, by omega, K1.out⟩⟩⟩
      · have hw2 := hw.lower HB2.out
        obtain ⟨P, v, rfl, hE⟩ := hw2
        have C178 := Lib.hid (f178b w w3 G m _ (by omega) ⟨P, v, rfl, hE⟩)
        clear hb3 hw hE
        go_wp2_with (fail)
        refine C178.out.mono ?_
        rintro e w4 ⟨x', rfl, hw', hb4⟩
        have K1 := Lib.hid hw'
        have K2 := Lib.hid hb4
        clear hw' hb4
        go_wp2_with (fail)
        go_returns
        exact ⟨r, x', rfl, hr, K2.out, .inr ⟨by have := HKB.out; omega, .inr ⟨m + 1, by omega, by omega, K1.out⟩⟩⟩
end
end Go.Proofs.YtjfbkgkpjkickaaGreatDoor.PAll
