/- The texts of a proof, its declarations alone: part 2. -/
import Derived.Test.YtjfbkgkpjkickaaGreatDoorProg
import Derived.Below
import Derived.Deep.Draws
import Derived.Deep.AppendLies
import Derived.Maps.AppendAt
import Derived.OwnWalk
import Derived.Laws.BytesArg
import Derived.Laws.MakeOwn
import Derived.Laws.OwnMore
import Derived.Deep.OwnRows
import Derived.Tactics
import Derived.Lib.ConvBytes
import Derived.Laws.Slices
import Derived.WalkKit
import Derived.KernelRfl
import Derived.RowKit3
import Derived.Deep.LoopGhost
import Derived.Deep.QuietTactic
import Derived.BigQuiet
import Derived.WideLaws
import Derived.Deep.DeepCutAuto
import Derived.Deep.CutBlock
import Derived.Deep.RegionHeld3
import Derived.Laws.Rows
import Derived.Lib.AppendStr
import Derived.ArgAppend
import Derived.Laws.IdiomCopy
import Derived.OrdersHeld
import Derived.Laws.BitsLemmas
import Derived.RowKit
import Derived.Handy
import Derived.Outline
import Derived.Lib.Hide
import Derived.Test.YtjfbkgkpjkickaaGreatDoorVU1
set_option linter.unusedVariables false
set_option linter.unusedSimpArgs false
-- YtjfbkgkpjkickaaGreatDoorPAllx0
namespace Go.Proofs.YtjfbkgkpjkickaaGreatDoor.PAll
open Go.RowKit Go.Proofs.YtjfbkgkpjkickaaGreatDoorW.PrintWords Go.Proofs.YtjfbkgkpjkickaaGreatDoorW.PrintLast Go.Proofs.YtjfbkgkpjkickaaGreatDoorW.PrintMore
attribute [local go_sem] max2_int min2_int max_two min_two max_three min_three max_four min_four   -- for this text's walks alone
set_option linter.unusedVariables false
set_option linter.unusedSimpArgs false



def errW : Option Int → Value
  | none => .nilIface
  | some c => .iface 0 (.int .i64 c)
theorem errW_none : errW none = .nilIface := rfl
theorem errW_some (c : Int) : errW (some c) = .iface 0 (.int .i64 c) := rfl

end Go.Proofs.YtjfbkgkpjkickaaGreatDoor.PAll
-- YtjfbkgkpjkickaaGreatDoorBa
set_option linter.unusedVariables false
set_option linter.unusedSimpArgs false
namespace Go.Proofs.YtjfbkgkpjkickaaGreatDoor.PAll
open Go.RowKit Go.Proofs.YtjfbkgkpjkickaaGreatDoorW.PrintWords Go.Proofs.YtjfbkgkpjkickaaGreatDoorW.PrintLast Go.Proofs.YtjfbkgkpjkickaaGreatDoorW.PrintMore

/-- the tables -/
def normK (c : Nat) : Nat := if c = 34 then 34 else if c = 45 ∨ (48 ≤ c ∧ c ≤ 57) then 48 else if c = 91 ∨ c = 93 ∨ c = 102 ∨ c = 110 ∨ c = 116 ∨ c = 123 ∨ c = 125 then c else 0
def escK (c : Nat) : Nat := if c < 32 ∨ c = 34 ∨ c = 38 ∨ c = 60 ∨ c = 62 ∨ c = 92 then 1 else 0
def firstK (c : Nat) : Nat := if c < 128 then 240 else if c < 194 then 241 else if c < 224 then 2 else if c = 224 then 19 else if c = 237 then 35 else if c < 240 then 3 else if c = 240 then 52 else if c < 244 then 4 else if c = 244 then 68 else 241
/-- where the listed errors lie -/
structure GV where
  eof : Addr
  ueof : Addr
  inv : Addr
  ins : Addr
  dup : Addr
  mism : Addr
  nons : Addr
  mx : Addr
  miss : Addr
/-- the package-level variables -/
structure Env (w : World) (G : GV) : Prop where
  h0 : w.cell? ⟨0, 0, none⟩ = some (.iface 265 (.pointer (some G.eof)))
  h1 : w.cell? ⟨1, 0, none⟩ = some (.iface 265 (.pointer (some G.ueof)))
  h2 : w.cell? ⟨2, 0, none⟩ = some (.iface 265 (.pointer (some G.inv)))
  h5 : w.cell? ⟨5, 0, none⟩ = some (.iface 265 (.pointer (some G.ins)))
  h6 : w.cell? ⟨6, 0, none⟩ = some (.iface 265 (.pointer (some G.dup)))
  h8 : w.cell? ⟨8, 0, none⟩ = some (.iface 265 (.pointer (some G.mism)))
  h9 : w.cell? ⟨9, 0, none⟩ = some (.iface 265 (.pointer (some G.nons)))
  h10 : w.cell? ⟨10, 0, none⟩ = some (.iface 265 (.pointer (some G.mx)))
  h11 : w.cell? ⟨11, 0, none⟩ = some (.iface 265 (.pointer (some G.miss)))
  norm : ∀ c : Nat, c < 256 → w.cell? ⟨7, c, none⟩ = some (.int .u8 (normK c))
  esc : ∀ c : Nat, c < 128 → w.cell? ⟨12, c, none⟩ = some (.int .u8 (escK c))
  first : ∀ c : Nat, c < 256 → w.cell? ⟨3, c, none⟩ = some (.int .u8 (firstK c))
  acc : ∀ i : Nat, i < 5 → w.cell? ⟨4, 2 * i, none⟩ = some (.int .u8 (match i with | 1 => 160 | 3 => 144 | _ => 128)) ∧ w.cell? ⟨4, 2 * i + 1, none⟩ = some (.int .u8 (match i with | 2 => 159 | 4 => 143 | _ => 191))
  ne : ∀ a, a = G.ueof ∨ a = G.inv ∨ a = G.ins ∨ a = G.dup ∨ a = G.mism ∨ a = G.nons ∨ a = G.mx ∨ a = G.miss → a ≠ G.eof
  neu : ∀ a, a = G.inv ∨ a = G.ins ∨ a = G.dup ∨ a = G.mism ∨ a = G.nons ∨ a = G.mx ∨ a = G.miss → a ≠ G.ueof
  nem : ∀ a, a = G.ueof ∨ a = G.inv ∨ a = G.ins ∨ a = G.dup ∨ a = G.nons ∨ a = G.mx ∨ a = G.miss → a ≠ G.mism
theorem Env.mono {w w' : World} {G : GV} (h : Env w G) (hb : Below w.heap.size w w') : Env w' G :=
  ⟨pw_cell_below hb h.h0, pw_cell_below hb h.h1, pw_cell_below hb h.h2, pw_cell_below hb h.h5, pw_cell_below hb h.h6, pw_cell_below hb h.h8, pw_cell_below hb h.h9, pw_cell_below hb h.h10, pw_cell_below hb h.h11,
    fun c hc => pw_cell_below hb (h.norm c hc), fun c hc => pw_cell_below hb (h.esc c hc), fun c hc => pw_cell_below hb (h.first c hc), fun i hi => ⟨pw_cell_below hb (h.acc i hi).1, pw_cell_below hb (h.acc i hi).2⟩, h.ne, h.neu, h.nem⟩
theorem Drawn0.env {w w' : World} {G : GV} (hb : Drawn0 w w') (h : Env w G) : Env w' G := h.mono hb.below

/-- what the decoder holds -/
structure DS where
  stack : Value
  last : Int
  offs : Value
  unq : Value
  nss : Value
  buf : Value
  ps : Int
  pe : Int
  pres : Int
  vals : Int
def DS.cells (s : DS) : Array Value := #[s.stack, .int .u64 s.last, s.offs, s.unq, s.nss, .int .i64 0, .nilIface, s.buf, .int .i64 s.ps, .int .i64 s.pe, .int .i64 0, .nilIface, .string ⟨#[]⟩, .int .u64 s.pres, .int .u64 s.vals, .string ⟨#[]⟩, .string ⟨#[]⟩, .int .i64 0, .int .i64 0, .nilIface, .nilIface, .string ⟨#[]⟩, .pointer none, .bool false]
def DecAt (w : World) (D : Nat) (s : DS) : Prop := w.heap[D]? = some (.cells s.cells 138 (0, 0))
theorem DecAt.mono {w w' : World} {D : Nat} {s : DS} (h : DecAt w D s) (hb : Below w.heap.size w w') : DecAt w' D s := by
  unfold DecAt at *
  rw [hb.block D (Array.getElem?_eq_some_iff.1 h).1]; exact h
theorem DecAt.lt {w : World} {D : Nat} {s : DS} (h : DecAt w D s) : D < w.heap.size := (Array.getElem?_eq_some_iff.1 h).1
/-- the text's bytes -/
def TextAt (w : World) (B : Nat) (t : List Int) : Prop := ∀ j, j < t.length → w.cell? ⟨B, j, none⟩ = some (.int .u8 (t.getD j 0))
/-- a byte's row -/
def Bs (t : List Int) : Prop := ∀ b ∈ t, 0 ≤ b ∧ b < 256
theorem getD_drop (t : List Int) (p j : Nat) : (t.drop p).getD j 0 = t.getD (p + j) 0 := by
  rw [List.getD_eq_getElem?_getD, List.getD_eq_getElem?_getD, List.getElem?_drop]
theorem add_off (B p j : Nat) : (⟨B, p, none⟩ : Addr).add j = ⟨B, p + j, none⟩ := by unfold Addr.add; split <;> simp_all
theorem TextAt.C {w : World} {B : Nat} {t : List Int} (h : TextAt w B t) (p : Nat) (A : Option Addr) (hA : p < t.length → A = some ⟨B, p, none⟩) (ht : t.length ≤ 9223372036854775807) : Kd.C (Kd.int .u8) w A (t.drop p).length (t.drop p) := by
  refine Kd.C_of_reads (enc := Value.int .u8) (d := 0) (h1 := fun _ => rfl) ⟨rfl, by rw [List.length_drop]; omega, fun hn => ?_⟩
  rw [List.length_drop] at hn
  refine ⟨_, hA (by omega), fun j hj => ?_⟩
  rw [List.length_drop] at hj
  rw [add_off, h (p + j) (by omega), getD_drop]
/-- an error that no call has named io.EOF -/
def ErrS (G : GV) (v : Value) : Prop := (∃ a, v = .iface 265 (.pointer (some a)) ∧ (a = G.ueof ∨ a = G.inv ∨ a = G.ins ∨ a = G.dup ∨ a = G.mism ∨ a = G.nons ∨ a = G.mx ∨ a = G.miss)) ∨ (∃ g : Nat, v = .iface 153 (.pointer (some ⟨g, 0, none⟩)))
end Go.Proofs.YtjfbkgkpjkickaaGreatDoor.PAll
-- YtjfbkgkpjkickaaGreatDoorBb
set_option linter.unusedVariables false
set_option linter.unusedSimpArgs false
namespace Go.Proofs.YtjfbkgkpjkickaaGreatDoor.PAll
open Go.RowKit Go.Proofs.YtjfbkgkpjkickaaGreatDoorW.PrintWords Go.Proofs.YtjfbkgkpjkickaaGreatDoorW.PrintLast Go.Proofs.YtjfbkgkpjkickaaGreatDoorW.PrintMore

theorem f85 (c : Nat) (G : GV) (w : World) (hE : Env w G) (hc : c < 256) : Calls Tryz.prog 85 #[.int .u8 c] w fun e w' => e = .returned (.int .u8 (normK c)) ∧ w = w' := by
  have h := hE.norm c hc
  clear hE
  go_enter Tryz.func85, Tryz.ntmps85
  go_wp2_with (fail)
  go_ret
  exact ⟨rfl, rfl⟩
theorem f88 (D p : Nat) (s : DS) (A : Option Addr) (n c : Nat) (w : World) (hD : DecAt w D s) (hb : s.buf = .slice A n c) (hn : n ≤ 4000000000) (hp : p ≤ 4000000000) :
    Calls Tryz.prog 88 #[.pointer (some ⟨D, 5, none⟩), .int .i64 p] w fun e w' => e = .returned (.bool (decide (p = n))) ∧ w = w' := by
  have c0 : w.cell? ⟨D, 7, none⟩ = some (.slice A n c) := by unfold DecAt at hD; simp [World.cell?, hD, DS.cells, hb]
  have hd : ((p : Int) == (n : Int)) = decide (p = n) := by
    by_cases h : p = n
    · rw [decide_eq_true h, beq_iff_eq]; omega
    · rw [decide_eq_false h, beq_eq_false_iff_ne]; omega
  clear hD hb
  go_enter Tryz.func88, Tryz.ntmps88
  go_wp2_with (fail)
  go_ret
  exact ⟨rfl, rfl⟩
set_option maxRecDepth 100000 in
theorem f147 (D : Nat) (s : DS) (G : GV) (w : World) (hE : Env w G) (hD : DecAt w D s) : Calls Tryz.prog 147 #[.pointer (some ⟨D, 0, none⟩)] w fun e w' => e = .returned (.iface 265 (.pointer (some G.ueof))) ∧ w = w' := by
  have c0 : w.cell? ⟨D, 11, none⟩ = some .nilIface := by unfold DecAt at hD; simp [World.cell?, hD, DS.cells]
  have c1 := hE.h1
  clear hD hE
  go_enter Tryz.func147, Tryz.ntmps147
  go_wp2_with (fail)
  go_ret
  exact ⟨rfl, rfl⟩
end Go.Proofs.YtjfbkgkpjkickaaGreatDoor.PAll
-- YtjfbkgkpjkickaaGreatDoorPAllx29
namespace Go.Proofs.YtjfbkgkpjkickaaGreatDoor.PAll
open Go.RowKit Go.Proofs.YtjfbkgkpjkickaaGreatDoorW.PrintWords Go.Proofs.YtjfbkgkpjkickaaGreatDoorW.PrintLast Go.Proofs.YtjfbkgkpjkickaaGreatDoorW.PrintMore
attribute [local go_sem] max2_int min2_int max_two min_two max_three min_three max_four min_four   -- for this text's walks alone
set_option linter.unusedVariables false
set_option linter.unusedSimpArgs false

def jsontext_internal_jsonwire_ConsumeWhitespace.l0 : Nat → List Int → Int → Option (Int)
  | 0, _, _ => none
  | k + 1, x0, x2 => if (x0.length : Int) > x2 then (if 0 ≤ x2 then (if x2 < (x0.length : Int) then (if (rd x0 x2) = 32 then (jsontext_internal_jsonwire_ConsumeWhitespace.l0 k x0 (wrap64 (x2 + 1))) else (if (rd x0 x2) = 9 then (jsontext_internal_jsonwire_ConsumeWhitespace.l0 k x0 (wrap64 (x2 + 1))) else (if (rd x0 x2) = 13 then (jsontext_internal_jsonwire_ConsumeWhitespace.l0 k x0 (wrap64 (x2 + 1))) else (if (rd x0 x2) = 10 then (jsontext_internal_jsonwire_ConsumeWhitespace.l0 k x0 (wrap64 (x2 + 1))) else (some x2))))) else (none)) else (none)) else (some x2)
def jsontext_internal_jsonwire_ConsumeWhitespace.f (k : Nat) (l0 : List Int) : Option (Int) := jsontext_internal_jsonwire_ConsumeWhitespace.l0 k l0 0
set_option maxHeartbeats 8000000 in
set_option maxRecDepth 100000 in
theorem jsontext_internal_jsonwire_ConsumeWhitespace.calls (k : Nat) (A0 : Option Addr) (c0 : Nat) (l0 : List Int) (r : Int) (w : World) (hr0 : Kd.C (Kd.int .u8) w A0 l0.length l0) (hc0 : l0.length ≤ c0) (h : jsontext_internal_jsonwire_ConsumeWhitespace.f k l0 = some r) :
    Calls Tryz.prog 87 #[.slice A0 l0.length c0] w fun e w' => e = .returned (.int .i64 r) ∧ Drawn0 w w' := by
  have HR0 := Aside0.mk hr0
  have HC0 := Aside0.mk hc0
  clear hr0 hc0
  have H : (jsontext_internal_jsonwire_ConsumeWhitespace.l0 k l0 0) = some r := h
  clear h
  have H' := Aside0.mk H
  clear H
  go_enter Tryz.func87, Tryz.ntmps87
  go_wp2
  go_loopg [2] k (fun kq v2 w' => ∃ (x2_1 : Int), v2 = .int .i64 x2_1 ∧ Aside0 (jsontext_internal_jsonwire_ConsumeWhitespace.l0 kq l0 x2_1 = some r) ∧ Aside0 (kq ≤ k) ∧ Drawn0 w w')
  case atStart => exact ⟨(0), (by first | rfl | (simp; done) | (simp [*]; done)), H', ⟨Nat.le_refl _⟩, by repeat (first | exact Drawn0.refl _ | apply Drawn0.step)⟩
  case round =>
    clear H'
    obtain ⟨x2_1, rfl, HA, HK1, ⟨m1, rfl⟩⟩ := hrel
    cases gk with
    | zero => exact absurd HA.out (by simp [jsontext_internal_jsonwire_ConsumeWhitespace.l0])
    | succ k1 =>
      have H := HA.out
      clear HA
      simp only [jsontext_internal_jsonwire_ConsumeWhitespace.l0] at H
      by_cases c2 : (l0.length : Int) > x2_1
      · rw [if_pos c2] at H
        have c2b0 : decide (x2_1 < (l0.length : Int)) = true := decide_eq_true c2
        clear c2
        by_cases c3 : 0 ≤ x2_1
        · rw [if_pos c3] at H
          have c3b0 : decide (0 ≤ x2_1) = true := decide_eq_true c3
          clear c3
          by_cases c4 : x2_1 < (l0.length : Int)
          · rw [if_pos c4] at H
            have c4b0 : decide (x2_1 < (l0.length : Int)) = true := decide_eq_true c4
            clear c4
            by_cases c5 : (rd l0 x2_1) = 32
            · rw [if_pos c5] at H
              have c5b0 : ((rd l0 x2_1) == 32) = true := beq_iff_eq.mpr c5
              have c5b1 : ((rd l0 x2_1) != 32) = false := bne_eq_false_iff_eq.mpr c5
              clear c5
              have H' := Aside0.mk H
              clear H
              have p145 : 0 ≤ (x2_1 : Int) := of_decide_eq_true (by first | (with_reducible assumption) | assumption)
              have q145 : x2_1 < (l0.length : Int) := of_decide_eq_true (by first | (with_reducible assumption) | assumption)
              obtain ⟨ad145, e145, hx145_0⟩ := Kd.at_int HR0.out x2_1 p145 q145
              cases e145
              replace p145 := eq_true p145
              replace q145 := eq_true q145
              go_wp2
              go_roundg k1
              case measure => have := HK1.out; omega
              case rel => exact ⟨(wrap64 (x2_1 + 1)), (by first | rfl | (simp; done) | (simp [*]; done)), H', ⟨by have := HK1.out; omega⟩, by repeat (first | exact Drawn0.refl _ | apply Drawn0.step)⟩
            · rw [if_neg c5] at H
              have c5b0 : ((rd l0 x2_1) == 32) = false := beq_eq_false_iff_ne.mpr c5
              have c5b1 : ((rd l0 x2_1) != 32) = true := bne_iff_ne.mpr c5
              by_cases c6 : (rd l0 x2_1) = 9
              · rw [if_pos c6] at H
                have c6b0 : ((rd l0 x2_1) == 9) = true := beq_iff_eq.mpr c6
                have c6b1 : ((rd l0 x2_1) != 9) = false := bne_eq_false_iff_eq.mpr c6
                clear c6
                have H' := Aside0.mk H
                clear H
                have p145 : 0 ≤ (x2_1 : Int) := of_decide_eq_true (by first | (with_reducible assumption) | assumption)
                have q145 : x2_1 < (l0.length : Int) := of_decide_eq_true (by first | (with_reducible assumption) | assumption)
                obtain ⟨ad145, e145, hx145_0⟩ := Kd.at_int HR0.out x2_1 p145 q145
                cases e145
                replace p145 := eq_true p145
                replace q145 := eq_true q145
                have p146 : 0 ≤ (x2_1 : Int) := of_decide_eq_true (by first | (with_reducible assumption) | assumption)
                have q146 : x2_1 < (l0.length : Int) := of_decide_eq_true (by first | (with_reducible assumption) | assumption)
                obtain ⟨ad146, e146, hx146_0⟩ := Kd.at_int HR0.out x2_1 p146 q146
                obtain rfl : ad145 = ad146 := (by injection e146)
                replace p146 := eq_true p146
                replace q146 := eq_true q146
                go_wp2
                go_roundg k1
                case measure => have := HK1.out; omega
                case rel => exact ⟨(wrap64 (x2_1 + 1)), (by first | rfl | (simp; done) | (simp [*]; done)), H', ⟨by have := HK1.out; omega⟩, by repeat (first | exact Drawn0.refl _ | apply Drawn0.step)⟩
              · rw [if_neg c6] at H
                have c6b0 : ((rd l0 x2_1) == 9) = false := beq_eq_false_iff_ne.mpr c6
                have c6b1 : ((rd l0 x2_1) != 9) = true := bne_iff_ne.mpr c6
                by_cases c7 : (rd l0 x2_1) = 13
                · rw [if_pos c7] at H
                  have c7b0 : ((rd l0 x2_1) == 13) = true := beq_iff_eq.mpr c7
                  have c7b1 : ((rd l0 x2_1) != 13) = false := bne_eq_false_iff_eq.mpr c7
                  clear c7
                  have H' := Aside0.mk H
                  clear H
                  have p145 : 0 ≤ (x2_1 : Int) := of_decide_eq_true (by first | (with_reducible assumption) | assumption)
                  have q145 : x2_1 < (l0.length : Int) := of_decide_eq_true (by first | (with_reducible assumption) | assumption)
                  obtain ⟨ad145, e145, hx145_0⟩ := Kd.at_int HR0.out x2_1 p145 q145
                  cases e145
                  replace p145 := eq_true p145
                  replace q145 := eq_true q145
                  have p146 : 0 ≤ (x2_1 : Int) := of_decide_eq_true (by first | (with_reducible assumption) | assumption)
                  have q146 : x2_1 < (l0.length : Int) := of_decide_eq_true (by first | (with_reducible assumption) | assumption)
                  obtain ⟨ad146, e146, hx146_0⟩ := Kd.at_int HR0.out x2_1 p146 q146
                  obtain rfl : ad145 = ad146 := (by injection e146)
                  replace p146 := eq_true p146
                  replace q146 := eq_true q146
                  have p147 : 0 ≤ (x2_1 : Int) := of_decide_eq_true (by first | (with_reducible assumption) | assumption)
                  have q147 : x2_1 < (l0.length : Int) := of_decide_eq_true (by first | (with_reducible assumption) | assumption)
                  obtain ⟨ad147, e147, hx147_0⟩ := Kd.at_int HR0.out x2_1 p147 q147
                  obtain rfl : ad145 = ad147 := (by injection e147)
                  replace p147 := eq_true p147
                  replace q147 := eq_true q147
                  go_wp2
                  go_roundg k1
                  case measure => have := HK1.out; omega
                  case rel => exact ⟨(wrap64 (x2_1 + 1)), (by first | rfl | (simp; done) | (simp [*]; done)), H', ⟨by have := HK1.out; omega⟩, by repeat (first | exact Drawn0.refl _ | apply Drawn0.step)⟩
                · rw [if_neg c7] at H
                  have c7b0 : ((rd l0 x2_1) == 13) = false := beq_eq_false_iff_ne.mpr c7
                  have c7b1 : ((rd l0 x2_1) != 13) = true := bne_iff_ne.mpr c7
                  by_cases c8 : (rd l0 x2_1) = 10
                  · rw [if_pos c8] at H
                    have c8b0 : ((rd l0 x2_1) == 10) = true := beq_iff_eq.mpr c8
                    have c8b1 : ((rd l0 x2_1) != 10) = false := bne_eq_false_iff_eq.mpr c8
                    clear c8
                    have H' := Aside0.mk H
                    clear H
                    have p145 : 0 ≤ (x2_1 : Int) := of_decide_eq_true (by first | (with_reducible assumption) | assumption)
                    have q145 : x2_1 < (l0.length : Int) := of_decide_eq_true (by first | (with_reducible assumption) | assumption)
                    obtain ⟨ad145, e145, hx145_0⟩ := Kd.at_int HR0.out x2_1 p145 q145
                    cases e145
                    replace p145 := eq_true p145
                    replace q145 := eq_true q145
                    have p146 : 0 ≤ (x2_1 : Int) := of_decide_eq_true (by first | (with_reducible assumption) | assumption)
                    have q146 : x2_1 < (l0.length : Int) := of_decide_eq_true (by first | (with_reducible assumption) | assumption)
                    obtain ⟨ad146, e146, hx146_0⟩ := Kd.at_int HR0.out x2_1 p146 q146
                    obtain rfl : ad145 = ad146 := (by injection e146)
                    replace p146 := eq_true p146
                    replace q146 := eq_true q146
                    have p147 : 0 ≤ (x2_1 : Int) := of_decide_eq_true (by first | (with_reducible assumption) | assumption)
                    have q147 : x2_1 < (l0.length : Int) := of_decide_eq_true (by first | (with_reducible assumption) | assumption)
                    obtain ⟨ad147, e147, hx147_0⟩ := Kd.at_int HR0.out x2_1 p147 q147
                    obtain rfl : ad145 = ad147 := (by injection e147)
                    replace p147 := eq_true p147
                    replace q147 := eq_true q147
                    have p148 : 0 ≤ (x2_1 : Int) := of_decide_eq_true (by first | (with_reducible assumption) | assumption)
                    have q148 : x2_1 < (l0.length : Int) := of_decide_eq_true (by first | (with_reducible assumption) | assumption)
                    obtain ⟨ad148, e148, hx148_0⟩ := Kd.at_int HR0.out x2_1 p148 q148
                    obtain rfl : ad145 = ad148 := (by injection e148)
                    replace p148 := eq_true p148
                    replace q148 := eq_true q148
                    go_wp2
                    go_roundg k1
                    case measure => have := HK1.out; omega
                    case rel => exact ⟨(wrap64 (x2_1 + 1)), (by first | rfl | (simp; done) | (simp [*]; done)), H', ⟨by have := HK1.out; omega⟩, by repeat (first | exact Drawn0.refl _ | apply Drawn0.step)⟩
                  · rw [if_neg c8] at H
                    have c8b0 : ((rd l0 x2_1) == 10) = false := beq_eq_false_iff_ne.mpr c8
                    have c8b1 : ((rd l0 x2_1) != 10) = true := bne_iff_ne.mpr c8
                    obtain rfl := Option.some.inj H
                    have p145 : 0 ≤ (x2_1 : Int) := of_decide_eq_true (by first | (with_reducible assumption) | assumption)
                    have q145 : x2_1 < (l0.length : Int) := of_decide_eq_true (by first | (with_reducible assumption) | assumption)
                    obtain ⟨ad145, e145, hx145_0⟩ := Kd.at_int HR0.out x2_1 p145 q145
                    cases e145
                    replace p145 := eq_true p145
                    replace q145 := eq_true q145
                    have p146 : 0 ≤ (x2_1 : Int) := of_decide_eq_true (by first | (with_reducible assumption) | assumption)
                    have q146 : x2_1 < (l0.length : Int) := of_decide_eq_true (by first | (with_reducible assumption) | assumption)
                    obtain ⟨ad146, e146, hx146_0⟩ := Kd.at_int HR0.out x2_1 p146 q146
                    obtain rfl : ad145 = ad146 := (by injection e146)
                    replace p146 := eq_true p146
                    replace q146 := eq_true q146
                    have p147 : 0 ≤ (x2_1 : Int) := of_decide_eq_true (by first | (with_reducible assumption) | assumption)
                    have q147 : x2_1 < (l0.length : Int) := of_decide_eq_true (by first | (with_reducible assumption) | assumption)
                    obtain ⟨ad147, e147, hx147_0⟩ := Kd.at_int HR0.out x2_1 p147 q147
                    obtain rfl : ad145 = ad147 := (by injection e147)
                    replace p147 := eq_true p147
                    replace q147 := eq_true q147
                    have p148 : 0 ≤ (x2_1 : Int) := of_decide_eq_true (by first | (with_reducible assumption) | assumption)
                    have q148 : x2_1 < (l0.length : Int) := of_decide_eq_true (by first | (with_reducible assumption) | assumption)
                    obtain ⟨ad148, e148, hx148_0⟩ := Kd.at_int HR0.out x2_1 p148 q148
                    obtain rfl : ad145 = ad148 := (by injection e148)
                    replace p148 := eq_true p148
                    replace q148 := eq_true q148
                    go_wp2
                    go_ret
                    exact ⟨by first | rfl | (simp; done) | (simp [*]; done), by repeat (first | exact Drawn0.refl _ | apply Drawn0.step)⟩
          · rw [if_neg c4] at H
            exact absurd H (by simp)
        · rw [if_neg c3] at H
          exact absurd H (by simp)
      · rw [if_neg c2] at H
        have c2b0 : decide (x2_1 < (l0.length : Int)) = false := decide_eq_false c2
        clear c2
        obtain rfl := Option.some.inj H
        go_wp2
        go_ret
        exact ⟨by first | rfl | (simp; done) | (simp [*]; done), by repeat (first | exact Drawn0.refl _ | apply Drawn0.step)⟩

end Go.Proofs.YtjfbkgkpjkickaaGreatDoor.PAll
-- YtjfbkgkpjkickaaGreatDoorBc
set_option linter.unusedVariables false
set_option linter.unusedSimpArgs false
namespace Go.Proofs.YtjfbkgkpjkickaaGreatDoor.PAll
open Go.RowKit Go.Proofs.YtjfbkgkpjkickaaGreatDoorW.PrintWords Go.Proofs.YtjfbkgkpjkickaaGreatDoorW.PrintLast Go.Proofs.YtjfbkgkpjkickaaGreatDoorW.PrintMore

theorem sub_run (T : TypeId) (hT : Tryz.prog.underlying T = some (.slice (Tryz.prog.elem T))) (hS : ∀ W, (sizeOf (Tryz.prog.elem T)).run Tryz.prog W = .ok 1 W) (B o p n c : Nat) (hp : p ≤ n) (hc : n ≤ c) :
    ∃ off : Nat, (p < n → off = o + p) ∧ (off ≤ o + p) ∧ ∀ W, (Instr.sliceAt T (.slice (some ⟨B, o, none⟩) n c) (some (.int .i64 p)) none none).run Tryz.prog W = .ok (.slice (some ⟨B, off, none⟩) (n - p) (c - p)) W := by
  refine ⟨if c = p then o else o + p, fun h => if_neg (by omega), by split <;> omega, fun W => ?_⟩
  rw [run_sliceAt_slice W T _ _ _ _ hT, run_slice_l W T (some ⟨B, o, none⟩) n c hT .i64 p (by omega) (by omega), hS]
  simp only [Result.andThen, sliced]
  by_cases h : c = p
  · simp [h]
  · simp [h, Addr.add]
theorem slice22 : Tryz.prog.underlying 22 = some (.slice (Tryz.prog.elem 22)) := by kernel_rfl
theorem size22 (W : World) : (sizeOf (Tryz.prog.elem 22)).run Tryz.prog W = .ok 1 W := by kernel_rfl
theorem sub22 (B o p n c : Nat) (hp : p ≤ n) (hc : n ≤ c) :
    ∃ off : Nat, (p < n → off = o + p) ∧ (off ≤ o + p) ∧ ∀ W, (Instr.sliceAt 22 (.slice (some ⟨B, o, none⟩) n c) (some (.int .i64 p)) none none).run Tryz.prog W = .ok (.slice (some ⟨B, off, none⟩) (n - p) (c - p)) W :=
  sub_run 22 slice22 size22 B o p n c hp hc
/-- white space at the head of a row of bytes -/
def isW (b : Int) : Bool := b == 32 || b == 9 || b == 13 || b == 10
def wsN : List Int → Nat
  | [] => 0
  | b :: t => if isW b then wsN t + 1 else 0
theorem wsN_le (l : List Int) : wsN l ≤ l.length := by
  induction l with
  | nil => exact Nat.le_refl _
  | cons b t ih => unfold wsN; split <;> simp <;> omega
theorem drop_cons (l : List Int) (i : Nat) (h : i < l.length) : l.drop i = rd l (i : Int) :: l.drop (i + 1) := by
  rw [List.drop_eq_getElem_cons h]
  unfold rd
  rw [Int.toNat_natCast, List.getD_eq_getElem?_getD, List.getElem?_eq_getElem h]
  rfl
theorem w64n (n : Nat) (h : n < 9000000000000000000) : wrap64 ((n : Int) + 1) = ((n + 1 : Nat) : Int) := by unfold wrap64; omega
theorem cw_ev (l : List Int) (hl : l.length ≤ 4000000000) : ∃ k, jsontext_internal_jsonwire_ConsumeWhitespace.f k l = some ((wsN l : Nat) : Int) := by
  have main : ∀ m i : Nat, i + m = l.length → ∃ k, jsontext_internal_jsonwire_ConsumeWhitespace.l0 k l (i : Int) = some ((i + wsN (l.drop i) : Nat) : Int) := by
    intro m
    induction m with
    | zero =>
      intro i hi
      refine ⟨1, ?_⟩
      rw [jsontext_internal_jsonwire_ConsumeWhitespace.l0, if_neg (by omega), List.drop_of_length_le (by omega)]
      rfl
    | succ m ih =>
      intro i hi
      obtain ⟨k, hk⟩ := ih (i + 1) (by omega)
      refine ⟨k + 1, ?_⟩
      rw [drop_cons l i (by omega), jsontext_internal_jsonwire_ConsumeWhitespace.l0, if_pos (by omega), if_pos (by omega), if_pos (by omega), w64n i (by omega)]
      unfold wsN isW
      generalize rd l (i : Int) = b
      by_cases h1 : b = 32
      · rw [if_pos h1, if_pos (by rw [h1]; rfl), hk]; congr 1; omega
      · rw [if_neg h1]
        by_cases h2 : b = 9
        · rw [if_pos h2, if_pos (by rw [h2]; rfl), hk]; congr 1; omega
        · rw [if_neg h2]
          by_cases h3 : b = 13
          · rw [if_pos h3, if_pos (by rw [h3]; rfl), hk]; congr 1; omega
          · rw [if_neg h3]
            by_cases h4 : b = 10
            · rw [if_pos h4, if_pos (by rw [h4]; rfl), hk]; congr 1; omega
            · rw [if_neg h4, if_neg (by simp [h1, h2, h3, h4])]
              rfl
  obtain ⟨k, hk⟩ := main l.length 0 (by omega)
  rw [List.drop_zero, Nat.zero_add] at hk
  exact ⟨k, hk⟩
theorem f87 (A : Option Addr) (c : Nat) (l : List Int) (w : World) (hr : Kd.C (Kd.int .u8) w A l.length l) (hc : l.length ≤ c) (hl : l.length ≤ 4000000000) :
    Calls Tryz.prog 87 #[.slice A l.length c] w fun e w' => e = .returned (.int .i64 ((wsN l : Nat) : Int)) ∧ Drawn0 w w' := by
  obtain ⟨k, hk⟩ := cw_ev l hl
  exact jsontext_internal_jsonwire_ConsumeWhitespace.calls k A c l _ w hr hc hk
/-- at the text's end nothing more comes -/
theorem f89 (D B c : Nat) (t : List Int) (s : DS) (G : GV) (w : World) (hE : Env w G) (hD : DecAt w D s) (hb : s.buf = .slice (some ⟨B, 0, none⟩) t.length c) (ht : TextAt w B t) (hn : t.length ≤ 4000000000) (hc : t.length ≤ c) :
    Calls Tryz.prog 89 #[.pointer (some ⟨D, 0, none⟩), .int .i64 (t.length : Int)] w fun e w' => e = .returned (.tuple #[.int .i64 (t.length : Int), .iface 265 (.pointer (some G.ueof))]) ∧ Drawn0 w w' := by
  have c0 : w.cell? ⟨D, 7, none⟩ = some (.slice (some ⟨B, 0, none⟩) t.length c) := by unfold DecAt at hD; simp [World.cell?, hD, DS.cells, hb]
  have c10 : w.cell? ⟨D, 10, none⟩ = some (.int .i64 0) := by unfold DecAt at hD; simp [World.cell?, hD, DS.cells]
  obtain ⟨off, _, _, hsl⟩ := sub22 B 0 t.length t.length c (Nat.le_refl _) hc
  have C87 := f87 (some ⟨B, off, none⟩) (c - t.length) [] w (by
    have := ht.C t.length (some ⟨B, off, none⟩) (fun h => absurd h (Nat.lt_irrefl _)) (by omega)
    rw [List.drop_of_length_le (Nat.le_refl _)] at this
    exact this) (Nat.zero_le _) (by decide)
  rw [List.length_nil] at C87
  have C88 := fun m => f88 D t.length s (some ⟨B, 0, none⟩) t.length c (w.drewN m) (DecAt.mono hD (pw_below_drewN (Below.refl _ _) m)) hb hn hn
  have C147 := fun m => f147 D s G (w.drewN m) (hE.mono (pw_below_drewN (Below.refl _ _) m)) (DecAt.mono hD (pw_below_drewN (Below.refl _ _) m))
  rw [decide_eq_true rfl] at C88
  have H87 := Lib.hid C87
  have H88 := Lib.hid C88
  have H147 := Lib.hid C147
  have n0 : t.length - t.length = 0 := by omega
  rw [n0] at hsl
  have w0 : ((wsN [] : Nat) : Int) = 0 := rfl
  clear C87 C88 C147 hD hE hb ht
  generalize t.length = n at *
  go_enter Tryz.func89, Tryz.ntmps89
  go_wp2_with (fail)
  go_loopg [1, 4, 5, 6] 1 (fun kq v1 v4 v5 v6 w' => v1 = .int .i64 n ∧ w = w')
  case atStart => exact ⟨rfl, rfl⟩
  case round =>
    obtain ⟨rfl, rfl⟩ := hrel
    go_wp2_with (fail)
    refine H87.out.mono ?_
    rintro e w1 ⟨rfl, m, rfl⟩
    go_wp2_with (fail)
    refine (H88.out m).mono ?_
    rintro e w1 ⟨rfl, rfl⟩
    go_wp2_with (fail)
    refine (H147.out m).mono ?_
    rintro e w1 ⟨rfl, rfl⟩
    go_wp2_with (fail)
    go_returns
    exact ⟨rfl, m, rfl⟩
end Go.Proofs.YtjfbkgkpjkickaaGreatDoor.PAll
-- YtjfbkgkpjkickaaGreatDoorBd
set_option linter.unusedVariables false
set_option linter.unusedSimpArgs false
namespace Go.Proofs.YtjfbkgkpjkickaaGreatDoor.PAll
open Go.RowKit Go.Proofs.YtjfbkgkpjkickaaGreatDoorW.PrintWords Go.Proofs.YtjfbkgkpjkickaaGreatDoorW.PrintLast Go.Proofs.YtjfbkgkpjkickaaGreatDoorW.PrintMore

/-- the bytes l lie from a place of a block on -/
def RB (w : World) (B o : Nat) (l : List Int) : Prop := ∀ j, j < l.length → w.cell? ⟨B, o + j, none⟩ = some (.int .u8 (rd l (j : Int)))
theorem RB.mono {w w' : World} {B o : Nat} {l : List Int} (h : RB w B o l) (hb : Below w.heap.size w w') : RB w' B o l := fun j hj => pw_cell_below hb (h j hj)
theorem rd_getD (l : List Int) (j : Nat) : rd l (j : Int) = l.getD j 0 := by unfold rd; rw [Int.toNat_natCast]
theorem RB.C {w : World} {B o : Nat} {l : List Int} (h : RB w B o l) (hl : l.length ≤ 9223372036854775807) : Kd.C (Kd.int .u8) w (some ⟨B, o, none⟩) l.length l := by
  refine Kd.C_of_reads (enc := Value.int .u8) (d := 0) (h1 := fun _ => rfl) ⟨rfl, hl, fun hn => ⟨_, rfl, fun j hj => ?_⟩⟩
  rw [add_off, h j hj, rd_getD]
theorem TextAt.RB {w : World} {B : Nat} {t : List Int} (h : TextAt w B t) (p off : Nat) (ho : p < t.length → off = p) : RB w B off (t.drop p) := by
  intro j hj
  rw [List.length_drop] at hj
  obtain rfl := ho (by omega)
  rw [h (off + j) (by omega), rd_getD, getD_drop]
theorem RB.sub {w : World} {B o : Nat} {l : List Int} (h : RB w B o l) (p off : Nat) (ho : p < l.length → off = o + p) : RB w B off (l.drop p) := by
  intro j hj
  rw [List.length_drop] at hj
  obtain rfl := ho (by omega)
  rw [Nat.add_assoc, h (p + j) (by omega), rd_getD, rd_getD, getD_drop]
theorem Bs.rd {l : List Int} (h : Bs l) (j : Nat) : 0 ≤ rd l (j : Int) ∧ rd l (j : Int) < 256 := by
  rw [rd_getD, List.getD_eq_getElem?_getD]
  by_cases hj : j < l.length
  · rw [List.getElem?_eq_getElem hj]
    exact h _ (List.getElem_mem hj)
  · rw [List.getElem?_eq_none (by omega)]
    exact ⟨by decide, by decide⟩
theorem Bs.drop {l : List Int} (h : Bs l) (p : Nat) : Bs (l.drop p) := fun b hb => h b (List.mem_of_mem_drop hb)

/-- the ranges of a character's second byte -/
def rlo (b : Int) : Int := if b = 224 then 160 else if b = 240 then 144 else 128
def rhi (b : Int) : Int := if b = 237 then 159 else if b = 244 then 143 else 191
def cont (b : Int) : Prop := 128 ≤ b ∧ b ≤ 191
instance (b : Int) : Decidable (cont b) := by unfold cont; infer_instance
/-- how many bytes the character of more than one byte at the head of a row has, or 0 -/
def ulen (l : List Int) : Nat :=
  if 194 ≤ rd l 0 ∧ rd l 0 ≤ 223 then (if 2 ≤ l.length ∧ cont (rd l 1) then 2 else 0)
  else if 224 ≤ rd l 0 ∧ rd l 0 ≤ 239 then (if 3 ≤ l.length ∧ (rlo (rd l 0) ≤ rd l 1 ∧ rd l 1 ≤ rhi (rd l 0)) ∧ cont (rd l 2) then 3 else 0)
  else if 240 ≤ rd l 0 ∧ rd l 0 ≤ 244 then (if 4 ≤ l.length ∧ (rlo (rd l 0) ≤ rd l 1 ∧ rd l 1 ≤ rhi (rd l 0)) ∧ cont (rd l 2) ∧ cont (rd l 3) then 4 else 0)
  else 0
/-- what is told of such a character -/
def RunePost (l : List Int) (w : World) (e : Ending) (w' : World) : Prop := ∃ r : Int, e = .returned (.tuple #[.int .i32 r, .int .i64 ((if ulen l = 0 then 1 else ulen l : Nat) : Int)]) ∧ (ulen l = 0 → r = 65533) ∧ Below w.heap.size w w'
theorem first_bits (b : Nat) (h : b < 256) : Go.bits .or .i32 (Go.bits .andNot .i32 (b : Int) (-1)) (Go.bits .and .i32 65533 (-1)) = 65533 := by
  have : ∀ b : Nat, b < 256 → Go.bits .or .i32 (Go.bits .andNot .i32 (b : Int) (-1)) (Go.bits .and .i32 65533 (-1)) = 65533 := by decide +kernel
  exact this b h
theorem rune_bad {l : List Int} {w w' : World} (hu : ulen l = 0) (hb : Below w.heap.size w w') (r : Int) (hr : r = 65533) : RunePost l w (.returned (.tuple #[.int .i32 r, .int .i64 1])) w' := by
  refine ⟨r, ?_, fun _ => hr, hb⟩
  rw [hu]; rfl
theorem rune_ok {l : List Int} {w w' : World} (n : Nat) (hu : ulen l = n) (hn : n ≠ 0) (hb : Below w.heap.size w w') (r : Int) : RunePost l w (.returned (.tuple #[.int .i32 r, .int .i64 (n : Int)])) w' := by
  refine ⟨r, ?_, fun h => absurd (hu.symm.trans h) hn, hb⟩
  rw [hu, if_neg hn]
set_option maxRecDepth 100000 in
theorem f81x (B o c : Nat) (l : List Int) (b0 : Nat) (w : World) (G : GV) (hE : Env w G) (hr : RB w B o l) (hl : 0 < l.length) (hl2 : l.length ≤ 4000000000) (h0 : rd l 0 = (b0 : Int)) (hb : b0 < 256) (hx : firstK b0 = 241) (hu : ulen l = 0) :
    Calls Tryz.prog 81 #[.slice (some ⟨B, o, none⟩) l.length c] w (RunePost l w) := by
  have hf := hE.first b0 hb
  rw [hx] at hf
  have hc0 : w.cell? ⟨B, o, none⟩ = some (.int .u8 (b0 : Int)) := by have := hr 0 hl; rw [show ((0 : Nat) : Int) = 0 from rfl, h0] at this; exact this
  have hq := first_bits b0 hb
  have hw32 : wrap32 517543559168 = -2147483648 := by decide +kernel
  have HU := Lib.hid hu
  clear hE hr hx h0 hu
  have hl1 : ¬ (l.length : Int) < 1 := by omega
  go_enter Tryz.func81, Tryz.ntmps81
  go_wp2_with (fail)
  go_returns
  exact rune_bad HU.out (Below.refl _ _) _ rfl
/-- what the tables tell of a first byte -/
structure Cls (w : World) (b0 x sz i : Nat) (lo hi : Int) : Prop where
  hb : b0 < 256
  cx : w.cell? ⟨3, b0, none⟩ = some (.int .u8 (x : Int))
  cl : w.cell? ⟨4, i * 2, none⟩ = some (.int .u8 lo)
  ch : w.cell? ⟨4, i * 2 + 1, none⟩ = some (.int .u8 hi)
  hx : decide (240 ≤ (x : Int)) = false
  hs : Go.bits .and .u8 (x : Int) 7 = (sz : Int)
  hi : (x : Int) / 16 = (i : Int)
  hsz : 2 ≤ sz
  hsz4 : sz ≤ 4
  hi5 : i < 5
set_option maxRecDepth 100000 in
theorem f81a (B o c : Nat) (l : List Int) (b0 x sz i : Nat) (lo hi : Int) (w : World) (hc : Cls w b0 x sz i lo hi) (hr : RB w B o l) (hl : 0 < l.length) (hl2 : l.length ≤ 4000000000) (h0 : rd l 0 = (b0 : Int)) (hn : l.length < sz) (hu : ulen l = 0) :
    Calls Tryz.prog 81 #[.slice (some ⟨B, o, none⟩) l.length c] w (RunePost l w) := by
  have hc0 : w.cell? ⟨B, o, none⟩ = some (.int .u8 (b0 : Int)) := by have := hr 0 hl; rw [show ((0 : Nat) : Int) = 0 from rfl, h0] at this; exact this
  have HU := Lib.hid hu
  obtain ⟨hb, cx, cl, ch, hx, hs, hi', hsz, hsz4, hi5⟩ := hc
  clear hr h0 hu
  have hl1 : ¬ (l.length : Int) < 1 := by omega
  have hn1 : decide ((l.length : Int) < (sz : Int)) = true := decide_eq_true (by omega)
  have hn2 : decide (l.length < sz) = true := decide_eq_true hn
  go_enter Tryz.func81, Tryz.ntmps81
  go_wp2_with (fail)
  go_returns
  exact rune_bad HU.out (by repeat (first | exact Below.refl _ _ | apply below_alloc)) _ rfl
set_option maxRecDepth 100000 in
theorem f81b1 (B o c : Nat) (l : List Int) (b0 x sz i : Nat) (lo hi b1 b2 b3 : Int) (w : World) (hc : Cls w b0 x sz i lo hi) (hr : RB w B o l) (hl : 0 < l.length) (hl2 : l.length ≤ 4000000000) (hbs : Bs l) (h0 : rd l 0 = (b0 : Int)) (hn : sz ≤ l.length) (h1 : rd l 1 = b1) (hq : b1 < lo) (hu : ulen l = 0) :
    Calls Tryz.prog 81 #[.slice (some ⟨B, o, none⟩) l.length c] w (RunePost l w) := by
  have hc0 : w.cell? ⟨B, o, none⟩ = some (.int .u8 (b0 : Int)) := by have := hr 0 hl; rw [show ((0 : Nat) : Int) = 0 from rfl, h0] at this; exact this
  have hBne : B ≠ w.heap.size := Nat.ne_of_lt (World.block_lt_of_cell? w ⟨B, o, none⟩ hc0)
  obtain ⟨hb, cx, cl, ch, hx, hs, hi', hsz, hsz4, hi5⟩ := hc
  have hc1 : w.cell? ⟨B, o + 1, none⟩ = some (.int .u8 b1) := by have := hr 1 (by omega); rw [show ((1 : Nat) : Int) = 1 from rfl, h1] at this; exact this
  have bd1 : 0 ≤ b1 ∧ b1 < 256 := by have := hbs.rd 1; rw [show ((1 : Nat) : Int) = 1 from rfl, h1] at this; exact this
  obtain ⟨bd1a, bd1b⟩ := bd1
  have hn1l : 1 < l.length := by omega
  have hca1 : (w.alloc (.cells #[.int .u8 lo, .int .u8 hi] 159)).cell? ⟨B, o + 1, none⟩ = some (.int .u8 b1) := pw_cell_below (below_alloc (Below.refl _ _) _) hc1
  have HU := Lib.hid hu
  have q1 : decide (b1 < lo) = true := decide_eq_true hq
  clear hr h0 hu hbs h1
  have hl1 : ¬ (l.length : Int) < 1 := by omega
  have hn1 : decide ((l.length : Int) < (sz : Int)) = false := decide_eq_false (by omega)
  have hn2 : decide (l.length < sz) = false := decide_eq_false (by omega)
  go_enter Tryz.func81, Tryz.ntmps81
  go_wp2_with (fail)
  go_returns
  exact rune_bad HU.out (by repeat (first | exact Below.refl _ _ | apply below_alloc)) _ rfl
set_option maxRecDepth 100000 in
theorem f81b2 (B o c : Nat) (l : List Int) (b0 x sz i : Nat) (lo hi b1 b2 b3 : Int) (w : World) (hc : Cls w b0 x sz i lo hi) (hr : RB w B o l) (hl : 0 < l.length) (hl2 : l.length ≤ 4000000000) (hbs : Bs l) (h0 : rd l 0 = (b0 : Int)) (hn : sz ≤ l.length) (h1 : rd l 1 = b1) (hq1 : lo ≤ b1) (hq : hi < b1) (hu : ulen l = 0) :
    Calls Tryz.prog 81 #[.slice (some ⟨B, o, none⟩) l.length c] w (RunePost l w) := by
  have hc0 : w.cell? ⟨B, o, none⟩ = some (.int .u8 (b0 : Int)) := by have := hr 0 hl; rw [show ((0 : Nat) : Int) = 0 from rfl, h0] at this; exact this
  have hBne : B ≠ w.heap.size := Nat.ne_of_lt (World.block_lt_of_cell? w ⟨B, o, none⟩ hc0)
  obtain ⟨hb, cx, cl, ch, hx, hs, hi', hsz, hsz4, hi5⟩ := hc
  have hc1 : w.cell? ⟨B, o + 1, none⟩ = some (.int .u8 b1) := by have := hr 1 (by omega); rw [show ((1 : Nat) : Int) = 1 from rfl, h1] at this; exact this
  have bd1 : 0 ≤ b1 ∧ b1 < 256 := by have := hbs.rd 1; rw [show ((1 : Nat) : Int) = 1 from rfl, h1] at this; exact this
  obtain ⟨bd1a, bd1b⟩ := bd1
  have hn1l : 1 < l.length := by omega
  have hca1 : (w.alloc (.cells #[.int .u8 lo, .int .u8 hi] 159)).cell? ⟨B, o + 1, none⟩ = some (.int .u8 b1) := pw_cell_below (below_alloc (Below.refl _ _) _) hc1
  have HU := Lib.hid hu
  have q1 : decide (b1 < lo) = false := decide_eq_false (by omega)
  have q2 : decide (hi < b1) = true := decide_eq_true hq
  clear hr h0 hu hbs h1
  have hl1 : ¬ (l.length : Int) < 1 := by omega
  have hn1 : decide ((l.length : Int) < (sz : Int)) = false := decide_eq_false (by omega)
  have hn2 : decide (l.length < sz) = false := decide_eq_false (by omega)
  go_enter Tryz.func81, Tryz.ntmps81
  go_wp2_with (fail)
  go_returns
  exact rune_bad HU.out (by repeat (first | exact Below.refl _ _ | apply below_alloc)) _ rfl
set_option maxRecDepth 100000 in
theorem f81c (B o c : Nat) (l : List Int) (b0 x sz i : Nat) (lo hi b1 b2 b3 : Int) (w : World) (hc : Cls w b0 x sz i lo hi) (hr : RB w B o l) (hl : 0 < l.length) (hl2 : l.length ≤ 4000000000) (hbs : Bs l) (h0 : rd l 0 = (b0 : Int)) (hn : sz ≤ l.length) (h1 : rd l 1 = b1) (hq1 : lo ≤ b1) (hq : b1 ≤ hi) (hs2 : sz = 2) (hu : ulen l = 2) :
    Calls Tryz.prog 81 #[.slice (some ⟨B, o, none⟩) l.length c] w (RunePost l w) := by
  have hc0 : w.cell? ⟨B, o, none⟩ = some (.int .u8 (b0 : Int)) := by have := hr 0 hl; rw [show ((0 : Nat) : Int) = 0 from rfl, h0] at this; exact this
  have hBne : B ≠ w.heap.size := Nat.ne_of_lt (World.block_lt_of_cell? w ⟨B, o, none⟩ hc0)
  obtain ⟨hb, cx, cl, ch, hx, hs, hi', hsz, hsz4, hi5⟩ := hc
  have hc1 : w.cell? ⟨B, o + 1, none⟩ = some (.int .u8 b1) := by have := hr 1 (by omega); rw [show ((1 : Nat) : Int) = 1 from rfl, h1] at this; exact this
  have bd1 : 0 ≤ b1 ∧ b1 < 256 := by have := hbs.rd 1; rw [show ((1 : Nat) : Int) = 1 from rfl, h1] at this; exact this
  obtain ⟨bd1a, bd1b⟩ := bd1
  have hn1l : 1 < l.length := by omega
  have hca1 : (w.alloc (.cells #[.int .u8 lo, .int .u8 hi] 159)).cell? ⟨B, o + 1, none⟩ = some (.int .u8 b1) := pw_cell_below (below_alloc (Below.refl _ _) _) hc1
  have HU := Lib.hid hu
  have q1 : decide (b1 < lo) = false := decide_eq_false (by omega)
  have q2 : decide (hi < b1) = false := decide_eq_false (by omega)
  have q3 : decide ((sz : Int) ≤ 2) = true := decide_eq_true (by omega)
  have q4 : decide (sz ≤ 2) = true := decide_eq_true (by omega)
  clear hr h0 hu hbs h1
  have hl1 : ¬ (l.length : Int) < 1 := by omega
  have hn1 : decide ((l.length : Int) < (sz : Int)) = false := decide_eq_false (by omega)
  have hn2 : decide (l.length < sz) = false := decide_eq_false (by omega)
  go_enter Tryz.func81, Tryz.ntmps81
  go_wp2_with (fail)
  go_returns
  exact rune_ok 2 HU.out (by decide) (by repeat (first | exact Below.refl _ _ | apply below_alloc)) _
set_option maxRecDepth 100000 in
theorem f81d1 (B o c : Nat) (l : List Int) (b0 x sz i : Nat) (lo hi b1 b2 b3 : Int) (w : World) (hc : Cls w b0 x sz i lo hi) (hr : RB w B o l) (hl : 0 < l.length) (hl2 : l.length ≤ 4000000000) (hbs : Bs l) (h0 : rd l 0 = (b0 : Int)) (hn : sz ≤ l.length) (h1 : rd l 1 = b1) (hq1 : lo ≤ b1) (hq : b1 ≤ hi) (hs2 : 3 ≤ sz) (h2 : rd l 2 = b2) (hq2 : b2 < 128) (hu : ulen l = 0) :
    Calls Tryz.prog 81 #[.slice (some ⟨B, o, none⟩) l.length c] w (RunePost l w) := by
  have hc0 : w.cell? ⟨B, o, none⟩ = some (.int .u8 (b0 : Int)) := by have := hr 0 hl; rw [show ((0 : Nat) : Int) = 0 from rfl, h0] at this; exact this
  have hBne : B ≠ w.heap.size := Nat.ne_of_lt (World.block_lt_of_cell? w ⟨B, o, none⟩ hc0)
  obtain ⟨hb, cx, cl, ch, hx, hs, hi', hsz, hsz4, hi5⟩ := hc
  have hc1 : w.cell? ⟨B, o + 1, none⟩ = some (.int .u8 b1) := by have := hr 1 (by omega); rw [show ((1 : Nat) : Int) = 1 from rfl, h1] at this; exact this
  have bd1 : 0 ≤ b1 ∧ b1 < 256 := by have := hbs.rd 1; rw [show ((1 : Nat) : Int) = 1 from rfl, h1] at this; exact this
  obtain ⟨bd1a, bd1b⟩ := bd1
  have hn1l : 1 < l.length := by omega
  have hca1 : (w.alloc (.cells #[.int .u8 lo, .int .u8 hi] 159)).cell? ⟨B, o + 1, none⟩ = some (.int .u8 b1) := pw_cell_below (below_alloc (Below.refl _ _) _) hc1
  have hc2 : w.cell? ⟨B, o + 2, none⟩ = some (.int .u8 b2) := by have := hr 2 (by omega); rw [show ((2 : Nat) : Int) = 2 from rfl, h2] at this; exact this
  have bd2 : 0 ≤ b2 ∧ b2 < 256 := by have := hbs.rd 2; rw [show ((2 : Nat) : Int) = 2 from rfl, h2] at this; exact this
  obtain ⟨bd2a, bd2b⟩ := bd2
  have hn2l : 2 < l.length := by omega
  have hca2 : (w.alloc (.cells #[.int .u8 lo, .int .u8 hi] 159)).cell? ⟨B, o + 2, none⟩ = some (.int .u8 b2) := pw_cell_below (below_alloc (Below.refl _ _) _) hc2
  have HU := Lib.hid hu
  have q1 : decide (b1 < lo) = false := decide_eq_false (by omega)
  have q2 : decide (hi < b1) = false := decide_eq_false (by omega)
  have q3 : decide ((sz : Int) ≤ 2) = false := decide_eq_false (by omega)
  have q4 : decide (sz ≤ 2) = false := decide_eq_false (by omega)
  have q5 : decide (b2 < 128) = true := decide_eq_true hq2
  clear hr h0 hu hbs h1 h2
  have hl1 : ¬ (l.length : Int) < 1 := by omega
  have hn1 : decide ((l.length : Int) < (sz : Int)) = false := decide_eq_false (by omega)
  have hn2 : decide (l.length < sz) = false := decide_eq_false (by omega)
  go_enter Tryz.func81, Tryz.ntmps81
  go_wp2_with (fail)
  go_returns
  exact rune_bad HU.out (by repeat (first | exact Below.refl _ _ | apply below_alloc)) _ rfl
set_option maxRecDepth 100000 in
theorem f81d2 (B o c : Nat) (l : List Int) (b0 x sz i : Nat) (lo hi b1 b2 b3 : Int) (w : World) (hc : Cls w b0 x sz i lo hi) (hr : RB w B o l) (hl : 0 < l.length) (hl2 : l.length ≤ 4000000000) (hbs : Bs l) (h0 : rd l 0 = (b0 : Int)) (hn : sz ≤ l.length) (h1 : rd l 1 = b1) (hq1 : lo ≤ b1) (hq : b1 ≤ hi) (hs2 : 3 ≤ sz) (h2 : rd l 2 = b2) (hq2 : 191 < b2) (hu : ulen l = 0) :
    Calls Tryz.prog 81 #[.slice (some ⟨B, o, none⟩) l.length c] w (RunePost l w) := by
  have hc0 : w.cell? ⟨B, o, none⟩ = some (.int .u8 (b0 : Int)) := by have := hr 0 hl; rw [show ((0 : Nat) : Int) = 0 from rfl, h0] at this; exact this
  have hBne : B ≠ w.heap.size := Nat.ne_of_lt (World.block_lt_of_cell? w ⟨B, o, none⟩ hc0)
  obtain ⟨hb, cx, cl, ch, hx, hs, hi', hsz, hsz4, hi5⟩ := hc
  have hc1 : w.cell? ⟨B, o + 1, none⟩ = some (.int .u8 b1) := by have := hr 1 (by omega); rw [show ((1 : Nat) : Int) = 1 from rfl, h1] at this; exact this
  have bd1 : 0 ≤ b1 ∧ b1 < 256 := by have := hbs.rd 1; rw [show ((1 : Nat) : Int) = 1 from rfl, h1] at this; exact this
  obtain ⟨bd1a, bd1b⟩ := bd1
  have hn1l : 1 < l.length := by omega
  have hca1 : (w.alloc (.cells #[.int .u8 lo, .int .u8 hi] 159)).cell? ⟨B, o + 1, none⟩ = some (.int .u8 b1) := pw_cell_below (below_alloc (Below.refl _ _) _) hc1
  have hc2 : w.cell? ⟨B, o + 2, none⟩ = some (.int .u8 b2) := by have := hr 2 (by omega); rw [show ((2 : Nat) : Int) = 2 from rfl, h2] at this; exact this
  have bd2 : 0 ≤ b2 ∧ b2 < 256 := by have := hbs.rd 2; rw [show ((2 : Nat) : Int) = 2 from rfl, h2] at this; exact this
  obtain ⟨bd2a, bd2b⟩ := bd2
  have hn2l : 2 < l.length := by omega
  have hca2 : (w.alloc (.cells #[.int .u8 lo, .int .u8 hi] 159)).cell? ⟨B, o + 2, none⟩ = some (.int .u8 b2) := pw_cell_below (below_alloc (Below.refl _ _) _) hc2
  have HU := Lib.hid hu
  have q1 : decide (b1 < lo) = false := decide_eq_false (by omega)
  have q2 : decide (hi < b1) = false := decide_eq_false (by omega)
  have q3 : decide ((sz : Int) ≤ 2) = false := decide_eq_false (by omega)
  have q4 : decide (sz ≤ 2) = false := decide_eq_false (by omega)
  have q5 : decide (b2 < 128) = false := decide_eq_false (by omega)
  have q6 : decide (191 < b2) = true := decide_eq_true hq2
  clear hr h0 hu hbs h1 h2
  have hl1 : ¬ (l.length : Int) < 1 := by omega
  have hn1 : decide ((l.length : Int) < (sz : Int)) = false := decide_eq_false (by omega)
  have hn2 : decide (l.length < sz) = false := decide_eq_false (by omega)
  go_enter Tryz.func81, Tryz.ntmps81
  go_wp2_with (fail)
  go_returns
  exact rune_bad HU.out (by repeat (first | exact Below.refl _ _ | apply below_alloc)) _ rfl
set_option maxRecDepth 100000 in
theorem f81e (B o c : Nat) (l : List Int) (b0 x sz i : Nat) (lo hi b1 b2 b3 : Int) (w : World) (hc : Cls w b0 x sz i lo hi) (hr : RB w B o l) (hl : 0 < l.length) (hl2 : l.length ≤ 4000000000) (hbs : Bs l) (h0 : rd l 0 = (b0 : Int)) (hn : sz ≤ l.length) (h1 : rd l 1 = b1) (hq1 : lo ≤ b1) (hq : b1 ≤ hi) (hs2 : sz = 3) (h2 : rd l 2 = b2) (hq2 : 128 ≤ b2) (hq3 : b2 ≤ 191) (hu : ulen l = 3) :
    Calls Tryz.prog 81 #[.slice (some ⟨B, o, none⟩) l.length c] w (RunePost l w) := by
  have hc0 : w.cell? ⟨B, o, none⟩ = some (.int .u8 (b0 : Int)) := by have := hr 0 hl; rw [show ((0 : Nat) : Int) = 0 from rfl, h0] at this; exact this
  have hBne : B ≠ w.heap.size := Nat.ne_of_lt (World.block_lt_of_cell? w ⟨B, o, none⟩ hc0)
  obtain ⟨hb, cx, cl, ch, hx, hs, hi', hsz, hsz4, hi5⟩ := hc
  have hc1 : w.cell? ⟨B, o + 1, none⟩ = some (.int .u8 b1) := by have := hr 1 (by omega); rw [show ((1 : Nat) : Int) = 1 from rfl, h1] at this; exact this
  have bd1 : 0 ≤ b1 ∧ b1 < 256 := by have := hbs.rd 1; rw [show ((1 : Nat) : Int) = 1 from rfl, h1] at this; exact this
  obtain ⟨bd1a, bd1b⟩ := bd1
  have hn1l : 1 < l.length := by omega
  have hca1 : (w.alloc (.cells #[.int .u8 lo, .int .u8 hi] 159)).cell? ⟨B, o + 1, none⟩ = some (.int .u8 b1) := pw_cell_below (below_alloc (Below.refl _ _) _) hc1
  have hc2 : w.cell? ⟨B, o + 2, none⟩ = some (.int .u8 b2) := by have := hr 2 (by omega); rw [show ((2 : Nat) : Int) = 2 from rfl, h2] at this; exact this
  have bd2 : 0 ≤ b2 ∧ b2 < 256 := by have := hbs.rd 2; rw [show ((2 : Nat) : Int) = 2 from rfl, h2] at this; exact this
  obtain ⟨bd2a, bd2b⟩ := bd2
  have hn2l : 2 < l.length := by omega
  have hca2 : (w.alloc (.cells #[.int .u8 lo, .int .u8 hi] 159)).cell? ⟨B, o + 2, none⟩ = some (.int .u8 b2) := pw_cell_below (below_alloc (Below.refl _ _) _) hc2
  have HU := Lib.hid hu
  have q1 : decide (b1 < lo) = false := decide_eq_false (by omega)
  have q2 : decide (hi < b1) = false := decide_eq_false (by omega)
  have q3 : decide ((sz : Int) ≤ 2) = false := decide_eq_false (by omega)
  have q4 : decide (sz ≤ 2) = false := decide_eq_false (by omega)
  have q5 : decide (b2 < 128) = false := decide_eq_false (by omega)
  have q6 : decide (191 < b2) = false := decide_eq_false (by omega)
  have q7 : decide ((sz : Int) ≤ 3) = true := decide_eq_true (by omega)
  have q8 : decide (sz ≤ 3) = true := decide_eq_true (by omega)
  clear hr h0 hu hbs h1 h2
  have hl1 : ¬ (l.length : Int) < 1 := by omega
  have hn1 : decide ((l.length : Int) < (sz : Int)) = false := decide_eq_false (by omega)
  have hn2 : decide (l.length < sz) = false := decide_eq_false (by omega)
  go_enter Tryz.func81, Tryz.ntmps81
  go_wp2_with (fail)
  go_returns
  exact rune_ok 3 HU.out (by decide) (by repeat (first | exact Below.refl _ _ | apply below_alloc)) _
set_option maxRecDepth 100000 in
theorem f81f1 (B o c : Nat) (l : List Int) (b0 x sz i : Nat) (lo hi b1 b2 b3 : Int) (w : World) (hc : Cls w b0 x sz i lo hi) (hr : RB w B o l) (hl : 0 < l.length) (hl2 : l.length ≤ 4000000000) (hbs : Bs l) (h0 : rd l 0 = (b0 : Int)) (hn : sz ≤ l.length) (h1 : rd l 1 = b1) (hq1 : lo ≤ b1) (hq : b1 ≤ hi) (hs2 : sz = 4) (h2 : rd l 2 = b2) (hq2 : 128 ≤ b2) (hq3 : b2 ≤ 191) (h3 : rd l 3 = b3) (hq4 : b3 < 128) (hu : ulen l = 0) :
    Calls Tryz.prog 81 #[.slice (some ⟨B, o, none⟩) l.length c] w (RunePost l w) := by
  have hc0 : w.cell? ⟨B, o, none⟩ = some (.int .u8 (b0 : Int)) := by have := hr 0 hl; rw [show ((0 : Nat) : Int) = 0 from rfl, h0] at this; exact this
  have hBne : B ≠ w.heap.size := Nat.ne_of_lt (World.block_lt_of_cell? w ⟨B, o, none⟩ hc0)
  obtain ⟨hb, cx, cl, ch, hx, hs, hi', hsz, hsz4, hi5⟩ := hc
  have hc1 : w.cell? ⟨B, o + 1, none⟩ = some (.int .u8 b1) := by have := hr 1 (by omega); rw [show ((1 : Nat) : Int) = 1 from rfl, h1] at this; exact this
  have bd1 : 0 ≤ b1 ∧ b1 < 256 := by have := hbs.rd 1; rw [show ((1 : Nat) : Int) = 1 from rfl, h1] at this; exact this
  obtain ⟨bd1a, bd1b⟩ := bd1
  have hn1l : 1 < l.length := by omega
  have hca1 : (w.alloc (.cells #[.int .u8 lo, .int .u8 hi] 159)).cell? ⟨B, o + 1, none⟩ = some (.int .u8 b1) := pw_cell_below (below_alloc (Below.refl _ _) _) hc1
  have hc2 : w.cell? ⟨B, o + 2, none⟩ = some (.int .u8 b2) := by have := hr 2 (by omega); rw [show ((2 : Nat) : Int) = 2 from rfl, h2] at this; exact this
  have bd2 : 0 ≤ b2 ∧ b2 < 256 := by have := hbs.rd 2; rw [show ((2 : Nat) : Int) = 2 from rfl, h2] at this; exact this
  obtain ⟨bd2a, bd2b⟩ := bd2
  have hn2l : 2 < l.length := by omega
  have hca2 : (w.alloc (.cells #[.int .u8 lo, .int .u8 hi] 159)).cell? ⟨B, o + 2, none⟩ = some (.int .u8 b2) := pw_cell_below (below_alloc (Below.refl _ _) _) hc2
  have hc3 : w.cell? ⟨B, o + 3, none⟩ = some (.int .u8 b3) := by have := hr 3 (by omega); rw [show ((3 : Nat) : Int) = 3 from rfl, h3] at this; exact this
  have bd3 : 0 ≤ b3 ∧ b3 < 256 := by have := hbs.rd 3; rw [show ((3 : Nat) : Int) = 3 from rfl, h3] at this; exact this
  obtain ⟨bd3a, bd3b⟩ := bd3
  have hn3l : 3 < l.length := by omega
  have hca3 : (w.alloc (.cells #[.int .u8 lo, .int .u8 hi] 159)).cell? ⟨B, o + 3, none⟩ = some (.int .u8 b3) := pw_cell_below (below_alloc (Below.refl _ _) _) hc3
  have HU := Lib.hid hu
  have q1 : decide (b1 < lo) = false := decide_eq_false (by omega)
  have q2 : decide (hi < b1) = false := decide_eq_false (by omega)
  have q3 : decide ((sz : Int) ≤ 2) = false := decide_eq_false (by omega)
  have q4 : decide (sz ≤ 2) = false := decide_eq_false (by omega)
  have q5 : decide (b2 < 128) = false := decide_eq_false (by omega)
  have q6 : decide (191 < b2) = false := decide_eq_false (by omega)
  have q7 : decide ((sz : Int) ≤ 3) = false := decide_eq_false (by omega)
  have q8 : decide (sz ≤ 3) = false := decide_eq_false (by omega)
  have q9 : decide (b3 < 128) = true := decide_eq_true hq4
  clear hr h0 hu hbs h1 h2 h3
  have hl1 : ¬ (l.length : Int) < 1 := by omega
  have hn1 : decide ((l.length : Int) < (sz : Int)) = false := decide_eq_false (by omega)
  have hn2 : decide (l.length < sz) = false := decide_eq_false (by omega)
  go_enter Tryz.func81, Tryz.ntmps81
  go_wp2_with (fail)
  go_returns
  exact rune_bad HU.out (by repeat (first | exact Below.refl _ _ | apply below_alloc)) _ rfl
set_option maxRecDepth 100000 in
theorem f81f2 (B o c : Nat) (l : List Int) (b0 x sz i : Nat) (lo hi b1 b2 b3 : Int) (w : World) (hc : Cls w b0 x sz i lo hi) (hr : RB w B o l) (hl : 0 < l.length) (hl2 : l.length ≤ 4000000000) (hbs : Bs l) (h0 : rd l 0 = (b0 : Int)) (hn : sz ≤ l.length) (h1 : rd l 1 = b1) (hq1 : lo ≤ b1) (hq : b1 ≤ hi) (hs2 : sz = 4) (h2 : rd l 2 = b2) (hq2 : 128 ≤ b2) (hq3 : b2 ≤ 191) (h3 : rd l 3 = b3) (hq4 : 191 < b3) (hu : ulen l = 0) :
    Calls Tryz.prog 81 #[.slice (some ⟨B, o, none⟩) l.length c] w (RunePost l w) := by
  have hc0 : w.cell? ⟨B, o, none⟩ = some (.int .u8 (b0 : Int)) := by have := hr 0 hl; rw [show ((0 : Nat) : Int) = 0 from rfl, h0] at this; exact this
  have hBne : B ≠ w.heap.size := Nat.ne_of_lt (World.block_lt_of_cell? w ⟨B, o, none⟩ hc0)
  obtain ⟨hb, cx, cl, ch, hx, hs, hi', hsz, hsz4, hi5⟩ := hc
  have hc1 : w.cell? ⟨B, o + 1, none⟩ = some (.int .u8 b1) := by have := hr 1 (by omega); rw [show ((1 : Nat) : Int) = 1 from rfl, h1] at this; exact this
  have bd1 : 0 ≤ b1 ∧ b1 < 256 := by have := hbs.rd 1; rw [show ((1 : Nat) : Int) = 1 from rfl, h1] at this; exact this
  obtain ⟨bd1a, bd1b⟩ := bd1
  have hn1l : 1 < l.length := by omega
  have hca1 : (w.alloc (.cells #[.int .u8 lo, .int .u8 hi] 159)).cell? ⟨B, o + 1, none⟩ = some (.int .u8 b1) := pw_cell_below (below_alloc (Below.refl _ _) _) hc1
  have hc2 : w.cell? ⟨B, o + 2, none⟩ = some (.int .u8 b2) := by have := hr 2 (by omega); rw [show ((2 : Nat) : Int) = 2 from rfl, h2] at this; exact this
  have bd2 : 0 ≤ b2 ∧ b2 < 256 := by have := hbs.rd 2; rw [show ((2 : Nat) : Int) = 2 from rfl, h2] at this; exact this
  obtain ⟨bd2a, bd2b⟩ := bd2
  have hn2l : 2 < l.length := by omega
  have hca2 : (w.alloc (.cells #[.int .u8 lo, .int .u8 hi] 159)).cell? ⟨B, o + 2, none⟩ = some (.int .u8 b2) := pw_cell_below (below_alloc (Below.refl _ _) _) hc2
  have hc3 : w.cell? ⟨B, o + 3, none⟩ = some (.int .u8 b3) := by have := hr 3 (by omega); rw [show ((3 : Nat) : Int) = 3 from rfl, h3] at this; exact this
  have bd3 : 0 ≤ b3 ∧ b3 < 256 := by have := hbs.rd 3; rw [show ((3 : Nat) : Int) = 3 from rfl, h3] at this; exact this
  obtain ⟨bd3a, bd3b⟩ := bd3
  have hn3l : 3 < l.length := by omega
  have hca3 : (w.alloc (.cells #[.int .u8 lo, .int .u8 hi] 159)).cell? ⟨B, o + 3, none⟩ = some (.int .u8 b3) := pw_cell_below (below_alloc (Below.refl _ _) _) hc3
  have HU := Lib.hid hu
  have q1 : decide (b1 < lo) = false := decide_eq_false (by omega)
  have q2 : decide (hi < b1) = false := decide_eq_false (by omega)
  have q3 : decide ((sz : Int) ≤ 2) = false := decide_eq_false (by omega)
  have q4 : decide (sz ≤ 2) = false := decide_eq_false (by omega)
  have q5 : decide (b2 < 128) = false := decide_eq_false (by omega)
  have q6 : decide (191 < b2) = false := decide_eq_false (by omega)
  have q7 : decide ((sz : Int) ≤ 3) = false := decide_eq_false (by omega)
  have q8 : decide (sz ≤ 3) = false := decide_eq_false (by omega)
  have q9 : decide (b3 < 128) = false := decide_eq_false (by omega)
  have q10 : decide (191 < b3) = true := decide_eq_true hq4
  clear hr h0 hu hbs h1 h2 h3
  have hl1 : ¬ (l.length : Int) < 1 := by omega
  have hn1 : decide ((l.length : Int) < (sz : Int)) = false := decide_eq_false (by omega)
  have hn2 : decide (l.length < sz) = false := decide_eq_false (by omega)
  go_enter Tryz.func81, Tryz.ntmps81
  go_wp2_with (fail)
  go_returns
  exact rune_bad HU.out (by repeat (first | exact Below.refl _ _ | apply below_alloc)) _ rfl
set_option maxRecDepth 100000 in
theorem f81g (B o c : Nat) (l : List Int) (b0 x sz i : Nat) (lo hi b1 b2 b3 : Int) (w : World) (hc : Cls w b0 x sz i lo hi) (hr : RB w B o l) (hl : 0 < l.length) (hl2 : l.length ≤ 4000000000) (hbs : Bs l) (h0 : rd l 0 = (b0 : Int)) (hn : sz ≤ l.length) (h1 : rd l 1 = b1) (hq1 : lo ≤ b1) (hq : b1 ≤ hi) (hs2 : sz = 4) (h2 : rd l 2 = b2) (hq2 : 128 ≤ b2) (hq3 : b2 ≤ 191) (h3 : rd l 3 = b3) (hq4 : 128 ≤ b3) (hq5 : b3 ≤ 191) (hu : ulen l = 4) :
    Calls Tryz.prog 81 #[.slice (some ⟨B, o, none⟩) l.length c] w (RunePost l w) := by
  have hc0 : w.cell? ⟨B, o, none⟩ = some (.int .u8 (b0 : Int)) := by have := hr 0 hl; rw [show ((0 : Nat) : Int) = 0 from rfl, h0] at this; exact this
  have hBne : B ≠ w.heap.size := Nat.ne_of_lt (World.block_lt_of_cell? w ⟨B, o, none⟩ hc0)
  obtain ⟨hb, cx, cl, ch, hx, hs, hi', hsz, hsz4, hi5⟩ := hc
  have hc1 : w.cell? ⟨B, o + 1, none⟩ = some (.int .u8 b1) := by have := hr 1 (by omega); rw [show ((1 : Nat) : Int) = 1 from rfl, h1] at this; exact this
  have bd1 : 0 ≤ b1 ∧ b1 < 256 := by have := hbs.rd 1; rw [show ((1 : Nat) : Int) = 1 from rfl, h1] at this; exact this
  obtain ⟨bd1a, bd1b⟩ := bd1
  have hn1l : 1 < l.length := by omega
  have hca1 : (w.alloc (.cells #[.int .u8 lo, .int .u8 hi] 159)).cell? ⟨B, o + 1, none⟩ = some (.int .u8 b1) := pw_cell_below (below_alloc (Below.refl _ _) _) hc1
  have hc2 : w.cell? ⟨B, o + 2, none⟩ = some (.int .u8 b2) := by have := hr 2 (by omega); rw [show ((2 : Nat) : Int) = 2 from rfl, h2] at this; exact this
  have bd2 : 0 ≤ b2 ∧ b2 < 256 := by have := hbs.rd 2; rw [show ((2 : Nat) : Int) = 2 from rfl, h2] at this; exact this
  obtain ⟨bd2a, bd2b⟩ := bd2
  have hn2l : 2 < l.length := by omega
  have hca2 : (w.alloc (.cells #[.int .u8 lo, .int .u8 hi] 159)).cell? ⟨B, o + 2, none⟩ = some (.int .u8 b2) := pw_cell_below (below_alloc (Below.refl _ _) _) hc2
  have hc3 : w.cell? ⟨B, o + 3, none⟩ = some (.int .u8 b3) := by have := hr 3 (by omega); rw [show ((3 : Nat) : Int) = 3 from rfl, h3] at this; exact this
  have bd3 : 0 ≤ b3 ∧ b3 < 256 := by have := hbs.rd 3; rw [show ((3 : Nat) : Int) = 3 from rfl, h3] at this; exact this
  obtain ⟨bd3a, bd3b⟩ := bd3
  have hn3l : 3 < l.length := by omega
  have hca3 : (w.alloc (.cells #[.int .u8 lo, .int .u8 hi] 159)).cell? ⟨B, o + 3, none⟩ = some (.int .u8 b3) := pw_cell_below (below_alloc (Below.refl _ _) _) hc3
  have HU := Lib.hid hu
  have q1 : decide (b1 < lo) = false := decide_eq_false (by omega)
  have q2 : decide (hi < b1) = false := decide_eq_false (by omega)
  have q3 : decide ((sz : Int) ≤ 2) = false := decide_eq_false (by omega)
  have q4 : decide (sz ≤ 2) = false := decide_eq_false (by omega)
  have q5 : decide (b2 < 128) = false := decide_eq_false (by omega)
  have q6 : decide (191 < b2) = false := decide_eq_false (by omega)
  have q7 : decide ((sz : Int) ≤ 3) = false := decide_eq_false (by omega)
  have q8 : decide (sz ≤ 3) = false := decide_eq_false (by omega)
  have q9 : decide (b3 < 128) = false := decide_eq_false (by omega)
  have q10 : decide (191 < b3) = false := decide_eq_false (by omega)
  clear hr h0 hu hbs h1 h2 h3
  have hl1 : ¬ (l.length : Int) < 1 := by omega
  have hn1 : decide ((l.length : Int) < (sz : Int)) = false := decide_eq_false (by omega)
  have hn2 : decide (l.length < sz) = false := decide_eq_false (by omega)
  go_enter Tryz.func81, Tryz.ntmps81
  go_wp2_with (fail)
  go_returns
  exact rune_ok 4 HU.out (by decide) (by repeat (first | exact Below.refl _ _ | apply below_alloc)) _
end Go.Proofs.YtjfbkgkpjkickaaGreatDoor.PAll
-- YtjfbkgkpjkickaaGreatDoorBe
set_option linter.unusedVariables false
set_option linter.unusedSimpArgs false
namespace Go.Proofs.YtjfbkgkpjkickaaGreatDoor.PAll
open Go.RowKit Go.Proofs.YtjfbkgkpjkickaaGreatDoorW.PrintWords Go.Proofs.YtjfbkgkpjkickaaGreatDoorW.PrintLast Go.Proofs.YtjfbkgkpjkickaaGreatDoorW.PrintMore

theorem cls_of {w : World} {G : GV} (hE : Env w G) (b0 : Nat) (h1 : 194 ≤ b0) (h2 : b0 ≤ 244) : ∃ x sz i, Cls w b0 x sz i (rlo b0) (rhi b0) ∧ sz = if b0 ≤ 223 then 2 else if b0 ≤ 239 then 3 else 4 := by
  have mk : ∀ (x sz i : Nat) (lo hi : Int), firstK b0 = x → decide (240 ≤ (x : Int)) = false → Go.bits .and .u8 (x : Int) 7 = (sz : Int) → (x : Int) / 16 = (i : Int) → 2 ≤ sz → sz ≤ 4 → i < 5 →
      w.cell? ⟨4, 2 * i, none⟩ = some (.int .u8 lo) → w.cell? ⟨4, 2 * i + 1, none⟩ = some (.int .u8 hi) → lo = rlo b0 → hi = rhi b0 → sz = (if b0 ≤ 223 then 2 else if b0 ≤ 239 then 3 else 4) → ∃ x sz i, Cls w b0 x sz i (rlo b0) (rhi b0) ∧ sz = if b0 ≤ 223 then 2 else if b0 ≤ 239 then 3 else 4 := by
    intro x sz i lo hi e1 e2 e3 e4 e5 e6 e7 e8 e9 e10 e11 e12
    refine ⟨x, sz, i, ⟨by omega, ?_, ?_, ?_, e2, e3, e4, e5, e6, e7⟩, e12⟩
    · rw [← e1]; exact hE.first b0 (by omega)
    · rw [Nat.mul_comm, ← e10]; exact e8
    · rw [Nat.mul_comm, ← e11]; exact e9
  by_cases c1 : b0 ≤ 223
  · exact mk 2 2 0 128 191 (by unfold firstK; rw [if_neg (by omega), if_neg (by omega), if_pos (by omega)]) (by decide) (by decide +kernel) (by decide) (by decide) (by decide) (by decide) (hE.acc 0 (by decide)).1 (hE.acc 0 (by decide)).2 (by unfold rlo; rw [if_neg (by omega), if_neg (by omega)]) (by unfold rhi; rw [if_neg (by omega), if_neg (by omega)]) (by rw [if_pos c1])
  · by_cases c2 : b0 = 224
    · subst c2
      exact mk 19 3 1 160 191 rfl (by decide) (by decide +kernel) (by decide) (by decide) (by decide) (by decide) (hE.acc 1 (by decide)).1 (hE.acc 1 (by decide)).2 rfl rfl rfl
    · by_cases c3 : b0 = 237
      · subst c3
        exact mk 35 3 2 128 159 rfl (by decide) (by decide +kernel) (by decide) (by decide) (by decide) (by decide) (hE.acc 2 (by decide)).1 (hE.acc 2 (by decide)).2 rfl rfl rfl
      · by_cases c4 : b0 ≤ 239
        · exact mk 3 3 0 128 191 (by unfold firstK; rw [if_neg (by omega), if_neg (by omega), if_neg (by omega), if_neg (by omega), if_neg (by omega), if_pos (by omega)]) (by decide) (by decide +kernel) (by decide) (by decide) (by decide) (by decide) (hE.acc 0 (by decide)).1 (hE.acc 0 (by decide)).2 (by unfold rlo; rw [if_neg (by omega), if_neg (by omega)]) (by unfold rhi; rw [if_neg (by omega), if_neg (by omega)]) (by rw [if_neg c1, if_pos c4])
        · by_cases c5 : b0 = 240
          · subst c5
            exact mk 52 4 3 144 191 rfl (by decide) (by decide +kernel) (by decide) (by decide) (by decide) (by decide) (hE.acc 3 (by decide)).1 (hE.acc 3 (by decide)).2 rfl rfl rfl
          · by_cases c6 : b0 = 244
            · subst c6
              exact mk 68 4 4 128 143 rfl (by decide) (by decide +kernel) (by decide) (by decide) (by decide) (by decide) (hE.acc 4 (by decide)).1 (hE.acc 4 (by decide)).2 rfl rfl rfl
            · exact mk 4 4 0 128 191 (by unfold firstK; rw [if_neg (by omega), if_neg (by omega), if_neg (by omega), if_neg (by omega), if_neg (by omega), if_neg (by omega), if_neg (by omega), if_pos (by omega)]) (by decide) (by decide +kernel) (by decide) (by decide) (by decide) (by decide) (hE.acc 0 (by decide)).1 (hE.acc 0 (by decide)).2 (by unfold rlo; rw [if_neg (by omega), if_neg (by omega)]) (by unfold rhi; rw [if_neg (by omega), if_neg (by omega)]) (by rw [if_neg c1, if_neg c4])
/-- a byte that begins no character of more than one byte -/
theorem firstK_bad (b0 : Nat) (h : 128 ≤ b0) (h2 : b0 < 256) (h3 : b0 < 194 ∨ 244 < b0) : firstK b0 = 241 := by
  have : ∀ b0 : Nat, b0 < 256 → 128 ≤ b0 → (b0 < 194 ∨ 244 < b0) → firstK b0 = 241 := by decide +kernel
  exact this b0 h2 h h3
theorem f81 (B o c : Nat) (l : List Int) (w : World) (G : GV) (hE : Env w G) (hr : RB w B o l) (hl : 0 < l.length) (hl2 : l.length ≤ 4000000000) (hbs : Bs l) (h128 : 128 ≤ rd l 0) :
    Calls Tryz.prog 81 #[.slice (some ⟨B, o, none⟩) l.length c] w (RunePost l w) := by
  have hb := hbs.rd 0
  rw [show ((0 : Nat) : Int) = 0 from rfl] at hb
  obtain ⟨b0, h0⟩ : ∃ b0 : Nat, rd l 0 = (b0 : Int) := ⟨(rd l 0).toNat, by omega⟩
  by_cases hc : b0 < 194 ∨ 244 < b0
  · exact f81x B o c l b0 w G hE hr hl hl2 h0 (by omega) (firstK_bad b0 (by omega) (by omega) hc) (by unfold ulen; rw [h0, if_neg (by omega), if_neg (by omega), if_neg (by omega)])
  · obtain ⟨x, sz, i, hcl, hsz⟩ := cls_of hE b0 (by omega) (by omega)
    obtain ⟨b1, h1⟩ : ∃ b1, rd l 1 = b1 := ⟨_, rfl⟩
    obtain ⟨b2, h2⟩ : ∃ b2, rd l 2 = b2 := ⟨_, rfl⟩
    obtain ⟨b3, h3⟩ : ∃ b3, rd l 3 = b3 := ⟨_, rfl⟩
    obtain ⟨lo, hlo⟩ : ∃ lo, lo = rlo b0 := ⟨_, rfl⟩
    obtain ⟨hi, hhi⟩ : ∃ hi, hi = rhi b0 := ⟨_, rfl⟩
    have two : b0 ≤ 223 → lo = 128 ∧ hi = 191 := by
      intro h
      rw [hlo, hhi]
      unfold rlo rhi
      rw [if_neg (by omega), if_neg (by omega), if_neg (by omega), if_neg (by omega)]
      exact ⟨rfl, rfl⟩
    have hu : ulen l = if b0 ≤ 223 then (if 2 ≤ l.length ∧ (lo ≤ b1 ∧ b1 ≤ hi) then 2 else 0) else if b0 ≤ 239 then (if 3 ≤ l.length ∧ (lo ≤ b1 ∧ b1 ≤ hi) ∧ (128 ≤ b2 ∧ b2 ≤ 191) then 3 else 0) else (if 4 ≤ l.length ∧ (lo ≤ b1 ∧ b1 ≤ hi) ∧ (128 ≤ b2 ∧ b2 ≤ 191) ∧ (128 ≤ b3 ∧ b3 ≤ 191) then 4 else 0) := by
      unfold ulen cont
      rw [h0, h1, h2, h3, ← hlo, ← hhi]
      by_cases c1 : b0 ≤ 223
      · rw [if_pos (by omega), if_pos c1, (two c1).1, (two c1).2]
      · rw [if_neg (by omega), if_neg c1]
        by_cases c2 : b0 ≤ 239
        · rw [if_pos (by omega), if_pos c2]
        · rw [if_neg (by omega), if_pos (by omega), if_neg c2]
    rw [← hlo, ← hhi] at hcl
    by_cases hn : l.length < sz
    · exact f81a B o c l b0 x sz i lo hi w hcl hr hl hl2 h0 hn (by
        rw [hu]
        split at hsz
        · rw [if_pos (by assumption), if_neg (by omega)]
        · rw [if_neg (by assumption)]
          split at hsz
          · rw [if_pos (by assumption), if_neg (by omega)]
          · rw [if_neg (by assumption), if_neg (by omega)])
    · have bad : (¬ (lo ≤ b1 ∧ b1 ≤ hi) ∨ (3 ≤ sz ∧ ¬ (128 ≤ b2 ∧ b2 ≤ 191)) ∨ (4 ≤ sz ∧ ¬ (128 ≤ b3 ∧ b3 ≤ 191))) → ulen l = 0 := by
        intro h
        rw [hu]
        by_cases c1 : b0 ≤ 223
        · rw [if_pos c1] at hsz ⊢
          rw [if_neg (by omega)]
        · rw [if_neg c1] at hsz ⊢
          by_cases c2 : b0 ≤ 239
          · rw [if_pos c2] at hsz ⊢
            rw [if_neg (by omega)]
          · rw [if_neg c2] at hsz ⊢
            rw [if_neg (by omega)]
      have good : (lo ≤ b1 ∧ b1 ≤ hi) → (3 ≤ sz → 128 ≤ b2 ∧ b2 ≤ 191) → (4 ≤ sz → 128 ≤ b3 ∧ b3 ≤ 191) → ulen l = sz := by
        intro g1 g2 g3
        rw [hu]
        by_cases c1 : b0 ≤ 223
        · rw [if_pos c1] at hsz ⊢
          rw [if_pos ⟨by omega, g1⟩, hsz]
        · rw [if_neg c1] at hsz ⊢
          by_cases c2 : b0 ≤ 239
          · rw [if_pos c2] at hsz ⊢
            rw [if_pos ⟨by omega, g1, g2 (by omega)⟩, hsz]
          · rw [if_neg c2] at hsz ⊢
            rw [if_pos ⟨by omega, g1, g2 (by omega), g3 (by omega)⟩, hsz]
      have sz2 := hcl.hsz
      have sz4 := hcl.hsz4
      by_cases q1 : b1 < lo
      · exact f81b1 B o c l b0 x sz i lo hi b1 b2 b3 w hcl hr hl hl2 hbs h0 (by omega) h1 q1 (bad (.inl (by omega)))
      · by_cases q2 : hi < b1
        · exact f81b2 B o c l b0 x sz i lo hi b1 b2 b3 w hcl hr hl hl2 hbs h0 (by omega) h1 (by omega) q2 (bad (.inl (by omega)))
        · by_cases s2 : sz = 2
          · exact f81c B o c l b0 x sz i lo hi b1 b2 b3 w hcl hr hl hl2 hbs h0 (by omega) h1 (by omega) (by omega) s2 (by rw [good ⟨by omega, by omega⟩ (by omega) (by omega), s2])
          · by_cases q3 : b2 < 128
            · exact f81d1 B o c l b0 x sz i lo hi b1 b2 b3 w hcl hr hl hl2 hbs h0 (by omega) h1 (by omega) (by omega) (by omega) h2 q3 (bad (.inr (.inl ⟨by omega, by omega⟩)))
            · by_cases q4 : 191 < b2
              · exact f81d2 B o c l b0 x sz i lo hi b1 b2 b3 w hcl hr hl hl2 hbs h0 (by omega) h1 (by omega) (by omega) (by omega) h2 q4 (bad (.inr (.inl ⟨by omega, by omega⟩)))
              · by_cases s3 : sz = 3
                · exact f81e B o c l b0 x sz i lo hi b1 b2 b3 w hcl hr hl hl2 hbs h0 (by omega) h1 (by omega) (by omega) s3 h2 (by omega) (by omega) (by rw [good ⟨by omega, by omega⟩ (fun _ => ⟨by omega, by omega⟩) (by omega), s3])
                · by_cases q5 : b3 < 128
                  · exact f81f1 B o c l b0 x sz i lo hi b1 b2 b3 w hcl hr hl hl2 hbs h0 (by omega) h1 (by omega) (by omega) (by omega) h2 (by omega) (by omega) h3 q5 (bad (.inr (.inr ⟨by omega, by omega⟩)))
                  · by_cases q6 : 191 < b3
                    · exact f81f2 B o c l b0 x sz i lo hi b1 b2 b3 w hcl hr hl hl2 hbs h0 (by omega) h1 (by omega) (by omega) (by omega) h2 (by omega) (by omega) h3 q6 (bad (.inr (.inr ⟨by omega, by omega⟩)))
                    · exact f81g B o c l b0 x sz i lo hi b1 b2 b3 w hcl hr hl hl2 hbs h0 (by omega) h1 (by omega) (by omega) (by omega) h2 (by omega) (by omega) h3 (by omega) (by omega) (by rw [good ⟨by omega, by omega⟩ (fun _ => ⟨by omega, by omega⟩) (fun _ => ⟨by omega, by omega⟩)]; omega)
end Go.Proofs.YtjfbkgkpjkickaaGreatDoor.PAll
-- YtjfbkgkpjkickaaGreatDoorBf
set_option linter.unusedVariables false
set_option linter.unusedSimpArgs false
namespace Go.Proofs.YtjfbkgkpjkickaaGreatDoor.PAll
open Go.RowKit Go.Proofs.YtjfbkgkpjkickaaGreatDoorW.PrintWords Go.Proofs.YtjfbkgkpjkickaaGreatDoorW.PrintLast Go.Proofs.YtjfbkgkpjkickaaGreatDoorW.PrintMore

theorem take_conv (n B o c : Nat) (l : List Int) (w : World) (hr : RB w B o l) (hn : n ≤ l.length) : (convert 22 9 (.slice (some ⟨B, o, none⟩) n c)).run Tryz.prog w = .ok (.string (strOfNums (l.take n))) w :=
  run_convert_bytes_arg w 22 5 Tryz.underlying22 Tryz.underlying5 B o n c (l.take n) (by rw [List.length_take]; omega) (fun i hi => by
    rw [hr i (by omega), rd_getD, List.getD_eq_getElem?_getD, List.getD_eq_getElem?_getD, List.getElem?_take_of_lt hi]) 9 Tryz.underlying9
theorem str_toList (l : List Int) : (strOfNums l).toList = l.map fun x => UInt8.ofNat x.toNat := by
  rw [ByteArray.toList_eq]; simp [strOfNums]
theorem map_inj : ∀ (l m : List Int), Bs l → Bs m → (l.map fun x => UInt8.ofNat x.toNat) = (m.map fun x => UInt8.ofNat x.toNat) → l = m
  | [], [], _, _, _ => rfl
  | [], _ :: _, _, _, h => by simp at h
  | _ :: _, [], _, _, h => by simp at h
  | a :: l, b :: m, hl, hm, h => by
    simp only [List.map_cons, List.cons.injEq] at h
    have ha := hl a (by simp)
    have hb := hm b (by simp)
    have h1 := congrArg UInt8.toNat h.1
    rw [UInt8.toNat_ofNat', UInt8.toNat_ofNat'] at h1
    rw [map_inj l m (fun x hx => hl x (List.mem_cons_of_mem _ hx)) (fun x hx => hm x (List.mem_cons_of_mem _ hx)) h.2]
    congr 1
    omega
theorem Bs.take {l : List Int} (h : Bs l) (n : Nat) : Bs (l.take n) := fun b hb => h b (List.mem_of_mem_take hb)
/-- does a row of bytes begin with some? -/
def pre (lit l : List Int) : Prop := l.take lit.length = lit
instance (lit l : List Int) : Decidable (pre lit l) := by unfold pre; infer_instance
set_option maxRecDepth 100000 in
theorem f112y (B o c : Nat) (l : List Int) (w : World) (hr : RB w B o l) (hb : Bs l) (hl : l.length ≤ 4000000000) (hc : l.length ≤ c) (hp : pre [110, 117, 108, 108] l) :
    Calls Tryz.prog 112 #[.slice (some ⟨B, o, none⟩) l.length c] w fun e w' => e = .returned (.int .i64 (4 : Int)) ∧ w = w' := by
  have hn : 4 ≤ l.length := by
    have := congrArg List.length hp
    rw [List.length_take] at this
    simp at this
    omega
  have h1 : decide (4 ≤ l.length) = true := decide_eq_true hn
  have h2 : decide ((4 : Int) ≤ (l.length : Int)) = true := decide_eq_true (by omega)
  have hcv := take_conv 4 B o c l w hr hn
  have q1 : ((strOfNums (l.take 4)).toList == ([110, 117, 108, 108] : List UInt8)) = true := by
    rw [show l.take 4 = [110, 117, 108, 108] from hp, str_toList]; rfl
  have hcn : 4 ≤ c := by omega
  clear hr hp hb
  go_enter Tryz.func112, Tryz.ntmps112
  go_wp2_with (fail)
  go_ret
  exact ⟨rfl, rfl⟩
set_option maxRecDepth 100000 in
theorem f112n (B o c : Nat) (l : List Int) (w : World) (hr : RB w B o l) (hb : Bs l) (hl : l.length ≤ 4000000000) (hc : l.length ≤ c) (hp : ¬ pre [110, 117, 108, 108] l) :
    Calls Tryz.prog 112 #[.slice (some ⟨B, o, none⟩) l.length c] w fun e w' => e = .returned (.int .i64 0) ∧ w = w' := by
  by_cases hn : 4 ≤ l.length
  · have h1 : decide (4 ≤ l.length) = true := decide_eq_true hn
    have h2 : decide ((4 : Int) ≤ (l.length : Int)) = true := decide_eq_true (by omega)
    have hcv := take_conv 4 B o c l w hr hn
    have q1 : ((strOfNums (l.take 4)).toList == ([110, 117, 108, 108] : List UInt8)) = false := by
      rw [beq_eq_false_iff_ne, str_toList]
      exact fun h => hp (map_inj _ _ (hb.take _) (by unfold Bs; decide) h)
    have hcn : 4 ≤ c := by omega
    clear hr hp hb
    go_enter Tryz.func112, Tryz.ntmps112
    go_wp2_with (fail)
    go_ret
    exact ⟨rfl, rfl⟩
  · have h1 : decide (4 ≤ l.length) = false := decide_eq_false hn
    have h2 : decide ((4 : Int) ≤ (l.length : Int)) = false := decide_eq_false (by omega)
    clear hr hp hb
    go_enter Tryz.func112, Tryz.ntmps112
    go_wp2_with (fail)
    go_ret
    exact ⟨rfl, rfl⟩
set_option maxRecDepth 100000 in
theorem f115y (B o c : Nat) (l : List Int) (w : World) (hr : RB w B o l) (hb : Bs l) (hl : l.length ≤ 4000000000) (hc : l.length ≤ c) (hp : pre [102, 97, 108, 115, 101] l) :
    Calls Tryz.prog 115 #[.slice (some ⟨B, o, none⟩) l.length c] w fun e w' => e = .returned (.int .i64 (5 : Int)) ∧ w = w' := by
  have hn : 5 ≤ l.length := by
    have := congrArg List.length hp
    rw [List.length_take] at this
    simp at this
    omega
  have h1 : decide (5 ≤ l.length) = true := decide_eq_true hn
  have h2 : decide ((5 : Int) ≤ (l.length : Int)) = true := decide_eq_true (by omega)
  have hcv := take_conv 5 B o c l w hr hn
  have q1 : ((strOfNums (l.take 5)).toList == ([102, 97, 108, 115, 101] : List UInt8)) = true := by
    rw [show l.take 5 = [102, 97, 108, 115, 101] from hp, str_toList]; rfl
  have hcn : 5 ≤ c := by omega
  clear hr hp hb
  go_enter Tryz.func115, Tryz.ntmps115
  go_wp2_with (fail)
  go_ret
  exact ⟨rfl, rfl⟩
set_option maxRecDepth 100000 in
theorem f115n (B o c : Nat) (l : List Int) (w : World) (hr : RB w B o l) (hb : Bs l) (hl : l.length ≤ 4000000000) (hc : l.length ≤ c) (hp : ¬ pre [102, 97, 108, 115, 101] l) :
    Calls Tryz.prog 115 #[.slice (some ⟨B, o, none⟩) l.length c] w fun e w' => e = .returned (.int .i64 0) ∧ w = w' := by
  by_cases hn : 5 ≤ l.length
  · have h1 : decide (5 ≤ l.length) = true := decide_eq_true hn
    have h2 : decide ((5 : Int) ≤ (l.length : Int)) = true := decide_eq_true (by omega)
    have hcv := take_conv 5 B o c l w hr hn
    have q1 : ((strOfNums (l.take 5)).toList == ([102, 97, 108, 115, 101] : List UInt8)) = false := by
      rw [beq_eq_false_iff_ne, str_toList]
      exact fun h => hp (map_inj _ _ (hb.take _) (by unfold Bs; decide) h)
    have hcn : 5 ≤ c := by omega
    clear hr hp hb
    go_enter Tryz.func115, Tryz.ntmps115
    go_wp2_with (fail)
    go_ret
    exact ⟨rfl, rfl⟩
  · have h1 : decide (5 ≤ l.length) = false := decide_eq_false hn
    have h2 : decide ((5 : Int) ≤ (l.length : Int)) = false := decide_eq_false (by omega)
    clear hr hp hb
    go_enter Tryz.func115, Tryz.ntmps115
    go_wp2_with (fail)
    go_ret
    exact ⟨rfl, rfl⟩
set_option maxRecDepth 100000 in
theorem f117y (B o c : Nat) (l : List Int) (w : World) (hr : RB w B o l) (hb : Bs l) (hl : l.length ≤ 4000000000) (hc : l.length ≤ c) (hp : pre [116, 114, 117, 101] l) :
    Calls Tryz.prog 117 #[.slice (some ⟨B, o, none⟩) l.length c] w fun e w' => e = .returned (.int .i64 (4 : Int)) ∧ w = w' := by
  have hn : 4 ≤ l.length := by
    have := congrArg List.length hp
    rw [List.length_take] at this
    simp at this
    omega
  have h1 : decide (4 ≤ l.length) = true := decide_eq_true hn
  have h2 : decide ((4 : Int) ≤ (l.length : Int)) = true := decide_eq_true (by omega)
  have hcv := take_conv 4 B o c l w hr hn
  have q1 : ((strOfNums (l.take 4)).toList == ([116, 114, 117, 101] : List UInt8)) = true := by
    rw [show l.take 4 = [116, 114, 117, 101] from hp, str_toList]; rfl
  have hcn : 4 ≤ c := by omega
  clear hr hp hb
  go_enter Tryz.func117, Tryz.ntmps117
  go_wp2_with (fail)
  go_ret
  exact ⟨rfl, rfl⟩
set_option maxRecDepth 100000 in
theorem f117n (B o c : Nat) (l : List Int) (w : World) (hr : RB w B o l) (hb : Bs l) (hl : l.length ≤ 4000000000) (hc : l.length ≤ c) (hp : ¬ pre [116, 114, 117, 101] l) :
    Calls Tryz.prog 117 #[.slice (some ⟨B, o, none⟩) l.length c] w fun e w' => e = .returned (.int .i64 0) ∧ w = w' := by
  by_cases hn : 4 ≤ l.length
  · have h1 : decide (4 ≤ l.length) = true := decide_eq_true hn
    have h2 : decide ((4 : Int) ≤ (l.length : Int)) = true := decide_eq_true (by omega)
    have hcv := take_conv 4 B o c l w hr hn
    have q1 : ((strOfNums (l.take 4)).toList == ([116, 114, 117, 101] : List UInt8)) = false := by
      rw [beq_eq_false_iff_ne, str_toList]
      exact fun h => hp (map_inj _ _ (hb.take _) (by unfold Bs; decide) h)
    have hcn : 4 ≤ c := by omega
    clear hr hp hb
    go_enter Tryz.func117, Tryz.ntmps117
    go_wp2_with (fail)
    go_ret
    exact ⟨rfl, rfl⟩
  · have h1 : decide (4 ≤ l.length) = false := decide_eq_false hn
    have h2 : decide ((4 : Int) ≤ (l.length : Int)) = false := decide_eq_false (by omega)
    clear hr hp hb
    go_enter Tryz.func117, Tryz.ntmps117
    go_wp2_with (fail)
    go_ret
    exact ⟨rfl, rfl⟩
end Go.Proofs.YtjfbkgkpjkickaaGreatDoor.PAll
-- YtjfbkgkpjkickaaGreatDoorBg
set_option linter.unusedVariables false
set_option linter.unusedSimpArgs false
namespace Go.Proofs.YtjfbkgkpjkickaaGreatDoor.PAll
open Go.RowKit Go.Proofs.YtjfbkgkpjkickaaGreatDoorW.PrintWords Go.Proofs.YtjfbkgkpjkickaaGreatDoorW.PrintLast Go.Proofs.YtjfbkgkpjkickaaGreatDoorW.PrintMore

theorem ulen_le (l : List Int) : ulen l ≤ l.length := by
  unfold ulen
  split
  · split <;> omega
  · split
    · split <;> omega
    · split
      · split <;> omega
      · omega
set_option maxRecDepth 100000 in
theorem f62a (B o c : Nat) (l : List Int) (b0 : Int) (w : World) (hr : RB w B o l) (hl : 0 < l.length) (hl2 : l.length ≤ 4000000000) (h0 : rd l 0 = b0) (hb0 : 0 ≤ b0) (h128 : b0 < 128) :
    Calls Tryz.prog 62 #[.slice (some ⟨B, o, none⟩) l.length c] w fun e w' => e = .returned (.tuple #[.int .i32 b0, .int .i64 1]) ∧ w = w' := by
  have hc0 : w.cell? ⟨B, o, none⟩ = some (.int .u8 b0) := by have := hr 0 hl; rw [show ((0 : Nat) : Int) = 0 from rfl, h0] at this; exact this
  have d1 : decide ((0 : Int) < (l.length : Int)) = true := decide_eq_true (by omega)
  have d2 : decide (0 < l.length) = true := decide_eq_true hl
  have d3 : decide (b0 < 128) = true := decide_eq_true h128
  clear hr h0
  go_enter Tryz.func62, Tryz.ntmps62
  go_wp2_with (fail)
  go_loopg [5, 8] 1 (fun kq v5 v8 w' => v8 = .int .i64 0 ∧ w = w')
  case atStart => exact ⟨rfl, rfl⟩
  case round =>
    obtain ⟨rfl, rfl⟩ := hrel
    go_wp2_with (fail)
    go_returns
    exact ⟨rfl, rfl⟩
set_option maxRecDepth 100000 in
theorem f62b (B o c : Nat) (l : List Int) (w : World) (G : GV) (hE : Env w G) (hr : RB w B o l) (hl : 0 < l.length) (hl2 : l.length ≤ 4000000000) (hbs : Bs l) (h128 : 128 ≤ rd l 0) :
    Calls Tryz.prog 62 #[.slice (some ⟨B, o, none⟩) l.length c] w (RunePost l w) := by
  obtain ⟨b0, h0⟩ : ∃ b0, rd l 0 = b0 := ⟨_, rfl⟩
  have hc0 : w.cell? ⟨B, o, none⟩ = some (.int .u8 b0) := by have := hr 0 hl; rw [show ((0 : Nat) : Int) = 0 from rfl, h0] at this; exact this
  have d1 : decide ((0 : Int) < (l.length : Int)) = true := decide_eq_true (by omega)
  have d2 : decide (0 < l.length) = true := decide_eq_true hl
  have d3 : decide (b0 < 128) = false := decide_eq_false (by omega)
  have bd : 0 ≤ b0 ∧ b0 < 256 := by have := hbs.rd 0; rw [show ((0 : Nat) : Int) = 0 from rfl, h0] at this; exact this
  obtain ⟨bda, bdb⟩ := bd
  have C81 := Lib.hid (f81 B o c l w G hE hr hl hl2 hbs h128)
  clear hr h0 hE hbs h128
  go_enter Tryz.func62, Tryz.ntmps62
  go_wp2_with (fail)
  go_loopg [5, 8] 1 (fun kq v5 v8 w' => v8 = .int .i64 0 ∧ w = w')
  case atStart => exact ⟨rfl, rfl⟩
  case round =>
    obtain ⟨rfl, rfl⟩ := hrel
    go_wp2_with (fail)
    refine C81.out.mono ?_
    rintro e w1 ⟨r, rfl, hr1, hb⟩
    have HR := Lib.hid hr1
    have HB := Lib.hid hb
    clear hr1 hb
    generalize hn : ((if ulen l = 0 then 1 else ulen l : Nat) : Int) = n
    have HN := Lib.hid hn
    clear hn
    go_wp2_with (fail)
    go_returns
    exact ⟨r, by rw [HN.out]; rfl, HR.out, HB.out⟩
/-- an error with a text -/
def ErrPost (w : World) (e : Ending) (w' : World) : Prop := ∃ g : Nat, e = .returned (.iface 153 (.pointer (some ⟨g, 0, none⟩))) ∧ Below w.heap.size w w'
/-- how many bytes are told, and no more is known -/
theorem f62 (B o c : Nat) (l : List Int) (w : World) (G : GV) (hE : Env w G) (hr : RB w B o l) (hl : 0 < l.length) (hl2 : l.length ≤ 4000000000) (hbs : Bs l) :
    Calls Tryz.prog 62 #[.slice (some ⟨B, o, none⟩) l.length c] w fun e w' => ∃ (r : Int) (n : Nat), (e = .returned (.tuple #[.int .i32 r, .int .i64 (n : Int)])) ∧ n ≤ l.length ∧ Below w.heap.size w w' := by
  have bd := hbs.rd 0
  rw [show ((0 : Nat) : Int) = 0 from rfl] at bd
  by_cases h : rd l 0 < 128
  · exact (f62a B o c l _ w hr hl hl2 rfl bd.1 h).mono fun e w' ⟨h1, h2⟩ => ⟨_, 1, h1, hl, by rw [← h2]; exact Below.refl _ _⟩
  · refine (f62b B o c l w G hE hr hl hl2 hbs (by omega)).mono fun e w' ⟨r, h1, _, h2⟩ => ⟨r, _, h1, ?_, h2⟩
    have := ulen_le l
    split <;> omega
set_option maxRecDepth 100000 in
theorem f60 (B o c : Nat) (l : List Int) (s : ByteArray) (w : World) (G : GV) (hE : Env w G) (hr : RB w B o l) (hl : 0 < l.length) (hl2 : l.length ≤ 4000000000) (hbs : Bs l) (hc : l.length ≤ c) (hc2 : c ≤ 9223372036854775807) :
    Calls Tryz.prog 60 #[.slice (some ⟨B, o, none⟩) l.length c, .string s] w (ErrPost w) := by
  have C62 := Lib.hid (f62 B o c l w G hE hr hl hl2 hbs)
  have HV := Lib.hid (fun (w1 : World) (n : Nat) (hb : Below w.heap.size w w1) (hn : n ≤ l.length) => take_conv n B o c l w1 (hr.mono hb) hn)
  clear hr hbs hE
  go_enter Tryz.func60, Tryz.ntmps60
  go_wp2_with (fail)
  refine C62.out.mono ?_
  rintro e w1 ⟨r, n, rfl, hn, hb⟩
  have hcv := HV.out w1 n hb hn
  have HB := Lib.hid hb
  have hnc : n ≤ c := by omega
  clear hb
  generalize strOfNums (l.take n) = str at *
  go_wp2_with (fail)
  go_returns
  exact ⟨_, rfl, by repeat (first | exact HB.out | apply below_alloc)⟩
end Go.Proofs.YtjfbkgkpjkickaaGreatDoor.PAll
