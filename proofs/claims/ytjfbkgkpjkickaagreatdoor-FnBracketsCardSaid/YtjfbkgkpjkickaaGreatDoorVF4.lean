/- The texts of a proof, its declarations alone: part 4. -/
import Derived.Test.YtjfbkgkpjkickaaGreatDoorVF3
set_option linter.unusedVariables false
set_option linter.unusedSimpArgs false
-- YtjfbkgkpjkickaaGreatDoorFe
set_option linter.unusedVariables false
set_option linter.unusedSimpArgs false
namespace Go.Proofs.YtjfbkgkpjkickaaGreatDoor.PAll
open Go.RowKit Go.Proofs.YtjfbkgkpjkickaaGreatDoorW.PrintWords Go.Proofs.YtjfbkgkpjkickaaGreatDoorW.PrintLast Go.Proofs.YtjfbkgkpjkickaaGreatDoorW.PrintMore

section
variable {D B c a b : Nat} {t : List Int} {s : DS} {loose dup : Bool} {G : GV}
set_option maxRecDepth 100000 in
set_option maxHeartbeats 8000000 in
theorem f95a (fp : Value) (p k : Nat) (dep : Int) (w : World) (hI : Inv w G D B c t s loose dup) (hb : Brk t a b) (hpa : p < a)
    (C157 : Calls Tryz.prog 157 #[.pointer (some ⟨D, 0, none⟩), fp, .int .i64 p, .int .i64 dep] w (ArrP t b p k G w)) :
    Calls Tryz.prog 95 #[.pointer (some ⟨D, 0, none⟩), fp, .int .i64 p, .int .i64 dep] w (ArrP t b p k G w) := by
  have hp : p < t.length := by have := hb.len; omega
  have hl := hI.hl
  have hc := hI.hc
  have c7 := hI.c7
  have cb : w.cell? ⟨B, p, none⟩ = some (.int .u8 91) := by have := hI.rb p hp; rw [hb.op p hpa, Nat.zero_add] at this; exact this
  have C85 := f85 91 G w hI.env (by decide)
  rw [show normK 91 = 91 from rfl] at C85
  have H85 := Lib.hid C85
  have H157 := Lib.hid C157
  clear C85 C157 hI hb
  go_enter Tryz.func95, Tryz.ntmps95
  go_wp2_with (fail)
  go_loopg [2] 1 (fun kq v2 w' => v2 = .int .i64 p ∧ w = w')
  case atStart => exact ⟨rfl, rfl⟩
  case round =>
    obtain ⟨rfl, rfl⟩ := hrel
    go_wp2_with (fail)
    refine H85.out.mono ?_
    rintro e w1 ⟨rfl, rfl⟩
    go_wp2_with (fail)
    refine H157.out.mono ?_
    rintro e w1 ⟨q, x, rfl, hq, hb1, hcase⟩
    have K1 := Lib.hid hb1
    have K2 := Lib.hid hcase
    clear hb1 hcase
    go_wp2_with (fail)
    go_returns
    exact ⟨q, x, rfl, hq, K1.out, K2.out⟩
theorem arr (fp : Value) (hb : Brk t a b) (ha : a ≤ 900) : ∀ (k p : Nat) (dep : Int) (w : World), p + (k + 1) = a → 0 ≤ dep → dep + (k : Int) ≤ 10000 → Inv w G D B c t s loose dup →
    Calls Tryz.prog 157 #[.pointer (some ⟨D, 0, none⟩), fp, .int .i64 p, .int .i64 dep] w (ArrP t b p (k + 1) G w)
  | 0, p, dep, w, hp, hd, hd2, hI => by
    have hlen := hb.len
    by_cases h0 : b = 0
    · refine (f157e fp dep hI hb (by omega) (by omega) ⟨hd, by omega⟩).mono fun e w' ⟨h1, h2⟩ => ⟨t.length, _, h1, Nat.le_refl _, h2, .inr ⟨by omega, .inl rfl⟩⟩
    · refine (f157s fp dep hI hb (by omega) (by omega) ⟨hd, by omega⟩).mono fun e w' ⟨h1, h2⟩ => ⟨p + 2, _, h1, by omega, h2, .inl ⟨by omega, by omega, rfl⟩⟩
  | k + 1, p, dep, w, hp, hd, hd2, hI =>
    f157n fp dep k hI hb hp (by omega) ⟨hd, by omega⟩ (fun W hW => f95a fp (p + 1) (k + 1) (dep + 1) W (hI.mono hW) hb (by omega) (arr fp hb ha k (p + 1) (dep + 1) W (by omega) (by omega) (by omega) (hI.mono hW)))
/-- consumeValue at brackets alone -/
theorem arr95 (fp : Value) (hb : Brk t a b) (ha : a ≤ 900) (p k : Nat) (w : World) (hp : p + (k + 1) = a) (hI : Inv w G D B c t s loose dup) :
    Calls Tryz.prog 95 #[.pointer (some ⟨D, 0, none⟩), fp, .int .i64 p, .int .i64 1] w (ArrP t b p (k + 1) G w) :=
  f95a fp p (k + 1) 1 w hI hb (by omega) (arr fp hb ha k p 1 w hp (by decide) (by omega) hI)
end
end Go.Proofs.YtjfbkgkpjkickaaGreatDoor.PAll
