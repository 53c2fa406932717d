/- The texts of a proof, its declarations alone: part 10. -/
import Derived.Test.YtjfbkgkpjkickaaGreatDoorVU2
import Derived.Test.YtjfbkgkpjkickaaGreatDoorVU3
import Derived.Test.YtjfbkgkpjkickaaGreatDoorVU4
import Derived.Test.YtjfbkgkpjkickaaGreatDoorVU8
import Derived.Test.YtjfbkgkpjkickaaGreatDoorVU9
import Derived.Test.YtjfbkgkpjkickaaGreatDoorVU10
import Derived.Test.YtjfbkgkpjkickaaGreatDoorVU11
import Derived.Test.YtjfbkgkpjkickaaGreatDoorVU12
import Derived.Test.YtjfbkgkpjkickaaGreatDoorVU13
import Derived.Test.YtjfbkgkpjkickaaGreatDoorVU29
import Derived.Test.YtjfbkgkpjkickaaGreatDoorVU31
import Derived.Test.YtjfbkgkpjkickaaGreatDoorVF2
set_option linter.unusedVariables false
set_option linter.unusedSimpArgs false
-- YtjfbkgkpjkickaaGreatDoorFk
set_option linter.unusedVariables false
set_option linter.unusedSimpArgs false
namespace Go.Proofs.YtjfbkgkpjkickaaGreatDoor.PAll
open Go.RowKit Go.Proofs.YtjfbkgkpjkickaaGreatDoorW.PrintWords Go.Proofs.YtjfbkgkpjkickaaGreatDoorW.PrintLast Go.Proofs.YtjfbkgkpjkickaaGreatDoorW.PrintMore

theorem rep_succ (n : Nat) (x : Int) : List.replicate (n + 1) x = List.replicate n x ++ [x] := List.replicate_succ'
set_option maxRecDepth 100000 in
set_option maxHeartbeats 8000000 in
theorem w6 (a b : Int) (w : World) (HI : ∀ (n m : Nat) (W : World) (x : ByteArray), n ≤ 400 → m ≤ 400 → Below w.heap.size w W → bytesOf x = List.replicate n 91 ++ List.replicate m 93 → Calls Tryz.prog 16 #[.string x, optsV false false] W (IsV (n = m ∧ 0 < n) W)) :
    Calls Tryz.prog 6 #[.int .i64 a, .int .i64 b] w (Law w) := by
  by_cases h0 : a < 0
  · have d0 : decide (a < 0) = true := decide_eq_true h0
    clear HI
    go_enter Tryz.func6, Tryz.ntmps6
    go_wp2_with (fail)
    go_returns
    exact ⟨rfl, Below.refl _ _⟩
  have d0 : decide (a < 0) = false := decide_eq_false h0
  by_cases h1 : 400 < a
  · have d1 : decide (400 < a) = true := decide_eq_true h1
    clear HI
    go_enter Tryz.func6, Tryz.ntmps6
    go_wp2_with (fail)
    go_returns
    exact ⟨rfl, Below.refl _ _⟩
  have d1 : decide (400 < a) = false := decide_eq_false h1
  by_cases h2 : b < 0
  · have d2 : decide (b < 0) = true := decide_eq_true h2
    clear HI
    go_enter Tryz.func6, Tryz.ntmps6
    go_wp2_with (fail)
    go_returns
    exact ⟨rfl, Below.refl _ _⟩
  have d2 : decide (b < 0) = false := decide_eq_false h2
  by_cases h3 : 400 < b
  · have d3 : decide (400 < b) = true := decide_eq_true h3
    clear HI
    go_enter Tryz.func6, Tryz.ntmps6
    go_wp2_with (fail)
    go_returns
    exact ⟨rfl, Below.refl _ _⟩
  have d3 : decide (400 < b) = false := decide_eq_false h3
  obtain ⟨n, rfl⟩ := Int.eq_ofNat_of_zero_le (show 0 ≤ a by omega)
  obtain ⟨m, rfl⟩ := Int.eq_ofNat_of_zero_le (show 0 ≤ b by omega)
  have hn : n ≤ 400 := by omega
  have hm : m ≤ 400 := by omega
  have HI := Lib.hid (HI n m w)
  clear h0 h1 h2 h3
  go_enter Tryz.func6, Tryz.ntmps6
  go_wp2_with (fail)
  go_loopg [5, 21] n (fun kq s5 s21 w' => ∃ (x : ByteArray) (j : Nat), s5 = .string x ∧ s21 = .int .i64 j ∧ j ≤ n ∧ n ≤ kq + j ∧ Hid (bytesOf x = List.replicate j 91) ∧ w = w')
  case atStart => exact ⟨_, 0, rfl, rfl, by omega, by omega, Lib.hid rfl, rfl⟩
  case round =>
    obtain ⟨x, j, rfl, rfl, hj, hk, HX, rfl⟩ := hrel
    have hsz : x.size = j := by have := congrArg List.length HX.out; rw [bytesOf_length, List.length_replicate] at this; exact this
    by_cases hlt : j < n
    · have e1 : decide ((j : Int) < (n : Int)) = true := decide_eq_true (by omega)
      have e2 : decide (j < n) = true := decide_eq_true hlt
      go_wp2_with (fail)
      go_roundg (gk - 1)
      case measure => omega
      case rel => exact ⟨_, j + 1, rfl, by first | rfl | go_num, by omega, by omega, Lib.hid (by rw [bytesOf_append, HX.out, rep_succ]; rfl), rfl⟩
    · have e1 : decide ((j : Int) < (n : Int)) = false := decide_eq_false (by omega)
      have e2 : decide (j < n) = false := decide_eq_false hlt
      have hjn : j = n := by omega
      subst hjn
      go_wp2_with (fail)
      go_loopg [5, 27] m (fun kq s5 s27 w' => ∃ (y : ByteArray) (i : Nat), s5 = .string y ∧ s27 = .int .i64 i ∧ i ≤ m ∧ m ≤ kq + i ∧ Hid (bytesOf y = List.replicate j 91 ++ List.replicate i 93) ∧ w = w')
      case atStart => exact ⟨_, 0, rfl, rfl, by omega, by omega, Lib.hid (by rw [HX.out]; simp), rfl⟩
      case round =>
        obtain ⟨y, i, rfl, rfl, hi, hk2, HY, rfl⟩ := hrel
        have hsy : y.size = j + i := by have := congrArg List.length HY.out; rw [bytesOf_length, List.length_append, List.length_replicate, List.length_replicate] at this; exact this
        by_cases hlt2 : i < m
        · have f1 : decide ((i : Int) < (m : Int)) = true := decide_eq_true (by omega)
          have f2 : decide (i < m) = true := decide_eq_true hlt2
          go_wp2_with (fail)
          go_roundg (gk - 1)
          case measure => omega
          case rel => exact ⟨_, i + 1, rfl, by first | rfl | go_num, by omega, by omega, Lib.hid (by rw [bytesOf_append, HY.out, rep_succ, List.append_assoc]; rfl), rfl⟩
        · have f1 : decide ((i : Int) < (m : Int)) = false := decide_eq_false (by omega)
          have f2 : decide (i < m) = false := decide_eq_false hlt2
          have him : i = m := by omega
          subst him
          have C16 := Lib.hid (HI.out y hn hm (Below.refl _ _) HY.out)
          unfold optsV at C16
          go_wp2_with (fail)
          refine C16.out.mono ?_
          rintro e w1 ⟨r, rfl, hr, hb⟩
          have HB := Lib.hid hb
          have HR := Lib.hid hr
          clear hb hr
          by_cases g1 : j = i
          · have u1 : ((j : Int) == (i : Int)) = true := by rw [beq_iff_eq]; omega
            by_cases g2 : 0 < j
            · have u2 : decide ((0 : Int) < (j : Int)) = true := decide_eq_true (by omega)
              have u3 : decide (0 < j) = true := decide_eq_true g2
              obtain rfl : r = true := HR.out.2 ⟨g1, g2⟩
              clear g1
              go_wp2_with (fail)
              go_returns
              exact ⟨rfl, HB.out⟩
            · have u2 : decide ((0 : Int) < (j : Int)) = false := decide_eq_false (by omega)
              have u3 : decide (0 < j) = false := decide_eq_false g2
              obtain rfl : r = false := by cases r with | false => rfl | true => exact absurd (HR.out.1 rfl).2 g2
              clear g1
              go_wp2_with (fail)
              go_returns
              exact ⟨rfl, HB.out⟩
          · have u1 : ((j : Int) == (i : Int)) = false := by rw [beq_eq_false_iff_ne]; omega
            obtain rfl : r = false := by cases r with | false => rfl | true => exact absurd (HR.out.1 rfl).1 g1
            go_wp2_with (fail)
            go_returns
            exact ⟨rfl, HB.out⟩
end Go.Proofs.YtjfbkgkpjkickaaGreatDoor.PAll
