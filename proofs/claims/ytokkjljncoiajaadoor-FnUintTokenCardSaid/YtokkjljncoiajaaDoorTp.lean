/- FnIntToken: the law's walk. -/
import Derived.Test.YtokkjljncoiajaaDoorTn
import Derived.Test.YtokkjljncoiajaaDoorTo
set_option linter.unusedVariables false
set_option linter.unusedSimpArgs false
namespace Go.Proofs.YtokkjljncoiajaaDoor
open Go.RowKit
/-- IntToken: its digits -/
theorem w7 (n : Int) (w : World) (h0 : -9223372036854775808 ≤ n) (h1 : n ≤ 9223372036854775807) (hk : w.cell? ⟨0, 48, none⟩ = some (.int .u8 48)) (hp : 1 ≤ w.heap.size) (htab : ∀ W, Below w.heap.size w W → Lib.TabIs Tryd.prog W "internal/strconv.uint64pow10" .u64 Lib.pow10Tab) :
    Calls Tryd.prog 7 #[.int .i64 n] w fun e w' => e = .returned (.tuple #[.int .i64 48, .string ⟨(Lib.itoa n).toArray⟩]) ∧ Below w.heap.size w w' := by
  by_cases hn : n = 0
  · subst hn
    have e : (⟨(Lib.itoa 0).toArray⟩ : ByteArray) = ⟨#[48]⟩ := by
      unfold Lib.itoa
      rw [if_neg (by decide), show (0 : Int).toNat = 0 from rfl, Lib.decDigits, dif_pos (by decide)]
      rfl
    rw [e]
    exact w7z w hk hp
  · obtain ⟨num, hnum⟩ : ∃ num : Nat, IntKind.u64.wrap n = (num : Int) := ⟨(IntKind.u64.wrap n).toNat, by rw [IntKind.wrap_u64]; omega⟩
    have hw := hnum
    rw [IntKind.wrap_u64] at hw
    have hw2 : IntKind.i64.wrap (num : Int) = n := by rw [IntKind.wrap_i64]; omega
    exact w7i n num w h0 h1 hn hnum hw2 (by omega) htab
set_option maxRecDepth 100000 in
theorem w3I (n : Int) (w : World) (h0 : -9223372036854775808 ≤ n) (h1 : n ≤ 9223372036854775807) (hk : w.cell? ⟨0, 48, none⟩ = some (.int .u8 48)) (hp : 1 ≤ w.heap.size) (htab : ∀ W, Below w.heap.size w W → Lib.TabIs Tryd.prog W "internal/strconv.uint64pow10" .u64 Lib.pow10Tab) :
    Calls Tryd.prog 3 #[.int .i64 n] w fun e w' => e = .returned (.bool true) ∧ Below w.heap.size w w' := by
  obtain ⟨k, hs⟩ := signed_ev n h0 h1
  have HC := Lib.hid (w7 n w h0 h1 hk hp htab)
  have HS := Lib.hid (fun W => spec_Signed.calls k n _ W hs)
  generalize (⟨(Lib.itoa n).toArray⟩ : ByteArray) = s at HC HS
  clear hs h0 h1 hk hp htab
  go_enter Tryd.func3, Tryd.ntmps3
  go_wp2_with (fail)
  refine HC.out.mono ?_
  rintro e w' ⟨rfl, q⟩
  have Q := Lib.hid q
  clear q
  go_wp2_with (fail)
  refine (HS.out _).mono ?_
  rintro e w2 ⟨rfl, q2⟩
  have Q2 := Lib.hid q2
  clear q2
  go_wp2_with (fail)
  go_ret
  exact ⟨rfl, Q.out.trans (Q2.out.mono Q.out.size)⟩
theorem wf_i64 {x : Int} (h : (Lit.int .i64 x).wf = true) : -9223372036854775808 ≤ x ∧ x ≤ 9223372036854775807 := by
  simp only [Lit.wf, Bool.and_eq_true, decide_eq_true_eq] at h
  have h1 : IntKind.i64.min = -9223372036854775808 := by decide +kernel
  have h2 : IntKind.i64.max = 9223372036854775807 := by decide +kernel
  rw [h1, h2] at h
  exact h
theorem wf_u64 {x : Int} (h : (Lit.int .u64 x).wf = true) : 0 ≤ x ∧ x ≤ 18446744073709551615 := by
  simp only [Lit.wf, Bool.and_eq_true, decide_eq_true_eq] at h
  have h1 : IntKind.u64.min = 0 := by decide +kernel
  have h2 : IntKind.u64.max = 18446744073709551615 := by decide +kernel
  rw [h1, h2] at h
  exact h
end Go.Proofs.YtokkjljncoiajaaDoor
