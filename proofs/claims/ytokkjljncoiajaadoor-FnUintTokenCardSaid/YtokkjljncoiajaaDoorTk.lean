/- The tokens: numbers. -/
import Derived.Test.YtokkjljncoiajaaDoorTd
import Derived.Test.YtokkjljncoiajaaDoorSh
import Derived.Lib.AppendIntMem
set_option linter.unusedVariables false
set_option linter.unusedSimpArgs false
namespace Go.Proofs.YtokkjljncoiajaaDoor
open Go.RowKit
/-- a token that holds a number itself -/
def tokN (c num : Nat) : Value := .agg #[.pointer none, .string ⟨#[UInt8.ofNat c]⟩, .int .u64 num]
set_option maxRecDepth 100000 in
theorem w16n (num : Nat) (w : World) (hn : 1 ≤ num) : Calls Tryd.prog 16 #[.agg #[.pointer none, .string ⟨#[105]⟩, .int .u64 num]] w fun e w' => e = .returned (.int .u8 48) ∧ Below w.heap.size w w' := by
  have t1 : ((num : Int) != 0) = true := by rw [bne_iff_ne]; omega
  clear hn
  go_enter Tryd.func16, Tryd.ntmps16
  go_wp2_with (fail)
  go_returns
  exact ⟨rfl, (Below.refl w.heap.size w).alloc (Nat.le_refl _) _⟩
set_option maxRecDepth 100000 in
theorem w27i (n : Int) (num : Nat) (w : World) (h0 : -9223372036854775808 ≤ n) (h1 : n ≤ 9223372036854775807) (hn : IntKind.i64.wrap (num : Int) = n) (hnum : 1 ≤ num) (htab : ∀ W, Below w.heap.size w W → Lib.TabIs Tryd.prog W "internal/strconv.uint64pow10" .u64 Lib.pow10Tab) :
    Calls Tryd.prog 27 #[.agg #[.pointer none, .string ⟨#[105]⟩, .int .u64 num]] w fun e w' => e = .returned (.tuple #[.string ⟨(Lib.itoa n).toArray⟩, .slice none 0 0]) ∧ Below w.heap.size w w' := by
  have t1 : ((num : Int) == 0) = false := by rw [beq_eq_false_iff_ne]; omega
  have t2 : decide ((num : Int) > 0) = true := by rw [decide_eq_true_iff]; omega
  have C := fun W hb => Tryd.strconv_FormatInt_10 n h0 h1 W (htab W hb)
  have HC := Lib.hid C
  clear C htab
  go_enter Tryd.func27, Tryd.ntmps27
  go_wp2_with (fail)
  refine (HC.out _ ?hb).mono ?_
  case hb => exact (Below.refl w.heap.size w).alloc (Nat.le_refl _) _
  rintro e w' ⟨rfl, k, os, rfl⟩
  go_wp2_with (fail)
  go_returns
  refine ⟨rfl, ?_⟩
  have hb : Below w.heap.size w (w.alloc (.cells #[.pointer none, .string ⟨#[105]⟩, .int .u64 num] 40)) := (Below.refl w.heap.size w).alloc (Nat.le_refl _) _
  exact hb.trans (Lib.below_grow _ _ hb.size k os)
set_option maxRecDepth 100000 in
theorem w17i (n : Int) (num : Nat) (w : World) (h0 : -9223372036854775808 ≤ n) (h1 : n ≤ 9223372036854775807) (hn : IntKind.i64.wrap (num : Int) = n) (hnum : 1 ≤ num) (htab : ∀ W, Below w.heap.size w W → Lib.TabIs Tryd.prog W "internal/strconv.uint64pow10" .u64 Lib.pow10Tab) :
    Calls Tryd.prog 17 #[.agg #[.pointer none, .string ⟨#[105]⟩, .int .u64 num]] w fun e w' => e = .returned (.string ⟨(Lib.itoa n).toArray⟩) ∧ Below w.heap.size w w' := by
  have hb : Below w.heap.size w (w.alloc (.cells #[.pointer none, .string ⟨#[105]⟩, .int .u64 num] 40)) := (Below.refl w.heap.size w).alloc (Nat.le_refl _) _
  have C := (w27i n num (w.alloc (.cells #[.pointer none, .string ⟨#[105]⟩, .int .u64 num] 40)) h0 h1 hn hnum (fun W h => htab W (hb.trans (h.mono hb.size)))).mono fun e w' ⟨q1, q2⟩ => (⟨q1, hb.trans (q2.mono hb.size)⟩ : _ ∧ Below w.heap.size w w')
  have HC := Lib.hid C
  clear C htab hb hn hnum
  go_enter Tryd.func17, Tryd.ntmps17
  go_wp2_with (fail)
  refine HC.out.mono ?_
  rintro e w' ⟨rfl, q⟩
  have Q := Lib.hid q
  clear q
  go_wp2_with (fail)
  go_returns
  exact ⟨rfl, Q.out⟩
end Go.Proofs.YtokkjljncoiajaaDoor
