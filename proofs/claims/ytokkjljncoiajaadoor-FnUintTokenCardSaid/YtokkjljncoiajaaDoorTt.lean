/- The tokens: the token of a number without a sign. -/
import Derived.Test.YtokkjljncoiajaaDoorTs
import Derived.Test.YtokkjljncoiajaaDoorTe
set_option linter.unusedVariables false
set_option linter.unusedSimpArgs false
namespace Go.Proofs.YtokkjljncoiajaaDoor
open Go.RowKit

/-- a call that lays new rows alone: the slot stays -/
theorem keep_slotU {W W' : World} {p num : Nat} (hs : W.heap[p]? = some (.cells #[.pointer none, .string ⟨#[117]⟩, .int .u64 num] 40 (0, 0))) (hb : Below W.heap.size W W') :
    W'.cell? ⟨p, 0, none⟩ = some (.pointer none) ∧ W'.cell? ⟨p, 1, none⟩ = some (.string ⟨#[117]⟩) ∧ W'.cell? ⟨p, 2, none⟩ = some (.int .u64 num) := by
  have h : W'.heap[p]? = some (.cells #[.pointer none, .string ⟨#[117]⟩, .int .u64 num] 40 (0, 0)) := by rw [hb.block p (Array.getElem?_eq_some_iff.1 hs).1]; exact hs
  exact ⟨by simp [World.cell?, h], by simp [World.cell?, h], by simp [World.cell?, h]⟩
set_option maxHeartbeats 3200000 in
set_option maxRecDepth 100000 in
theorem w12u (num : Nat) (w : World) (h1 : num < 18446744073709551616) (hnum : 1 ≤ num)
    (htab : ∀ W, Below w.heap.size w W → Lib.TabIs Tryd.prog W "internal/strconv.uint64pow10" .u64 Lib.pow10Tab) :
    Calls Tryd.prog 12 #[.int .u64 num] w fun e w' => e = .returned (.tuple #[.int .i64 48, .string ⟨(Lib.decDigits num).toArray⟩]) ∧ Below w.heap.size w w' := by
  have HC := Lib.hid (fun w => w21u num w hnum)
  have HT := Lib.hid htab
  have K := Lib.hid (And.intro h1 hnum)
  clear h1 hnum htab
  go_enter Tryd.func12, Tryd.ntmps12
  go_wp2_with (fail)
  refine (HC.out _).mono ?_
  rintro e w' ⟨rfl, h2⟩
  have H2 := Lib.hid h2
  clear h2
  go_wp2_with (fail)
  obtain ⟨W, hW⟩ : ∃ x, x = w'.alloc (.cells #[.pointer none, .string ⟨#[117]⟩, .int .u64 num] 40) := ⟨_, rfl⟩
  rw [← hW]
  have BW : Below w.heap.size w W := H2.out.trans (by rw [hW]; exact (Below.refl _ _).alloc H2.out.size _)
  have hs : W.heap[w'.heap.size]? = some (.cells #[.pointer none, .string ⟨#[117]⟩, .int .u64 num] 40 (0, 0)) := by rw [hW]; exact heap_alloc_new w' _
  have C16 : ∀ W', Below W.heap.size W W' → Calls Tryd.prog 16 #[.agg #[.pointer none, .string ⟨#[117]⟩, .int .u64 num]] W' fun e w'' => e = .returned (.int .u8 48) ∧ (w''.cell? ⟨w'.heap.size, 0, none⟩ = some (.pointer none) ∧ w''.cell? ⟨w'.heap.size, 1, none⟩ = some (.string ⟨#[117]⟩) ∧ w''.cell? ⟨w'.heap.size, 2, none⟩ = some (.int .u64 num)) ∧ Hid (Below W.heap.size W w'') := fun W' hb =>
    (w16u num W' K.out.2).mono fun e w'' ⟨q1, q2⟩ => ⟨q1, keep_slotU hs (hb.trans (q2.mono hb.size)), Lib.hid (hb.trans (q2.mono hb.size))⟩
  have C17 : ∀ W', Below W.heap.size W W' → Calls Tryd.prog 17 #[.agg #[.pointer none, .string ⟨#[117]⟩, .int .u64 num]] W' fun e w'' => e = .returned (.string ⟨(Lib.decDigits num).toArray⟩) ∧ (w''.cell? ⟨w'.heap.size, 0, none⟩ = some (.pointer none) ∧ w''.cell? ⟨w'.heap.size, 1, none⟩ = some (.string ⟨#[117]⟩) ∧ w''.cell? ⟨w'.heap.size, 2, none⟩ = some (.int .u64 num)) ∧ Hid (Below W.heap.size W w'') := fun W' hb =>
    (w17u num W' K.out.1 K.out.2 (fun V hV => HT.out V (BW.trans ((hb.trans (hV.mono hb.size)).mono BW.size)))).mono fun e w'' ⟨q1, q2⟩ => ⟨q1, keep_slotU hs (hb.trans (q2.mono hb.size)), Lib.hid (hb.trans (q2.mono hb.size))⟩
  obtain ⟨c0, c1, c2⟩ := keep_slotU hs (Below.refl _ W)
  have HB := Lib.hid (Below.refl W.heap.size W)
  have HBW := Lib.hid BW
  have HC16 := Lib.hid C16
  have HC17 := Lib.hid C17
  clear C16 C17 BW hs hW
  go_region_with (first
    | (go_at_call 16; refine (HC16.out _ ?hbb).mono ?_; (case hbb => first | exact Hid.out ‹_› | exact Below.drew (Hid.out ‹_›) | exact bdn (Hid.out ‹_›) _); rintro e w1 ⟨rfl, ⟨x0, x1, x2⟩, xb⟩)
    | (go_at_call 17; refine (HC17.out _ ?hbb).mono ?_; (case hbb => first | exact Hid.out ‹_› | exact Below.drew (Hid.out ‹_›) | exact bdn (Hid.out ‹_›) _); rintro e w2 ⟨rfl, ⟨y0, y1, y2⟩, yb⟩))
  all_goals (go_wp2_with (fail))
  all_goals (go_returns)
  all_goals (refine ⟨rfl, HBW.out.trans (Below.mono ?_ HBW.out.size)⟩)
  all_goals (first | exact Hid.out ‹_› | exact Below.drew (Hid.out ‹_›) | exact bdn (Hid.out ‹_›) _)
end Go.Proofs.YtokkjljncoiajaaDoor
