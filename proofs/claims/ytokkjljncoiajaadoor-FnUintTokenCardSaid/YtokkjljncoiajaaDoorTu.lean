/- The tokens: the token of 0, and the law FnUintToken. -/
import Derived.Test.YtokkjljncoiajaaDoorTt
import Derived.Test.YtokkjljncoiajaaDoorTp
set_option linter.unusedVariables false
set_option linter.unusedSimpArgs false
namespace Go.Proofs.YtokkjljncoiajaaDoor
open Go.RowKit

set_option maxHeartbeats 3200000 in
set_option maxRecDepth 100000 in
theorem w12z (w : World) (hk : w.cell? ⟨0, 48, none⟩ = some (.int .u8 48)) (h0 : 1 ≤ w.heap.size) : Calls Tryd.prog 12 #[.int .u64 0] w fun e w' => e = .returned (.tuple #[.int .i64 48, .string ⟨#[48]⟩]) ∧ Below w.heap.size w w' := by
  have C := w21z
  have HC := Lib.hid C
  have HK := Lib.hid hk
  have H0 := Lib.hid h0
  clear C hk h0
  go_enter Tryd.func12, Tryd.ntmps12
  go_wp2_with (fail)
  refine (HC.out _).mono ?_
  rintro e w' ⟨g, b, cap, rfl, g1, g2, h1, h2⟩
  have H1 := Lib.hid h1
  have H2 := Lib.hid h2
  clear h1 h2 g1 g2
  unfold tok
  go_wp2_with (fail)
  obtain ⟨W, hW⟩ : ∃ x, x = w'.alloc (.cells #[.pointer (some ⟨g, 0, none⟩), .string ⟨#[]⟩, .int .u64 0] 40) := ⟨_, rfl⟩
  rw [← hW]
  have A : RawAt W g b cap _ := hW ▸ H1.out.alloc (by decide) _
  have BW : Below w.heap.size w W := H2.out.trans (by rw [hW]; exact (Below.refl _ _).alloc H2.out.size _)
  have hs : W.heap[w'.heap.size]? = some (.cells #[.pointer (some ⟨g, 0, none⟩), .string ⟨#[]⟩, .int .u64 0] 40 (0, 0)) := by rw [hW]; exact heap_alloc_new w' _
  have kW : ∀ W', Below W.heap.size W W' → W'.cell? ⟨0, 48, none⟩ = some (.int .u8 48) := fun W' hb => by
    have q := HK.out
    have e1 : W'.heap[0]? = w.heap[0]? := by
      rw [hb.block 0 (Nat.lt_of_lt_of_le (show 0 < w.heap.size from H0.out) BW.size), BW.block 0 H0.out]
    simp only [World.cell?, e1] at q ⊢
    exact q
  have aW : ∀ W', Below W.heap.size W W' → RawAt W' g b cap _ := fun W' hb => A.move (hb.block g A.lt) (hb.block b (A.ltb (by decide)))
  have C16 : ∀ W', Below W.heap.size W W' → Calls Tryd.prog 16 #[.agg #[.pointer (some ⟨g, 0, none⟩), .string ⟨#[]⟩, .int .u64 0]] W' fun e w'' => e = .returned (.int .u8 48) ∧ (w''.cell? ⟨w'.heap.size, 0, none⟩ = some (.pointer (some ⟨g, 0, none⟩)) ∧ w''.cell? ⟨w'.heap.size, 1, none⟩ = some (.string ⟨#[]⟩) ∧ w''.cell? ⟨w'.heap.size, 2, none⟩ = some (.int .u64 0)) ∧ Hid (Below W.heap.size W w'') := fun W' hb =>
    (w16 g b cap _ 48 48 W' (aW W' hb) (by decide) (by decide) (kW W' hb) (Nat.le_trans (Nat.le_trans H0.out BW.size) hb.size)).mono fun e w'' ⟨q1, q2⟩ => ⟨q1, keep_slot hs (hb.trans (q2.mono hb.size)), Lib.hid (hb.trans (q2.mono hb.size))⟩
  have C17 : ∀ W', Below W.heap.size W W' → Calls Tryd.prog 17 #[.agg #[.pointer (some ⟨g, 0, none⟩), .string ⟨#[]⟩, .int .u64 0]] W' fun e w'' => e = .returned (.string ⟨#[48]⟩) ∧ (w''.cell? ⟨w'.heap.size, 0, none⟩ = some (.pointer (some ⟨g, 0, none⟩)) ∧ w''.cell? ⟨w'.heap.size, 1, none⟩ = some (.string ⟨#[]⟩) ∧ w''.cell? ⟨w'.heap.size, 2, none⟩ = some (.int .u64 0)) ∧ Hid (Below W.heap.size W w'') := fun W' hb =>
    (w17 g b cap _ 48 W' (aW W' hb) (by decide) (by decide) (by decide) (by decide)).mono fun e w'' ⟨q1, q2⟩ => ⟨q1, keep_slot hs (hb.trans (q2.mono hb.size)), Lib.hid (hb.trans (q2.mono hb.size))⟩
  obtain ⟨c0, c1, c2⟩ := keep_slot hs (Below.refl _ W)
  have HB := Lib.hid (Below.refl W.heap.size W)
  have HBW := Lib.hid BW
  have HC16 := Lib.hid C16
  have HC17 := Lib.hid C17
  clear C16 C17 kW aW BW A hs hW
  go_region_with (first
    | (go_at_call 16; refine (HC16.out _ ?hbb).mono ?_; (case hbb => first | exact Hid.out ‹_› | exact Below.drew (Hid.out ‹_›) | exact bdn (Hid.out ‹_›) _); rintro e w1 ⟨rfl, ⟨x0, x1, x2⟩, xb⟩)
    | (go_at_call 17; refine (HC17.out _ ?hbb).mono ?_; (case hbb => first | exact Hid.out ‹_› | exact Below.drew (Hid.out ‹_›) | exact bdn (Hid.out ‹_›) _); rintro e w2 ⟨rfl, ⟨y0, y1, y2⟩, yb⟩))
  all_goals (go_wp2_with (fail))
  all_goals (go_returns)
  all_goals (refine ⟨rfl, HBW.out.trans (Below.mono ?_ HBW.out.size)⟩)
  all_goals (first | exact Hid.out ‹_› | exact Below.drew (Hid.out ‹_›) | exact bdn (Hid.out ‹_›) _)

theorem w12 (n : Nat) (w : World) (h1 : n < 18446744073709551616) (hk : w.cell? ⟨0, 48, none⟩ = some (.int .u8 48)) (hp : 1 ≤ w.heap.size) (htab : ∀ W, Below w.heap.size w W → Lib.TabIs Tryd.prog W "internal/strconv.uint64pow10" .u64 Lib.pow10Tab) :
    Calls Tryd.prog 12 #[.int .u64 n] w fun e w' => e = .returned (.tuple #[.int .i64 48, .string ⟨(Lib.decDigits n).toArray⟩]) ∧ Below w.heap.size w w' := by
  by_cases hn : n = 0
  · subst hn
    have e : (⟨(Lib.decDigits 0).toArray⟩ : ByteArray) = ⟨#[48]⟩ := by
      rw [Lib.decDigits, dif_pos (by decide)]
      rfl
    rw [e]
    exact w12z w hk hp
  · exact w12u n w h1 (by omega) htab
theorem unsigned_ev (n : Nat) (h1 : n < 18446744073709551616) : ∃ k, spec_Unsigned.f k (n : Int) = some ⟨(Lib.decDigits n).toArray⟩ := by
  obtain ⟨K, h⟩ := decimals_ev n h1
  have hk := h K (Nat.le_refl _)
  dsimp only at hk
  refine ⟨K, ?_⟩
  rw [spec_Unsigned.f, hk, Option.bind_some, dec_itoa]
set_option maxRecDepth 100000 in
theorem w5U (x : Int) (w : World) (h0 : 0 ≤ x) (h1 : x ≤ 18446744073709551615) (hk : w.cell? ⟨0, 48, none⟩ = some (.int .u8 48)) (hp : 1 ≤ w.heap.size) (htab : ∀ W, Below w.heap.size w W → Lib.TabIs Tryd.prog W "internal/strconv.uint64pow10" .u64 Lib.pow10Tab) :
    Calls Tryd.prog 5 #[.int .u64 x] w fun e w' => e = .returned (.bool true) ∧ Below w.heap.size w w' := by
  obtain ⟨n, rfl⟩ : ∃ n : Nat, x = n := ⟨x.toNat, by omega⟩
  have h2 : n < 18446744073709551616 := by omega
  obtain ⟨k, hs⟩ := unsigned_ev n h2
  have HC := Lib.hid (w12 n w h2 hk hp htab)
  have HS := Lib.hid (fun W => spec_Unsigned.calls k n _ W hs)
  generalize (⟨(Lib.decDigits n).toArray⟩ : ByteArray) = s at HC HS
  clear hs h0 h1 h2 hk hp htab
  go_enter Tryd.func5, Tryd.ntmps5
  go_wp2_with (fail)
  refine HC.out.mono ?_
  rintro e w' ⟨rfl, q⟩
  have Q := Lib.hid q
  clear q
  go_wp2_with (fail)
  refine (HS.out _).mono ?_
  rintro e w2 ⟨rfl, q2⟩
  have Q2 := Lib.hid q2
  clear q2
  go_wp2_with (fail)
  go_ret
  exact ⟨rfl, Q.out.trans (Q2.out.mono Q.out.size)⟩
end Go.Proofs.YtokkjljncoiajaaDoor
