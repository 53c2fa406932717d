/- The tokens: the token of a truth value: its kind, its text, its value. -/
import Derived.Test.YtokkjljncoiajaaDoorTe
namespace Go.Proofs.YtokkjljncoiajaaDoor
open Go.RowKit
set_option maxHeartbeats 3200000 in
set_option maxRecDepth 100000 in
theorem w14f (w : World) (hk : w.cell? ⟨0, 102, none⟩ = some (.int .u8 102)) (h0 : 1 ≤ w.heap.size) : Calls Tryd.prog 14 #[.bool false] w fun e w' => e = .returned (.tuple #[.int .i64 102, .string ⟨#[102, 97, 108, 115, 101]⟩, .bool false]) ∧ Below w.heap.size w w' := by
  have C := w22f
  have HC := Lib.hid C
  have HK := Lib.hid hk
  have H0 := Lib.hid h0
  clear C hk h0
  go_enter Tryd.func14, Tryd.ntmps14
  go_wp2_with (fail)
  refine (HC.out _).mono ?_
  rintro e w' ⟨g, b, cap, rfl, g1, g2, h1, h2⟩
  have H1 := Lib.hid h1
  have H2 := Lib.hid h2
  clear h1 h2 g1 g2
  unfold tok
  go_wp2_with (fail)
  obtain ⟨W, hW⟩ : ∃ x, x = w'.alloc (.cells #[.pointer (some ⟨g, 0, none⟩), .string ⟨#[]⟩, .int .u64 0] 40) := ⟨_, rfl⟩
  rw [← hW]
  have A : RawAt W g b cap _ := hW ▸ H1.out.alloc (by decide) _
  have BW : Below w.heap.size w W := H2.out.trans (by rw [hW]; exact (Below.refl _ _).alloc H2.out.size _)
  have hs : W.heap[w'.heap.size]? = some (.cells #[.pointer (some ⟨g, 0, none⟩), .string ⟨#[]⟩, .int .u64 0] 40 (0, 0)) := by rw [hW]; exact heap_alloc_new w' _
  have kW : ∀ W', Below W.heap.size W W' → W'.cell? ⟨0, 102, none⟩ = some (.int .u8 102) := fun W' hb => by
    have q := HK.out
    have e1 : W'.heap[0]? = w.heap[0]? := by
      rw [hb.block 0 (Nat.lt_of_lt_of_le (show 0 < w.heap.size from H0.out) BW.size), BW.block 0 H0.out]
    simp only [World.cell?, e1] at q ⊢
    exact q
  have aW : ∀ W', Below W.heap.size W W' → RawAt W' g b cap _ := fun W' hb => A.move (hb.block g A.lt) (hb.block b (A.ltb (by decide)))
  have C16 : ∀ W', Below W.heap.size W W' → Calls Tryd.prog 16 #[.agg #[.pointer (some ⟨g, 0, none⟩), .string ⟨#[]⟩, .int .u64 0]] W' fun e w'' => e = .returned (.int .u8 102) ∧ (w''.cell? ⟨w'.heap.size, 0, none⟩ = some (.pointer (some ⟨g, 0, none⟩)) ∧ w''.cell? ⟨w'.heap.size, 1, none⟩ = some (.string ⟨#[]⟩) ∧ w''.cell? ⟨w'.heap.size, 2, none⟩ = some (.int .u64 0)) ∧ Hid (Below W.heap.size W w'') := fun W' hb =>
    (w16 g b cap _ 102 102 W' (aW W' hb) (by decide) (by decide) (kW W' hb) (Nat.le_trans (Nat.le_trans H0.out BW.size) hb.size)).mono fun e w'' ⟨q1, q2⟩ => ⟨q1, keep_slot hs (hb.trans (q2.mono hb.size)), Lib.hid (hb.trans (q2.mono hb.size))⟩
  have C17 : ∀ W', Below W.heap.size W W' → Calls Tryd.prog 17 #[.agg #[.pointer (some ⟨g, 0, none⟩), .string ⟨#[]⟩, .int .u64 0]] W' fun e w'' => e = .returned (.string ⟨#[102, 97, 108, 115, 101]⟩) ∧ (w''.cell? ⟨w'.heap.size, 0, none⟩ = some (.pointer (some ⟨g, 0, none⟩)) ∧ w''.cell? ⟨w'.heap.size, 1, none⟩ = some (.string ⟨#[]⟩) ∧ w''.cell? ⟨w'.heap.size, 2, none⟩ = some (.int .u64 0)) ∧ Hid (Below W.heap.size W w'') := fun W' hb =>
    (w17 g b cap _ 102 W' (aW W' hb) (by decide) (by decide) (by decide) (by decide)).mono fun e w'' ⟨q1, q2⟩ => ⟨q1, keep_slot hs (hb.trans (q2.mono hb.size)), Lib.hid (hb.trans (q2.mono hb.size))⟩
  have C23 : ∀ W', Below W.heap.size W W' → Calls Tryd.prog 23 #[.agg #[.pointer (some ⟨g, 0, none⟩), .string ⟨#[]⟩, .int .u64 0]] W' fun e w'' => e = .returned (.bool false) ∧ (w''.cell? ⟨w'.heap.size, 0, none⟩ = some (.pointer (some ⟨g, 0, none⟩)) ∧ w''.cell? ⟨w'.heap.size, 1, none⟩ = some (.string ⟨#[]⟩) ∧ w''.cell? ⟨w'.heap.size, 2, none⟩ = some (.int .u64 0)) ∧ Hid (Below W.heap.size W w'') := fun W' hb =>
    (w23f g b cap W' (aW W' hb)).mono fun e w'' ⟨q1, q2⟩ => ⟨q1, keep_slot hs (hb.trans (q2.mono hb.size)), Lib.hid (hb.trans (q2.mono hb.size))⟩
  obtain ⟨c0, c1, c2⟩ := keep_slot hs (Below.refl _ W)
  have HB := Lib.hid (Below.refl W.heap.size W)
  have HBW := Lib.hid BW
  have HC16 := Lib.hid C16
  have HC17 := Lib.hid C17
  have HC23 := Lib.hid C23
  clear C16 C17 C23 kW aW BW A hs hW
  go_region_with (first
    | (go_at_call 16; refine (HC16.out _ ?hbb).mono ?_; (case hbb => first | exact Hid.out ‹_› | exact Below.drew (Hid.out ‹_›) | exact bdn (Hid.out ‹_›) _); rintro e w1 ⟨rfl, ⟨x0, x1, x2⟩, xb⟩)
    | (go_at_call 17; refine (HC17.out _ ?hbb).mono ?_; (case hbb => first | exact Hid.out ‹_› | exact Below.drew (Hid.out ‹_›) | exact bdn (Hid.out ‹_›) _); rintro e w2 ⟨rfl, ⟨y0, y1, y2⟩, yb⟩)
    | (go_at_call 23; refine (HC23.out _ ?hbb).mono ?_; (case hbb => first | exact Hid.out ‹_› | exact Below.drew (Hid.out ‹_›) | exact bdn (Hid.out ‹_›) _); rintro e w3 ⟨rfl, ⟨z0, z1, z2⟩, zb⟩))
  all_goals (go_wp2_with (fail))
  all_goals (go_returns)
  all_goals (refine ⟨rfl, HBW.out.trans (Below.mono ?_ HBW.out.size)⟩)
  all_goals (first | exact Hid.out ‹_› | exact Below.drew (Hid.out ‹_›) | exact bdn (Hid.out ‹_›) _)
end Go.Proofs.YtokkjljncoiajaaDoor
