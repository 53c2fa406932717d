/- The tokens: kind and text of a raw token. -/
import Derived.Test.YtokkjljncoiajaaDoorTb
namespace Go.Proofs.YtokkjljncoiajaaDoor
open Go.RowKit

theorem RawAt.move {w w' : World} {g b cap : Nat} {s : ByteArray} (h : RawAt w g b cap s) (hg : w'.heap[g]? = w.heap[g]?) (hb : w'.heap[b]? = w.heap[b]?) : RawAt w' g b cap s :=
  ⟨by rw [hg]; exact h.blk, fun j hj => by have := h.bytes j hj; simp only [World.cell?, hb] at this ⊢; exact this, h.cap1, h.cap2⟩
theorem slot3 (w' : World) (g t : Nat) (a b c x y z : Value) (blk : w'.heap[g]? = some (.cells #[a, b, c] t (0, 0))) :
    ∃ w'', w'' = ((w'.setCell ⟨g, 0, none⟩ x).setCell ⟨g, 1, none⟩ y).setCell ⟨g, 2, none⟩ z ∧ w''.heap[g]? = some (.cells #[x, y, z] t (0, 0)) ∧ (∀ k, k ≠ g → w''.heap[k]? = w'.heap[k]?) ∧ w''.heap.size = w'.heap.size := by
  refine ⟨_, rfl, three w' g t a b c x y z blk, fun k hk => ?_, by simp⟩
  rw [Below.heap_setCell _ _ _ k hk, Below.heap_setCell _ _ _ k hk, Below.heap_setCell _ _ _ k hk]

set_option maxRecDepth 100000 in
theorem w29 (w : World) : Calls Tryd.prog 29 #[] w (TokPost ⟨#[116, 114, 117, 101]⟩ w) := by
  have C := w33 ⟨#[116, 114, 117, 101]⟩
  have HC := Lib.hid C
  clear C
  go_enter Tryd.func29, Tryd.ntmps29
  go_wp2_with (fail)
  refine (HC.out _).mono ?_
  rintro e w' ⟨g, b, cap, rfl, g1, g2, h1, h2⟩
  have H1 := Lib.hid h1
  have H2 := Lib.hid h2
  have blk : w'.heap[w.heap.size]? = some (.cells #[.pointer none, .string ⟨#[]⟩, .int .u64 0] 40 (0, 0)) := by
    rw [h2.block _ (by simp)]; exact heap_alloc_new w _
  have G1 := Lib.hid g1
  have G2 := Lib.hid g2
  have BLK := Lib.hid blk
  have c0 : w'.cell? ⟨w.heap.size, 0, none⟩ = some (.pointer none) := by simp [World.cell?, blk]
  have c1 : w'.cell? ⟨w.heap.size, 1, none⟩ = some (.string ⟨#[]⟩) := by simp [World.cell?, blk]
  have c2 : w'.cell? ⟨w.heap.size, 2, none⟩ = some (.int .u64 0) := by simp [World.cell?, blk]
  have f0 : ∀ i, w'.frozen? ⟨w.heap.size, i, none⟩ = false := fun i => by simp [World.frozen?, blk]
  clear blk h1 h2 g1 g2
  unfold tok
  go_wp2_with (fail)
  clear c0 c1 c2 f0
  obtain ⟨w4, h4, d0, oth, z4⟩ := slot3 w' w.heap.size 40 _ _ _ (.pointer (some ⟨g, 0, none⟩)) (.string ⟨#[]⟩) (.int .u64 0) BLK.out
  rw [← h4]
  have e0 : w4.cell? ⟨w.heap.size, 0, none⟩ = some (.pointer (some ⟨g, 0, none⟩)) := by simp [World.cell?, d0]
  have e1 : w4.cell? ⟨w.heap.size, 1, none⟩ = some (.string ⟨#[]⟩) := by simp [World.cell?, d0]
  have e2 : w4.cell? ⟨w.heap.size, 2, none⟩ = some (.int .u64 0) := by simp [World.cell?, d0]
  refine bodyPost_ret (v := tok g) (by simp [results, Tryd.results29, go_sem, e0, e1, e2, tok]) rfl ?_
  have q1 := G1.out
  have q2 := G2.out
  have q3 := H2.out
  have q4 := H1.out
  have q0 : (w.alloc (.cells #[.pointer none, .string ⟨#[]⟩, .int .u64 0] 40)).heap.size = w.heap.size + 1 := by simp
  rw [q0] at q1 q2
  refine ⟨g, b, cap, rfl, by omega, by omega, q4.move (oth g (by omega)) (oth b (by omega)), ?_⟩
  rw [h4]
  refine Below.setCell (Below.setCell (Below.setCell ?_ ?_ _) ?_ _) ?_ _
  · exact ((Below.refl w.heap.size w).alloc (Nat.le_refl _) _).trans (q3.mono (by simp))
  all_goals simp

set_option maxRecDepth 100000 in
theorem w30 (w : World) : Calls Tryd.prog 30 #[] w (TokPost ⟨#[102, 97, 108, 115, 101]⟩ w) := by
  have C := w33 ⟨#[102, 97, 108, 115, 101]⟩
  have HC := Lib.hid C
  clear C
  go_enter Tryd.func30, Tryd.ntmps30
  go_wp2_with (fail)
  refine (HC.out _).mono ?_
  rintro e w' ⟨g, b, cap, rfl, g1, g2, h1, h2⟩
  have H1 := Lib.hid h1
  have H2 := Lib.hid h2
  have blk : w'.heap[w.heap.size]? = some (.cells #[.pointer none, .string ⟨#[]⟩, .int .u64 0] 40 (0, 0)) := by
    rw [h2.block _ (by simp)]; exact heap_alloc_new w _
  have G1 := Lib.hid g1
  have G2 := Lib.hid g2
  have BLK := Lib.hid blk
  have c0 : w'.cell? ⟨w.heap.size, 0, none⟩ = some (.pointer none) := by simp [World.cell?, blk]
  have c1 : w'.cell? ⟨w.heap.size, 1, none⟩ = some (.string ⟨#[]⟩) := by simp [World.cell?, blk]
  have c2 : w'.cell? ⟨w.heap.size, 2, none⟩ = some (.int .u64 0) := by simp [World.cell?, blk]
  have f0 : ∀ i, w'.frozen? ⟨w.heap.size, i, none⟩ = false := fun i => by simp [World.frozen?, blk]
  clear blk h1 h2 g1 g2
  unfold tok
  go_wp2_with (fail)
  clear c0 c1 c2 f0
  obtain ⟨w4, h4, d0, oth, z4⟩ := slot3 w' w.heap.size 40 _ _ _ (.pointer (some ⟨g, 0, none⟩)) (.string ⟨#[]⟩) (.int .u64 0) BLK.out
  rw [← h4]
  have e0 : w4.cell? ⟨w.heap.size, 0, none⟩ = some (.pointer (some ⟨g, 0, none⟩)) := by simp [World.cell?, d0]
  have e1 : w4.cell? ⟨w.heap.size, 1, none⟩ = some (.string ⟨#[]⟩) := by simp [World.cell?, d0]
  have e2 : w4.cell? ⟨w.heap.size, 2, none⟩ = some (.int .u64 0) := by simp [World.cell?, d0]
  refine bodyPost_ret (v := tok g) (by simp [results, Tryd.results30, go_sem, e0, e1, e2, tok]) rfl ?_
  have q1 := G1.out
  have q2 := G2.out
  have q3 := H2.out
  have q4 := H1.out
  have q0 : (w.alloc (.cells #[.pointer none, .string ⟨#[]⟩, .int .u64 0] 40)).heap.size = w.heap.size + 1 := by simp
  rw [q0] at q1 q2
  refine ⟨g, b, cap, rfl, by omega, by omega, q4.move (oth g (by omega)) (oth b (by omega)), ?_⟩
  rw [h4]
  refine Below.setCell (Below.setCell (Below.setCell ?_ ?_ _) ?_ _) ?_ _
  · exact ((Below.refl w.heap.size w).alloc (Nat.le_refl _) _).trans (q3.mono (by simp))
  all_goals simp

set_option maxRecDepth 100000 in
theorem w24 (w : World) : Calls Tryd.prog 24 #[] w (TokPost ⟨#[48]⟩ w) := by
  have C := w33 ⟨#[48]⟩
  have HC := Lib.hid C
  clear C
  go_enter Tryd.func24, Tryd.ntmps24
  go_wp2_with (fail)
  refine (HC.out _).mono ?_
  rintro e w' ⟨g, b, cap, rfl, g1, g2, h1, h2⟩
  have H1 := Lib.hid h1
  have H2 := Lib.hid h2
  have blk : w'.heap[w.heap.size]? = some (.cells #[.pointer none, .string ⟨#[]⟩, .int .u64 0] 40 (0, 0)) := by
    rw [h2.block _ (by simp)]; exact heap_alloc_new w _
  have G1 := Lib.hid g1
  have G2 := Lib.hid g2
  have BLK := Lib.hid blk
  have c0 : w'.cell? ⟨w.heap.size, 0, none⟩ = some (.pointer none) := by simp [World.cell?, blk]
  have c1 : w'.cell? ⟨w.heap.size, 1, none⟩ = some (.string ⟨#[]⟩) := by simp [World.cell?, blk]
  have c2 : w'.cell? ⟨w.heap.size, 2, none⟩ = some (.int .u64 0) := by simp [World.cell?, blk]
  have f0 : ∀ i, w'.frozen? ⟨w.heap.size, i, none⟩ = false := fun i => by simp [World.frozen?, blk]
  clear blk h1 h2 g1 g2
  unfold tok
  go_wp2_with (fail)
  clear c0 c1 c2 f0
  obtain ⟨w4, h4, d0, oth, z4⟩ := slot3 w' w.heap.size 40 _ _ _ (.pointer (some ⟨g, 0, none⟩)) (.string ⟨#[]⟩) (.int .u64 0) BLK.out
  rw [← h4]
  have e0 : w4.cell? ⟨w.heap.size, 0, none⟩ = some (.pointer (some ⟨g, 0, none⟩)) := by simp [World.cell?, d0]
  have e1 : w4.cell? ⟨w.heap.size, 1, none⟩ = some (.string ⟨#[]⟩) := by simp [World.cell?, d0]
  have e2 : w4.cell? ⟨w.heap.size, 2, none⟩ = some (.int .u64 0) := by simp [World.cell?, d0]
  refine bodyPost_ret (v := tok g) (by simp [results, Tryd.results24, go_sem, e0, e1, e2, tok]) rfl ?_
  have q1 := G1.out
  have q2 := G2.out
  have q3 := H2.out
  have q4 := H1.out
  have q0 : (w.alloc (.cells #[.pointer none, .string ⟨#[]⟩, .int .u64 0] 40)).heap.size = w.heap.size + 1 := by simp
  rw [q0] at q1 q2
  refine ⟨g, b, cap, rfl, by omega, by omega, q4.move (oth g (by omega)) (oth b (by omega)), ?_⟩
  rw [h4]
  refine Below.setCell (Below.setCell (Below.setCell ?_ ?_ _) ?_ _) ?_ _
  · exact ((Below.refl w.heap.size w).alloc (Nat.le_refl _) _).trans (q3.mono (by simp))
  all_goals simp

set_option maxRecDepth 100000 in
theorem w28 (w : World) : Calls Tryd.prog 28 #[] w (TokPost ⟨#[34, 34]⟩ w) := by
  have C := w33 ⟨#[34, 34]⟩
  have HC := Lib.hid C
  clear C
  go_enter Tryd.func28, Tryd.ntmps28
  go_wp2_with (fail)
  refine (HC.out _).mono ?_
  rintro e w' ⟨g, b, cap, rfl, g1, g2, h1, h2⟩
  have H1 := Lib.hid h1
  have H2 := Lib.hid h2
  have blk : w'.heap[w.heap.size]? = some (.cells #[.pointer none, .string ⟨#[]⟩, .int .u64 0] 40 (0, 0)) := by
    rw [h2.block _ (by simp)]; exact heap_alloc_new w _
  have G1 := Lib.hid g1
  have G2 := Lib.hid g2
  have BLK := Lib.hid blk
  have c0 : w'.cell? ⟨w.heap.size, 0, none⟩ = some (.pointer none) := by simp [World.cell?, blk]
  have c1 : w'.cell? ⟨w.heap.size, 1, none⟩ = some (.string ⟨#[]⟩) := by simp [World.cell?, blk]
  have c2 : w'.cell? ⟨w.heap.size, 2, none⟩ = some (.int .u64 0) := by simp [World.cell?, blk]
  have f0 : ∀ i, w'.frozen? ⟨w.heap.size, i, none⟩ = false := fun i => by simp [World.frozen?, blk]
  clear blk h1 h2 g1 g2
  unfold tok
  go_wp2_with (fail)
  clear c0 c1 c2 f0
  obtain ⟨w4, h4, d0, oth, z4⟩ := slot3 w' w.heap.size 40 _ _ _ (.pointer (some ⟨g, 0, none⟩)) (.string ⟨#[]⟩) (.int .u64 0) BLK.out
  rw [← h4]
  have e0 : w4.cell? ⟨w.heap.size, 0, none⟩ = some (.pointer (some ⟨g, 0, none⟩)) := by simp [World.cell?, d0]
  have e1 : w4.cell? ⟨w.heap.size, 1, none⟩ = some (.string ⟨#[]⟩) := by simp [World.cell?, d0]
  have e2 : w4.cell? ⟨w.heap.size, 2, none⟩ = some (.int .u64 0) := by simp [World.cell?, d0]
  refine bodyPost_ret (v := tok g) (by simp [results, Tryd.results28, go_sem, e0, e1, e2, tok]) rfl ?_
  have q1 := G1.out
  have q2 := G2.out
  have q3 := H2.out
  have q4 := H1.out
  have q0 : (w.alloc (.cells #[.pointer none, .string ⟨#[]⟩, .int .u64 0] 40)).heap.size = w.heap.size + 1 := by simp
  rw [q0] at q1 q2
  refine ⟨g, b, cap, rfl, by omega, by omega, q4.move (oth g (by omega)) (oth b (by omega)), ?_⟩
  rw [h4]
  refine Below.setCell (Below.setCell (Below.setCell ?_ ?_ _) ?_ _) ?_ _
  · exact ((Below.refl w.heap.size w).alloc (Nat.le_refl _) _).trans (q3.mono (by simp))
  all_goals simp
end Go.Proofs.YtokkjljncoiajaaDoor
