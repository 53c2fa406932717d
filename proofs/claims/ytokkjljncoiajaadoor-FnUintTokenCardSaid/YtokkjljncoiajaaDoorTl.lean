/- The tokens: whole numbers. -/
import Derived.Test.YtokkjljncoiajaaDoorTk
set_option linter.unusedVariables false
set_option linter.unusedSimpArgs false
namespace Go.Proofs.YtokkjljncoiajaaDoor
open Go.RowKit
set_option maxRecDepth 100000 in
theorem w15i (n : Int) (num : Nat) (w : World) (hne : n ≠ 0) (hn : IntKind.u64.wrap n = (num : Int)) : Calls Tryd.prog 15 #[.int .i64 n] w fun e w' => e = .returned (.agg #[.pointer none, .string ⟨#[105]⟩, .int .u64 num]) ∧ Below w.heap.size w w' := by
  have t1 : (n == 0) = false := by rw [beq_eq_false_iff_ne]; exact hne
  clear hne
  go_enter Tryd.func15, Tryd.ntmps15
  go_wp2_with (fail)
  go_returns
  exact ⟨rfl, (Below.refl w.heap.size w).alloc (Nat.le_refl _) _⟩
set_option maxRecDepth 100000 in
theorem w15z (w : World) : Calls Tryd.prog 15 #[.int .i64 0] w (TokPost ⟨#[48]⟩ w) := by
  have C := w24
  have HC := Lib.hid C
  clear C
  go_enter Tryd.func15, Tryd.ntmps15
  go_wp2_with (fail)
  refine (HC.out _).mono ?_
  rintro e w' ⟨g, b, cap, rfl, g1, g2, h1, h2⟩
  have H1 := Lib.hid h1
  have H2 := Lib.hid h2
  have blk : w'.heap[w.heap.size]? = some (.cells #[.pointer none, .string ⟨#[]⟩, .int .u64 0] 40 (0, 0)) := by
    rw [h2.block _ (by simp)]; exact heap_alloc_new w _
  have G1 := Lib.hid g1
  have G2 := Lib.hid g2
  have BLK := Lib.hid blk
  have c0 : w'.cell? ⟨w.heap.size, 0, none⟩ = some (.pointer none) := by simp [World.cell?, blk]
  have c1 : w'.cell? ⟨w.heap.size, 1, none⟩ = some (.string ⟨#[]⟩) := by simp [World.cell?, blk]
  have c2 : w'.cell? ⟨w.heap.size, 2, none⟩ = some (.int .u64 0) := by simp [World.cell?, blk]
  have f0 : ∀ i, w'.frozen? ⟨w.heap.size, i, none⟩ = false := fun i => by simp [World.frozen?, blk]
  clear blk h1 h2 g1 g2
  unfold tok
  go_wp2_with (fail)
  clear c0 c1 c2 f0
  obtain ⟨w4, h4, d0, oth, z4⟩ := slot3 w' w.heap.size 40 _ _ _ (.pointer (some ⟨g, 0, none⟩)) (.string ⟨#[]⟩) (.int .u64 0) BLK.out
  rw [← h4]
  have e0 : w4.cell? ⟨w.heap.size, 0, none⟩ = some (.pointer (some ⟨g, 0, none⟩)) := by simp [World.cell?, d0]
  have e1 : w4.cell? ⟨w.heap.size, 1, none⟩ = some (.string ⟨#[]⟩) := by simp [World.cell?, d0]
  have e2 : w4.cell? ⟨w.heap.size, 2, none⟩ = some (.int .u64 0) := by simp [World.cell?, d0]
  refine bodyPost_ret (v := tok g) (by simp [results, Tryd.results15, go_sem, e0, e1, e2, tok]) rfl ?_
  have q1 := G1.out
  have q2 := G2.out
  have q3 := H2.out
  have q4 := H1.out
  have q0 : (w.alloc (.cells #[.pointer none, .string ⟨#[]⟩, .int .u64 0] 40)).heap.size = w.heap.size + 1 := by simp
  rw [q0] at q1 q2
  refine ⟨g, b, cap, rfl, by omega, by omega, q4.move (oth g (by omega)) (oth b (by omega)), ?_⟩
  rw [h4]
  refine Below.setCell (Below.setCell (Below.setCell ?_ ?_ _) ?_ _) ?_ _
  · exact ((Below.refl w.heap.size w).alloc (Nat.le_refl _) _).trans (q3.mono (by simp))
  all_goals simp
end Go.Proofs.YtokkjljncoiajaaDoor
