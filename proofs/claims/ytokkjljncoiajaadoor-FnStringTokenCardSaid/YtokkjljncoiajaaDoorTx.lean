/- The tokens: strings. -/
import Derived.Test.YtokkjljncoiajaaDoorTw
set_option linter.unusedVariables false
set_option linter.unusedSimpArgs false
namespace Go.Proofs.YtokkjljncoiajaaDoor
open Go.RowKit

theorem size_pos {s : ByteArray} (h : 1 ≤ s.size) : ((s.size : Int) == 0) = false ∧ ((s.size : Int) != 0) = true ∧ decide ((s.size : Int) > 0) = true := by
  refine ⟨by rw [beq_eq_false_iff_ne]; omega, by rw [bne_iff_ne]; omega, by rw [decide_eq_true_iff]; omega⟩
set_option maxRecDepth 100000 in
theorem w16s (s : ByteArray) (w : World) (hs : 1 ≤ s.size) : Calls Tryd.prog 16 #[.agg #[.pointer none, .string s, .int .u64 0]] w fun e w' => e = .returned (.int .u8 34) ∧ Below w.heap.size w w' := by
  obtain ⟨t1, t2, t3⟩ := size_pos hs
  clear hs
  go_enter Tryd.func16, Tryd.ntmps16
  go_wp2_with (fail)
  go_returns
  exact ⟨rfl, (Below.refl w.heap.size w).alloc (Nat.le_refl _) _⟩
set_option maxRecDepth 100000 in
theorem w27s (s : ByteArray) (w : World) (hs : 1 ≤ s.size) :
    Calls Tryd.prog 27 #[.agg #[.pointer none, .string s, .int .u64 0]] w fun e w' => e = .returned (.tuple #[.string s, .slice none 0 0]) ∧ Below w.heap.size w w' := by
  obtain ⟨t1, t2, t3⟩ := size_pos hs
  clear hs
  go_enter Tryd.func27, Tryd.ntmps27
  go_wp2_with (fail)
  go_returns
  exact ⟨rfl, (Below.refl w.heap.size w).alloc (Nat.le_refl _) _⟩
set_option maxRecDepth 100000 in
theorem w17s (s : ByteArray) (w : World) (hs : 1 ≤ s.size) :
    Calls Tryd.prog 17 #[.agg #[.pointer none, .string s, .int .u64 0]] w fun e w' => e = .returned (.string s) ∧ Below w.heap.size w w' := by
  have hb : Below w.heap.size w (w.alloc (.cells #[.pointer none, .string s, .int .u64 0] 40)) := (Below.refl w.heap.size w).alloc (Nat.le_refl _) _
  have C := (w27s s (w.alloc (.cells #[.pointer none, .string s, .int .u64 0] 40)) hs).mono fun e w' ⟨q1, q2⟩ => (⟨q1, hb.trans (q2.mono hb.size)⟩ : _ ∧ Below w.heap.size w w')
  have HC := Lib.hid C
  clear C hb hs
  go_enter Tryd.func17, Tryd.ntmps17
  go_wp2_with (fail)
  refine HC.out.mono ?_
  rintro e w' ⟨rfl, q⟩
  have Q := Lib.hid q
  clear q
  go_wp2_with (fail)
  go_returns
  exact ⟨rfl, Q.out⟩
set_option maxRecDepth 100000 in
theorem w20s (s : ByteArray) (w : World) (hs : 1 ≤ s.size) : Calls Tryd.prog 20 #[.string s] w fun e w' => e = .returned (.agg #[.pointer none, .string s, .int .u64 0]) ∧ Below w.heap.size w w' := by
  obtain ⟨t1, t2, t3⟩ := size_pos hs
  clear hs
  go_enter Tryd.func20, Tryd.ntmps20
  go_wp2_with (fail)
  go_returns
  exact ⟨rfl, (Below.refl w.heap.size w).alloc (Nat.le_refl _) _⟩
set_option maxRecDepth 100000 in
theorem w20z (w : World) : Calls Tryd.prog 20 #[.string ⟨#[]⟩] w (TokPost ⟨#[34, 34]⟩ w) := by
  have C := w28
  have HC := Lib.hid C
  clear C
  go_enter Tryd.func20, Tryd.ntmps20
  go_wp2_with (fail)
  refine (HC.out _).mono ?_
  rintro e w' ⟨g, b, cap, rfl, g1, g2, h1, h2⟩
  have H1 := Lib.hid h1
  have H2 := Lib.hid h2
  have blk : w'.heap[w.heap.size]? = some (.cells #[.pointer none, .string ⟨#[]⟩, .int .u64 0] 40 (0, 0)) := by
    rw [h2.block _ (by simp)]; exact heap_alloc_new w _
  have G1 := Lib.hid g1
  have G2 := Lib.hid g2
  have BLK := Lib.hid blk
  have c0 : w'.cell? ⟨w.heap.size, 0, none⟩ = some (.pointer none) := by simp [World.cell?, blk]
  have c1 : w'.cell? ⟨w.heap.size, 1, none⟩ = some (.string ⟨#[]⟩) := by simp [World.cell?, blk]
  have c2 : w'.cell? ⟨w.heap.size, 2, none⟩ = some (.int .u64 0) := by simp [World.cell?, blk]
  have f0 : ∀ i, w'.frozen? ⟨w.heap.size, i, none⟩ = false := fun i => by simp [World.frozen?, blk]
  clear blk h1 h2 g1 g2
  unfold tok
  go_wp2_with (fail)
  clear c0 c1 c2 f0
  obtain ⟨w4, h4, d0, oth, z4⟩ := slot3 w' w.heap.size 40 _ _ _ (.pointer (some ⟨g, 0, none⟩)) (.string ⟨#[]⟩) (.int .u64 0) BLK.out
  rw [← h4]
  have e0 : w4.cell? ⟨w.heap.size, 0, none⟩ = some (.pointer (some ⟨g, 0, none⟩)) := by simp [World.cell?, d0]
  have e1 : w4.cell? ⟨w.heap.size, 1, none⟩ = some (.string ⟨#[]⟩) := by simp [World.cell?, d0]
  have e2 : w4.cell? ⟨w.heap.size, 2, none⟩ = some (.int .u64 0) := by simp [World.cell?, d0]
  refine bodyPost_ret (v := tok g) (by simp [results, Tryd.results20, go_sem, e0, e1, e2, tok]) rfl ?_
  have q1 := G1.out
  have q2 := G2.out
  have q3 := H2.out
  have q4 := H1.out
  have q0 : (w.alloc (.cells #[.pointer none, .string ⟨#[]⟩, .int .u64 0] 40)).heap.size = w.heap.size + 1 := by simp
  rw [q0] at q1 q2
  refine ⟨g, b, cap, rfl, by omega, by omega, q4.move (oth g (by omega)) (oth b (by omega)), ?_⟩
  rw [h4]
  refine Below.setCell (Below.setCell (Below.setCell ?_ ?_ _) ?_ _) ?_ _
  · exact ((Below.refl w.heap.size w).alloc (Nat.le_refl _) _).trans (q3.mono (by simp))
  all_goals simp
end Go.Proofs.YtokkjljncoiajaaDoor
