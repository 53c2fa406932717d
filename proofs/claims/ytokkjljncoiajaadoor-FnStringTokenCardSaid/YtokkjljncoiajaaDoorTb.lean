/- The tokens: a raw token. -/
import Derived.Test.YtokkjljncoiajaaDoorRows
import Derived.WalkKit
import Derived.Handy
import Derived.Outline
import Derived.Below
import Derived.Lib.ConvBytes
import Derived.Lib.SmallJoins
import Derived.Lib.Hide
namespace Go.Proofs.YtokkjljncoiajaaDoor
open Go.RowKit

theorem conv (s : ByteArray) (w : World) : (convert 9 55 (.string s)).run Tryd.prog w = .ok (.slice (some ⟨w.heap.size, 0, none⟩) s.size (grownCap w s.size 0 5)) (Lib.bytesWorld w 5 s) :=
  Lib.run_convert_string_bytes w 9 55 5 s Tryd.underlying9 Tryd.underlying55 Tryd.underlying5
theorem three (w2 : World) (g t : Nat) (a b c x y z : Value) (blk : w2.heap[g]? = some (.cells #[a, b, c] t (0, 0))) :
    (((w2.setCell ⟨g, 0, none⟩ x).setCell ⟨g, 1, none⟩ y).setCell ⟨g, 2, none⟩ z).heap[g]? = some (.cells #[x, y, z] t (0, 0)) := by
  have e1 := setCell_eq_setRow w2 g 0 #[a, b, c] t (0, 0) x blk
  have b1 := setRow_heap w2 g #[a, b, c] (#[a, b, c].setIfInBounds 0 x) t (0, 0) blk
  rw [← e1] at b1
  have e2 := setCell_eq_setRow _ g 1 _ t (0, 0) y b1
  have b2 := setRow_heap _ g _ ((#[a, b, c].setIfInBounds 0 x).setIfInBounds 1 y) t (0, 0) b1
  rw [← e2] at b2
  have e3 := setCell_eq_setRow _ g 2 _ t (0, 0) z b2
  have b3 := setRow_heap _ g _ (((#[a, b, c].setIfInBounds 0 x).setIfInBounds 1 y).setIfInBounds 2 z) t (0, 0) b2
  rw [← e3] at b3
  rw [b3]
  simp
/-- the value of a token, and what stands in its buffer -/
structure RawAt (w' : World) (g b : Nat) (cap : Nat) (s : ByteArray) : Prop where
  blk : w'.heap[g]? = some (.cells #[.int .i64 0, .nilIface, .slice (some ⟨b, 0, none⟩) s.size cap, .int .i64 0, .int .i64 s.size, .int .i64 0, .nilIface, .string s] 59 (0, 0))
  bytes : ∀ j, j < s.size → w'.cell? ⟨b, j, none⟩ = some (.int .u8 (s.data.toList.getD j 0).toNat)
  cap1 : s.size ≤ cap
  cap2 : s.size ≤ 140737488355328 → cap ≤ 9223372036854775807
def tok (g : Nat) : Value := .agg #[.pointer (some ⟨g, 0, none⟩), .string ⟨#[]⟩, .int .u64 0]
/-- a token, its rows above w's -/
def TokPost (s : ByteArray) (w : World) (e : Ending) (w' : World) : Prop := ∃ g b cap, e = .returned (tok g) ∧ w.heap.size ≤ g ∧ w.heap.size ≤ b ∧ RawAt w' g b cap s ∧ Below w.heap.size w w'
set_option maxRecDepth 100000 in
theorem w33 (s : ByteArray) (w : World) : Calls Tryd.prog 33 #[.string s] w (TokPost s w) := by
  obtain ⟨w1, h1⟩ : ∃ x, x = w.alloc (.cells #[.pointer none, .string ⟨#[]⟩, .int .u64 0] 40) := ⟨_, rfl⟩
  obtain ⟨w2, h2⟩ : ∃ x, x = Lib.bytesWorld w1 5 s := ⟨_, rfl⟩
  have z1 : w1.heap.size = w.heap.size + 1 := by rw [h1]; simp
  have cv := conv s w1
  rw [← h2, z1] at cv
  have z2 : w2.heap.size = w.heap.size + 2 := by rw [h2, Lib.bytesWorld_size, z1]
  have blk : w2.heap[w.heap.size]? = some (.cells #[.pointer none, .string ⟨#[]⟩, .int .u64 0] 40 (0, 0)) := by
    rw [h2, Lib.bytesWorld_at_old _ _ _ _ (by omega), h1]; exact heap_alloc_new w _
  have c0 : w2.cell? ⟨w.heap.size, 0, none⟩ = some (.pointer none) := by simp [World.cell?, blk]
  have c1 : w2.cell? ⟨w.heap.size, 1, none⟩ = some (.string ⟨#[]⟩) := by simp [World.cell?, blk]
  have c2 : w2.cell? ⟨w.heap.size, 2, none⟩ = some (.int .u64 0) := by simp [World.cell?, blk]
  have f0 : ∀ i, w2.frozen? ⟨w.heap.size, i, none⟩ = false := fun i => by simp [World.frozen?, blk]
  have hne : w.heap.size ≠ w2.heap.size := by omega
  have H2 := Lib.hid h2
  have H1 := Lib.hid h1
  have HB := Lib.hid blk
  have hcap : ∃ cap, cap = grownCap w1 s.size 0 5 := ⟨_, rfl⟩
  obtain ⟨cap, hcap⟩ := hcap
  rw [← hcap, h1] at cv
  have HC := Lib.hid hcap
  clear blk h2 hcap h1
  go_enter Tryd.func33, Tryd.ntmps33
  go_wp2_with (fail)
  obtain ⟨w3, h3⟩ : ∃ x, x = ((((w2.setCell { block := w.heap.size, off := 0 } (Value.pointer (some { block := w.heap.size + 2, off := 0 }))).setCell { block := w.heap.size, off := 1 } (Value.string { data := #[] })).setCell { block := w.heap.size, off := 2 } (Value.int IntKind.u64 0))) := ⟨_, rfl⟩
  have z3 : w3.heap.size = w.heap.size + 2 := by rw [h3]; simp [z2]
  have blk3 : w3.heap[w.heap.size]? = some (.cells #[.pointer (some ⟨w.heap.size + 2, 0, none⟩), .string ⟨#[]⟩, .int .u64 0] 40 (0, 0)) := by
    rw [h3]; exact three _ _ _ _ _ _ _ _ _ HB.out
  have oth : ∀ k, k ≠ w.heap.size → w3.heap[k]? = w2.heap[k]? := fun k hk => by
    rw [h3, Below.heap_setCell _ _ _ k hk, Below.heap_setCell _ _ _ k hk, Below.heap_setCell _ _ _ k hk]
  have lt3 : w.heap.size < w3.heap.size := by omega
  have H3 := Lib.hid h3
  rw [← h3]
  clear h3
  have d0 : (w3.alloc (.cells #[.int .i64 0, .nilIface, .slice (some ⟨w.heap.size + 1, 0, none⟩) s.size cap, .int .i64 0, .int .i64 s.size, .int .i64 0, .nilIface, .string s] 59)).heap[w.heap.size]? = some (.cells #[.pointer (some ⟨w.heap.size + 2, 0, none⟩), .string ⟨#[]⟩, .int .u64 0] 40 (0, 0)) := by
    rw [heap_alloc_old w3 _ lt3]; exact blk3
  have d1 := heap_alloc_new w3 (.cells #[.int .i64 0, .nilIface, .slice (some ⟨w.heap.size + 1, 0, none⟩) s.size cap, .int .i64 0, .int .i64 s.size, .int .i64 0, .nilIface, .string s] 59)
  obtain ⟨w4, h4⟩ : ∃ x, x = (w3.alloc (.cells #[.int .i64 0, .nilIface, .slice (some ⟨w.heap.size + 1, 0, none⟩) s.size cap, .int .i64 0, .int .i64 s.size, .int .i64 0, .nilIface, .string s] 59)) := ⟨_, rfl⟩
  have oth4 : ∀ k, k < w3.heap.size → w4.heap[k]? = w3.heap[k]? := fun k hk => by rw [h4]; exact heap_alloc_old w3 _ hk
  rw [← h4] at d0 d1 ⊢
  rw [z3] at d1
  have e0 : w4.cell? ⟨w.heap.size, 0, none⟩ = some (.pointer (some ⟨w.heap.size + 2, 0, none⟩)) := by simp [World.cell?, d0]
  have e1 : w4.cell? ⟨w.heap.size, 1, none⟩ = some (.string ⟨#[]⟩) := by simp [World.cell?, d0]
  have e2 : w4.cell? ⟨w.heap.size, 2, none⟩ = some (.int .u64 0) := by simp [World.cell?, d0]
  refine bodyPost_ret (v := tok (w.heap.size + 2)) (by simp [results, Tryd.results33, go_sem, e0, e1, e2, tok]) rfl ?_
  refine ⟨w.heap.size + 2, w.heap.size + 1, cap, rfl, by omega, by omega, ⟨d1, ?_, ?_, ?_⟩, ?_⟩
  · intro j hj
    have q := Lib.bytesWorld_cell w1 5 s j hj
    rw [← H2.out, z1] at q
    rw [← q]
    simp only [World.cell?, oth4 (w.heap.size + 1) (by omega), oth (w.heap.size + 1) (by omega)]
  · rw [HC.out]; exact grownCap_ge w1 s.size 0 5
  · intro hs
    rw [HC.out]
    have := grownCap_le_maxLen w1 s.size 0 5 (by simp only [maxLen]; omega)
    simp only [maxLen] at this
    omega
  · rw [h4, H3.out, H2.out, H1.out]
    refine (((Below.setCell (Below.setCell (Below.setCell ?_ ?_ _) ?_ _) ?_ _)).alloc ?_ _)
    · exact ((Below.refl w.heap.size w).alloc (Nat.le_refl _) _).trans (Joins.below_bytesWorld _ _ 5 s (by simp))
    all_goals simp [Lib.bytesWorld_size]
    all_goals omega
end Go.Proofs.YtokkjljncoiajaaDoor
