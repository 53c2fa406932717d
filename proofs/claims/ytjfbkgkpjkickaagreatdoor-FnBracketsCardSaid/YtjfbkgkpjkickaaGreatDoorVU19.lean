/- The texts of a proof, its declarations alone: part 19. -/
import Derived.Lib.ConvBytes
import Derived.Lib.SmallJoins
import Derived.Test.YtjfbkgkpjkickaaGreatDoorVU9
import Derived.Test.YtjfbkgkpjkickaaGreatDoorVU18
set_option linter.unusedVariables false
set_option linter.unusedSimpArgs false
-- YtjfbkgkpjkickaaGreatDoorCb
set_option linter.unusedVariables false
set_option linter.unusedSimpArgs false
namespace Go.Proofs.YtjfbkgkpjkickaaGreatDoor.PAll
open Go.RowKit Go.Proofs.YtjfbkgkpjkickaaGreatDoorW.PrintWords Go.Proofs.YtjfbkgkpjkickaaGreatDoorW.PrintLast Go.Proofs.YtjfbkgkpjkickaaGreatDoorW.PrintMore

theorem conv (s : ByteArray) (w : World) : (convert 9 22 (.string s)).run Tryz.prog w = .ok (.slice (some ⟨w.heap.size, 0, none⟩) s.size (grownCap w s.size 0 5)) (Lib.bytesWorld w 5 s) :=
  Lib.run_convert_string_bytes w 9 22 5 s Tryz.underlying9 Tryz.underlying22 Tryz.underlying5
theorem three (w2 : World) (g t : Nat) (a b c x y z : Value) (blk : w2.heap[g]? = some (.cells #[a, b, c] t (0, 0))) :
    (((w2.setCell ⟨g, 0, none⟩ x).setCell ⟨g, 1, none⟩ y).setCell ⟨g, 2, none⟩ z).heap[g]? = some (.cells #[x, y, z] t (0, 0)) := by
  have e1 := setCell_eq_setRow w2 g 0 #[a, b, c] t (0, 0) x blk
  have b1 := setRow_heap w2 g #[a, b, c] (#[a, b, c].setIfInBounds 0 x) t (0, 0) blk
  rw [← e1] at b1
  have e2 := setCell_eq_setRow _ g 1 _ t (0, 0) y b1
  have b2 := setRow_heap _ g _ ((#[a, b, c].setIfInBounds 0 x).setIfInBounds 1 y) t (0, 0) b1
  rw [← e2] at b2
  have e3 := setCell_eq_setRow _ g 2 _ t (0, 0) z b2
  have b3 := setRow_heap _ g _ (((#[a, b, c].setIfInBounds 0 x).setIfInBounds 1 y).setIfInBounds 2 z) t (0, 0) b2
  rw [← e3] at b3
  rw [b3]
  simp
/-- the value of a token, and what stands in its buffer -/
structure RawAt (w' : World) (g b : Nat) (cap : Nat) (s : ByteArray) : Prop where
  blk : w'.heap[g]? = some (.cells #[.int .i64 0, .nilIface, .slice (some ⟨b, 0, none⟩) s.size cap, .int .i64 0, .int .i64 s.size, .int .i64 0, .nilIface, .string s] 125 (0, 0))
  bytes : ∀ j, j < s.size → w'.cell? ⟨b, j, none⟩ = some (.int .u8 (s.data.toList.getD j 0).toNat)
  cap1 : s.size ≤ cap
  cap2 : s.size ≤ 140737488355328 → cap ≤ 9223372036854775807
def tok (g : Nat) : Value := .agg #[.pointer (some ⟨g, 0, none⟩), .string ⟨#[]⟩, .int .u64 0]
/-- a token, its rows above w's -/
def TokPost (s : ByteArray) (w : World) (e : Ending) (w' : World) : Prop := ∃ g b cap, e = .returned (tok g) ∧ w.heap.size ≤ g ∧ w.heap.size ≤ b ∧ RawAt w' g b cap s ∧ Below w.heap.size w w'
set_option maxRecDepth 100000 in
theorem w163 (s : ByteArray) (w : World) : Calls Tryz.prog 163 #[.string s] w (TokPost s w) := by
  obtain ⟨w1, h1⟩ : ∃ x, x = w.alloc (.cells #[.pointer none, .string ⟨#[]⟩, .int .u64 0] 83) := ⟨_, rfl⟩
  obtain ⟨w2, h2⟩ : ∃ x, x = Lib.bytesWorld w1 5 s := ⟨_, rfl⟩
  have z1 : w1.heap.size = w.heap.size + 1 := by rw [h1]; simp
  have cv := conv s w1
  rw [← h2, z1] at cv
  have z2 : w2.heap.size = w.heap.size + 2 := by rw [h2, Lib.bytesWorld_size, z1]
  have blk : w2.heap[w.heap.size]? = some (.cells #[.pointer none, .string ⟨#[]⟩, .int .u64 0] 83 (0, 0)) := by
    rw [h2, Lib.bytesWorld_at_old _ _ _ _ (by omega), h1]; exact heap_alloc_new w _
  have c0 : w2.cell? ⟨w.heap.size, 0, none⟩ = some (.pointer none) := by simp [World.cell?, blk]
  have c1 : w2.cell? ⟨w.heap.size, 1, none⟩ = some (.string ⟨#[]⟩) := by simp [World.cell?, blk]
  have c2 : w2.cell? ⟨w.heap.size, 2, none⟩ = some (.int .u64 0) := by simp [World.cell?, blk]
  have f0 : ∀ i, w2.frozen? ⟨w.heap.size, i, none⟩ = false := fun i => by simp [World.frozen?, blk]
  have hne : w.heap.size ≠ w2.heap.size := by omega
  have H2 := Lib.hid h2
  have H1 := Lib.hid h1
  have HB := Lib.hid blk
  have hcap : ∃ cap, cap = grownCap w1 s.size 0 5 := ⟨_, rfl⟩
  obtain ⟨cap, hcap⟩ := hcap
  rw [← hcap, h1] at cv
  have HC := Lib.hid hcap
  clear blk h2 hcap h1
  go_enter Tryz.func163, Tryz.ntmps163
  go_wp2_with (fail)
  obtain ⟨w3, h3⟩ : ∃ x, x = ((((w2.setCell { block := w.heap.size, off := 0 } (Value.pointer (some { block := w.heap.size + 2, off := 0 }))).setCell { block := w.heap.size, off := 1 } (Value.string { data := #[] })).setCell { block := w.heap.size, off := 2 } (Value.int IntKind.u64 0))) := ⟨_, rfl⟩
  have z3 : w3.heap.size = w.heap.size + 2 := by rw [h3]; simp [z2]
  have blk3 : w3.heap[w.heap.size]? = some (.cells #[.pointer (some ⟨w.heap.size + 2, 0, none⟩), .string ⟨#[]⟩, .int .u64 0] 83 (0, 0)) := by
    rw [h3]; exact three _ _ _ _ _ _ _ _ _ HB.out
  have oth : ∀ k, k ≠ w.heap.size → w3.heap[k]? = w2.heap[k]? := fun k hk => by
    rw [h3, Below.heap_setCell _ _ _ k hk, Below.heap_setCell _ _ _ k hk, Below.heap_setCell _ _ _ k hk]
  have lt3 : w.heap.size < w3.heap.size := by omega
  have H3 := Lib.hid h3
  rw [← h3]
  clear h3
  have d0 : (w3.alloc (.cells #[.int .i64 0, .nilIface, .slice (some ⟨w.heap.size + 1, 0, none⟩) s.size cap, .int .i64 0, .int .i64 s.size, .int .i64 0, .nilIface, .string s] 125)).heap[w.heap.size]? = some (.cells #[.pointer (some ⟨w.heap.size + 2, 0, none⟩), .string ⟨#[]⟩, .int .u64 0] 83 (0, 0)) := by
    rw [heap_alloc_old w3 _ lt3]; exact blk3
  have d1 := heap_alloc_new w3 (.cells #[.int .i64 0, .nilIface, .slice (some ⟨w.heap.size + 1, 0, none⟩) s.size cap, .int .i64 0, .int .i64 s.size, .int .i64 0, .nilIface, .string s] 125)
  obtain ⟨w4, h4⟩ : ∃ x, x = (w3.alloc (.cells #[.int .i64 0, .nilIface, .slice (some ⟨w.heap.size + 1, 0, none⟩) s.size cap, .int .i64 0, .int .i64 s.size, .int .i64 0, .nilIface, .string s] 125)) := ⟨_, rfl⟩
  have oth4 : ∀ k, k < w3.heap.size → w4.heap[k]? = w3.heap[k]? := fun k hk => by rw [h4]; exact heap_alloc_old w3 _ hk
  rw [← h4] at d0 d1 ⊢
  rw [z3] at d1
  have e0 : w4.cell? ⟨w.heap.size, 0, none⟩ = some (.pointer (some ⟨w.heap.size + 2, 0, none⟩)) := by simp [World.cell?, d0]
  have e1 : w4.cell? ⟨w.heap.size, 1, none⟩ = some (.string ⟨#[]⟩) := by simp [World.cell?, d0]
  have e2 : w4.cell? ⟨w.heap.size, 2, none⟩ = some (.int .u64 0) := by simp [World.cell?, d0]
  refine bodyPost_ret (v := tok (w.heap.size + 2)) (by simp [results, Tryz.results163, go_sem, e0, e1, e2, tok]) rfl ?_
  refine ⟨w.heap.size + 2, w.heap.size + 1, cap, rfl, by omega, by omega, ⟨d1, ?_, ?_, ?_⟩, ?_⟩
  · intro j hj
    have q := Lib.bytesWorld_cell w1 5 s j hj
    rw [← H2.out, z1] at q
    rw [← q]
    simp only [World.cell?, oth4 (w.heap.size + 1) (by omega), oth (w.heap.size + 1) (by omega)]
  · rw [HC.out]; exact grownCap_ge w1 s.size 0 5
  · intro hs
    rw [HC.out]
    have := grownCap_le_maxLen w1 s.size 0 5 (by simp only [maxLen]; omega)
    simp only [maxLen] at this
    omega
  · rw [h4, H3.out, H2.out, H1.out]
    refine (((Below.setCell (Below.setCell (Below.setCell ?_ ?_ _) ?_ _) ?_ _)).alloc ?_ _)
    · exact ((Below.refl w.heap.size w).alloc (Nat.le_refl _) _).trans (Joins.below_bytesWorld _ _ 5 s (by simp))
    all_goals simp [Lib.bytesWorld_size]
    all_goals omega
theorem slot3 (w' : World) (g t : Nat) (a b c x y z : Value) (blk : w'.heap[g]? = some (.cells #[a, b, c] t (0, 0))) :
    ∃ w'', w'' = ((w'.setCell ⟨g, 0, none⟩ x).setCell ⟨g, 1, none⟩ y).setCell ⟨g, 2, none⟩ z ∧ w''.heap[g]? = some (.cells #[x, y, z] t (0, 0)) ∧ (∀ k, k ≠ g → w''.heap[k]? = w'.heap[k]?) ∧ w''.heap.size = w'.heap.size := by
  refine ⟨_, rfl, three w' g t a b c x y z blk, fun k hk => ?_, by simp⟩
  rw [Below.heap_setCell _ _ _ k hk, Below.heap_setCell _ _ _ k hk, Below.heap_setCell _ _ _ k hk]

/-- a token, whatever it is -/
def TokP (w : World) (e : Ending) (w' : World) : Prop := ∃ (g o : Nat) (n : Int), e = .returned (.agg #[.pointer (some ⟨g, o, none⟩), .string ⟨#[]⟩, .int .u64 n]) ∧ Below w.heap.size w w'
theorem f163 (s : ByteArray) (w : World) : Calls Tryz.prog 163 #[.string s] w (TokP w) := (w163 s w).mono fun e w' ⟨g, b, c, h1, _, _, _, h2⟩ => ⟨g, 0, 0, h1, h2⟩
set_option maxRecDepth 100000 in
theorem f114 (w : World) : Calls Tryz.prog 114 #[] w (TokP w) := by
  obtain ⟨w1, h1⟩ : ∃ x, x = w.alloc (.cells #[.pointer none, .string ⟨#[]⟩, .int .u64 0] 83) := ⟨_, rfl⟩
  have blk : w1.heap[w.heap.size]? = some (.cells #[.pointer none, .string ⟨#[]⟩, .int .u64 0] 83 (0, 0)) := by rw [h1]; exact heap_alloc_new w _
  have HB0 := Lib.hid (show Below w.heap.size w w1 by rw [h1]; exact below_alloc (Below.refl _ _) _)
  have C163 := Lib.hid (fun s' => f163 s' w1)
  have hlt : w.heap.size < w1.heap.size := by rw [h1]; simp
  have BLK := Lib.hid blk
  clear blk
  go_enter Tryz.func114, Tryz.ntmps114
  go_wp2_with (fail)
  rw [← h1]
  clear h1
  refine (C163.out _).mono ?_
  rintro e w2 ⟨g, o, n, rfl, hb⟩
  have HB := Lib.hid hb
  have blk2 : w2.heap[w.heap.size]? = some (.cells #[.pointer none, .string ⟨#[]⟩, .int .u64 0] 83 (0, 0)) := (hb.block _ hlt).trans BLK.out
  have c0 : w2.cell? ⟨w.heap.size, 0, none⟩ = some (.pointer none) := (blk_cell blk2 0).trans rfl
  have c1 : w2.cell? ⟨w.heap.size, 1, none⟩ = some (.string ⟨#[]⟩) := (blk_cell blk2 1).trans rfl
  have c2 : w2.cell? ⟨w.heap.size, 2, none⟩ = some (.int .u64 0) := (blk_cell blk2 2).trans rfl
  have z0 := blk_frozen blk2 0
  have z1 := blk_frozen blk2 1
  have z2 := blk_frozen blk2 2
  have BLK2 := Lib.hid blk2
  clear hb blk2
  go_wp2_with (fail)
  clear c0 c1 c2 z0 z1 z2
  obtain ⟨w4, h4, d0, oth, z4⟩ := slot3 w2 w.heap.size 83 _ _ _ (.pointer (some ⟨g, o, none⟩)) (.string ⟨#[]⟩) (.int .u64 n) BLK2.out
  rw [← h4]
  have e0 : w4.cell? ⟨w.heap.size, 0, none⟩ = some (.pointer (some ⟨g, o, none⟩)) := by simp [World.cell?, d0]
  have e1 : w4.cell? ⟨w.heap.size, 1, none⟩ = some (.string ⟨#[]⟩) := by simp [World.cell?, d0]
  have e2 : w4.cell? ⟨w.heap.size, 2, none⟩ = some (.int .u64 n) := by simp [World.cell?, d0]
  refine bodyPost_ret (v := .agg #[.pointer (some ⟨g, o, none⟩), .string ⟨#[]⟩, .int .u64 n]) (by simp [results, Tryz.results114, go_sem, e0, e1, e2]) rfl ?_
  refine ⟨g, o, n, rfl, ?_⟩
  rw [h4]
  exact ((((HB0.out.trans (HB.out.mono HB0.out.size))).setCell (Nat.le_refl _) _).setCell (Nat.le_refl _) _).setCell (Nat.le_refl _) _
set_option maxRecDepth 100000 in
theorem f116 (w : World) : Calls Tryz.prog 116 #[] w (TokP w) := by
  obtain ⟨w1, h1⟩ : ∃ x, x = w.alloc (.cells #[.pointer none, .string ⟨#[]⟩, .int .u64 0] 83) := ⟨_, rfl⟩
  have blk : w1.heap[w.heap.size]? = some (.cells #[.pointer none, .string ⟨#[]⟩, .int .u64 0] 83 (0, 0)) := by rw [h1]; exact heap_alloc_new w _
  have HB0 := Lib.hid (show Below w.heap.size w w1 by rw [h1]; exact below_alloc (Below.refl _ _) _)
  have C163 := Lib.hid (fun s' => f163 s' w1)
  have hlt : w.heap.size < w1.heap.size := by rw [h1]; simp
  have BLK := Lib.hid blk
  clear blk
  go_enter Tryz.func116, Tryz.ntmps116
  go_wp2_with (fail)
  rw [← h1]
  clear h1
  refine (C163.out _).mono ?_
  rintro e w2 ⟨g, o, n, rfl, hb⟩
  have HB := Lib.hid hb
  have blk2 : w2.heap[w.heap.size]? = some (.cells #[.pointer none, .string ⟨#[]⟩, .int .u64 0] 83 (0, 0)) := (hb.block _ hlt).trans BLK.out
  have c0 : w2.cell? ⟨w.heap.size, 0, none⟩ = some (.pointer none) := (blk_cell blk2 0).trans rfl
  have c1 : w2.cell? ⟨w.heap.size, 1, none⟩ = some (.string ⟨#[]⟩) := (blk_cell blk2 1).trans rfl
  have c2 : w2.cell? ⟨w.heap.size, 2, none⟩ = some (.int .u64 0) := (blk_cell blk2 2).trans rfl
  have z0 := blk_frozen blk2 0
  have z1 := blk_frozen blk2 1
  have z2 := blk_frozen blk2 2
  have BLK2 := Lib.hid blk2
  clear hb blk2
  go_wp2_with (fail)
  clear c0 c1 c2 z0 z1 z2
  obtain ⟨w4, h4, d0, oth, z4⟩ := slot3 w2 w.heap.size 83 _ _ _ (.pointer (some ⟨g, o, none⟩)) (.string ⟨#[]⟩) (.int .u64 n) BLK2.out
  rw [← h4]
  have e0 : w4.cell? ⟨w.heap.size, 0, none⟩ = some (.pointer (some ⟨g, o, none⟩)) := by simp [World.cell?, d0]
  have e1 : w4.cell? ⟨w.heap.size, 1, none⟩ = some (.string ⟨#[]⟩) := by simp [World.cell?, d0]
  have e2 : w4.cell? ⟨w.heap.size, 2, none⟩ = some (.int .u64 n) := by simp [World.cell?, d0]
  refine bodyPost_ret (v := .agg #[.pointer (some ⟨g, o, none⟩), .string ⟨#[]⟩, .int .u64 n]) (by simp [results, Tryz.results116, go_sem, e0, e1, e2]) rfl ?_
  refine ⟨g, o, n, rfl, ?_⟩
  rw [h4]
  exact ((((HB0.out.trans (HB.out.mono HB0.out.size))).setCell (Nat.le_refl _) _).setCell (Nat.le_refl _) _).setCell (Nat.le_refl _) _
set_option maxRecDepth 100000 in
theorem f118 (w : World) : Calls Tryz.prog 118 #[] w (TokP w) := by
  obtain ⟨w1, h1⟩ : ∃ x, x = w.alloc (.cells #[.pointer none, .string ⟨#[]⟩, .int .u64 0] 83) := ⟨_, rfl⟩
  have blk : w1.heap[w.heap.size]? = some (.cells #[.pointer none, .string ⟨#[]⟩, .int .u64 0] 83 (0, 0)) := by rw [h1]; exact heap_alloc_new w _
  have HB0 := Lib.hid (show Below w.heap.size w w1 by rw [h1]; exact below_alloc (Below.refl _ _) _)
  have C163 := Lib.hid (fun s' => f163 s' w1)
  have hlt : w.heap.size < w1.heap.size := by rw [h1]; simp
  have BLK := Lib.hid blk
  clear blk
  go_enter Tryz.func118, Tryz.ntmps118
  go_wp2_with (fail)
  rw [← h1]
  clear h1
  refine (C163.out _).mono ?_
  rintro e w2 ⟨g, o, n, rfl, hb⟩
  have HB := Lib.hid hb
  have blk2 : w2.heap[w.heap.size]? = some (.cells #[.pointer none, .string ⟨#[]⟩, .int .u64 0] 83 (0, 0)) := (hb.block _ hlt).trans BLK.out
  have c0 : w2.cell? ⟨w.heap.size, 0, none⟩ = some (.pointer none) := (blk_cell blk2 0).trans rfl
  have c1 : w2.cell? ⟨w.heap.size, 1, none⟩ = some (.string ⟨#[]⟩) := (blk_cell blk2 1).trans rfl
  have c2 : w2.cell? ⟨w.heap.size, 2, none⟩ = some (.int .u64 0) := (blk_cell blk2 2).trans rfl
  have z0 := blk_frozen blk2 0
  have z1 := blk_frozen blk2 1
  have z2 := blk_frozen blk2 2
  have BLK2 := Lib.hid blk2
  clear hb blk2
  go_wp2_with (fail)
  clear c0 c1 c2 z0 z1 z2
  obtain ⟨w4, h4, d0, oth, z4⟩ := slot3 w2 w.heap.size 83 _ _ _ (.pointer (some ⟨g, o, none⟩)) (.string ⟨#[]⟩) (.int .u64 n) BLK2.out
  rw [← h4]
  have e0 : w4.cell? ⟨w.heap.size, 0, none⟩ = some (.pointer (some ⟨g, o, none⟩)) := by simp [World.cell?, d0]
  have e1 : w4.cell? ⟨w.heap.size, 1, none⟩ = some (.string ⟨#[]⟩) := by simp [World.cell?, d0]
  have e2 : w4.cell? ⟨w.heap.size, 2, none⟩ = some (.int .u64 n) := by simp [World.cell?, d0]
  refine bodyPost_ret (v := .agg #[.pointer (some ⟨g, o, none⟩), .string ⟨#[]⟩, .int .u64 n]) (by simp [results, Tryz.results118, go_sem, e0, e1, e2]) rfl ?_
  refine ⟨g, o, n, rfl, ?_⟩
  rw [h4]
  exact ((((HB0.out.trans (HB.out.mono HB0.out.size))).setCell (Nat.le_refl _) _).setCell (Nat.le_refl _) _).setCell (Nat.le_refl _) _
set_option maxRecDepth 100000 in
theorem f127 (w : World) : Calls Tryz.prog 127 #[] w (TokP w) := by
  obtain ⟨w1, h1⟩ : ∃ x, x = w.alloc (.cells #[.pointer none, .string ⟨#[]⟩, .int .u64 0] 83) := ⟨_, rfl⟩
  have blk : w1.heap[w.heap.size]? = some (.cells #[.pointer none, .string ⟨#[]⟩, .int .u64 0] 83 (0, 0)) := by rw [h1]; exact heap_alloc_new w _
  have HB0 := Lib.hid (show Below w.heap.size w w1 by rw [h1]; exact below_alloc (Below.refl _ _) _)
  have C163 := Lib.hid (fun s' => f163 s' w1)
  have hlt : w.heap.size < w1.heap.size := by rw [h1]; simp
  have BLK := Lib.hid blk
  clear blk
  go_enter Tryz.func127, Tryz.ntmps127
  go_wp2_with (fail)
  rw [← h1]
  clear h1
  refine (C163.out _).mono ?_
  rintro e w2 ⟨g, o, n, rfl, hb⟩
  have HB := Lib.hid hb
  have blk2 : w2.heap[w.heap.size]? = some (.cells #[.pointer none, .string ⟨#[]⟩, .int .u64 0] 83 (0, 0)) := (hb.block _ hlt).trans BLK.out
  have c0 : w2.cell? ⟨w.heap.size, 0, none⟩ = some (.pointer none) := (blk_cell blk2 0).trans rfl
  have c1 : w2.cell? ⟨w.heap.size, 1, none⟩ = some (.string ⟨#[]⟩) := (blk_cell blk2 1).trans rfl
  have c2 : w2.cell? ⟨w.heap.size, 2, none⟩ = some (.int .u64 0) := (blk_cell blk2 2).trans rfl
  have z0 := blk_frozen blk2 0
  have z1 := blk_frozen blk2 1
  have z2 := blk_frozen blk2 2
  have BLK2 := Lib.hid blk2
  clear hb blk2
  go_wp2_with (fail)
  clear c0 c1 c2 z0 z1 z2
  obtain ⟨w4, h4, d0, oth, z4⟩ := slot3 w2 w.heap.size 83 _ _ _ (.pointer (some ⟨g, o, none⟩)) (.string ⟨#[]⟩) (.int .u64 n) BLK2.out
  rw [← h4]
  have e0 : w4.cell? ⟨w.heap.size, 0, none⟩ = some (.pointer (some ⟨g, o, none⟩)) := by simp [World.cell?, d0]
  have e1 : w4.cell? ⟨w.heap.size, 1, none⟩ = some (.string ⟨#[]⟩) := by simp [World.cell?, d0]
  have e2 : w4.cell? ⟨w.heap.size, 2, none⟩ = some (.int .u64 n) := by simp [World.cell?, d0]
  refine bodyPost_ret (v := .agg #[.pointer (some ⟨g, o, none⟩), .string ⟨#[]⟩, .int .u64 n]) (by simp [results, Tryz.results127, go_sem, e0, e1, e2]) rfl ?_
  refine ⟨g, o, n, rfl, ?_⟩
  rw [h4]
  exact ((((HB0.out.trans (HB.out.mono HB0.out.size))).setCell (Nat.le_refl _) _).setCell (Nat.le_refl _) _).setCell (Nat.le_refl _) _
set_option maxRecDepth 100000 in
theorem f131 (w : World) : Calls Tryz.prog 131 #[] w (TokP w) := by
  obtain ⟨w1, h1⟩ : ∃ x, x = w.alloc (.cells #[.pointer none, .string ⟨#[]⟩, .int .u64 0] 83) := ⟨_, rfl⟩
  have blk : w1.heap[w.heap.size]? = some (.cells #[.pointer none, .string ⟨#[]⟩, .int .u64 0] 83 (0, 0)) := by rw [h1]; exact heap_alloc_new w _
  have HB0 := Lib.hid (show Below w.heap.size w w1 by rw [h1]; exact below_alloc (Below.refl _ _) _)
  have C163 := Lib.hid (fun s' => f163 s' w1)
  have hlt : w.heap.size < w1.heap.size := by rw [h1]; simp
  have BLK := Lib.hid blk
  clear blk
  go_enter Tryz.func131, Tryz.ntmps131
  go_wp2_with (fail)
  rw [← h1]
  clear h1
  refine (C163.out _).mono ?_
  rintro e w2 ⟨g, o, n, rfl, hb⟩
  have HB := Lib.hid hb
  have blk2 : w2.heap[w.heap.size]? = some (.cells #[.pointer none, .string ⟨#[]⟩, .int .u64 0] 83 (0, 0)) := (hb.block _ hlt).trans BLK.out
  have c0 : w2.cell? ⟨w.heap.size, 0, none⟩ = some (.pointer none) := (blk_cell blk2 0).trans rfl
  have c1 : w2.cell? ⟨w.heap.size, 1, none⟩ = some (.string ⟨#[]⟩) := (blk_cell blk2 1).trans rfl
  have c2 : w2.cell? ⟨w.heap.size, 2, none⟩ = some (.int .u64 0) := (blk_cell blk2 2).trans rfl
  have z0 := blk_frozen blk2 0
  have z1 := blk_frozen blk2 1
  have z2 := blk_frozen blk2 2
  have BLK2 := Lib.hid blk2
  clear hb blk2
  go_wp2_with (fail)
  clear c0 c1 c2 z0 z1 z2
  obtain ⟨w4, h4, d0, oth, z4⟩ := slot3 w2 w.heap.size 83 _ _ _ (.pointer (some ⟨g, o, none⟩)) (.string ⟨#[]⟩) (.int .u64 n) BLK2.out
  rw [← h4]
  have e0 : w4.cell? ⟨w.heap.size, 0, none⟩ = some (.pointer (some ⟨g, o, none⟩)) := by simp [World.cell?, d0]
  have e1 : w4.cell? ⟨w.heap.size, 1, none⟩ = some (.string ⟨#[]⟩) := by simp [World.cell?, d0]
  have e2 : w4.cell? ⟨w.heap.size, 2, none⟩ = some (.int .u64 n) := by simp [World.cell?, d0]
  refine bodyPost_ret (v := .agg #[.pointer (some ⟨g, o, none⟩), .string ⟨#[]⟩, .int .u64 n]) (by simp [results, Tryz.results131, go_sem, e0, e1, e2]) rfl ?_
  refine ⟨g, o, n, rfl, ?_⟩
  rw [h4]
  exact ((((HB0.out.trans (HB.out.mono HB0.out.size))).setCell (Nat.le_refl _) _).setCell (Nat.le_refl _) _).setCell (Nat.le_refl _) _
end Go.Proofs.YtjfbkgkpjkickaaGreatDoor.PAll
-- YtjfbkgkpjkickaaGreatDoorCd0
set_option linter.unusedVariables false
set_option linter.unusedSimpArgs false
namespace Go.Proofs.YtjfbkgkpjkickaaGreatDoor.PAll
open Go.RowKit Go.Proofs.YtjfbkgkpjkickaaGreatDoorW.PrintWords Go.Proofs.YtjfbkgkpjkickaaGreatDoorW.PrintLast Go.Proofs.YtjfbkgkpjkickaaGreatDoorW.PrintMore

/-- white space, then a token or the end: what is told -/
def RT (t : List Int) (q : Nat) (G : GV) (D : Nat) (w : World) (e : Ending) (w' : World) : Prop :=
  ∃ v x : Value, e = .returned (.tuple #[v, x]) ∧ BB D w w' ∧ (∃ s', DecAt w' D s') ∧ (∃ (p : Option Addr) (k : Int), v = .agg #[.pointer p, .string ⟨#[]⟩, .int .u64 k]) ∧
    ((q + wsN (t.drop q) = t.length ∧ x = .iface 265 (.pointer (some G.eof))) ∨ (q + wsN (t.drop q) < t.length ∧ (x = .nilIface ∨ ∃ g : Nat, x = .iface 67 (.pointer (some ⟨g, 0, none⟩)))))
set_option maxRecDepth 100000 in
theorem f121 (D : Nat) (s : DS) (p : Nat) (w : World) (hD : DecAt w D s) (hp : s.ps = p) (hp2 : p ≤ 4000000000) : Calls Tryz.prog 121 #[.pointer (some ⟨D, 5, none⟩)] w fun e w' => e = .returned (.int .i64 p) ∧ Drawn0 w w' := by
  have c8 : w.cell? ⟨D, 8, none⟩ = some (.int .i64 p) := hD.cell 8 _ (by rw [← hp]; rfl)
  have c10 : w.cell? ⟨D, 10, none⟩ = some (.int .i64 0) := hD.cell 10 _ rfl
  have hw : wrap64 (p : Int) = p := by unfold wrap64; omega
  clear hD hp
  go_enter Tryz.func121, Tryz.ntmps121
  go_wp2_with (fail)
  go_quiet (fail)
  go_wp2_with (fail)
  go_returns
  exact ⟨rfl, _, rfl⟩
theorem BB.setNew {F T : Nat} {w a : World} (h : BB F w a) (hT : w.heap.size ≤ T) (j : Nat) (u : Value) : BB F w (a.setCell ⟨T, j, none⟩ u) :=
  ⟨h.os, h.tape, h.output, by rw [World.size_setCell]; exact h.size, fun k hk hn => (Below.heap_setCell a ⟨T, j, none⟩ u k (by show k ≠ T; omega)).trans (h.block k hk hn)⟩
theorem BB.far {F E : Nat} {w a b : World} (h : BB F w a) (k : BB E a b) (hE : w.heap.size ≤ E) : BB F w b :=
  ⟨k.os.trans h.os, k.tape.trans h.tape, k.output.trans h.output, Nat.le_trans h.size k.size, fun i hi hn => (k.block i (Nat.lt_of_lt_of_le hi h.size) (by omega)).trans (h.block i hi hn)⟩
theorem BB.blk {F T : Nat} {w w' : World} {o : Obj} (h : BB F w w') (ht : w.heap[T]? = some o) (hn : T ≠ F) : w'.heap[T]? = some o := by
  rw [h.block T (Array.getElem?_eq_some_iff.1 ht).1 hn]; exact ht
theorem Below.blk {T : Nat} {w w' : World} {o : Obj} (h : Below w.heap.size w w') (ht : w.heap[T]? = some o) : w'.heap[T]? = some o := by
  rw [h.block T (Array.getElem?_eq_some_iff.1 ht).1]; exact ht
end Go.Proofs.YtjfbkgkpjkickaaGreatDoor.PAll
-- YtjfbkgkpjkickaaGreatDoorCe
set_option linter.unusedVariables false
set_option linter.unusedSimpArgs false
namespace Go.Proofs.YtjfbkgkpjkickaaGreatDoor.PAll
open Go.RowKit Go.Proofs.YtjfbkgkpjkickaaGreatDoorW.PrintWords Go.Proofs.YtjfbkgkpjkickaaGreatDoorW.PrintLast Go.Proofs.YtjfbkgkpjkickaaGreatDoorW.PrintMore

set_option maxRecDepth 100000 in
theorem f37 (D B c q : Nat) (t : List Int) (s : DS) (loose dup : Bool) (E : List Int → Option Nat) (w : World) (G : GV) (hI : Inv w G D B c t s loose dup) (hT : Top s) (hpe : s.pe = (q : Int)) (hql : q ≤ t.length)
    (hK : ∀ l n, E l = some n → rd l 0 = 110 ∨ rd l 0 = 102 ∨ rd l 0 = 116 ∨ rd l 0 = 34 ∨ rd l 0 = 45 ∨ isD (rd l 0))
    (hE : ∀ l, rd l 0 = 58 ∨ rd l 0 = 44 → E l = none)
    (C95 : ∀ F W p, D < F → p = q + wsN (t.drop q) → p < t.length → Inv W G D B c t s loose dup → FlAt W F 0 → Calls Tryz.prog 95 #[.pointer (some ⟨D, 0, none⟩), .pointer (some ⟨F, 0, none⟩), .int .i64 p, .int .i64 1] W (ValAt (E (t.drop p)) t p G F W)) :
    Calls Tryz.prog 37 #[.pointer (some ⟨D, 0, none⟩)] w (RV E t q s G D w) := by
  obtain ⟨w0, hw0⟩ : ∃ x, x = w.alloc (.cells #[.int .u64 0] 140) := ⟨_, rfl⟩
  have hb : Below w.heap.size w w0 := by rw [hw0]; exact below_alloc (Below.refl _ _) _
  have hfl : FlAt w0 w.heap.size 0 := by rw [hw0]; exact heap_alloc_new w _
  have C71 := Lib.hid (f71 D B c w.heap.size q t s loose dup E w0 G (hI.mono hb) hT hI.ltD hfl hpe hql hK hE (fun W p h1 h2 h3 h4 => C95 _ W p hI.ltD h1 h2 h3 h4))
  have HB := Lib.hid (hb.mono (Nat.le_of_lt hI.ltD))
  clear hI hT hpe hK hE C95 hfl hb
  go_enter Tryz.func37, Tryz.ntmps37
  go_wp2_with (fail)
  rw [← hw0]
  clear hw0
  refine C71.out.mono ?_
  rintro e w1 ⟨v, x, rfl, hb1, hr⟩
  have HB1 := Lib.hid hb1
  have HR := Lib.hid hr
  clear hb1 hr
  go_wp2_with (fail)
  go_returns
  exact ⟨v, x, rfl, HB.out.trans HB1.out, HR.out⟩
end Go.Proofs.YtjfbkgkpjkickaaGreatDoor.PAll
