/- The tokens: truth values. -/
import Derived.Test.YtokkjljncoiajaaDoorTd
namespace Go.Proofs.YtokkjljncoiajaaDoor
open Go.RowKit
set_option maxRecDepth 100000 in
theorem w31 (g b cap : Nat) (s : ByteArray) (w : World) (h : RawAt w g b cap s) (hs : 1 ≤ s.size) : Calls Tryd.prog 31 #[tok g] w fun e w' => e = .returned (.string s) ∧ Below w.heap.size w w' := by
  obtain ⟨W, hW⟩ : ∃ x, x = w.alloc (.cells #[.pointer (some ⟨g, 0, none⟩), .string ⟨#[]⟩, .int .u64 0] 40) := ⟨_, rfl⟩
  have A : RawAt W g b cap s := hW ▸ h.alloc hs _
  have H := A.blk
  have a0 : W.cell? ⟨g, 7, none⟩ = some (.string s) := by simp [World.cell?, H]
  clear H A h
  subst hW
  unfold tok
  go_enter Tryd.func31, Tryd.ntmps31
  go_wp2_with (fail)
  go_returns
  exact ⟨rfl, by repeat (first | exact (Below.refl w.heap.size w).alloc (Nat.le_refl _) _ | refine bdn ?_ _)⟩
set_option maxRecDepth 100000 in
theorem w23t (g b cap : Nat) (w : World) (h : RawAt w g b cap ⟨#[116, 114, 117, 101]⟩) : Calls Tryd.prog 23 #[tok g] w fun e w' => e = .returned (.bool true) ∧ Below w.heap.size w w' := by
  obtain ⟨W, hW⟩ : ∃ x, x = w.alloc (.cells #[.pointer (some ⟨g, 0, none⟩), .string ⟨#[]⟩, .int .u64 0] 40) := ⟨_, rfl⟩
  have A : RawAt W g b cap _ := hW ▸ h.alloc (by decide) _
  have BW : Below w.heap.size w W := by rw [hW]; exact (Below.refl w.heap.size w).alloc (Nat.le_refl _) _
  have C := (w31 g b cap _ W A (by decide)).mono fun e w' ⟨h1, h2⟩ => (⟨h1, BW.trans (h2.mono BW.size)⟩ : _ ∧ Below w.heap.size w w')
  unfold tok at C
  have HC := Lib.hid C
  clear C A BW h
  subst hW
  unfold tok
  go_enter Tryd.func23, Tryd.ntmps23
  go_wp2_with (fail)
  refine (HC.out).mono ?_
  rintro e w' ⟨rfl, q⟩
  have Q := Lib.hid q
  clear q
  go_wp2_with (fail)
  go_returns
  exact ⟨rfl, Q.out⟩
set_option maxRecDepth 100000 in
theorem w23f (g b cap : Nat) (w : World) (h : RawAt w g b cap ⟨#[102, 97, 108, 115, 101]⟩) : Calls Tryd.prog 23 #[tok g] w fun e w' => e = .returned (.bool false) ∧ Below w.heap.size w w' := by
  obtain ⟨W, hW⟩ : ∃ x, x = w.alloc (.cells #[.pointer (some ⟨g, 0, none⟩), .string ⟨#[]⟩, .int .u64 0] 40) := ⟨_, rfl⟩
  have A : RawAt W g b cap _ := hW ▸ h.alloc (by decide) _
  have BW : Below w.heap.size w W := by rw [hW]; exact (Below.refl w.heap.size w).alloc (Nat.le_refl _) _
  have C := (w31 g b cap _ W A (by decide)).mono fun e w' ⟨h1, h2⟩ => (⟨h1, BW.trans (h2.mono BW.size)⟩ : _ ∧ Below w.heap.size w w')
  unfold tok at C
  have HC := Lib.hid C
  clear C A BW h
  subst hW
  unfold tok
  go_enter Tryd.func23, Tryd.ntmps23
  go_wp2_with (fail)
  refine (HC.out).mono ?_
  rintro e w' ⟨rfl, q⟩
  have Q := Lib.hid q
  clear q
  go_wp2_with (fail)
  go_returns
  exact ⟨rfl, Q.out⟩
set_option maxRecDepth 100000 in
theorem w22t (w : World) : Calls Tryd.prog 22 #[.bool true] w (TokPost ⟨#[116, 114, 117, 101]⟩ w) := by
  have C := w29
  have HC := Lib.hid C
  clear C
  go_enter Tryd.func22, Tryd.ntmps22
  go_wp2_with (fail)
  refine (HC.out _).mono ?_
  rintro e w' ⟨g, b, cap, rfl, g1, g2, h1, h2⟩
  have H1 := Lib.hid h1
  have H2 := Lib.hid h2
  have blk : w'.heap[w.heap.size]? = some (.cells #[.pointer none, .string ⟨#[]⟩, .int .u64 0] 40 (0, 0)) := by
    rw [h2.block _ (by simp)]; exact heap_alloc_new w _
  have G1 := Lib.hid g1
  have G2 := Lib.hid g2
  have BLK := Lib.hid blk
  have c0 : w'.cell? ⟨w.heap.size, 0, none⟩ = some (.pointer none) := by simp [World.cell?, blk]
  have c1 : w'.cell? ⟨w.heap.size, 1, none⟩ = some (.string ⟨#[]⟩) := by simp [World.cell?, blk]
  have c2 : w'.cell? ⟨w.heap.size, 2, none⟩ = some (.int .u64 0) := by simp [World.cell?, blk]
  have f0 : ∀ i, w'.frozen? ⟨w.heap.size, i, none⟩ = false := fun i => by simp [World.frozen?, blk]
  clear blk h1 h2 g1 g2
  unfold tok
  go_wp2_with (fail)
  clear c0 c1 c2 f0
  obtain ⟨w4, h4, d0, oth, z4⟩ := slot3 w' w.heap.size 40 _ _ _ (.pointer (some ⟨g, 0, none⟩)) (.string ⟨#[]⟩) (.int .u64 0) BLK.out
  rw [← h4]
  have e0 : w4.cell? ⟨w.heap.size, 0, none⟩ = some (.pointer (some ⟨g, 0, none⟩)) := by simp [World.cell?, d0]
  have e1 : w4.cell? ⟨w.heap.size, 1, none⟩ = some (.string ⟨#[]⟩) := by simp [World.cell?, d0]
  have e2 : w4.cell? ⟨w.heap.size, 2, none⟩ = some (.int .u64 0) := by simp [World.cell?, d0]
  refine bodyPost_ret (v := tok g) (by simp [results, Tryd.results22, go_sem, e0, e1, e2, tok]) rfl ?_
  have q1 := G1.out
  have q2 := G2.out
  have q3 := H2.out
  have q4 := H1.out
  have q0 : (w.alloc (.cells #[.pointer none, .string ⟨#[]⟩, .int .u64 0] 40)).heap.size = w.heap.size + 1 := by simp
  rw [q0] at q1 q2
  refine ⟨g, b, cap, rfl, by omega, by omega, q4.move (oth g (by omega)) (oth b (by omega)), ?_⟩
  rw [h4]
  refine Below.setCell (Below.setCell (Below.setCell ?_ ?_ _) ?_ _) ?_ _
  · exact ((Below.refl w.heap.size w).alloc (Nat.le_refl _) _).trans (q3.mono (by simp))
  all_goals simp
set_option maxRecDepth 100000 in
theorem w22f (w : World) : Calls Tryd.prog 22 #[.bool false] w (TokPost ⟨#[102, 97, 108, 115, 101]⟩ w) := by
  have C := w30
  have HC := Lib.hid C
  clear C
  go_enter Tryd.func22, Tryd.ntmps22
  go_wp2_with (fail)
  refine (HC.out _).mono ?_
  rintro e w' ⟨g, b, cap, rfl, g1, g2, h1, h2⟩
  have H1 := Lib.hid h1
  have H2 := Lib.hid h2
  have blk : w'.heap[w.heap.size]? = some (.cells #[.pointer none, .string ⟨#[]⟩, .int .u64 0] 40 (0, 0)) := by
    rw [h2.block _ (by simp)]; exact heap_alloc_new w _
  have G1 := Lib.hid g1
  have G2 := Lib.hid g2
  have BLK := Lib.hid blk
  have c0 : w'.cell? ⟨w.heap.size, 0, none⟩ = some (.pointer none) := by simp [World.cell?, blk]
  have c1 : w'.cell? ⟨w.heap.size, 1, none⟩ = some (.string ⟨#[]⟩) := by simp [World.cell?, blk]
  have c2 : w'.cell? ⟨w.heap.size, 2, none⟩ = some (.int .u64 0) := by simp [World.cell?, blk]
  have f0 : ∀ i, w'.frozen? ⟨w.heap.size, i, none⟩ = false := fun i => by simp [World.frozen?, blk]
  clear blk h1 h2 g1 g2
  unfold tok
  go_wp2_with (fail)
  clear c0 c1 c2 f0
  obtain ⟨w4, h4, d0, oth, z4⟩ := slot3 w' w.heap.size 40 _ _ _ (.pointer (some ⟨g, 0, none⟩)) (.string ⟨#[]⟩) (.int .u64 0) BLK.out
  rw [← h4]
  have e0 : w4.cell? ⟨w.heap.size, 0, none⟩ = some (.pointer (some ⟨g, 0, none⟩)) := by simp [World.cell?, d0]
  have e1 : w4.cell? ⟨w.heap.size, 1, none⟩ = some (.string ⟨#[]⟩) := by simp [World.cell?, d0]
  have e2 : w4.cell? ⟨w.heap.size, 2, none⟩ = some (.int .u64 0) := by simp [World.cell?, d0]
  refine bodyPost_ret (v := tok g) (by simp [results, Tryd.results22, go_sem, e0, e1, e2, tok]) rfl ?_
  have q1 := G1.out
  have q2 := G2.out
  have q3 := H2.out
  have q4 := H1.out
  have q0 : (w.alloc (.cells #[.pointer none, .string ⟨#[]⟩, .int .u64 0] 40)).heap.size = w.heap.size + 1 := by simp
  rw [q0] at q1 q2
  refine ⟨g, b, cap, rfl, by omega, by omega, q4.move (oth g (by omega)) (oth b (by omega)), ?_⟩
  rw [h4]
  refine Below.setCell (Below.setCell (Below.setCell ?_ ?_ _) ?_ _) ?_ _
  · exact ((Below.refl w.heap.size w).alloc (Nat.le_refl _) _).trans (q3.mono (by simp))
  all_goals simp
/-- a call that lays new rows alone: the slot and the token's rows stay -/
theorem keep_slot {W W' : World} {p g : Nat} (hs : W.heap[p]? = some (.cells #[.pointer (some ⟨g, 0, none⟩), .string ⟨#[]⟩, .int .u64 0] 40 (0, 0))) (hb : Below W.heap.size W W') :
    W'.cell? ⟨p, 0, none⟩ = some (.pointer (some ⟨g, 0, none⟩)) ∧ W'.cell? ⟨p, 1, none⟩ = some (.string ⟨#[]⟩) ∧ W'.cell? ⟨p, 2, none⟩ = some (.int .u64 0) := by
  have h : W'.heap[p]? = some (.cells #[.pointer (some ⟨g, 0, none⟩), .string ⟨#[]⟩, .int .u64 0] 40 (0, 0)) := by rw [hb.block p (Array.getElem?_eq_some_iff.1 hs).1]; exact hs
  exact ⟨by simp [World.cell?, h], by simp [World.cell?, h], by simp [World.cell?, h]⟩
end Go.Proofs.YtokkjljncoiajaaDoor
