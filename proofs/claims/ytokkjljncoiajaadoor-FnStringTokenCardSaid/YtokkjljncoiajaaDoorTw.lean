/- The tokens: the token of the empty string. -/
import Derived.Test.YtokkjljncoiajaaDoorTe
import Derived.Deep.LoopGhost
set_option linter.unusedVariables false
set_option linter.unusedSimpArgs false
namespace Go.Proofs.YtokkjljncoiajaaDoor
open Go.RowKit
set_option maxHeartbeats 1600000 in
set_option maxRecDepth 100000 in
theorem w35 (b cap : Nat) (w : World) (c0 : w.cell? ⟨b, 0, none⟩ = some (.int .u8 34)) (c1 : w.cell? ⟨b, 1, none⟩ = some (.int .u8 34)) (ce : w.cell? ⟨1, 34, none⟩ = some (.int .u8 1)) (hc : 2 ≤ cap) (hc2 : cap ≤ 9223372036854775807) :
    Calls Tryd.prog 35 #[.slice (some ⟨b, 0, none⟩) 2 cap] w fun e w' => e = .returned (.int .i64 2) ∧ ∃ n, w' = w.drewN n := by
  go_enter Tryd.func35, Tryd.ntmps35
  go_wp2_with (fail)
  go_loopg [2] 1 (fun kq v2 w' => v2 = .int .i64 1 ∧ ∃ n, w' = w.drewN n)
  case atStart => exact ⟨rfl, 0, by simp [World.drewN_zero]⟩
  case round =>
    obtain ⟨rfl, m1, rfl⟩ := hrel
    go_wp2_with (fail)
    go_ret
    exact ⟨rfl, _, rfl⟩
set_option maxHeartbeats 1600000 in
set_option maxRecDepth 100000 in
theorem w36 (b cap : Nat) (w : World) (hc : 2 ≤ cap) (hc2 : cap ≤ 9223372036854775807) :
    Calls Tryd.prog 36 #[.slice (some ⟨b, 0, none⟩) 2 cap, .bool true] w fun e w' => e = .returned (.slice (some ⟨b, 1, none⟩) 0 (cap - 1)) ∧ ∃ n, w' = w.drewN n := by
  go_enter Tryd.func36, Tryd.ntmps36
  go_wp2_with (fail)
  go_ret
  exact ⟨by first | rfl | simp, 0, by simp [World.drewN_zero]⟩
set_option maxHeartbeats 1600000 in
set_option maxRecDepth 100000 in
theorem w27q (g b cap : Nat) (w : World) (h : RawAt w g b cap ⟨#[34, 34]⟩) (ce : w.cell? ⟨1, 34, none⟩ = some (.int .u8 1)) (h1 : 2 ≤ w.heap.size) :
    Calls Tryd.prog 27 #[tok g] w fun e w' => e = .returned (.tuple #[.string ⟨#[]⟩, .slice (some ⟨b, 1, none⟩) 0 (cap - 1)]) ∧ Below w.heap.size w w' := by
  obtain ⟨W, hW⟩ : ∃ x, x = w.alloc (.cells #[.pointer (some ⟨g, 0, none⟩), .string ⟨#[]⟩, .int .u64 0] 40) := ⟨_, rfl⟩
  have A : RawAt W g b cap ⟨#[34, 34]⟩ := hW ▸ h.alloc (by decide) _
  have C := fun n => w25 g b cap _ (W.drewN n) (A.drewN n)
  have C34 := fun n => w34 g b cap _ (W.drewN n) (A.drewN n) (by decide)
  have a0 : W.cell? ⟨b, 0, none⟩ = some (.int .u8 34) := by rw [A.bytes 0 (by decide)]; rfl
  have a1 : W.cell? ⟨b, 1, none⟩ = some (.int .u8 34) := by rw [A.bytes 1 (by decide)]; rfl
  have l1 : 2 ≤ cap := h.cap1
  have l2 : cap ≤ 9223372036854775807 := h.cap2 (by decide)
  have k1 : W.cell? ⟨1, 34, none⟩ = some (.int .u8 1) := by
    rw [hW, ← ce]; simp only [World.cell?, heap_alloc_old w _ (show 1 < w.heap.size by omega)]
  have C35 := fun n => w35 b cap (W.drewN n) (by simpa using a0) (by simpa using a1) (by simpa using k1) l1 l2
  have C36 := fun W => w36 b cap W l1 l2
  have HC := Lib.hid C
  have HC34 := Lib.hid C34
  have HC35 := Lib.hid C35
  have HC36 := Lib.hid C36
  clear C C34 C35 C36 A h h1 ce k1 a1
  subst hW
  unfold tok
  go_enter Tryd.func27, Tryd.ntmps27
  go_wp2_with (fail)
  go_quiet ((go_at_call 25; exact Calls.quiet_of (HC.out _)))
  go_wp2_with (fail)
  refine (HC34.out _).mono ?_
  rintro e w' ⟨rfl, m, rfl⟩
  go_wp2_with (fail)
  refine (HC35.out _).mono ?_
  rintro e w' ⟨rfl, m2, rfl⟩
  go_wp2_with (fail)
  refine (HC36.out _).mono ?_
  rintro e w' ⟨rfl, m3, rfl⟩
  go_wp2_with (fail)
  go_returns
  exact ⟨rfl, by repeat (first | exact (Below.refl w.heap.size w).alloc (Nat.le_refl _) _ | refine bdn ?_ _)⟩
set_option maxRecDepth 100000 in
theorem w17q (g b cap : Nat) (w : World) (h : RawAt w g b cap ⟨#[34, 34]⟩) (ce : w.cell? ⟨1, 34, none⟩ = some (.int .u8 1)) (h1 : 2 ≤ w.heap.size) :
    Calls Tryd.prog 17 #[tok g] w fun e w' => e = .returned (.string ⟨#[]⟩) ∧ Below w.heap.size w w' := by
  obtain ⟨W, hW⟩ : ∃ x, x = w.alloc (.cells #[.pointer (some ⟨g, 0, none⟩), .string ⟨#[]⟩, .int .u64 0] 40) := ⟨_, rfl⟩
  have A : RawAt W g b cap ⟨#[34, 34]⟩ := hW ▸ h.alloc (by decide) _
  have BW : Below w.heap.size w W := by rw [hW]; exact (Below.refl w.heap.size w).alloc (Nat.le_refl _) _
  have k1 : W.cell? ⟨1, 34, none⟩ = some (.int .u8 1) := by
    rw [hW, ← ce]; simp only [World.cell?, heap_alloc_old w _ (show 1 < w.heap.size by omega)]
  have C := (w27q g b cap W A k1 (Nat.le_trans h1 BW.size)).mono fun e w' ⟨q1, q2⟩ => (⟨q1, BW.trans (q2.mono BW.size)⟩ : _ ∧ Below w.heap.size w w')
  unfold tok at C
  have HC := Lib.hid C
  clear C A h BW ce k1 h1
  subst hW
  unfold tok
  go_enter Tryd.func17, Tryd.ntmps17
  go_wp2_with (fail)
  refine (HC.out).mono ?_
  rintro e w' ⟨rfl, q⟩
  have Q := Lib.hid q
  clear q
  go_wp2_with (fail)
  go_returns
  exact ⟨rfl, Q.out⟩
end Go.Proofs.YtokkjljncoiajaaDoor
