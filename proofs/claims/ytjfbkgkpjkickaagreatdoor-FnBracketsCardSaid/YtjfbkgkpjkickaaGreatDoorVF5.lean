/- The texts of a proof, its declarations alone: part 5. -/
import Derived.Deep.DeepCutAuto
import Derived.Test.YtjfbkgkpjkickaaGreatDoorVU2
import Derived.Test.YtjfbkgkpjkickaaGreatDoorVU8
import Derived.Test.YtjfbkgkpjkickaaGreatDoorVU9
import Derived.Test.YtjfbkgkpjkickaaGreatDoorVF2
set_option linter.unusedVariables false
set_option linter.unusedSimpArgs false
-- YtjfbkgkpjkickaaGreatDoorFf
set_option linter.unusedVariables false
set_option linter.unusedSimpArgs false
namespace Go.Proofs.YtjfbkgkpjkickaaGreatDoor.PAll
open Go.RowKit Go.Proofs.YtjfbkgkpjkickaaGreatDoorW.PrintWords Go.Proofs.YtjfbkgkpjkickaaGreatDoorW.PrintLast Go.Proofs.YtjfbkgkpjkickaaGreatDoorW.PrintMore

/-- one entry lies on the stack -/
def Push1 (D : Nat) (s : DS) (w : World) (e : Ending) (w' : World) : Prop :=
  e = .returned .nilIface ∧ BB D w w' ∧ ∃ g c, w.heap.size ≤ g ∧ 1 ≤ c ∧ w'.cell? ⟨g, 0, none⟩ = some (.int .u64 (s.last + 1)) ∧ DecAt w' D { s with stack := .slice (some ⟨g, 0, none⟩) 1 c, last := 0 }
set_option maxRecDepth 100000 in
set_option maxHeartbeats 4000000 in
theorem f110s (D : Nat) (s : DS) (w : World) (hD : DecAt w D s) (hx : s.last = 0 ∨ s.last = 1) (ho : s.stack = .slice none 0 0) : Calls Tryz.prog 110 #[.pointer (some ⟨D, 0, none⟩)] w (Push1 D s w) := by
  have c0 : w.cell? ⟨D, 0, none⟩ = some (.slice none 0 0) := hD.cell 0 _ (by rw [← ho]; rfl)
  have c1 : w.cell? ⟨D, 1, none⟩ = some (.int .u64 s.last) := hD.cell 1 _ rfl
  have C97 := Lib.hid (fun W => f97 hx W)
  have C99 := Lib.hid (fun W => f99 hx W)
  have C158 := Lib.hid (fun W (hb : Below w.heap.size w W) => f158 D s W (hD.mono hb) hx)
  have HD := Lib.hid hD
  clear hD hx
  go_enter Tryz.func110, Tryz.ntmps110
  go_wp2_with (fail)
  refine (C97.out _).mono ?_
  rintro e w1 ⟨rfl, m1, rfl⟩
  go_wp2_with (fail)
  refine (C99.out _).mono ?_
  rintro e w2 ⟨rfl, m2, rfl⟩
  go_wp2_with (fail)
  have hb := Lib.hid (show Below w.heap.size w (w.drewN (m1 + m2)) from pw_below_drewN (Below.refl _ _) _)
  refine (C158.out _ hb.out).mono ?_
  rintro e w3 ⟨rfl, hw3⟩
  have HD3 := Lib.hid (show DecAt w3 D { s with last := s.last + 1 } by rw [hw3]; exact (HD.out.mono hb.out).set 1 _ _ rfl)
  have HB3 := Lib.hid (show BB D w w3 by rw [hw3]; exact (BB.of hb.out).set 1 _)
  have d0 : w3.cell? ⟨D, 0, none⟩ = some (.slice none 0 0) := HD3.out.cell 0 _ (by rw [← ho]; rfl)
  have d1 : w3.cell? ⟨D, 1, none⟩ = some (.int .u64 (s.last + 1)) := HD3.out.cell 1 _ rfl
  have y0 := HD3.out.fz 0
  have y1 := HD3.out.fz 1
  have hlt := HD3.out.lt
  have hfit : ¬ (281474976710656 < Builtin.nextslicecap 1 0 * Tryz.t112.bytes) := by decide +kernel
  clear hw3 c0 c1 ho
  generalize hx1 : s.last + 1 = x at *
  go_upto_region 2 with (fail)
  go_region
  go_wp2_with (fail)
  go_returns
  subst hx1
  have hge := grownCap_ge w3.drew 1 0 112
  have hsz : ∀ v u : Value, ((w3.setCell ⟨D, 0, none⟩ v).setCell ⟨D, 1, none⟩ u).heap.size = w3.heap.size := fun v u => by simp
  refine ⟨rfl, BB.drew (BB.drew (BB.alloc (BB.alloc ((HB3.out.set 0 _).set 1 _) _) _)), w3.heap.size + 1, _, by have := HB3.out.size; omega, hge, ?_, DecAt.drew (DecAt.drew (DecAt.alloc (DecAt.alloc ((HD3.out.setStack _).setLast _) _) _))⟩
  have key : ∀ (W : World) (o1 : Obj) (cs : Array Value), W.heap.size = w3.heap.size → ((W.alloc o1).alloc (.cells cs 112)).heap[w3.heap.size + 1]? = some (.cells cs 112 (0, 0)) := fun W o1 cs h => by
    have := heap_alloc_new (W.alloc o1) (.cells cs 112)
    rw [show (W.alloc o1).heap.size = w3.heap.size + 1 by simp [h]] at this
    exact this
  refine (cell_of_row _ (w3.heap.size + 1) 0 _ 112 (0, 0) (key _ _ _ (hsz _ _))).trans ?_
  rw [Array.getElem?_append_left (by simp)]
  rfl
set_option maxRecDepth 100000 in
set_option maxHeartbeats 4000000 in
theorem f111s (D g c : Nat) (s : DS) (x : Int) (w : World) (hD : DecAt w D s) (hs : s.stack = .slice (some ⟨g, 0, none⟩) 1 c) (hl : s.last = 0) (hc : 1 ≤ c) (hg : w.cell? ⟨g, 0, none⟩ = some (.int .u64 x)) (hgD : g ≠ D) :
    Calls Tryz.prog 111 #[.pointer (some ⟨D, 0, none⟩)] w fun e w' => e = .returned .nilIface ∧ BB D w w' ∧ DecAt w' D { s with stack := .slice (some ⟨g, 0, none⟩) 0 c, last := x } := by
  have c0 : w.cell? ⟨D, 0, none⟩ = some (.slice (some ⟨g, 0, none⟩) 1 c) := hD.cell 0 _ (by rw [← hs]; rfl)
  have c1 : w.cell? ⟨D, 1, none⟩ = some (.int .u64 0) := hD.cell 1 _ (by rw [← hl]; rfl)
  have C150 := Lib.hid (fun W => f150 (x := 0) (.inl rfl) W)
  have C99 := Lib.hid (fun W => f99 (x := 0) (.inl rfl) W)
  have y0 := hD.fz 0
  have y1 := hD.fz 1
  have HD := Lib.hid hD
  clear hD hl hs
  go_enter Tryz.func111, Tryz.ntmps111
  go_wp2_with (fail)
  refine (C150.out _).mono ?_
  rintro e w1 ⟨rfl, m1, rfl⟩
  go_wp2_with (fail)
  refine (C99.out _).mono ?_
  rintro e w2 ⟨rfl, m2, rfl⟩
  go_wp2_with (fail)
  go_region
  go_wp2_with (fail)
  go_region
  go_wp2_with (fail)
  go_returns
  exact ⟨rfl, BB.drew (((BB.drewN (BB.refl D w) _).set 1 _).set 0 _), DecAt.drew (((HD.out.drewN _).setLast _).setStack _)⟩
end Go.Proofs.YtjfbkgkpjkickaaGreatDoor.PAll
