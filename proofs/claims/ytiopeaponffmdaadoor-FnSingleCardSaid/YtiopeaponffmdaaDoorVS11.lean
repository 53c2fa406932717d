/- The texts of a proof, its declarations alone: part 11. -/
import Derived.Test.YtiopeaponffmdaaDoorVS4
import Derived.Test.YtiopeaponffmdaaDoorVS7
import Derived.Test.YtiopeaponffmdaaDoorVS8
import Derived.Test.YtiopeaponffmdaaDoorVS9
import Derived.Test.YtiopeaponffmdaaDoorVS10
set_option linter.unusedVariables false
set_option linter.unusedSimpArgs false
-- YtiopeaponffmdaaDoorPAllx25
namespace Go.Proofs.YtiopeaponffmdaaDoor.PAll
open Go.RowKit Go.Proofs.YtiopeaponffmdaaDoorW.PrintWords Go.Proofs.YtiopeaponffmdaaDoorW.PrintLast Go.Proofs.YtiopeaponffmdaaDoorW.PrintMore
attribute [local go_sem] max2_int min2_int max_two min_two max_three min_three max_four min_four   -- for this text's walks alone
set_option linter.unusedVariables false
set_option linter.unusedSimpArgs false

mutual
def spec_Form_Shortest.l0 : Nat → Int → Int → Int → Int → Int → Int → Int → Option (ByteArray × Int)
  | 0, _, _, _, _, _, _, _ => none
  | k + 1, x1, x6, x7, x8, x9, x441000, x441001 => if x9 ≤ 17 then (if x8 = 0 then (none) else ((spec_decimals.f k (IntKind.u64.wrap (Int.tdiv x7 x8))).bind fun t443 => ((spec_Form_reads.f k x441000 x441001 t443 (wrap64 (x6 - x9)) x1).bind fun t444 => ((spec_decimals.f k (IntKind.u64.wrap ((IntKind.u64.wrap (Int.tdiv x7 x8)) + 1))).bind fun t445 => ((spec_Form_reads.f k x441000 x441001 t445 (wrap64 (x6 - x9)) x1).bind fun t446 => (if t444 = true then (spec_Form_Shortest.j1 k x1 x6 x7 (IntKind.u64.wrap (Int.tdiv x8 10)) x9 (IntKind.u64.wrap (Int.tdiv x7 x8)) t444 t446 false x441000 x441001) else (spec_Form_Shortest.j1 k x1 x6 x7 (IntKind.u64.wrap (Int.tdiv x8 10)) x9 (IntKind.u64.wrap (Int.tdiv x7 x8)) t444 t446 (!t446) x441000 x441001))))))) else (some ((⟨#[]⟩ : ByteArray), 0))
def spec_Form_Shortest.j1 : Nat → Int → Int → Int → Int → Int → Int → Bool → Bool → Bool → Int → Int → Option (ByteArray × Int)
  | 0, _, _, _, _, _, _, _, _, _, _, _ => none
  | k + 1, x1, x6, x7, x8, x9, x10, x11, x12, x56, x441000, x441001 => if x56 = true then (spec_Form_Shortest.l0 k x1 x6 x7 x8 (wrap64 (x9 + 1)) x441000 x441001) else (if x12 = true then (if x11 = true then ((spec_Form_closer.f k x441000 x441001 x1 x10 (wrap64 (x6 - x9))).bind fun t447 => (spec_Form_Shortest.j2 k x6 x9 x10 t447)) else (spec_Form_Shortest.j2 k x6 x9 x10 true)) else (spec_Form_Shortest.j2 k x6 x9 x10 false))
def spec_Form_Shortest.j2 : Nat → Int → Int → Int → Bool → Option (ByteArray × Int)
  | 0, _, _, _, _ => none
  | k + 1, x6, x9, x10, x70 => if x70 = true then (spec_Form_Shortest.j3 k x6 x9 (IntKind.u64.wrap (x10 + 1))) else (spec_Form_Shortest.j3 k x6 x9 x10)
def spec_Form_Shortest.j3 : Nat → Int → Int → Int → Option (ByteArray × Int)
  | 0, _, _, _ => none
  | k + 1, x6, x9, x10 => (spec_decimals.f k x10).bind fun t448 => (spec_Form_Shortest.l1 k t448 (wrap64 ((wrap64 (x6 + (t448.size : Int))) - x9)))
def spec_Form_Shortest.l1 : Nat → ByteArray → Int → Option (ByteArray × Int)
  | 0, _, _ => none
  | k + 1, x13, x14 => if (x13.size : Int) > 1 then (if 0 ≤ (wrap64 ((x13.size : Int) - 1)) then (if (wrap64 ((x13.size : Int) - 1)) < (x13.size : Int) then (if (bt x13 (wrap64 ((x13.size : Int) - 1))) = 48 then (if (wrap64 ((x13.size : Int) - 1)) ≤ (x13.size : Int) then (spec_Form_Shortest.l1 k (x13.extract 0 ((wrap64 ((x13.size : Int) - 1)) : Int).toNat) x14) else (none)) else (some (x13, x14))) else (none)) else (none)) else (some (x13, x14))
end
def spec_Form_Shortest.f (k : Nat) (a0_0 : Int) (a0_1 : Int) (a1 : Int) : Option (ByteArray × Int) := (spec_Form_top.f k a0_0 a0_1 a1).bind fun t441 => ((spec_Form_below.f k a0_0 a0_1 a1 (wrap64 (t441 - 17))).bind fun t442 => (spec_Form_Shortest.l0 k a1 t441 t442 10000000000000000 1 a0_0 a0_1))
theorem spec_Form_Shortest.mono_l : ∀ k, (∀ y0 y1 y2 y3 y4 y5 y6, LeO (spec_Form_Shortest.l0 k y0 y1 y2 y3 y4 y5 y6) (spec_Form_Shortest.l0 (k + 1) y0 y1 y2 y3 y4 y5 y6)) ∧ (∀ y0 y1 y2 y3 y4 y5 y6 y7 y8 y9 y10, LeO (spec_Form_Shortest.j1 k y0 y1 y2 y3 y4 y5 y6 y7 y8 y9 y10) (spec_Form_Shortest.j1 (k + 1) y0 y1 y2 y3 y4 y5 y6 y7 y8 y9 y10)) ∧ (∀ y0 y1 y2 y3, LeO (spec_Form_Shortest.j2 k y0 y1 y2 y3) (spec_Form_Shortest.j2 (k + 1) y0 y1 y2 y3)) ∧ (∀ y0 y1 y2, LeO (spec_Form_Shortest.j3 k y0 y1 y2) (spec_Form_Shortest.j3 (k + 1) y0 y1 y2)) ∧ (∀ y0 y1, LeO (spec_Form_Shortest.l1 k y0 y1) (spec_Form_Shortest.l1 (k + 1) y0 y1))
  | 0 => ⟨fun _ _ _ _ _ _ _ r h => by simp [spec_Form_Shortest.l0] at h, fun _ _ _ _ _ _ _ _ _ _ _ r h => by simp [spec_Form_Shortest.j1] at h, fun _ _ _ _ r h => by simp [spec_Form_Shortest.j2] at h, fun _ _ _ r h => by simp [spec_Form_Shortest.j3] at h, fun _ _ r h => by simp [spec_Form_Shortest.l1] at h⟩
  | k + 1 => by
    obtain ⟨ih0, ih1, ih2, ih3, ih4⟩ := spec_Form_Shortest.mono_l k
    refine ⟨?_, ?_, ?_, ?_, ?_⟩
    · intro y0 y1 y2 y3 y4 y5 y6
      unfold spec_Form_Shortest.l0
      repeat' first
      | (with_reducible exact ih0 _ _ _ _ _ _ _)
      | (with_reducible exact ih1 _ _ _ _ _ _ _ _ _ _ _)
      | (with_reducible exact ih2 _ _ _ _)
      | (with_reducible exact ih3 _ _ _)
      | (with_reducible exact ih4 _ _)
      | (with_reducible exact spec_Form_below.mono _ _ _ _ _)
      | (with_reducible exact spec_Form_closer.mono _ _ _ _ _ _)
      | (with_reducible exact spec_Form_reads.mono _ _ _ _ _ _)
      | (with_reducible exact spec_Form_top.mono _ _ _ _)
      | (with_reducible exact spec_decimals.mono _ _)
      | (with_reducible exact LeO.refl _)
      | (with_reducible exact LeO.none _)
      | (with_reducible refine LeO.ite ?_ ?_)
      | (with_reducible refine LeO.bind ?_ (fun _ => ?_))
      | exact ih0 _ _ _ _ _ _ _
      | exact ih1 _ _ _ _ _ _ _ _ _ _ _
      | exact ih2 _ _ _ _
      | exact ih3 _ _ _
      | exact ih4 _ _
      | exact spec_Form_below.mono _ _ _ _ _
      | exact spec_Form_closer.mono _ _ _ _ _ _
      | exact spec_Form_reads.mono _ _ _ _ _ _
      | exact spec_Form_top.mono _ _ _ _
      | exact spec_decimals.mono _ _
      | exact LeO.none _
      | refine LeO.ite ?_ ?_
      | refine LeO.bind ?_ (fun _ => ?_)
    · intro y0 y1 y2 y3 y4 y5 y6 y7 y8 y9 y10
      unfold spec_Form_Shortest.j1
      repeat' first
      | (with_reducible exact ih0 _ _ _ _ _ _ _)
      | (with_reducible exact ih1 _ _ _ _ _ _ _ _ _ _ _)
      | (with_reducible exact ih2 _ _ _ _)
      | (with_reducible exact ih3 _ _ _)
      | (with_reducible exact ih4 _ _)
      | (with_reducible exact spec_Form_below.mono _ _ _ _ _)
      | (with_reducible exact spec_Form_closer.mono _ _ _ _ _ _)
      | (with_reducible exact spec_Form_reads.mono _ _ _ _ _ _)
      | (with_reducible exact spec_Form_top.mono _ _ _ _)
      | (with_reducible exact spec_decimals.mono _ _)
      | (with_reducible exact LeO.refl _)
      | (with_reducible exact LeO.none _)
      | (with_reducible refine LeO.ite ?_ ?_)
      | (with_reducible refine LeO.bind ?_ (fun _ => ?_))
      | exact ih0 _ _ _ _ _ _ _
      | exact ih1 _ _ _ _ _ _ _ _ _ _ _
      | exact ih2 _ _ _ _
      | exact ih3 _ _ _
      | exact ih4 _ _
      | exact spec_Form_below.mono _ _ _ _ _
      | exact spec_Form_closer.mono _ _ _ _ _ _
      | exact spec_Form_reads.mono _ _ _ _ _ _
      | exact spec_Form_top.mono _ _ _ _
      | exact spec_decimals.mono _ _
      | exact LeO.none _
      | refine LeO.ite ?_ ?_
      | refine LeO.bind ?_ (fun _ => ?_)
    · intro y0 y1 y2 y3
      unfold spec_Form_Shortest.j2
      repeat' first
      | (with_reducible exact ih0 _ _ _ _ _ _ _)
      | (with_reducible exact ih1 _ _ _ _ _ _ _ _ _ _ _)
      | (with_reducible exact ih2 _ _ _ _)
      | (with_reducible exact ih3 _ _ _)
      | (with_reducible exact ih4 _ _)
      | (with_reducible exact spec_Form_below.mono _ _ _ _ _)
      | (with_reducible exact spec_Form_closer.mono _ _ _ _ _ _)
      | (with_reducible exact spec_Form_reads.mono _ _ _ _ _ _)
      | (with_reducible exact spec_Form_top.mono _ _ _ _)
      | (with_reducible exact spec_decimals.mono _ _)
      | (with_reducible exact LeO.refl _)
      | (with_reducible exact LeO.none _)
      | (with_reducible refine LeO.ite ?_ ?_)
      | (with_reducible refine LeO.bind ?_ (fun _ => ?_))
      | exact ih0 _ _ _ _ _ _ _
      | exact ih1 _ _ _ _ _ _ _ _ _ _ _
      | exact ih2 _ _ _ _
      | exact ih3 _ _ _
      | exact ih4 _ _
      | exact spec_Form_below.mono _ _ _ _ _
      | exact spec_Form_closer.mono _ _ _ _ _ _
      | exact spec_Form_reads.mono _ _ _ _ _ _
      | exact spec_Form_top.mono _ _ _ _
      | exact spec_decimals.mono _ _
      | exact LeO.none _
      | refine LeO.ite ?_ ?_
      | refine LeO.bind ?_ (fun _ => ?_)
    · intro y0 y1 y2
      unfold spec_Form_Shortest.j3
      repeat' first
      | (with_reducible exact ih0 _ _ _ _ _ _ _)
      | (with_reducible exact ih1 _ _ _ _ _ _ _ _ _ _ _)
      | (with_reducible exact ih2 _ _ _ _)
      | (with_reducible exact ih3 _ _ _)
      | (with_reducible exact ih4 _ _)
      | (with_reducible exact spec_Form_below.mono _ _ _ _ _)
      | (with_reducible exact spec_Form_closer.mono _ _ _ _ _ _)
      | (with_reducible exact spec_Form_reads.mono _ _ _ _ _ _)
      | (with_reducible exact spec_Form_top.mono _ _ _ _)
      | (with_reducible exact spec_decimals.mono _ _)
      | (with_reducible exact LeO.refl _)
      | (with_reducible exact LeO.none _)
      | (with_reducible refine LeO.ite ?_ ?_)
      | (with_reducible refine LeO.bind ?_ (fun _ => ?_))
      | exact ih0 _ _ _ _ _ _ _
      | exact ih1 _ _ _ _ _ _ _ _ _ _ _
      | exact ih2 _ _ _ _
      | exact ih3 _ _ _
      | exact ih4 _ _
      | exact spec_Form_below.mono _ _ _ _ _
      | exact spec_Form_closer.mono _ _ _ _ _ _
      | exact spec_Form_reads.mono _ _ _ _ _ _
      | exact spec_Form_top.mono _ _ _ _
      | exact spec_decimals.mono _ _
      | exact LeO.none _
      | refine LeO.ite ?_ ?_
      | refine LeO.bind ?_ (fun _ => ?_)
    · intro y0 y1
      unfold spec_Form_Shortest.l1
      repeat' first
      | (with_reducible exact ih0 _ _ _ _ _ _ _)
      | (with_reducible exact ih1 _ _ _ _ _ _ _ _ _ _ _)
      | (with_reducible exact ih2 _ _ _ _)
      | (with_reducible exact ih3 _ _ _)
      | (with_reducible exact ih4 _ _)
      | (with_reducible exact spec_Form_below.mono _ _ _ _ _)
      | (with_reducible exact spec_Form_closer.mono _ _ _ _ _ _)
      | (with_reducible exact spec_Form_reads.mono _ _ _ _ _ _)
      | (with_reducible exact spec_Form_top.mono _ _ _ _)
      | (with_reducible exact spec_decimals.mono _ _)
      | (with_reducible exact LeO.refl _)
      | (with_reducible exact LeO.none _)
      | (with_reducible refine LeO.ite ?_ ?_)
      | (with_reducible refine LeO.bind ?_ (fun _ => ?_))
      | exact ih0 _ _ _ _ _ _ _
      | exact ih1 _ _ _ _ _ _ _ _ _ _ _
      | exact ih2 _ _ _ _
      | exact ih3 _ _ _
      | exact ih4 _ _
      | exact spec_Form_below.mono _ _ _ _ _
      | exact spec_Form_closer.mono _ _ _ _ _ _
      | exact spec_Form_reads.mono _ _ _ _ _ _
      | exact spec_Form_top.mono _ _ _ _
      | exact spec_decimals.mono _ _
      | exact LeO.none _
      | refine LeO.ite ?_ ?_
      | refine LeO.bind ?_ (fun _ => ?_)
theorem spec_Form_Shortest.mono : ∀ a0 a1 a2 k, LeO (spec_Form_Shortest.f k a0 a1 a2) (spec_Form_Shortest.f (k + 1) a0 a1 a2) := by
  intro a0 a1 a2 k
  obtain ⟨ih0, ih1, ih2, ih3, ih4⟩ := spec_Form_Shortest.mono_l k
  unfold spec_Form_Shortest.f
  repeat' first
      | (with_reducible exact ih0 _ _ _ _ _ _ _)
      | (with_reducible exact ih1 _ _ _ _ _ _ _ _ _ _ _)
      | (with_reducible exact ih2 _ _ _ _)
      | (with_reducible exact ih3 _ _ _)
      | (with_reducible exact ih4 _ _)
      | (with_reducible exact spec_Form_below.mono _ _ _ _ _)
      | (with_reducible exact spec_Form_closer.mono _ _ _ _ _ _)
      | (with_reducible exact spec_Form_reads.mono _ _ _ _ _ _)
      | (with_reducible exact spec_Form_top.mono _ _ _ _)
      | (with_reducible exact spec_decimals.mono _ _)
      | (with_reducible exact LeO.refl _)
      | (with_reducible exact LeO.none _)
      | (with_reducible refine LeO.ite ?_ ?_)
      | (with_reducible refine LeO.bind ?_ (fun _ => ?_))
      | exact ih0 _ _ _ _ _ _ _
      | exact ih1 _ _ _ _ _ _ _ _ _ _ _
      | exact ih2 _ _ _ _
      | exact ih3 _ _ _
      | exact ih4 _ _
      | exact spec_Form_below.mono _ _ _ _ _
      | exact spec_Form_closer.mono _ _ _ _ _ _
      | exact spec_Form_reads.mono _ _ _ _ _ _
      | exact spec_Form_top.mono _ _ _ _
      | exact spec_decimals.mono _ _
      | exact LeO.none _
      | refine LeO.ite ?_ ?_
      | refine LeO.bind ?_ (fun _ => ?_)
def spec_Form_Shortest.T9 : Bool × List (List Nat × List Nat) := (true, [([], []), ([], []), ([1], [1]), ([], []), ([], []), ([3, 4], [3, 4]), ([2, 5], [2, 5]), ([], []), ([0, 6, 7, 2], [0, 6, 7]), ([8, 8, 0, 1, 2, 3, 4, 5, 6, 7, 8], [8])])
def spec_Form_Shortest.B9 : List Nat := [0, 0, 2, 0, 0, 24, 62, 0, 255, 511]
theorem spec_Form_Shortest.tab9 : rtab .any (opsOf Tryd.f34 9) = spec_Form_Shortest.T9 := by kernel_rfl
theorem spec_Form_Shortest.bits9 : waitsOk spec_Form_Shortest.T9.2 spec_Form_Shortest.B9 = true := by kernel_rfl
def spec_Form_Shortest.T10 : Bool × List (List Nat × List Nat) := (true, [([], []), ([], []), ([1], [1]), ([2], [2]), ([], []), ([], []), ([4, 5], [4, 5]), ([3, 6], [3, 6]), ([], []), ([0, 7, 8, 3], [0, 7, 8]), ([9, 9, 0, 1, 2, 3, 4, 5, 6, 7, 8, 9], [9])])
def spec_Form_Shortest.B10 : List Nat := [0, 0, 2, 6, 0, 0, 48, 126, 0, 511, 1023]
theorem spec_Form_Shortest.tab10 : rtab .any (opsOf Tryd.f34 10) = spec_Form_Shortest.T10 := by kernel_rfl
theorem spec_Form_Shortest.bits10 : waitsOk spec_Form_Shortest.T10.2 spec_Form_Shortest.B10 = true := by kernel_rfl
set_option maxHeartbeats 8000000 in
set_option maxRecDepth 100000 in
theorem spec_Form_Shortest.calls (k : Nat) (a0_0 : Int) (a0_1 : Int) (a1 : Int) (r1 : ByteArray) (r2 : Int) (w : World) (h : spec_Form_Shortest.f k a0_0 a0_1 a1 = some (r1, r2)) :
    Calls Tryd.prog 34 #[.agg #[.int .i64 a0_0, .int .u64 a0_1], .int .u64 a1] w fun e w' => e = .returned (.tuple #[.string r1, .int .i64 r2]) ∧ Below w.heap.size w w' := by
  have hu31 := Tryd.underlying31
  have hu35 := Tryd.underlying35
  have HB := Aside0.mk (Below.refl w.heap.size w)
  have H : ((spec_Form_top.f k a0_0 a0_1 a1).bind fun t441 => ((spec_Form_below.f k a0_0 a0_1 a1 (wrap64 (t441 - 17))).bind fun t442 => (spec_Form_Shortest.l0 k a1 t441 t442 10000000000000000 1 a0_0 a0_1))) = some (r1, r2) := h
  clear h
  replace H := Option.bind_eq_some_iff.mp H
  obtain ⟨t441, A30, H⟩ := H
  replace H : ((spec_Form_below.f k a0_0 a0_1 a1 (wrap64 (t441 - 17))).bind fun t442 => (spec_Form_Shortest.l0 k a1 t441 t442 10000000000000000 1 a0_0 a0_1)) = some (r1, r2) := H
  have A3 := Aside0.mk A30
  clear A30
  replace H := Option.bind_eq_some_iff.mp H
  obtain ⟨t442, A40, H⟩ := H
  replace H : (spec_Form_Shortest.l0 k a1 t441 t442 10000000000000000 1 a0_0 a0_1) = some (r1, r2) := H
  have A4 := Aside0.mk A40
  clear A40
  have H' := Aside0.mk H
  clear H
  go_enter Tryd.func34, Tryd.ntmps34
  go_wp2_with (first | ((with_reducible refine gate_dst (N := 2) rfl ?_); (try (refine gate_guard (by rfl) ?_; dsimp only)); refine box_event ?hg (N := 2) ?hd (cs := #[.int .i64 a0_0, .int .u64 a0_1]) (t := 31) ?hr ?_; (case hd => rfl); (case hg => rfl); (case hr => first | (go_simp; done) | (go_simp; rfl)); intro gb440 hg w5 hbox hb; have n0_ := Aside0.mk (below_step (by repeat (first | (with_reducible first | exact HB.out | apply below_alloc | apply pw_below_drewN | apply below_drew1) | exact HB.out)) hb); have n1_ := Aside0.mk (hbox); have n2_ := Aside0.mk ((by rw [hg]; exact (below_size (by repeat (first | (with_reducible first | exact HB.out | apply below_alloc | apply pw_below_drewN | apply below_drew1) | exact HB.out))) : w.heap.size ≤ gb440)); have n3_ := Aside0.mk ((by rw [hg]; exact (below_size (by repeat (first | (with_reducible first | exact HB.out | apply below_alloc | apply pw_below_drewN | apply below_drew1) | exact HB.out))) : w.heap.size ≤ gb440)); clear HB; have HB := n0_; have BK440 := n1_; have GW440 := n2_; have GE440 := n3_; clear n0_ n1_ n2_ n3_; clear hb hbox hg; have hcz6_0 : w5.cell? ⟨gb440, 0, none⟩ = some (.int .i64 a0_0) := (blk_cell BK440.out 0).trans rfl; have hcz6_1 : w5.cell? ⟨gb440, 1, none⟩ = some (.int .u64 a0_1) := (blk_cell BK440.out 1).trans rfl; have hfz6_0 := blk_frozen BK440.out 0; have hfz6_1 := blk_frozen BK440.out 1) | ((with_reducible refine gate_callee (f := 43) rfl ?_); refine goesL_ (some 17) rfl rfl Tryd.func43 (by kernel_rfl) rfl #[.agg #[.int .i64 a0_0, .int .u64 a0_1], .int .u64 a1] rfl (by (try simp only [List.map_toArray, List.map_cons, List.map_nil]); first | done | rfl | (simp only [List.length_drop, List.length_take]; rfl)) ?_; (with_reducible refine (spec_Form_top.calls k a0_0 a0_1 a1 t441 _ A3.out).mono ?_); rintro e w7 ⟨rfl, hb⟩; refine ⟨_, rfl, ?_⟩; have n0_ := Aside0.mk (blk_below (g := gb440) (o := .cells #[.int .i64 a0_0, .int .u64 a0_1] 31 (0, 0)) (by (with_reducible repeat (first | refine blk_drewN ?_ _ | refine blk_drew ?_ | refine blk_alloc ?_ _)); exact BK440.out) hb); have n1_ := Aside0.mk (below_step (by repeat (first | (with_reducible first | exact HB.out | apply below_alloc | apply pw_below_drewN | apply below_drew1 | refine below_set ?_ GE440.out) | exact HB.out)) hb); clear BK440; clear HB; have BK440 := n0_; have HB := n1_; clear n0_ n1_; (try clear hb); (try clear hb2); (try clear hk); (try clear hi); have hcz8_0 : w7.cell? ⟨gb440, 0, none⟩ = some (.int .i64 a0_0) := (blk_cell BK440.out 0).trans rfl; have hcz8_1 : w7.cell? ⟨gb440, 1, none⟩ = some (.int .u64 a0_1) := (blk_cell BK440.out 1).trans rfl; have hfz8_0 := blk_frozen BK440.out 0; have hfz8_1 := blk_frozen BK440.out 1) | ((with_reducible refine gate_callee (f := 44) rfl ?_); refine goesL_ (some 22) rfl rfl Tryd.func44 (by kernel_rfl) rfl #[.agg #[.int .i64 a0_0, .int .u64 a0_1], .int .u64 a1, .int .i64 (wrap64 (t441 - 17))] rfl (by (try simp only [List.map_toArray, List.map_cons, List.map_nil]); first | done | rfl | (simp only [List.length_drop, List.length_take]; rfl)) ?_; (with_reducible refine (spec_Form_below.calls k a0_0 a0_1 a1 (wrap64 (t441 - 17)) t442 _ A4.out).mono ?_); rintro e w9 ⟨rfl, hb⟩; refine ⟨_, rfl, ?_⟩; have n0_ := Aside0.mk (blk_below (g := gb440) (o := .cells #[.int .i64 a0_0, .int .u64 a0_1] 31 (0, 0)) (by (with_reducible repeat (first | refine blk_drewN ?_ _ | refine blk_drew ?_ | refine blk_alloc ?_ _)); exact BK440.out) hb); have n1_ := Aside0.mk (below_step (by repeat (first | (with_reducible first | exact HB.out | apply below_alloc | apply pw_below_drewN | apply below_drew1 | refine below_set ?_ GE440.out) | exact HB.out)) hb); clear BK440; clear HB; have BK440 := n0_; have HB := n1_; clear n0_ n1_; (try clear hb); (try clear hb2); (try clear hk); (try clear hi)))
  go_loopg [8, 9] k (fun kq v8 v9 w' => ∃ (x8_1 : Int) (x9_1 : Int), v8 = .int .u64 x8_1 ∧ v9 = .int .i64 x9_1 ∧ Aside0 (spec_Form_Shortest.l0 kq a1 t441 t442 x8_1 x9_1 a0_0 a0_1 = some (r1, r2)) ∧ Aside0 (kq ≤ k) ∧ Aside0 (w'.heap[gb440]? = some (.cells #[.int .i64 a0_0, .int .u64 a0_1] 31 (0, 0))) ∧ Aside0 (Below w.heap.size w w'))
  case atStart => exact ⟨(10000000000000000), (1), (by first | rfl | (simp; done) | (simp [*]; done)), (by first | rfl | (simp; done) | (simp [*]; done)), H', ⟨Nat.le_refl _⟩, ⟨by (with_reducible repeat (first | refine blk_drewN ?_ _ | refine blk_drew ?_ | refine blk_alloc ?_ _)); exact BK440.out⟩, ⟨by repeat (first | (with_reducible first | exact HB.out | apply below_alloc | apply pw_below_drewN | apply below_drew1 | refine below_set ?_ GE440.out) | exact HB.out)⟩⟩
  case round =>
    clear H'
    try clear p2
    try clear c3
    try clear c4
    try clear p6
    try clear hcz6_0
    try clear hcz6_1
    try clear hcz8_0
    try clear hcz8_1
    try clear hfz6_0
    try clear hfz6_1
    try clear hfz8_0
    try clear hfz8_1
    obtain ⟨x8_1, x9_1, rfl, rfl, HA, HK1, BK440, HB⟩ := hrel
    cases gk with
    | zero => exact absurd HA.out (by simp [spec_Form_Shortest.l0])
    | succ k1 =>
      have H := HA.out
      clear HA
      simp only [spec_Form_Shortest.l0] at H
      by_cases c10 : x9_1 ≤ 17
      · rw [if_pos c10] at H
        have c10b0 : decide (x9_1 ≤ 17) = true := decide_eq_true c10
        clear c10
        by_cases c11 : x8_1 = 0
        · rw [if_pos c11] at H
          exact absurd H (by simp)
        · rw [if_neg c11] at H
          have c11b0 : (x8_1 == 0) = false := beq_eq_false_iff_ne.mpr c11
          have c11b1 : (x8_1 != 0) = true := bne_iff_ne.mpr c11
          replace H := Option.bind_eq_some_iff.mp H
          obtain ⟨t443, A120, H⟩ := H
          replace H : ((spec_Form_reads.f k1 a0_0 a0_1 t443 (wrap64 (t441 - x9_1)) a1).bind fun t444 => ((spec_decimals.f k1 (IntKind.u64.wrap ((IntKind.u64.wrap (Int.tdiv t442 x8_1)) + 1))).bind fun t445 => ((spec_Form_reads.f k1 a0_0 a0_1 t445 (wrap64 (t441 - x9_1)) a1).bind fun t446 => (if t444 = true then (spec_Form_Shortest.j1 k1 a1 t441 t442 (IntKind.u64.wrap (Int.tdiv x8_1 10)) x9_1 (IntKind.u64.wrap (Int.tdiv t442 x8_1)) t444 t446 false a0_0 a0_1) else (spec_Form_Shortest.j1 k1 a1 t441 t442 (IntKind.u64.wrap (Int.tdiv x8_1 10)) x9_1 (IntKind.u64.wrap (Int.tdiv t442 x8_1)) t444 t446 (!t446) a0_0 a0_1))))) = some (r1, r2) := H
          have A12 := Aside0.mk A120
          clear A120
          replace H := Option.bind_eq_some_iff.mp H
          obtain ⟨t444, A130, H⟩ := H
          replace H : ((spec_decimals.f k1 (IntKind.u64.wrap ((IntKind.u64.wrap (Int.tdiv t442 x8_1)) + 1))).bind fun t445 => ((spec_Form_reads.f k1 a0_0 a0_1 t445 (wrap64 (t441 - x9_1)) a1).bind fun t446 => (if t444 = true then (spec_Form_Shortest.j1 k1 a1 t441 t442 (IntKind.u64.wrap (Int.tdiv x8_1 10)) x9_1 (IntKind.u64.wrap (Int.tdiv t442 x8_1)) t444 t446 false a0_0 a0_1) else (spec_Form_Shortest.j1 k1 a1 t441 t442 (IntKind.u64.wrap (Int.tdiv x8_1 10)) x9_1 (IntKind.u64.wrap (Int.tdiv t442 x8_1)) t444 t446 (!t446) a0_0 a0_1)))) = some (r1, r2) := H
          have A13 := Aside0.mk A130
          clear A130
          replace H := Option.bind_eq_some_iff.mp H
          obtain ⟨t445, A140, H⟩ := H
          replace H : ((spec_Form_reads.f k1 a0_0 a0_1 t445 (wrap64 (t441 - x9_1)) a1).bind fun t446 => (if t444 = true then (spec_Form_Shortest.j1 k1 a1 t441 t442 (IntKind.u64.wrap (Int.tdiv x8_1 10)) x9_1 (IntKind.u64.wrap (Int.tdiv t442 x8_1)) t444 t446 false a0_0 a0_1) else (spec_Form_Shortest.j1 k1 a1 t441 t442 (IntKind.u64.wrap (Int.tdiv x8_1 10)) x9_1 (IntKind.u64.wrap (Int.tdiv t442 x8_1)) t444 t446 (!t446) a0_0 a0_1))) = some (r1, r2) := H
          have A14 := Aside0.mk A140
          clear A140
          replace H := Option.bind_eq_some_iff.mp H
          obtain ⟨t446, A150, H⟩ := H
          replace H : (if t444 = true then (spec_Form_Shortest.j1 k1 a1 t441 t442 (IntKind.u64.wrap (Int.tdiv x8_1 10)) x9_1 (IntKind.u64.wrap (Int.tdiv t442 x8_1)) t444 t446 false a0_0 a0_1) else (spec_Form_Shortest.j1 k1 a1 t441 t442 (IntKind.u64.wrap (Int.tdiv x8_1 10)) x9_1 (IntKind.u64.wrap (Int.tdiv t442 x8_1)) t444 t446 (!t446) a0_0 a0_1)) = some (r1, r2) := H
          have A15 := Aside0.mk A150
          clear A150
          have HC16 := Aside0.mk H
          clear H
          try go_wp2
          have n0_ := Aside0.mk (blk_drew BK440.out)
          have n1_ := Aside0.mk (below_drew1 HB.out)
          clear BK440
          clear HB
          have BK440 := n0_
          have HB := n1_
          clear n0_ n1_
          refine start_ (n := 10) (S := fun w' => w'.cell? ⟨gb440, 0, none⟩ = some (.int .i64 a0_0) ∧ w'.cell? ⟨gb440, 1, none⟩ = some (.int .u64 a0_1)) (ds := []) #[false, false, false, false, false, false, false, false, false, false] (by kernel_rfl) rfl rfl ⟨(blk_cell BK440.out 0).trans rfl, (blk_cell BK440.out 1).trans rfl⟩ (fun hHeld => ?_); refine with_tabW spec_Form_Shortest.tab9 spec_Form_Shortest.bits9 (fun HT_ HW_ => ?_)
          generalize wr.drew = w17 at BK440 HB hHeld ⊢
          refine pure_ (i := 1) (N := some 33) (v := ?_) (a' := ?_) #[false, true, false, false, false, false, false, false, false, false] rfl rfl (any_of HT_.out (by kernel_rfl)) (fun _ _ _ h => h) (Or.inl ⟨by rfl, ?_⟩) ?_ ?_
          rotate_left
          · intro w'
            go_simp
            with_reducible rfl
          rotate_left
          · simp only [Act.put, List.setIfInBounds_toArray, List.set_cons_zero, List.set_cons_succ, i64_w, i32_w]
            rfl
          refine pure_ (i := 3) (N := some 35) (v := ?_) (a' := ?_) #[false, true, false, true, false, false, false, false, false, false] rfl rfl (any_of HT_.out (by kernel_rfl)) (fun _ _ _ h => h) (Or.inl ⟨by rfl, ?_⟩) ?_ ?_
          rotate_left
          · intro w'
            go_simp
            with_reducible rfl
          rotate_left
          · simp only [Act.put, List.setIfInBounds_toArray, List.set_cons_zero, List.set_cons_succ, i64_w, i32_w]
            rfl
          refine pure_ (i := 4) (N := some 36) (v := ?_) (a' := ?_) #[false, true, false, true, true, false, false, false, false, false] rfl rfl (any_of HT_.out (by kernel_rfl)) (fun _ _ _ h => h) (Or.inl ⟨by rfl, ?_⟩) ?_ ?_
          rotate_left
          · intro w'
            go_simp
            with_reducible rfl
          rotate_left
          · simp only [Act.put, List.setIfInBounds_toArray, List.set_cons_zero, List.set_cons_succ, i64_w, i32_w]
            rfl
          refine pure_ (i := 5) (N := some 37) (v := ?_) (a' := ?_) #[false, true, false, true, true, true, false, false, false, false] rfl rfl (any_of HT_.out (by kernel_rfl)) (fun _ _ _ h => h) (Or.inl ⟨by rfl, ?_⟩) ?_ ?_
          rotate_left
          · intro w'
            go_simp
            with_reducible rfl
          rotate_left
          · simp only [Act.put, List.setIfInBounds_toArray, List.set_cons_zero, List.set_cons_succ, i64_w, i32_w]
            rfl
          refine pure_ (i := 7) (N := some 39) (v := ?_) (a' := ?_) #[false, true, false, true, true, true, false, true, false, false] rfl rfl (any_of HT_.out (by kernel_rfl)) (fun _ _ _ h => h) (Or.inl ⟨by rfl, ?_⟩) ?_ ?_
          rotate_left
          · intro w'
            go_simp
            with_reducible rfl
          rotate_left
          · simp only [Act.put, List.setIfInBounds_toArray, List.set_cons_zero, List.set_cons_succ, i64_w, i32_w]
            rfl
          refine take_ (i := 0) (N := some 32) (v := ?_) (a' := ?_) #[true, true, false, true, true, true, false, true, false, false] rfl rfl (take_ofW HT_.out HW_.out (by kernel_rfl)) (fun _ _ _ h => h) (Or.inl ⟨by rfl, ?_⟩) hHeld ?_ ?_
          rotate_left
          · rintro w' ⟨s0, s1⟩
            go_simp
            with_reducible rfl
          rotate_left
          · simp only [Act.put, List.setIfInBounds_toArray, List.set_cons_zero, List.set_cons_succ, i64_w, i32_w]
            rfl
          refine one_ (i := 2) (N := some 34) #[true, true, true, true, true, true, false, true, false, false] rfl rfl (one_of HT_.out (by kernel_rfl)) (by decide) (fun K hK => ?_)
          refine goes_ Tryd.func46 (by kernel_rfl) rfl #[.int .u64 (IntKind.u64.wrap (Int.tdiv t442 x8_1))] (by rfl) rfl rfl (by (try simp only [List.map_toArray, List.map_cons, List.map_nil]); first | done | rfl | (simp only [List.length_drop, List.length_take]; rfl)) ?_
          with_reducible refine (spec_decimals.calls k1 (IntKind.u64.wrap (Int.tdiv t442 x8_1)) t443 _ A12.out).mono ?_
          rintro e w18 ⟨rfl, hb⟩
          refine ⟨_, rfl, ?_⟩
          have n0_ := Aside0.mk (blk_below (g := gb440) (o := .cells #[.int .i64 a0_0, .int .u64 a0_1] 31 (0, 0)) (by (with_reducible repeat (first | refine blk_drewN ?_ _ | refine blk_drew ?_ | refine blk_alloc ?_ _)); exact BK440.out) hb)
          have n1_ := Aside0.mk (below_step (by repeat (first | (with_reducible first | exact HB.out | apply below_alloc | apply pw_below_drewN | apply below_drew1 | refine below_set ?_ GE440.out) | exact HB.out)) hb)
          clear BK440
          clear HB
          have BK440 := n0_
          have HB := n1_
          clear n0_ n1_
          (try clear hb)
          (try clear hb2)
          (try clear hk)
          (try clear hi)
          refine hK.out _ _ ⟨(blk_cell BK440.out 0).trans rfl, (blk_cell BK440.out 1).trans rfl⟩ (fun hHeld => ?_)
          clear hK K
          refine norm_ (a' := ?_) ?_ ?_
          rotate_left
          · show Act.put _ (some 34) _ = _
            simp only [Act.put, List.setIfInBounds_toArray, List.set_cons_zero, List.set_cons_succ, i64_w, i32_w]
            rfl
          refine pure_ (i := 6) (N := some 38) (v := ?_) (a' := ?_) #[true, true, true, true, true, true, true, true, false, false] rfl rfl (any_of HT_.out (by kernel_rfl)) (fun _ _ _ h => h) (Or.inl ⟨by rfl, ?_⟩) ?_ ?_
          rotate_left
          · intro w'
            go_simp
            with_reducible rfl
          rotate_left
          · simp only [Act.put, List.setIfInBounds_toArray, List.set_cons_zero, List.set_cons_succ, i64_w, i32_w]
            rfl
          refine one_ (i := 8) (N := some 40) #[true, true, true, true, true, true, true, true, true, false] rfl rfl (one_of HT_.out (by kernel_rfl)) (by decide) (fun K hK => ?_)
          refine goes_ Tryd.func45 (by kernel_rfl) rfl #[.agg #[.int .i64 a0_0, .int .u64 a0_1], .agg #[.string t443, .int .i64 (wrap64 (t441 - x9_1))], .int .u64 a1] (by rfl) rfl rfl (by (try simp only [List.map_toArray, List.map_cons, List.map_nil]); first | done | rfl | (simp only [List.length_drop, List.length_take]; rfl)) ?_
          with_reducible refine (spec_Form_reads.calls k1 a0_0 a0_1 t443 (wrap64 (t441 - x9_1)) a1 t444 _ A13.out).mono ?_
          rintro e w19 ⟨rfl, hb⟩
          refine ⟨_, rfl, ?_⟩
          have n0_ := Aside0.mk (blk_below (g := gb440) (o := .cells #[.int .i64 a0_0, .int .u64 a0_1] 31 (0, 0)) (by (with_reducible repeat (first | refine blk_drewN ?_ _ | refine blk_drew ?_ | refine blk_alloc ?_ _)); exact BK440.out) hb)
          have n1_ := Aside0.mk (below_step (by repeat (first | (with_reducible first | exact HB.out | apply below_alloc | apply pw_below_drewN | apply below_drew1 | refine below_set ?_ GE440.out) | exact HB.out)) hb)
          clear BK440
          clear HB
          have BK440 := n0_
          have HB := n1_
          clear n0_ n1_
          (try clear hb)
          (try clear hb2)
          (try clear hk)
          (try clear hi)
          refine hK.out _ _ ⟨(blk_cell BK440.out 0).trans rfl, (blk_cell BK440.out 1).trans rfl⟩ (fun hHeld => ?_)
          clear hK K
          refine norm_ (a' := ?_) ?_ ?_
          rotate_left
          · show Act.put _ (some 40) _ = _
            simp only [Act.put, List.setIfInBounds_toArray, List.set_cons_zero, List.set_cons_succ, i64_w, i32_w]
            rfl
          refine pure_ (i := 9) (N := some 11) (v := ?_) (a' := ?_) #[true, true, true, true, true, true, true, true, true, true] rfl rfl (any_of HT_.out (by kernel_rfl)) (fun _ _ _ h => h) (Or.inl ⟨by rfl, ?_⟩) ?_ ?_
          rotate_left
          · intro w'
            go_simp
            with_reducible rfl
          rotate_left
          · simp only [Act.put, List.setIfInBounds_toArray, List.set_cons_zero, List.set_cons_succ, i64_w, i32_w]
            rfl
          refine done_ (done_of HT_.out (by kernel_rfl)) ?_
          try go_wp2
          have n0_ := Aside0.mk (blk_drew BK440.out)
          have n1_ := Aside0.mk (below_drew1 HB.out)
          clear BK440
          clear HB
          have BK440 := n0_
          have HB := n1_
          clear n0_ n1_
          refine start_ (n := 11) (S := fun w' => w'.cell? ⟨gb440, 0, none⟩ = some (.int .i64 a0_0) ∧ w'.cell? ⟨gb440, 1, none⟩ = some (.int .u64 a0_1)) (ds := []) #[false, false, false, false, false, false, false, false, false, false, false] (by kernel_rfl) rfl rfl ⟨(blk_cell BK440.out 0).trans rfl, (blk_cell BK440.out 1).trans rfl⟩ (fun hHeld => ?_); refine with_tabW spec_Form_Shortest.tab10 spec_Form_Shortest.bits10 (fun HT_ HW_ => ?_)
          generalize w19.drew = w20 at BK440 HB hHeld ⊢
          refine pure_ (i := 1) (N := some 42) (v := ?_) (a' := ?_) #[false, true, false, false, false, false, false, false, false, false, false] rfl rfl (any_of HT_.out (by kernel_rfl)) (fun _ _ _ h => h) (Or.inl ⟨by rfl, ?_⟩) ?_ ?_
          rotate_left
          · intro w'
            go_simp
            with_reducible rfl
          rotate_left
          · simp only [Act.put, List.setIfInBounds_toArray, List.set_cons_zero, List.set_cons_succ, i64_w, i32_w]
            rfl
          refine pure_ (i := 2) (N := some 43) (v := ?_) (a' := ?_) #[false, true, true, false, false, false, false, false, false, false, false] rfl rfl (any_of HT_.out (by kernel_rfl)) (fun _ _ _ h => h) (Or.inl ⟨by rfl, ?_⟩) ?_ ?_
          rotate_left
          · intro w'
            go_simp
            with_reducible rfl
          rotate_left
          · simp only [Act.put, List.setIfInBounds_toArray, List.set_cons_zero, List.set_cons_succ, i64_w, i32_w]
            rfl
          refine pure_ (i := 4) (N := some 45) (v := ?_) (a' := ?_) #[false, true, true, false, true, false, false, false, false, false, false] rfl rfl (any_of HT_.out (by kernel_rfl)) (fun _ _ _ h => h) (Or.inl ⟨by rfl, ?_⟩) ?_ ?_
          rotate_left
          · intro w'
            go_simp
            with_reducible rfl
          rotate_left
          · simp only [Act.put, List.setIfInBounds_toArray, List.set_cons_zero, List.set_cons_succ, i64_w, i32_w]
            rfl
          refine pure_ (i := 5) (N := some 46) (v := ?_) (a' := ?_) #[false, true, true, false, true, true, false, false, false, false, false] rfl rfl (any_of HT_.out (by kernel_rfl)) (fun _ _ _ h => h) (Or.inl ⟨by rfl, ?_⟩) ?_ ?_
          rotate_left
          · intro w'
            go_simp
            with_reducible rfl
          rotate_left
          · simp only [Act.put, List.setIfInBounds_toArray, List.set_cons_zero, List.set_cons_succ, i64_w, i32_w]
            rfl
          refine pure_ (i := 6) (N := some 47) (v := ?_) (a' := ?_) #[false, true, true, false, true, true, true, false, false, false, false] rfl rfl (any_of HT_.out (by kernel_rfl)) (fun _ _ _ h => h) (Or.inl ⟨by rfl, ?_⟩) ?_ ?_
          rotate_left
          · intro w'
            go_simp
            with_reducible rfl
          rotate_left
          · simp only [Act.put, List.setIfInBounds_toArray, List.set_cons_zero, List.set_cons_succ, i64_w, i32_w]
            rfl
          refine pure_ (i := 8) (N := some 49) (v := ?_) (a' := ?_) #[false, true, true, false, true, true, true, false, true, false, false] rfl rfl (any_of HT_.out (by kernel_rfl)) (fun _ _ _ h => h) (Or.inl ⟨by rfl, ?_⟩) ?_ ?_
          rotate_left
          · intro w'
            go_simp
            with_reducible rfl
          rotate_left
          · simp only [Act.put, List.setIfInBounds_toArray, List.set_cons_zero, List.set_cons_succ, i64_w, i32_w]
            rfl
          refine take_ (i := 0) (N := some 41) (v := ?_) (a' := ?_) #[true, true, true, false, true, true, true, false, true, false, false] rfl rfl (take_ofW HT_.out HW_.out (by kernel_rfl)) (fun _ _ _ h => h) (Or.inl ⟨by rfl, ?_⟩) hHeld ?_ ?_
          rotate_left
          · rintro w' ⟨s0, s1⟩
            go_simp
            with_reducible rfl
          rotate_left
          · simp only [Act.put, List.setIfInBounds_toArray, List.set_cons_zero, List.set_cons_succ, i64_w, i32_w]
            rfl
          refine one_ (i := 3) (N := some 44) #[true, true, true, true, true, true, true, false, true, false, false] rfl rfl (one_of HT_.out (by kernel_rfl)) (by decide) (fun K hK => ?_)
          refine goes_ Tryd.func46 (by kernel_rfl) rfl #[.int .u64 (IntKind.u64.wrap ((IntKind.u64.wrap (Int.tdiv t442 x8_1)) + 1))] (by rfl) rfl rfl (by (try simp only [List.map_toArray, List.map_cons, List.map_nil]); first | done | rfl | (simp only [List.length_drop, List.length_take]; rfl)) ?_
          with_reducible refine (spec_decimals.calls k1 (IntKind.u64.wrap ((IntKind.u64.wrap (Int.tdiv t442 x8_1)) + 1)) t445 _ A14.out).mono ?_
          rintro e w21 ⟨rfl, hb⟩
          refine ⟨_, rfl, ?_⟩
          have n0_ := Aside0.mk (blk_below (g := gb440) (o := .cells #[.int .i64 a0_0, .int .u64 a0_1] 31 (0, 0)) (by (with_reducible repeat (first | refine blk_drewN ?_ _ | refine blk_drew ?_ | refine blk_alloc ?_ _)); exact BK440.out) hb)
          have n1_ := Aside0.mk (below_step (by repeat (first | (with_reducible first | exact HB.out | apply below_alloc | apply pw_below_drewN | apply below_drew1 | refine below_set ?_ GE440.out) | exact HB.out)) hb)
          clear BK440
          clear HB
          have BK440 := n0_
          have HB := n1_
          clear n0_ n1_
          (try clear hb)
          (try clear hb2)
          (try clear hk)
          (try clear hi)
          refine hK.out _ _ ⟨(blk_cell BK440.out 0).trans rfl, (blk_cell BK440.out 1).trans rfl⟩ (fun hHeld => ?_)
          clear hK K
          refine norm_ (a' := ?_) ?_ ?_
          rotate_left
          · show Act.put _ (some 44) _ = _
            simp only [Act.put, List.setIfInBounds_toArray, List.set_cons_zero, List.set_cons_succ, i64_w, i32_w]
            rfl
          refine pure_ (i := 7) (N := some 48) (v := ?_) (a' := ?_) #[true, true, true, true, true, true, true, true, true, false, false] rfl rfl (any_of HT_.out (by kernel_rfl)) (fun _ _ _ h => h) (Or.inl ⟨by rfl, ?_⟩) ?_ ?_
          rotate_left
          · intro w'
            go_simp
            with_reducible rfl
          rotate_left
          · simp only [Act.put, List.setIfInBounds_toArray, List.set_cons_zero, List.set_cons_succ, i64_w, i32_w]
            rfl
          refine one_ (i := 9) (N := some 50) #[true, true, true, true, true, true, true, true, true, true, false] rfl rfl (one_of HT_.out (by kernel_rfl)) (by decide) (fun K hK => ?_)
          refine goes_ Tryd.func45 (by kernel_rfl) rfl #[.agg #[.int .i64 a0_0, .int .u64 a0_1], .agg #[.string t445, .int .i64 (wrap64 (t441 - x9_1))], .int .u64 a1] (by rfl) rfl rfl (by (try simp only [List.map_toArray, List.map_cons, List.map_nil]); first | done | rfl | (simp only [List.length_drop, List.length_take]; rfl)) ?_
          with_reducible refine (spec_Form_reads.calls k1 a0_0 a0_1 t445 (wrap64 (t441 - x9_1)) a1 t446 _ A15.out).mono ?_
          rintro e w22 ⟨rfl, hb⟩
          refine ⟨_, rfl, ?_⟩
          have n0_ := Aside0.mk (blk_below (g := gb440) (o := .cells #[.int .i64 a0_0, .int .u64 a0_1] 31 (0, 0)) (by (with_reducible repeat (first | refine blk_drewN ?_ _ | refine blk_drew ?_ | refine blk_alloc ?_ _)); exact BK440.out) hb)
          have n1_ := Aside0.mk (below_step (by repeat (first | (with_reducible first | exact HB.out | apply below_alloc | apply pw_below_drewN | apply below_drew1 | refine below_set ?_ GE440.out) | exact HB.out)) hb)
          clear BK440
          clear HB
          have BK440 := n0_
          have HB := n1_
          clear n0_ n1_
          (try clear hb)
          (try clear hb2)
          (try clear hk)
          (try clear hi)
          refine hK.out _ _ ⟨(blk_cell BK440.out 0).trans rfl, (blk_cell BK440.out 1).trans rfl⟩ (fun hHeld => ?_)
          clear hK K
          refine norm_ (a' := ?_) ?_ ?_
          rotate_left
          · show Act.put _ (some 50) _ = _
            simp only [Act.put, List.setIfInBounds_toArray, List.set_cons_zero, List.set_cons_succ, i64_w, i32_w]
            rfl
          refine pure_ (i := 10) (N := some 12) (v := ?_) (a' := ?_) #[true, true, true, true, true, true, true, true, true, true, true] rfl rfl (any_of HT_.out (by kernel_rfl)) (fun _ _ _ h => h) (Or.inl ⟨by rfl, ?_⟩) ?_ ?_
          rotate_left
          · intro w'
            go_simp
            with_reducible rfl
          rotate_left
          · simp only [Act.put, List.setIfInBounds_toArray, List.set_cons_zero, List.set_cons_succ, i64_w, i32_w]
            rfl
          refine done_ (done_of HT_.out (by kernel_rfl)) ?_
          go_upto_region 11 with (fail)
          go_cut [56] (fun v56 wc => ∃ (kq : Nat) (x56_15 : Bool), v56 = .bool x56_15 ∧ Aside0 (spec_Form_Shortest.j1 kq a1 t441 t442 (IntKind.u64.wrap (Int.tdiv x8_1 10)) x9_1 (IntKind.u64.wrap (Int.tdiv t442 x8_1)) t444 t446 x56_15 a0_0 a0_1 = some (r1, r2)) ∧ Aside0 (kq ≤ k1) ∧ Aside0 (wc.heap[gb440]? = some (.cells #[.int .i64 a0_0, .int .u64 a0_1] 31 (0, 0))) ∧ Aside0 (Below w.heap.size w wc))
          case first =>
            have H := HC16.out
            clear HC16
            by_cases c23 : t444 = true
            · subst c23
              have H1 : (spec_Form_Shortest.j1 k1 a1 t441 t442 (IntKind.u64.wrap (Int.tdiv x8_1 10)) x9_1 (IntKind.u64.wrap (Int.tdiv t442 x8_1)) true t446 false a0_0 a0_1) = some (r1, r2) := by rw [if_pos rfl] at H; exact H
              clear H
              have H := H1
              clear H1
              have H' := Aside0.mk H
              clear H
              go_wp2
              go_meet
              case rel => exact ⟨_, (false), (by first | rfl | (simp; done) | (simp [*]; done)), H', ⟨by have := HK1.out; first | omega | exact Nat.le_refl _⟩, ⟨by (with_reducible repeat (first | refine blk_drewN ?_ _ | refine blk_drew ?_ | refine blk_alloc ?_ _)); exact BK440.out⟩, ⟨by repeat (first | (with_reducible first | exact HB.out | apply below_alloc | apply pw_below_drewN | apply below_drew1 | refine below_set ?_ GE440.out) | exact HB.out)⟩⟩
            · replace c23 := Bool.eq_false_iff.mpr c23
              subst c23
              have H1 : (spec_Form_Shortest.j1 k1 a1 t441 t442 (IntKind.u64.wrap (Int.tdiv x8_1 10)) x9_1 (IntKind.u64.wrap (Int.tdiv t442 x8_1)) false t446 (!t446) a0_0 a0_1) = some (r1, r2) := by rw [if_neg (show ¬ (false = true) by decide)] at H; exact H
              clear H
              have H := H1
              clear H1
              have H' := Aside0.mk H
              clear H
              go_wp2
              go_meet
              case rel => exact ⟨_, (!t446), (by first | rfl | (simp; done) | (simp [*]; done)), H', ⟨by have := HK1.out; first | omega | exact Nat.le_refl _⟩, ⟨by (with_reducible repeat (first | refine blk_drewN ?_ _ | refine blk_drew ?_ | refine blk_alloc ?_ _)); exact BK440.out⟩, ⟨by repeat (first | (with_reducible first | exact HB.out | apply below_alloc | apply pw_below_drewN | apply below_drew1 | refine below_set ?_ GE440.out) | exact HB.out)⟩⟩
          case rest =>
            clear HC16
            try clear c1
            try clear c2
            try clear p2
            try clear c3
            try clear c4
            try clear p6
            try clear c10
            try clear c10b0
            try clear c11
            try clear c11b0
            try clear c11b1
            try clear c23
            try clear hcz6_0
            try clear hcz6_1
            try clear hcz8_0
            try clear hcz8_1
            try clear hfz6_0
            try clear hfz6_1
            try clear hfz8_0
            try clear hfz8_1
            try clear p2
            try clear p6
            obtain ⟨kq, x56_15, rfl, HA, HJ15, BK440, HB⟩ := hcut
            cases kq with
            | zero => exact absurd HA.out (by simp [spec_Form_Shortest.j1])
            | succ kj15 =>
              have H := HA.out
              clear HA
              simp only [spec_Form_Shortest.j1] at H
              by_cases c24 : x56_15 = true
              · subst c24
                have H1 : (spec_Form_Shortest.l0 kj15 a1 t441 t442 (IntKind.u64.wrap (Int.tdiv x8_1 10)) (wrap64 (x9_1 + 1)) a0_0 a0_1) = some (r1, r2) := by rw [if_pos rfl] at H; exact H
                clear H
                have H := H1
                clear H1
                have H' := Aside0.mk H
                clear H
                go_wp2
                go_roundg kj15
                case measure => have := HK1.out; have := HJ15.out; omega
                case rel => exact ⟨((IntKind.u64.wrap (Int.tdiv x8_1 10))), (wrap64 (x9_1 + 1)), (by first | rfl | (simp; done) | (simp [*]; done)), (by first | rfl | (simp; done) | (simp [*]; done)), H', ⟨by have := HK1.out; have := HJ15.out; omega⟩, ⟨by (with_reducible repeat (first | refine blk_drewN ?_ _ | refine blk_drew ?_ | refine blk_alloc ?_ _)); exact BK440.out⟩, ⟨by repeat (first | (with_reducible first | exact HB.out | apply below_alloc | apply pw_below_drewN | apply below_drew1 | refine below_set ?_ GE440.out) | exact HB.out)⟩⟩
              · replace c24 := Bool.eq_false_iff.mpr c24
                subst c24
                have H1 : (if t446 = true then (if t444 = true then ((spec_Form_closer.f kj15 a0_0 a0_1 a1 (IntKind.u64.wrap (Int.tdiv t442 x8_1)) (wrap64 (t441 - x9_1))).bind fun t447 => (spec_Form_Shortest.j2 kj15 t441 x9_1 (IntKind.u64.wrap (Int.tdiv t442 x8_1)) t447)) else (spec_Form_Shortest.j2 kj15 t441 x9_1 (IntKind.u64.wrap (Int.tdiv t442 x8_1)) true)) else (spec_Form_Shortest.j2 kj15 t441 x9_1 (IntKind.u64.wrap (Int.tdiv t442 x8_1)) false)) = some (r1, r2) := by rw [if_neg (show ¬ (false = true) by decide)] at H; exact H
                clear H
                have H := H1
                clear H1
                have HC25 := Aside0.mk H
                clear H
                go_upto_region 12 with (fail)
                go_cut [70] (fun v70 wc => ∃ (kq : Nat) (x70_24 : Bool), v70 = .bool x70_24 ∧ Aside0 (spec_Form_Shortest.j2 kq t441 x9_1 (IntKind.u64.wrap (Int.tdiv t442 x8_1)) x70_24 = some (r1, r2)) ∧ Aside0 (kq ≤ kj15) ∧ Aside0 (wc.heap[gb440]? = some (.cells #[.int .i64 a0_0, .int .u64 a0_1] 31 (0, 0))) ∧ Aside0 (Below w.heap.size w wc))
                case first =>
                  have H := HC25.out
                  clear HC25
                  by_cases c26 : t446 = true
                  · subst c26
                    have H1 : (if t444 = true then ((spec_Form_closer.f kj15 a0_0 a0_1 a1 (IntKind.u64.wrap (Int.tdiv t442 x8_1)) (wrap64 (t441 - x9_1))).bind fun t447 => (spec_Form_Shortest.j2 kj15 t441 x9_1 (IntKind.u64.wrap (Int.tdiv t442 x8_1)) t447)) else (spec_Form_Shortest.j2 kj15 t441 x9_1 (IntKind.u64.wrap (Int.tdiv t442 x8_1)) true)) = some (r1, r2) := by rw [if_pos rfl] at H; exact H
                    clear H
                    have H := H1
                    clear H1
                    by_cases c27 : t444 = true
                    · subst c27
                      have H1 : ((spec_Form_closer.f kj15 a0_0 a0_1 a1 (IntKind.u64.wrap (Int.tdiv t442 x8_1)) (wrap64 (t441 - x9_1))).bind fun t447 => (spec_Form_Shortest.j2 kj15 t441 x9_1 (IntKind.u64.wrap (Int.tdiv t442 x8_1)) t447)) = some (r1, r2) := by rw [if_pos rfl] at H; exact H
                      clear H
                      have H := H1
                      clear H1
                      replace H := Option.bind_eq_some_iff.mp H
                      obtain ⟨t447, A280, H⟩ := H
                      replace H : (spec_Form_Shortest.j2 kj15 t441 x9_1 (IntKind.u64.wrap (Int.tdiv t442 x8_1)) t447) = some (r1, r2) := H
                      have A28 := Aside0.mk A280
                      clear A280
                      have H' := Aside0.mk H
                      clear H
                      have hcz29_0 : wc.cell? ⟨gb440, 0, none⟩ = some (.int .i64 a0_0) := (blk_cell BK440.out 0).trans rfl
                      have hcz29_1 : wc.cell? ⟨gb440, 1, none⟩ = some (.int .u64 a0_1) := (blk_cell BK440.out 1).trans rfl
                      have hfz29_0 := blk_frozen BK440.out 0
                      have hfz29_1 := blk_frozen BK440.out 1
                      go_wp2_with (first | (go_at_call 47; (with_reducible refine (spec_Form_closer.calls kj15 a0_0 a0_1 a1 (IntKind.u64.wrap (Int.tdiv t442 x8_1)) (wrap64 (t441 - x9_1)) t447 _ A28.out).mono ?_); rintro e w30 ⟨rfl, hb⟩; have n0_ := Aside0.mk (blk_below (g := gb440) (o := .cells #[.int .i64 a0_0, .int .u64 a0_1] 31 (0, 0)) (by (with_reducible repeat (first | refine blk_drewN ?_ _ | refine blk_drew ?_ | refine blk_alloc ?_ _)); exact BK440.out) hb); have n1_ := Aside0.mk (below_step (by repeat (first | (with_reducible first | exact HB.out | apply below_alloc | apply pw_below_drewN | apply below_drew1 | refine below_set ?_ GE440.out) | exact HB.out)) hb); clear BK440; clear HB; have BK440 := n0_; have HB := n1_; clear n0_ n1_; (try clear hb); (try clear hb2); (try clear hk); (try clear hi)))
                      go_meet
                      case rel => exact ⟨_, (t447), (by first | rfl | (simp; done) | (simp [*]; done)), H', ⟨by have := HK1.out; have := HJ15.out; first | omega | exact Nat.le_refl _⟩, ⟨by (with_reducible repeat (first | refine blk_drewN ?_ _ | refine blk_drew ?_ | refine blk_alloc ?_ _)); exact BK440.out⟩, ⟨by repeat (first | (with_reducible first | exact HB.out | apply below_alloc | apply pw_below_drewN | apply below_drew1 | refine below_set ?_ GE440.out) | exact HB.out)⟩⟩
                    · replace c27 := Bool.eq_false_iff.mpr c27
                      subst c27
                      have H1 : (spec_Form_Shortest.j2 kj15 t441 x9_1 (IntKind.u64.wrap (Int.tdiv t442 x8_1)) true) = some (r1, r2) := by rw [if_neg (show ¬ (false = true) by decide)] at H; exact H
                      clear H
                      have H := H1
                      clear H1
                      have H' := Aside0.mk H
                      clear H
                      go_wp2
                      go_meet
                      case rel => exact ⟨_, (true), (by first | rfl | (simp; done) | (simp [*]; done)), H', ⟨by have := HK1.out; have := HJ15.out; first | omega | exact Nat.le_refl _⟩, ⟨by (with_reducible repeat (first | refine blk_drewN ?_ _ | refine blk_drew ?_ | refine blk_alloc ?_ _)); exact BK440.out⟩, ⟨by repeat (first | (with_reducible first | exact HB.out | apply below_alloc | apply pw_below_drewN | apply below_drew1 | refine below_set ?_ GE440.out) | exact HB.out)⟩⟩
                  · replace c26 := Bool.eq_false_iff.mpr c26
                    subst c26
                    have H1 : (spec_Form_Shortest.j2 kj15 t441 x9_1 (IntKind.u64.wrap (Int.tdiv t442 x8_1)) false) = some (r1, r2) := by rw [if_neg (show ¬ (false = true) by decide)] at H; exact H
                    clear H
                    have H := H1
                    clear H1
                    have H' := Aside0.mk H
                    clear H
                    go_wp2
                    go_meet
                    case rel => exact ⟨_, (false), (by first | rfl | (simp; done) | (simp [*]; done)), H', ⟨by have := HK1.out; have := HJ15.out; first | omega | exact Nat.le_refl _⟩, ⟨by (with_reducible repeat (first | refine blk_drewN ?_ _ | refine blk_drew ?_ | refine blk_alloc ?_ _)); exact BK440.out⟩, ⟨by repeat (first | (with_reducible first | exact HB.out | apply below_alloc | apply pw_below_drewN | apply below_drew1 | refine below_set ?_ GE440.out) | exact HB.out)⟩⟩
                case rest =>
                  clear HC25
                  try clear c1
                  try clear c2
                  try clear p2
                  try clear c3
                  try clear c4
                  try clear p6
                  try clear c10
                  try clear c10b0
                  try clear c11
                  try clear c11b0
                  try clear c11b1
                  try clear c23
                  try clear c24
                  try clear c26
                  try clear c27
                  try clear hcz29_0
                  try clear hcz29_1
                  try clear hcz6_0
                  try clear hcz6_1
                  try clear hcz8_0
                  try clear hcz8_1
                  try clear hfz29_0
                  try clear hfz29_1
                  try clear hfz6_0
                  try clear hfz6_1
                  try clear hfz8_0
                  try clear hfz8_1
                  try clear p2
                  try clear p6
                  obtain ⟨kq, x70_24, rfl, HA, HJ24, BK440, HB⟩ := hcut
                  cases kq with
                  | zero => exact absurd HA.out (by simp [spec_Form_Shortest.j2])
                  | succ kj24 =>
                    have H := HA.out
                    clear HA
                    simp only [spec_Form_Shortest.j2] at H
                    have HC31 := Aside0.mk H
                    clear H
                    go_upto_if 70 with (fail)
                    go_cut [10] (fun v10 wc => ∃ (kq : Nat) (x10_30 : Int), v10 = .int .u64 x10_30 ∧ Aside0 (spec_Form_Shortest.j3 kq t441 x9_1 x10_30 = some (r1, r2)) ∧ Aside0 (kq ≤ kj24) ∧ Aside0 (wc.heap[gb440]? = some (.cells #[.int .i64 a0_0, .int .u64 a0_1] 31 (0, 0))) ∧ Aside0 (Below w.heap.size w wc))
                    case first =>
                      have H := HC31.out
                      clear HC31
                      by_cases c32 : x70_24 = true
                      · subst c32
                        have H1 : (spec_Form_Shortest.j3 kj24 t441 x9_1 (IntKind.u64.wrap ((IntKind.u64.wrap (Int.tdiv t442 x8_1)) + 1))) = some (r1, r2) := by rw [if_pos rfl] at H; exact H
                        clear H
                        have H := H1
                        clear H1
                        have H' := Aside0.mk H
                        clear H
                        go_wp2
                        go_meet
                        case rel => exact ⟨_, (IntKind.u64.wrap ((IntKind.u64.wrap (Int.tdiv t442 x8_1)) + 1)), (by first | rfl | (simp; done) | (simp [*]; done)), H', ⟨by have := HK1.out; have := HJ15.out; have := HJ24.out; first | omega | exact Nat.le_refl _⟩, ⟨by (with_reducible repeat (first | refine blk_drewN ?_ _ | refine blk_drew ?_ | refine blk_alloc ?_ _)); exact BK440.out⟩, ⟨by repeat (first | (with_reducible first | exact HB.out | apply below_alloc | apply pw_below_drewN | apply below_drew1 | refine below_set ?_ GE440.out) | exact HB.out)⟩⟩
                      · replace c32 := Bool.eq_false_iff.mpr c32
                        subst c32
                        have H1 : (spec_Form_Shortest.j3 kj24 t441 x9_1 (IntKind.u64.wrap (Int.tdiv t442 x8_1))) = some (r1, r2) := by rw [if_neg (show ¬ (false = true) by decide)] at H; exact H
                        clear H
                        have H := H1
                        clear H1
                        have H' := Aside0.mk H
                        clear H
                        go_wp2
                        go_meet
                        case rel => exact ⟨_, ((IntKind.u64.wrap (Int.tdiv t442 x8_1))), (by first | rfl | (simp; done) | (simp [*]; done)), H', ⟨by have := HK1.out; have := HJ15.out; have := HJ24.out; first | omega | exact Nat.le_refl _⟩, ⟨by (with_reducible repeat (first | refine blk_drewN ?_ _ | refine blk_drew ?_ | refine blk_alloc ?_ _)); exact BK440.out⟩, ⟨by repeat (first | (with_reducible first | exact HB.out | apply below_alloc | apply pw_below_drewN | apply below_drew1 | refine below_set ?_ GE440.out) | exact HB.out)⟩⟩
                    case rest =>
                      clear HC31
                      try clear c1
                      try clear c2
                      try clear p2
                      try clear c3
                      try clear c4
                      try clear p6
                      try clear c10
                      try clear c10b0
                      try clear c11
                      try clear c11b0
                      try clear c11b1
                      try clear c23
                      try clear c24
                      try clear c26
                      try clear c27
                      try clear c32
                      try clear hcz29_0
                      try clear hcz29_1
                      try clear hcz6_0
                      try clear hcz6_1
                      try clear hcz8_0
                      try clear hcz8_1
                      try clear hfz29_0
                      try clear hfz29_1
                      try clear hfz6_0
                      try clear hfz6_1
                      try clear hfz8_0
                      try clear hfz8_1
                      try clear p2
                      try clear p6
                      obtain ⟨kq, x10_30, rfl, HA, HJ30, BK440, HB⟩ := hcut
                      cases kq with
                      | zero => exact absurd HA.out (by simp [spec_Form_Shortest.j3])
                      | succ kj30 =>
                        have H := HA.out
                        clear HA
                        simp only [spec_Form_Shortest.j3] at H
                        replace H := Option.bind_eq_some_iff.mp H
                        obtain ⟨t448, A330, H⟩ := H
                        replace H : (spec_Form_Shortest.l1 kj30 t448 (wrap64 ((wrap64 (t441 + (t448.size : Int))) - x9_1))) = some (r1, r2) := H
                        have A33 := Aside0.mk A330
                        clear A330
                        have H' := Aside0.mk H
                        clear H
                        go_wp2_with (first | ((with_reducible refine gate_callee (f := 46) rfl ?_); refine goesL_ (some 74) rfl rfl Tryd.func46 (by kernel_rfl) rfl #[.int .u64 x10_30] rfl (by (try simp only [List.map_toArray, List.map_cons, List.map_nil]); first | done | rfl | (simp only [List.length_drop, List.length_take]; rfl)) ?_; (with_reducible refine (spec_decimals.calls kj30 x10_30 t448 _ A33.out).mono ?_); rintro e w34 ⟨rfl, hb⟩; refine ⟨_, rfl, ?_⟩; have n0_ := Aside0.mk (blk_below (g := gb440) (o := .cells #[.int .i64 a0_0, .int .u64 a0_1] 31 (0, 0)) (by (with_reducible repeat (first | refine blk_drewN ?_ _ | refine blk_drew ?_ | refine blk_alloc ?_ _)); exact BK440.out) hb); have n1_ := Aside0.mk (below_step (by repeat (first | (with_reducible first | exact HB.out | apply below_alloc | apply pw_below_drewN | apply below_drew1 | refine below_set ?_ GE440.out) | exact HB.out)) hb); clear BK440; clear HB; have BK440 := n0_; have HB := n1_; clear n0_ n1_; (try clear hb); (try clear hb2); (try clear hk); (try clear hi)))
                        go_loopg [13] kj30 (fun kq v13 w' => ∃ (x13_5 : ByteArray), v13 = .string x13_5 ∧ Aside0 (spec_Form_Shortest.l1 kq x13_5 (wrap64 ((wrap64 (t441 + (t448.size : Int))) - x9_1)) = some (r1, r2)) ∧ Aside0 (kq ≤ kj30) ∧ Aside0 (w'.heap[gb440]? = some (.cells #[.int .i64 a0_0, .int .u64 a0_1] 31 (0, 0))) ∧ Aside0 (Below w.heap.size w w'))
                        case atStart => exact ⟨(t448), (by first | rfl | (simp; done) | (simp [*]; done)), H', ⟨Nat.le_refl _⟩, ⟨by (with_reducible repeat (first | refine blk_drewN ?_ _ | refine blk_drew ?_ | refine blk_alloc ?_ _)); exact BK440.out⟩, ⟨by repeat (first | (with_reducible first | exact HB.out | apply below_alloc | apply pw_below_drewN | apply below_drew1 | refine below_set ?_ GE440.out) | exact HB.out)⟩⟩
                        case round =>
                          clear H'
                          try clear c1
                          try clear c2
                          try clear p2
                          try clear c3
                          try clear c4
                          try clear p6
                          try clear c10
                          try clear c10b0
                          try clear c11
                          try clear c11b0
                          try clear c11b1
                          try clear c23
                          try clear c24
                          try clear c26
                          try clear c27
                          try clear c32
                          try clear c34
                          try clear hcz29_0
                          try clear hcz29_1
                          try clear hcz6_0
                          try clear hcz6_1
                          try clear hcz8_0
                          try clear hcz8_1
                          try clear hfz29_0
                          try clear hfz29_1
                          try clear hfz6_0
                          try clear hfz6_1
                          try clear hfz8_0
                          try clear hfz8_1
                          try clear p2
                          try clear p6
                          obtain ⟨x13_5, rfl, HA, HK5, BK440, HB⟩ := hrel
                          cases gk with
                          | zero => exact absurd HA.out (by simp [spec_Form_Shortest.l1])
                          | succ k5 =>
                            have H := HA.out
                            clear HA
                            simp only [spec_Form_Shortest.l1] at H
                            by_cases c35 : (x13_5.size : Int) > 1
                            · rw [if_pos c35] at H
                              have c35b0 : decide (1 < (x13_5.size : Int)) = true := decide_eq_true c35
                              have c35b1 : decide (1 < x13_5.size) = true := decide_eq_true (by omega)
                              clear c35
                              obtain ⟨ji36, hji36⟩ : ∃ j_ : Int, (wrap64 ((x13_5.size : Int) - 1)) = j_ := ⟨_, rfl⟩
                              replace H : (if 0 ≤ (ji36) then (if (ji36) < (x13_5.size : Int) then (if (bt x13_5 (ji36)) = 48 then (if (ji36) ≤ (x13_5.size : Int) then (spec_Form_Shortest.l1 k5 (x13_5.extract 0 ((ji36) : Int).toNat) (wrap64 ((wrap64 (t441 + (t448.size : Int))) - x9_1))) else (none)) else (some (x13_5, (wrap64 ((wrap64 (t441 + (t448.size : Int))) - x9_1))))) else (none)) else (none)) = some (r1, r2) := by first | (rw [hji36] at H; exact H) | (simp only [hji36] at H ⊢; exact H)
                              have hji36w : (IntKind.i64.wrap ((x13_5.size : Int) - 1)) = ji36 := (i64_w _).trans hji36
                              by_cases c37 : 0 ≤ (ji36)
                              · rw [if_pos c37] at H
                                have c37b0 : decide (0 ≤ (ji36)) = true := decide_eq_true c37
                                clear c37
                                by_cases c38 : (ji36) < (x13_5.size : Int)
                                · rw [if_pos c38] at H
                                  have c38b0 : decide ((ji36) < (x13_5.size : Int)) = true := decide_eq_true c38
                                  clear c38
                                  by_cases c40 : (bt x13_5 (ji36)) = 48
                                  · rw [if_pos c40] at H
                                    have c40b0 : ((bt x13_5 (ji36)) == 48) = true := beq_iff_eq.mpr c40
                                    have c40b1 : ((bt x13_5 (ji36)) != 48) = false := bne_eq_false_iff_eq.mpr c40
                                    clear c40
                                    have c41b0 := eq_true (of_decide_eq_true (by first | (with_reducible assumption) | assumption) : 0 ≤ (ji36))
                                    by_cases c42 : (ji36) ≤ (x13_5.size : Int)
                                    · rw [if_pos c42] at H
                                      have c42b0 := eq_true c42
                                      have c42b1 : decide ((ji36) ≤ (x13_5.size : Int)) = true := decide_eq_true c42
                                      clear c42
                                      have H' := Aside0.mk H
                                      clear H
                                      have p39 : 0 ≤ ((ji36) : Int) := of_decide_eq_true (by first | (with_reducible assumption) | assumption)
                                      have q39 : (ji36) < (x13_5.size : Int) := of_decide_eq_true (by first | (with_reducible assumption) | assumption)
                                      have hx39 := bt_at x13_5 (ji36)
                                      replace p39 := eq_true p39
                                      replace q39 := eq_true q39
                                      go_wp2
                                      go_roundg k5
                                      case measure => have := HK1.out; have := HJ15.out; have := HJ24.out; have := HJ30.out; have := HK5.out; omega
                                      case rel => exact ⟨(x13_5.extract 0 ((ji36) : Int).toNat), (by first | rfl | (simp; done) | (simp only [← hji36] <;> (first | rfl | simp)) | (simp [*]; done)), H', ⟨by have := HK1.out; have := HJ15.out; have := HJ24.out; have := HJ30.out; have := HK5.out; omega⟩, ⟨by (with_reducible repeat (first | refine blk_drewN ?_ _ | refine blk_drew ?_ | refine blk_alloc ?_ _)); exact BK440.out⟩, ⟨by repeat (first | (with_reducible first | exact HB.out | apply below_alloc | apply pw_below_drewN | apply below_drew1 | refine below_set ?_ GE440.out) | exact HB.out)⟩⟩
                                    · rw [if_neg c42] at H
                                      exact absurd H (by simp)
                                  · rw [if_neg c40] at H
                                    have c40b0 : ((bt x13_5 (ji36)) == 48) = false := beq_eq_false_iff_ne.mpr c40
                                    have c40b1 : ((bt x13_5 (ji36)) != 48) = true := bne_iff_ne.mpr c40
                                    simp only [Option.some.injEq, Prod.mk.injEq] at H
                                    obtain ⟨rfl, rfl⟩ := H
                                    have p39 : 0 ≤ ((ji36) : Int) := of_decide_eq_true (by first | (with_reducible assumption) | assumption)
                                    have q39 : (ji36) < (x13_5.size : Int) := of_decide_eq_true (by first | (with_reducible assumption) | assumption)
                                    have hx39 := bt_at x13_5 (ji36)
                                    replace p39 := eq_true p39
                                    replace q39 := eq_true q39
                                    go_wp2
                                    go_ret2
                                    exact ⟨by first | rfl | (simp [errW_none, errW_some] <;> rfl) | (simp only [← hji36]; first | rfl | (simp [errW_none, errW_some] <;> rfl)) | (simp [*, errW_none, errW_some] <;> rfl), by repeat (first | (with_reducible first | exact HB.out | apply below_alloc | apply pw_below_drewN | apply below_drew1 | refine below_set ?_ GE440.out) | exact HB.out)⟩
                                · rw [if_neg c38] at H
                                  exact absurd H (by simp)
                              · rw [if_neg c37] at H
                                exact absurd H (by simp)
                            · rw [if_neg c35] at H
                              have c35b0 : decide (1 < (x13_5.size : Int)) = false := decide_eq_false c35
                              have c35b1 : decide (1 < x13_5.size) = false := decide_eq_false (by omega)
                              clear c35
                              simp only [Option.some.injEq, Prod.mk.injEq] at H
                              obtain ⟨rfl, rfl⟩ := H
                              go_wp2
                              go_ret2
                              exact ⟨by first | rfl | (simp [errW_none, errW_some] <;> rfl) | (simp [*, errW_none, errW_some] <;> rfl), by repeat (first | (with_reducible first | exact HB.out | apply below_alloc | apply pw_below_drewN | apply below_drew1 | refine below_set ?_ GE440.out) | exact HB.out)⟩
      · rw [if_neg c10] at H
        have c10b0 : decide (x9_1 ≤ 17) = false := decide_eq_false c10
        clear c10
        simp only [Option.some.injEq, Prod.mk.injEq] at H
        obtain ⟨rfl, rfl⟩ := H
        go_wp2
        go_ret2
        exact ⟨by first | rfl | (simp [errW_none, errW_some] <;> rfl) | (simp [*, errW_none, errW_some] <;> rfl), by repeat (first | (with_reducible first | exact HB.out | apply below_alloc | apply pw_below_drewN | apply below_drew1 | refine below_set ?_ GE440.out) | exact HB.out)⟩

end Go.Proofs.YtiopeaponffmdaaDoor.PAll
