/- The texts of a proof, its declarations alone: part 16. -/
import Derived.WalkLawsBesides
import Derived.Laws.BitsAllLaws
import Derived.Handy
import Derived.Test.YtiopeaponffmdaaDoorVU3
import Derived.Test.YtiopeaponffmdaaDoorVU4
import Derived.Test.YtiopeaponffmdaaDoorVU5
import Derived.Test.YtiopeaponffmdaaDoorVU11
import Derived.Test.YtiopeaponffmdaaDoorVU12
import Derived.Test.YtiopeaponffmdaaDoorVU13
import Derived.Test.YtiopeaponffmdaaDoorVU14
import Derived.Test.YtiopeaponffmdaaDoorVU15
set_option linter.unusedVariables false
set_option linter.unusedSimpArgs false
-- YtiopeaponffmdaaDoorMe
namespace Go.Proofs.YtiopeaponffmdaaDoor.Fm
theorem allB_at {f : Int → Bool} {n : Nat} {o : Int} (h : allB n (fun i => f ((i : Int) + o)) = true) (E : Int) (h0 : o ≤ E) (h1 : E < o + n) : f E = true := by
  have := allB_of h (E - o).toNat (by omega)
  rwa [show (((E - o).toNat : Nat) : Int) + o = E by omega] at this
theorem certE_64 (E : Int) (h0 : -1074 ≤ E) (h1 : E ≤ 971) : certE (2 ^ 54) 11 E = true := by
  by_cases a0 : E < -946
  · exact allB_at (f := fun E => certE (2 ^ 54) 11 E) e0 E (by omega) (by omega)
  by_cases a1 : E < -818
  · exact allB_at (f := fun E => certE (2 ^ 54) 11 E) e1 E (by omega) (by omega)
  by_cases a2 : E < -690
  · exact allB_at (f := fun E => certE (2 ^ 54) 11 E) e2 E (by omega) (by omega)
  by_cases a3 : E < -562
  · exact allB_at (f := fun E => certE (2 ^ 54) 11 E) e3 E (by omega) (by omega)
  by_cases a4 : E < -434
  · exact allB_at (f := fun E => certE (2 ^ 54) 11 E) e4 E (by omega) (by omega)
  by_cases a5 : E < -306
  · exact allB_at (f := fun E => certE (2 ^ 54) 11 E) e5 E (by omega) (by omega)
  by_cases a6 : E < -178
  · exact allB_at (f := fun E => certE (2 ^ 54) 11 E) e6 E (by omega) (by omega)
  by_cases a7 : E < -50
  · exact allB_at (f := fun E => certE (2 ^ 54) 11 E) e7 E (by omega) (by omega)
  by_cases a8 : E < 78
  · exact allB_at (f := fun E => certE (2 ^ 54) 11 E) e8 E (by omega) (by omega)
  by_cases a9 : E < 206
  · exact allB_at (f := fun E => certE (2 ^ 54) 11 E) e9 E (by omega) (by omega)
  by_cases a10 : E < 334
  · exact allB_at (f := fun E => certE (2 ^ 54) 11 E) e10 E (by omega) (by omega)
  by_cases a11 : E < 462
  · exact allB_at (f := fun E => certE (2 ^ 54) 11 E) e11 E (by omega) (by omega)
  by_cases a12 : E < 590
  · exact allB_at (f := fun E => certE (2 ^ 54) 11 E) e12 E (by omega) (by omega)
  by_cases a13 : E < 718
  · exact allB_at (f := fun E => certE (2 ^ 54) 11 E) e13 E (by omega) (by omega)
  by_cases a14 : E < 846
  · exact allB_at (f := fun E => certE (2 ^ 54) 11 E) e14 E (by omega) (by omega)
  exact allB_at (f := fun E => certE (2 ^ 54) 11 E) e15 E (by omega) (by omega)
theorem certS_64 (E : Int) (h0 : -1074 ≤ E) (h1 : E ≤ 971) : certS (2 ^ 55) 11 E = true := by
  by_cases a0 : E < -946
  · exact allB_at (f := fun E => certS (2 ^ 55) 11 E) s0 E (by omega) (by omega)
  by_cases a1 : E < -818
  · exact allB_at (f := fun E => certS (2 ^ 55) 11 E) s1 E (by omega) (by omega)
  by_cases a2 : E < -690
  · exact allB_at (f := fun E => certS (2 ^ 55) 11 E) s2 E (by omega) (by omega)
  by_cases a3 : E < -562
  · exact allB_at (f := fun E => certS (2 ^ 55) 11 E) s3 E (by omega) (by omega)
  by_cases a4 : E < -434
  · exact allB_at (f := fun E => certS (2 ^ 55) 11 E) s4 E (by omega) (by omega)
  by_cases a5 : E < -306
  · exact allB_at (f := fun E => certS (2 ^ 55) 11 E) s5 E (by omega) (by omega)
  by_cases a6 : E < -178
  · exact allB_at (f := fun E => certS (2 ^ 55) 11 E) s6 E (by omega) (by omega)
  by_cases a7 : E < -50
  · exact allB_at (f := fun E => certS (2 ^ 55) 11 E) s7 E (by omega) (by omega)
  by_cases a8 : E < 78
  · exact allB_at (f := fun E => certS (2 ^ 55) 11 E) s8 E (by omega) (by omega)
  by_cases a9 : E < 206
  · exact allB_at (f := fun E => certS (2 ^ 55) 11 E) s9 E (by omega) (by omega)
  by_cases a10 : E < 334
  · exact allB_at (f := fun E => certS (2 ^ 55) 11 E) s10 E (by omega) (by omega)
  by_cases a11 : E < 462
  · exact allB_at (f := fun E => certS (2 ^ 55) 11 E) s11 E (by omega) (by omega)
  by_cases a12 : E < 590
  · exact allB_at (f := fun E => certS (2 ^ 55) 11 E) s12 E (by omega) (by omega)
  by_cases a13 : E < 718
  · exact allB_at (f := fun E => certS (2 ^ 55) 11 E) s13 E (by omega) (by omega)
  by_cases a14 : E < 846
  · exact allB_at (f := fun E => certS (2 ^ 55) 11 E) s14 E (by omega) (by omega)
  exact allB_at (f := fun E => certS (2 ^ 55) 11 E) s15 E (by omega) (by omega)
end Go.Proofs.YtiopeaponffmdaaDoor.Fm
-- YtiopeaponffmdaaDoorPAllx28
namespace Go.Proofs.YtiopeaponffmdaaDoor.PAll
open Go.RowKit Go.Proofs.YtiopeaponffmdaaDoorW.PrintWords Go.Proofs.YtiopeaponffmdaaDoorW.PrintLast Go.Proofs.YtiopeaponffmdaaDoorW.PrintMore
attribute [local go_sem] max2_int min2_int max_two min_two max_three min_three max_four min_four   -- for this text's walks alone
set_option linter.unusedVariables false
set_option linter.unusedSimpArgs false

def spec_Double.f  : Option (Int × Int) := some (52, 9218868437227405311)
set_option maxHeartbeats 8000000 in
set_option maxRecDepth 100000 in
theorem spec_Double.calls  (r1 : Int) (r2 : Int) (w : World) (h : spec_Double.f  = some (r1, r2)) :
    Calls Tryd.prog 16 #[] w fun e w' => e = .returned (.agg #[.int .i64 r1, .int .u64 r2]) ∧ Below w.heap.size w w' := by
  have hu31 := Tryd.underlying31
  have HB := Aside0.mk (Below.refl w.heap.size w)
  have H : (some (52, 9218868437227405311)) = some (r1, r2) := h
  clear h
  simp only [Option.some.injEq, Prod.mk.injEq] at H
  obtain ⟨rfl, rfl⟩ := H
  go_enter Tryd.func16, Tryd.ntmps16
  go_wp2_with (first | ((with_reducible refine gate_dst (N := 0) rfl ?_); refine box_event ?hg (N := 0) ?hd (cs := #[.int .i64 0, .int .u64 0]) (t := 31) ?hr ?_; (case hd => rfl); (case hg => rfl); (case hr => first | (go_simp; done) | (go_simp; rfl)); intro gb460 hg w1 hbox hb; have n0_ := Aside0.mk (below_step (by repeat (first | (with_reducible first | exact HB.out | apply below_alloc | apply pw_below_drewN | apply below_drew1) | exact HB.out)) hb); have n1_ := Aside0.mk (hbox); have n2_ := Aside0.mk ((by rw [hg]; exact (below_size (by repeat (first | (with_reducible first | exact HB.out | apply below_alloc | apply pw_below_drewN | apply below_drew1) | exact HB.out))) : w.heap.size ≤ gb460)); have n3_ := Aside0.mk ((by rw [hg]; exact (below_size (by repeat (first | (with_reducible first | exact HB.out | apply below_alloc | apply pw_below_drewN | apply below_drew1) | exact HB.out))) : w.heap.size ≤ gb460)); clear HB; have HB := n0_; have BK460 := n1_; have GW460 := n2_; have GE460 := n3_; clear n0_ n1_ n2_ n3_; clear hb hbox hg; have hcz2_0 : w1.cell? ⟨gb460, 0, none⟩ = some (.int .i64 0) := (blk_cell BK460.out 0).trans rfl; have hcz2_1 : w1.cell? ⟨gb460, 1, none⟩ = some (.int .u64 0) := (blk_cell BK460.out 1).trans rfl; have hfz2_0 := blk_frozen BK460.out 0; have hfz2_1 := blk_frozen BK460.out 1))
  refine bodyPost_ret (results_cell_row rfl _ _ gb460 31 #[.int .i64 52, .int .u64 9218868437227405311] (0, 0) _ rfl (by (with_reducible repeat (first | refine blk_drewN ?_ _ | refine blk_drew ?_ | refine blk_alloc ?_ _)); refine blk_put (cs := #[.int .i64 52, .int .u64 0]) ?_ 1 _ rfl; (with_reducible repeat (first | refine blk_drewN ?_ _ | refine blk_drew ?_ | refine blk_alloc ?_ _)); refine blk_put (cs := #[.int .i64 0, .int .u64 0]) ?_ 0 _ rfl; (with_reducible repeat (first | refine blk_drewN ?_ _ | refine blk_drew ?_ | refine blk_alloc ?_ _)); exact BK460.out) Tryd.underlying31 rfl (by kernel_rfl)) rfl ?_
  exact ⟨by first | rfl | (simp [errW_none, errW_some] <;> rfl) | (simp [*, errW_none, errW_some] <;> rfl), by repeat (first | (with_reducible first | exact HB.out | apply below_alloc | apply pw_below_drewN | apply below_drew1 | refine below_set ?_ GE460.out) | exact HB.out)⟩

end Go.Proofs.YtiopeaponffmdaaDoor.PAll
-- YtiopeaponffmdaaDoorNf
namespace Go.Proofs.YtiopeaponffmdaaDoor.PAll
open Go.RowKit Go.Proofs.YtiopeaponffmdaaDoorW.PrintWords Go.Proofs.YtiopeaponffmdaaDoorW.PrintLast Go.Proofs.YtiopeaponffmdaaDoorW.PrintMore

/-- the digits, laid out -/
def laidL (ds : List Int) (n : Int) : List Int :=
  if (ds.length : Int) ≤ n ∧ n ≤ 21 then ds ++ List.replicate (n - ds.length).toNat 48
  else if 0 < n ∧ n ≤ 21 then ds.take n.toNat ++ [46] ++ ds.drop n.toNat
  else if -6 < n ∧ n ≤ 0 then [48, 46] ++ List.replicate (-n).toNat 48 ++ ds
  else (if ds.length = 1 then ds else ds.take 1 ++ [46] ++ ds.drop 1) ++ (if n - 1 < 0 then [101, 45] ++ dec (1 - n).toNat else [101, 43] ++ dec (n - 1).toNat)

end Go.Proofs.YtiopeaponffmdaaDoor.PAll
-- YtiopeaponffmdaaDoorFh
namespace Go.Proofs.YtiopeaponffmdaaDoor.PAll
open Go.RowKit Go.Proofs.YtiopeaponffmdaaDoorW.PrintWords Go.Proofs.YtiopeaponffmdaaDoorW.PrintLast Go.Proofs.YtiopeaponffmdaaDoorW.PrintMore
attribute [local go_sem] max2_int min2_int max_two min_two max_three min_three max_four min_four

set_option maxHeartbeats 3200000 in
set_option maxRecDepth 100000 in
theorem ftoa64Z (P0_ : Nat → Prop) (v0 : Value) (l0 : List Int) (R : List Int → Prop) (x : Nat) (sg : Bool) (w0 w : World) (hx : x < 18446744073709551616)
    (hB : Below w0.heap.size w0 w) (ho : RM 5 w w0.heap.size P0_ v0 l0)
    (hneg : ((x : Int) / 9223372036854775808 != 0) = sg) (hexp : bits .and .i64 ((x : Int) / 4503599627370496) 2047 = 0) (hman : bits .and .u64 (x : Int) 4503599627370495 = 0)
    (hF : ∃ K r, fmtF.f K l0 sg [] 0 0 (-1) = some r ∧ R r) :
    Calls Tryd.prog 51 #[v0, .float .f64 x, .int .u8 102, .int .i64 (-1)] w (FtPost w0 R) := by
  have f53 := run53
  have HF := Lib.hid hF; have HO := Lib.hid ho; have HB := Lib.hid hB
  clear hF ho hB
  go_enter Tryd.func51, Tryd.ntmps51
  go_wp2_with (fail)
  go_quiet (fail)
  go_wp2_with (fail)
  obtain ⟨K, r, hr, hR⟩ := HF.out
  have C := fmtF.calls K P0_ v0 l0 sg none 0 [] 0 0 (-1) true r w0 (w.drewN nq) (pw_below_drewN HB.out _) (RM_drewN HO.out _) (fun W_ _ => Kd.C_of_reads (enc := Value.int .u8) (d := (0 : Int)) (h1 := fun _ => rfl) ⟨rfl, by simp, fun h => absurd h (Nat.lt_irrefl 0)⟩) (by simp) hr
  have HR := Lib.hid hR
  clear hr hR
  rw [List.length_nil] at C
  refine C.mono ?_
  rintro e w' ⟨v, rfl, q1, q2, q3⟩
  clear C
  go_wp2
  go_ret
  exact ⟨v, r, rfl, HR.out, RM_mono q1 (fun _ _ => trivial), q2⟩

end Go.Proofs.YtiopeaponffmdaaDoor.PAll
-- YtiopeaponffmdaaDoorFi
namespace Go.Proofs.YtiopeaponffmdaaDoor.PAll
open Go.RowKit Go.Proofs.YtiopeaponffmdaaDoorW.PrintWords Go.Proofs.YtiopeaponffmdaaDoorW.PrintLast Go.Proofs.YtiopeaponffmdaaDoorW.PrintMore

theorem run13 (x : Nat) (w : World) : (callFunc 13 #[.float .f64 x]).run Tryd.prog w = .ok (.value (.int .u64 (x : Int))) w := by kernel_rfl
theorem run31 (x : Nat) (w : World) : (callFunc 31 #[.int .u64 (x : Int)]).run Tryd.prog w = .ok (.value (.float .f64 x)) w := by kernel_rfl
/-- math.Abs, by its bits -/
theorem abs_calls (x y : Nat) (w : World) (h : bits .andNot .u64 (x : Int) 9223372036854775808 = (y : Int)) :
    Calls Tryd.prog 21 #[.float .f64 x] w fun e w' => e = .returned (.float .f64 y) ∧ w = w' := by
  have r13 := run13
  have r31 := run31
  go_enter Tryd.func21, Tryd.ntmps21
  go_wp2_with (fail)
  go_ret
  exact ⟨rfl, rfl⟩


set_option maxHeartbeats 1600000 in
theorem af49 (v0 : Value) (x : Nat) (fc : Int) (w0 w : World) (R : List Int → Prop) (h : Calls Tryd.prog 51 #[v0, .float .f64 x, .int .u8 fc, .int .i64 (-1)] w (FtPost w0 R)) :
    Calls Tryd.prog 49 #[v0, .float .f64 x, .int .u8 fc, .int .i64 (-1), .int .i64 64] w (FtPost w0 R) := by
  have H := Lib.hid h
  clear h
  go_enter Tryd.func49, Tryd.ntmps49
  go_wp2_with (fail)
  refine H.out.mono ?_
  rintro e w' ⟨v, r, rfl, q1, q2, q3⟩
  go_wp2_with (fail)
  go_ret
  exact ⟨v, r, rfl, q1, q2, q3⟩

set_option maxHeartbeats 1600000 in
theorem af42 (v0 : Value) (x : Nat) (fc : Int) (w0 w : World) (R : List Int → Prop) (h : Calls Tryd.prog 51 #[v0, .float .f64 x, .int .u8 fc, .int .i64 (-1)] w (FtPost w0 R)) :
    Calls Tryd.prog 42 #[v0, .float .f64 x, .int .u8 fc, .int .i64 (-1), .int .i64 64] w (FtPost w0 R) := by
  have H := Lib.hid (af49 v0 x fc w0 w R h)
  clear h
  go_enter Tryd.func42, Tryd.ntmps42
  go_wp2_with (fail)
  refine H.out.mono ?_
  rintro e w' ⟨v, r, rfl, q1, q2, q3⟩
  go_wp2_with (fail)
  go_ret
  exact ⟨v, r, rfl, q1, q2, q3⟩

/-- 'e-09' made 'e-9' -/
def fixE (r : List Int) : List Int :=
  match r.reverse with
  | d :: c :: b :: a :: q => if a = 101 ∧ b = 45 ∧ c = 48 then (d :: b :: a :: q).reverse else r
  | _ => r
theorem fixE_app (q : List Int) (a b c d : Int) : fixE (q ++ [a, b, c, d]) = if a = 101 ∧ b = 45 ∧ c = 48 then q ++ [a, b, d] else q ++ [a, b, c, d] := by
  simp [fixE]

/-- the last four bytes of a row of the call's own -/
theorem last_four {W : World} {base : Nat} {v : Value} {q : List Int} {a b c d : Int} (h : RM 5 W base (fun _ => True) v (q ++ [a, b, c, d])) :
    ∃ g cap, v = .slice (some ⟨g, 0, none⟩) (q.length + 4) cap ∧ q.length + 4 ≤ cap ∧ base ≤ g ∧ cap ≤ 9223372036854775807 ∧ W.frozen? ⟨g, q.length + 2, none⟩ = false ∧ W.cell? ⟨g, q.length, none⟩ = some (.int .u8 a) ∧ W.cell? ⟨g, q.length + 1, none⟩ = some (.int .u8 b) ∧ W.cell? ⟨g, q.length + 2, none⟩ = some (.int .u8 c) ∧ W.cell? ⟨g, q.length + 3, none⟩ = some (.int .u8 d) := by
  have hl : (q ++ [a, b, c, d]).length = q.length + 4 := by simp
  rcases h.2.2 with ⟨h1, h2⟩ | ⟨g, cap, cur, fz, h1, h2, h3, _, h4, h5, _⟩
  · simp at h2
  · rw [hl] at h1 h4
    unfold maxLen at h5
    subst h1
    have k := fun (j : Nat) (hj : j < 4) => RM_cell h (q.length + j) (by rw [hl]; omega)
    have r0 : (q ++ [a, b, c, d]).getD (q.length + 0) 0 = a := by simp
    have r1 : (q ++ [a, b, c, d]).getD (q.length + 1) 0 = b := by
      rw [List.getD_eq_getElem?_getD, List.getElem?_append_right (by omega)]; simp
    have r2 : (q ++ [a, b, c, d]).getD (q.length + 2) 0 = c := by
      rw [List.getD_eq_getElem?_getD, List.getElem?_append_right (by omega)]; simp
    have r3 : (q ++ [a, b, c, d]).getD (q.length + 3) 0 = d := by
      rw [List.getD_eq_getElem?_getD, List.getElem?_append_right (by omega)]; simp
    exact ⟨g, cap, rfl, h4, h2, h5, (k 2 (by omega)).2, by have := (k 0 (by omega)).1; rwa [r0] at this, by have := (k 1 (by omega)).1; rwa [r1] at this, by have := (k 2 (by omega)).1; rwa [r2] at this, by have := (k 3 (by omega)).1; rwa [r3] at this⟩

set_option maxHeartbeats 1600000 in
set_option maxRecDepth 100000 in
theorem af33E1 (v0 : Value) (x y : Nat) (w0 w : World) (R : List Int → Prop) (hy : bits .andNot .u64 (x : Int) 9223372036854775808 = (y : Int))
    (t0 : FloatKind.f64.format.order y 0 = some .gt) (t1 : FloatKind.f64.format.order y 4517329193108106637 = some .lt)
    (h : Calls Tryd.prog 51 #[v0, .float .f64 x, .int .u8 101, .int .i64 (-1)] w (FtPost w0 R)) (hshape : ∀ r, R r → ∃ q a b c d, r = q ++ [a, b, c, d] ∧ q.length ≤ 140737488355328) :
    Calls Tryd.prog 33 #[v0, .float .f64 x, .int .i64 64] w (FtPost w0 (fun r => ∃ r', R r' ∧ r = fixE r')) := by
  have A := fun w => abs_calls x y w hy
  have HA := Lib.hid A
  have H := Lib.hid (af42 v0 x 101 w0 w R h)
  have HS := Lib.hid hshape
  clear A hy h hshape
  go_enter Tryd.func33, Tryd.ntmps33
  go_wp2_with (fail)
  refine (HA.out _).mono ?_
  rintro e w' ⟨rfl, rfl⟩
  go_wp2_with (fail)
  refine H.out.mono ?_
  rintro e w' ⟨v, r, rfl, q1, q2, q3⟩
  obtain ⟨q, a, b, c, d, rfl, lq⟩ := HS.out r q1
  have Q1 := Lib.hid q1
  have Q2 := Lib.hid q2
  have Q3 := Lib.hid q3
  obtain ⟨g, cap, rfl, l1, l2, l3, lf, c0, c1, c2, c3⟩ := last_four q2
  clear q1 q3 q2
  clear l3
  by_cases ha : a = 101
  · by_cases hb : b = 45
    · by_cases hc : c = 48
      · subst ha hb hc
        go_wp2_with (fail)
        go_ret
        have T := RM_take (m := q.length + 3) (RM_put Q2.out (q.length + 2) (by simp) d) (by simp)
        have e : ((q ++ [101, 45, 48, d]).set (q.length + 2) d).take (q.length + 3) = fixE (q ++ [101, 45, 48, d]) := by
          rw [fixE_app, if_pos ⟨rfl, rfl, rfl⟩, List.set_append_right _ _ (by omega), List.take_append, List.take_of_length_le (by omega)]
          simp
        refine ⟨_, _, rfl, ⟨_, Q1.out, rfl⟩, by rw [← e]; exact T, Q3.out.setCell (p := ⟨g, q.length + 2, none⟩) l2 _⟩
      · have tc : (c == 48) = false := by rw [beq_eq_false_iff_ne]; omega
        have HN := Lib.hid (show fixE (q ++ [a, b, c, d]) = q ++ [a, b, c, d] by rw [fixE_app, if_neg (by omega)])
        clear hc
        subst ha hb
        go_wp2_with (fail)
        go_ret
        exact ⟨_, _, rfl, ⟨_, Q1.out, rfl⟩, by rw [HN.out]; exact Q2.out, Q3.out⟩
    · have tb : (b == 45) = false := by rw [beq_eq_false_iff_ne]; omega
      have HN := Lib.hid (show fixE (q ++ [a, b, c, d]) = q ++ [a, b, c, d] by rw [fixE_app, if_neg (by omega)])
      clear hb
      subst ha
      go_wp2_with (fail)
      go_ret
      exact ⟨_, _, rfl, ⟨_, Q1.out, rfl⟩, by rw [HN.out]; exact Q2.out, Q3.out⟩
  · have ta : (a == 101) = false := by rw [beq_eq_false_iff_ne]; omega
    have HN := Lib.hid (show fixE (q ++ [a, b, c, d]) = q ++ [a, b, c, d] by rw [fixE_app, if_neg (by omega)])
    clear ha
    go_wp2_with (fail)
    go_ret
    exact ⟨_, _, rfl, ⟨_, Q1.out, rfl⟩, by rw [HN.out]; exact Q2.out, Q3.out⟩
set_option maxHeartbeats 1600000 in
set_option maxRecDepth 100000 in
theorem af33E2 (v0 : Value) (x y : Nat) (w0 w : World) (R : List Int → Prop) (hy : bits .andNot .u64 (x : Int) 9223372036854775808 = (y : Int))
    (t0 : FloatKind.f64.format.order y 0 = some .gt) (t1 : FloatKind.f64.format.order y 4517329193108106637 = some .gt) (t2 : FloatKind.f64.format.order y 4921056587992461136 = some .gt)
    (h : Calls Tryd.prog 51 #[v0, .float .f64 x, .int .u8 101, .int .i64 (-1)] w (FtPost w0 R)) (hshape : ∀ r, R r → ∃ q a b c d, r = q ++ [a, b, c, d] ∧ q.length ≤ 140737488355328) :
    Calls Tryd.prog 33 #[v0, .float .f64 x, .int .i64 64] w (FtPost w0 (fun r => ∃ r', R r' ∧ r = fixE r')) := by
  have A := fun w => abs_calls x y w hy
  have HA := Lib.hid A
  have H := Lib.hid (af42 v0 x 101 w0 w R h)
  have HS := Lib.hid hshape
  clear A hy h hshape
  go_enter Tryd.func33, Tryd.ntmps33
  go_wp2_with (fail)
  refine (HA.out _).mono ?_
  rintro e w' ⟨rfl, rfl⟩
  go_wp2_with (fail)
  refine H.out.mono ?_
  rintro e w' ⟨v, r, rfl, q1, q2, q3⟩
  obtain ⟨q, a, b, c, d, rfl, lq⟩ := HS.out r q1
  have Q1 := Lib.hid q1
  have Q2 := Lib.hid q2
  have Q3 := Lib.hid q3
  obtain ⟨g, cap, rfl, l1, l2, l3, lf, c0, c1, c2, c3⟩ := last_four q2
  clear q1 q3 q2
  clear l3
  by_cases ha : a = 101
  · by_cases hb : b = 45
    · by_cases hc : c = 48
      · subst ha hb hc
        go_wp2_with (fail)
        go_ret
        have T := RM_take (m := q.length + 3) (RM_put Q2.out (q.length + 2) (by simp) d) (by simp)
        have e : ((q ++ [101, 45, 48, d]).set (q.length + 2) d).take (q.length + 3) = fixE (q ++ [101, 45, 48, d]) := by
          rw [fixE_app, if_pos ⟨rfl, rfl, rfl⟩, List.set_append_right _ _ (by omega), List.take_append, List.take_of_length_le (by omega)]
          simp
        refine ⟨_, _, rfl, ⟨_, Q1.out, rfl⟩, by rw [← e]; exact T, Q3.out.setCell (p := ⟨g, q.length + 2, none⟩) l2 _⟩
      · have tc : (c == 48) = false := by rw [beq_eq_false_iff_ne]; omega
        have HN := Lib.hid (show fixE (q ++ [a, b, c, d]) = q ++ [a, b, c, d] by rw [fixE_app, if_neg (by omega)])
        clear hc
        subst ha hb
        go_wp2_with (fail)
        go_ret
        exact ⟨_, _, rfl, ⟨_, Q1.out, rfl⟩, by rw [HN.out]; exact Q2.out, Q3.out⟩
    · have tb : (b == 45) = false := by rw [beq_eq_false_iff_ne]; omega
      have HN := Lib.hid (show fixE (q ++ [a, b, c, d]) = q ++ [a, b, c, d] by rw [fixE_app, if_neg (by omega)])
      clear hb
      subst ha
      go_wp2_with (fail)
      go_ret
      exact ⟨_, _, rfl, ⟨_, Q1.out, rfl⟩, by rw [HN.out]; exact Q2.out, Q3.out⟩
  · have ta : (a == 101) = false := by rw [beq_eq_false_iff_ne]; omega
    have HN := Lib.hid (show fixE (q ++ [a, b, c, d]) = q ++ [a, b, c, d] by rw [fixE_app, if_neg (by omega)])
    clear ha
    go_wp2_with (fail)
    go_ret
    exact ⟨_, _, rfl, ⟨_, Q1.out, rfl⟩, by rw [HN.out]; exact Q2.out, Q3.out⟩
set_option maxHeartbeats 1600000 in
set_option maxRecDepth 100000 in
theorem af33E3 (v0 : Value) (x y : Nat) (w0 w : World) (R : List Int → Prop) (hy : bits .andNot .u64 (x : Int) 9223372036854775808 = (y : Int))
    (t0 : FloatKind.f64.format.order y 0 = some .gt) (t1 : FloatKind.f64.format.order y 4517329193108106637 = some .gt) (t2 : FloatKind.f64.format.order y 4921056587992461136 = some .eq)
    (h : Calls Tryd.prog 51 #[v0, .float .f64 x, .int .u8 101, .int .i64 (-1)] w (FtPost w0 R)) (hshape : ∀ r, R r → ∃ q a b c d, r = q ++ [a, b, c, d] ∧ q.length ≤ 140737488355328) :
    Calls Tryd.prog 33 #[v0, .float .f64 x, .int .i64 64] w (FtPost w0 (fun r => ∃ r', R r' ∧ r = fixE r')) := by
  have A := fun w => abs_calls x y w hy
  have HA := Lib.hid A
  have H := Lib.hid (af42 v0 x 101 w0 w R h)
  have HS := Lib.hid hshape
  clear A hy h hshape
  go_enter Tryd.func33, Tryd.ntmps33
  go_wp2_with (fail)
  refine (HA.out _).mono ?_
  rintro e w' ⟨rfl, rfl⟩
  go_wp2_with (fail)
  refine H.out.mono ?_
  rintro e w' ⟨v, r, rfl, q1, q2, q3⟩
  obtain ⟨q, a, b, c, d, rfl, lq⟩ := HS.out r q1
  have Q1 := Lib.hid q1
  have Q2 := Lib.hid q2
  have Q3 := Lib.hid q3
  obtain ⟨g, cap, rfl, l1, l2, l3, lf, c0, c1, c2, c3⟩ := last_four q2
  clear q1 q3 q2
  clear l3
  by_cases ha : a = 101
  · by_cases hb : b = 45
    · by_cases hc : c = 48
      · subst ha hb hc
        go_wp2_with (fail)
        go_ret
        have T := RM_take (m := q.length + 3) (RM_put Q2.out (q.length + 2) (by simp) d) (by simp)
        have e : ((q ++ [101, 45, 48, d]).set (q.length + 2) d).take (q.length + 3) = fixE (q ++ [101, 45, 48, d]) := by
          rw [fixE_app, if_pos ⟨rfl, rfl, rfl⟩, List.set_append_right _ _ (by omega), List.take_append, List.take_of_length_le (by omega)]
          simp
        refine ⟨_, _, rfl, ⟨_, Q1.out, rfl⟩, by rw [← e]; exact T, Q3.out.setCell (p := ⟨g, q.length + 2, none⟩) l2 _⟩
      · have tc : (c == 48) = false := by rw [beq_eq_false_iff_ne]; omega
        have HN := Lib.hid (show fixE (q ++ [a, b, c, d]) = q ++ [a, b, c, d] by rw [fixE_app, if_neg (by omega)])
        clear hc
        subst ha hb
        go_wp2_with (fail)
        go_ret
        exact ⟨_, _, rfl, ⟨_, Q1.out, rfl⟩, by rw [HN.out]; exact Q2.out, Q3.out⟩
    · have tb : (b == 45) = false := by rw [beq_eq_false_iff_ne]; omega
      have HN := Lib.hid (show fixE (q ++ [a, b, c, d]) = q ++ [a, b, c, d] by rw [fixE_app, if_neg (by omega)])
      clear hb
      subst ha
      go_wp2_with (fail)
      go_ret
      exact ⟨_, _, rfl, ⟨_, Q1.out, rfl⟩, by rw [HN.out]; exact Q2.out, Q3.out⟩
  · have ta : (a == 101) = false := by rw [beq_eq_false_iff_ne]; omega
    have HN := Lib.hid (show fixE (q ++ [a, b, c, d]) = q ++ [a, b, c, d] by rw [fixE_app, if_neg (by omega)])
    clear ha
    go_wp2_with (fail)
    go_ret
    exact ⟨_, _, rfl, ⟨_, Q1.out, rfl⟩, by rw [HN.out]; exact Q2.out, Q3.out⟩

set_option maxHeartbeats 1600000 in
set_option maxRecDepth 100000 in
theorem af33F1 (v0 : Value) (x y : Nat) (w0 w : World) (R : List Int → Prop) (hy : bits .andNot .u64 (x : Int) 9223372036854775808 = (y : Int))
    (t0 : FloatKind.f64.format.order y 0 = some .gt) (t1 : FloatKind.f64.format.order y 4517329193108106637 = some .gt) (t2 : FloatKind.f64.format.order y 4921056587992461136 = some .lt)
    (h : Calls Tryd.prog 51 #[v0, .float .f64 x, .int .u8 102, .int .i64 (-1)] w (FtPost w0 R)) :
    Calls Tryd.prog 33 #[v0, .float .f64 x, .int .i64 64] w (FtPost w0 R) := by
  have A := fun w => abs_calls x y w hy
  have HA := Lib.hid A
  have H := Lib.hid (af42 v0 x 102 w0 w R h)
  clear A hy h
  go_enter Tryd.func33, Tryd.ntmps33
  go_wp2_with (fail)
  refine (HA.out _).mono ?_
  rintro e w' ⟨rfl, rfl⟩
  go_wp2_with (fail)
  refine H.out.mono ?_
  rintro e w' ⟨v, r, rfl, q1, q2, q3⟩
  have Q1 := Lib.hid q1
  have Q2 := Lib.hid q2
  have Q3 := Lib.hid q3
  clear q1 q2 q3
  go_wp2_with (fail)
  go_ret
  exact ⟨v, r, rfl, Q1.out, Q2.out, Q3.out⟩

set_option maxHeartbeats 1600000 in
set_option maxRecDepth 100000 in
theorem af33F2 (v0 : Value) (x y : Nat) (w0 w : World) (R : List Int → Prop) (hy : bits .andNot .u64 (x : Int) 9223372036854775808 = (y : Int))
    (t0 : FloatKind.f64.format.order y 0 = some .gt) (t1 : FloatKind.f64.format.order y 4517329193108106637 = some .eq) (t2 : FloatKind.f64.format.order y 4921056587992461136 = some .lt)
    (h : Calls Tryd.prog 51 #[v0, .float .f64 x, .int .u8 102, .int .i64 (-1)] w (FtPost w0 R)) :
    Calls Tryd.prog 33 #[v0, .float .f64 x, .int .i64 64] w (FtPost w0 R) := by
  have A := fun w => abs_calls x y w hy
  have HA := Lib.hid A
  have H := Lib.hid (af42 v0 x 102 w0 w R h)
  clear A hy h
  go_enter Tryd.func33, Tryd.ntmps33
  go_wp2_with (fail)
  refine (HA.out _).mono ?_
  rintro e w' ⟨rfl, rfl⟩
  go_wp2_with (fail)
  refine H.out.mono ?_
  rintro e w' ⟨v, r, rfl, q1, q2, q3⟩
  have Q1 := Lib.hid q1
  have Q2 := Lib.hid q2
  have Q3 := Lib.hid q3
  clear q1 q2 q3
  go_wp2_with (fail)
  go_ret
  exact ⟨v, r, rfl, Q1.out, Q2.out, Q3.out⟩

set_option maxHeartbeats 1600000 in
set_option maxRecDepth 100000 in
theorem af33Z (v0 : Value) (x y : Nat) (w0 w : World) (R : List Int → Prop) (hy : bits .andNot .u64 (x : Int) 9223372036854775808 = (y : Int))
    (t0 : FloatKind.f64.format.order y 0 = some .eq)
    (h : Calls Tryd.prog 51 #[v0, .float .f64 x, .int .u8 102, .int .i64 (-1)] w (FtPost w0 R)) :
    Calls Tryd.prog 33 #[v0, .float .f64 x, .int .i64 64] w (FtPost w0 R) := by
  have A := fun w => abs_calls x y w hy
  have HA := Lib.hid A
  have H := Lib.hid (af42 v0 x 102 w0 w R h)
  clear A hy h
  go_enter Tryd.func33, Tryd.ntmps33
  go_wp2_with (fail)
  refine (HA.out _).mono ?_
  rintro e w' ⟨rfl, rfl⟩
  go_wp2_with (fail)
  refine H.out.mono ?_
  rintro e w' ⟨v, r, rfl, q1, q2, q3⟩
  have Q1 := Lib.hid q1
  have Q2 := Lib.hid q2
  have Q3 := Lib.hid q3
  clear q1 q2 q3
  go_wp2_with (fail)
  go_ret
  exact ⟨v, r, rfl, Q1.out, Q2.out, Q3.out⟩

theorem af25 (v0 : Value) (x : Nat) (w0 w : World) (R : List Int → Prop) (h : Calls Tryd.prog 33 #[v0, .float .f64 x, .int .i64 64] w (FtPost w0 R)) :
    Calls Tryd.prog 25 #[v0, .float .f64 x, .int .i64 64] w (FtPost w0 R) := by
  have H := Lib.hid h
  clear h
  go_enter Tryd.func25, Tryd.ntmps25
  go_wp2_with (fail)
  refine H.out.mono ?_
  rintro e w' ⟨v, r, rfl, q1, q2, q3⟩
  go_wp2_with (fail)
  go_ret
  exact ⟨v, r, rfl, q1, q2, q3⟩

end Go.Proofs.YtiopeaponffmdaaDoor.PAll
-- YtiopeaponffmdaaDoorNg
namespace Go.Proofs.YtiopeaponffmdaaDoor.PAll
open Go.RowKit Go.Proofs.YtiopeaponffmdaaDoorW.PrintWords Go.Proofs.YtiopeaponffmdaaDoorW.PrintLast Go.Proofs.YtiopeaponffmdaaDoorW.PrintMore

theorem drop_rd (y : List Int) (i : Nat) (h : i < y.length) : y.drop i = rd y (i : Int) :: y.drop (i + 1) := by
  rw [List.drop_eq_getElem_cons h]
  congr 1
  simp [rd, List.getD, List.getElem?_eq_getElem h]

theorem ef_l5 (x0 : List Int) : Ev (fun k => strconv_fmtEFG.l5 k x0 0 0) x0 := by
  refine Ev.succ (g := fun _ => some x0) (fun k => ?_) (Ev.pure _)
  rw [strconv_fmtEFG.l5, if_neg (by omega)]

theorem ef_l4 (x2 : List Int) (b n : Nat) (hb : b + n ≤ x2.length) (hn : x2.length ≤ 100000) : ∀ (m i : Nat) (x0 : List Int), i + m = n → x0.length + m < 100000000000 →
    Ev (fun k => strconv_fmtEFG.l4 k x0 x2 (b : Int) 0 (n : Int) (i : Int)) (x0 ++ (x2.drop (b + i)).take m) := by
  intro m
  induction m with
  | zero =>
    intro i x0 hi hl
    rw [List.take_zero, List.append_nil]
    refine Ev.succ (fun k => ?_) (ef_l5 x0)
    rw [strconv_fmtEFG.l4, if_neg (by omega)]
  | succ m ih =>
    intro i x0 hi hl
    have f := ih (i + 1) (x0 ++ [rd x2 ((b + i : Nat) : Int)]) (by omega) (by rw [List.length_append]; simp only [List.length_cons, List.length_nil]; omega)
    have e : x0 ++ (x2.drop (b + i)).take (m + 1) = (x0 ++ [rd x2 ((b + i : Nat) : Int)]) ++ (x2.drop (b + (i + 1))).take m := by
      rw [drop_rd x2 (b + i) (by omega), List.take_succ_cons, List.append_cons]
      rfl
    rw [e]
    refine Ev.succ (fun k => ?_) f
    have w1 : wrap64 ((b : Int) + (i : Int)) = ((b + i : Nat) : Int) := by rw [w64 _ (by omega) (by omega)]; omega
    have w2 : wrap64 ((i : Int) + 1) = ((i + 1 : Nat) : Int) := by rw [w64 _ (by omega) (by omega)]; omega
    rw [strconv_fmtEFG.l4, if_pos (by omega), w1, if_pos (by omega), if_pos (by omega), if_pos (by omega), w2]

theorem ef_l3 (x2 : List Int) (b c n : Nat) (r : List Int) (hn : n ≤ 100000) : ∀ (m i : Nat) (x0 : List Int), i + m = n → x0.length + m < 100000000000 →
    Ev (fun k => strconv_fmtEFG.l4 k (x0 ++ List.replicate m 48) x2 (b : Int) 0 (c : Int) 0) r → Ev (fun k => strconv_fmtEFG.l3 k x0 x2 (b : Int) (c : Int) 0 (n : Int) (i : Int)) r := by
  intro m
  induction m with
  | zero =>
    intro i x0 hi hl h
    rw [List.replicate_zero, List.append_nil] at h
    refine Ev.succ (fun k => ?_) h
    rw [strconv_fmtEFG.l3, if_neg (by omega)]
  | succ m ih =>
    intro i x0 hi hl h
    rw [List.replicate_succ, List.append_cons] at h
    refine Ev.succ (fun k => ?_) (ih (i + 1) (x0 ++ [48]) (by omega) (by rw [List.length_append]; simp only [List.length_cons, List.length_nil]; omega) h)
    have w2 : wrap64 ((i : Int) + 1) = ((i + 1 : Nat) : Int) := by rw [w64 _ (by omega) (by omega)]; omega
    rw [strconv_fmtEFG.l3, if_pos (by omega), if_pos (by omega), w2]

theorem ef_l2 (x2 : List Int) (x3 x4 x5 : Int) (n : Nat) (r : List Int) (hn : n ≤ 100000) : ∀ (m i : Nat) (x0 : List Int), i + m = n → x0.length + m < 100000000000 →
    Ev (fun k => strconv_fmtEFG.j17 k (x0 ++ List.replicate m 48) x2 x3 x4 x5) r → Ev (fun k => strconv_fmtEFG.l2 k x0 x2 x3 x4 x5 (n : Int) (i : Int)) r := by
  intro m
  induction m with
  | zero =>
    intro i x0 hi hl h
    rw [List.replicate_zero, List.append_nil] at h
    refine Ev.succ (fun k => ?_) h
    rw [strconv_fmtEFG.l2, if_neg (by omega)]
  | succ m ih =>
    intro i x0 hi hl h
    rw [List.replicate_succ, List.append_cons] at h
    refine Ev.succ (fun k => ?_) (ih (i + 1) (x0 ++ [48]) (by omega) (by rw [List.length_append]; simp only [List.length_cons, List.length_nil]; omega) h)
    have w2 : wrap64 ((i : Int) + 1) = ((i + 1 : Nat) : Int) := by rw [w64 _ (by omega) (by omega)]; omega
    rw [strconv_fmtEFG.l2, if_pos (by omega), if_pos (by omega), w2]

theorem ef_l1 (x2 y : List Int) (x3 x4 x5 x23 : Int) (r : List Int) (hn : y.length ≤ 100000) : ∀ (m i : Nat) (x0 : List Int), i + m = y.length → x0.length + m < 100000000000 →
    Ev (fun k => strconv_fmtEFG.l2 k (x0 ++ y.drop i) x2 x3 x4 x5 (wrap64 (x3 - x23)) 0) r → Ev (fun k => strconv_fmtEFG.l1 k x0 x2 x3 x4 x5 x23 y (y.length : Int) (i : Int)) r := by
  intro m
  induction m with
  | zero =>
    intro i x0 hi hl h
    rw [List.drop_eq_nil_of_le (by omega), List.append_nil] at h
    refine Ev.succ (fun k => ?_) h
    rw [strconv_fmtEFG.l1, if_neg (by omega)]
  | succ m ih =>
    intro i x0 hi hl h
    rw [drop_rd y i (by omega), List.append_cons] at h
    refine Ev.succ (fun k => ?_) (ih (i + 1) (x0 ++ [rd y (i : Int)]) (by omega) (by rw [List.length_append]; simp only [List.length_cons, List.length_nil]; omega) h)
    have w2 : wrap64 ((i : Int) + 1) = ((i + 1 : Nat) : Int) := by rw [w64 _ (by omega) (by omega)]; omega
    rw [strconv_fmtEFG.l1, if_pos (by omega), if_pos (by omega), if_pos (by omega), if_pos (by omega), w2]

/-- behind the point -/
theorem ef_j17 (x0 x2 : List Int) (dp : Int) (nd : Nat) (hl : x0.length < 50000000000) (h2 : nd ≤ x2.length) (h3 : x2.length ≤ 100) (h4 : -1000 ≤ dp) (h5 : dp < nd) :
    Ev (fun k => strconv_fmtEFG.j17 k x0 x2 dp (nd : Int) ((nd : Int) - dp)) (x0 ++ [46] ++ List.replicate (-dp).toNat 48 ++ (x2.drop dp.toNat).take (nd - dp.toNat)) := by
  obtain ⟨z, hz⟩ : ∃ z, z = (-dp).toNat := ⟨_, rfl⟩
  obtain ⟨b, hb⟩ : ∃ b, b = dp.toNat := ⟨_, rfl⟩
  rw [← hz, ← hb]
  have a1 : mx 0 (wrap64 (-dp)) = (z : Int) := by rw [w64 _ (by omega) (by omega)]; unfold mx; split <;> omega
  have a2 : mn ((nd : Int) - dp) (z : Int) = (z : Int) := by unfold mn; split <;> omega
  have a3 : wrap64 (dp + (z : Int)) = (b : Int) := by rw [w64 _ (by omega) (by omega)]; omega
  have a4 : wrap64 ((nd : Int) - dp - (z : Int)) = ((nd - b : Nat) : Int) := by rw [w64 _ (by omega) (by omega)]; omega
  have a5 : mx 0 (wrap64 ((nd : Int) - (b : Int))) = ((nd - b : Nat) : Int) := by rw [w64 _ (by omega) (by omega)]; unfold mx; split <;> omega
  have a6 : mn ((nd - b : Nat) : Int) ((nd - b : Nat) : Int) = ((nd - b : Nat) : Int) := by unfold mn; split <;> rfl
  have a7 : mx 0 (wrap64 (((nd - b : Nat) : Int) - ((nd - b : Nat) : Int))) = 0 := by rw [w64 _ (by omega) (by omega)]; unfold mx; split <;> omega
  have f4 := ef_l4 x2 b (nd - b) (by omega) (by omega) (nd - b) 0 (x0 ++ [46] ++ List.replicate z 48) (by omega) (by simp only [List.length_append, List.length_cons, List.length_nil, List.length_replicate]; omega)
  have f3 := ef_l3 x2 b (nd - b) z _ (by omega) z 0 (x0 ++ [46]) (by omega) (by simp only [List.length_append, List.length_cons, List.length_nil]; omega) f4
  rw [Nat.add_zero] at f3
  refine Ev.succ (fun k => ?_) f3
  rw [strconv_fmtEFG.j17, if_pos (by omega), if_pos (by omega), a1, a2, a3, a4, a5, a6, a7]
  rfl

theorem fmtF_j14 (x0 buf : List Int) (nd : Nat) (dp : Int) (h1 : 1 ≤ nd) (h2 : nd ≤ buf.length) (h3 : buf.length ≤ 100) (hl : x0.length ≤ 40000000000) (hd0 : -6 < dp) (hd1 : dp ≤ 21) :
    Ev (fun k => strconv_fmtEFG.j14 k x0 buf dp (nd : Int) (mx ((nd : Int) - dp) 0)) (x0 ++ laidL (buf.take nd) dp) := by
  have hlen : (buf.take nd).length = nd := by rw [List.length_take]; omega
  unfold laidL
  rw [hlen]
  by_cases hp : dp > 0
  · obtain ⟨d, rfl⟩ : ∃ d : Nat, dp = (d : Int) := ⟨dp.toNat, by omega⟩
    by_cases hle : nd ≤ d
    · rw [if_pos ⟨by omega, hd1⟩]
      have a1 : mn (nd : Int) (d : Int) = (nd : Int) := by unfold mn; split <;> omega
      have a2 : mx ((nd : Int) - (d : Int)) 0 = 0 := by unfold mx; split <;> omega
      have a3 : ((d : Int) - (nd : Int)).toNat = d - nd := by omega
      rw [a2, a3]
      have f17 : Ev (fun k => strconv_fmtEFG.j17 k (x0 ++ (buf.take nd).drop 0 ++ List.replicate (d - nd) 48) buf (d : Int) (nd : Int) 0) (x0 ++ (buf.take nd ++ List.replicate (d - nd) 48)) := by
        refine Ev.succ (g := fun _ => some (x0 ++ (buf.take nd ++ List.replicate (d - nd) 48))) (fun k => ?_) (Ev.pure _)
        rw [strconv_fmtEFG.j17, if_neg (by omega), List.drop_zero, List.append_assoc]
      have f2 := ef_l2 buf (d : Int) (nd : Int) 0 (d - nd) _ (by omega) (d - nd) 0 (x0 ++ (buf.take nd).drop 0) (by omega) (by simp only [List.length_append, List.length_drop, hlen]; omega) f17
      have a4 : ((d - nd : Nat) : Int) = wrap64 ((d : Int) - (nd : Int)) := by rw [w64 _ (by omega) (by omega)]; omega
      rw [a4] at f2
      have f1 := ef_l1 buf (buf.take nd) (d : Int) (nd : Int) 0 (nd : Int) _ (by omega) nd 0 x0 (by omega) (by omega) f2
      refine Ev.succ (fun k => ?_) f1
      rw [strconv_fmtEFG.j14, if_pos hp, a1, if_pos (by omega), if_pos (by omega), Int.toNat_natCast, Option.bind_some]
      rfl
    · rw [if_neg (by omega), if_pos ⟨by omega, hd1⟩, Int.toNat_natCast]
      have a1 : mn (nd : Int) (d : Int) = (d : Int) := by unfold mn; split <;> omega
      have a2 : mx ((nd : Int) - (d : Int)) 0 = (nd : Int) - (d : Int) := by unfold mx; split <;> omega
      rw [a2]
      have hlen2 : (buf.take d).length = d := by rw [List.length_take]; omega
      have f17 := ef_j17 (x0 ++ buf.take d) buf (d : Int) nd (by rw [List.length_append]; omega) h2 h3 (by omega) (by omega)
      rw [show (-(d : Int)).toNat = 0 by omega, List.replicate_zero, List.append_nil, Int.toNat_natCast] at f17
      have e : x0 ++ ((buf.take nd).take d ++ [46] ++ (buf.take nd).drop d) = x0 ++ buf.take d ++ [46] ++ (buf.drop d).take (nd - d) := by
        rw [List.take_take, Nat.min_eq_left (by omega), List.drop_take]
        simp only [List.append_assoc]
      rw [e]
      have f2 := ef_l2 buf (d : Int) (nd : Int) ((nd : Int) - (d : Int)) 0 _ (by omega) 0 0 (x0 ++ (buf.take d).drop 0) (by omega) (by simp only [List.length_append, List.length_drop, hlen2]; omega) (by rw [List.replicate_zero, List.append_nil, List.drop_zero]; exact f17)
      have a4 : ((0 : Nat) : Int) = wrap64 ((d : Int) - (d : Int)) := by rw [w64 _ (by omega) (by omega)]; omega
      have f1 := ef_l1 buf (buf.take d) (d : Int) (nd : Int) ((nd : Int) - (d : Int)) (d : Int) _ (by omega) d 0 x0 (by omega) (by omega) (by rw [← a4]; exact f2)
      refine Ev.succ (fun k => ?_) f1
      rw [strconv_fmtEFG.j14, if_pos hp, a1, if_pos (by omega), if_pos (by omega), Int.toNat_natCast, Option.bind_some]
      rfl
  · rw [if_neg (by omega), if_neg (by omega), if_pos ⟨hd0, by omega⟩]
    have a2 : mx ((nd : Int) - dp) 0 = (nd : Int) - dp := by unfold mx; split <;> omega
    rw [a2]
    have f17 := ef_j17 (x0 ++ [48]) buf dp nd (by rw [List.length_append]; simp only [List.length_cons, List.length_nil]; omega) h2 h3 (by omega) (by omega)
    have e0 : dp.toNat = 0 := by omega
    rw [e0, List.drop_zero, Nat.sub_zero] at f17
    have e : x0 ++ ([48, 46] ++ List.replicate (-dp).toNat 48 ++ buf.take nd) = x0 ++ [48] ++ [46] ++ List.replicate (-dp).toNat 48 ++ buf.take nd := by
      simp only [List.append_assoc, List.cons_append, List.nil_append]
    rw [e]
    refine Ev.succ (fun k => ?_) f17
    rw [strconv_fmtEFG.j14, if_neg hp, if_pos (by omega)]

theorem fmtF_ev (l0 buf : List Int) (neg : Bool) (nd : Nat) (dp : Int) (h1 : 1 ≤ nd) (h2 : nd ≤ buf.length) (h3 : buf.length ≤ 100) (hl : l0.length ≤ 5000000000) (hd0 : -6 < dp) (hd1 : dp ≤ 21) :
    ∃ K, fmtF.f K l0 neg buf dp (nd : Int) (mx ((nd : Int) - dp) 0) = some (l0 ++ ((if neg = true then [45] else []) ++ laidL (buf.take nd) dp)) := by
  cases neg with
  | true =>
    obtain ⟨K, h⟩ := fmtF_j14 (l0 ++ [45]) buf nd dp h1 h2 h3 (by rw [List.length_append]; simp only [List.length_cons, List.length_nil]; omega) hd0 hd1
    refine ⟨K, ?_⟩
    rw [fmtF.f, if_pos rfl, if_pos (by omega), if_pos rfl, ← List.append_assoc]
    exact h K (Nat.le_refl _)
  | false =>
    obtain ⟨K, h⟩ := fmtF_j14 l0 buf nd dp h1 h2 h3 (by omega) hd0 hd1
    refine ⟨K, ?_⟩
    rw [fmtF.f, if_neg (by decide), if_neg (by decide), List.nil_append]
    exact h K (Nat.le_refl _)
theorem fmtF_zero (l0 : List Int) (neg : Bool) (hl : l0.length ≤ 5000000000) : ∃ K, fmtF.f K l0 neg [] 0 0 (-1) = some (l0 ++ ((if neg = true then [45] else []) ++ [48])) := by
  have h : ∀ x0 : List Int, x0.length < 50000000000 → strconv_fmtEFG.j14 2 x0 [] 0 0 (-1) = some (x0 ++ [48]) := by
    intro x0 hx
    rw [strconv_fmtEFG.j14, if_neg (by decide), if_pos (by omega), strconv_fmtEFG.j17, if_neg (by decide)]
  cases neg with
  | true =>
    refine ⟨2, ?_⟩
    rw [fmtF.f, if_pos rfl, if_pos (by omega), if_pos rfl, ← List.append_assoc]
    exact h _ (by rw [List.length_append]; simp only [List.length_cons, List.length_nil]; omega)
  | false =>
    refine ⟨2, ?_⟩
    rw [fmtF.f, if_neg (by decide), if_neg (by decide), List.nil_append]
    exact h _ (by omega)

/-- the digits of an exponent -/
def expL (x : Nat) : List Int := if x < 10 then [48, ((x + 48 : Nat) : Int)] else if x < 100 then [((x / 10 + 48 : Nat) : Int), ((x % 10 + 48 : Nat) : Int)] else [((x / 100 + 48 : Nat) : Int), ((x / 10 % 10 + 48 : Nat) : Int), ((x % 10 + 48 : Nat) : Int)]

theorem ef_j13 (x0 : List Int) (s : Int) (x : Nat) (hx : x < 1000) (hl : x0.length ≤ 90000000000) : Ev (fun k => strconv_fmtEFG.j13 k x0 s (x : Int)) (x0 ++ [s] ++ expL x) := by
  refine Ev.succ (g := fun _ => some (x0 ++ [s] ++ expL x)) (fun k => ?_) (Ev.pure _)
  have t10 : Int.tdiv (x : Int) 10 = ((x / 10 : Nat) : Int) := rfl
  have t100 : Int.tdiv (x : Int) 100 = ((x / 100 : Nat) : Int) := rfl
  have m10 : Int.tmod (x : Int) 10 = ((x % 10 : Nat) : Int) := rfl
  have ls : (x0 ++ [s]).length = x0.length + 1 := by simp
  rw [strconv_fmtEFG.j13, if_pos (by omega), t10, t100, m10, Option.bind_some]
  unfold expL
  by_cases h1 : x < 10
  · rw [if_pos (by omega), Option.bind_some, if_pos h1, if_pos (by rw [ls]; simp only [List.length_cons, List.length_nil]; omega)]
    have e : ((x : Int) % 256 + 48) % 256 = ((x + 48 : Nat) : Int) := by omega
    rw [e]
  · by_cases h2 : x < 100
    · rw [if_neg (by omega), if_neg h1, if_pos (by omega), Option.bind_some, if_pos h2, if_pos (by rw [ls]; simp only [List.length_cons, List.length_nil]; omega), w64 _ (by omega) (by omega)]
      have e1 : (((x / 10 : Nat) : Int) % 256 + 48) % 256 = ((x / 10 + 48 : Nat) : Int) := by omega
      have e2 : (((x % 10 : Nat) : Int) % 256 + 48) % 256 = ((x % 10 + 48 : Nat) : Int) := by omega
      rw [e1, e2]
    · rw [if_neg (by omega), if_neg h1, if_neg (by omega), Option.bind_some, if_neg h2, if_pos (by rw [ls]; simp only [List.length_cons, List.length_nil]; omega), w64 _ (by omega) (by omega), w64 _ (by omega) (by omega)]
      have e1 : (((x / 100 : Nat) : Int) % 256 + 48) % 256 = ((x / 100 + 48 : Nat) : Int) := by omega
      have e2 : (((x / 10 : Nat) : Int) % 256) % 10 + 48 = ((x / 10 % 10 + 48 : Nat) : Int) := by omega
      have e3 : (((x % 10 : Nat) : Int) % 256 + 48) % 256 = ((x % 10 + 48 : Nat) : Int) := by omega
      rw [e1, e2, e3]

theorem dec_expL (x : Nat) (hx : x < 1000) : (x < 10 → expL x = [48, ((x + 48 : Nat) : Int)] ∧ dec x = [((x + 48 : Nat) : Int)]) ∧ (10 ≤ x → x < 100 → dec x = expL x ∧ expL x = [((x / 10 + 48 : Nat) : Int), ((x % 10 + 48 : Nat) : Int)]) ∧ (100 ≤ x → dec x = expL x ∧ expL x = [((x / 100 + 48 : Nat) : Int), ((x / 10 % 10 + 48 : Nat) : Int), ((x % 10 + 48 : Nat) : Int)]) := by
  refine ⟨fun h => ⟨if_pos h, by rw [dec_lt h, Nat.add_comm]⟩, fun h1 h2 => ?_, fun h1 => ?_⟩
  · have e : expL x = [((x / 10 + 48 : Nat) : Int), ((x % 10 + 48 : Nat) : Int)] := by unfold expL; rw [if_neg (by omega), if_pos h2]
    refine ⟨?_, e⟩
    rw [e, dec_ge h1, dec_lt (by omega), Nat.add_comm 48, Nat.add_comm 48]
    rfl
  · have e : expL x = [((x / 100 + 48 : Nat) : Int), ((x / 10 % 10 + 48 : Nat) : Int), ((x % 10 + 48 : Nat) : Int)] := by unfold expL; rw [if_neg (by omega), if_neg (by omega)]
    refine ⟨?_, e⟩
    rw [e, dec_ge (n := x) (by omega), dec_ge (n := x / 10) (by omega), dec_lt (by omega), Nat.add_comm 48, Nat.add_comm 48, Nat.add_comm 48, Nat.div_div_eq_div_mul]
    rfl

/-- a text with its exponent, mended -/
theorem fixE_exp (p : List Int) (s : Int) (x : Nat) (hx : x < 1000) (h : (s = 45 ∧ 1 ≤ x) ∨ (s = 43 ∧ 10 ≤ x)) :
    (∃ q a b c d, p ++ [101] ++ [s] ++ expL x = q ++ [a, b, c, d] ∧ q.length ≤ p.length + 1) ∧ fixE (p ++ [101] ++ [s] ++ expL x) = p ++ ([101, s] ++ dec x) := by
  obtain ⟨d1, d2, d3⟩ := dec_expL x hx
  by_cases h1 : x < 10
  · obtain ⟨e1, e2⟩ := d1 h1
    have hs : s = 45 := by omega
    have e : p ++ [101] ++ [s] ++ expL x = p ++ [101, s, 48, ((x + 48 : Nat) : Int)] := by rw [e1]; simp
    refine ⟨⟨p, 101, s, 48, ((x + 48 : Nat) : Int), e, by omega⟩, ?_⟩
    rw [e, fixE_app, if_pos ⟨rfl, hs, rfl⟩, e2]
    rfl
  · by_cases h2 : x < 100
    · obtain ⟨e2, e1⟩ := d2 (by omega) h2
      have e : p ++ [101] ++ [s] ++ expL x = p ++ [101, s, ((x / 10 + 48 : Nat) : Int), ((x % 10 + 48 : Nat) : Int)] := by rw [e1]; simp
      refine ⟨⟨p, 101, s, ((x / 10 + 48 : Nat) : Int), ((x % 10 + 48 : Nat) : Int), e, by omega⟩, ?_⟩
      rw [e, fixE_app, if_neg (by omega), e2, e1]
      rfl
    · obtain ⟨e2, e1⟩ := d3 (by omega)
      have e : p ++ [101] ++ [s] ++ expL x = (p ++ [101]) ++ [s, ((x / 100 + 48 : Nat) : Int), ((x / 10 % 10 + 48 : Nat) : Int), ((x % 10 + 48 : Nat) : Int)] := by rw [e1]; simp
      refine ⟨⟨p ++ [101], s, ((x / 100 + 48 : Nat) : Int), ((x / 10 % 10 + 48 : Nat) : Int), ((x % 10 + 48 : Nat) : Int), e, by simp⟩, ?_⟩
      rw [e, fixE_app, if_neg (by omega), e2, e1]
      simp

theorem ef_j11 (x0 : List Int) (dp : Int) (nd : Nat) (hn : 1 ≤ nd) (hl : x0.length ≤ 80000000000) (h0 : -900 ≤ dp) (h1 : dp ≤ 900) :
    Ev (fun k => strconv_fmtEFG.j11 k x0 dp (nd : Int) 101) (x0 ++ [101] ++ [if dp - 1 < 0 then 45 else 43] ++ expL (dp - 1).natAbs) := by
  have ls : (x0 ++ [101]).length = x0.length + 1 := by simp
  refine Ev.succ (g := fun k => strconv_fmtEFG.j12 k (x0 ++ [101]) (dp - 1)) (fun k => ?_) ?_
  · rw [strconv_fmtEFG.j11, if_pos (by omega), Option.bind_some, if_neg (by omega), w64 _ (by omega) (by omega)]
  · by_cases h : dp - 1 < 0
    · rw [if_pos h]
      refine Ev.succ (fun k => ?_) (ef_j13 (x0 ++ [101]) 45 (dp - 1).natAbs (by omega) (by omega))
      rw [strconv_fmtEFG.j12, if_pos h, w64 _ (by omega) (by omega), show -(dp - 1) = ((dp - 1).natAbs : Int) by omega]
    · rw [if_neg h]
      refine Ev.succ (fun k => ?_) (ef_j13 (x0 ++ [101]) 43 (dp - 1).natAbs (by omega) (by omega))
      rw [strconv_fmtEFG.j12, if_neg h]
      congr 1
      omega

theorem fmtE_j7 (x0 buf : List Int) (nd : Nat) (dp : Int) (h1 : 1 ≤ nd) (h2 : nd ≤ buf.length) (h3 : buf.length ≤ 100) (hl : x0.length ≤ 40000000000) (hd0 : -900 ≤ dp) (hd1 : dp ≤ 900) :
    Ev (fun k => strconv_fmtEFG.j7 k x0 buf dp (nd : Int) ((nd : Int) - 1) 101) (x0 ++ (if nd = 1 then buf.take nd else (buf.take nd).take 1 ++ [46] ++ (buf.take nd).drop 1) ++ [101] ++ [if dp - 1 < 0 then 45 else 43] ++ expL (dp - 1).natAbs) := by
  have hlen : (buf.take nd).length = nd := by rw [List.length_take]; omega
  have t1 : buf.take 1 = [rd buf 0] := by
    have := take_snoc buf 0 (by omega)
    simpa using this
  have ls : (x0 ++ [rd buf 0]).length = x0.length + 1 := by simp
  refine Ev.succ (g := fun k => strconv_fmtEFG.j8 k x0 buf dp (nd : Int) ((nd : Int) - 1) 101 (rd buf 0)) (fun k => ?_) ?_
  · rw [strconv_fmtEFG.j7, if_neg (by omega), if_pos (by omega)]
  · by_cases hn : nd = 1
    · subst hn
      rw [if_pos rfl, t1]
      refine Ev.succ (fun k => ?_) (ef_j11 (x0 ++ [rd buf 0]) dp 1 (by omega) (by omega) hd0 hd1)
      rw [strconv_fmtEFG.j8, if_pos (by omega), Option.bind_some, if_neg (by omega)]
    · rw [if_neg hn, List.take_take, Nat.min_eq_left (by omega), t1]
      have a1 : mn (nd : Int) (wrap64 ((nd : Int) - 1 + 1)) = (nd : Int) := by rw [w64 _ (by omega) (by omega)]; unfold mn; split <;> omega
      have ls2 : (x0 ++ [rd buf 0] ++ [46]).length = x0.length + 2 := by simp
      have ls3 : ((buf.take nd).drop 1).length = nd - 1 := by rw [List.length_drop, hlen]
      have f := ef_j11 (x0 ++ [rd buf 0] ++ [46] ++ (buf.take nd).drop 1) dp nd h1 (by rw [List.length_append, ls2, ls3]; omega) hd0 hd1
      have f0 := Ev.succ (f := fun k => strconv_fmtEFG.l0 k (x0 ++ [rd buf 0] ++ [46] ++ (buf.take nd).drop 1) dp (nd : Int) 101 0 0) (fun k => by rw [strconv_fmtEFG.l0, if_neg (by omega)]) f
      have e : x0 ++ ([rd buf 0] ++ [46] ++ (buf.take nd).drop 1) = x0 ++ [rd buf 0] ++ [46] ++ (buf.take nd).drop 1 := by simp only [List.append_assoc]
      rw [e]
      refine Ev.succ (g := fun k => strconv_fmtEFG.j9 k (x0 ++ [rd buf 0] ++ [46] ++ (buf.take nd).drop 1) dp (nd : Int) ((nd : Int) - 1) 101 (nd : Int)) (fun k => ?_) ?_
      · rw [strconv_fmtEFG.j8, if_pos (by omega), Option.bind_some, if_pos (by omega), if_pos (by omega), Option.bind_some, a1, if_pos (by omega), if_pos (by omega), if_pos (by omega), Option.bind_some, Int.toNat_natCast, if_pos (by rw [ls2, ls3]; omega)]
      · refine Ev.succ (fun k => ?_) f0
        rw [strconv_fmtEFG.j9, w64 ((nd : Int) - 1 + 1) (by omega) (by omega), w64 _ (by omega) (by omega), show (nd : Int) - 1 + 1 - (nd : Int) = 0 by omega]

theorem fmtE_ev (l0 buf : List Int) (neg : Bool) (nd : Nat) (dp : Int) (h1 : 1 ≤ nd) (h2 : nd ≤ buf.length) (h3 : buf.length ≤ 100) (hl : l0.length ≤ 5000000000) (hd : (-900 ≤ dp ∧ dp ≤ -6) ∨ (21 < dp ∧ dp ≤ 900)) :
    ∃ K r, fmtE.f K l0 neg buf dp (nd : Int) ((nd : Int) - 1) = some r ∧ (∃ q a b c d, r = q ++ [a, b, c, d] ∧ q.length ≤ 140737488355328) ∧ fixE r = l0 ++ ((if neg = true then [45] else []) ++ laidL (buf.take nd) dp) := by
  have hlen : (buf.take nd).length = nd := by rw [List.length_take]; omega
  obtain ⟨p, hp⟩ : ∃ p, p = (l0 ++ (if neg = true then [45] else [])) ++ (if nd = 1 then buf.take nd else (buf.take nd).take 1 ++ [46] ++ (buf.take nd).drop 1) := ⟨_, rfl⟩
  have lp : p.length ≤ 10000000000 := by
    rw [hp, List.length_append, List.length_append]
    have x1 : (if neg = true then [45] else [] : List Int).length ≤ 1 := by split <;> simp
    have x2 : (if nd = 1 then buf.take nd else (buf.take nd).take 1 ++ [46] ++ (buf.take nd).drop 1).length ≤ 200 := by
      split
      · omega
      · simp only [List.length_append, List.length_take, List.length_drop, List.length_cons, List.length_nil]; omega
    omega
  have fx := fixE_exp p (if dp - 1 < 0 then 45 else 43) (dp - 1).natAbs (by omega) (by split <;> omega)
  obtain ⟨K, hK⟩ := fmtE_j7 (l0 ++ (if neg = true then [45] else [])) buf nd dp h1 h2 h3 (by
    have x1 : (if neg = true then [45] else [] : List Int).length ≤ 1 := by split <;> simp
    rw [List.length_append]; omega) (by omega) (by omega)
  refine ⟨K, p ++ [101] ++ [if dp - 1 < 0 then 45 else 43] ++ expL (dp - 1).natAbs, ?_, ?_, ?_⟩
  · have hk := hK K (Nat.le_refl _)
    dsimp only at hk
    rw [← hp] at hk
    cases neg with
    | true => rw [fmtE.f, if_pos rfl, if_pos (by omega)]; exact hk
    | false =>
      rw [fmtE.f, if_neg (by decide)]
      rw [if_neg (by decide), List.append_nil] at hk
      exact hk
  · obtain ⟨⟨q, a, b, c, d, e, lq⟩, _⟩ := fx
    exact ⟨q, a, b, c, d, e, by omega⟩
  · have e : laidL (buf.take nd) dp = (if nd = 1 then buf.take nd else (buf.take nd).take 1 ++ [46] ++ (buf.take nd).drop 1) ++ ([101, if dp - 1 < 0 then 45 else 43] ++ dec (dp - 1).natAbs) := by
      unfold laidL
      rw [hlen, if_neg (by omega), if_neg (by omega), if_neg (by omega)]
      congr 1
      by_cases h : dp - 1 < 0
      · rw [if_pos h, if_pos h, show (dp - 1).natAbs = (1 - dp).toNat by omega]
      · rw [if_neg h, if_neg h, show (dp - 1).natAbs = (dp - 1).toNat by omega]
    rw [fx.2, hp, e]
    simp only [List.append_assoc]
end Go.Proofs.YtiopeaponffmdaaDoor.PAll
-- YtiopeaponffmdaaDoorFl
set_option linter.unusedVariables false
set_option linter.unusedSimpArgs false
namespace Go.Proofs.YtiopeaponffmdaaDoor.PAll
open Go.RowKit Go.Proofs.YtiopeaponffmdaaDoorW.PrintWords Go.Proofs.YtiopeaponffmdaaDoorW.PrintLast Go.Proofs.YtiopeaponffmdaaDoorW.PrintMore
open Fm

/-- the table of powers of ten lies in its block -/
def Tab3 (w : World) : Prop := 3 < w.heap.size ∧ ∀ i, i < 696 → w.cell? ⟨3, i * 2, none⟩ = some (.int .u64 ((Go.Pinned.pow10Rows.getD i (0, 0)).1 : Int)) ∧ w.cell? ⟨3, i * 2 + 1, none⟩ = some (.int .u64 ((Go.Pinned.pow10Rows.getD i (0, 0)).2 : Int))
theorem Tab3.at {w : World} (h : Tab3 w) {p : Int} {hi lo : Nat} (hr : rowOf p = (hi, lo)) (h0 : -348 ≤ p) (h1 : p ≤ 347) :
    w.cell? ⟨3, (p + 348).toNat * 2, none⟩ = some (.int .u64 (hi : Int)) ∧ w.cell? ⟨3, (p + 348).toNat * 2 + 1, none⟩ = some (.int .u64 (lo : Int)) := by
  have := h.2 (p + 348).toNat (by omega)
  unfold rowOf at hr
  rw [hr] at this
  exact this

theorem i64_and (n k : Nat) (h : n < 9223372036854775808) (hk : 2 ^ k ≤ 9223372036854775808) : bits .and .i64 (n : Int) ((2 ^ k - 1 : Nat) : Int) = ((n % 2 ^ k : Nat) : Int) := by
  have hp : 0 < 2 ^ k := Nat.two_pow_pos k
  have hm : n % 2 ^ k < 2 ^ k := Nat.mod_lt _ hp
  show IntKind.i64.wrap ((BitVec.ofInt 64 (n : Int) &&& BitVec.ofInt 64 ((2 ^ k - 1 : Nat) : Int)).toNat : Int) = _
  rw [BitVec.toNat_and, ofInt_u64 n (by omega), ofInt_u64 (2 ^ k - 1) (by omega), Nat.and_two_pow_sub_one_eq_mod]
  exact Go.Lib.wrap_i64_small _ (by omega)

/-- what shortFloat answers, and what the reference says of it -/
structure SfAns (f fn c mant : Nat) (E : Int) (most : Int) (D : Nat) (pp : Int) : Prop where
  pos : 0 < D
  lt : D < 1000000000000000000
  p0 : -400 ≤ pp
  p1 : pp ≤ 400
  ev : Ev (fun k => spec_Form_Shortest.f k (f : Int) most (c : Int)) (strOfNums (dec (cutz D)), ((dec D).length : Int) + pp)
  sh : ∃ n k x, ShAt f c 400 n k x ∧ cutz x = cutz D ∧ 0 < x ∧ n + ((dec x).length : Int) - (k : Int) = ((dec D).length : Int) + pp
  calls : ∀ W, Tab3 W → Calls Tryd.prog fn #[.int .u64 (mant : Int), .int .i64 E] W fun e W' => e = .returned (.tuple #[.int .u64 (D : Int), .int .i64 pp]) ∧ Below W.heap.size W W'

theorem T2_bound64 (c e311 : Nat) (he : e311 = 311) (hc : c < 2047 * 2 ^ 52) : T2 52 c < 2 ^ lst 52 * 10 ^ e311 := by
  have h1 : T2 52 c ≤ T2 52 (2047 * 2 ^ 52) := T2_mono 52 (by omega)
  refine Nat.lt_of_le_of_lt h1 ?_
  subst he
  decide +kernel
/-- a number below the normal ones -/
theorem sf64C (c L : Nat) (most : Int) (hc0 : 1 ≤ c) (hc : c < 4503599627370496) (hL1 : 1 ≤ L) (hL2 : L ≤ 52) (hLa : 2 ^ (L - 1) ≤ c) (hLb : c < 2 ^ L) :
    ∃ D pp, SfAns 52 66 c (c * 2 ^ (64 - L)) ((L : Int) - 1138) most D pp := by
  obtain ⟨z, hz⟩ : ∃ z, z = 64 - L := ⟨_, rfl⟩
  rw [← hz]
  have hT : T2 52 c = c := by unfold T2; rw [if_pos (by omega)]; omega
  have hTm : T2 52 (c - 1) = c - 1 := by unfold T2; rw [if_pos (by omega)]; omega
  have hTp : T2 52 (c + 1) = c + 1 := by
    have := T2_up 52 0 c (by omega)
    rw [Nat.zero_mul, Nat.zero_add, if_pos rfl] at this
    exact this
  have hcert := certE_64 (-1074) (by omega) (by omega)
  have hzb : c * 2 ^ z < 2 ^ 64 := by
    have : c * 2 ^ z < 2 ^ L * 2 ^ z := Nat.mul_lt_mul_of_pos_right hLb (Nat.two_pow_pos _)
    rw [← Nat.pow_add, show L + z = 64 by omega] at this
    exact this
  have hz1 : 2 ^ z = 2 * 2 ^ (z - 1) := by rw [show z = z - 1 + 1 by omega, Nat.pow_succ]; simp only [Nat.add_sub_cancel]; omega
  have hLz : 2 ^ (L - 1) * 2 ^ z = 2 ^ 63 := by rw [← Nat.pow_add, show L - 1 + z = 63 by omega]
  have hjb : (2 * c + 1) * 2 ^ (11 - 1 + (z - 11)) < 2 ^ 64 := by
    rw [show 11 - 1 + (z - 11) = z - 1 by omega]
    have h1 : (c + 1) * 2 ^ z ≤ 2 ^ L * 2 ^ z := Nat.mul_le_mul_right _ hLb
    rw [← Nat.pow_add, show L + z = 64 by omega, hz1] at h1
    have h2 : (2 * c + 1) * 2 ^ (z - 1) < (c + 1) * (2 * 2 ^ (z - 1)) := by
      rw [← Nat.mul_assoc]
      exact Nat.mul_lt_mul_of_pos_right (by omega) (Nat.two_pow_pos _)
    omega
  obtain ⟨s, hi, lo, r1, r2, r3, r4, r5, r6, r7, r8, ⟨u1, u2, u3, g1, g2, g3, g4, g5, g6, g7, g8, g9, g10, g11, g12, g13⟩⟩ := num_sym 52 11 (2 ^ 54) c c 0 (z - 11) most 400 rfl (.inl ⟨rfl, rfl, rfl⟩) hc0 (by omega) (by omega) 311 rfl (T2_bound64 c 311 rfl (by omega)) hc0 (by omega)
    (by rw [hT, Nat.pow_zero, Nat.mul_one]) (by rw [hTm, Nat.pow_zero, Nat.mul_one]) (by rw [hTp, Nat.pow_zero, Nat.mul_one]) hcert hjb (fun _ => ⟨rfl, rfl⟩)
  have hp : pOf (((0 : Nat) : Int) - ((lst 52 : Nat) : Int)) = 324 := by decide
  have hlp : lpOf 324 = 1076 := by decide
  have hlst : ((lst 52 : Nat) : Int) = 1074 := by decide
  rw [hp] at r1 g8 g9 g10 g11 g12 g13
  rw [hp, hlp, hlst] at r4
  rw [show 11 - 1 + (z - 11) = z - 1 by omega] at g1 g2 g3
  refine ⟨_, _, g8, g9, g10, g11, g12, g13, fun W hW => ?_⟩
  obtain ⟨t1, t2⟩ := hW.at r1 (by decide) (by decide)
  have hP0 : 0 < 2 ^ (z - 1) := Nat.two_pow_pos _
  have hzz : 2 ^ (z - 1) ≤ 4611686018427387904 := by
    have : 2 ^ (z - 1) ≤ 2 ^ 62 := Nat.pow_le_pow_right (by decide) (by omega)
    exact Nat.le_trans this (by decide)
  have m3 : 2 * c * 2 ^ (z - 1) = c * 2 ^ z := by rw [hz1, Nat.mul_left_comm, Nat.mul_assoc]
  have m1 : (2 * c - 1) * 2 ^ (z - 1) = c * 2 ^ z - 2 ^ (z - 1) := by rw [← m3, Nat.sub_mul, Nat.one_mul]
  have m2 : (2 * c + 1) * 2 ^ (z - 1) = c * 2 ^ z + 2 ^ (z - 1) := by rw [← m3, Nat.add_mul, Nat.one_mul]
  have m4 : 2 ^ (z - 1) ≤ c * 2 ^ z := by
    have : 1 * 2 ^ z ≤ c * 2 ^ z := Nat.mul_le_mul_right _ hc0
    omega
  rw [show 11 - 1 + (z - 11) = z - 1 by omega, m2] at hjb
  rw [m1] at g1; rw [m2] at g2; rw [m3] at g3
  have hmz : ((c * 2 ^ z : Nat) : Int) / 2 ^ z = (c : Int) := by
    rw [div_pow_cast, Nat.mul_div_cancel _ (Nat.two_pow_pos _)]
  have hod : bits .and .i64 (c : Int) 1 = ((c % 2 : Nat) : Int) := i64_and c 1 (by omega) (by decide)
  have hhf : IntKind.u64.wrap (2 ^ (z - 1)) = ((2 ^ (z - 1) : Nat) : Int) := by
    have e : (2 : Int) ^ (z - 1) = ((2 ^ (z - 1) : Nat) : Int) := by simp
    rw [e]; exact wrapuN _ (by omega)
  generalize 2 ^ (z - 1) = P at *
  generalize hmm : c * 2 ^ z = mant at *
  exact short64C mant (mant - P) (mant + P) (c % 2) u1 u2 u3 (s + (z - 11)) hi lo ((L : Int) - 1138) 324 1076 W hW.1 (by omega) z (by omega) (by omega) (by omega) (by omega) (P : Int) hhf c hmz (by omega) (by rw [show (L : Int) - 1138 + (z : Int) = -1074 by omega]; decide) (by decide) (by decide) (by decide)
    (by rw [wrapu _ (by omega) (by omega)]; omega) (by rw [wrapu _ (by omega) (by omega)]; omega) hod (by omega) (by omega) (by omega) t1 t2 r6 (by omega) (by omega) (by omega) (by omega) g1 g2 g3 g4 g5 g6 g7

theorem tri (M : Nat) (h : 1 ≤ M) : (2 * M - 1) * 1024 = M * 2048 - 1024 ∧ (2 * M + 1) * 1024 = M * 2048 + 1024 ∧ 2 * M * 1024 = M * 2048 := by omega
/-- a normal number, or the least one -/
theorem sf64B (q m P : Nat) (most : Int) (hP : P = 2 ^ 52) (hq : 1 ≤ q) (hq2 : q ≤ 2046) (hm : m < P) (hno : ¬ (m = 0 ∧ 2 ≤ q)) :
    ∃ D pp, SfAns 52 66 (q * P + m) ((m + P) * 2048) ((q : Int) - 1086) most D pp := by
  have hPa : 4503599627370495 < P := by rw [hP]; decide
  have hPb : P < 4503599627370497 := by rw [hP]; decide
  have hT := T2_at 52 q m (by rw [← hP]; exact hm)
  have hTp := T2_up 52 q m (by rw [← hP]; exact hm)
  have hqn : q ≠ 0 := by omega
  rw [if_neg hqn, ← hP] at hT hTp
  have hTm : T2 52 (q * P + m - 1) = (m + P - 1) * 2 ^ (q - 1) := by
    by_cases h0 : m = 0
    · have h1 : q = 1 := by omega
      have := T2_down0 52 q (by omega)
      rw [if_pos h1, ← hP] at this
      rw [h0, this, h1, Nat.zero_add, Nat.sub_self, Nat.pow_zero, Nat.mul_one]
    · have := T2_down 52 q m (by rw [← hP]; exact hm) (by omega)
      rw [if_neg hqn, ← hP] at this
      rw [this, show m - 1 + P = m + P - 1 by omega]
  have hlst : ((lst 52 : Nat) : Int) = 1074 := by decide
  have hcert := certE_64 (((q - 1 : Nat) : Int) - ((lst 52 : Nat) : Int)) (by omega) (by omega)
  have hcb : q * P + m < 2047 * P := by
    have : q * P ≤ 2046 * P := Nat.mul_le_mul_right _ hq2
    omega
  have hc1 : 1 ≤ q * P + m := by
    have : 1 * P ≤ q * P := Nat.mul_le_mul_right _ hq
    omega
  have hpar : (q * P + m) % 2 = (m + P) % 2 := by
    have h2 : P % 2 = 0 := by rw [hP]
    rw [Nat.add_mod, Nat.mul_mod, h2, Nat.add_mod m P, h2]
    simp
  obtain ⟨c, hcc⟩ : ∃ c, c = q * P + m := ⟨_, rfl⟩
  rw [← hcc] at hT hTp hTm hcb hc1 hpar ⊢
  have hTp' : T2 52 (c + 1) = (m + P + 1) * 2 ^ (q - 1) := by rw [hTp, show m + 1 + P = m + P + 1 by omega]
  have hc2 : (c + 1) / 2 ^ 52 ≤ 2100 := by
    rw [← hP]
    refine Nat.div_le_of_le_mul ?_
    omega
  have hcx : c < 18446744073709550000 := by omega
  have hb64 : c < 2047 * 2 ^ 52 := by rw [← hP]; exact hcb
  have hM : 1 ≤ m + P := by omega
  have hM2 : m + P < 2 ^ (52 + 1) := by rw [Nat.pow_succ, ← hP]; omega
  have hjb : (2 * (m + P) + 1) * 2 ^ (11 - 1 + 0) < 2 ^ 64 := by
    have e : (2 : Nat) ^ (11 - 1 + 0) = 1024 := by decide
    have e2 : (2 : Nat) ^ 64 = 18446744073709551616 := by decide
    rw [e, e2]; omega
  obtain ⟨s, hi, lo, r1, r2, r3, r4, r5, r6, r7, r8, ⟨u1, u2, u3, g1, g2, g3, g4, g5, g6, g7, g8, g9, g10, g11, g12, g13⟩⟩ := num_sym 52 11 (2 ^ 54) c (m + P) (q - 1) 0 most 400 rfl (.inl ⟨rfl, rfl, rfl⟩) hc1 hcx hc2 311 rfl (T2_bound64 c 311 rfl hb64) hM hM2
    hT hTm hTp' hcert hjb (fun h => absurd h (by omega))
  rw [hlst] at r1 r2 r3 r4 g8 g9 g10 g11 g12 g13
  obtain ⟨p, hp⟩ : ∃ p, p = pOf (((q - 1 : Nat) : Int) - 1074) := ⟨_, rfl⟩
  rw [← hp] at r1 r2 r3 r4 g8 g9 g10 g11 g12 g13
  refine ⟨_, _, g8, g9, g10, g11, g12, g13, fun W hW => ?_⟩
  obtain ⟨t1, t2⟩ := hW.at r1 r2 r3
  obtain ⟨M, hMM⟩ : ∃ M, M = m + P := ⟨_, rfl⟩
  rw [← hMM] at g1 g2 g3 hpar ⊢
  have hMb : 4503599627370495 < M ∧ M < 9007199254740993 := by omega
  have e10 : 2 ^ (11 - 1 + 0) = 1024 := by decide
  rw [e10] at g1 g2 g3
  obtain ⟨m1, m2, m3⟩ := tri M (Nat.le_trans (by decide) (Nat.le_of_lt hMb.1))
  rw [m1] at g1; rw [m2] at g2; rw [m3] at g3
  have hs : -((q : Int) - 1086 + lpOf p + 3) = ((s + 0 : Nat) : Int) := by omega
  have hbp : -(((q : Int) - 1086 + 11) * 78913 / 262144) = p := by rw [hp, show ((q - 1 : Nat) : Int) - 1074 = (q : Int) - 1086 + 11 by omega]; rfl
  have hod : bits .and .i64 (((M * 2048 : Nat) : Int) / 2048) 1 = ((c % 2 : Nat) : Int) := by
    have e : ((M * 2048 : Nat) : Int) / 2048 = (M : Int) := by omega
    have e2 := i64_and M 1 (by omega) (by decide)
    rw [e, hpar]
    exact e2
  have hmb : M * 2048 < 18446744073709551616 ∧ 2048 ≤ M * 2048 ∧ M * 2048 + 1024 < 18446744073709551616 := by omega
  have hne : M * 2048 = 9223372036854775808 → (m = 0) := by omega
  clear hMb m1 m2 m3 hpar hMM hM2 hjb hM hb64 hcx hc2 hTp' hT hTp hTm hcb hPa hPb hP
  generalize M * 2048 = mant at *
  exact short64B mant (mant - 1024) (mant + 1024) (c % 2) u1 u2 u3 (s + 0) hi lo ((q : Int) - 1086) p (lpOf p) W hW.1 hmb.1 (by omega) (by omega) (fun h => hno ⟨hne h.1, by omega⟩) hbp rfl r2 r3
    (by rw [wrapu _ (by omega) (by omega)]; omega) (by rw [wrapu _ (by omega) (by omega)]; omega) hod (by omega) (by omega) (by omega) t1 t2 r6 r7 r8 hs (by omega) g1 g2 g3 g4 g5 g6 g7

/-- a power of two -/
theorem sf64A (q P : Nat) (most : Int) (hP : P = 2 ^ 52) (hq : 2 ≤ q) (hq2 : q ≤ 2046) :
    ∃ D pp, SfAns 52 66 (q * P) 9223372036854775808 ((q : Int) - 1086) most D pp := by
  have hb64 : q * 2 ^ 52 < 2047 * 2 ^ 52 := Nat.mul_lt_mul_of_pos_right (by omega) (Nat.two_pow_pos _)
  have hpar : q * P % 2 = 0 := by
    have h2 : P % 2 = 0 := by rw [hP]
    rw [Nat.mul_mod, h2, Nat.mul_zero]
  have hlst : ((lst 52 : Nat) : Int) = 1074 := by decide
  have hcert := certS_64 (((q - 2 : Nat) : Int) + 1 - ((lst 52 : Nat) : Int)) (by omega) (by omega)
  obtain ⟨s, hi, lo, r1, r2, r3, r4, r5, r6, r7, r8, ⟨u1, u2, u3, g1, g2, g3, g4, g5, g6, g7, g8, g9, g10, g11, g12, g13⟩⟩ := num_pow 52 11 (2 ^ 55) q most 400 rfl (.inl ⟨rfl, rfl, rfl⟩) hq hq2 311 rfl (T2_bound64 _ 311 rfl hb64) hcert
  rw [← hP] at g8 g9 g10 g11 g12 g13
  obtain ⟨c, hcc⟩ : ∃ c, c = q * P := ⟨_, rfl⟩
  rw [← hcc] at g8 g9 g10 g11 g12 g13 hpar ⊢
  rw [hlst] at r1 r2 r3 r4 g8 g9 g10 g11 g12 g13
  obtain ⟨p, hp⟩ : ∃ p, p = pOf2 (((q - 2 : Nat) : Int) + 1 - 1074) := ⟨_, rfl⟩
  rw [← hp] at r1 r2 r3 r4 g8 g9 g10 g11 g12 g13
  refine ⟨_, _, g8, g9, g10, g11, g12, g13, fun W hW => ?_⟩
  obtain ⟨t1, t2⟩ := hW.at r1 r2 r3
  have e1 : (4 * 2 ^ 52 - 1) * 2 ^ (11 - 1 - 1 + 0) = 9223372036854775296 := by decide
  have e2 : (4 * 2 ^ 52 + 2) * 2 ^ (11 - 1 - 1 + 0) = 9223372036854776832 := by decide
  have e3 : 4 * 2 ^ 52 * 2 ^ (11 - 1 - 1 + 0) = 9223372036854775808 := by decide
  rw [e1] at g1; rw [e2] at g2; rw [e3] at g3
  have hod : bits .and .i64 (((9223372036854775808 : Nat) : Int) / 2048) 1 = ((c % 2 : Nat) : Int) := by
    rw [hpar]; decide
  have hs : -((q : Int) - 1086 + lpOf p + 3) = ((s + 0 : Nat) : Int) := by omega
  have hbp : -((((q : Int) - 1086 + 11) * 631305 - 261663) / 2097152) = p := by rw [hp, show ((q - 2 : Nat) : Int) + 1 - 1074 = (q : Int) - 1086 + 11 by omega]; rfl
  exact short64A 9223372036854775808 9223372036854775296 9223372036854776832 (c % 2) u1 u2 u3 (s + 0) hi lo ((q : Int) - 1086) p (lpOf p) W hW.1 (by omega) (by omega) (by omega) rfl hbp rfl r2 r3
    (by rw [wrapu _ (by omega) (by omega)]; rfl) (by rw [wrapu _ (by omega) (by omega)]; rfl) hod (by omega) (by omega) (by omega) t1 t2 r6 (by omega) (by omega) hs (by omega) g1 g2 g3 g4 g5 g6 g7
end Go.Proofs.YtiopeaponffmdaaDoor.PAll
-- YtiopeaponffmdaaDoorFj
namespace Go.Proofs.YtiopeaponffmdaaDoor.PAll
open Go.RowKit Go.Proofs.YtiopeaponffmdaaDoorW.PrintWords Go.Proofs.YtiopeaponffmdaaDoorW.PrintLast Go.Proofs.YtiopeaponffmdaaDoorW.PrintMore

theorem conv5 (s : ByteArray) (w : World) : (convert 9 39 (.string s)).run Tryd.prog w = .ok (.slice (some ⟨w.heap.size, 0, none⟩) s.size (grownCap w s.size 0 5)) (Lib.bytesWorld w 5 s) :=
  Lib.run_convert_string_bytes w 9 39 5 s Tryd.underlying9 Tryd.underlying39 Tryd.underlying5
/-- FloatText, by what AppendFloat answers on a row of the call's own -/
theorem floatText (tt : ByteArray) (x : Nat) (w : World) (R : List Int → Prop) (hto : tt.size ≤ 140737488355328)
    (h : ∀ (W : World) (v : Value), Below w.heap.size w W → RM 5 W w.heap.size (fun _ => True) v (bytesOf tt) → Calls Tryd.prog 25 #[v, .float .f64 x, .int .i64 64] W (FtPost w R)) :
    Calls Tryd.prog 14 #[.string tt, .float .f64 x, .int .i64 64] w fun e w' => ∃ r, R r ∧ e = .returned (.string (strOfNums r)) ∧ Below w.heap.size w w' := by
  have cv := conv5 tt w
  have H := h (Lib.bytesWorld w 5 tt) _ (Joins.below_bytesWorld _ _ _ _ (Nat.le_refl _)) (RM_bytes w 5 tt hto (Nat.le_refl _) trivial)
  obtain ⟨W, hW⟩ : ∃ X, X = Lib.bytesWorld w 5 tt := ⟨_, rfl⟩
  obtain ⟨cap, hcap⟩ : ∃ c, c = grownCap w tt.size 0 5 := ⟨_, rfl⟩
  rw [← hW, ← hcap] at cv H
  have HH := Lib.hid H
  clear H h hW hcap
  go_enter Tryd.func14, Tryd.ntmps14
  go_wp2_with (fail)
  refine HH.out.mono ?_
  rintro e w' ⟨v, r, rfl, q1, q2, q3⟩
  obtain ⟨A, c, rfl, hc, hr⟩ := RM_reads q2
  have cs := Kd.C_string (P := Tryd.prog) (w := w') (src := 39) (dst := 9) (e := 5) (c := c) Tryd.underlying39 Tryd.underlying5 Tryd.underlying9 hr
  have Q1 := Lib.hid q1
  have Q3 := Lib.hid q3
  clear q1 q2 q3 hr hc
  go_wp2_with (fail)
  go_returns
  exact ⟨_, Q1.out, rfl, Q3.out⟩
end Go.Proofs.YtiopeaponffmdaaDoor.PAll
-- YtiopeaponffmdaaDoorFo
set_option linter.unusedVariables false
set_option linter.unusedSimpArgs false
namespace Go.Proofs.YtiopeaponffmdaaDoor.PAll
open Go.RowKit Go.Proofs.YtiopeaponffmdaaDoorW.PrintWords Go.Proofs.YtiopeaponffmdaaDoorW.PrintLast Go.Proofs.YtiopeaponffmdaaDoorW.PrintMore
open Fm

theorem bitLen_of (M : Nat) (h0 : 1 ≤ M) (h1 : M < 18446744073709551616) : ∃ L, Lib.bitLen M = L ∧ 1 ≤ L ∧ L ≤ 64 ∧ 2 ^ (L - 1) ≤ M ∧ M < 2 ^ L := by
  obtain ⟨a, b, d⟩ := Lib.bitLenAux_bounds 64 M (by omega) (by omega)
  refine ⟨Lib.bitLen M, rfl, a, ?_, b, d⟩
  exact Lib.bitLen_le M 64 (Nat.le_refl _) (by omega)
theorem pow2_lt {i j : Nat} (h : (2 : Nat) ^ i < 2 ^ j) : i < j := (Nat.pow_lt_pow_iff_right (by decide)).1 h

theorem num64 (c q m P : Nat) (most : Int) (hP : P = 2 ^ 52) (hc : c = q * P + m) (hm : m < P) (hc0 : 1 ≤ c) (hq : q ≤ 2046) :
    ∃ M L D pp, M = (if q = 0 then m else m + P) ∧ Lib.bitLen M = L ∧ 1 ≤ L ∧ L ≤ 53 ∧ 1 ≤ M ∧ M < 9007199254740992 ∧ M * 2 ^ (64 - L) < 18446744073709551616 ∧
      SfAns 52 66 c (M * 2 ^ (64 - L)) ((if q = 0 then (-1022 : Int) else (q : Int) + -1023) - (64 - (L : Int)) - 52) most D pp := by
  have hPa : 4503599627370495 < P := by rw [hP]; decide
  have hPb : P < 4503599627370497 := by rw [hP]; decide
  obtain ⟨M, hM⟩ : ∃ M, M = (if q = 0 then m else m + P) := ⟨_, rfl⟩
  have hM1 : 1 ≤ M := by
    rw [hM]; split
    · rename_i h; rw [h, Nat.zero_mul] at hc; omega
    · omega
  have hM2 : M < 2 * P := by rw [hM]; split <;> omega
  obtain ⟨L, l1, l2, l3, l4, l5⟩ := bitLen_of M hM1 (by omega)
  have hL53 : L ≤ 53 := by
    have : 2 ^ (L - 1) < 2 ^ 53 := by
      refine Nat.lt_of_le_of_lt l4 (Nat.lt_of_lt_of_le hM2 ?_)
      rw [hP]; decide
    have := pow2_lt this
    omega
  have hmant : M * 2 ^ (64 - L) < 18446744073709551616 := by
    have : M * 2 ^ (64 - L) < 2 ^ L * 2 ^ (64 - L) := Nat.mul_lt_mul_of_pos_right l5 (Nat.two_pow_pos _)
    rw [← Nat.pow_add, show L + (64 - L) = 64 by omega] at this
    exact this
  have hMb : M < 9007199254740992 := by
    have e : 2 * P = 9007199254740992 := by rw [hP]
    omega
  by_cases h0 : q = 0
  · rw [if_pos h0] at hM ⊢
    have hcm : c = m := by rw [hc, h0, Nat.zero_mul, Nat.zero_add]
    have hL52 : L ≤ 52 := by
      have : 2 ^ (L - 1) < 2 ^ 52 := by
        refine Nat.lt_of_le_of_lt l4 ?_
        rw [← hP, hM]; exact hm
      have := pow2_lt this
      omega
    have hMc : M = c := hM.trans hcm.symm
    have hcP : c < 4503599627370496 := by
      have e : P = 4503599627370496 := by rw [hP]
      omega
    rw [hMc] at l4 l5 hmant l1 hMb hM1
    obtain ⟨D, pp, h⟩ := sf64C c L most hc0 hcP l2 hL52 l4 l5
    refine ⟨c, L, D, pp, hcm, l1, l2, hL53, hM1, hMb, hmant, ?_⟩
    rw [if_pos h0, show (-1022 : Int) - (64 - (L : Int)) - 52 = (L : Int) - 1138 by omega]
    exact h
  · rw [if_neg h0] at hM ⊢
    have hL : L = 53 := by
      have : 2 ^ 52 < 2 ^ L := by
        refine Nat.lt_of_le_of_lt ?_ l5
        rw [← hP, hM]; omega
      have := pow2_lt this
      omega
    have e11 : (2 : Nat) ^ (64 - 53) = 2048 := by decide
    have eE : (q : Int) + -1023 - (64 - ((53 : Nat) : Int)) - 52 = (q : Int) - 1086 := by omega
    by_cases hA : m = 0 ∧ 2 ≤ q
    · obtain ⟨D, pp, h⟩ := sf64A q P most hP hA.2 hq
      refine ⟨M, L, D, pp, hM, l1, l2, hL53, hM1, hMb, hmant, ?_⟩
      rw [if_neg h0, hL, e11, eE, hM, hA.1, Nat.zero_add, hc, hA.1, Nat.add_zero]
      have e : P * 2048 = 9223372036854775808 := by rw [hP]
      rw [e]
      exact h
    · obtain ⟨D, pp, h⟩ := sf64B q m P most hP (by omega) hq hm hA
      refine ⟨M, L, D, pp, hM, l1, l2, hL53, hM1, hMb, hmant, ?_⟩
      rw [if_neg h0, hL, e11, eE, hM, hc]
      exact h

/-- the tables lie, now and later -/
def Rdy (w : World) : Prop := ∀ W, Below w.heap.size w W → Tab3 W ∧ Lib.TabIs Tryd.prog W "internal/strconv.uint64pow10" .u64 Lib.pow10Tab
theorem Rdy.mono {w W : World} (h : Rdy w) (hb : Below w.heap.size w W) : Rdy W := fun V hV => h V (hb.trans (hV.mono hb.size))

/-- the parts of a word -/
theorem parts64 (x c q m P : Nat) (hx : x < 18446744073709551616) (hP : P = 2 ^ 52) (hc : c = x % 9223372036854775808) (hcq : c = q * P + m) (hm : m < P) :
    bits .and .i64 ((x : Int) / 4503599627370496) 2047 = (q : Int) ∧ bits .and .u64 (x : Int) 4503599627370495 = (m : Int) ∧ bits .or .u64 (m : Int) 4503599627370496 = ((m + P : Nat) : Int) ∧ q < 2048 ∧
      bits .andNot .u64 (x : Int) 9223372036854775808 = (c : Int) := by
  have hPe : P = 4503599627370496 := by rw [hP]
  have hcq' : c = q * 4503599627370496 + m := by rw [← hPe]; exact hcq
  have e1 := i64_and (x / 4503599627370496) 11 (by omega) (by decide)
  have e2 := u64_and_nat x (2 ^ 52 - 1) hx (by decide)
  rw [Nat.and_two_pow_sub_one_eq_mod] at e2
  have e3 := u64_or_nat m (2 ^ 52) (by omega) (by decide)
  have e4 : m ||| 2 ^ 52 = m + P := by
    have := Nat.two_pow_add_eq_or_of_lt (b := m) (i := 52) (by rw [← hP]; exact hm) 1
    rw [Nat.mul_one] at this
    rw [Nat.or_comm, ← this, hP, Nat.add_comm]
  have e5 := u64_andNot_nat x 9223372036854775808 hx (by decide)
  have e6 : x &&& (18446744073709551615 - 9223372036854775808) = x % 2 ^ 63 := Nat.and_two_pow_sub_one_eq_mod x 63
  rw [e4] at e3
  rw [e6] at e5
  have q1 : x / 4503599627370496 % 2 ^ 11 = q := by omega
  have q2 : x % 2 ^ 52 = m := by omega
  have q3 : x % 2 ^ 63 = c := by omega
  rw [q1] at e1
  rw [q2] at e2
  rw [q3] at e5
  refine ⟨?_, e2, e3, by omega, e5⟩
  have : ((x / 4503599627370496 : Nat) : Int) = (x : Int) / 4503599627370496 := by omega
  rw [← this]
  exact e1

/-- the digits of a finite number that is not 0 -/
structure N64 (c : Nat) (most : Int) (q m P M L D : Nat) (pp : Int) : Prop where
  hP : P = 2 ^ 52
  hcq : c = q * P + m
  hmP : m < P
  hq : q ≤ 2046
  hM : M = (if q = 0 then m else m + P)
  l1 : Lib.bitLen M = L
  l2 : 1 ≤ L
  l3 : L ≤ 53
  hM1 : 1 ≤ M
  hM2 : M < 9007199254740992
  hmant : M * 2 ^ (64 - L) < 18446744073709551616
  hS : SfAns 52 66 c (M * 2 ^ (64 - L)) ((if q = 0 then (-1022 : Int) else (q : Int) + -1023) - (64 - (L : Int)) - 52) most D pp
theorem n64 (c : Nat) (most : Int) (hc0 : 1 ≤ c) (hc1 : c < 9218868437227405312) : ∃ q m P M L D pp, N64 c most q m P M L D pp := by
  obtain ⟨P, hP⟩ : ∃ P : Nat, P = 2 ^ 52 := ⟨_, rfl⟩
  have hPe : P = 4503599627370496 := by rw [hP]
  obtain ⟨q, hq⟩ : ∃ q, q = c / P := ⟨_, rfl⟩
  obtain ⟨m, hm⟩ : ∃ m, m = c % P := ⟨_, rfl⟩
  have hcq : c = q * P + m := by rw [hq, hm, Nat.mul_comm]; exact (Nat.div_add_mod _ _).symm
  have hmP : m < P := by rw [hm]; exact Nat.mod_lt _ (by omega)
  have hq46 : q ≤ 2046 := by
    refine Nat.le_of_lt_succ ?_
    rw [hq]
    exact Nat.div_lt_of_lt_mul (by omega)
  obtain ⟨M, L, D, pp, hM, l1, l2, l3, hM1, hM2, hmant, hS⟩ := num64 c q m P most hP hcq hmP hc0 hq46
  exact ⟨q, m, P, M, L, D, pp, hP, hcq, hmP, hq46, hM, l1, l2, l3, hM1, hM2, hmant, hS⟩

section
variable (P0_ : Nat → Prop) (v0 : Value) (l0 : List Int) (x c : Nat) (most : Int) (sg : Bool) (w0 w : World) (hx : x < 18446744073709551616) (hc : c = x % 9223372036854775808) {q m P M L D : Nat} {pp : Int} (N : N64 c most q m P M L D pp)
    (hsg : ((x : Int) / 9223372036854775808 != 0) = sg) (hB : Below w0.heap.size w0 w) (ho : RM 5 w w0.heap.size P0_ v0 l0) (hR : Rdy w) (hl : l0.length ≤ 5000000000)
include hx hc N hsg hB ho hR hl

/-- its text in either format -/
theorem ftoa64_any : (-6 < ((dec D).length : Int) + pp → ((dec D).length : Int) + pp ≤ 21 →
        Calls Tryd.prog 51 #[v0, .float .f64 x, .int .u8 102, .int .i64 (-1)] w (FtPost w0 (fun r => r = l0 ++ ((if sg = true then [45] else []) ++ laidL (dec (cutz D)) (((dec D).length : Int) + pp))))) ∧
      (((dec D).length : Int) + pp ≤ -6 ∨ 21 < ((dec D).length : Int) + pp →
        Calls Tryd.prog 51 #[v0, .float .f64 x, .int .u8 101, .int .i64 (-1)] w (FtPost w0 (fun r => (∃ q a b c d, r = q ++ [a, b, c, d] ∧ q.length ≤ 140737488355328) ∧ fixE r = l0 ++ ((if sg = true then [45] else []) ++ laidL (dec (cutz D)) (((dec D).length : Int) + pp))))) := by
  obtain ⟨hP, hcq, hmP, hq46, hM, l1, l2, l3, hM1, hM2, hmant, hS⟩ := N
  obtain ⟨b1, b2, b3, b4, b5⟩ := parts64 x c q m P hx hP hc hcq hmP
  obtain ⟨nd, hnd⟩ : ∃ nd, nd = (dec D).length := ⟨_, rfl⟩
  have hnd2 : nd ≤ 18 := by rw [hnd]; exact dec_length_le 17 D hS.lt
  have hnd1 : 1 ≤ nd := by rw [hnd]; exact dec_length_pos D
  have hD1 : 10 ^ (nd - 1) ≤ D := by rw [hnd]; exact dec_lower D hS.pos
  have hD2 : D < 10 ^ nd := by rw [hnd]; exact dec_upper D
  have hD3 : D < 18446744073709551616 := Nat.lt_trans hS.lt (by decide)
  have hp0 := hS.p0
  have hp1 := hS.p1
  have hND : ∀ W, Below w.heap.size w W → Calls Tryd.prog 60 #[.int .u64 (D : Int)] W fun e W' => e = .returned (.int .i64 (nd : Int)) ∧ W = W' := fun W hb => by
    have h := Tryd.internal_strconv_numDigits D hS.pos hD3 W (hR W hb).2
    rw [nDigits_dec, ← hnd] at h
    exact h.mono fun _ _ h => ⟨h.1, h.2.symm⟩
  have hSF : ∀ W, Below w.heap.size w W → Calls Tryd.prog 66 #[.int .u64 ((M * 2 ^ (64 - L) : Nat) : Int), .int .i64 ((if q = 0 then (-1022 : Int) else (q : Int) + -1023) - (64 - (L : Int)) - 52)] W fun e W' => e = .returned (.tuple #[.int .u64 (D : Int), .int .i64 pp]) ∧ Below W.heap.size W W' := fun W hb => hS.calls W (hR W hb).1
  have hwr : IntKind.u64.wrap ((M : Int) * 2 ^ (64 - L)) = ((M * 2 ^ (64 - L) : Nat) : Int) := by rw [pow_cast]; exact wrapuN _ hmant
  have hbuf : ∀ k, Left D nd k → (bufL D nd).take k = dec (cutz D) := fun k hk => buf_take D nd k hnd hk (by omega)
  have hF : -6 < (nd : Int) + pp → (nd : Int) + pp ≤ 21 → ∀ k, Left D nd k → ∃ K r, fmtF.f K l0 sg (bufL D nd) ((nd : Int) + pp) k (mx ((k : Int) - ((nd : Int) + pp)) 0) = some r ∧ r = l0 ++ ((if sg = true then [45] else []) ++ laidL (dec (cutz D)) ((nd : Int) + pp)) := fun d1 d2 k hk => by
    have k2 := hk.2.1
    obtain ⟨K, h⟩ := fmtF_ev l0 (bufL D nd) sg k ((nd : Int) + pp) hk.1 (by rw [bufL_length]; omega) (by rw [bufL_length]; decide) hl d1 d2
    rw [hbuf k hk] at h
    exact ⟨K, _, h, rfl⟩
  have hE : (nd : Int) + pp ≤ -6 ∨ 21 < (nd : Int) + pp → ∀ k, Left D nd k → ∃ K r, fmtE.f K l0 sg (bufL D nd) ((nd : Int) + pp) k ((k : Int) - 1) = some r ∧ (∃ q a b c d, r = q ++ [a, b, c, d] ∧ q.length ≤ 140737488355328) ∧ fixE r = l0 ++ ((if sg = true then [45] else []) ++ laidL (dec (cutz D)) ((nd : Int) + pp)) := fun d k hk => by
    have k2 := hk.2.1
    obtain ⟨K, r, h1, h2, h3⟩ := fmtE_ev l0 (bufL D nd) sg k ((nd : Int) + pp) hk.1 (by rw [bufL_length]; omega) (by rw [bufL_length]; decide) hl (by omega)
    rw [hbuf k hk] at h3
    exact ⟨K, r, h1, h2, h3⟩
  rw [← hnd]
  by_cases h0 : q = 0
  · rw [if_pos h0] at hM
    rw [h0] at b1
    rw [← hM] at b2
    refine ⟨fun d1 d2 => ?_, fun d => ?_⟩
    · exact ftoa64FS P0_ v0 l0 _ x M L (M * 2 ^ (64 - L)) D nd _ pp sg w0 w hx hB ho hsg b1 b2 hM1 hM2 l1 l2 l3 hwr rfl (by rw [if_pos h0] at hSF; exact hSF) hND hD1 hD2 hD3 hnd1 (by omega) (by omega) (by omega) (hF d1 d2)
    · exact ftoa64ES P0_ v0 l0 _ x M L (M * 2 ^ (64 - L)) D nd _ pp sg w0 w hx hB ho hsg b1 b2 hM1 hM2 l1 l2 l3 hwr rfl (by rw [if_pos h0] at hSF; exact hSF) hND hD1 hD2 hD3 hnd1 (by omega) (by omega) (by omega) (hE d)
  · rw [if_neg h0] at hM
    rw [← hM] at b3
    refine ⟨fun d1 d2 => ?_, fun d => ?_⟩
    · exact ftoa64FN P0_ v0 l0 _ x q m M L (M * 2 ^ (64 - L)) D nd _ pp sg w0 w hx hB ho hsg b1 b2 (by omega) (by omega) b3 hM1 hM2 l1 l2 l3 hwr rfl (by rw [if_neg h0] at hSF; exact hSF) hND hD1 hD2 hD3 hnd1 (by omega) (by omega) (by omega) (hF d1 d2)
    · exact ftoa64EN P0_ v0 l0 _ x q m M L (M * 2 ^ (64 - L)) D nd _ pp sg w0 w hx hB ho hsg b1 b2 (by omega) (by omega) b3 hM1 hM2 l1 l2 l3 hwr rfl (by rw [if_neg h0] at hSF; exact hSF) hND hD1 hD2 hD3 hnd1 (by omega) (by omega) (by omega) (hE d)
end

theorem laidL_len (ds : List Int) (n : Int) (h1 : ds.length ≤ 20) (h2 : -1000 ≤ n) (h3 : n ≤ 1000) : (laidL ds n).length ≤ 100 := by
  have d20 : ∀ k : Nat, k ≤ 2000 → (dec k).length ≤ 4 := fun k hk => dec_length_le 3 k (Nat.lt_of_le_of_lt hk (by decide))
  unfold laidL
  split
  · simp only [List.length_append, List.length_replicate]; omega
  · split
    · simp only [List.length_append, List.length_take, List.length_drop, List.length_cons, List.length_nil]; omega
    · split
      · simp only [List.length_append, List.length_replicate, List.length_cons, List.length_nil]; omega
      · have e1 := d20 (1 - n).toNat (by omega)
        have e2 := d20 (n - 1).toNat (by omega)
        rw [List.length_append]
        have g1 : (if ds.length = 1 then ds else ds.take 1 ++ [46] ++ ds.drop 1).length ≤ 42 := by
          split
          · omega
          · simp only [List.length_append, List.length_take, List.length_drop, List.length_cons, List.length_nil]; omega
        have g2 : (if n - 1 < 0 then [101, 45] ++ dec (1 - n).toNat else [101, 43] ++ dec (n - 1).toNat).length ≤ 6 := by
          split <;> simp only [List.length_append, List.length_cons, List.length_nil] <;> omega
        omega

theorem order64 (c y : Nat) (hc : c < 9218868437227405312) (hy : y < 9218868437227405312) : (c < y → FloatKind.f64.format.order c y = some .lt) ∧ (c = y → FloatKind.f64.format.order c y = some .eq) ∧ (y < c → FloatKind.f64.format.order c y = some .gt) := by
  have h := order_pos FloatKind.f64.format c y (by decide +kernel) (Nat.lt_of_lt_of_le hc (by decide +kernel)) (Nat.lt_of_lt_of_le hy (by decide +kernel))
  refine ⟨fun e => ?_, fun e => ?_, fun e => ?_⟩
  · rw [h, if_pos (T2_strict _ e)]
  · rw [h, e, if_neg (Nat.lt_irrefl _), if_pos rfl]
  · have := T2_strict FloatKind.f64.format.fractionBits e
    rw [h, if_neg (Nat.lt_asymm this), if_neg (Nat.ne_of_gt this)]

/-- FloatText at a finite number that is not 0 -/
theorem text64N (tt : ByteArray) (x c : Nat) (most : Int) (sg : Bool) (w : World) (hto : tt.size ≤ 4000000000) (hx : x < 18446744073709551616) (hc : c = x % 9223372036854775808) (hc0 : 1 ≤ c) (hc1 : c < 9218868437227405312) {q m P M L D : Nat} {pp : Int} (N : N64 c most q m P M L D pp)
    (hsg : ((x : Int) / 9223372036854775808 != 0) = sg) (hR : Rdy w) :
    Calls Tryd.prog 14 #[.string tt, .float .f64 x, .int .i64 64] w fun e w' => e = .returned (.string (strOfNums (bytesOf tt ++ ((if sg = true then [45] else []) ++ laidL (dec (cutz D)) (((dec D).length : Int) + pp))))) ∧ Below w.heap.size w w' := by
  obtain ⟨n, k, y, hsh, hy, hy0, hpl⟩ := N.hS.sh
  have pl := place64 rfl hsh hy0
  rw [hpl] at pl
  have b5 := (parts64 x c q m P hx N.hP hc N.hcq N.hmP).2.2.2.2
  have o0 := (order64 c 0 hc1 (by decide)).2.2 hc0
  have o1 := order64 c 4517329193108106637 hc1 (by decide)
  have o2 := order64 c 4921056587992461136 hc1 (by decide)
  refine (floatText tt x w (fun r => r = bytesOf tt ++ ((if sg = true then [45] else []) ++ laidL (dec (cutz D)) (((dec D).length : Int) + pp))) (by omega) (fun W v hB ho => ?_)).mono ?_
  · refine af25 v _ w W _ ?_
    have hRW := hR.mono hB
    obtain ⟨F, E⟩ := ftoa64_any (fun _ => True) v (bytesOf tt) x c most sg w W hx hc N hsg hB ho hRW (by rw [bytesOf_length]; omega)
    generalize ((dec D).length : Int) + pp = dp at *
    have post : ∀ e w', (FtPost w (fun r => ∃ r', ((∃ q a b c d, r' = q ++ [a, b, c, d] ∧ q.length ≤ 140737488355328) ∧ fixE r' = bytesOf tt ++ ((if sg = true then [45] else []) ++ laidL (dec (cutz D)) dp)) ∧ r = fixE r')) e w' → FtPost w (fun r => r = bytesOf tt ++ ((if sg = true then [45] else []) ++ laidL (dec (cutz D)) dp)) e w' := by
      rintro e w' ⟨v', r, h1, ⟨r', ⟨g1, g2⟩, rfl⟩, h3, h4⟩
      exact ⟨v', _, h1, g2, h3, h4⟩
    by_cases d1 : dp ≤ -6
    · have hlt := pl.1.1 d1
      exact (af33E1 v x c w W _ b5 o0 (o1.1 hlt) (E (.inl d1)) (fun r hr => hr.1)).mono post
    · have hge : 4517329193108106637 ≤ c := Nat.not_lt.1 fun h => d1 (pl.1.2 h)
      by_cases d2 : dp ≤ 21
      · have hlt := pl.2.1 d2
        rcases Nat.lt_or_ge 4517329193108106637 c with hgt | hle
        · exact af33F1 v x c w W _ b5 o0 (o1.2.2 hgt) (o2.1 hlt) (F (by omega) d2)
        · exact af33F2 v x c w W _ b5 o0 (o1.2.1 (Nat.le_antisymm hle hge)) (o2.1 hlt) (F (by omega) d2)
      · have hge2 : 4921056587992461136 ≤ c := Nat.not_lt.1 fun h => d2 (pl.2.2 h)
        have hgt1 : 4517329193108106637 < c := Nat.lt_of_lt_of_le (by decide) hge2
        rcases Nat.lt_or_ge 4921056587992461136 c with hgt | hle
        · exact (af33E2 v x c w W _ b5 o0 (o1.2.2 hgt1) (o2.2.2 hgt) (E (.inr (by omega))) (fun r hr => hr.1)).mono post
        · exact (af33E3 v x c w W _ b5 o0 (o1.2.2 hgt1) (o2.2.1 (Nat.le_antisymm hle hge2)) (E (.inr (by omega))) (fun r hr => hr.1)).mono post
  · rintro e w' ⟨r, rfl, h2, h3⟩
    exact ⟨h2, h3⟩

/-- FloatText at a zero -/
theorem text64Z (tt : ByteArray) (x : Nat) (sg : Bool) (w : World) (hto : tt.size ≤ 4000000000) (hx : x < 18446744073709551616) (hc : 0 = x % 9223372036854775808)
    (hsg : ((x : Int) / 9223372036854775808 != 0) = sg) :
    Calls Tryd.prog 14 #[.string tt, .float .f64 x, .int .i64 64] w fun e w' => e = .returned (.string (strOfNums (bytesOf tt ++ ((if sg = true then [45] else []) ++ [48])))) ∧ Below w.heap.size w w' := by
  obtain ⟨b1, b2, b3, b4, b5⟩ := parts64 x 0 0 0 (2 ^ 52) hx rfl hc (by decide) (by decide)
  have o0 := (order64 0 0 (by decide) (by decide)).2.1 rfl
  refine (floatText tt x w (fun r => r = bytesOf tt ++ ((if sg = true then [45] else []) ++ [48])) (by omega) (fun W v hB ho => ?_)).mono ?_
  · refine af25 v _ w W _ ?_
    obtain ⟨K, h⟩ := fmtF_zero (bytesOf tt) sg (by rw [bytesOf_length]; omega)
    exact af33Z v x 0 w W _ b5 o0 (ftoa64Z (fun _ => True) v (bytesOf tt) _ x sg w W hx hB ho hsg b1 b2 ⟨K, _, h, rfl⟩)
  · rintro e w' ⟨r, rfl, h2, h3⟩
    exact ⟨h2, h3⟩

end Go.Proofs.YtiopeaponffmdaaDoor.PAll
-- YtiopeaponffmdaaDoorFp
set_option linter.unusedVariables false
set_option linter.unusedSimpArgs false
namespace Go.Proofs.YtiopeaponffmdaaDoor.PAll
open Go.RowKit Go.Proofs.YtiopeaponffmdaaDoorW.PrintWords Go.Proofs.YtiopeaponffmdaaDoorW.PrintLast Go.Proofs.YtiopeaponffmdaaDoorW.PrintMore

/-- x - x, x finite -/
theorem sub_self (F : Ieee.Format) (s : Bool) (m : Nat) (i : Int) (x : Nat) (h : F.read x = .number s m i) : F.sub x x = some 0 := by
  unfold Ieee.Format.sub
  rw [h]
  have e : (Ieee.signed s m (i - i).toNat + Ieee.signed (!s) m (i - i).toNat) = 0 := by
    unfold Ieee.signed
    cases s <;> simp <;> omega
  have h2 : (Ieee.Datum.number s m i).sum (Ieee.Datum.number s m i).opposite = some (.number false 0 (min i i)) := by
    unfold Ieee.Datum.opposite Ieee.Datum.sum
    simp only [Int.min_self]
    rw [e, if_pos rfl]
    cases s <;> rfl
  rw [h2]
  rfl

theorem read_fin (F : Ieee.Format) (x : Nat) (h : x % F.signWeight < F.infRung) : ∃ s m i, F.read x = .number s m i := by
  unfold Ieee.Format.read
  dsimp only
  split
  · exact ⟨_, _, _, rfl⟩
  · exact ⟨_, _, _, rfl⟩
theorem read_nonfin (F : Ieee.Format) (x : Nat) (h : F.infRung ≤ x % F.signWeight) (hb : F.binade ≤ F.infRung) : (∃ s, F.read x = .infinity s) ∨ ∃ s t, F.read x = .nan s t := by
  unfold Ieee.Format.read
  dsimp only
  rw [if_neg (by omega), if_neg (by omega)]
  split
  · exact .inl ⟨_, rfl⟩
  · exact .inr ⟨_, _, rfl⟩
theorem read_nan (F : Ieee.Format) (x : Nat) (h : F.infRung < x % F.signWeight) (hb : F.binade ≤ F.infRung) : ∃ s t, F.read x = .nan s t := by
  unfold Ieee.Format.read
  dsimp only
  rw [if_neg (by omega), if_neg (by omega), if_neg (by omega)]
  exact ⟨_, _, rfl⟩
theorem sub_self_none (F : Ieee.Format) (x : Nat) (h : F.infRung ≤ x % F.signWeight) (hb : F.binade ≤ F.infRung) : F.sub x x = none := by
  unfold Ieee.Format.sub
  rcases read_nonfin F x h hb with ⟨s, e⟩ | ⟨s, t, e⟩
  · rw [e]
    unfold Ieee.Datum.opposite Ieee.Datum.sum
    cases s <;> rfl
  · rw [e]; rfl

theorem finite8_yes (x : Nat) (w : World) (h : x % 9223372036854775808 < 9218868437227405312) : Calls Tryd.prog 12 #[.float .f64 x] w fun e w' => e = .returned (.bool true) ∧ w = w' := by
  obtain ⟨s, m, i, hr⟩ := read_fin FloatKind.f64.format x (Nat.lt_of_le_of_lt (Nat.le_of_eq (by rfl)) (Nat.lt_of_lt_of_le h (by decide +kernel)))
  have hs := sub_self FloatKind.f64.format s m i x hr
  have hrun := fun w : World => run_float_arith (P := Tryd.prog) w .sub 22 .f64 x x 0 hs
  have heq := fun w : World => (show (binOp BinOp.eql 22 (Value.float FloatKind.f64 0) (Value.float FloatKind.f64 0)).run Tryd.prog w = .ok (.bool true) w from by kernel_rfl)
  clear hs hr h
  go_enter Tryd.func12, Tryd.ntmps12
  go_wp2_with (fail)
  go_ret
  exact ⟨rfl, rfl⟩

theorem nan_cut (x y t : Nat) : 9218868437227405312 < (Question.nanBits FloatKind.f64 x y).cut t % 9223372036854775808 := by
  unfold Question.cut
  have : t / 2 % (2 ^ 52 - 1) < 2 ^ 52 - 1 := Nat.mod_lt _ (by decide)
  have e : (2 : Nat) ^ 52 - 1 = 4503599627370495 := by decide
  have e2 : (2 : Nat) ^ 63 = 9223372036854775808 := by decide
  rw [e] at this
  dsimp only
  rw [e, e2]
  generalize t / 2 % 4503599627370495 = r at *
  have : t % 2 < 2 := Nat.mod_lt _ (by decide)
  omega

theorem finite8_no (x : Nat) (w : World) (h : 9218868437227405312 ≤ x % 9223372036854775808) : Calls Tryd.prog 12 #[.float .f64 x] w fun e w' => e = .returned (.bool false) ∧ w.drew = w' := by
  have hs := sub_self_none FloatKind.f64.format x (Nat.le_trans (by decide +kernel) h) (by decide +kernel)
  obtain ⟨nb, hnb⟩ : ∃ nb, nb = (Question.nanBits FloatKind.f64 x x).cut (w.tape w.drawn (Question.nanBits FloatKind.f64 x x)) := ⟨_, rfl⟩
  have hrun : (binOp BinOp.sub 22 (Value.float FloatKind.f64 x) (Value.float FloatKind.f64 x)).run Tryd.prog w = .ok (.float .f64 nb) w.drew := by
    rw [hnb]
    simp [binOp, Op.floatArith, hs, Question.forced]
  have hn := nan_cut x x (w.tape w.drawn (Question.nanBits FloatKind.f64 x x))
  rw [← hnb] at hn
  obtain ⟨s, t, hr⟩ := read_nan FloatKind.f64.format nb (Nat.lt_of_le_of_lt (by decide +kernel) hn) (by decide +kernel)
  have ho : FloatKind.f64.format.order nb 0 = none := by
    unfold Ieee.Format.order
    rw [hr]; rfl
  have ho2 : (FloatKind.f64.format.order nb 0 == some Ordering.eq) = false := by rw [ho]; rfl
  clear hs hr h hnb hn ho
  go_enter Tryd.func12, Tryd.ntmps12
  go_wp2_with (fail)
  go_ret
  exact ⟨rfl, rfl⟩

end Go.Proofs.YtiopeaponffmdaaDoor.PAll
-- YtiopeaponffmdaaDoorFr
set_option linter.unusedVariables false
set_option linter.unusedSimpArgs false
namespace Go.Proofs.YtiopeaponffmdaaDoor.PAll
open Go.RowKit Go.Proofs.YtiopeaponffmdaaDoorW.PrintWords Go.Proofs.YtiopeaponffmdaaDoorW.PrintLast Go.Proofs.YtiopeaponffmdaaDoorW.PrintMore
open Fm

/-- the text of a finite number without its sign -/
def NumText (f c : Nat) (l : List Int) : Prop := (c = 0 ∧ l = [48]) ∨ (1 ≤ c ∧ ∃ (n : Int) (k y : Nat), ShAt f c 400 n k y ∧ 0 < y ∧ l = laidL (dec (cutz y)) (n + ((dec y).length : Int) - (k : Int)))

theorem text64F (tt : ByteArray) (x c : Nat) (sg : Bool) (w : World) (hto : tt.size ≤ 4000000000) (hx : x < 18446744073709551616) (hc : c = x % 9223372036854775808) (hc1 : c < 9218868437227405312)
    (hsg : ((x : Int) / 9223372036854775808 != 0) = sg) (hR : Rdy w) :
    ∃ l : List Int, NumText 52 c l ∧
      Calls Tryd.prog 14 #[.string tt, .float .f64 x, .int .i64 64] w fun e w' => e = .returned (.string (tt ++ strOfNums ((if sg = true then [45] else []) ++ l))) ∧ Below w.heap.size w w' := by
  by_cases h0 : c = 0
  · subst h0
    refine ⟨[48], .inl ⟨rfl, rfl⟩, (text64Z tt x sg w hto hx hc hsg).mono fun e w' ⟨h1, h2⟩ => ⟨?_, h2⟩⟩
    rw [h1, ← str_append, strOfNums_bytesOf]
  · obtain ⟨q, m, P, M, L, D, pp, N⟩ := n64 c 0 (by omega) hc1
    have hS := N.hS
    obtain ⟨n, k, y, hsh, hy, hy0, hpl⟩ := hS.sh
    refine ⟨_, .inr ⟨by omega, n, k, y, hsh, hy0, rfl⟩, (text64N tt x c 0 sg w hto hx hc (by omega) hc1 N hsg hR).mono fun e w' ⟨h1, h2⟩ => ⟨?_, h2⟩⟩
    rw [h1, hy, hpl, ← str_append, strOfNums_bytesOf]

/-- the digits are those of the first grid on which a number is found: they are one text alone -/
theorem ShAt.unique {f c a : Nat} {n n' : Int} {k k' x x' : Nat} (h : ShAt f c a n k x) (h' : ShAt f c a n' k' x') : n = n' ∧ k = k' ∧ x = x' := by
  have hn : n = n' := by
    have a1 := h.low
    have a2 := h.high
    have b1 := h'.low
    have b2 := h'.high
    rcases Int.lt_trichotomy n n' with hl | he | hg
    · have := Ug_anti f n n' a 0 1 (by omega)
      omega
    · exact he
    · have := Ug_anti f n' n a 0 1 (by omega)
      omega
  subst hn
  have hk : k = k' := by
    rcases Nat.lt_trichotomy k k' with hl | he | hg
    · have := h'.none k h.k1 hl
      rw [h.some] at this; cases this
    · exact he
    · have := h.none k' h'.k1 hg
      rw [h'.some] at this; cases this
  subst hk
  have := h.some
  rw [h'.some] at this
  exact ⟨rfl, rfl, (Option.some.inj this).symm⟩
theorem NumText.unique {f c : Nat} {l l' : List Int} (h : NumText f c l) (h' : NumText f c l') : l = l' := by
  rcases h with ⟨e, h⟩ | ⟨e, n, k, y, h1, h2, h⟩
  · rcases h' with ⟨_, h'⟩ | ⟨e', _⟩
    · rw [h, h']
    · omega
  · rcases h' with ⟨e', _⟩ | ⟨e', n', k', y', h1', h2', h'⟩
    · omega
    · obtain ⟨rfl, rfl, rfl⟩ := h1.unique h1'
      rw [h, h']

theorem laidL_head (ds : List Int) (n : Int) (h1 : 1 ≤ ds.length) (hd : ∀ b ∈ ds, 48 ≤ b ∧ b ≤ 57) : ∃ b t, laidL ds n = b :: t ∧ 48 ≤ b ∧ b ≤ 57 := by
  obtain ⟨b, t, rfl⟩ : ∃ b t, ds = b :: t := by
    cases ds with
    | nil => simp at h1
    | cons b t => exact ⟨b, t, rfl⟩
  have hb := hd b (by simp)
  unfold laidL
  split
  · exact ⟨b, _, rfl, hb⟩
  · split
    · rename_i h
      obtain ⟨m, hm⟩ : ∃ m, n.toNat = m + 1 := ⟨n.toNat - 1, by omega⟩
      rw [hm, List.take_succ_cons]
      exact ⟨b, _, rfl, hb⟩
    · split
      · exact ⟨48, _, rfl, by omega⟩
      · split
        · exact ⟨b, _, rfl, hb⟩
        · exact ⟨b, _, rfl, hb⟩
theorem NumText.head {f c : Nat} {l : List Int} (h : NumText f c l) : ∃ b t, l = b :: t ∧ 48 ≤ b ∧ b ≤ 57 := by
  rcases h with ⟨_, rfl⟩ | ⟨_, n, k, y, _, _, rfl⟩
  · exact ⟨48, [], rfl, by omega⟩
  · exact laidL_head _ _ (dec_length_pos _) (dec_digit _)
theorem cutz_len (D : Nat) : (dec (cutz D)).length ≤ (dec D).length := by
  induction D using Nat.strongRecOn with
  | ind D ih =>
    by_cases h : 10 ≤ D ∧ D % 10 = 0
    · rw [cutz_pos h.1 h.2, dec_ge h.1, List.length_append]
      have := ih (D / 10) (by omega)
      omega
    · rw [cutz_neg h]; exact Nat.le_refl _
/-- the digits fit the grid -/
theorem ShAt.upper {f c a : Nat} {n : Int} {k x : Nat} (h : ShAt f c a n k x) (ha : 400 ≤ a) : x ≤ 10 ^ k := by
  have hr := h.some
  have hU : ∀ i : Nat, i < 17 → Ug f n a i = 10 * Ug f n a (i + 1) := fun i hi => Ug_succ f n a i (by have := h.n0; omega)
  have hm := unit_mul (Ug f n a) hU 0 k (by have := h.k2; omega)
  rw [Nat.zero_add] at hm
  have hq : (T2 f c * 2 ^ 1 * 10 ^ a) / Ug f n a k < 10 ^ k := by
    rw [Nat.div_lt_iff_lt_mul (Ug_pos _ _ _ _), ← hm]
    exact h.high
  unfold refStep at hr
  dsimp only at hr
  split at hr
  · have := Option.some.inj hr
    rw [← this]
    split <;> omega
  · cases hr
theorem NumText.len {f c : Nat} {l : List Int} (h : NumText f c l) : l.length ≤ 100 := by
  rcases h with ⟨_, rfl⟩ | ⟨_, n, k, y, h, h0, rfl⟩
  · decide
  · have hu := h.upper (by decide)
    have hk := h.k2
    have h1 : y < 10 ^ (17 + 1) := Nat.lt_of_le_of_lt hu (Nat.pow_lt_pow_right (by decide) (by omega))
    have h2 := dec_length_le 17 y h1
    have h3 := cutz_len y
    have n0 := h.n0
    have n1 := h.n1
    have k1 := h.k1
    exact laidL_len _ _ (by omega) (by omega) (by omega)
end Go.Proofs.YtiopeaponffmdaaDoor.PAll
-- YtiopeaponffmdaaDoorFni
set_option linter.unusedVariables false
set_option linter.unusedSimpArgs false
namespace Go.Proofs.YtiopeaponffmdaaDoor.PAll
open Go.RowKit Go.Proofs.YtiopeaponffmdaaDoorW.PrintWords Go.Proofs.YtiopeaponffmdaaDoorW.PrintLast Go.Proofs.YtiopeaponffmdaaDoorW.PrintMore

theorem cut_exact (s : Bool) (m d : Nat) (hm : 0 < m) : Ieee.Toward.even.cut s (m * 2 ^ d) d = m := by
  unfold Ieee.Toward.cut
  have hlog : d ≤ (m * 2 ^ d).log2 + 2 := by
    have h1 : 2 ^ d ≤ m * 2 ^ d := by
      have := Nat.mul_le_mul_right (2 ^ d) hm
      omega
    have h2 : d ≤ (m * 2 ^ d).log2 := (Nat.le_log2 (by have := Nat.two_pow_pos d; omega)).2 h1
    omega
  have hg : 1 <<< min d ((m * 2 ^ d).log2 + 2) = 2 ^ d := by
    rw [Nat.min_eq_left hlog, Nat.shiftLeft_eq, Nat.one_mul]
  have hp : 0 < 2 ^ d := Nat.two_pow_pos d
  dsimp only
  rw [hg, Nat.mul_div_cancel _ hp, Nat.mul_mod_left]
  have e1 : decide (2 ^ d < 2 * 0) = false := by rw [decide_eq_false_iff_not]; omega
  have e2 : (2 ^ d == 2 * 0) = false := by rw [beq_eq_false_iff_ne]; omega
  rw [e1, e2]
  rfl

/-- a number that the format holds is written without loss -/
theorem nearest_exact (F : Ieee.Format) (s : Bool) (mag : Nat) (place : Int) (k : Nat) (j : Nat) (hm : 0 < mag) (hl : mag.log2 + k = F.fractionBits) (hj : place - (k : Int) = F.leastPlace + (j : Int)) (hf : j * 2 ^ F.fractionBits + mag * 2 ^ k ≤ F.infRung) :
    F.nearest s mag place = F.word s (j * 2 ^ F.fractionBits + mag * 2 ^ k) := by
  unfold Ieee.Format.nearest
  rw [if_neg (by omega)]
  have hlast : max (place + (mag.log2 : Int) - (F.fractionBits : Int)) F.leastPlace = F.leastPlace + (j : Int) := by omega
  dsimp only
  rw [hlast]
  have e1 : (place - (F.leastPlace + (j : Int))).toNat = k := by omega
  have e2 : (F.leastPlace + (j : Int) - place).toNat = 0 := by omega
  have e3 : (F.leastPlace + (j : Int) - F.leastPlace).toNat = j := by omega
  rw [e1, e2, e3, Nat.shiftLeft_eq]
  have hc := cut_exact s (mag * 2 ^ k) 0 (Nat.mul_pos hm (Nat.two_pow_pos _))
  rw [Nat.pow_zero, Nat.mul_one] at hc
  rw [hc]
  unfold Ieee.Format.binade
  rw [Nat.min_eq_left hf]
end Go.Proofs.YtiopeaponffmdaaDoor.PAll
-- YtiopeaponffmdaaDoorFnj
set_option linter.unusedVariables false
set_option linter.unusedSimpArgs false
namespace Go.Proofs.YtiopeaponffmdaaDoor.PAll
open Go.RowKit Go.Proofs.YtiopeaponffmdaaDoorW.PrintWords Go.Proofs.YtiopeaponffmdaaDoorW.PrintLast Go.Proofs.YtiopeaponffmdaaDoorW.PrintMore

theorem read_sgn (F : Ieee.Format) (x : Nat) (h2 : x % F.signWeight < F.infRung) :
    F.read x = .number (x / F.signWeight % 2 == 1) (mgP F.fractionBits (x % F.signWeight)).1 (F.leastPlace + ((mgP F.fractionBits (x % F.signWeight)).2 : Nat)) := by
  unfold Ieee.Format.read
  dsimp only
  unfold mgP Ieee.Format.binade
  by_cases h : x % F.signWeight < 2 ^ F.fractionBits
  · rw [if_pos h, if_pos h]
    simp
  · rw [if_neg h, if_neg h, if_pos h2]
end Go.Proofs.YtiopeaponffmdaaDoor.PAll
-- YtiopeaponffmdaaDoorFy
set_option linter.unusedVariables false
set_option linter.unusedSimpArgs false
namespace Go.Proofs.YtiopeaponffmdaaDoor.PAll
open Go.RowKit Go.Proofs.YtiopeaponffmdaaDoorW.PrintWords Go.Proofs.YtiopeaponffmdaaDoorW.PrintLast Go.Proofs.YtiopeaponffmdaaDoorW.PrintMore
open Fm

theorem dec_mul10 {x : Nat} (hx : 0 < x) : dec (x * 10) = dec x ++ [48] := by
  rw [dec_ge (by omega), show x * 10 / 10 = x by omega, show x * 10 % 10 = 0 by omega]
  rfl
theorem dec_mul_pow {x : Nat} (hx : 0 < x) (i : Nat) : dec (x * 10 ^ i) = dec x ++ List.replicate i 48 := by
  induction i with
  | zero => simp
  | succ i ih =>
    rw [Nat.pow_succ, ← Nat.mul_assoc, dec_mul10 (Nat.mul_pos hx (Nat.pow_pos (by decide))), ih, List.append_assoc, List.replicate_succ']
theorem cutz_mul10 {x : Nat} (hx : 0 < x) : cutz (x * 10) = cutz x := by
  rw [cutz_pos (by omega) (by omega), show x * 10 / 10 = x by omega]
theorem cutz_mul_pow {x : Nat} (hx : 0 < x) (i : Nat) : cutz (x * 10 ^ i) = cutz x := by
  induction i with
  | zero => simp
  | succ i ih => rw [Nat.pow_succ, ← Nat.mul_assoc, cutz_mul10 (Nat.mul_pos hx (Nat.pow_pos (by decide))), ih]
theorem cutz_form (x : Nat) (hx : 0 < x) : 0 < cutz x ∧ ∃ i, x = cutz x * 10 ^ i := by
  induction x using Nat.strongRecOn with
  | ind x ih =>
    by_cases h : 10 ≤ x ∧ x % 10 = 0
    · obtain ⟨h1, i, h2⟩ := ih (x / 10) (by omega) (by omega)
      rw [cutz_pos h.1 h.2]
      refine ⟨h1, i + 1, ?_⟩
      rw [Nat.pow_succ, ← Nat.mul_assoc, ← h2]
      omega
    · rw [cutz_neg h]
      exact ⟨hx, 0, by simp⟩
/-- a whole number laid out is its digits -/
theorem laid_whole (N : Nat) (h0 : 0 < N) (h : (dec N).length ≤ 21) : laidL (dec (cutz N)) ((dec N).length : Int) = dec N := by
  obtain ⟨hp, i, hN⟩ := cutz_form N h0
  have e := dec_mul_pow hp i
  rw [← hN] at e
  have hl : (dec N).length = (dec (cutz N)).length + i := by rw [e]; simp
  unfold laidL
  rw [if_pos ⟨by omega, by omega⟩, show (((dec N).length : Int) - (dec (cutz N)).length).toNat = i by omega, ← e]
end Go.Proofs.YtiopeaponffmdaaDoor.PAll
-- YtiopeaponffmdaaDoorFz
set_option linter.unusedVariables false
set_option linter.unusedSimpArgs false
namespace Go.Proofs.YtiopeaponffmdaaDoor.PAll
open Go.RowKit Go.Proofs.YtiopeaponffmdaaDoorW.PrintWords Go.Proofs.YtiopeaponffmdaaDoorW.PrintLast Go.Proofs.YtiopeaponffmdaaDoorW.PrintMore
open Fm

/-- a whole number and its neighbours, in units -/
theorem near_whole (N g c : Nat) (hg : g ≤ 52) (h1 : 2 ^ g ≤ N) (h2 : N < 2 ^ (g + 1)) (hc : c = (1022 + g) * 2 ^ 52 + N * 2 ^ (52 - g)) :
    T2 52 c = N * 2 ^ 1074 ∧ T2 52 (c + 1) ≤ N * 2 ^ 1074 + 2 ^ 1074 ∧ N * 2 ^ 1074 ≤ T2 52 (c - 1) + 2 ^ 1074 ∧ 1 ≤ c := by
  obtain ⟨P, hP⟩ : ∃ P : Nat, P = 2 ^ 52 := ⟨_, rfl⟩
  obtain ⟨d, hd⟩ : ∃ d : Nat, d = 2 ^ (52 - g) := ⟨_, rfl⟩
  obtain ⟨u, hu⟩ : ∃ u : Nat, u = 2 ^ (1022 + g) := ⟨_, rfl⟩
  obtain ⟨B, hB⟩ : ∃ B : Nat, B = 2 ^ 1074 := ⟨_, rfl⟩
  have e1 : B = d * u := by rw [hB, hd, hu, ← Nat.pow_add]; congr 1; omega
  have d1 : 1 ≤ d := by rw [hd]; exact Nat.two_pow_pos _
  have e2 : 2 ^ g * d = P := by rw [hd, hP, ← Nat.pow_add]; congr 1; omega
  have m1 : P ≤ N * d := by rw [← e2]; exact Nat.mul_le_mul_right d h1
  have m2 : N * d < 2 * P := by
    have : N * d < 2 ^ (g + 1) * d := Nat.mul_lt_mul_of_pos_right h2 d1
    rw [Nat.pow_succ] at this
    have e3 : 2 ^ g * 2 * d = 2 * P := by rw [← e2, Nat.mul_right_comm, Nat.mul_comm]
    omega
  have hcq : c = (1023 + g) * P + (N * d - P) := by
    rw [hc, ← hP, ← hd]
    have : (1023 + g) * P = (1022 + g) * P + P := by rw [show 1023 + g = (1022 + g) + 1 by omega, Nat.add_mul, Nat.one_mul]
    omega
  have hm : N * d - P < P := by omega
  have hq : (1023 + g) ≠ 0 := by omega
  have hq1 : 1023 + g - 1 = 1022 + g := by omega
  have t0 := T2_at 52 (1023 + g) (N * d - P) (by rw [← hP]; exact hm)
  have t1 := T2_up 52 (1023 + g) (N * d - P) (by rw [← hP]; exact hm)
  rw [← hP, ← hcq, if_neg hq, hq1, ← hu] at t0 t1
  have s0 : N * d - P + P = N * d := by omega
  have s1 : N * d - P + 1 + P = N * d + 1 := by omega
  rw [s0] at t0
  rw [s1] at t1
  have k0 : N * d * u = N * B := by rw [e1, Nat.mul_assoc]
  have uB : u ≤ B := by rw [e1]; exact Nat.le_mul_of_pos_left u d1
  have c1 : 1 ≤ c := by
    have : 1 ≤ P := by rw [hP]; exact Nat.two_pow_pos _
    have : 1 * 1 ≤ (1023 + g) * P := Nat.mul_le_mul (by omega) this
    omega
  rw [← hB]
  refine ⟨by rw [t0, k0], by rw [t1, Nat.add_mul, Nat.one_mul, k0]; omega, ?_, c1⟩
  by_cases hz : N * d - P = 0
  · have t2 := T2_down0 52 (1023 + g) (by omega)
    rw [hz] at hcq
    rw [← hP, ← hcq, if_neg (by omega)] at t2
    obtain ⟨v, hv⟩ : ∃ v : Nat, v = 2 ^ (1021 + g) := ⟨_, rfl⟩
    have huv : u = 2 * v := by rw [hu, hv, show 1022 + g = (1021 + g) + 1 by omega, Nat.pow_succ, Nat.mul_comm]
    rw [show 1023 + g - 2 = 1021 + g by omega, ← hv] at t2
    have hN : N * d = P := by omega
    rw [t2, ← k0, hN, huv]
    have p1 : 1 ≤ P := by rw [hP]; exact Nat.two_pow_pos _
    have e5 : (P - 1 + P) * v + v = P * (2 * v) := by
      rw [← Nat.succ_mul, show Nat.succ (P - 1 + P) = P * 2 by omega, Nat.mul_assoc]
    have : v ≤ B := by omega
    omega
  · have t2 := T2_down 52 (1023 + g) (N * d - P) (by rw [← hP]; exact hm) (by omega)
    rw [← hP, ← hcq, if_neg hq, hq1, ← hu, show N * d - P - 1 + P = N * d - 1 by omega] at t2
    rw [t2, ← k0]
    have : (N * d - 1) * u + u = N * d * u := by
      rw [← Nat.succ_mul, show Nat.succ (N * d - 1) = N * d by omega]
    omega
end Go.Proofs.YtiopeaponffmdaaDoor.PAll
-- YtiopeaponffmdaaDoorGa
set_option linter.unusedVariables false
set_option linter.unusedSimpArgs false
namespace Go.Proofs.YtiopeaponffmdaaDoor.PAll
open Go.RowKit Go.Proofs.YtiopeaponffmdaaDoorW.PrintWords Go.Proofs.YtiopeaponffmdaaDoorW.PrintLast Go.Proofs.YtiopeaponffmdaaDoorW.PrintMore
open Fm

/-- the grid at a whole number of places -/
theorem Ug_whole (n : Int) (k : Nat) (h : (k : Int) ≤ n) (a B : Nat) (hB : B = 2 ^ lst 52) : Ug 52 n a k = 10 ^ (n - (k : Int)).toNat * (2 * B * 10 ^ a) := by
  unfold Ug
  have e : 2 ^ (lst 52 + 1) = 2 * B := by
    rw [Nat.pow_succ, hB, Nat.mul_comm]
  rw [e, show (n - (k : Int) + (a : Int)).toNat = (n - (k : Int)).toNat + a by omega, Nat.pow_add 10]
  rw [Nat.mul_left_comm]
theorem whole_in (N c : Nat) (B E x y : Nat) (hB : 0 < B) (hE : 0 < E) (t0 : T2 52 c = N * B) (t1 : T2 52 (c + 1) ≤ N * B + B) (t2 : N * B ≤ T2 52 (c - 1) + B) (ev : Bool)
    (h : Inn ((T2 52 (c - 1) + T2 52 c) * E) ((T2 52 c + T2 52 (c + 1)) * E) ev (y * (2 * B * E))) : y = N := by
  obtain ⟨h1, h2⟩ := h
  have a1 : (T2 52 (c - 1) + T2 52 c) * E ≤ y * (2 * B * E) := by omega
  have a2 : y * (2 * B * E) ≤ (T2 52 c + T2 52 (c + 1)) * E := by omega
  have e : y * (2 * B * E) = (2 * y * B) * E := by
    rw [← Nat.mul_assoc, ← Nat.mul_assoc, Nat.mul_comm y 2]
  rw [e] at a1 a2
  have b1 := Nat.le_of_mul_le_mul_right a1 hE
  have b2 := Nat.le_of_mul_le_mul_right a2 hE
  have c1 : (2 * N) * B ≤ (2 * y + 1) * B := by
    rw [Nat.add_mul, Nat.one_mul, Nat.mul_assoc 2 N B]; omega
  have c2 : (2 * y) * B ≤ (2 * N + 1) * B := by
    rw [Nat.add_mul, Nat.one_mul, Nat.mul_assoc 2 N B]; omega
  have d1 := Nat.le_of_mul_le_mul_right c1 hB
  have d2 := Nat.le_of_mul_le_mul_right c2 hB
  omega
theorem pow_cut {x y E : Nat} (hE : 0 < E) (h : x * E ≤ y * E) : x ≤ y := Nat.le_of_mul_le_mul_right h hE
/-- where the reference ends at a whole number -/
theorem whole_shat (N c B : Nat) (hB : B = 2 ^ lst 52) (hN : 0 < N) (t0 : T2 52 c = N * B) (t1 : T2 52 (c + 1) ≤ N * B + B) (t2 : N * B ≤ T2 52 (c - 1) + B) (hc1 : 1 ≤ c) {n : Int} {k x : Nat} (h : ShAt 52 c 400 n k x) :
    1 ≤ n ∧ 10 ^ (n - 1).toNat ≤ N ∧ N < 10 ^ n.toNat ∧ (k : Int) ≤ n ∧ x * 10 ^ (n - (k : Int)).toNat = N := by
  have B0 : 0 < B := by rw [hB]; exact Nat.two_pow_pos _
  obtain ⟨a, ha⟩ : ∃ a : Nat, a = 400 := ⟨_, rfl⟩
  rw [← ha] at h
  obtain ⟨E, hE⟩ : ∃ E : Nat, E = 10 ^ a := ⟨_, rfl⟩
  have E0 : 0 < E := by rw [hE]; exact Nat.pow_pos (by decide)
  have U0 : 0 < 2 * B * E := Nat.mul_pos (Nat.mul_pos (by decide) B0) E0
  have V : T2 52 c * 2 ^ 1 * 10 ^ a = N * (2 * B * E) := by
    rw [t0, ← hE, Nat.pow_one, Nat.mul_assoc N B 2, Nat.mul_comm B 2, Nat.mul_assoc N]
  have n1 : 1 ≤ n := by
    refine Int.not_lt.1 fun hlt => ?_
    have hh := h.high
    rw [V] at hh
    have : Ug 52 n a 0 ≤ 2 * B * E := by
      unfold Ug
      have e : 2 ^ (lst 52 + 1) = 2 * B := by
        rw [Nat.pow_succ, hB, Nat.mul_comm]
      rw [e, hE]
      exact Nat.mul_le_mul_left _ (Nat.pow_le_pow_right (by decide) (by omega))
    have : 1 * (2 * B * E) ≤ N * (2 * B * E) := Nat.mul_le_mul_right _ hN
    omega
  have lo := h.low
  have hi := h.high
  rw [V, Ug_whole n 1 (by omega) a B hB, ← hE] at lo
  rw [V, Ug_whole n 0 (by omega) a B hB, ← hE] at hi
  have hk : (k : Int) ≤ n := by
    refine Int.not_lt.1 fun hlt => ?_
    have hn := h.none n.toNat (by omega) (by omega)
    rw [V, Ug_whole n n.toNat (by omega) a B hB, ← hE, show (n - (n.toNat : Int)).toNat = 0 by omega, Nat.pow_zero, Nat.one_mul] at hn
    obtain ⟨y, hy⟩ := refStep_isSome (V := N * (2 * B * E)) (Bm := (T2 52 (c - 1) + T2 52 c) * E) (Bp := (T2 52 c + T2 52 (c + 1)) * E) (ev := decide (c % 2 = 0)) (u := 2 * B * E) (.inl (by
      rw [Nat.mul_div_cancel _ U0, ← V, ← hE, Nat.pow_one]
      have s1 := T2_strict 52 (show c - 1 < c by omega)
      have s2 := T2_lt_succ 52 c
      exact ⟨.inl (Nat.mul_lt_mul_of_pos_right (by omega) E0), .inl (Nat.mul_lt_mul_of_pos_right (by omega) E0)⟩))
    rw [hy] at hn
    cases hn
  have hin := h.inn
  rw [Ug_whole n k hk a B hB, ← hE, ← Nat.mul_assoc] at hin
  refine ⟨n1, pow_cut U0 lo, Nat.lt_of_mul_lt_mul_right (a := 2 * B * E) (by simpa using hi), hk, whole_in N c B E x _ B0 E0 t0 t1 t2 _ hin⟩
end Go.Proofs.YtiopeaponffmdaaDoor.PAll
-- YtiopeaponffmdaaDoorGb
set_option linter.unusedVariables false
set_option linter.unusedSimpArgs false
namespace Go.Proofs.YtiopeaponffmdaaDoor.PAll
open Go.RowKit Go.Proofs.YtiopeaponffmdaaDoorW.PrintWords Go.Proofs.YtiopeaponffmdaaDoorW.PrintLast Go.Proofs.YtiopeaponffmdaaDoorW.PrintMore
open Fm

theorem text_of (N y : Nat) (n : Int) (k i : Nat) (hy : 0 < y) (hi : (i : Int) = n - (k : Int)) (hN : y * 10 ^ i = N) (hl : (dec N).length ≤ 21) : laidL (dec (cutz y)) (n + ((dec y).length : Int) - (k : Int)) = dec N := by
  have e := dec_mul_pow hy i
  rw [hN] at e
  have hlen : (dec N).length = (dec y).length + i := by rw [e]; simp
  have hc := cutz_mul_pow hy i
  rw [hN] at hc
  rw [← hc, show n + ((dec y).length : Int) - (k : Int) = ((dec N).length : Int) by omega]
  exact laid_whole N (by rw [← hN]; exact Nat.mul_pos hy (Nat.pow_pos (by decide))) hl
theorem whole_text (N g c : Nat) (hg : g ≤ 52) (h1 : 2 ^ g ≤ N) (h2 : N < 2 ^ (g + 1)) (hc : c = (1022 + g) * 2 ^ 52 + N * 2 ^ (52 - g)) (l : List Int) (hl : NumText 52 c l) : l = dec N := by
  obtain ⟨t0, t1, t2, c1⟩ := near_whole N g c hg h1 h2 hc
  obtain ⟨B, hB⟩ : ∃ B : Nat, B = 2 ^ lst 52 := ⟨_, rfl⟩
  have hB2 : (2 : Nat) ^ lst 52 = B := hB.symm
  have hl2 : lst 52 = 1074 := rfl
  rw [← hl2, hB2] at t0 t1 t2
  have N0 : 0 < N := Nat.lt_of_lt_of_le (Nat.two_pow_pos g) h1
  rcases hl with ⟨hz, _⟩ | ⟨_, n, k, y, hsh, hy, rfl⟩
  · omega
  · obtain ⟨n1, lo, hi, hk, hx⟩ := whole_shat N c B hB N0 t0 t1 t2 c1 hsh
    have hN53 : N < 10 ^ 17 := Nat.lt_of_lt_of_le h2 (Nat.le_trans (Nat.pow_le_pow_right (by decide) (show g + 1 ≤ 53 by omega)) (by decide))
    have := dec_length_le 17 N (Nat.lt_of_lt_of_le hN53 (by decide))
    exact text_of N y n k (n - (k : Int)).toNat hy (by omega) hx (by omega)
theorem whole_text53 (l : List Int) (hl : NumText 52 4845873199050653696 l) : l = dec 9007199254740992 := by
  have hs : ShAt 52 4845873199050653696 400 16 16 9007199254740992 := by
    refine ⟨by decide, by decide, by decide +kernel, by decide +kernel, by decide, by decide, ?_, by decide +kernel⟩
    have all : ∀ j : Nat, j < 16 → 1 ≤ j → refStep (T2 52 4845873199050653696 * 2 ^ 1 * 10 ^ 400) ((T2 52 (4845873199050653696 - 1) + T2 52 4845873199050653696) * 10 ^ 400) ((T2 52 4845873199050653696 + T2 52 (4845873199050653696 + 1)) * 10 ^ 400) (decide (4845873199050653696 % 2 = 0)) (Ug 52 16 400 j) = none := by decide +kernel
    exact fun j h1 h2 => all j h2 h1
  rcases hl with ⟨hz, _⟩ | ⟨_, n, k, y, hsh, hy, rfl⟩
  · omega
  · obtain ⟨rfl, rfl, rfl⟩ := hsh.unique hs
    exact text_of 9007199254740992 9007199254740992 16 16 0 hy (by decide) (by decide) (by have := dec_length_le 17 9007199254740992 (by decide); omega)
end Go.Proofs.YtiopeaponffmdaaDoor.PAll
