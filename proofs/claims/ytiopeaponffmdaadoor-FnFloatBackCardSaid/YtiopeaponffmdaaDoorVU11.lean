/- The texts of a proof, its declarations alone: part 11. -/
import Derived.Test.YtiopeaponffmdaaDoorVU6
import Derived.Test.YtiopeaponffmdaaDoorVU8
import Derived.Test.YtiopeaponffmdaaDoorVU9
import Derived.Test.YtiopeaponffmdaaDoorVU10
set_option linter.unusedVariables false
set_option linter.unusedSimpArgs false
-- YtiopeaponffmdaaDoorFd
namespace Go.Proofs.YtiopeaponffmdaaDoor.PAll
open Go.RowKit Go.Proofs.YtiopeaponffmdaaDoorW.PrintWords Go.Proofs.YtiopeaponffmdaaDoorW.PrintLast Go.Proofs.YtiopeaponffmdaaDoorW.PrintMore
attribute [local go_sem] max2_int min2_int max_two min_two max_three min_three max_four min_four
theorem run53 (x : Nat) (w : World) : (callFunc 53 #[.float .f64 x]).run Tryd.prog w = .ok (.value (.int .u64 (x : Int))) w := by kernel_rfl


/-- the buffer's numbers: nd digits of D, zeros behind -/
def bufL (D nd : Nat) : List Int := (List.range 32).map fun j => if j < nd then ((48 + D / 10 ^ (nd - 1 - j) % 10 : Nat) : Int) else 0
theorem bufL_length (D nd : Nat) : (bufL D nd).length = 32 := by simp [bufL]
theorem bufL_at (D nd j : Nat) (hj : j < 32) : (bufL D nd).getD j 0 = if j < nd then ((48 + D / 10 ^ (nd - 1 - j) % 10 : Nat) : Int) else 0 := by
  simp [bufL, List.getD_eq_getElem?_getD, hj]

theorem buf_reads (W : World) (b D nd : Nat) (c' : Array Value) (T : TypeId) (hb : W.heap[b]? = some (.cells c' T (0, 0)))
    (h1 : ∀ j, j < nd → c'[j]? = some (.int .u8 ((48 + D / 10 ^ (nd - 1 - j) % 10 : Nat) : Int))) (h2 : ∀ j, nd ≤ j → c'[j]? = (Array.replicate 32 (Value.int .u8 0))[j]?) :
    Kd.C (Kd.int .u8) W (some ⟨b, 0, none⟩) (bufL D nd).length (bufL D nd) := by
  refine Kd.C_of_reads (enc := Value.int .u8) (d := (0 : Int)) (h1 := fun _ => rfl) ?_
  refine ⟨rfl, by rw [bufL_length]; omega, fun _ => ⟨_, rfl, fun j hj => ?_⟩⟩
  rw [bufL_length] at hj
  rw [add_plain, blk_cell hb]
  rw [bufL_at D nd j hj]
  by_cases h : j < nd
  · rw [h1 j h, if_pos h]
  · rw [h2 j (by omega), if_neg h, Array.getElem?_replicate, if_pos hj]

/-- what is known of the number of digits left -/
def Left (D nd k : Nat) : Prop := 1 ≤ k ∧ k ≤ nd ∧ (∀ j, k ≤ j → j < nd → D / 10 ^ (nd - 1 - j) % 10 = 0) ∧ D / 10 ^ (nd - k) % 10 ≠ 0

def FtPost (w0 : World) (R : List Int → Prop) (e : Ending) (w' : World) : Prop :=
  ∃ (v : Value) (r : List Int), e = .returned v ∧ R r ∧ RM 5 w' w0.heap.size (fun _ => True) v r ∧ Below w0.heap.size w0 w'

/-- what stands ready at the call of fmtEFG -/
theorem efg_ready {P0_ : Nat → Prop} {v0 : Value} {l0 : List Int} {D nd : Nat} {w0 w W2 W3 : World} {c' : Array Value} (hB : Below w0.heap.size w0 w) (ho : RM 5 w w0.heap.size P0_ v0 l0)
    (b2 : Below w.heap.size w W2) (g1 : W3.heap[w.heap.size]? = some (.cells c' 82 (0, 0)))
    (g3 : ∀ j, j < nd → c'[j]? = some (.int .u8 ((48 + D / 10 ^ (nd - 1 - j) % 10 : Nat) : Int))) (g4 : ∀ j, nd ≤ j → c'[j]? = (Array.replicate 32 (Value.int .u8 0))[j]?)
    (g5 : KeepBut W2.drew W3 w.heap.size none) (g6 : ∀ B w0, B ≤ w.heap.size → Below B w0 W2.drew → Below B w0 W3) :
    Below w0.heap.size w0 W3 ∧ RM 5 W3 w0.heap.size (fun q => P0_ q ∧ q < w.heap.size) v0 l0 ∧
      (∀ W_, Kept W3 W_ (fun q => P0_ q ∧ q < w.heap.size) → Kd.C (Kd.int .u8) W_ (some ⟨w.heap.size, 0, none⟩) (bufL D nd).length (bufL D nd)) := by
  refine ⟨g6 _ _ hB.size (below_drew (below_then hB hB.size b2)), ?_, ?_⟩
  · refine RM_step (RM_mono (RM_bound ho) (fun k hk => ⟨hk.1, hk.2.2⟩)) (fun k hk _ => ?_)
    have h1 := g5.2 k (Nat.lt_of_lt_of_le hk.2 b2.size) (by have := hk.2; omega) (by simp)
    exact h1.trans (b2.block k hk.2)
  · intro W_ hk
    refine buf_reads W_ w.heap.size D nd c' 82 ?_ g3 g4
    rw [hk.2 w.heap.size (blk_lt g1) (fun h => by have := h.2; omega)]
    exact g1

set_option maxHeartbeats 3200000 in
set_option maxRecDepth 100000 in
theorem ftoa64FN (P0_ : Nat → Prop) (v0 : Value) (l0 : List Int) (R : List Int → Prop) (x ex fr M L m D nd : Nat) (E pp : Int) (sg : Bool) (w0 w : World) (hx : x < 18446744073709551616)
    (hB : Below w0.heap.size w0 w) (ho : RM 5 w w0.heap.size P0_ v0 l0)
    (hneg : ((x : Int) / 9223372036854775808 != 0) = sg) (hexp : bits .and .i64 ((x : Int) / 4503599627370496) 2047 = (ex : Int)) (hman : bits .and .u64 (x : Int) 4503599627370495 = (fr : Int))
    (hex1 : 1 ≤ ex) (hex2 : ex < 2047) (hor : bits .or .u64 (fr : Int) 4503599627370496 = (M : Int)) (hM1 : 1 ≤ M) (hM2 : M < 9007199254740992)
    (hL : Lib.bitLen M = L) (hL1 : 1 ≤ L) (hL2 : L ≤ 53) (hm : IntKind.u64.wrap ((M : Int) * 2 ^ (64 - L)) = (m : Int)) (hE : (ex : Int) + -1023 - (64 - (L : Int)) - 52 = E)
    (hSF : ∀ W, Below w.heap.size w W → Calls Tryd.prog 66 #[.int .u64 (m : Int), .int .i64 E] W fun e W' => e = .returned (.tuple #[.int .u64 (D : Int), .int .i64 pp]) ∧ Below W.heap.size W W')
    (hND : ∀ W, Below w.heap.size w W → Calls Tryd.prog 60 #[.int .u64 (D : Int)] W fun e W' => e = .returned (.int .i64 (nd : Int)) ∧ W = W')
    (hD1 : 10 ^ (nd - 1) ≤ D) (hD2 : D < 10 ^ nd) (hD3 : D < 18446744073709551616) (hnd1 : 1 ≤ nd) (hnd2 : nd ≤ 20) (hp0 : -2000 ≤ pp) (hp1 : pp ≤ 2000)
    (hF : ∀ k, Left D nd k → ∃ K r, fmtF.f K l0 sg (bufL D nd) ((nd : Int) + pp) k (mx ((k : Int) - ((nd : Int) + pp)) 0) = some r ∧ R r) :
    Calls Tryd.prog 51 #[v0, .float .f64 x, .int .u8 102, .int .i64 (-1)] w (FtPost w0 R) := by
  have f53 := run53
  have tex : ((ex : Int) == 2047) = false := by rw [beq_eq_false_iff_ne]; omega
  have te0 : ((ex : Int) == 0) = false := by rw [beq_eq_false_iff_ne]; omega
  have tm0 : ((M : Int) == 0) = false := by rw [beq_eq_false_iff_ne]; omega
  have L57 : ∀ w, Calls Tryd.prog 57 #[.int .u64 (M : Int)] w fun e w' => e = .returned (.int .i64 (L : Int)) ∧ w = w' := fun w => by
    have h := Tryd.bits_Len64 (M : Int) w (by omega) (by omega)
    rw [Int.toNat_natCast, hL] at h
    exact h.mono fun _ _ h => ⟨h.1, h.2.symm⟩
  have H57 := Lib.hid L57; have HSF := Lib.hid hSF; have HND := Lib.hid hND; have HF := Lib.hid hF; have HO := Lib.hid ho; have HB := Lib.hid hB
  have HD1 := Lib.hid hD1; have HD2 := Lib.hid hD2
  clear L57 hL hSF hND hF ho hB hD1 hD2
  go_enter Tryd.func51, Tryd.ntmps51
  go_wp2_with (fail)
  go_quiet (fail)
  go_wp2_with (fail)
  have hb1 : ((w.drewN nq).alloc (.cells #[Value.int IntKind.u8 0, Value.int IntKind.u8 0, Value.int IntKind.u8 0, Value.int IntKind.u8 0, Value.int IntKind.u8 0, Value.int IntKind.u8 0, Value.int IntKind.u8 0, Value.int IntKind.u8 0, Value.int IntKind.u8 0, Value.int IntKind.u8 0, Value.int IntKind.u8 0, Value.int IntKind.u8 0, Value.int IntKind.u8 0, Value.int IntKind.u8 0, Value.int IntKind.u8 0, Value.int IntKind.u8 0, Value.int IntKind.u8 0, Value.int IntKind.u8 0, Value.int IntKind.u8 0, Value.int IntKind.u8 0, Value.int IntKind.u8 0, Value.int IntKind.u8 0, Value.int IntKind.u8 0, Value.int IntKind.u8 0, Value.int IntKind.u8 0, Value.int IntKind.u8 0, Value.int IntKind.u8 0, Value.int IntKind.u8 0, Value.int IntKind.u8 0, Value.int IntKind.u8 0, Value.int IntKind.u8 0, Value.int IntKind.u8 0] 82)).heap[w.heap.size]? = some (.cells (Array.replicate 32 (.int .u8 0)) 82 (0, 0)) := blk_new _ _
  have hB1 : Below w.heap.size w ((w.drewN nq).alloc (.cells #[Value.int IntKind.u8 0, Value.int IntKind.u8 0, Value.int IntKind.u8 0, Value.int IntKind.u8 0, Value.int IntKind.u8 0, Value.int IntKind.u8 0, Value.int IntKind.u8 0, Value.int IntKind.u8 0, Value.int IntKind.u8 0, Value.int IntKind.u8 0, Value.int IntKind.u8 0, Value.int IntKind.u8 0, Value.int IntKind.u8 0, Value.int IntKind.u8 0, Value.int IntKind.u8 0, Value.int IntKind.u8 0, Value.int IntKind.u8 0, Value.int IntKind.u8 0, Value.int IntKind.u8 0, Value.int IntKind.u8 0, Value.int IntKind.u8 0, Value.int IntKind.u8 0, Value.int IntKind.u8 0, Value.int IntKind.u8 0, Value.int IntKind.u8 0, Value.int IntKind.u8 0, Value.int IntKind.u8 0, Value.int IntKind.u8 0, Value.int IntKind.u8 0, Value.int IntKind.u8 0, Value.int IntKind.u8 0, Value.int IntKind.u8 0] 82)) := below_alloc (pw_below_drewN (Below.refl _ _) _) _
  generalize ((w.drewN nq).alloc _) = W1 at hb1 hB1 ⊢
  have HA1 := Lib.hid hb1
  have HB1 := Lib.hid hB1
  clear hb1 hB1
  refine (H57.out _).mono ?_
  rintro e w' ⟨rfl, rfl⟩
  go_wp2_with (fail)
  refine (HSF.out _ ?hb1).mono ?_
  case hb1 => exact HB1.out
  rintro e W2 ⟨rfl, hB2⟩
  have HB2 := Lib.hid hB2
  clear hB2
  go_wp2_with (fail)
  have bW2 := Lib.hid (below_then HB1.out HB1.out.size HB2.out)
  have cW2 := Lib.hid (blk_below HA1.out HB2.out)
  have cD := Lib.hid (show W2.drew.heap[w.heap.size]? = some (.cells (Array.replicate 32 (.int .u8 0)) 82 (0, 0)) from cW2.out)
  have HSD := Lib.hid (setDigits_calls w.heap.size D nd pp (Array.replicate 32 (.int .u8 0)) 82 W2.drew cD.out (fun j hj => by rw [Array.getElem?_replicate, if_pos (by omega)]) HD2.out HD1.out hnd1 hnd2 hD3 hp0 hp1)
  go_region_with (first | (go_at_call 60; refine (HND.out _ (below_drew bW2.out)).mono ?_; rintro e w' ⟨rfl, rfl⟩) | (go_at_call 59; refine HSD.out.mono ?_; intro e W3 hpost; obtain ⟨k, rfl, k1, k2, k3, k4, c', d1, d2, d3, d4, d5, d6⟩ := hpost; have HK := Lib.hid (show Left D nd k from ⟨k1, k2, k3, k4⟩); have G1 := Lib.hid d1; have G3 := Lib.hid d3; have G4 := Lib.hid d4; have G5 := Lib.hid d5; have G6 := Lib.hid d6; clear k3 k4 d1 d2 d3 d4 d5 d6))
  obtain ⟨K, r, hr, hR⟩ := HF.out k HK.out
  have HR' := Lib.hid hR
  have HR := Lib.hid hr
  clear hr hR
  have RDY := Lib.hid (efg_ready HB.out HO.out bW2.out G1.out G3.out G4.out G5.out G6.out)
  go_wp2_with (fail)
  · have hr := HR.out
    rw [show mx ((k : Int) - ((nd : Int) + pp)) 0 = 0 by unfold mx; split <;> omega] at hr
    have C := fmtF.calls K (fun q => P0_ q ∧ q < w.heap.size) v0 l0 sg (some ⟨w.heap.size, 0, none⟩) 32 (bufL D nd) ((nd : Int) + pp) (k : Int) (0) true r w0 W3 RDY.out.1 RDY.out.2.1 RDY.out.2.2 (by rw [bufL_length]; omega) hr
    rw [bufL_length] at C
    refine C.mono ?_
    rintro e w' ⟨v, rfl, q1, q2, q3⟩
    clear C hr
    go_wp2
    go_ret
    exact ⟨v, r, rfl, HR'.out, RM_mono q1 (fun _ _ => trivial), q2⟩
  · have hr := HR.out
    rw [show mx ((k : Int) - ((nd : Int) + pp)) 0 = (k : Int) - ((nd : Int) + pp) by unfold mx; split <;> omega] at hr
    have C := fmtF.calls K (fun q => P0_ q ∧ q < w.heap.size) v0 l0 sg (some ⟨w.heap.size, 0, none⟩) 32 (bufL D nd) ((nd : Int) + pp) (k : Int) ((k : Int) - ((nd : Int) + pp)) true r w0 W3 RDY.out.1 RDY.out.2.1 RDY.out.2.2 (by rw [bufL_length]; omega) hr
    rw [bufL_length] at C
    refine C.mono ?_
    rintro e w' ⟨v, rfl, q1, q2, q3⟩
    clear C hr
    go_wp2
    go_ret
    exact ⟨v, r, rfl, HR'.out, RM_mono q1 (fun _ _ => trivial), q2⟩

set_option maxHeartbeats 3200000 in
set_option maxRecDepth 100000 in
theorem ftoa64FS (P0_ : Nat → Prop) (v0 : Value) (l0 : List Int) (R : List Int → Prop) (x M L m D nd : Nat) (E pp : Int) (sg : Bool) (w0 w : World) (hx : x < 18446744073709551616)
    (hB : Below w0.heap.size w0 w) (ho : RM 5 w w0.heap.size P0_ v0 l0)
    (hneg : ((x : Int) / 9223372036854775808 != 0) = sg) (hexp : bits .and .i64 ((x : Int) / 4503599627370496) 2047 = 0) (hman : bits .and .u64 (x : Int) 4503599627370495 = (M : Int))
    (hM1 : 1 ≤ M) (hM2 : M < 9007199254740992)
    (hL : Lib.bitLen M = L) (hL1 : 1 ≤ L) (hL2 : L ≤ 53) (hm : IntKind.u64.wrap ((M : Int) * 2 ^ (64 - L)) = (m : Int)) (hE : (-1022 : Int) - (64 - (L : Int)) - 52 = E)
    (hSF : ∀ W, Below w.heap.size w W → Calls Tryd.prog 66 #[.int .u64 (m : Int), .int .i64 E] W fun e W' => e = .returned (.tuple #[.int .u64 (D : Int), .int .i64 pp]) ∧ Below W.heap.size W W')
    (hND : ∀ W, Below w.heap.size w W → Calls Tryd.prog 60 #[.int .u64 (D : Int)] W fun e W' => e = .returned (.int .i64 (nd : Int)) ∧ W = W')
    (hD1 : 10 ^ (nd - 1) ≤ D) (hD2 : D < 10 ^ nd) (hD3 : D < 18446744073709551616) (hnd1 : 1 ≤ nd) (hnd2 : nd ≤ 20) (hp0 : -2000 ≤ pp) (hp1 : pp ≤ 2000)
    (hF : ∀ k, Left D nd k → ∃ K r, fmtF.f K l0 sg (bufL D nd) ((nd : Int) + pp) k (mx ((k : Int) - ((nd : Int) + pp)) 0) = some r ∧ R r) :
    Calls Tryd.prog 51 #[v0, .float .f64 x, .int .u8 102, .int .i64 (-1)] w (FtPost w0 R) := by
  have f53 := run53
  have tm0 : ((M : Int) == 0) = false := by rw [beq_eq_false_iff_ne]; omega
  have L57 : ∀ w, Calls Tryd.prog 57 #[.int .u64 (M : Int)] w fun e w' => e = .returned (.int .i64 (L : Int)) ∧ w = w' := fun w => by
    have h := Tryd.bits_Len64 (M : Int) w (by omega) (by omega)
    rw [Int.toNat_natCast, hL] at h
    exact h.mono fun _ _ h => ⟨h.1, h.2.symm⟩
  have H57 := Lib.hid L57; have HSF := Lib.hid hSF; have HND := Lib.hid hND; have HF := Lib.hid hF; have HO := Lib.hid ho; have HB := Lib.hid hB
  have HD1 := Lib.hid hD1; have HD2 := Lib.hid hD2
  clear L57 hL hSF hND hF ho hB hD1 hD2
  go_enter Tryd.func51, Tryd.ntmps51
  go_wp2_with (fail)
  go_quiet (fail)
  go_wp2_with (fail)
  have hb1 : ((w.drewN nq).alloc (.cells #[Value.int IntKind.u8 0, Value.int IntKind.u8 0, Value.int IntKind.u8 0, Value.int IntKind.u8 0, Value.int IntKind.u8 0, Value.int IntKind.u8 0, Value.int IntKind.u8 0, Value.int IntKind.u8 0, Value.int IntKind.u8 0, Value.int IntKind.u8 0, Value.int IntKind.u8 0, Value.int IntKind.u8 0, Value.int IntKind.u8 0, Value.int IntKind.u8 0, Value.int IntKind.u8 0, Value.int IntKind.u8 0, Value.int IntKind.u8 0, Value.int IntKind.u8 0, Value.int IntKind.u8 0, Value.int IntKind.u8 0, Value.int IntKind.u8 0, Value.int IntKind.u8 0, Value.int IntKind.u8 0, Value.int IntKind.u8 0, Value.int IntKind.u8 0, Value.int IntKind.u8 0, Value.int IntKind.u8 0, Value.int IntKind.u8 0, Value.int IntKind.u8 0, Value.int IntKind.u8 0, Value.int IntKind.u8 0, Value.int IntKind.u8 0] 82)).heap[w.heap.size]? = some (.cells (Array.replicate 32 (.int .u8 0)) 82 (0, 0)) := blk_new _ _
  have hB1 : Below w.heap.size w ((w.drewN nq).alloc (.cells #[Value.int IntKind.u8 0, Value.int IntKind.u8 0, Value.int IntKind.u8 0, Value.int IntKind.u8 0, Value.int IntKind.u8 0, Value.int IntKind.u8 0, Value.int IntKind.u8 0, Value.int IntKind.u8 0, Value.int IntKind.u8 0, Value.int IntKind.u8 0, Value.int IntKind.u8 0, Value.int IntKind.u8 0, Value.int IntKind.u8 0, Value.int IntKind.u8 0, Value.int IntKind.u8 0, Value.int IntKind.u8 0, Value.int IntKind.u8 0, Value.int IntKind.u8 0, Value.int IntKind.u8 0, Value.int IntKind.u8 0, Value.int IntKind.u8 0, Value.int IntKind.u8 0, Value.int IntKind.u8 0, Value.int IntKind.u8 0, Value.int IntKind.u8 0, Value.int IntKind.u8 0, Value.int IntKind.u8 0, Value.int IntKind.u8 0, Value.int IntKind.u8 0, Value.int IntKind.u8 0, Value.int IntKind.u8 0, Value.int IntKind.u8 0] 82)) := below_alloc (pw_below_drewN (Below.refl _ _) _) _
  generalize ((w.drewN nq).alloc _) = W1 at hb1 hB1 ⊢
  have HA1 := Lib.hid hb1
  have HB1 := Lib.hid hB1
  clear hb1 hB1
  refine (H57.out _).mono ?_
  rintro e w' ⟨rfl, rfl⟩
  go_wp2_with (fail)
  refine (HSF.out _ ?hb1).mono ?_
  case hb1 => exact HB1.out
  rintro e W2 ⟨rfl, hB2⟩
  have HB2 := Lib.hid hB2
  clear hB2
  go_wp2_with (fail)
  have bW2 := Lib.hid (below_then HB1.out HB1.out.size HB2.out)
  have cW2 := Lib.hid (blk_below HA1.out HB2.out)
  have cD := Lib.hid (show W2.drew.heap[w.heap.size]? = some (.cells (Array.replicate 32 (.int .u8 0)) 82 (0, 0)) from cW2.out)
  have HSD := Lib.hid (setDigits_calls w.heap.size D nd pp (Array.replicate 32 (.int .u8 0)) 82 W2.drew cD.out (fun j hj => by rw [Array.getElem?_replicate, if_pos (by omega)]) HD2.out HD1.out hnd1 hnd2 hD3 hp0 hp1)
  go_region_with (first | (go_at_call 60; refine (HND.out _ (below_drew bW2.out)).mono ?_; rintro e w' ⟨rfl, rfl⟩) | (go_at_call 59; refine HSD.out.mono ?_; intro e W3 hpost; obtain ⟨k, rfl, k1, k2, k3, k4, c', d1, d2, d3, d4, d5, d6⟩ := hpost; have HK := Lib.hid (show Left D nd k from ⟨k1, k2, k3, k4⟩); have G1 := Lib.hid d1; have G3 := Lib.hid d3; have G4 := Lib.hid d4; have G5 := Lib.hid d5; have G6 := Lib.hid d6; clear k3 k4 d1 d2 d3 d4 d5 d6))
  obtain ⟨K, r, hr, hR⟩ := HF.out k HK.out
  have HR' := Lib.hid hR
  have HR := Lib.hid hr
  clear hr hR
  have RDY := Lib.hid (efg_ready HB.out HO.out bW2.out G1.out G3.out G4.out G5.out G6.out)
  go_wp2_with (fail)
  · have hr := HR.out
    rw [show mx ((k : Int) - ((nd : Int) + pp)) 0 = 0 by unfold mx; split <;> omega] at hr
    have C := fmtF.calls K (fun q => P0_ q ∧ q < w.heap.size) v0 l0 sg (some ⟨w.heap.size, 0, none⟩) 32 (bufL D nd) ((nd : Int) + pp) (k : Int) (0) true r w0 W3 RDY.out.1 RDY.out.2.1 RDY.out.2.2 (by rw [bufL_length]; omega) hr
    rw [bufL_length] at C
    refine C.mono ?_
    rintro e w' ⟨v, rfl, q1, q2, q3⟩
    clear C hr
    go_wp2
    go_ret
    exact ⟨v, r, rfl, HR'.out, RM_mono q1 (fun _ _ => trivial), q2⟩
  · have hr := HR.out
    rw [show mx ((k : Int) - ((nd : Int) + pp)) 0 = (k : Int) - ((nd : Int) + pp) by unfold mx; split <;> omega] at hr
    have C := fmtF.calls K (fun q => P0_ q ∧ q < w.heap.size) v0 l0 sg (some ⟨w.heap.size, 0, none⟩) 32 (bufL D nd) ((nd : Int) + pp) (k : Int) ((k : Int) - ((nd : Int) + pp)) true r w0 W3 RDY.out.1 RDY.out.2.1 RDY.out.2.2 (by rw [bufL_length]; omega) hr
    rw [bufL_length] at C
    refine C.mono ?_
    rintro e w' ⟨v, rfl, q1, q2, q3⟩
    clear C hr
    go_wp2
    go_ret
    exact ⟨v, r, rfl, HR'.out, RM_mono q1 (fun _ _ => trivial), q2⟩

set_option maxHeartbeats 3200000 in
set_option maxRecDepth 100000 in
theorem ftoa64EN (P0_ : Nat → Prop) (v0 : Value) (l0 : List Int) (R : List Int → Prop) (x ex fr M L m D nd : Nat) (E pp : Int) (sg : Bool) (w0 w : World) (hx : x < 18446744073709551616)
    (hB : Below w0.heap.size w0 w) (ho : RM 5 w w0.heap.size P0_ v0 l0)
    (hneg : ((x : Int) / 9223372036854775808 != 0) = sg) (hexp : bits .and .i64 ((x : Int) / 4503599627370496) 2047 = (ex : Int)) (hman : bits .and .u64 (x : Int) 4503599627370495 = (fr : Int))
    (hex1 : 1 ≤ ex) (hex2 : ex < 2047) (hor : bits .or .u64 (fr : Int) 4503599627370496 = (M : Int)) (hM1 : 1 ≤ M) (hM2 : M < 9007199254740992)
    (hL : Lib.bitLen M = L) (hL1 : 1 ≤ L) (hL2 : L ≤ 53) (hm : IntKind.u64.wrap ((M : Int) * 2 ^ (64 - L)) = (m : Int)) (hE : (ex : Int) + -1023 - (64 - (L : Int)) - 52 = E)
    (hSF : ∀ W, Below w.heap.size w W → Calls Tryd.prog 66 #[.int .u64 (m : Int), .int .i64 E] W fun e W' => e = .returned (.tuple #[.int .u64 (D : Int), .int .i64 pp]) ∧ Below W.heap.size W W')
    (hND : ∀ W, Below w.heap.size w W → Calls Tryd.prog 60 #[.int .u64 (D : Int)] W fun e W' => e = .returned (.int .i64 (nd : Int)) ∧ W = W')
    (hD1 : 10 ^ (nd - 1) ≤ D) (hD2 : D < 10 ^ nd) (hD3 : D < 18446744073709551616) (hnd1 : 1 ≤ nd) (hnd2 : nd ≤ 20) (hp0 : -2000 ≤ pp) (hp1 : pp ≤ 2000)
    (hF : ∀ k, Left D nd k → ∃ K r, fmtE.f K l0 sg (bufL D nd) ((nd : Int) + pp) k ((k : Int) - 1) = some r ∧ R r) :
    Calls Tryd.prog 51 #[v0, .float .f64 x, .int .u8 101, .int .i64 (-1)] w (FtPost w0 R) := by
  have f53 := run53
  have tex : ((ex : Int) == 2047) = false := by rw [beq_eq_false_iff_ne]; omega
  have te0 : ((ex : Int) == 0) = false := by rw [beq_eq_false_iff_ne]; omega
  have tm0 : ((M : Int) == 0) = false := by rw [beq_eq_false_iff_ne]; omega
  have L57 : ∀ w, Calls Tryd.prog 57 #[.int .u64 (M : Int)] w fun e w' => e = .returned (.int .i64 (L : Int)) ∧ w = w' := fun w => by
    have h := Tryd.bits_Len64 (M : Int) w (by omega) (by omega)
    rw [Int.toNat_natCast, hL] at h
    exact h.mono fun _ _ h => ⟨h.1, h.2.symm⟩
  have H57 := Lib.hid L57; have HSF := Lib.hid hSF; have HND := Lib.hid hND; have HF := Lib.hid hF; have HO := Lib.hid ho; have HB := Lib.hid hB
  have HD1 := Lib.hid hD1; have HD2 := Lib.hid hD2
  clear L57 hL hSF hND hF ho hB hD1 hD2
  go_enter Tryd.func51, Tryd.ntmps51
  go_wp2_with (fail)
  go_quiet (fail)
  go_wp2_with (fail)
  have hb1 : ((w.drewN nq).alloc (.cells #[Value.int IntKind.u8 0, Value.int IntKind.u8 0, Value.int IntKind.u8 0, Value.int IntKind.u8 0, Value.int IntKind.u8 0, Value.int IntKind.u8 0, Value.int IntKind.u8 0, Value.int IntKind.u8 0, Value.int IntKind.u8 0, Value.int IntKind.u8 0, Value.int IntKind.u8 0, Value.int IntKind.u8 0, Value.int IntKind.u8 0, Value.int IntKind.u8 0, Value.int IntKind.u8 0, Value.int IntKind.u8 0, Value.int IntKind.u8 0, Value.int IntKind.u8 0, Value.int IntKind.u8 0, Value.int IntKind.u8 0, Value.int IntKind.u8 0, Value.int IntKind.u8 0, Value.int IntKind.u8 0, Value.int IntKind.u8 0, Value.int IntKind.u8 0, Value.int IntKind.u8 0, Value.int IntKind.u8 0, Value.int IntKind.u8 0, Value.int IntKind.u8 0, Value.int IntKind.u8 0, Value.int IntKind.u8 0, Value.int IntKind.u8 0] 82)).heap[w.heap.size]? = some (.cells (Array.replicate 32 (.int .u8 0)) 82 (0, 0)) := blk_new _ _
  have hB1 : Below w.heap.size w ((w.drewN nq).alloc (.cells #[Value.int IntKind.u8 0, Value.int IntKind.u8 0, Value.int IntKind.u8 0, Value.int IntKind.u8 0, Value.int IntKind.u8 0, Value.int IntKind.u8 0, Value.int IntKind.u8 0, Value.int IntKind.u8 0, Value.int IntKind.u8 0, Value.int IntKind.u8 0, Value.int IntKind.u8 0, Value.int IntKind.u8 0, Value.int IntKind.u8 0, Value.int IntKind.u8 0, Value.int IntKind.u8 0, Value.int IntKind.u8 0, Value.int IntKind.u8 0, Value.int IntKind.u8 0, Value.int IntKind.u8 0, Value.int IntKind.u8 0, Value.int IntKind.u8 0, Value.int IntKind.u8 0, Value.int IntKind.u8 0, Value.int IntKind.u8 0, Value.int IntKind.u8 0, Value.int IntKind.u8 0, Value.int IntKind.u8 0, Value.int IntKind.u8 0, Value.int IntKind.u8 0, Value.int IntKind.u8 0, Value.int IntKind.u8 0, Value.int IntKind.u8 0] 82)) := below_alloc (pw_below_drewN (Below.refl _ _) _) _
  generalize ((w.drewN nq).alloc _) = W1 at hb1 hB1 ⊢
  have HA1 := Lib.hid hb1
  have HB1 := Lib.hid hB1
  clear hb1 hB1
  refine (H57.out _).mono ?_
  rintro e w' ⟨rfl, rfl⟩
  go_wp2_with (fail)
  refine (HSF.out _ ?hb1).mono ?_
  case hb1 => exact HB1.out
  rintro e W2 ⟨rfl, hB2⟩
  have HB2 := Lib.hid hB2
  clear hB2
  go_wp2_with (fail)
  have bW2 := Lib.hid (below_then HB1.out HB1.out.size HB2.out)
  have cW2 := Lib.hid (blk_below HA1.out HB2.out)
  have cD := Lib.hid (show W2.drew.heap[w.heap.size]? = some (.cells (Array.replicate 32 (.int .u8 0)) 82 (0, 0)) from cW2.out)
  have HSD := Lib.hid (setDigits_calls w.heap.size D nd pp (Array.replicate 32 (.int .u8 0)) 82 W2.drew cD.out (fun j hj => by rw [Array.getElem?_replicate, if_pos (by omega)]) HD2.out HD1.out hnd1 hnd2 hD3 hp0 hp1)
  go_region_with (first | (go_at_call 60; refine (HND.out _ (below_drew bW2.out)).mono ?_; rintro e w' ⟨rfl, rfl⟩) | (go_at_call 59; refine HSD.out.mono ?_; intro e W3 hpost; obtain ⟨k, rfl, k1, k2, k3, k4, c', d1, d2, d3, d4, d5, d6⟩ := hpost; have HK := Lib.hid (show Left D nd k from ⟨k1, k2, k3, k4⟩); have G1 := Lib.hid d1; have G3 := Lib.hid d3; have G4 := Lib.hid d4; have G5 := Lib.hid d5; have G6 := Lib.hid d6; clear k3 k4 d1 d2 d3 d4 d5 d6))
  obtain ⟨K, r, hr, hR⟩ := HF.out k HK.out
  have HR' := Lib.hid hR
  have HR := Lib.hid hr
  clear hr hR
  have RDY := Lib.hid (efg_ready HB.out HO.out bW2.out G1.out G3.out G4.out G5.out G6.out)
  go_wp2_with (fail)
  · have hr := HR.out
    have C := fmtE.calls K (fun q => P0_ q ∧ q < w.heap.size) v0 l0 sg (some ⟨w.heap.size, 0, none⟩) 32 (bufL D nd) ((nd : Int) + pp) (k : Int) ((k : Int) - 1) true r w0 W3 RDY.out.1 RDY.out.2.1 RDY.out.2.2 (by rw [bufL_length]; omega) hr
    rw [bufL_length] at C
    refine C.mono ?_
    rintro e w' ⟨v, rfl, q1, q2, q3⟩
    clear C hr
    go_wp2
    go_ret
    exact ⟨v, r, rfl, HR'.out, RM_mono q1 (fun _ _ => trivial), q2⟩

set_option maxHeartbeats 3200000 in
set_option maxRecDepth 100000 in
theorem ftoa64ES (P0_ : Nat → Prop) (v0 : Value) (l0 : List Int) (R : List Int → Prop) (x M L m D nd : Nat) (E pp : Int) (sg : Bool) (w0 w : World) (hx : x < 18446744073709551616)
    (hB : Below w0.heap.size w0 w) (ho : RM 5 w w0.heap.size P0_ v0 l0)
    (hneg : ((x : Int) / 9223372036854775808 != 0) = sg) (hexp : bits .and .i64 ((x : Int) / 4503599627370496) 2047 = 0) (hman : bits .and .u64 (x : Int) 4503599627370495 = (M : Int))
    (hM1 : 1 ≤ M) (hM2 : M < 9007199254740992)
    (hL : Lib.bitLen M = L) (hL1 : 1 ≤ L) (hL2 : L ≤ 53) (hm : IntKind.u64.wrap ((M : Int) * 2 ^ (64 - L)) = (m : Int)) (hE : (-1022 : Int) - (64 - (L : Int)) - 52 = E)
    (hSF : ∀ W, Below w.heap.size w W → Calls Tryd.prog 66 #[.int .u64 (m : Int), .int .i64 E] W fun e W' => e = .returned (.tuple #[.int .u64 (D : Int), .int .i64 pp]) ∧ Below W.heap.size W W')
    (hND : ∀ W, Below w.heap.size w W → Calls Tryd.prog 60 #[.int .u64 (D : Int)] W fun e W' => e = .returned (.int .i64 (nd : Int)) ∧ W = W')
    (hD1 : 10 ^ (nd - 1) ≤ D) (hD2 : D < 10 ^ nd) (hD3 : D < 18446744073709551616) (hnd1 : 1 ≤ nd) (hnd2 : nd ≤ 20) (hp0 : -2000 ≤ pp) (hp1 : pp ≤ 2000)
    (hF : ∀ k, Left D nd k → ∃ K r, fmtE.f K l0 sg (bufL D nd) ((nd : Int) + pp) k ((k : Int) - 1) = some r ∧ R r) :
    Calls Tryd.prog 51 #[v0, .float .f64 x, .int .u8 101, .int .i64 (-1)] w (FtPost w0 R) := by
  have f53 := run53
  have tm0 : ((M : Int) == 0) = false := by rw [beq_eq_false_iff_ne]; omega
  have L57 : ∀ w, Calls Tryd.prog 57 #[.int .u64 (M : Int)] w fun e w' => e = .returned (.int .i64 (L : Int)) ∧ w = w' := fun w => by
    have h := Tryd.bits_Len64 (M : Int) w (by omega) (by omega)
    rw [Int.toNat_natCast, hL] at h
    exact h.mono fun _ _ h => ⟨h.1, h.2.symm⟩
  have H57 := Lib.hid L57; have HSF := Lib.hid hSF; have HND := Lib.hid hND; have HF := Lib.hid hF; have HO := Lib.hid ho; have HB := Lib.hid hB
  have HD1 := Lib.hid hD1; have HD2 := Lib.hid hD2
  clear L57 hL hSF hND hF ho hB hD1 hD2
  go_enter Tryd.func51, Tryd.ntmps51
  go_wp2_with (fail)
  go_quiet (fail)
  go_wp2_with (fail)
  have hb1 : ((w.drewN nq).alloc (.cells #[Value.int IntKind.u8 0, Value.int IntKind.u8 0, Value.int IntKind.u8 0, Value.int IntKind.u8 0, Value.int IntKind.u8 0, Value.int IntKind.u8 0, Value.int IntKind.u8 0, Value.int IntKind.u8 0, Value.int IntKind.u8 0, Value.int IntKind.u8 0, Value.int IntKind.u8 0, Value.int IntKind.u8 0, Value.int IntKind.u8 0, Value.int IntKind.u8 0, Value.int IntKind.u8 0, Value.int IntKind.u8 0, Value.int IntKind.u8 0, Value.int IntKind.u8 0, Value.int IntKind.u8 0, Value.int IntKind.u8 0, Value.int IntKind.u8 0, Value.int IntKind.u8 0, Value.int IntKind.u8 0, Value.int IntKind.u8 0, Value.int IntKind.u8 0, Value.int IntKind.u8 0, Value.int IntKind.u8 0, Value.int IntKind.u8 0, Value.int IntKind.u8 0, Value.int IntKind.u8 0, Value.int IntKind.u8 0, Value.int IntKind.u8 0] 82)).heap[w.heap.size]? = some (.cells (Array.replicate 32 (.int .u8 0)) 82 (0, 0)) := blk_new _ _
  have hB1 : Below w.heap.size w ((w.drewN nq).alloc (.cells #[Value.int IntKind.u8 0, Value.int IntKind.u8 0, Value.int IntKind.u8 0, Value.int IntKind.u8 0, Value.int IntKind.u8 0, Value.int IntKind.u8 0, Value.int IntKind.u8 0, Value.int IntKind.u8 0, Value.int IntKind.u8 0, Value.int IntKind.u8 0, Value.int IntKind.u8 0, Value.int IntKind.u8 0, Value.int IntKind.u8 0, Value.int IntKind.u8 0, Value.int IntKind.u8 0, Value.int IntKind.u8 0, Value.int IntKind.u8 0, Value.int IntKind.u8 0, Value.int IntKind.u8 0, Value.int IntKind.u8 0, Value.int IntKind.u8 0, Value.int IntKind.u8 0, Value.int IntKind.u8 0, Value.int IntKind.u8 0, Value.int IntKind.u8 0, Value.int IntKind.u8 0, Value.int IntKind.u8 0, Value.int IntKind.u8 0, Value.int IntKind.u8 0, Value.int IntKind.u8 0, Value.int IntKind.u8 0, Value.int IntKind.u8 0] 82)) := below_alloc (pw_below_drewN (Below.refl _ _) _) _
  generalize ((w.drewN nq).alloc _) = W1 at hb1 hB1 ⊢
  have HA1 := Lib.hid hb1
  have HB1 := Lib.hid hB1
  clear hb1 hB1
  refine (H57.out _).mono ?_
  rintro e w' ⟨rfl, rfl⟩
  go_wp2_with (fail)
  refine (HSF.out _ ?hb1).mono ?_
  case hb1 => exact HB1.out
  rintro e W2 ⟨rfl, hB2⟩
  have HB2 := Lib.hid hB2
  clear hB2
  go_wp2_with (fail)
  have bW2 := Lib.hid (below_then HB1.out HB1.out.size HB2.out)
  have cW2 := Lib.hid (blk_below HA1.out HB2.out)
  have cD := Lib.hid (show W2.drew.heap[w.heap.size]? = some (.cells (Array.replicate 32 (.int .u8 0)) 82 (0, 0)) from cW2.out)
  have HSD := Lib.hid (setDigits_calls w.heap.size D nd pp (Array.replicate 32 (.int .u8 0)) 82 W2.drew cD.out (fun j hj => by rw [Array.getElem?_replicate, if_pos (by omega)]) HD2.out HD1.out hnd1 hnd2 hD3 hp0 hp1)
  go_region_with (first | (go_at_call 60; refine (HND.out _ (below_drew bW2.out)).mono ?_; rintro e w' ⟨rfl, rfl⟩) | (go_at_call 59; refine HSD.out.mono ?_; intro e W3 hpost; obtain ⟨k, rfl, k1, k2, k3, k4, c', d1, d2, d3, d4, d5, d6⟩ := hpost; have HK := Lib.hid (show Left D nd k from ⟨k1, k2, k3, k4⟩); have G1 := Lib.hid d1; have G3 := Lib.hid d3; have G4 := Lib.hid d4; have G5 := Lib.hid d5; have G6 := Lib.hid d6; clear k3 k4 d1 d2 d3 d4 d5 d6))
  obtain ⟨K, r, hr, hR⟩ := HF.out k HK.out
  have HR' := Lib.hid hR
  have HR := Lib.hid hr
  clear hr hR
  have RDY := Lib.hid (efg_ready HB.out HO.out bW2.out G1.out G3.out G4.out G5.out G6.out)
  go_wp2_with (fail)
  · have hr := HR.out
    have C := fmtE.calls K (fun q => P0_ q ∧ q < w.heap.size) v0 l0 sg (some ⟨w.heap.size, 0, none⟩) 32 (bufL D nd) ((nd : Int) + pp) (k : Int) ((k : Int) - 1) true r w0 W3 RDY.out.1 RDY.out.2.1 RDY.out.2.2 (by rw [bufL_length]; omega) hr
    rw [bufL_length] at C
    refine C.mono ?_
    rintro e w' ⟨v, rfl, q1, q2, q3⟩
    clear C hr
    go_wp2
    go_ret
    exact ⟨v, r, rfl, HR'.out, RM_mono q1 (fun _ _ => trivial), q2⟩
end Go.Proofs.YtiopeaponffmdaaDoor.PAll
-- YtiopeaponffmdaaDoorMj
namespace Go.Proofs.YtiopeaponffmdaaDoor.PAll
open Go.RowKit Go.Proofs.YtiopeaponffmdaaDoorW.PrintWords Go.Proofs.YtiopeaponffmdaaDoorW.PrintLast Go.Proofs.YtiopeaponffmdaaDoorW.PrintMore
open Fm

theorem dec_eq_map (D : Nat) : dec D = (List.range (dec D).length).map fun j => ((48 + D / 10 ^ ((dec D).length - 1 - j) % 10 : Nat) : Int) := by
  induction D using Nat.strongRecOn with
  | ind D ih =>
    by_cases h : D < 10
    · rw [dec_lt h]
      simp only [List.length_cons, List.length_nil, List.range_succ, List.range_zero, List.nil_append, List.map_cons, List.map_nil]
      rw [show 0 + 1 - 1 - 0 = 0 by decide, Nat.pow_zero, Nat.div_one, Nat.mod_eq_of_lt h]
    · have e := ih (D / 10) (by omega)
      have hl : (dec D).length = (dec (D / 10)).length + 1 := by rw [dec_ge (n := D) (by omega)]; simp
      rw [hl, List.range_succ, List.map_append, dec_ge (n := D) (by omega)]
      congr 1
      · conv => lhs; rw [e]
        refine List.map_congr_left fun j hj => ?_
        have hj' := List.mem_range.1 hj
        rw [show (dec (D / 10)).length + 1 - 1 - j = (dec (D / 10)).length - 1 - j + 1 by omega, Nat.pow_succ, Nat.mul_comm, ← Nat.div_div_eq_div_mul]
      · simp only [List.map_cons, List.map_nil]
        rw [show (dec (D / 10)).length + 1 - 1 - (dec (D / 10)).length = 0 by omega, Nat.pow_zero, Nat.div_one]

theorem dec_div_len (D : Nat) : ∀ m, m < (dec D).length → (dec (D / 10 ^ m)).length = (dec D).length - m := by
  intro m
  induction m with
  | zero => intro _; rw [Nat.pow_zero, Nat.div_one]; rfl
  | succ m ih =>
    intro hm
    have h := ih (by omega)
    have h10 : 10 ≤ D / 10 ^ m := by
      refine Nat.not_lt.1 fun hlt => ?_
      rw [dec_lt hlt] at h
      simp only [List.length_cons, List.length_nil] at h
      omega
    rw [Nat.pow_succ, ← Nat.div_div_eq_div_mul]
    rw [dec_ge h10, List.length_append] at h
    simp only [List.length_cons, List.length_nil] at h
    omega

theorem cutz_div : ∀ (m D : Nat), (∀ i, i < m → D / 10 ^ i % 10 = 0) → D / 10 ^ m % 10 ≠ 0 → cutz D = D / 10 ^ m := by
  intro m
  induction m with
  | zero =>
    intro D _ h
    rw [Nat.pow_zero, Nat.div_one] at h ⊢
    exact cutz_neg (by omega)
  | succ m ih =>
    intro D h0 h
    have z := h0 0 (by omega)
    rw [Nat.pow_zero, Nat.div_one] at z
    rw [Nat.pow_succ, Nat.mul_comm, ← Nat.div_div_eq_div_mul] at h ⊢
    have h10 : 10 ≤ D := by
      refine Nat.not_lt.1 fun hlt => h ?_
      rw [show D / 10 = 0 by omega, Nat.zero_div]
    rw [cutz_pos h10 z]
    refine ih (D / 10) (fun i hi => ?_) h
    have := h0 (i + 1) (by omega)
    rwa [Nat.pow_succ, Nat.mul_comm, ← Nat.div_div_eq_div_mul] at this

theorem buf_take (D nd k : Nat) (hnd : nd = (dec D).length) (hk : Left D nd k) (h32 : nd ≤ 32) : (bufL D nd).take k = dec (cutz D) := by
  obtain ⟨k1, k2, k3, k4⟩ := hk
  have hc : cutz D = D / 10 ^ (nd - k) := by
    refine cutz_div (nd - k) D (fun i hi => ?_) k4
    have := k3 (nd - 1 - i) (by omega) (by omega)
    rwa [show nd - 1 - (nd - 1 - i) = i by omega] at this
  have hl := dec_div_len D (nd - k) (by omega)
  rw [hc, dec_eq_map (D / 10 ^ (nd - k)), hl, ← hnd, show nd - (nd - k) = k by omega]
  unfold bufL
  rw [← List.map_take, List.take_range, Nat.min_eq_left (by omega)]
  refine List.map_congr_left fun j hj => ?_
  have hj' := List.mem_range.1 hj
  rw [if_pos (by omega), Nat.div_div_eq_div_mul, ← Nat.pow_add, show nd - k + (k - 1 - j) = nd - 1 - j by omega]

theorem nDigits_dec (u : Nat) : Lib.nDigits u = (dec u).length := by
  induction u using Nat.strongRecOn with
  | ind u ih =>
    by_cases h : u < 10
    · rw [Lib.nDigits_small h, dec_lt h]; rfl
    · rw [Lib.nDigits_big h, dec_ge (by omega), List.length_append, ih _ (by omega)]; rfl

theorem T2_lt_succ (f c : Nat) : T2 f c < T2 f (c + 1) := by
  have hP : 0 < 2 ^ f := Nat.two_pow_pos f
  have e : c = c / 2 ^ f * 2 ^ f + c % 2 ^ f := by rw [Nat.mul_comm]; exact (Nat.div_add_mod _ _).symm
  have hm : c % 2 ^ f < 2 ^ f := Nat.mod_lt _ hP
  generalize c / 2 ^ f = q at e
  generalize c % 2 ^ f = m at e hm
  subst e
  rw [T2_at f q m hm, T2_up f q m hm]
  by_cases hq : q = 0
  · rw [if_pos hq, if_pos hq]; omega
  · rw [if_neg hq, if_neg hq]
    exact Nat.mul_lt_mul_of_pos_right (by omega) (Nat.two_pow_pos _)
theorem T2_mono (f : Nat) {x y : Nat} (h : x ≤ y) : T2 f x ≤ T2 f y := by
  induction y with
  | zero => obtain rfl : x = 0 := by omega
            exact Nat.le_refl _
  | succ y ih =>
    by_cases e : x = y + 1
    · rw [e]; exact Nat.le_refl _
    · exact Nat.le_trans (ih (by omega)) (Nat.le_of_lt (T2_lt_succ f y))
theorem T2_strict (f : Nat) {x y : Nat} (h : x < y) : T2 f x < T2 f y := Nat.lt_of_lt_of_le (T2_lt_succ f x) (T2_mono f h)
/-- the mantissa and the place of a code -/
def mgP (f x : Nat) : Nat × Nat := if x < 2 ^ f then (x, 0) else (2 ^ f + x % 2 ^ f, x / 2 ^ f - 1)
theorem mgP_T2 (f x : Nat) : T2 f x = (mgP f x).1 * 2 ^ (mgP f x).2 := by
  have hP : 0 < 2 ^ f := Nat.two_pow_pos f
  unfold T2 mgP
  by_cases h : x < 2 ^ f
  · rw [if_pos (Nat.div_eq_of_lt h), if_pos h, Nat.mod_eq_of_lt h, Nat.pow_zero, Nat.mul_one]
  · have : 1 ≤ x / 2 ^ f := (Nat.le_div_iff_mul_le hP).2 (by omega)
    rw [if_neg (by omega), if_neg h, Nat.add_comm]

theorem read_pos (F : Ieee.Format) (x : Nat) (h1 : F.infRung ≤ F.signWeight) (h2 : x < F.infRung) :
    F.read x = .number false (mgP F.fractionBits x).1 (F.leastPlace + ((mgP F.fractionBits x).2 : Nat)) := by
  have hs : x < F.signWeight := Nat.lt_of_lt_of_le h2 h1
  unfold Ieee.Format.read
  simp only [Nat.div_eq_of_lt hs, Nat.mod_eq_of_lt hs]
  unfold mgP Ieee.Format.binade
  by_cases h : x < 2 ^ F.fractionBits
  · rw [if_pos h, if_pos h]
    simp
  · rw [if_neg h, if_neg h, if_pos h2]
    rfl

theorem order_pos (F : Ieee.Format) (x y : Nat) (h1 : F.infRung ≤ F.signWeight) (hx : x < F.infRung) (hy : y < F.infRung) :
    F.order x y = some (if T2 F.fractionBits x < T2 F.fractionBits y then .lt else if T2 F.fractionBits x = T2 F.fractionBits y then .eq else .gt) := by
  unfold Ieee.Format.order
  rw [read_pos F x h1 hx, read_pos F y h1 hy, mgP_T2, mgP_T2]
  generalize (mgP F.fractionBits x).1 = m
  generalize (mgP F.fractionBits x).2 = i
  generalize (mgP F.fractionBits y).1 = n
  generalize (mgP F.fractionBits y).2 = j
  generalize F.leastPlace = L
  unfold Ieee.Datum.order Ieee.signed
  simp only [Nat.shiftLeft_eq]
  congr 1
  obtain ⟨b, hb⟩ : ∃ b, b = min i j := ⟨_, rfl⟩
  have e1 : (L + (i : Int) - min (L + (i : Int)) (L + (j : Int))).toNat = i - b := by omega
  have e2 : (L + (j : Int) - min (L + (i : Int)) (L + (j : Int))).toNat = j - b := by omega
  rw [e1, e2]
  have g1 : m * 2 ^ i = m * 2 ^ (i - b) * 2 ^ b := by rw [Nat.mul_assoc, ← Nat.pow_add]; congr 2; omega
  have g2 : n * 2 ^ j = n * 2 ^ (j - b) * 2 ^ b := by rw [Nat.mul_assoc, ← Nat.pow_add]; congr 2; omega
  have hp : 0 < 2 ^ b := Nat.two_pow_pos b
  rw [g1, g2]
  generalize m * 2 ^ (i - b) = A
  generalize n * 2 ^ (j - b) = B
  rw [if_neg (by decide), if_neg (by decide)]
  show compareOfLessAndEq ((A : Nat) : Int) ((B : Nat) : Int) = _
  unfold compareOfLessAndEq
  rcases Nat.lt_trichotomy A B with h | h | h
  · rw [if_pos (by omega), if_pos (Nat.mul_lt_mul_of_pos_right h hp)]
  · subst h
    rw [if_neg (by omega), if_pos rfl, if_neg (by omega), if_pos rfl]
  · have := Nat.mul_lt_mul_of_pos_right h hp
    rw [if_neg (by omega), if_neg (by omega), if_neg (by omega), if_neg (by omega)]

theorem ShAt.inn {f c a : Nat} {n : Int} {k x : Nat} (h : ShAt f c a n k x) : Inn ((T2 f (c - 1) + T2 f c) * 10 ^ a) ((T2 f c + T2 f (c + 1)) * 10 ^ a) (decide (c % 2 = 0)) (x * Ug f n a k) := refStep_some h.some

theorem thr (f c0 a : Nat) (i : Int) (ha : 400 ≤ a) (hi : -100 ≤ i) (hc0 : 1 ≤ c0) (hlow : (T2 f (c0 - 1) + T2 f c0) * 10 ^ a < 2 ^ (lst f + 1) * 10 ^ (i + (a : Int)).toNat) (hhigh : 2 ^ (lst f + 1) * 10 ^ (i + (a : Int)).toNat < (T2 f c0 + T2 f (c0 + 1)) * 10 ^ a)
    (hat : ∀ n k x, ShAt f c0 a n k x → n + ((dec x).length : Int) - (k : Int) = i + 1) {c : Nat} {n : Int} {k x : Nat} (h : ShAt f c a n k x) (hx : 0 < x) :
    n + ((dec x).length : Int) - (k : Int) ≤ i ↔ c < c0 := by
  have hL0 : 0 < 2 ^ (lst f + 1) := Nat.two_pow_pos _
  have n0 := h.n0
  have k2 := h.k2
  rcases Nat.lt_trichotomy c c0 with hlt | heq | hgt
  · refine ⟨fun _ => hlt, fun _ => ?_⟩
    have h1 : x * Ug f n a k ≤ (T2 f c + T2 f (c + 1)) * 10 ^ a := by
      rcases h.inn.2 with h | h <;> omega
    have h2 : (T2 f c + T2 f (c + 1)) * 10 ^ a ≤ (T2 f (c0 - 1) + T2 f c0) * 10 ^ a := Nat.mul_le_mul_right _ (Nat.add_le_add (T2_mono f (by omega)) (T2_mono f (by omega)))
    have h3 : x * Ug f n a k < 2 ^ (lst f + 1) * 10 ^ (i + (a : Int)).toNat := by omega
    unfold Ug at h3
    rw [Nat.mul_left_comm] at h3
    have h4 := Nat.lt_of_mul_lt_mul_left h3
    have h5 := dec_lower x hx
    have h6 := dec_length_pos x
    have h7 : 10 ^ ((dec x).length - 1 + (n - (k : Int) + (a : Int)).toNat) < 10 ^ (i + (a : Int)).toNat := by
      rw [Nat.pow_add]
      exact Nat.lt_of_le_of_lt (Nat.mul_le_mul_right _ h5) h4
    have h8 := pow10_lt h7
    omega
  · subst heq
    have := hat n k x h
    exact ⟨fun h => by omega, fun h => by omega⟩
  · refine ⟨fun hle => ?_, fun h => by omega⟩
    exfalso
    have h1 : (T2 f (c - 1) + T2 f c) * 10 ^ a ≤ x * Ug f n a k := by
      rcases h.inn.1 with h | h <;> omega
    have h2 : (T2 f c0 + T2 f (c0 + 1)) * 10 ^ a ≤ (T2 f (c - 1) + T2 f c) * 10 ^ a := Nat.mul_le_mul_right _ (Nat.add_le_add (T2_mono f (by omega)) (T2_mono f (by omega)))
    have h3 : 2 ^ (lst f + 1) * 10 ^ (i + (a : Int)).toNat < x * Ug f n a k := by omega
    unfold Ug at h3
    rw [Nat.mul_left_comm] at h3
    have h4 := Nat.lt_of_mul_lt_mul_left h3
    have h5 := dec_upper x
    have h7 : 10 ^ (i + (a : Int)).toNat < 10 ^ ((dec x).length + (n - (k : Int) + (a : Int)).toNat) := by
      rw [Nat.pow_add]
      exact Nat.lt_of_lt_of_le h4 (Nat.mul_le_mul_right _ (Nat.le_of_lt h5))
    have h8 := pow10_lt h7
    omega
end Go.Proofs.YtiopeaponffmdaaDoor.PAll
-- YtiopeaponffmdaaDoorMk
namespace Go.Proofs.YtiopeaponffmdaaDoor.PAll
open Go.RowKit Go.Proofs.YtiopeaponffmdaaDoorW.PrintWords Go.Proofs.YtiopeaponffmdaaDoorW.PrintLast Go.Proofs.YtiopeaponffmdaaDoorW.PrintMore
open Fm

theorem Ug_anti (f : Nat) (n m : Int) (a k l : Nat) (h : n - (k : Int) ≤ m - (l : Int)) : Ug f n a k ≤ Ug f m a l := Nat.mul_le_mul_left _ (Nat.pow_le_pow_right (by decide) (by omega))

theorem hat_of (f c0 a x0 : Nat) (n0 i : Int) (hb1 : Ug f n0 a 1 ≤ T2 f c0 * 2 ^ 1 * 10 ^ a) (hb2 : T2 f c0 * 2 ^ 1 * 10 ^ a < Ug f n0 a 0)
    (hs : refStep (T2 f c0 * 2 ^ 1 * 10 ^ a) ((T2 f (c0 - 1) + T2 f c0) * 10 ^ a) ((T2 f c0 + T2 f (c0 + 1)) * 10 ^ a) (decide (c0 % 2 = 0)) (Ug f n0 a 1) = some x0)
    (hi : n0 + ((dec x0).length : Int) - 1 = i + 1) : ∀ n k x, ShAt f c0 a n k x → n + ((dec x).length : Int) - (k : Int) = i + 1 := by
  intro n k x h
  have h1 := h.low
  have h2 := h.high
  have hn : n = n0 := by
    rcases Int.lt_trichotomy n n0 with hl | he | hg
    · have := Ug_anti f n n0 a 0 1 (by omega)
      omega
    · exact he
    · have := Ug_anti f n0 n a 0 1 (by omega)
      omega
  subst hn
  have hk1 := h.k1
  have hk : k = 1 := by
    refine Nat.le_antisymm (Nat.not_lt.1 fun hlt => ?_) hk1
    have := h.none 1 (Nat.le_refl _) hlt
    rw [hs] at this
    cases this
  subst hk
  have := h.some
  rw [hs] at this
  obtain rfl : x0 = x := Option.some.inj this
  omega

def thrB (f c0 a x0 : Nat) (n0 i : Int) : Bool :=
  decide ((T2 f (c0 - 1) + T2 f c0) * 10 ^ a < 2 ^ (lst f + 1) * 10 ^ (i + (a : Int)).toNat) && decide (2 ^ (lst f + 1) * 10 ^ (i + (a : Int)).toNat < (T2 f c0 + T2 f (c0 + 1)) * 10 ^ a) &&
  decide (Ug f n0 a 1 ≤ T2 f c0 * 2 ^ 1 * 10 ^ a) && decide (T2 f c0 * 2 ^ 1 * 10 ^ a < Ug f n0 a 0) &&
  decide (refStep (T2 f c0 * 2 ^ 1 * 10 ^ a) ((T2 f (c0 - 1) + T2 f c0) * 10 ^ a) ((T2 f c0 + T2 f (c0 + 1)) * 10 ^ a) (decide (c0 % 2 = 0)) (Ug f n0 a 1) = some x0)
theorem thr_of {f c0 a x0 : Nat} {n0 i : Int} (h : thrB f c0 a x0 n0 i = true) (ha : 400 ≤ a) (hi : -100 ≤ i) (hc0 : 1 ≤ c0) (hi2 : n0 + ((dec x0).length : Int) - 1 = i + 1) {c : Nat} {n : Int} {k x : Nat} (hs : ShAt f c a n k x) (hx : 0 < x) :
    n + ((dec x).length : Int) - (k : Int) ≤ i ↔ c < c0 := by
  unfold thrB at h
  simp only [Bool.and_eq_true, decide_eq_true_eq, and_assoc] at h
  obtain ⟨h1, h2, h3, h4, h5⟩ := h
  exact thr f c0 a i ha hi hc0 h1 h2 (hat_of f c0 a x0 n0 i h3 h4 h5 hi2) hs hx
theorem thr1 : thrB 52 4517329193108106637 400 10 (-6) (-6) = true := by kernel_rfl
theorem thr2 : thrB 52 4921056587992461136 400 1 22 21 = true := by kernel_rfl
theorem dec10 : (dec 10).length = 2 := by rw [dec_ge (by decide), dec_lt (by decide)]; rfl
theorem dec1 : (dec 1).length = 1 := by rw [dec_lt (by decide)]; rfl
/-- an exponent is written below 10^-6 and from 10^21 on -/
theorem place64 {c a : Nat} {n : Int} {k x : Nat} (ha : a = 400) (hs : ShAt 52 c a n k x) (hx : 0 < x) :
    (n + ((dec x).length : Int) - (k : Int) ≤ -6 ↔ c < 4517329193108106637) ∧ (n + ((dec x).length : Int) - (k : Int) ≤ 21 ↔ c < 4921056587992461136) := by
  subst ha
  exact ⟨thr_of thr1 (by decide) (by decide) (by decide) (by rw [dec10]; rfl) hs hx, thr_of thr2 (by decide) (by decide) (by decide) (by rw [dec1]; rfl) hs hx⟩
end Go.Proofs.YtiopeaponffmdaaDoor.PAll
