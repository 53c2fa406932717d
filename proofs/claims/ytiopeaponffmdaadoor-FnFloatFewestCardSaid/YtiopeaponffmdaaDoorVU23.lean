/- The texts of a proof, its declarations alone: part 23. -/
import Derived.Deep.RegionWith
import Derived.Test.YtiopeaponffmdaaDoorVU17
import Derived.Test.YtiopeaponffmdaaDoorVU21
set_option linter.unusedVariables false
set_option linter.unusedSimpArgs false
-- YtiopeaponffmdaaDoorGj
set_option linter.unusedVariables false
set_option linter.unusedSimpArgs false
namespace Go.Proofs.YtiopeaponffmdaaDoor.PAll
open Go.RowKit Go.Proofs.YtiopeaponffmdaaDoorW.PrintWords Go.Proofs.YtiopeaponffmdaaDoorW.PrintLast Go.Proofs.YtiopeaponffmdaaDoorW.PrintMore
open Fm

theorem and63 (x c : Nat) (hx : x < 18446744073709551616) (hc : c = x % 9223372036854775808) : bits .and .u64 (x : Int) 9223372036854775807 = (c : Int) := by
  have e := u64_and_nat x (2 ^ 63 - 1) hx (by decide)
  rw [Nat.and_two_pow_sub_one_eq_mod] at e
  have e2 : x % 2 ^ 63 = c := by omega
  rw [e2] at e
  exact e
set_option maxRecDepth 100000 in
theorem w4A (x : Nat) (w : World) (hn : 9218868437227405312 ≤ x % 9223372036854775808) : Calls Tryd.prog 4 #[.float .f64 x] w fun e w' => e = .returned (.bool true) ∧ Below w.heap.size w w' := by
  have HF := Lib.hid (fun w => finite8_no x w hn)
  clear hn
  go_enter Tryd.func4, Tryd.ntmps4
  go_wp2_with (fail)
  refine (HF.out _).mono ?_
  rintro e w'' ⟨rfl, rfl⟩
  go_wp2_with (fail)
  go_ret
  exact ⟨rfl, (Below.refl _ _).drew⟩
theorem lift2 {W0 : World} {g f : Nat} {v0 v1 : Value} {args : Array Value} {r : Ending} (c0 : W0.cell? ⟨g, 0, none⟩ = some v0) (c1 : W0.cell? ⟨g, 1, none⟩ = some v1) (C : ∀ W', Below W0.heap.size W0 W' → Calls Tryd.prog f args W' fun e w' => e = r ∧ Below W'.heap.size W' w') :
    ∀ W', Below W0.heap.size W0 W' → Calls Tryd.prog f args W' fun e w' => e = r ∧ (w'.cell? ⟨g, 0, none⟩ = some v0 ∧ w'.cell? ⟨g, 1, none⟩ = some v1) ∧ Hid (Below W0.heap.size W0 w') := by
  intro W' hW
  refine (C W' hW).mono fun e w' ⟨h1, h2⟩ => ?_
  have hb := hW.trans (h2.mono hW.size)
  exact ⟨h1, ⟨pw_cell_below hb c0, pw_cell_below hb c1⟩, Lib.hid hb⟩
set_option maxHeartbeats 1000000 in
set_option maxRecDepth 100000 in
theorem w4B (x c : Nat) (sg : Bool) (t s : ByteArray) (p : Int) (k1 k2 : Nat) (w : World) (hn : x % 9223372036854775808 < 9218868437227405312) (hsg : ((x : Int) / 9223372036854775808 == 1) = sg) (ha : bits .and .u64 (x : Int) 9223372036854775807 = (c : Int))
    (hT : ∀ W, Below w.heap.size w W → Calls Tryd.prog 14 #[.string ⟨#[]⟩, .float .f64 x, .int .i64 64] W fun e w' => e = .returned (.string t) ∧ Below W.heap.size W w') (hne : t.toList.isEmpty = false)
    (hD : spec_DecimalOf.f k1 t = some (s, p, sg)) (hN : spec_Form_Nearest.f k2 52 9218868437227405311 s p = some (c : Int)) :
    Calls Tryd.prog 4 #[.float .f64 x] w fun e w' => e = .returned (.bool true) ∧ Below w.heap.size w w' := by
  have HF := Lib.hid (fun w => finite8_yes x w hn)
  have HT := Lib.hid hT
  have HD := Lib.hid hD
  have HN := Lib.hid hN
  have r13 := run13
  have hne2 : ¬ t.toList = [] := fun h => by rw [h] at hne; cases hne
  clear hn hT hD hN
  go_enter Tryd.func4, Tryd.ntmps4
  go_wp2_with (fail)
  refine (HF.out _).mono ?_
  rintro e w'' ⟨rfl, rfl⟩
  go_wp2_with (fail)
  refine (HT.out _ (Below.refl _ _)).mono ?_
  rintro e w1 ⟨rfl, hb1⟩
  have HB1 := Lib.hid hb1
  clear hb1
  go_wp2_with (fail)
  refine (spec_DecimalOf.calls k1 t s p sg w1 HD.out).mono ?_
  rintro e w2 ⟨rfl, hb2⟩
  have HB2 := Lib.hid (HB1.out.trans (hb2.mono HB1.out.size))
  clear hb2
  go_wp2_with (fail)
  have q1 : (sg == ((x : Int) / 9223372036854775808 == 1)) = true := by rw [hsg]; exact beq_self_eq_true sg
  obtain ⟨W0, hW0⟩ : ∃ W, W = w2.alloc (.cells #[.string s, .int .i64 p] 35) := ⟨_, rfl⟩
  rw [← hW0]
  have B0 : Below w.heap.size w W0 := by rw [hW0]; exact below_alloc HB2.out _
  have blk : W0.heap[w2.heap.size]? = some (.cells #[.string s, .int .i64 p] 35) := by rw [hW0]; exact heap_alloc_new w2 _
  have c0 : W0.cell? ⟨w2.heap.size, 0, none⟩ = some (.string s) := by simp [World.cell?, blk]
  have c1 : W0.cell? ⟨w2.heap.size, 1, none⟩ = some (.int .i64 p) := by simp [World.cell?, blk]
  have D16 := Lib.hid (lift2 c0 c1 (f := 16) (args := #[]) (fun W' _ => spec_Double.calls 52 9218868437227405311 W' rfl))
  have D18 := Lib.hid (lift2 c0 c1 (fun W' _ => spec_Form_Nearest.calls k2 52 9218868437227405311 s p (c : Int) W' HN.out))
  have D14 := Lib.hid (lift2 c0 c1 (fun W' h => HT.out W' (B0.trans (h.mono B0.size))))
  have HB0 := Lib.hid B0
  have hbs := Lib.hid (Below.refl W0.heap.size W0)
  clear blk hW0 HB1 HB2 HT HD HN HF B0 hsg
  generalize w2.heap.size = g at *
  clear hne2
  go_region_with (first
    | (go_at_call 16; refine (D16.out _ ?hbb).mono ?_; (case hbb => first | exact Hid.out ‹_› | exact Below.drew (Hid.out ‹_›) | exact pw_below_drewN (Hid.out ‹_›) _); rintro e w3 ⟨rfl, ⟨x0, x1⟩, xb⟩)
    | (go_at_call 18; refine (D18.out _ ?hbb).mono ?_; (case hbb => first | exact Hid.out ‹_› | exact Below.drew (Hid.out ‹_›) | exact pw_below_drewN (Hid.out ‹_›) _); rintro e w4 ⟨rfl, ⟨y0, y1⟩, yb⟩)
    | (go_at_call 14; refine (D14.out _ ?hbb).mono ?_; (case hbb => first | exact Hid.out ‹_› | exact Below.drew (Hid.out ‹_›) | exact pw_below_drewN (Hid.out ‹_›) _); rintro e w5 ⟨rfl, ⟨z0, z1⟩, zb⟩))
  all_goals (go_wp2_with (fail))
  all_goals (go_ret)
  all_goals (refine ⟨rfl, HB0.out.trans (Below.mono ?_ HB0.out.size)⟩)
  all_goals (first | exact Hid.out ‹_› | exact Below.drew (Hid.out ‹_›) | exact pw_below_drewN (Hid.out ‹_›) _)
/-- the text alone, in every later world -/
theorem textAll (x c : Nat) (sg : Bool) (w : World) (hx : x < 18446744073709551616) (hc : c = x % 9223372036854775808) (hc1 : c < 9218868437227405312)
    (hsg : ((x : Int) / 9223372036854775808 != 0) = sg) (hR : Rdy w) :
    ∃ l : List Int, NumText 52 c l ∧ (strOfNums ((if sg = true then [45] else []) ++ l)).toList.isEmpty = false ∧ (strOfNums ((if sg = true then [45] else []) ++ l)).size ≤ 101 ∧
      ∀ W, Below w.heap.size w W → Calls Tryd.prog 14 #[.string ⟨#[]⟩, .float .f64 x, .int .i64 64] W fun e w' => e = .returned (.string (strOfNums ((if sg = true then [45] else []) ++ l))) ∧ Below W.heap.size W w' := by
  obtain ⟨l, hl, _⟩ := textE x c sg w hx hc hc1 hsg hR
  refine ⟨l, hl, ?_, ?_, fun W hW => ?_⟩
  · have hlen := hl.head
    obtain ⟨b, t, rfl, _, _⟩ := hlen
    have h1 : 0 < (strOfNums ((if sg = true then [45] else []) ++ b :: t)).size := by rw [strOfNums_size, List.length_append]; simp; omega
    have h2 : (strOfNums ((if sg = true then [45] else []) ++ b :: t)).toList.length = (strOfNums ((if sg = true then [45] else []) ++ b :: t)).size := by rw [ByteArray.toList_eq]; simp
    cases h : (strOfNums ((if sg = true then [45] else []) ++ b :: t)).toList with
    | nil => rw [h] at h2; simp at h2; omega
    | cons => rfl
  · rw [strOfNums_size, List.length_append]
    have := hl.len
    have h2 : (if sg = true then [45] else [] : List Int).length ≤ 1 := by split <;> simp
    omega
  · obtain ⟨l', hl', hC⟩ := textE x c sg W hx hc hc1 hsg (hR.mono hW)
    rw [hl'.unique hl] at hC
    exact hC
theorem w4 (x : Nat) (w : World) (hx : x < 18446744073709551616) (hR : Rdy w) : Calls Tryd.prog 4 #[.float .f64 x] w fun e w' => e = .returned (.bool true) ∧ Below w.heap.size w w' := by
  by_cases h3 : 9218868437227405312 ≤ x % 9223372036854775808
  · exact w4A x w h3
  · obtain ⟨c, hc⟩ : ∃ c, c = x % 9223372036854775808 := ⟨_, rfl⟩
    obtain ⟨sg, hsg, hsg1⟩ : ∃ sg : Bool, ((x : Int) / 9223372036854775808 != 0) = sg ∧ ((x : Int) / 9223372036854775808 == 1) = sg := by
      by_cases h4 : 9223372036854775808 ≤ x
      · exact ⟨true, by rw [bne_iff_ne]; omega, by rw [beq_iff_eq]; omega⟩
      · exact ⟨false, by rw [bne_eq_false_iff_eq]; omega, by rw [beq_eq_false_iff_ne]; omega⟩
    obtain ⟨l, hl, hne, _, hT⟩ := textAll x c sg w hx hc (by omega) hsg hR
    obtain ⟨s, p, ⟨K1, hD⟩, _, _, _, ⟨K2, hN⟩⟩ := back_ev c sg l (by omega) hl
    exact w4B x c sg _ s p K1 K2 w (by omega) hsg1 (and63 x c hx hc) hT hne (hD K1 (Nat.le_refl _)) (hN K2 (Nat.le_refl _))
end Go.Proofs.YtiopeaponffmdaaDoor.PAll
