/- The texts of a proof, its declarations alone: part 12. -/
import Derived.Lib.Strings
import Derived.Shelf.Strconv.Itoa0
import Derived.Shelf.Strconv.Itoa1
import Derived.Shelf.LaysM
import Derived.Shelf.Strconv.Itoa2
import Derived.Shelf.Bits.Mul64
import Derived.Test.YtiopeaponffmdaaDoorProg
import Derived.IntWalk
import Derived.WalkSmall
import Derived.Lib.QuoteBits
import Derived.Lib.Hide
import Derived.Test.YtiopeaponffmdaaDoorVS1
import Derived.Test.YtiopeaponffmdaaDoorVS4
import Derived.Test.YtiopeaponffmdaaDoorVS10
import Derived.Test.YtiopeaponffmdaaDoorVS11
set_option linter.unusedVariables false
set_option linter.unusedSimpArgs false
-- YtiopeaponffmdaaDoorNe
namespace Go.Proofs.YtiopeaponffmdaaDoor.PAll
open Go.RowKit Go.Proofs.YtiopeaponffmdaaDoorW.PrintWords Go.Proofs.YtiopeaponffmdaaDoorW.PrintLast Go.Proofs.YtiopeaponffmdaaDoorW.PrintMore

theorem wrapuN (n : Nat) (h : n < 18446744073709551616) : IntKind.u64.wrap (n : Int) = (n : Int) := by rw [IntKind.wrap_u64]; omega
theorem wrapu1 (n : Nat) (h : n < 18446744073709551615) : IntKind.u64.wrap ((n : Int) + 1) = ((n + 1 : Nat) : Int) := by rw [IntKind.wrap_u64]; omega
theorem bytes_eq {a b : ByteArray} (h : a.data.toList = b.data.toList) : a = b := by
  cases a with
  | mk x => cases b with
    | mk y => exact congrArg ByteArray.mk (Array.toList_inj.1 h)
theorem str_extract (l : List Int) (a b : Nat) : (strOfNums l).extract a b = strOfNums ((l.drop a).take (b - a)) := by
  refine bytes_eq ?_
  rw [Go.Lib.extract_data, strOfNums_data, strOfNums_data, List.map_take, List.map_drop]
theorem str_append (l r : List Int) : strOfNums l ++ strOfNums r = strOfNums (l ++ r) := by
  refine bytes_eq ?_
  rw [ByteArray.data_append, Array.toList_append, strOfNums_data, strOfNums_data, strOfNums_data, List.map_append]
theorem bt_str {l : List Int} (h : ∀ x ∈ l, 48 ≤ x ∧ x ≤ 57) (i : Int) : bt (strOfNums l) i = rd l i := by
  rw [← rd_bytesOf, bt_dec_strOfNums h]

/-- without the zeros at its end -/
def cutz (D : Nat) : Nat := if h : 10 ≤ D ∧ D % 10 = 0 then cutz (D / 10) else D
termination_by D
decreasing_by omega
theorem cutz_pos {D : Nat} (h : 10 ≤ D) (h2 : D % 10 = 0) : cutz D = cutz (D / 10) := by rw [cutz, dif_pos ⟨h, h2⟩]
theorem cutz_neg {D : Nat} (h : ¬ (10 ≤ D ∧ D % 10 = 0)) : cutz D = D := by rw [cutz, dif_neg h]

theorem l1_ev (place : Int) (D : Nat) : D < 100000000000000000000 → Ev (fun k => spec_Form_Shortest.l1 k (strOfNums (dec D)) place) (strOfNums (dec (cutz D)), place) := by
  induction D using Nat.strongRecOn with
  | ind D ih =>
    intro hD
    have hlen := dec_length_le 19 D hD
    have hsz : (strOfNums (dec D)).size = (dec D).length := strOfNums_size _
    by_cases h1 : D < 10
    · rw [cutz_neg (by omega)]
      refine Ev.succ (g := fun _ => some (strOfNums (dec D), place)) (fun k => ?_) (Ev.pure _)
      rw [spec_Form_Shortest.l1, if_neg]
      rw [hsz, dec_lt h1]; simp
    · have hl1 : (dec D).length = (dec (D / 10)).length + 1 := by rw [dec_ge (n := D) (by omega)]; simp
      have hp := dec_length_pos (D / 10)
      have ew : wrap64 (((strOfNums (dec D)).size : Int) - 1) = ((dec (D / 10)).length : Int) := by
        rw [hsz, hl1, w64 _ (by omega) (by omega)]; omega
      have eb : bt (strOfNums (dec D)) ((dec (D / 10)).length : Int) = ((48 + D % 10 : Nat) : Int) := by
        rw [bt_str (dec_digit D), rd, Int.toNat_natCast, dec_ge (n := D) (by omega)]
        simp
      by_cases h2 : D % 10 = 0
      · rw [cutz_pos (by omega) h2]
        refine Ev.succ (fun k => ?_) (ih (D / 10) (by omega) (by omega))
        rw [spec_Form_Shortest.l1, if_pos (by rw [hsz]; omega), ew, if_pos (by omega), if_pos (by rw [hsz]; omega), eb, if_pos (by omega), if_pos (by rw [hsz]; omega), Int.toNat_natCast, str_extract, List.drop_zero, Nat.sub_zero]
        congr 2
        rw [dec_ge (n := D) (by omega), List.take_left']
        rfl
      · rw [cutz_neg (by omega)]
        refine Ev.succ (g := fun _ => some (strOfNums (dec D), place)) (fun k => ?_) (Ev.pure _)
        rw [spec_Form_Shortest.l1, if_pos (by rw [hsz]; omega), ew, if_pos (by omega), if_pos (by rw [hsz]; omega), eb, if_neg (by omega)]

theorem j3_ev (n : Int) (kk D : Nat) (hn0 : -1000 ≤ n) (hn1 : n ≤ 1000) (hk : kk ≤ 17) (hD : D < 1000000000000000000) :
    Ev (fun k => spec_Form_Shortest.j3 k n (kk : Int) (D : Int)) (strOfNums (dec (cutz D)), n + ((dec D).length : Int) - (kk : Int)) := by
  have hlen := dec_length_le 19 D (by omega)
  refine Ev.succ (g := fun k => (spec_decimals.f k (D : Int)).bind fun t => spec_Form_Shortest.l1 k t (wrap64 ((wrap64 (n + (t.size : Int))) - (kk : Int)))) (fun k => ?_) ?_
  · rw [spec_Form_Shortest.j3]
  · refine Ev.bind (h := fun k t => spec_Form_Shortest.l1 k t (wrap64 ((wrap64 (n + (t.size : Int))) - (kk : Int)))) (decimals_ev D (by omega)) ?_
    rw [strOfNums_size, w64 (n + ((dec D).length : Int)) (by omega) (by omega), w64 _ (by omega) (by omega)]
    exact l1_ev _ D (by omega)

theorem j2_ev (n : Int) (kk x : Nat) (up : Bool) (hn0 : -1000 ≤ n) (hn1 : n ≤ 1000) (hk : kk ≤ 17) (hx : x < 100000000000000000) :
    Ev (fun k => spec_Form_Shortest.j2 k n (kk : Int) (x : Int) up) (strOfNums (dec (cutz (if up then x + 1 else x))), n + ((dec (if up then x + 1 else x)).length : Int) - (kk : Int)) := by
  cases up with
  | true =>
    refine Ev.succ (fun k => ?_) (j3_ev n kk (x + 1) hn0 hn1 hk (by omega))
    rw [spec_Form_Shortest.j2, if_pos rfl, wrapu _ (by omega) (by omega)]
    rfl
  | false =>
    refine Ev.succ (fun k => ?_) (j3_ev n kk x hn0 hn1 hk (by omega))
    rw [spec_Form_Shortest.j2, if_neg (by decide)]

open Fm in
theorem shortest_loop (f code q : Nat) (most n : Int) (hf : f = 52 ∨ f = 23) (h0 : 1 ≤ code) (hc : code < 18446744073709551000) (hc2 : (code + 1) / 2 ^ f ≤ 2100)
    (hn0 : -500 ≤ n) (hn1 : n ≤ 500) (hq : q < 100000000000000000)
    (V Bm Bp : Nat) (ev : Bool) (U : Nat → Nat) (hx : ∀ k, 1 ≤ k → k ≤ 17 → V / U k = q / 10 ^ (17 - k))
    (hr : ∀ k D : Nat, 1 ≤ k → k ≤ 17 → readsB f code D (n - (k : Int)) = decide (Inn Bm Bp ev (D * U k)))
    (hcl : ∀ k x : Nat, 1 ≤ k → k ≤ 17 → decide (agn f (2 * x + 1) (n - (k : Int)) (T2 f code * 2 ^ 2) < 0 ∨ (agn f (2 * x + 1) (n - (k : Int)) (T2 f code * 2 ^ 2) = 0 ∧ x % 2 = 1)) = decide (Closer V (U k) x))
    (kk x : Nat) (hk1 : 1 ≤ kk) (hk2 : kk ≤ 17) (hnone : ∀ j, 1 ≤ j → j < kk → refStep V Bm Bp ev (U j) = none) (hsome : refStep V Bm Bp ev (U kk) = some x) :
    Ev (fun k => spec_Form_Shortest.l0 k (code : Int) n (q : Int) 10000000000000000 1 (f : Int) most) (strOfNums (dec (cutz x)), n + ((dec x).length : Int) - (kk : Int)) := by
  have q1 : code / 2 ^ f ≤ 2100 := Nat.le_trans (Nat.div_le_div_right (by omega)) hc2
  have step : ∀ j : Nat, 1 ≤ j → j ≤ 17 → ∀ (R : ByteArray × Int),
      Ev (fun k => spec_Form_Shortest.j1 k (code : Int) n (q : Int) (((10 ^ (17 - j) / 10 : Nat)) : Int) (j : Int) ((V / U j : Nat) : Int) (decide (Inn Bm Bp ev (V / U j * U j))) (decide (Inn Bm Bp ev ((V / U j + 1) * U j))) (!decide (Inn Bm Bp ev (V / U j * U j)) && !decide (Inn Bm Bp ev ((V / U j + 1) * U j))) (f : Int) most) R →
      Ev (fun k => spec_Form_Shortest.l0 k (code : Int) n (q : Int) ((10 ^ (17 - j) : Nat) : Int) (j : Int) (f : Int) most) R := by
    intro j j1 j2 R hR
    have hc10 : 10 ^ (17 - j) ≤ 10000000000000000 := by
      have : 10 ^ (17 - j) ≤ 10 ^ 16 := Nat.pow_le_pow_right (by decide) (by omega)
      exact Nat.le_trans this (by decide)
    have hc0 : 0 < 10 ^ (17 - j) := Nat.pow_pos (by decide)
    have hX : q / 10 ^ (17 - j) ≤ q := Nat.div_le_self _ _
    have e1 : IntKind.u64.wrap (Int.tdiv (q : Int) ((10 ^ (17 - j) : Nat) : Int)) = ((V / U j : Nat) : Int) := by
      rw [hx j j1 j2, show Int.tdiv (q : Int) ((10 ^ (17 - j) : Nat) : Int) = ((q / 10 ^ (17 - j) : Nat) : Int) from rfl, wrapuN _ (Nat.lt_of_le_of_lt hX (Nat.lt_trans hq (by decide)))]
    have e2 : IntKind.u64.wrap (Int.tdiv ((10 ^ (17 - j) : Nat) : Int) 10) = ((10 ^ (17 - j) / 10 : Nat) : Int) := by
      rw [show Int.tdiv ((10 ^ (17 - j) : Nat) : Int) 10 = ((10 ^ (17 - j) / 10 : Nat) : Int) from rfl, wrapuN _ (Nat.lt_of_le_of_lt (Nat.div_le_self _ _) (Nat.lt_of_le_of_lt hc10 (by decide)))]
    have e3 : wrap64 (n - (j : Int)) = n - (j : Int) := w64 _ (by omega) (by omega)
    have hXb : V / U j < 100000000000000000 := by rw [hx j j1 j2]; exact Nat.lt_of_le_of_lt hX hq
    have e4 : IntKind.u64.wrap (((V / U j : Nat) : Int) + 1) = ((V / U j + 1 : Nat) : Int) := wrapu1 _ (Nat.lt_trans hXb (by decide))
    generalize V / U j = X at *
    have d1 := decimals_ev X (by omega)
    have d2 := decimals_ev (X + 1) (by omega)
    have s1 := str_dec_size X (by omega)
    have s2 := str_dec_size (X + 1) (by omega)
    have r1 := reads_ev f code most (n - (j : Int)) (strOfNums (dec X)) hf h0 hc hc2 (by omega) (str_dec_digit X) (by omega) (by omega)
    have r2 := reads_ev f code most (n - (j : Int)) (strOfNums (dec (X + 1))) hf h0 hc hc2 (by omega) (str_dec_digit (X + 1)) (by omega) (by omega)
    rw [str_dec, hr j _ j1 j2] at r1 r2
    generalize decide (Inn Bm Bp ev (X * U j)) = fst at *
    generalize decide (Inn Bm Bp ev ((X + 1) * U j)) = snd at *
    refine Ev.succ (g := fun k => (spec_decimals.f k (X : Int)).bind fun t443 => (spec_Form_reads.f k (f : Int) most t443 (n - (j : Int)) (code : Int)).bind fun t444 => (spec_decimals.f k ((X + 1 : Nat) : Int)).bind fun t445 => (spec_Form_reads.f k (f : Int) most t445 (n - (j : Int)) (code : Int)).bind fun t446 =>
      if t444 = true then spec_Form_Shortest.j1 k (code : Int) n (q : Int) (((10 ^ (17 - j) / 10 : Nat)) : Int) (j : Int) (X : Int) t444 t446 false (f : Int) most else spec_Form_Shortest.j1 k (code : Int) n (q : Int) (((10 ^ (17 - j) / 10 : Nat)) : Int) (j : Int) (X : Int) t444 t446 (!t446) (f : Int) most) (fun k => ?_) ?_
    · rw [spec_Form_Shortest.l0, if_pos (by omega), if_neg (by omega), e1, e2, e3, e4]
    · refine Ev.bind (h := fun k t443 => (spec_Form_reads.f k (f : Int) most t443 (n - (j : Int)) (code : Int)).bind fun t444 => (spec_decimals.f k ((X + 1 : Nat) : Int)).bind fun t445 => (spec_Form_reads.f k (f : Int) most t445 (n - (j : Int)) (code : Int)).bind fun t446 =>
        if t444 = true then spec_Form_Shortest.j1 k (code : Int) n (q : Int) (((10 ^ (17 - j) / 10 : Nat)) : Int) (j : Int) (X : Int) t444 t446 false (f : Int) most else spec_Form_Shortest.j1 k (code : Int) n (q : Int) (((10 ^ (17 - j) / 10 : Nat)) : Int) (j : Int) (X : Int) t444 t446 (!t446) (f : Int) most) d1 (Ev.bind r1 ?_)
      refine Ev.bind (h := fun k t445 => (spec_Form_reads.f k (f : Int) most t445 (n - (j : Int)) (code : Int)).bind fun t446 =>
        if fst = true then spec_Form_Shortest.j1 k (code : Int) n (q : Int) (((10 ^ (17 - j) / 10 : Nat)) : Int) (j : Int) (X : Int) fst t446 false (f : Int) most else spec_Form_Shortest.j1 k (code : Int) n (q : Int) (((10 ^ (17 - j) / 10 : Nat)) : Int) (j : Int) (X : Int) fst t446 (!t446) (f : Int) most) d2 (Ev.bind r2 ?_)
      cases fst with
      | true => exact Ev.congr hR (fun k => by rw [if_pos rfl]; rfl)
      | false => exact Ev.congr hR (fun k => by rw [if_neg (by decide)]; rfl)
  have main : ∀ m j : Nat, j + m = kk → 1 ≤ j → Ev (fun k => spec_Form_Shortest.l0 k (code : Int) n (q : Int) ((10 ^ (17 - j) : Nat) : Int) (j : Int) (f : Int) most) (strOfNums (dec (cutz x)), n + ((dec x).length : Int) - (kk : Int)) := by
    intro m
    induction m with
    | zero =>
      intro j hj j1
      obtain rfl : j = kk := by omega
      refine step j j1 hk2 _ ?_
      have hXb : V / U j < 100000000000000000 := by
        rw [hx j j1 hk2]
        exact Nat.lt_of_le_of_lt (Nat.div_le_self _ _) hq
      have hs := hsome
      unfold refStep at hs
      dsimp only at hs
      have hcj := hcl j (V / U j) j1 hk2
      have e3 : wrap64 (n - (j : Int)) = n - (j : Int) := w64 _ (by omega) (by omega)
      generalize V / U j = X at *
      have hC := closer_ev f code X most (n - (j : Int)) hf (by omega) q1 (by omega) (by omega) (by omega)
      rw [hcj] at hC
      by_cases a1 : Inn Bm Bp ev (X * U j)
      · by_cases a2 : Inn Bm Bp ev ((X + 1) * U j)
        · rw [if_pos (.inl a1)] at hs
          simp only [Option.some.injEq] at hs
          have e : x = if (decide (Closer V (U j) X)) = true then X + 1 else X := by
            rw [← hs]
            by_cases hcc : Closer V (U j) X
            · rw [if_pos ⟨a2, .inr hcc⟩, if_pos (decide_eq_true hcc)]
            · rw [if_neg (fun h => by rcases h.2 with h | h; exact h a1; exact hcc h), if_neg (by rw [decide_eq_true_eq]; exact hcc)]
          rw [e]
          refine Ev.succ (g := fun k => (spec_Form_closer.f k (f : Int) most (code : Int) (X : Int) (n - (j : Int))).bind fun t => spec_Form_Shortest.j2 k n (j : Int) (X : Int) t) (fun k => ?_) (Ev.bind hC (j2_ev n j X _ (by omega) (by omega) hk2 hXb))
          rw [decide_eq_true a1, decide_eq_true a2, spec_Form_Shortest.j1, if_neg (by decide), if_pos rfl, if_pos rfl, e3]
        · rw [if_pos (.inl a1)] at hs
          simp only [Option.some.injEq] at hs
          have e : x = X := by
            rw [← hs, if_neg (fun h => a2 h.1)]
          rw [e]
          refine Ev.succ (fun k => ?_) (j2_ev n j X false (by omega) (by omega) hk2 hXb)
          rw [decide_eq_true a1, decide_eq_false a2, spec_Form_Shortest.j1, if_neg (by decide), if_neg (by decide)]
      · by_cases a2 : Inn Bm Bp ev ((X + 1) * U j)
        · rw [if_pos (.inr a2)] at hs
          simp only [Option.some.injEq] at hs
          have e : x = X + 1 := by
            rw [← hs, if_pos ⟨a2, .inl a1⟩]
          rw [e]
          refine Ev.succ (fun k => ?_) (j2_ev n j X true (by omega) (by omega) hk2 hXb)
          rw [decide_eq_false a1, decide_eq_true a2, spec_Form_Shortest.j1, if_neg (by decide), if_pos rfl, if_neg (by decide)]
        · rw [if_neg (fun h => by rcases h with h | h; exact a1 h; exact a2 h)] at hs
          cases hs
    | succ m ih =>
      intro j hj j1
      have hj17 : j ≤ 17 := by omega
      have h17 : 17 - j = 17 - (j + 1) + 1 := by omega
      have ihj := ih (j + 1) (by omega) (by omega)
      refine step j j1 hj17 _ ?_
      have hn := hnone j j1 (by omega)
      unfold refStep at hn
      dsimp only at hn
      generalize V / U j = X at *
      have ha : ¬ (Inn Bm Bp ev (X * U j) ∨ Inn Bm Bp ev ((X + 1) * U j)) := by
        intro h
        rw [if_pos h] at hn
        cases hn
      have a1 : ¬ Inn Bm Bp ev (X * U j) := fun h => ha (.inl h)
      have a2 : ¬ Inn Bm Bp ev ((X + 1) * U j) := fun h => ha (.inr h)
      have e : 10 ^ (17 - j) / 10 = 10 ^ (17 - (j + 1)) := by
        rw [show 17 - j = 17 - (j + 1) + 1 from h17, Nat.pow_succ, Nat.mul_div_cancel _ (by decide)]
      have e4 : wrap64 ((j : Int) + 1) = ((j + 1 : Nat) : Int) := w64a j (Nat.le_trans hj17 (by decide))
      refine Ev.succ (fun k => ?_) ihj
      rw [decide_eq_false a1, decide_eq_false a2, spec_Form_Shortest.j1, if_pos (by decide), e, e4]
  exact main (kk - 1) 1 (by omega) (by omega)
end Go.Proofs.YtiopeaponffmdaaDoor.PAll
-- YtiopeaponffmdaaDoorSh
namespace Go.Proofs
open Go.Shelf
def Tryd.lays129_ren : Go.Shelf.Ren := ⟨fun | 129 => 57 | n => n, fun | 53 => 25 | 3 => 3 | 4 => 4 | 46 => 29 | 5 => 5 | 9 => 9 | n => n, fun | n => n⟩
theorem Tryd.lays129 : Go.Proofs.Lays.n129 Tryd.prog Tryd.lays129_ren := {
  mixed := by kernel_rfl
  f129 := Tryd.func57.trans (congrArg some (by kernel_rfl))
  t3 := Tryd.underlying3
  a3 := Tryd.isAgg3
  z3 := Tryd.sizeOf3
  v3 := Tryd.zeroValue3
  t4 := Tryd.underlying4
  a4 := Tryd.isAgg4
  z4 := Tryd.sizeOf4
  v4 := Tryd.zeroValue4
  t5 := Tryd.underlying5
  a5 := Tryd.isAgg5
  z5 := Tryd.sizeOf5
  v5 := Tryd.zeroValue5
  t9 := Tryd.underlying9
  a9 := Tryd.isAgg9
  z9 := Tryd.sizeOf9
  v9 := Tryd.zeroValue9
  t46 := Tryd.underlying29
  a46 := Tryd.isAgg29
  z46 := Tryd.sizeOf29
  v46 := Tryd.zeroValue29
  t53 := Tryd.underlying25
  a53 := Tryd.isAgg25
  z53 := Tryd.sizeOf25
  v53 := Tryd.zeroValue25 }
/-- bits.Len64: "Len64 returns the minimum number of bits required to represent x; the result is 0 for x == 0.": IT RETURNS 'Lib.bitLen x'; the world is as it was. ('h0', 'h1': x is a uint64.) (LAID: no walk: one application.) -/
theorem Tryd.bits_Len64 (x : Int) (w : World) (h0 : 0 ≤ x) (h1 : x ≤ 18446744073709551615) :
    Calls Tryd.prog 57 #[.int .u64 x] w fun e w' => e = .returned (.int .i64 (Lib.bitLen x.toNat)) ∧ w' = w := Any.bits_Len64 Tryd.lays129 x w h0 h1
def Tryd.laysM284_ren : Go.Shelf.Ren := ⟨fun | 284 => 60 | 129 => 57 | 317 => 61 | 318 => 79 | n => n, fun | 53 => 25 | 3 => 3 | 212 => 109 | 0 => 0 | 4 => 4 | 46 => 29 | 5 => 5 | 9 => 9 | n => n, fun | 17 => 2 | n => n⟩
theorem Tryd.laysM284 : Go.Proofs.LaysM.n284 Tryd.prog Tryd.laysM284_ren := {
  mixed := by kernel_rfl
  f129 := Tryd.func57.trans (congrArg some (by kernel_rfl))
  f284 := Tryd.func60.trans (congrArg some (by kernel_rfl))
  f317 := Tryd.func61.trans (congrArg some (by kernel_rfl))
  f318 := Tryd.func79.trans (congrArg some (by kernel_rfl))
  t0 := Tryd.underlying0
  a0 := Tryd.isAgg0
  z0 := Tryd.sizeOf0
  v0 := Tryd.zeroValue0
  t3 := Tryd.underlying3
  a3 := Tryd.isAgg3
  z3 := Tryd.sizeOf3
  v3 := Tryd.zeroValue3
  t4 := Tryd.underlying4
  a4 := Tryd.isAgg4
  z4 := Tryd.sizeOf4
  v4 := Tryd.zeroValue4
  t5 := Tryd.underlying5
  a5 := Tryd.isAgg5
  z5 := Tryd.sizeOf5
  v5 := Tryd.zeroValue5
  t9 := Tryd.underlying9
  a9 := Tryd.isAgg9
  z9 := Tryd.sizeOf9
  v9 := Tryd.zeroValue9
  t46 := Tryd.underlying29
  a46 := Tryd.isAgg29
  z46 := Tryd.sizeOf29
  v46 := Tryd.zeroValue29
  t53 := Tryd.underlying25
  a53 := Tryd.isAgg25
  z53 := Tryd.sizeOf25
  v53 := Tryd.zeroValue25
  t212 := Tryd.underlying109
  a212 := Tryd.isAgg109
  z212 := Tryd.sizeOf109
  v212 := Tryd.zeroValue109
  g17 := by kernel_rfl
  i0 := by kernel_rfl
  i3 := by kernel_rfl
  i4 := by kernel_rfl
  i5 := by kernel_rfl
  i9 := by kernel_rfl
  i46 := by kernel_rfl
  i53 := by kernel_rfl
  i212 := by kernel_rfl
  m17 := by kernel_rfl }
open Go.Lib in
/-- internal/strconv.numDigits, at a d that is not 0: THE NUMBER OF d's DECIMAL DIGITS. The world is as it was. (LAID: no walk: one application.) -/
theorem Tryd.internal_strconv_numDigits (u : Nat) (h1 : 1 ≤ u) (h2 : u < 18446744073709551616) (w : World) (htab : Lib.TabIs Tryd.prog w "internal/strconv.uint64pow10" .u64 Lib.pow10Tab) :
    Calls Tryd.prog 60 #[.int .u64 u] w fun e w' => e = .returned (.int .i64 (Lib.nDigits u)) ∧ w' = w := Any.internal_strconv_numDigits Tryd.laysM284 u h1 h2 w htab
def Tryd.lays285_ren : Go.Shelf.Ren := ⟨fun | 285 => 78 | n => n, fun | 37 => 39 | 53 => 25 | 3 => 3 | 4 => 4 | 51 => 47 | 9 => 9 | 5 => 5 | 0 => 0 | n => n, fun | n => n⟩
theorem Tryd.lays285 : Go.Proofs.Lays.n285 Tryd.prog Tryd.lays285_ren := {
  mixed := by kernel_rfl
  f285 := Tryd.func78.trans (congrArg some (by kernel_rfl))
  t0 := Tryd.underlying0
  a0 := Tryd.isAgg0
  z0 := Tryd.sizeOf0
  v0 := Tryd.zeroValue0
  t3 := Tryd.underlying3
  a3 := Tryd.isAgg3
  z3 := Tryd.sizeOf3
  v3 := Tryd.zeroValue3
  t4 := Tryd.underlying4
  a4 := Tryd.isAgg4
  z4 := Tryd.sizeOf4
  v4 := Tryd.zeroValue4
  t5 := Tryd.underlying5
  a5 := Tryd.isAgg5
  z5 := Tryd.sizeOf5
  v5 := Tryd.zeroValue5
  t9 := Tryd.underlying9
  a9 := Tryd.isAgg9
  z9 := Tryd.sizeOf9
  v9 := Tryd.zeroValue9
  t37 := Tryd.underlying39
  a37 := Tryd.isAgg39
  z37 := Tryd.sizeOf39
  v37 := Tryd.zeroValue39
  t51 := Tryd.underlying47
  a51 := Tryd.isAgg47
  z51 := Tryd.sizeOf47
  v51 := Tryd.zeroValue47
  t53 := Tryd.underlying25
  a53 := Tryd.isAgg25
  z53 := Tryd.sizeOf25
  v53 := Tryd.zeroValue25 }
open Go.RowKit Go.Sort Go.Lib in
/-- internal/strconv.formatBase10: "formatBase10 formats the decimal representation of u into a. The caller is responsible for ensuring that a is big enough to hold u. If a is too big, leading zeros will be filled in as needed.": THE ROW HOLDS u's DIGITS ('FmtInv .. 0 ..': every place t holds 'dg u (len - 1 - t)'); all else is as it was but for the count of draws. (LAID: no walk: one application.) -/
theorem Tryd.internal_strconv_formatBase10 (blk off cap : Nat) (u : Nat) (d : Array UInt8) (w : World) (hH : Holds (fun (b : UInt8) => Value.int .u8 (b.toNat : Int)) w blk off d) (hu : u < 10 ^ d.size) (hu64 : u < 18446744073709551616) (hsz : d.size < 4611686018427387904) :
    Calls Tryd.prog 78 #[.slice (some ⟨blk, off, none⟩) d.size cap, .int .u64 u] w fun e w' =>
      e = .returned (.tuple #[]) ∧ ∃ (n v' : Nat) (dk : Array UInt8), w' = (putRow (fun (b : UInt8) => Value.int .u8 (b.toNat : Int)) w blk off dk).drewN n ∧ FmtInv d.size u 0 v' dk := Any.internal_strconv_formatBase10 Tryd.lays285 blk off cap u d w hH hu hu64 hsz
def Tryd.lays264_ren : Go.Shelf.Ren := ⟨fun | 264 => 90 | n => n, fun | 53 => 25 | 46 => 29 | n => n, fun | n => n⟩
theorem Tryd.lays264 : Go.Proofs.Lays.n264 Tryd.prog Tryd.lays264_ren := {
  mixed := by kernel_rfl
  f264 := Tryd.func90.trans (congrArg some (by kernel_rfl))
  t46 := Tryd.underlying29
  a46 := Tryd.isAgg29
  z46 := Tryd.sizeOf29
  v46 := Tryd.zeroValue29
  t53 := Tryd.underlying25
  a53 := Tryd.isAgg25
  z53 := Tryd.sizeOf25
  v53 := Tryd.zeroValue25 }
open Go.RowKit Go.Lib in
theorem Tryd.bits_Mul64 (x y : Nat) (hx : x < 18446744073709551616) (hy : y < 18446744073709551616) (w : World) :
    Calls Tryd.prog 90 #[.int .u64 x, .int .u64 y] w fun e w' => e = .returned (.tuple #[.int .u64 ((x * y / 18446744073709551616 : Nat) : Int), .int .u64 ((x * y % 18446744073709551616 : Nat) : Int)]) ∧ w' = w := Any.bits_Mul64 Tryd.lays264 x y hx hy w
end Go.Proofs
-- YtiopeaponffmdaaDoorFa
namespace Go.Proofs.YtiopeaponffmdaaDoor.PAll
open Go.RowKit Go.Proofs.YtiopeaponffmdaaDoorW.PrintWords Go.Proofs.YtiopeaponffmdaaDoorW.PrintLast Go.Proofs.YtiopeaponffmdaaDoorW.PrintMore

theorem log10Pow2_calls (x : Int) (w : World) (h0 : -100000 ≤ x) (h1 : x ≤ 100000) :
    Calls Tryd.prog 61 #[.int .i64 x] w fun e w' => e = .returned (.int .i64 (x * 78913 / 262144)) ∧ w = w' := by
  go_enter Tryd.func61, Tryd.ntmps61
  go_wp2
  go_ret
  exact ⟨rfl, rfl⟩

theorem skewed_calls (x : Int) (w : World) (h0 : -100000 ≤ x) (h1 : x ≤ 100000) :
    Calls Tryd.prog 70 #[.int .i64 x] w fun e w' => e = .returned (.int .i64 ((x * 631305 - 261663) / 2097152)) ∧ w = w' := by
  go_enter Tryd.func70, Tryd.ntmps70
  go_wp2
  go_ret
  exact ⟨rfl, rfl⟩

theorem log2Pow10_calls (x : Int) (w : World) (h0 : -100000 ≤ x) (h1 : x ≤ 100000) :
    Calls Tryd.prog 72 #[.int .i64 x] w fun e w' => e = .returned (.int .i64 (x * 108853 / 32768)) ∧ w = w' := by
  go_enter Tryd.func72, Tryd.ntmps72
  go_wp2
  go_ret
  exact ⟨rfl, rfl⟩

theorem nudge_calls (u d : Int) (w : World) (h0 : 0 ≤ u + d) (h1 : u + d < 18446744073709551616) :
    Calls Tryd.prog 74 #[.int .u64 u, .int .i64 d] w fun e w' => e = .returned (.int .u64 (u + d)) ∧ w = w' := by
  go_enter Tryd.func74, Tryd.ntmps74
  go_wp2
  go_ret
  have e1 : IntKind.u64.wrap (u + IntKind.u64.wrap d) = u + d := by
    rw [IntKind.wrap_u64, IntKind.wrap_u64]; omega
  refine ⟨?_, rfl⟩
  simp [e1]

theorem ceil_calls (u : Int) (w : World) (h0 : 0 ≤ u) (h1 : u + 3 < 18446744073709551616) :
    Calls Tryd.prog 75 #[.int .u64 u] w fun e w' => e = .returned (.int .u64 ((u + 3) / 4)) ∧ w = w' := by
  go_enter Tryd.func75, Tryd.ntmps75
  go_wp2
  go_ret
  exact ⟨rfl, rfl⟩

theorem floor_calls (u : Int) (w : World) (h0 : 0 ≤ u) (h1 : u < 18446744073709551616) :
    Calls Tryd.prog 76 #[.int .u64 u] w fun e w' => e = .returned (.int .u64 (u / 4)) ∧ w = w' := by
  go_enter Tryd.func76, Tryd.ntmps76
  go_wp2
  go_ret
  exact ⟨rfl, rfl⟩

theorem round_calls (u : Int) (w : World) (h0 : 0 ≤ u) (h1 : u + 2 < 18446744073709551616) :
    Calls Tryd.prog 77 #[.int .u64 u] w fun e w' => e = .returned (.int .u64 ((u + 1 + u / 4 % 2) / 4)) ∧ w = w' := by
  go_enter Tryd.func77, Tryd.ntmps77
  go_wp2
  go_ret
  have e1 := and_one_u64 (u / 4) (by omega) (by omega)
  have e2 : IntKind.u64.wrap (u + 1 + u / 4 % 2) = u + 1 + u / 4 % 2 := IntWalk.u64_in _ (by omega)
  refine ⟨?_, rfl⟩
  simp [e1, e2]

theorem bool2u_t (w : World) : Calls Tryd.prog 91 #[.bool true] w fun e w' => e = .returned (.int .u64 1) ∧ w = w' := by
  go_enter Tryd.func91, Tryd.ntmps91; go_wp2; go_ret; exact ⟨rfl, rfl⟩
theorem bool2u_f (w : World) : Calls Tryd.prog 91 #[.bool false] w fun e w' => e = .returned (.int .u64 0) ∧ w = w' := by
  go_enter Tryd.func91, Tryd.ntmps91; go_wp2; go_ret; exact ⟨rfl, rfl⟩

theorem bool2u_t' (w : World) : Calls Tryd.prog 91 #[.bool true] w fun e w' => e = .returned (.int .u64 1) ∧ w' = w := (bool2u_t w).mono fun _ _ h => ⟨h.1, h.2.symm⟩
theorem bool2u_f' (w : World) : Calls Tryd.prog 91 #[.bool false] w fun e w' => e = .returned (.int .u64 0) ∧ w' = w := (bool2u_f w).mono fun _ _ h => ⟨h.1, h.2.symm⟩
theorem or_one_u64 (n : Nat) (h : n < 18446744073709551616) : bits .or .u64 (n : Int) 1 = ((n / 2 * 2 + 1 : Nat) : Int) := by
  have := u64_or_nat n 1 h (by omega)
  rw [Go.Lib.or_one_nat] at this
  exact this
theorem or_zero_u64 (n : Nat) (h : n < 18446744073709551616) : bits .or .u64 (n : Int) 0 = (n : Int) := by
  have := u64_or_nat n 0 h (by omega)
  rw [Nat.or_zero] at this
  exact this
theorem i64_and63 (s : Nat) (h : s < 64) : bits .and .i64 (s : Int) 63 = (s : Int) := by
  show IntKind.i64.wrap ((BitVec.ofInt 64 (s : Int) &&& BitVec.ofInt 64 ((63 : Nat) : Int)).toNat : Int) = _
  rw [BitVec.toNat_and, ofInt_u64 s (by omega), ofInt_u64 63 (by omega), nat_mask6, Nat.mod_eq_of_lt h]
  exact Go.Lib.wrap_i64_small _ (by omega)

theorem mul64_calls (x y a b : Nat) (hx : x < 18446744073709551616) (hy : y < 18446744073709551616) (ha : x * y / 18446744073709551616 = a) (hb : x * y % 18446744073709551616 = b) (w : World) :
    Calls Tryd.prog 90 #[.int .u64 (x : Int), .int .u64 (y : Int)] w fun e w' => e = .returned (.tuple #[.int .u64 (a : Int), .int .u64 (b : Int)]) ∧ w = w' := by
  subst ha hb
  exact (Tryd.bits_Mul64 x y hx hy w).mono fun e w' ⟨h1, h2⟩ => ⟨h1, h2.symm⟩

theorem div_pow_cast (H s : Nat) : (H : Int) / 2 ^ s = ((H / 2 ^ s : Nat) : Int) := by
  rw [Int.natCast_ediv]; simp
theorem pow_cast (H s : Nat) : (H : Int) * 2 ^ s = ((H * 2 ^ s : Nat) : Int) := by
  rw [Int.natCast_mul]; simp

set_option maxHeartbeats 800000 in
theorem uscale_calls (x g hi lo s : Nat) (w : World) (hx : x < 18446744073709551616) (hhi1 : 1 ≤ hi) (hhi : hi < 18446744073709551616) (hlo : lo < 18446744073709551616) (hs : s < 64)
    (c0 : w.cell? ⟨g, 0, none⟩ = some (.int .u64 (hi : Int))) (c1 : w.cell? ⟨g, 1, none⟩ = some (.int .u64 (lo : Int))) (c2 : w.cell? ⟨g, 2, none⟩ = some (.int .i64 (s : Int))) :
    Calls Tryd.prog 73 #[.int .u64 (x : Int), .pointer (some ⟨g, 0, none⟩)] w fun e w' => e = .returned (.int .u64 ((Fm.usc x hi lo s : Nat) : Int)) ∧ Drawn0 w w' := by
  have e63 := i64_and63 s hs
  obtain ⟨H, hH⟩ : ∃ H, x * hi / 18446744073709551616 = H := ⟨_, rfl⟩
  obtain ⟨M, hM⟩ : ∃ M, x * hi % 18446744073709551616 = M := ⟨_, rfl⟩
  obtain ⟨m2, hm2⟩ : ∃ m2, x * lo / 18446744073709551616 = m2 := ⟨_, rfl⟩
  obtain ⟨l2, hl2⟩ : ∃ l2, x * lo % 18446744073709551616 = l2 := ⟨_, rfl⟩
  have k1 := fun w' => mul64_calls x hi H M hx hhi hH hM w'
  have k2 := fun w' => mul64_calls x lo m2 l2 hx hlo hm2 hl2 w'
  have bH : H < 18446744073709551616 := by
    have : x * hi < 18446744073709551616 * 18446744073709551616 := Nat.mul_lt_mul'' hx hhi
    omega
  have bM : M < 18446744073709551616 := by omega
  have b2 : m2 < 18446744073709551616 := by
    have : x * lo < 18446744073709551616 * 18446744073709551616 := Nat.mul_lt_mul'' hx hlo
    omega
  have hq0 : H / 2 ^ s ≤ H := Nat.div_le_self _ _
  have hqm : H / 2 ^ s * 2 ^ s ≤ H := Nat.div_mul_le_self _ _
  have hU : Fm.usc x hi lo s = if H % 2 ^ s ≠ 0 then H / 2 ^ s / 2 * 2 + 1 else if (if M < m2 then M + 18446744073709551616 - m2 else M - m2) > 1 then (if M < m2 then H - 1 else H) / 2 ^ s / 2 * 2 + 1 else (if M < m2 then H - 1 else H) / 2 ^ s := by
    unfold Fm.usc
    subst hH hM hm2
    rfl
  have hmod : H % 2 ^ s = 0 ↔ H / 2 ^ s * 2 ^ s = H := by
    have := Nat.div_add_mod H (2 ^ s)
    rw [Nat.mul_comm] at this
    omega
  have hp : M < m2 → 1 ≤ H := by
    intro hlt
    refine Nat.pos_of_ne_zero fun h => ?_
    have a1 : x * 1 ≤ x * hi := Nat.mul_le_mul_left x hhi1
    have a2 : x * lo ≤ x * 18446744073709551616 := Nat.mul_le_mul_left x (by omega)
    have a3 : M = x * hi := by omega
    omega
  have HP := Lib.hid hp
  clear hp
  have K1 := Lib.hid k1
  have K2 := Lib.hid k2
  have HU := Lib.hid hU
  have HM := Lib.hid hmod
  clear k1 k2 hU hmod hH hM hm2 hl2
  obtain ⟨q, hq⟩ : ∃ q, H / 2 ^ s = q := ⟨_, rfl⟩
  obtain ⟨Z, hZ⟩ : ∃ Z, q * 2 ^ s = Z := ⟨_, rfl⟩
  have ed : (H : Int) / 2 ^ s = (q : Int) := by rw [div_pow_cast, hq]
  have em : IntKind.u64.wrap ((q : Int) * 2 ^ s) = (Z : Int) := by
    rw [pow_cast, hZ]; exact IntWalk.u64_in _ (by rw [hq, hZ] at hqm; omega)
  have bq : q < 18446744073709551616 := by omega
  have o1 := or_one_u64 q bq
  rw [hq, hZ] at HM
  clear hq0 hqm
  have HQ := Lib.hid hq
  clear hq hZ
  by_cases hr : Z = H
  · subst hr
    have hU2 := HU.out
    rw [if_neg (fun h => h (HM.out.2 rfl))] at hU2
    clear o1
    by_cases hlt : M < m2
    · have hpos : 1 ≤ Z := HP.out hlt
      have d1 : decide (M < m2) = true := decide_eq_true hlt
      have w1 : IntKind.u64.wrap ((M : Int) - (m2 : Int)) = ((M + 18446744073709551616 - m2 : Nat) : Int) := by
        rw [IntKind.wrap_u64]; omega
      have w2 : IntKind.u64.wrap ((Z : Int) - 1) = ((Z - 1 : Nat) : Int) := by
        rw [IntKind.wrap_u64]; omega
      simp only [if_pos hlt] at hU2
      obtain ⟨D, hD⟩ : ∃ D, M + 18446744073709551616 - m2 = D := ⟨_, rfl⟩
      rw [hD] at w1 hU2
      have HD := Lib.hid hD
      clear hD
      obtain ⟨Y, hY⟩ : ∃ Y, Z - 1 = Y := ⟨_, rfl⟩
      rw [hY] at w2 hU2
      have bY : Y < 18446744073709551616 := by omega
      have HY := Lib.hid hY
      clear hY
      obtain ⟨qq, hqq⟩ : ∃ qq, Y / 2 ^ s = qq := ⟨_, rfl⟩
      have bqq : qq < 18446744073709551616 := by have := Nat.div_le_self Y (2 ^ s); omega
      have edd : (Y : Int) / 2 ^ s = (qq : Int) := by rw [div_pow_cast, hqq]
      rw [hqq] at hU2
      have Hqq := Lib.hid hqq
      clear hqq
      by_cases hg : D > 1
      · have d2 : decide ((1 : Int) < (D : Int)) = true := decide_eq_true (by omega)
        rw [if_pos hg] at hU2
        have HU2 := Lib.hid hU2
        clear hU2
        go_enter Tryd.func73, Tryd.ntmps73
        go_wp2_with (fail)
        refine (K1.out _).mono ?_
        rintro e w' ⟨rfl, rfl⟩
        go_wp2_with (fail)
        refine (K2.out _).mono ?_
        rintro e w' ⟨rfl, rfl⟩
        go_wp2_with (fail)
        refine (bool2u_t _).mono ?_
        rintro e w' ⟨rfl, rfl⟩
        go_wp2_with (fail)
        go_quiet ((go_at_call 91; exact Calls.quiet_of_same (bool2u_t' _)))
        go_wp2_with (fail)
        go_ret
        exact ⟨by rw [HU2.out]; exact congrArg (fun z => Ending.returned (.int .u64 z)) (or_one_u64 qq bqq), ⟨⟨_, rfl⟩⟩⟩
      · have d2 : decide ((1 : Int) < (D : Int)) = false := decide_eq_false (by omega)
        rw [if_neg hg] at hU2
        have HU2 := Lib.hid hU2
        clear hU2
        go_enter Tryd.func73, Tryd.ntmps73
        go_wp2_with (fail)
        refine (K1.out _).mono ?_
        rintro e w' ⟨rfl, rfl⟩
        go_wp2_with (fail)
        refine (K2.out _).mono ?_
        rintro e w' ⟨rfl, rfl⟩
        go_wp2_with (fail)
        refine (bool2u_t _).mono ?_
        rintro e w' ⟨rfl, rfl⟩
        go_wp2_with (fail)
        go_quiet ((go_at_call 91; exact Calls.quiet_of_same (bool2u_f' _)))
        go_wp2_with (fail)
        go_ret
        exact ⟨by rw [HU2.out]; exact congrArg (fun z => Ending.returned (.int .u64 z)) (or_zero_u64 qq bqq), ⟨⟨_, rfl⟩⟩⟩
    · have d1 : decide (M < m2) = false := decide_eq_false hlt
      have w1 : IntKind.u64.wrap ((M : Int) - (m2 : Int)) = ((M - m2 : Nat) : Int) := by
        rw [IntKind.wrap_u64]; omega
      simp only [if_neg hlt] at hU2
      obtain ⟨D, hD⟩ : ∃ D, M - m2 = D := ⟨_, rfl⟩
      rw [hD] at w1 hU2
      have HD := Lib.hid hD
      clear hD
      rw [HQ.out] at hU2
      by_cases hg : D > 1
      · have d2 : decide ((1 : Int) < (D : Int)) = true := decide_eq_true (by omega)
        rw [if_pos hg] at hU2
        have HU2 := Lib.hid hU2
        clear hU2
        go_enter Tryd.func73, Tryd.ntmps73
        go_wp2_with (fail)
        refine (K1.out _).mono ?_
        rintro e w' ⟨rfl, rfl⟩
        go_wp2_with (fail)
        refine (K2.out _).mono ?_
        rintro e w' ⟨rfl, rfl⟩
        go_wp2_with (fail)
        refine (bool2u_f _).mono ?_
        rintro e w' ⟨rfl, rfl⟩
        go_wp2_with (fail)
        go_quiet ((go_at_call 91; exact Calls.quiet_of_same (bool2u_t' _)))
        go_wp2_with (fail)
        go_ret
        exact ⟨by rw [HU2.out]; exact congrArg (fun z => Ending.returned (.int .u64 z)) (or_one_u64 q bq), ⟨⟨_, rfl⟩⟩⟩
      · have d2 : decide ((1 : Int) < (D : Int)) = false := decide_eq_false (by omega)
        rw [if_neg hg] at hU2
        have HU2 := Lib.hid hU2
        clear hU2
        go_enter Tryd.func73, Tryd.ntmps73
        go_wp2_with (fail)
        refine (K1.out _).mono ?_
        rintro e w' ⟨rfl, rfl⟩
        go_wp2_with (fail)
        refine (K2.out _).mono ?_
        rintro e w' ⟨rfl, rfl⟩
        go_wp2_with (fail)
        refine (bool2u_f _).mono ?_
        rintro e w' ⟨rfl, rfl⟩
        go_wp2_with (fail)
        go_quiet ((go_at_call 91; exact Calls.quiet_of_same (bool2u_f' _)))
        go_wp2_with (fail)
        go_ret
        exact ⟨by rw [HU2.out]; exact congrArg (fun z => Ending.returned (.int .u64 z)) (or_zero_u64 q bq), ⟨⟨_, rfl⟩⟩⟩
  · have t1 : ((Z : Int) != (H : Int)) = true := by rw [bne_iff_ne]; omega
    have fin : Fm.usc x hi lo s = q / 2 * 2 + 1 := by
      rw [HU.out, if_pos (fun h => hr (HM.out.1 h)), HQ.out]
    have FIN := Lib.hid fin
    clear fin
    have O1 := Lib.hid o1
    clear o1
    go_enter Tryd.func73, Tryd.ntmps73
    go_wp2_with (fail)
    refine (K1.out _).mono ?_
    rintro e w' ⟨rfl, rfl⟩
    go_wp2_with (fail)
    go_ret
    exact ⟨by rw [FIN.out, ← O1.out]; rfl, Drawn0.refl _⟩
end Go.Proofs.YtiopeaponffmdaaDoor.PAll
-- YtiopeaponffmdaaDoorFb
namespace Go.Proofs.YtiopeaponffmdaaDoor.PAll
open Go.RowKit Go.Proofs.YtiopeaponffmdaaDoorW.PrintWords Go.Proofs.YtiopeaponffmdaaDoorW.PrintLast Go.Proofs.YtiopeaponffmdaaDoorW.PrintMore

set_option maxHeartbeats 800000 in
set_option maxRecDepth 100000 in
theorem prescale_new (e p lp hi lo : Int) (w : World) (h3 : 3 < w.heap.size) (he0 : -100000 ≤ e) (he1 : e ≤ 100000) (hl0 : -100000 ≤ lp) (hl1 : lp ≤ 100000)
    (hp0 : -348 ≤ p) (hp1 : p ≤ 347) (hhi : w.cell? ⟨3, (p + 348).toNat * 2, none⟩ = some (.int .u64 hi)) (hlo : w.cell? ⟨3, (p + 348).toNat * 2 + 1, none⟩ = some (.int .u64 lo)) :
    Calls Tryd.prog 71 #[.pointer (some ⟨w.heap.size, 0, none⟩), .int .i64 e, .int .i64 p, .int .i64 lp] (w.alloc (.cells #[.int .u64 0, .int .u64 0, .int .i64 0] 100)) fun e' w' =>
      e' = .returned (.tuple #[]) ∧ w.alloc (.cells #[.int .u64 hi, .int .u64 lo, .int .i64 (-(e + lp + 3))] 100) = w' := by
  have hne : (3 : Nat) ≠ w.heap.size := by omega
  go_enter Tryd.func71, Tryd.ntmps71
  go_wp2
  go_end0
  exact ⟨rfl, rfl⟩

/-- what shortFloat answers, by the three unrounded numbers -/
def sfRes (u1 u2 u3 od : Nat) (p : Int) : Nat × Int :=
  if (u1 + od + 3) / 4 ≤ (u2 - od) / 4 / 10 * 10 then ((u2 - od) / 4 / 10, -(p - 1))
  else if (u1 + od + 3) / 4 < (u2 - od) / 4 then ((u3 + 1 + u3 / 4 % 2) / 4, -p) else ((u1 + od + 3) / 4, -p)

set_option maxHeartbeats 6400000 in
set_option maxRecDepth 100000 in
theorem short32A (m mn mx od u1 u2 u3 s hi lo : Nat) (e p lp : Int) (w : World) (h3 : 3 < w.heap.size) (h1 : m < 18446744073709551616) (he0 : -189 < e) (he1 : e ≤ 2000)
    (c1 : ((m : Int) == 9223372036854775808) = true)
    (hp : -(((e + 40) * 631305 - 261663) / 2097152) = p) (hlp : p * 108853 / 32768 = lp) (hp0 : -348 ≤ p) (hp1 : p ≤ 347)
    (hmn : IntKind.u64.wrap ((m : Int) - 274877906944) = (mn : Int)) (hmx : IntKind.u64.wrap ((m : Int) + 549755813888) = (mx : Int)) (hod : bits .and .i64 ((m : Int) / 1099511627776) 1 = (od : Int))
    (bmn : mn < 18446744073709551616) (bmx : mx < 18446744073709551616) (bod : od ≤ 1)
    (hhi : w.cell? ⟨3, (p + 348).toNat * 2, none⟩ = some (.int .u64 (hi : Int))) (hlo : w.cell? ⟨3, (p + 348).toNat * 2 + 1, none⟩ = some (.int .u64 (lo : Int)))
    (bhi : 1 ≤ hi) (bhi2 : hi < 18446744073709551616) (blo : lo < 18446744073709551616) (hs : -(e + lp + 3) = (s : Int)) (bs : s < 64)
    (hu1 : Fm.usc mn hi lo s = u1) (hu2 : Fm.usc mx hi lo s = u2) (hu3 : Fm.usc m hi lo s = u3) (b1 : u1 + 10 < 18446744073709551616) (b2 : u2 + 10 < 18446744073709551616) (b21 : 1 ≤ u2) (b3 : u3 + 10 < 18446744073709551616) :
    Calls Tryd.prog 58 #[.int .u64 (m : Int), .int .i64 e] w fun e' w' => e' = .returned (.tuple #[.int .u64 ((sfRes u1 u2 u3 od p).1 : Int), .int .i64 (sfRes u1 u2 u3 od p).2]) ∧ Below w.heap.size w w' := by
  have U1 := fun w' c0 c1 c2 => uscale_calls mn w.heap.size hi lo s w' bmn bhi bhi2 blo bs c0 c1 c2
  have U2 := fun w' c0 c1 c2 => uscale_calls mx w.heap.size hi lo s w' bmx bhi bhi2 blo bs c0 c1 c2
  have U3 := fun w' c0 c1 c2 => uscale_calls m w.heap.size hi lo s w' h1 bhi bhi2 blo bs c0 c1 c2
  rw [hu1] at U1; rw [hu2] at U2; rw [hu3] at U3
  have P := prescale_new e p lp hi lo w h3 (by omega) (by omega) (by omega) (by omega) hp0 hp1 hhi hlo
  rw [hs] at P
  have HU1 := Lib.hid U1; have HU2 := Lib.hid U2; have HU3 := Lib.hid U3; have HP := Lib.hid P
  clear U1 U2 U3 P hu1 hu2 hu3 hs hhi hlo
  obtain ⟨v1, hv1⟩ : ∃ v, u1 + od = v := ⟨_, rfl⟩
  obtain ⟨v2, hv2⟩ : ∃ v, u2 - od = v := ⟨_, rfl⟩
  obtain ⟨dmin, hdmin⟩ : ∃ v, (v1 + 3) / 4 = v := ⟨_, rfl⟩
  obtain ⟨dmax, hdmax⟩ : ∃ v, v2 / 4 = v := ⟨_, rfl⟩
  obtain ⟨dr, hdr⟩ : ∃ v, (u3 + 1 + u3 / 4 % 2) / 4 = v := ⟨_, rfl⟩
  obtain ⟨t, ht⟩ : ∃ v, dmax / 10 = v := ⟨_, rfl⟩
  have N1 : ∀ w, Calls Tryd.prog 74 #[.int .u64 (u1 : Int), .int .i64 (od : Int)] w fun e w' => e = .returned (.int .u64 (v1 : Int)) ∧ w = w' := fun w => by
    have h := nudge_calls (u1 : Int) (od : Int) w (by omega) (by omega)
    rwa [show (u1 : Int) + (od : Int) = (v1 : Int) by omega] at h
  have N2 : ∀ w, Calls Tryd.prog 74 #[.int .u64 (u2 : Int), .int .i64 (-(od : Int))] w fun e w' => e = .returned (.int .u64 (v2 : Int)) ∧ w = w' := fun w => by
    have h := nudge_calls (u2 : Int) (-(od : Int)) w (by omega) (by omega)
    rwa [show (u2 : Int) + -(od : Int) = (v2 : Int) by omega] at h
  have C1 : ∀ w, Calls Tryd.prog 75 #[.int .u64 (v1 : Int)] w fun e w' => e = .returned (.int .u64 (dmin : Int)) ∧ w = w' := fun w => by
    have h := ceil_calls (v1 : Int) w (by omega) (by omega)
    rwa [show ((v1 : Int) + 3) / 4 = (dmin : Int) by omega] at h
  have F1 : ∀ w, Calls Tryd.prog 76 #[.int .u64 (v2 : Int)] w fun e w' => e = .returned (.int .u64 (dmax : Int)) ∧ w = w' := fun w => by
    have h := floor_calls (v2 : Int) w (by omega) (by omega)
    rwa [show (v2 : Int) / 4 = (dmax : Int) by omega] at h
  have R1 : ∀ w, Calls Tryd.prog 77 #[.int .u64 (u3 : Int)] w fun e w' => e = .returned (.int .u64 (dr : Int)) ∧ w = w' := fun w => by
    have h := round_calls (u3 : Int) w (by omega) (by omega)
    rwa [show ((u3 : Int) + 1 + (u3 : Int) / 4 % 2) / 4 = (dr : Int) by omega] at h
  have HN1 := Lib.hid N1; have HN2 := Lib.hid N2; have HC1 := Lib.hid C1; have HF1 := Lib.hid F1; have HR1 := Lib.hid R1
  have hfin : sfRes u1 u2 u3 od p = if dmin ≤ t * 10 then (t, -(p - 1)) else if dmin < dmax then (dr, -p) else (dmin, -p) := by
    unfold sfRes; rw [hv1, hv2, hdmin, hdmax, hdr, ht]
  have bdmax : dmax < 4611686018427387904 := by omega
  have bt : t * 10 ≤ dmax := by omega
  have e10 : (dmax : Int) / 10 = (t : Int) := by omega
  clear N1 N2 C1 F1 R1 hv1 hv2 hdmin hdmax hdr ht b1 b2 b3 b21
  by_cases q1 : dmin ≤ t * 10
  · rw [if_pos q1] at hfin
    have HFIN := Lib.hid hfin
    clear hfin
    go_enter Tryd.func58, Tryd.ntmps58
    go_wp2_with (fail)
    refine (skewed_calls _ _ (by omega) (by omega)).mono ?_
    rintro e w' ⟨rfl, rfl⟩
    go_wp2_with (fail)
    refine (log2Pow10_calls _ _ (by omega) (by omega)).mono ?_
    rintro e w' ⟨rfl, rfl⟩
    go_wp2_with (fail)
    refine HP.out.mono ?_
    rintro e w' ⟨rfl, rfl⟩
    go_wp2_with (fail)
    refine (HU1.out _ ?c0a ?c1a ?c2a).mono ?_
    case c0a => simp
    case c1a => simp
    case c2a => simp
    rintro e w' ⟨rfl, ⟨⟨n1, rfl⟩⟩⟩
    go_wp2_with (fail)
    refine (HN1.out _).mono ?_
    rintro e w' ⟨rfl, rfl⟩
    go_wp2_with (fail)
    refine (HC1.out _).mono ?_
    rintro e w' ⟨rfl, rfl⟩
    go_wp2_with (fail)
    refine (HU2.out _ ?c3a ?c4a ?c5a).mono ?_
    case c3a => simp
    case c4a => simp
    case c5a => simp
    rintro e w' ⟨rfl, ⟨⟨n2, rfl⟩⟩⟩
    go_wp2_with (fail)
    refine (HN2.out _).mono ?_
    rintro e w' ⟨rfl, rfl⟩
    go_wp2_with (fail)
    refine (HF1.out _).mono ?_
    rintro e w' ⟨rfl, rfl⟩
    go_wp2_with (fail)
    go_ret2
    exact ⟨by rw [HFIN.out]; rfl, by repeat (first | exact Below.refl _ _ | apply pw_below_drewN | apply below_alloc)⟩
  · rw [if_neg q1] at hfin
    by_cases q2 : dmin < dmax
    · rw [if_pos q2] at hfin
      have HFIN := Lib.hid hfin
      clear hfin
      go_enter Tryd.func58, Tryd.ntmps58
      go_wp2_with (fail)
      refine (skewed_calls _ _ (by omega) (by omega)).mono ?_
      rintro e w' ⟨rfl, rfl⟩
      go_wp2_with (fail)
      refine (log2Pow10_calls _ _ (by omega) (by omega)).mono ?_
      rintro e w' ⟨rfl, rfl⟩
      go_wp2_with (fail)
      refine HP.out.mono ?_
      rintro e w' ⟨rfl, rfl⟩
      go_wp2_with (fail)
      refine (HU1.out _ ?c0b ?c1b ?c2b).mono ?_
      case c0b => simp
      case c1b => simp
      case c2b => simp
      rintro e w' ⟨rfl, ⟨⟨n1, rfl⟩⟩⟩
      go_wp2_with (fail)
      refine (HN1.out _).mono ?_
      rintro e w' ⟨rfl, rfl⟩
      go_wp2_with (fail)
      refine (HC1.out _).mono ?_
      rintro e w' ⟨rfl, rfl⟩
      go_wp2_with (fail)
      refine (HU2.out _ ?c3b ?c4b ?c5b).mono ?_
      case c3b => simp
      case c4b => simp
      case c5b => simp
      rintro e w' ⟨rfl, ⟨⟨n2, rfl⟩⟩⟩
      go_wp2_with (fail)
      refine (HN2.out _).mono ?_
      rintro e w' ⟨rfl, rfl⟩
      go_wp2_with (fail)
      refine (HF1.out _).mono ?_
      rintro e w' ⟨rfl, rfl⟩
      go_wp2_with (fail)
      refine (HU3.out _ ?c6b ?c7b ?c8b).mono ?_
      case c6b => simp
      case c7b => simp
      case c8b => simp
      rintro e w' ⟨rfl, ⟨⟨n3, rfl⟩⟩⟩
      go_wp2_with (fail)
      refine (HR1.out _).mono ?_
      rintro e w' ⟨rfl, rfl⟩
      go_wp2_with (fail)
      go_ret2
      exact ⟨by rw [HFIN.out]; rfl, by repeat (first | exact Below.refl _ _ | apply pw_below_drewN | apply below_alloc)⟩
    · rw [if_neg q2] at hfin
      have HFIN := Lib.hid hfin
      clear hfin
      go_enter Tryd.func58, Tryd.ntmps58
      go_wp2_with (fail)
      refine (skewed_calls _ _ (by omega) (by omega)).mono ?_
      rintro e w' ⟨rfl, rfl⟩
      go_wp2_with (fail)
      refine (log2Pow10_calls _ _ (by omega) (by omega)).mono ?_
      rintro e w' ⟨rfl, rfl⟩
      go_wp2_with (fail)
      refine HP.out.mono ?_
      rintro e w' ⟨rfl, rfl⟩
      go_wp2_with (fail)
      refine (HU1.out _ ?c0c ?c1c ?c2c).mono ?_
      case c0c => simp
      case c1c => simp
      case c2c => simp
      rintro e w' ⟨rfl, ⟨⟨n1, rfl⟩⟩⟩
      go_wp2_with (fail)
      refine (HN1.out _).mono ?_
      rintro e w' ⟨rfl, rfl⟩
      go_wp2_with (fail)
      refine (HC1.out _).mono ?_
      rintro e w' ⟨rfl, rfl⟩
      go_wp2_with (fail)
      refine (HU2.out _ ?c3c ?c4c ?c5c).mono ?_
      case c3c => simp
      case c4c => simp
      case c5c => simp
      rintro e w' ⟨rfl, ⟨⟨n2, rfl⟩⟩⟩
      go_wp2_with (fail)
      refine (HN2.out _).mono ?_
      rintro e w' ⟨rfl, rfl⟩
      go_wp2_with (fail)
      refine (HF1.out _).mono ?_
      rintro e w' ⟨rfl, rfl⟩
      go_wp2_with (fail)
      go_ret2
      exact ⟨by rw [HFIN.out]; rfl, by repeat (first | exact Below.refl _ _ | apply pw_below_drewN | apply below_alloc)⟩

set_option maxHeartbeats 6400000 in
set_option maxRecDepth 100000 in
theorem short32B (m mn mx od u1 u2 u3 s hi lo : Nat) (e p lp : Int) (w : World) (h3 : 3 < w.heap.size) (h1 : m < 18446744073709551616) (he0 : -189 ≤ e) (he1 : e ≤ 2000)
    (t1 : ¬ (m = 9223372036854775808 ∧ -189 < e))
    (hp : -((e + 40) * 78913 / 262144) = p) (hlp : p * 108853 / 32768 = lp) (hp0 : -348 ≤ p) (hp1 : p ≤ 347)
    (hmn : IntKind.u64.wrap ((m : Int) - 549755813888) = (mn : Int)) (hmx : IntKind.u64.wrap ((m : Int) + 549755813888) = (mx : Int)) (hod : bits .and .i64 ((m : Int) / 1099511627776) 1 = (od : Int))
    (bmn : mn < 18446744073709551616) (bmx : mx < 18446744073709551616) (bod : od ≤ 1)
    (hhi : w.cell? ⟨3, (p + 348).toNat * 2, none⟩ = some (.int .u64 (hi : Int))) (hlo : w.cell? ⟨3, (p + 348).toNat * 2 + 1, none⟩ = some (.int .u64 (lo : Int)))
    (bhi : 1 ≤ hi) (bhi2 : hi < 18446744073709551616) (blo : lo < 18446744073709551616) (hs : -(e + lp + 3) = (s : Int)) (bs : s < 64)
    (hu1 : Fm.usc mn hi lo s = u1) (hu2 : Fm.usc mx hi lo s = u2) (hu3 : Fm.usc m hi lo s = u3) (b1 : u1 + 10 < 18446744073709551616) (b2 : u2 + 10 < 18446744073709551616) (b21 : 1 ≤ u2) (b3 : u3 + 10 < 18446744073709551616) :
    Calls Tryd.prog 58 #[.int .u64 (m : Int), .int .i64 e] w fun e' w' => e' = .returned (.tuple #[.int .u64 ((sfRes u1 u2 u3 od p).1 : Int), .int .i64 (sfRes u1 u2 u3 od p).2]) ∧ Below w.heap.size w w' := by
  have U1 := fun w' c0 c1 c2 => uscale_calls mn w.heap.size hi lo s w' bmn bhi bhi2 blo bs c0 c1 c2
  have U2 := fun w' c0 c1 c2 => uscale_calls mx w.heap.size hi lo s w' bmx bhi bhi2 blo bs c0 c1 c2
  have U3 := fun w' c0 c1 c2 => uscale_calls m w.heap.size hi lo s w' h1 bhi bhi2 blo bs c0 c1 c2
  rw [hu1] at U1; rw [hu2] at U2; rw [hu3] at U3
  have P := prescale_new e p lp hi lo w h3 (by omega) (by omega) (by omega) (by omega) hp0 hp1 hhi hlo
  rw [hs] at P
  have HU1 := Lib.hid U1; have HU2 := Lib.hid U2; have HU3 := Lib.hid U3; have HP := Lib.hid P
  clear U1 U2 U3 P hu1 hu2 hu3 hs hhi hlo
  obtain ⟨v1, hv1⟩ : ∃ v, u1 + od = v := ⟨_, rfl⟩
  obtain ⟨v2, hv2⟩ : ∃ v, u2 - od = v := ⟨_, rfl⟩
  obtain ⟨dmin, hdmin⟩ : ∃ v, (v1 + 3) / 4 = v := ⟨_, rfl⟩
  obtain ⟨dmax, hdmax⟩ : ∃ v, v2 / 4 = v := ⟨_, rfl⟩
  obtain ⟨dr, hdr⟩ : ∃ v, (u3 + 1 + u3 / 4 % 2) / 4 = v := ⟨_, rfl⟩
  obtain ⟨t, ht⟩ : ∃ v, dmax / 10 = v := ⟨_, rfl⟩
  have N1 : ∀ w, Calls Tryd.prog 74 #[.int .u64 (u1 : Int), .int .i64 (od : Int)] w fun e w' => e = .returned (.int .u64 (v1 : Int)) ∧ w = w' := fun w => by
    have h := nudge_calls (u1 : Int) (od : Int) w (by omega) (by omega)
    rwa [show (u1 : Int) + (od : Int) = (v1 : Int) by omega] at h
  have N2 : ∀ w, Calls Tryd.prog 74 #[.int .u64 (u2 : Int), .int .i64 (-(od : Int))] w fun e w' => e = .returned (.int .u64 (v2 : Int)) ∧ w = w' := fun w => by
    have h := nudge_calls (u2 : Int) (-(od : Int)) w (by omega) (by omega)
    rwa [show (u2 : Int) + -(od : Int) = (v2 : Int) by omega] at h
  have C1 : ∀ w, Calls Tryd.prog 75 #[.int .u64 (v1 : Int)] w fun e w' => e = .returned (.int .u64 (dmin : Int)) ∧ w = w' := fun w => by
    have h := ceil_calls (v1 : Int) w (by omega) (by omega)
    rwa [show ((v1 : Int) + 3) / 4 = (dmin : Int) by omega] at h
  have F1 : ∀ w, Calls Tryd.prog 76 #[.int .u64 (v2 : Int)] w fun e w' => e = .returned (.int .u64 (dmax : Int)) ∧ w = w' := fun w => by
    have h := floor_calls (v2 : Int) w (by omega) (by omega)
    rwa [show (v2 : Int) / 4 = (dmax : Int) by omega] at h
  have R1 : ∀ w, Calls Tryd.prog 77 #[.int .u64 (u3 : Int)] w fun e w' => e = .returned (.int .u64 (dr : Int)) ∧ w = w' := fun w => by
    have h := round_calls (u3 : Int) w (by omega) (by omega)
    rwa [show ((u3 : Int) + 1 + (u3 : Int) / 4 % 2) / 4 = (dr : Int) by omega] at h
  have HN1 := Lib.hid N1; have HN2 := Lib.hid N2; have HC1 := Lib.hid C1; have HF1 := Lib.hid F1; have HR1 := Lib.hid R1
  have hfin : sfRes u1 u2 u3 od p = if dmin ≤ t * 10 then (t, -(p - 1)) else if dmin < dmax then (dr, -p) else (dmin, -p) := by
    unfold sfRes; rw [hv1, hv2, hdmin, hdmax, hdr, ht]
  have bdmax : dmax < 4611686018427387904 := by omega
  have bt : t * 10 ≤ dmax := by omega
  have e10 : (dmax : Int) / 10 = (t : Int) := by omega
  clear N1 N2 C1 F1 R1 hv1 hv2 hdmin hdmax hdr ht b1 b2 b3 b21
  by_cases c1 : ((m : Int) == 9223372036854775808) = true
  · have c2 : e = -189 := by
      have : m = 9223372036854775808 := by have := eq_of_beq c1; omega
      omega
    have c3 : ¬ (-189 < e) := by omega
    clear t1 c2
    by_cases q1 : dmin ≤ t * 10
    · rw [if_pos q1] at hfin
      have HFIN := Lib.hid hfin
      clear hfin
      go_enter Tryd.func58, Tryd.ntmps58
      go_wp2_with (fail)
      refine (log10Pow2_calls _ _ (by omega) (by omega)).mono ?_
      rintro e w' ⟨rfl, rfl⟩
      go_wp2_with (fail)
      refine (log2Pow10_calls _ _ (by omega) (by omega)).mono ?_
      rintro e w' ⟨rfl, rfl⟩
      go_wp2_with (fail)
      refine HP.out.mono ?_
      rintro e w' ⟨rfl, rfl⟩
      go_wp2_with (fail)
      refine (HU1.out _ ?c0xa ?c1xa ?c2xa).mono ?_
      case c0xa => simp
      case c1xa => simp
      case c2xa => simp
      rintro e w' ⟨rfl, ⟨⟨n1, rfl⟩⟩⟩
      go_wp2_with (fail)
      refine (HN1.out _).mono ?_
      rintro e w' ⟨rfl, rfl⟩
      go_wp2_with (fail)
      refine (HC1.out _).mono ?_
      rintro e w' ⟨rfl, rfl⟩
      go_wp2_with (fail)
      refine (HU2.out _ ?c3xa ?c4xa ?c5xa).mono ?_
      case c3xa => simp
      case c4xa => simp
      case c5xa => simp
      rintro e w' ⟨rfl, ⟨⟨n2, rfl⟩⟩⟩
      go_wp2_with (fail)
      refine (HN2.out _).mono ?_
      rintro e w' ⟨rfl, rfl⟩
      go_wp2_with (fail)
      refine (HF1.out _).mono ?_
      rintro e w' ⟨rfl, rfl⟩
      go_wp2_with (fail)
      go_ret2
      exact ⟨by rw [HFIN.out]; rfl, by repeat (first | exact Below.refl _ _ | apply pw_below_drewN | apply below_alloc)⟩
    · rw [if_neg q1] at hfin
      by_cases q2 : dmin < dmax
      · rw [if_pos q2] at hfin
        have HFIN := Lib.hid hfin
        clear hfin
        go_enter Tryd.func58, Tryd.ntmps58
        go_wp2_with (fail)
        refine (log10Pow2_calls _ _ (by omega) (by omega)).mono ?_
        rintro e w' ⟨rfl, rfl⟩
        go_wp2_with (fail)
        refine (log2Pow10_calls _ _ (by omega) (by omega)).mono ?_
        rintro e w' ⟨rfl, rfl⟩
        go_wp2_with (fail)
        refine HP.out.mono ?_
        rintro e w' ⟨rfl, rfl⟩
        go_wp2_with (fail)
        refine (HU1.out _ ?c0xb ?c1xb ?c2xb).mono ?_
        case c0xb => simp
        case c1xb => simp
        case c2xb => simp
        rintro e w' ⟨rfl, ⟨⟨n1, rfl⟩⟩⟩
        go_wp2_with (fail)
        refine (HN1.out _).mono ?_
        rintro e w' ⟨rfl, rfl⟩
        go_wp2_with (fail)
        refine (HC1.out _).mono ?_
        rintro e w' ⟨rfl, rfl⟩
        go_wp2_with (fail)
        refine (HU2.out _ ?c3xb ?c4xb ?c5xb).mono ?_
        case c3xb => simp
        case c4xb => simp
        case c5xb => simp
        rintro e w' ⟨rfl, ⟨⟨n2, rfl⟩⟩⟩
        go_wp2_with (fail)
        refine (HN2.out _).mono ?_
        rintro e w' ⟨rfl, rfl⟩
        go_wp2_with (fail)
        refine (HF1.out _).mono ?_
        rintro e w' ⟨rfl, rfl⟩
        go_wp2_with (fail)
        refine (HU3.out _ ?c6xb ?c7xb ?c8xb).mono ?_
        case c6xb => simp
        case c7xb => simp
        case c8xb => simp
        rintro e w' ⟨rfl, ⟨⟨n3, rfl⟩⟩⟩
        go_wp2_with (fail)
        refine (HR1.out _).mono ?_
        rintro e w' ⟨rfl, rfl⟩
        go_wp2_with (fail)
        go_ret2
        exact ⟨by rw [HFIN.out]; rfl, by repeat (first | exact Below.refl _ _ | apply pw_below_drewN | apply below_alloc)⟩
      · rw [if_neg q2] at hfin
        have HFIN := Lib.hid hfin
        clear hfin
        go_enter Tryd.func58, Tryd.ntmps58
        go_wp2_with (fail)
        refine (log10Pow2_calls _ _ (by omega) (by omega)).mono ?_
        rintro e w' ⟨rfl, rfl⟩
        go_wp2_with (fail)
        refine (log2Pow10_calls _ _ (by omega) (by omega)).mono ?_
        rintro e w' ⟨rfl, rfl⟩
        go_wp2_with (fail)
        refine HP.out.mono ?_
        rintro e w' ⟨rfl, rfl⟩
        go_wp2_with (fail)
        refine (HU1.out _ ?c0xc ?c1xc ?c2xc).mono ?_
        case c0xc => simp
        case c1xc => simp
        case c2xc => simp
        rintro e w' ⟨rfl, ⟨⟨n1, rfl⟩⟩⟩
        go_wp2_with (fail)
        refine (HN1.out _).mono ?_
        rintro e w' ⟨rfl, rfl⟩
        go_wp2_with (fail)
        refine (HC1.out _).mono ?_
        rintro e w' ⟨rfl, rfl⟩
        go_wp2_with (fail)
        refine (HU2.out _ ?c3xc ?c4xc ?c5xc).mono ?_
        case c3xc => simp
        case c4xc => simp
        case c5xc => simp
        rintro e w' ⟨rfl, ⟨⟨n2, rfl⟩⟩⟩
        go_wp2_with (fail)
        refine (HN2.out _).mono ?_
        rintro e w' ⟨rfl, rfl⟩
        go_wp2_with (fail)
        refine (HF1.out _).mono ?_
        rintro e w' ⟨rfl, rfl⟩
        go_wp2_with (fail)
        go_ret2
        exact ⟨by rw [HFIN.out]; rfl, by repeat (first | exact Below.refl _ _ | apply pw_below_drewN | apply below_alloc)⟩
  · have c1 : ((m : Int) == 9223372036854775808) = false := by simpa using c1
    clear t1
    by_cases q1 : dmin ≤ t * 10
    · rw [if_pos q1] at hfin
      have HFIN := Lib.hid hfin
      clear hfin
      go_enter Tryd.func58, Tryd.ntmps58
      go_wp2_with (fail)
      refine (log10Pow2_calls _ _ (by omega) (by omega)).mono ?_
      rintro e w' ⟨rfl, rfl⟩
      go_wp2_with (fail)
      refine (log2Pow10_calls _ _ (by omega) (by omega)).mono ?_
      rintro e w' ⟨rfl, rfl⟩
      go_wp2_with (fail)
      refine HP.out.mono ?_
      rintro e w' ⟨rfl, rfl⟩
      go_wp2_with (fail)
      refine (HU1.out _ ?c0ya ?c1ya ?c2ya).mono ?_
      case c0ya => simp
      case c1ya => simp
      case c2ya => simp
      rintro e w' ⟨rfl, ⟨⟨n1, rfl⟩⟩⟩
      go_wp2_with (fail)
      refine (HN1.out _).mono ?_
      rintro e w' ⟨rfl, rfl⟩
      go_wp2_with (fail)
      refine (HC1.out _).mono ?_
      rintro e w' ⟨rfl, rfl⟩
      go_wp2_with (fail)
      refine (HU2.out _ ?c3ya ?c4ya ?c5ya).mono ?_
      case c3ya => simp
      case c4ya => simp
      case c5ya => simp
      rintro e w' ⟨rfl, ⟨⟨n2, rfl⟩⟩⟩
      go_wp2_with (fail)
      refine (HN2.out _).mono ?_
      rintro e w' ⟨rfl, rfl⟩
      go_wp2_with (fail)
      refine (HF1.out _).mono ?_
      rintro e w' ⟨rfl, rfl⟩
      go_wp2_with (fail)
      go_ret2
      exact ⟨by rw [HFIN.out]; rfl, by repeat (first | exact Below.refl _ _ | apply pw_below_drewN | apply below_alloc)⟩
    · rw [if_neg q1] at hfin
      by_cases q2 : dmin < dmax
      · rw [if_pos q2] at hfin
        have HFIN := Lib.hid hfin
        clear hfin
        go_enter Tryd.func58, Tryd.ntmps58
        go_wp2_with (fail)
        refine (log10Pow2_calls _ _ (by omega) (by omega)).mono ?_
        rintro e w' ⟨rfl, rfl⟩
        go_wp2_with (fail)
        refine (log2Pow10_calls _ _ (by omega) (by omega)).mono ?_
        rintro e w' ⟨rfl, rfl⟩
        go_wp2_with (fail)
        refine HP.out.mono ?_
        rintro e w' ⟨rfl, rfl⟩
        go_wp2_with (fail)
        refine (HU1.out _ ?c0yb ?c1yb ?c2yb).mono ?_
        case c0yb => simp
        case c1yb => simp
        case c2yb => simp
        rintro e w' ⟨rfl, ⟨⟨n1, rfl⟩⟩⟩
        go_wp2_with (fail)
        refine (HN1.out _).mono ?_
        rintro e w' ⟨rfl, rfl⟩
        go_wp2_with (fail)
        refine (HC1.out _).mono ?_
        rintro e w' ⟨rfl, rfl⟩
        go_wp2_with (fail)
        refine (HU2.out _ ?c3yb ?c4yb ?c5yb).mono ?_
        case c3yb => simp
        case c4yb => simp
        case c5yb => simp
        rintro e w' ⟨rfl, ⟨⟨n2, rfl⟩⟩⟩
        go_wp2_with (fail)
        refine (HN2.out _).mono ?_
        rintro e w' ⟨rfl, rfl⟩
        go_wp2_with (fail)
        refine (HF1.out _).mono ?_
        rintro e w' ⟨rfl, rfl⟩
        go_wp2_with (fail)
        refine (HU3.out _ ?c6yb ?c7yb ?c8yb).mono ?_
        case c6yb => simp
        case c7yb => simp
        case c8yb => simp
        rintro e w' ⟨rfl, ⟨⟨n3, rfl⟩⟩⟩
        go_wp2_with (fail)
        refine (HR1.out _).mono ?_
        rintro e w' ⟨rfl, rfl⟩
        go_wp2_with (fail)
        go_ret2
        exact ⟨by rw [HFIN.out]; rfl, by repeat (first | exact Below.refl _ _ | apply pw_below_drewN | apply below_alloc)⟩
      · rw [if_neg q2] at hfin
        have HFIN := Lib.hid hfin
        clear hfin
        go_enter Tryd.func58, Tryd.ntmps58
        go_wp2_with (fail)
        refine (log10Pow2_calls _ _ (by omega) (by omega)).mono ?_
        rintro e w' ⟨rfl, rfl⟩
        go_wp2_with (fail)
        refine (log2Pow10_calls _ _ (by omega) (by omega)).mono ?_
        rintro e w' ⟨rfl, rfl⟩
        go_wp2_with (fail)
        refine HP.out.mono ?_
        rintro e w' ⟨rfl, rfl⟩
        go_wp2_with (fail)
        refine (HU1.out _ ?c0yc ?c1yc ?c2yc).mono ?_
        case c0yc => simp
        case c1yc => simp
        case c2yc => simp
        rintro e w' ⟨rfl, ⟨⟨n1, rfl⟩⟩⟩
        go_wp2_with (fail)
        refine (HN1.out _).mono ?_
        rintro e w' ⟨rfl, rfl⟩
        go_wp2_with (fail)
        refine (HC1.out _).mono ?_
        rintro e w' ⟨rfl, rfl⟩
        go_wp2_with (fail)
        refine (HU2.out _ ?c3yc ?c4yc ?c5yc).mono ?_
        case c3yc => simp
        case c4yc => simp
        case c5yc => simp
        rintro e w' ⟨rfl, ⟨⟨n2, rfl⟩⟩⟩
        go_wp2_with (fail)
        refine (HN2.out _).mono ?_
        rintro e w' ⟨rfl, rfl⟩
        go_wp2_with (fail)
        refine (HF1.out _).mono ?_
        rintro e w' ⟨rfl, rfl⟩
        go_wp2_with (fail)
        go_ret2
        exact ⟨by rw [HFIN.out]; rfl, by repeat (first | exact Below.refl _ _ | apply pw_below_drewN | apply below_alloc)⟩

set_option maxHeartbeats 6400000 in
set_option maxRecDepth 100000 in
theorem short32C (m mn mx od u1 u2 u3 s hi lo : Nat) (e p lp : Int) (w : World) (h3 : 3 < w.heap.size) (h1 : m < 18446744073709551616) (z : Nat) (hz : 40 + (-189 - e) = (z : Int)) (hz1 : 2 ≤ z) (hz2 : z ≤ 63) (he0 : e < -189) (hf : Int) (hhf : IntKind.u64.wrap (2 ^ (z - 1)) = hf) (mz : Nat) (hmz : (m : Int) / 2 ^ z = (mz : Int)) (bmz : mz < 9223372036854775808)
    
    (hp : -((e + z) * 78913 / 262144) = p) (hlp : p * 108853 / 32768 = lp) (hp0 : -348 ≤ p) (hp1 : p ≤ 347)
    (hmn : IntKind.u64.wrap ((m : Int) - hf) = (mn : Int)) (hmx : IntKind.u64.wrap ((m : Int) + hf) = (mx : Int)) (hod : bits .and .i64 (mz : Int) 1 = (od : Int))
    (bmn : mn < 18446744073709551616) (bmx : mx < 18446744073709551616) (bod : od ≤ 1)
    (hhi : w.cell? ⟨3, (p + 348).toNat * 2, none⟩ = some (.int .u64 (hi : Int))) (hlo : w.cell? ⟨3, (p + 348).toNat * 2 + 1, none⟩ = some (.int .u64 (lo : Int)))
    (bhi : 1 ≤ hi) (bhi2 : hi < 18446744073709551616) (blo : lo < 18446744073709551616) (hs : -(e + lp + 3) = (s : Int)) (bs : s < 64)
    (hu1 : Fm.usc mn hi lo s = u1) (hu2 : Fm.usc mx hi lo s = u2) (hu3 : Fm.usc m hi lo s = u3) (b1 : u1 + 10 < 18446744073709551616) (b2 : u2 + 10 < 18446744073709551616) (b21 : 1 ≤ u2) (b3 : u3 + 10 < 18446744073709551616) :
    Calls Tryd.prog 58 #[.int .u64 (m : Int), .int .i64 e] w fun e' w' => e' = .returned (.tuple #[.int .u64 ((sfRes u1 u2 u3 od p).1 : Int), .int .i64 (sfRes u1 u2 u3 od p).2]) ∧ Below w.heap.size w w' := by
  have U1 := fun w' c0 c1 c2 => uscale_calls mn w.heap.size hi lo s w' bmn bhi bhi2 blo bs c0 c1 c2
  have U2 := fun w' c0 c1 c2 => uscale_calls mx w.heap.size hi lo s w' bmx bhi bhi2 blo bs c0 c1 c2
  have U3 := fun w' c0 c1 c2 => uscale_calls m w.heap.size hi lo s w' h1 bhi bhi2 blo bs c0 c1 c2
  rw [hu1] at U1; rw [hu2] at U2; rw [hu3] at U3
  have P := prescale_new e p lp hi lo w h3 (by omega) (by omega) (by omega) (by omega) hp0 hp1 hhi hlo
  rw [hs] at P
  have HU1 := Lib.hid U1; have HU2 := Lib.hid U2; have HU3 := Lib.hid U3; have HP := Lib.hid P
  clear U1 U2 U3 P hu1 hu2 hu3 hs hhi hlo
  obtain ⟨v1, hv1⟩ : ∃ v, u1 + od = v := ⟨_, rfl⟩
  obtain ⟨v2, hv2⟩ : ∃ v, u2 - od = v := ⟨_, rfl⟩
  obtain ⟨dmin, hdmin⟩ : ∃ v, (v1 + 3) / 4 = v := ⟨_, rfl⟩
  obtain ⟨dmax, hdmax⟩ : ∃ v, v2 / 4 = v := ⟨_, rfl⟩
  obtain ⟨dr, hdr⟩ : ∃ v, (u3 + 1 + u3 / 4 % 2) / 4 = v := ⟨_, rfl⟩
  obtain ⟨t, ht⟩ : ∃ v, dmax / 10 = v := ⟨_, rfl⟩
  have N1 : ∀ w, Calls Tryd.prog 74 #[.int .u64 (u1 : Int), .int .i64 (od : Int)] w fun e w' => e = .returned (.int .u64 (v1 : Int)) ∧ w = w' := fun w => by
    have h := nudge_calls (u1 : Int) (od : Int) w (by omega) (by omega)
    rwa [show (u1 : Int) + (od : Int) = (v1 : Int) by omega] at h
  have N2 : ∀ w, Calls Tryd.prog 74 #[.int .u64 (u2 : Int), .int .i64 (-(od : Int))] w fun e w' => e = .returned (.int .u64 (v2 : Int)) ∧ w = w' := fun w => by
    have h := nudge_calls (u2 : Int) (-(od : Int)) w (by omega) (by omega)
    rwa [show (u2 : Int) + -(od : Int) = (v2 : Int) by omega] at h
  have C1 : ∀ w, Calls Tryd.prog 75 #[.int .u64 (v1 : Int)] w fun e w' => e = .returned (.int .u64 (dmin : Int)) ∧ w = w' := fun w => by
    have h := ceil_calls (v1 : Int) w (by omega) (by omega)
    rwa [show ((v1 : Int) + 3) / 4 = (dmin : Int) by omega] at h
  have F1 : ∀ w, Calls Tryd.prog 76 #[.int .u64 (v2 : Int)] w fun e w' => e = .returned (.int .u64 (dmax : Int)) ∧ w = w' := fun w => by
    have h := floor_calls (v2 : Int) w (by omega) (by omega)
    rwa [show (v2 : Int) / 4 = (dmax : Int) by omega] at h
  have R1 : ∀ w, Calls Tryd.prog 77 #[.int .u64 (u3 : Int)] w fun e w' => e = .returned (.int .u64 (dr : Int)) ∧ w = w' := fun w => by
    have h := round_calls (u3 : Int) w (by omega) (by omega)
    rwa [show ((u3 : Int) + 1 + (u3 : Int) / 4 % 2) / 4 = (dr : Int) by omega] at h
  have HN1 := Lib.hid N1; have HN2 := Lib.hid N2; have HC1 := Lib.hid C1; have HF1 := Lib.hid F1; have HR1 := Lib.hid R1
  have hfin : sfRes u1 u2 u3 od p = if dmin ≤ t * 10 then (t, -(p - 1)) else if dmin < dmax then (dr, -p) else (dmin, -p) := by
    unfold sfRes; rw [hv1, hv2, hdmin, hdmax, hdr, ht]
  have bdmax : dmax < 4611686018427387904 := by omega
  have bt : t * 10 ≤ dmax := by omega
  have e10 : (dmax : Int) / 10 = (t : Int) := by omega
  clear N1 N2 C1 F1 R1 hv1 hv2 hdmin hdmax hdr ht b1 b2 b3 b21
  by_cases c1 : ((m : Int) == 9223372036854775808) = true
  · have c3 : ¬ (-189 < e) := by omega
    by_cases q1 : dmin ≤ t * 10
    · rw [if_pos q1] at hfin
      have HFIN := Lib.hid hfin
      clear hfin
      go_enter Tryd.func58, Tryd.ntmps58
      go_wp2_with (fail)
      refine (log10Pow2_calls _ _ (by omega) (by omega)).mono ?_
      rintro e w' ⟨rfl, rfl⟩
      go_wp2_with (fail)
      refine (log2Pow10_calls _ _ (by omega) (by omega)).mono ?_
      rintro e w' ⟨rfl, rfl⟩
      go_wp2_with (fail)
      refine HP.out.mono ?_
      rintro e w' ⟨rfl, rfl⟩
      go_wp2_with (fail)
      refine (HU1.out _ ?c0xa ?c1xa ?c2xa).mono ?_
      case c0xa => simp
      case c1xa => simp
      case c2xa => simp
      rintro e w' ⟨rfl, ⟨⟨n1, rfl⟩⟩⟩
      go_wp2_with (fail)
      refine (HN1.out _).mono ?_
      rintro e w' ⟨rfl, rfl⟩
      go_wp2_with (fail)
      refine (HC1.out _).mono ?_
      rintro e w' ⟨rfl, rfl⟩
      go_wp2_with (fail)
      refine (HU2.out _ ?c3xa ?c4xa ?c5xa).mono ?_
      case c3xa => simp
      case c4xa => simp
      case c5xa => simp
      rintro e w' ⟨rfl, ⟨⟨n2, rfl⟩⟩⟩
      go_wp2_with (fail)
      refine (HN2.out _).mono ?_
      rintro e w' ⟨rfl, rfl⟩
      go_wp2_with (fail)
      refine (HF1.out _).mono ?_
      rintro e w' ⟨rfl, rfl⟩
      go_wp2_with (fail)
      go_ret2
      exact ⟨by rw [HFIN.out]; rfl, by repeat (first | exact Below.refl _ _ | apply pw_below_drewN | apply below_alloc)⟩
    · rw [if_neg q1] at hfin
      by_cases q2 : dmin < dmax
      · rw [if_pos q2] at hfin
        have HFIN := Lib.hid hfin
        clear hfin
        go_enter Tryd.func58, Tryd.ntmps58
        go_wp2_with (fail)
        refine (log10Pow2_calls _ _ (by omega) (by omega)).mono ?_
        rintro e w' ⟨rfl, rfl⟩
        go_wp2_with (fail)
        refine (log2Pow10_calls _ _ (by omega) (by omega)).mono ?_
        rintro e w' ⟨rfl, rfl⟩
        go_wp2_with (fail)
        refine HP.out.mono ?_
        rintro e w' ⟨rfl, rfl⟩
        go_wp2_with (fail)
        refine (HU1.out _ ?c0xb ?c1xb ?c2xb).mono ?_
        case c0xb => simp
        case c1xb => simp
        case c2xb => simp
        rintro e w' ⟨rfl, ⟨⟨n1, rfl⟩⟩⟩
        go_wp2_with (fail)
        refine (HN1.out _).mono ?_
        rintro e w' ⟨rfl, rfl⟩
        go_wp2_with (fail)
        refine (HC1.out _).mono ?_
        rintro e w' ⟨rfl, rfl⟩
        go_wp2_with (fail)
        refine (HU2.out _ ?c3xb ?c4xb ?c5xb).mono ?_
        case c3xb => simp
        case c4xb => simp
        case c5xb => simp
        rintro e w' ⟨rfl, ⟨⟨n2, rfl⟩⟩⟩
        go_wp2_with (fail)
        refine (HN2.out _).mono ?_
        rintro e w' ⟨rfl, rfl⟩
        go_wp2_with (fail)
        refine (HF1.out _).mono ?_
        rintro e w' ⟨rfl, rfl⟩
        go_wp2_with (fail)
        refine (HU3.out _ ?c6xb ?c7xb ?c8xb).mono ?_
        case c6xb => simp
        case c7xb => simp
        case c8xb => simp
        rintro e w' ⟨rfl, ⟨⟨n3, rfl⟩⟩⟩
        go_wp2_with (fail)
        refine (HR1.out _).mono ?_
        rintro e w' ⟨rfl, rfl⟩
        go_wp2_with (fail)
        go_ret2
        exact ⟨by rw [HFIN.out]; rfl, by repeat (first | exact Below.refl _ _ | apply pw_below_drewN | apply below_alloc)⟩
      · rw [if_neg q2] at hfin
        have HFIN := Lib.hid hfin
        clear hfin
        go_enter Tryd.func58, Tryd.ntmps58
        go_wp2_with (fail)
        refine (log10Pow2_calls _ _ (by omega) (by omega)).mono ?_
        rintro e w' ⟨rfl, rfl⟩
        go_wp2_with (fail)
        refine (log2Pow10_calls _ _ (by omega) (by omega)).mono ?_
        rintro e w' ⟨rfl, rfl⟩
        go_wp2_with (fail)
        refine HP.out.mono ?_
        rintro e w' ⟨rfl, rfl⟩
        go_wp2_with (fail)
        refine (HU1.out _ ?c0xc ?c1xc ?c2xc).mono ?_
        case c0xc => simp
        case c1xc => simp
        case c2xc => simp
        rintro e w' ⟨rfl, ⟨⟨n1, rfl⟩⟩⟩
        go_wp2_with (fail)
        refine (HN1.out _).mono ?_
        rintro e w' ⟨rfl, rfl⟩
        go_wp2_with (fail)
        refine (HC1.out _).mono ?_
        rintro e w' ⟨rfl, rfl⟩
        go_wp2_with (fail)
        refine (HU2.out _ ?c3xc ?c4xc ?c5xc).mono ?_
        case c3xc => simp
        case c4xc => simp
        case c5xc => simp
        rintro e w' ⟨rfl, ⟨⟨n2, rfl⟩⟩⟩
        go_wp2_with (fail)
        refine (HN2.out _).mono ?_
        rintro e w' ⟨rfl, rfl⟩
        go_wp2_with (fail)
        refine (HF1.out _).mono ?_
        rintro e w' ⟨rfl, rfl⟩
        go_wp2_with (fail)
        go_ret2
        exact ⟨by rw [HFIN.out]; rfl, by repeat (first | exact Below.refl _ _ | apply pw_below_drewN | apply below_alloc)⟩
  · have c1 : ((m : Int) == 9223372036854775808) = false := by simpa using c1
    by_cases q1 : dmin ≤ t * 10
    · rw [if_pos q1] at hfin
      have HFIN := Lib.hid hfin
      clear hfin
      go_enter Tryd.func58, Tryd.ntmps58
      go_wp2_with (fail)
      refine (log10Pow2_calls _ _ (by omega) (by omega)).mono ?_
      rintro e w' ⟨rfl, rfl⟩
      go_wp2_with (fail)
      refine (log2Pow10_calls _ _ (by omega) (by omega)).mono ?_
      rintro e w' ⟨rfl, rfl⟩
      go_wp2_with (fail)
      refine HP.out.mono ?_
      rintro e w' ⟨rfl, rfl⟩
      go_wp2_with (fail)
      refine (HU1.out _ ?c0ya ?c1ya ?c2ya).mono ?_
      case c0ya => simp
      case c1ya => simp
      case c2ya => simp
      rintro e w' ⟨rfl, ⟨⟨n1, rfl⟩⟩⟩
      go_wp2_with (fail)
      refine (HN1.out _).mono ?_
      rintro e w' ⟨rfl, rfl⟩
      go_wp2_with (fail)
      refine (HC1.out _).mono ?_
      rintro e w' ⟨rfl, rfl⟩
      go_wp2_with (fail)
      refine (HU2.out _ ?c3ya ?c4ya ?c5ya).mono ?_
      case c3ya => simp
      case c4ya => simp
      case c5ya => simp
      rintro e w' ⟨rfl, ⟨⟨n2, rfl⟩⟩⟩
      go_wp2_with (fail)
      refine (HN2.out _).mono ?_
      rintro e w' ⟨rfl, rfl⟩
      go_wp2_with (fail)
      refine (HF1.out _).mono ?_
      rintro e w' ⟨rfl, rfl⟩
      go_wp2_with (fail)
      go_ret2
      exact ⟨by rw [HFIN.out]; rfl, by repeat (first | exact Below.refl _ _ | apply pw_below_drewN | apply below_alloc)⟩
    · rw [if_neg q1] at hfin
      by_cases q2 : dmin < dmax
      · rw [if_pos q2] at hfin
        have HFIN := Lib.hid hfin
        clear hfin
        go_enter Tryd.func58, Tryd.ntmps58
        go_wp2_with (fail)
        refine (log10Pow2_calls _ _ (by omega) (by omega)).mono ?_
        rintro e w' ⟨rfl, rfl⟩
        go_wp2_with (fail)
        refine (log2Pow10_calls _ _ (by omega) (by omega)).mono ?_
        rintro e w' ⟨rfl, rfl⟩
        go_wp2_with (fail)
        refine HP.out.mono ?_
        rintro e w' ⟨rfl, rfl⟩
        go_wp2_with (fail)
        refine (HU1.out _ ?c0yb ?c1yb ?c2yb).mono ?_
        case c0yb => simp
        case c1yb => simp
        case c2yb => simp
        rintro e w' ⟨rfl, ⟨⟨n1, rfl⟩⟩⟩
        go_wp2_with (fail)
        refine (HN1.out _).mono ?_
        rintro e w' ⟨rfl, rfl⟩
        go_wp2_with (fail)
        refine (HC1.out _).mono ?_
        rintro e w' ⟨rfl, rfl⟩
        go_wp2_with (fail)
        refine (HU2.out _ ?c3yb ?c4yb ?c5yb).mono ?_
        case c3yb => simp
        case c4yb => simp
        case c5yb => simp
        rintro e w' ⟨rfl, ⟨⟨n2, rfl⟩⟩⟩
        go_wp2_with (fail)
        refine (HN2.out _).mono ?_
        rintro e w' ⟨rfl, rfl⟩
        go_wp2_with (fail)
        refine (HF1.out _).mono ?_
        rintro e w' ⟨rfl, rfl⟩
        go_wp2_with (fail)
        refine (HU3.out _ ?c6yb ?c7yb ?c8yb).mono ?_
        case c6yb => simp
        case c7yb => simp
        case c8yb => simp
        rintro e w' ⟨rfl, ⟨⟨n3, rfl⟩⟩⟩
        go_wp2_with (fail)
        refine (HR1.out _).mono ?_
        rintro e w' ⟨rfl, rfl⟩
        go_wp2_with (fail)
        go_ret2
        exact ⟨by rw [HFIN.out]; rfl, by repeat (first | exact Below.refl _ _ | apply pw_below_drewN | apply below_alloc)⟩
      · rw [if_neg q2] at hfin
        have HFIN := Lib.hid hfin
        clear hfin
        go_enter Tryd.func58, Tryd.ntmps58
        go_wp2_with (fail)
        refine (log10Pow2_calls _ _ (by omega) (by omega)).mono ?_
        rintro e w' ⟨rfl, rfl⟩
        go_wp2_with (fail)
        refine (log2Pow10_calls _ _ (by omega) (by omega)).mono ?_
        rintro e w' ⟨rfl, rfl⟩
        go_wp2_with (fail)
        refine HP.out.mono ?_
        rintro e w' ⟨rfl, rfl⟩
        go_wp2_with (fail)
        refine (HU1.out _ ?c0yc ?c1yc ?c2yc).mono ?_
        case c0yc => simp
        case c1yc => simp
        case c2yc => simp
        rintro e w' ⟨rfl, ⟨⟨n1, rfl⟩⟩⟩
        go_wp2_with (fail)
        refine (HN1.out _).mono ?_
        rintro e w' ⟨rfl, rfl⟩
        go_wp2_with (fail)
        refine (HC1.out _).mono ?_
        rintro e w' ⟨rfl, rfl⟩
        go_wp2_with (fail)
        refine (HU2.out _ ?c3yc ?c4yc ?c5yc).mono ?_
        case c3yc => simp
        case c4yc => simp
        case c5yc => simp
        rintro e w' ⟨rfl, ⟨⟨n2, rfl⟩⟩⟩
        go_wp2_with (fail)
        refine (HN2.out _).mono ?_
        rintro e w' ⟨rfl, rfl⟩
        go_wp2_with (fail)
        refine (HF1.out _).mono ?_
        rintro e w' ⟨rfl, rfl⟩
        go_wp2_with (fail)
        go_ret2
        exact ⟨by rw [HFIN.out]; rfl, by repeat (first | exact Below.refl _ _ | apply pw_below_drewN | apply below_alloc)⟩
end Go.Proofs.YtiopeaponffmdaaDoor.PAll
