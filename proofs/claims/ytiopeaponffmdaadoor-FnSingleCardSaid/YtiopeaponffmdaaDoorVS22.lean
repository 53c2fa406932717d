/- The texts of a proof, its declarations alone: part 22. -/
import Derived.WalkLawsBesides
import Derived.Laws.BitsAllLaws
import Derived.Handy
import Derived.Test.YtiopeaponffmdaaDoorVS12
import Derived.Test.YtiopeaponffmdaaDoorVS19
import Derived.Test.YtiopeaponffmdaaDoorVS21
set_option linter.unusedVariables false
set_option linter.unusedSimpArgs false
-- YtiopeaponffmdaaDoorNf
namespace Go.Proofs.YtiopeaponffmdaaDoor.PAll
open Go.RowKit Go.Proofs.YtiopeaponffmdaaDoorW.PrintWords Go.Proofs.YtiopeaponffmdaaDoorW.PrintLast Go.Proofs.YtiopeaponffmdaaDoorW.PrintMore

theorem zeros_ev (n : Nat) (hn : n ≤ 10000) : Ev (fun k => spec_zeros.f k (n : Int)) (strOfNums (List.replicate n 48)) := by
  have main : ∀ m i : Nat, i + m = n → Ev (fun k => spec_zeros.l0 k (strOfNums (List.replicate i 48)) (n : Int) (i : Int)) (strOfNums (List.replicate n 48)) := by
    intro m
    induction m with
    | zero =>
      intro i hi
      obtain rfl : i = n := by omega
      refine Ev.succ (g := fun _ => some (strOfNums (List.replicate i 48))) (fun k => ?_) (Ev.pure _)
      rw [spec_zeros.l0, if_neg (by omega)]
    | succ m ih =>
      intro i hi
      refine Ev.succ (fun k => ?_) (ih (i + 1) (by omega))
      rw [spec_zeros.l0, if_pos (by omega), if_pos (by rw [strOfNums_size, List.length_replicate]; omega), w64 _ (by omega) (by omega), show (⟨#[48]⟩ : ByteArray) = strOfNums [48] from rfl, str_append, List.replicate_succ']
      rfl
  exact main n 0 (by omega)

/-- the digits, laid out -/
def laidL (ds : List Int) (n : Int) : List Int :=
  if (ds.length : Int) ≤ n ∧ n ≤ 21 then ds ++ List.replicate (n - ds.length).toNat 48
  else if 0 < n ∧ n ≤ 21 then ds.take n.toNat ++ [46] ++ ds.drop n.toNat
  else if -6 < n ∧ n ≤ 0 then [48, 46] ++ List.replicate (-n).toNat 48 ++ ds
  else (if ds.length = 1 then ds else ds.take 1 ++ [46] ++ ds.drop 1) ++ (if n - 1 < 0 then [101, 45] ++ dec (1 - n).toNat else [101, 43] ++ dec (n - 1).toNat)

theorem laid_j2 (ds : List Int) (n : Int) (h1 : 1 ≤ ds.length) (h2 : ds.length ≤ 100) (hn0 : -1000 ≤ n) (hn1 : n ≤ 1000) :
    Ev (fun k => spec_Laid.j2 k (strOfNums ds) n (ds.length : Int)) (strOfNums ((if ds.length = 1 then ds else ds.take 1 ++ [46] ++ ds.drop 1) ++ (if n - 1 < 0 then [101, 45] ++ dec (1 - n).toNat else [101, 43] ++ dec (n - 1).toNat))) := by
  have e1 : wrap64 (n - 1) = n - 1 := w64 _ (by omega) (by omega)
  have e2 : wrap64 (1 - n) = 1 - n := w64 _ (by omega) (by omega)
  have x1 : (strOfNums ds).extract 0 1 = strOfNums (ds.take 1) := by rw [str_extract, List.drop_zero]
  have x2 : (strOfNums ds).extract 1 (strOfNums ds).size = strOfNums (ds.drop 1) := by
    rw [str_extract, strOfNums_size, List.take_of_length_le (by rw [List.length_drop]; omega)]
  have c1 : (⟨#[101, 45]⟩ : ByteArray) = strOfNums [101, 45] := rfl
  have c2 : (⟨#[101, 43]⟩ : ByteArray) = strOfNums [101, 43] := rfl
  have c3 : (⟨#[46]⟩ : ByteArray) = strOfNums [46] := rfl
  have l0 : (strOfNums ds).size = ds.length := strOfNums_size ds
  have t1 : (ds.take 1).length = 1 := by rw [List.length_take]; omega
  have t2 : (ds.drop 1).length ≤ 100 := by rw [List.length_drop]; omega
  have b20 : ∀ q : Nat, q ≤ 100000 → (dec q).length ≤ 20 := fun q hq => dec_length_le 19 q (Nat.lt_of_le_of_lt hq (by decide))
  by_cases hneg : n - 1 < 0
  · obtain ⟨q, hq⟩ : ∃ q : Nat, 1 - n = (q : Int) := ⟨(1 - n).toNat, by omega⟩
    obtain ⟨K1, d0⟩ := decimals_ev 0 (by decide)
    obtain ⟨K2, d1⟩ := decimals_ev q (by omega)
    have l1 := b20 q (by omega)
    have l2 := b20 0 (by omega)
    have m0 : IntKind.u64.wrap (mx (n - 1) 0) = ((0 : Nat) : Int) := by
      unfold mx; rw [wrapu _ (by split <;> omega) (by split <;> omega)]; split <;> omega
    have m1 : IntKind.u64.wrap (1 - n) = (q : Int) := by rw [wrapu _ (by omega) (by omega), hq]
    rw [if_pos hneg, hq, Int.toNat_natCast]
    refine ⟨K1 + K2 + 1, fun k hk => ?_⟩
    obtain ⟨j, rfl⟩ : ∃ j, k = j + 1 := ⟨k - 1, by omega⟩
    dsimp only
    rw [spec_Laid.j2, e1, m0]
    have g0 := d0 j (by omega)
    have g1 := d1 j (by omega)
    dsimp only at g0 g1
    rw [g0]
    rw [Option.bind_some, if_pos (by rw [strOfNums_size]; omega), if_pos hneg, e2, m1, g1]
    rw [Option.bind_some, if_pos (by rw [strOfNums_size]; omega), c1, str_append]
    by_cases hk1 : ds.length = 1
    · rw [if_pos (by omega), if_pos hk1, if_pos (by rw [l0, strOfNums_size, List.length_append]; simp only [List.length_cons, List.length_nil]; omega), str_append]
    · rw [if_neg (by omega), if_neg hk1, if_pos (by decide), if_pos (by rw [l0]; omega), x1, x2, c3]
      rw [if_pos (by rw [strOfNums_size]; omega), str_append, if_pos (by rw [strOfNums_size, strOfNums_size, List.length_append]; simp only [List.length_cons, List.length_nil]; omega), str_append, if_pos (by rw [strOfNums_size, strOfNums_size]; simp only [List.length_append, List.length_cons, List.length_nil]; omega), str_append]
  · obtain ⟨q, hq⟩ : ∃ q : Nat, n - 1 = (q : Int) := ⟨(n - 1).toNat, by omega⟩
    obtain ⟨K2, d1⟩ := decimals_ev q (by omega)
    have l1 := b20 q (by omega)
    have m0 : IntKind.u64.wrap (mx (n - 1) 0) = (q : Int) := by
      unfold mx; rw [wrapu _ (by split <;> omega) (by split <;> omega)]; split <;> omega
    rw [if_neg hneg, hq, Int.toNat_natCast]
    refine ⟨K2 + 1, fun k hk => ?_⟩
    obtain ⟨j, rfl⟩ : ∃ j, k = j + 1 := ⟨k - 1, by omega⟩
    dsimp only
    rw [spec_Laid.j2, e1, m0]
    have g1 := d1 j (by omega)
    dsimp only at g1
    rw [g1]
    rw [Option.bind_some, if_pos (by rw [strOfNums_size]; omega), if_neg hneg, c2, str_append]
    by_cases hk1 : ds.length = 1
    · rw [if_pos (by omega), if_pos hk1, if_pos (by rw [l0, strOfNums_size, List.length_append]; simp only [List.length_cons, List.length_nil]; omega), str_append]
    · rw [if_neg (by omega), if_neg hk1, if_pos (by decide), if_pos (by rw [l0]; omega), x1, x2, c3]
      rw [if_pos (by rw [strOfNums_size]; omega), str_append, if_pos (by rw [strOfNums_size, strOfNums_size, List.length_append]; simp only [List.length_cons, List.length_nil]; omega), str_append, if_pos (by rw [strOfNums_size, strOfNums_size]; simp only [List.length_append, List.length_cons, List.length_nil]; omega), str_append]

theorem Laid_ev (ds : List Int) (n : Int) (h1 : 1 ≤ ds.length) (h2 : ds.length ≤ 100) (hn0 : -1000 ≤ n) (hn1 : n ≤ 1000) :
    Ev (fun k => spec_Laid.f k (strOfNums ds) n) (strOfNums (laidL ds n)) := by
  have l0 : (strOfNums ds).size = ds.length := strOfNums_size ds
  have c3 : (⟨#[46]⟩ : ByteArray) = strOfNums [46] := rfl
  have c4 : (⟨#[48, 46]⟩ : ByteArray) = strOfNums [48, 46] := rfl
  have hf : ∀ k, spec_Laid.f k (strOfNums ds) n = spec_Laid.j0 k (strOfNums ds) n (ds.length : Int) (decide ((ds.length : Int) ≤ n ∧ n ≤ 21)) := by
    intro k
    rw [spec_Laid.f, l0]
    by_cases a : (ds.length : Int) ≤ n
    · rw [if_pos a]; simp [a]
    · rw [if_neg a]; simp [a]
  refine Ev.congr ?_ hf
  unfold laidL
  by_cases a1 : (ds.length : Int) ≤ n ∧ n ≤ 21
  · rw [if_pos a1, decide_eq_true a1]
    obtain ⟨q, hq⟩ : ∃ q : Nat, n - (ds.length : Int) = (q : Int) := ⟨(n - (ds.length : Int)).toNat, by omega⟩
    obtain ⟨K, z⟩ := zeros_ev q (by omega)
    rw [hq, Int.toNat_natCast]
    refine ⟨K + 1, fun k hk => ?_⟩
    obtain ⟨j, rfl⟩ : ∃ j, k = j + 1 := ⟨k - 1, by omega⟩
    have g := z j (by omega)
    dsimp only at g ⊢
    rw [spec_Laid.j0, if_pos rfl, w64 _ (by omega) (by omega), hq, g]
    rw [Option.bind_some, if_pos (by rw [l0, strOfNums_size, List.length_replicate]; omega), str_append]
  · rw [if_neg a1, decide_eq_false a1]
    refine Ev.succ (g := fun k => spec_Laid.j1 k (strOfNums ds) n (ds.length : Int) (decide (0 < n ∧ n ≤ 21))) (fun k => ?_) ?_
    · rw [spec_Laid.j0, if_neg (by decide)]
      by_cases a : n > 0
      · rw [if_pos a]; simp [a]
      · rw [if_neg a]
        have : decide (0 < n ∧ n ≤ 21) = false := by rw [decide_eq_false_iff_not]; omega
        rw [this]
    · by_cases a2 : 0 < n ∧ n ≤ 21
      · rw [if_pos a2, decide_eq_true a2]
        have hlt : n < (ds.length : Int) := by omega
        obtain ⟨q, rfl⟩ : ∃ q : Nat, n = (q : Int) := ⟨n.toNat, by omega⟩
        refine Ev.succ (g := fun _ => some (strOfNums (ds.take q ++ [46] ++ ds.drop q))) (fun k => ?_) (Ev.pure _)
        have x1 : (strOfNums ds).extract 0 q = strOfNums (ds.take q) := by rw [str_extract, List.drop_zero, Nat.sub_zero]
        have x2 : (strOfNums ds).extract q (strOfNums ds).size = strOfNums (ds.drop q) := by
          rw [str_extract, strOfNums_size, List.take_of_length_le (by rw [List.length_drop]; omega)]
        have t1 : (ds.take q).length ≤ 100 := by rw [List.length_take]; omega
        have t2 : (ds.drop q).length ≤ 100 := by rw [List.length_drop]; omega
        rw [spec_Laid.j1, if_pos rfl, if_pos (by omega), if_pos (by rw [l0]; omega), Int.toNat_natCast, x1, x2, c3, if_pos (by rw [strOfNums_size]; omega), str_append, if_pos (by rw [strOfNums_size, strOfNums_size, List.length_append]; simp only [List.length_cons, List.length_nil]; omega), str_append]
      · rw [if_neg a2, decide_eq_false a2]
        by_cases a3 : -6 < n ∧ n ≤ 0
        · rw [if_pos a3]
          obtain ⟨q, hq⟩ : ∃ q : Nat, -n = (q : Int) := ⟨(-n).toNat, by omega⟩
          obtain ⟨K, z⟩ := zeros_ev q (by omega)
          rw [hq, Int.toNat_natCast]
          refine ⟨K + 1, fun k hk => ?_⟩
          obtain ⟨j, rfl⟩ : ∃ j, k = j + 1 := ⟨k - 1, by omega⟩
          have g := z j (by omega)
          dsimp only at g ⊢
          rw [spec_Laid.j1, if_neg (by decide), if_pos (by omega), if_pos (by omega), w64 _ (by omega) (by omega), hq, g]
          rw [Option.bind_some, if_pos (by rw [strOfNums_size, List.length_replicate]; omega), c4, str_append, if_pos (by rw [l0, strOfNums_size, List.length_append, List.length_replicate]; simp only [List.length_cons, List.length_nil]; omega), str_append]
        · rw [if_neg a3]
          refine Ev.succ (fun k => ?_) (laid_j2 ds n h1 h2 hn0 hn1)
          rw [spec_Laid.j1, if_neg (by decide)]
          by_cases a : n > -6
          · rw [if_pos a, if_neg (by omega)]
          · rw [if_neg a]

/-- the text of a number that is not 0 -/
theorem Text_ev (f code : Nat) (most place : Int) (ds : List Int) (h0 : 1 ≤ code) (hS : Ev (fun k => spec_Form_Shortest.f k (f : Int) most (code : Int)) (strOfNums ds, place))
    (h1 : 1 ≤ ds.length) (h2 : ds.length ≤ 100) (hn0 : -1000 ≤ place) (hn1 : place ≤ 1000) :
    Ev (fun k => spec_Form_Text.f k (f : Int) most (code : Int)) (strOfNums (laidL ds place)) := by
  refine Ev.congr (Ev.bind (h := fun k bt => (spec_Laid.f k bt.1 bt.2).bind fun t => some t) hS (Ev.bind (Laid_ev ds place h1 h2 hn0 hn1) (Ev.pure _))) (fun k => ?_)
  rw [spec_Form_Text.f, if_neg (by omega)]
theorem Text_zero (f : Nat) (most : Int) : Ev (fun k => spec_Form_Text.f k (f : Int) most ((0 : Nat) : Int)) (strOfNums [48]) := by
  refine Ev.congr (Ev.pure _) (fun k => ?_)
  rw [spec_Form_Text.f, if_pos (by omega)]
  rfl
theorem floatText8_ev (neg : Bool) (f code : Nat) (most : Int) (l : List Int) (hl : l.length ≤ 100000) (hT : Ev (fun k => spec_Form_Text.f k (f : Int) most (code : Int)) (strOfNums l)) :
    Ev (fun k => laws_floatText8.f k neg (f : Int) most (code : Int)) (strOfNums ((if neg = true then [45] else []) ++ l)) := by
  cases neg with
  | true =>
    refine Ev.congr (Ev.bind (h := fun k t => if 1 + t.size ≤ 9223372036854775807 then some ((⟨#[45]⟩ : ByteArray) ++ t) else none) hT ?_) (fun k => ?_)
    · refine Ev.congr (Ev.pure _) (fun k => ?_)
      rw [if_pos (by rw [strOfNums_size]; omega), show (⟨#[45]⟩ : ByteArray) = strOfNums [45] from rfl, str_append, if_pos rfl]
    · rw [laws_floatText8.f, if_pos rfl]
  | false =>
    rw [if_neg (by decide), List.nil_append]
    refine Ev.congr (Ev.bind (h := fun k t => some t) hT (Ev.pure _)) (fun k => ?_)
    rw [laws_floatText8.f, if_neg (by decide)]
end Go.Proofs.YtiopeaponffmdaaDoor.PAll
-- YtiopeaponffmdaaDoorFg
namespace Go.Proofs.YtiopeaponffmdaaDoor.PAll
open Go.RowKit Go.Proofs.YtiopeaponffmdaaDoorW.PrintWords Go.Proofs.YtiopeaponffmdaaDoorW.PrintLast Go.Proofs.YtiopeaponffmdaaDoorW.PrintMore
attribute [local go_sem] max2_int min2_int max_two min_two max_three min_three max_four min_four
theorem run52 (x : Nat) (w : World) : (callFunc 52 #[.float .f32 x]).run Tryd.prog w = .ok (.value (.int .u32 (x : Int))) w := by kernel_rfl

set_option maxHeartbeats 3200000 in
set_option maxRecDepth 100000 in
theorem ftoa32FN (P0_ : Nat → Prop) (v0 : Value) (l0 : List Int) (R : List Int → Prop) (x ex fr M L m D nd : Nat) (E pp : Int) (sg : Bool) (w0 w : World) (hx : x < 4294967296)
    (hB : Below w0.heap.size w0 w) (ho : RM 5 w w0.heap.size P0_ v0 l0)
    (hneg : ((x : Int) / 2147483648 != 0) = sg) (hexp : bits .and .i64 ((x : Int) / 8388608) 255 = (ex : Int)) (hman : bits .and .u64 (x : Int) 8388607 = (fr : Int))
    (hex1 : 1 ≤ ex) (hex2 : ex < 255) (hor : bits .or .u64 (fr : Int) 8388608 = (M : Int)) (hM1 : 1 ≤ M) (hM2 : M < 16777216)
    (hL : Lib.bitLen M = L) (hL1 : 1 ≤ L) (hL2 : L ≤ 24) (hm : IntKind.u64.wrap ((M : Int) * 2 ^ (64 - L)) = (m : Int)) (hE : (ex : Int) + -127 - (64 - (L : Int)) - 23 = E)
    (hSF : ∀ W, Below w.heap.size w W → Calls Tryd.prog 58 #[.int .u64 (m : Int), .int .i64 E] W fun e W' => e = .returned (.tuple #[.int .u64 (D : Int), .int .i64 pp]) ∧ Below W.heap.size W W')
    (hND : ∀ W, Below w.heap.size w W → Calls Tryd.prog 60 #[.int .u64 (D : Int)] W fun e W' => e = .returned (.int .i64 (nd : Int)) ∧ W = W')
    (hD1 : 10 ^ (nd - 1) ≤ D) (hD2 : D < 10 ^ nd) (hD3 : D < 18446744073709551616) (hnd1 : 1 ≤ nd) (hnd2 : nd ≤ 20) (hp0 : -2000 ≤ pp) (hp1 : pp ≤ 2000)
    (hF : ∀ k, Left D nd k → ∃ K r, fmtF.f K l0 sg (bufL D nd) ((nd : Int) + pp) k (mx ((k : Int) - ((nd : Int) + pp)) 0) = some r ∧ R r) :
    Calls Tryd.prog 50 #[v0, .float .f32 x, .int .u8 102, .int .i64 (-1)] w (FtPost w0 R) := by
  have f53 := run52
  have tex : ((ex : Int) == 255) = false := by rw [beq_eq_false_iff_ne]; omega
  have te0 : ((ex : Int) == 0) = false := by rw [beq_eq_false_iff_ne]; omega
  have tm0 : ((M : Int) == 0) = false := by rw [beq_eq_false_iff_ne]; omega
  have L57 : ∀ w, Calls Tryd.prog 57 #[.int .u64 (M : Int)] w fun e w' => e = .returned (.int .i64 (L : Int)) ∧ w = w' := fun w => by
    have h := Tryd.bits_Len64 (M : Int) w (by omega) (by omega)
    rw [Int.toNat_natCast, hL] at h
    exact h.mono fun _ _ h => ⟨h.1, h.2.symm⟩
  have H57 := Lib.hid L57; have HSF := Lib.hid hSF; have HND := Lib.hid hND; have HF := Lib.hid hF; have HO := Lib.hid ho; have HB := Lib.hid hB
  have HD1 := Lib.hid hD1; have HD2 := Lib.hid hD2
  clear L57 hL hSF hND hF ho hB hD1 hD2
  go_enter Tryd.func50, Tryd.ntmps50
  go_wp2_with (fail)
  go_quiet (fail)
  go_wp2_with (fail)
  have hb1 : ((w.drewN nq).alloc (.cells #[Value.int IntKind.u8 0, Value.int IntKind.u8 0, Value.int IntKind.u8 0, Value.int IntKind.u8 0, Value.int IntKind.u8 0, Value.int IntKind.u8 0, Value.int IntKind.u8 0, Value.int IntKind.u8 0, Value.int IntKind.u8 0, Value.int IntKind.u8 0, Value.int IntKind.u8 0, Value.int IntKind.u8 0, Value.int IntKind.u8 0, Value.int IntKind.u8 0, Value.int IntKind.u8 0, Value.int IntKind.u8 0, Value.int IntKind.u8 0, Value.int IntKind.u8 0, Value.int IntKind.u8 0, Value.int IntKind.u8 0, Value.int IntKind.u8 0, Value.int IntKind.u8 0, Value.int IntKind.u8 0, Value.int IntKind.u8 0, Value.int IntKind.u8 0, Value.int IntKind.u8 0, Value.int IntKind.u8 0, Value.int IntKind.u8 0, Value.int IntKind.u8 0, Value.int IntKind.u8 0, Value.int IntKind.u8 0, Value.int IntKind.u8 0] 82)).heap[w.heap.size]? = some (.cells (Array.replicate 32 (.int .u8 0)) 82 (0, 0)) := blk_new _ _
  have hB1 : Below w.heap.size w ((w.drewN nq).alloc (.cells #[Value.int IntKind.u8 0, Value.int IntKind.u8 0, Value.int IntKind.u8 0, Value.int IntKind.u8 0, Value.int IntKind.u8 0, Value.int IntKind.u8 0, Value.int IntKind.u8 0, Value.int IntKind.u8 0, Value.int IntKind.u8 0, Value.int IntKind.u8 0, Value.int IntKind.u8 0, Value.int IntKind.u8 0, Value.int IntKind.u8 0, Value.int IntKind.u8 0, Value.int IntKind.u8 0, Value.int IntKind.u8 0, Value.int IntKind.u8 0, Value.int IntKind.u8 0, Value.int IntKind.u8 0, Value.int IntKind.u8 0, Value.int IntKind.u8 0, Value.int IntKind.u8 0, Value.int IntKind.u8 0, Value.int IntKind.u8 0, Value.int IntKind.u8 0, Value.int IntKind.u8 0, Value.int IntKind.u8 0, Value.int IntKind.u8 0, Value.int IntKind.u8 0, Value.int IntKind.u8 0, Value.int IntKind.u8 0, Value.int IntKind.u8 0] 82)) := below_alloc (pw_below_drewN (Below.refl _ _) _) _
  generalize ((w.drewN nq).alloc _) = W1 at hb1 hB1 ⊢
  have HA1 := Lib.hid hb1
  have HB1 := Lib.hid hB1
  clear hb1 hB1
  refine (H57.out _).mono ?_
  rintro e w' ⟨rfl, rfl⟩
  go_wp2_with (fail)
  refine (HSF.out _ ?hb1).mono ?_
  case hb1 => exact HB1.out
  rintro e W2 ⟨rfl, hB2⟩
  have HB2 := Lib.hid hB2
  clear hB2
  go_wp2_with (fail)
  have bW2 := Lib.hid (below_then HB1.out HB1.out.size HB2.out)
  have cW2 := Lib.hid (blk_below HA1.out HB2.out)
  have cD := Lib.hid (show W2.drew.heap[w.heap.size]? = some (.cells (Array.replicate 32 (.int .u8 0)) 82 (0, 0)) from cW2.out)
  have HSD := Lib.hid (setDigits_calls w.heap.size D nd pp (Array.replicate 32 (.int .u8 0)) 82 W2.drew cD.out (fun j hj => by rw [Array.getElem?_replicate, if_pos (by omega)]) HD2.out HD1.out hnd1 hnd2 hD3 hp0 hp1)
  go_region_with (first | (go_at_call 60; refine (HND.out _ (below_drew bW2.out)).mono ?_; rintro e w' ⟨rfl, rfl⟩) | (go_at_call 59; refine HSD.out.mono ?_; intro e W3 hpost; obtain ⟨k, rfl, k1, k2, k3, k4, c', d1, d2, d3, d4, d5, d6⟩ := hpost; have HK := Lib.hid (show Left D nd k from ⟨k1, k2, k3, k4⟩); have G1 := Lib.hid d1; have G3 := Lib.hid d3; have G4 := Lib.hid d4; have G5 := Lib.hid d5; have G6 := Lib.hid d6; clear k3 k4 d1 d2 d3 d4 d5 d6))
  obtain ⟨K, r, hr, hR⟩ := HF.out k HK.out
  have HR' := Lib.hid hR
  have HR := Lib.hid hr
  clear hr hR
  have RDY := Lib.hid (efg_ready HB.out HO.out bW2.out G1.out G3.out G4.out G5.out G6.out)
  go_wp2_with (fail)
  · have hr := HR.out
    rw [show mx ((k : Int) - ((nd : Int) + pp)) 0 = 0 by unfold mx; split <;> omega] at hr
    have C := fmtF.calls K (fun q => P0_ q ∧ q < w.heap.size) v0 l0 sg (some ⟨w.heap.size, 0, none⟩) 32 (bufL D nd) ((nd : Int) + pp) (k : Int) (0) true r w0 W3 RDY.out.1 RDY.out.2.1 RDY.out.2.2 (by rw [bufL_length]; omega) hr
    rw [bufL_length] at C
    refine C.mono ?_
    rintro e w' ⟨v, rfl, q1, q2, q3⟩
    clear C hr
    go_wp2
    go_ret
    exact ⟨v, r, rfl, HR'.out, RM_mono q1 (fun _ _ => trivial), q2⟩
  · have hr := HR.out
    rw [show mx ((k : Int) - ((nd : Int) + pp)) 0 = (k : Int) - ((nd : Int) + pp) by unfold mx; split <;> omega] at hr
    have C := fmtF.calls K (fun q => P0_ q ∧ q < w.heap.size) v0 l0 sg (some ⟨w.heap.size, 0, none⟩) 32 (bufL D nd) ((nd : Int) + pp) (k : Int) ((k : Int) - ((nd : Int) + pp)) true r w0 W3 RDY.out.1 RDY.out.2.1 RDY.out.2.2 (by rw [bufL_length]; omega) hr
    rw [bufL_length] at C
    refine C.mono ?_
    rintro e w' ⟨v, rfl, q1, q2, q3⟩
    clear C hr
    go_wp2
    go_ret
    exact ⟨v, r, rfl, HR'.out, RM_mono q1 (fun _ _ => trivial), q2⟩

set_option maxHeartbeats 3200000 in
set_option maxRecDepth 100000 in
theorem ftoa32FS (P0_ : Nat → Prop) (v0 : Value) (l0 : List Int) (R : List Int → Prop) (x M L m D nd : Nat) (E pp : Int) (sg : Bool) (w0 w : World) (hx : x < 4294967296)
    (hB : Below w0.heap.size w0 w) (ho : RM 5 w w0.heap.size P0_ v0 l0)
    (hneg : ((x : Int) / 2147483648 != 0) = sg) (hexp : bits .and .i64 ((x : Int) / 8388608) 255 = 0) (hman : bits .and .u64 (x : Int) 8388607 = (M : Int))
    (hM1 : 1 ≤ M) (hM2 : M < 16777216)
    (hL : Lib.bitLen M = L) (hL1 : 1 ≤ L) (hL2 : L ≤ 24) (hm : IntKind.u64.wrap ((M : Int) * 2 ^ (64 - L)) = (m : Int)) (hE : (-126 : Int) - (64 - (L : Int)) - 23 = E)
    (hSF : ∀ W, Below w.heap.size w W → Calls Tryd.prog 58 #[.int .u64 (m : Int), .int .i64 E] W fun e W' => e = .returned (.tuple #[.int .u64 (D : Int), .int .i64 pp]) ∧ Below W.heap.size W W')
    (hND : ∀ W, Below w.heap.size w W → Calls Tryd.prog 60 #[.int .u64 (D : Int)] W fun e W' => e = .returned (.int .i64 (nd : Int)) ∧ W = W')
    (hD1 : 10 ^ (nd - 1) ≤ D) (hD2 : D < 10 ^ nd) (hD3 : D < 18446744073709551616) (hnd1 : 1 ≤ nd) (hnd2 : nd ≤ 20) (hp0 : -2000 ≤ pp) (hp1 : pp ≤ 2000)
    (hF : ∀ k, Left D nd k → ∃ K r, fmtF.f K l0 sg (bufL D nd) ((nd : Int) + pp) k (mx ((k : Int) - ((nd : Int) + pp)) 0) = some r ∧ R r) :
    Calls Tryd.prog 50 #[v0, .float .f32 x, .int .u8 102, .int .i64 (-1)] w (FtPost w0 R) := by
  have f53 := run52
  have tm0 : ((M : Int) == 0) = false := by rw [beq_eq_false_iff_ne]; omega
  have L57 : ∀ w, Calls Tryd.prog 57 #[.int .u64 (M : Int)] w fun e w' => e = .returned (.int .i64 (L : Int)) ∧ w = w' := fun w => by
    have h := Tryd.bits_Len64 (M : Int) w (by omega) (by omega)
    rw [Int.toNat_natCast, hL] at h
    exact h.mono fun _ _ h => ⟨h.1, h.2.symm⟩
  have H57 := Lib.hid L57; have HSF := Lib.hid hSF; have HND := Lib.hid hND; have HF := Lib.hid hF; have HO := Lib.hid ho; have HB := Lib.hid hB
  have HD1 := Lib.hid hD1; have HD2 := Lib.hid hD2
  clear L57 hL hSF hND hF ho hB hD1 hD2
  go_enter Tryd.func50, Tryd.ntmps50
  go_wp2_with (fail)
  go_quiet (fail)
  go_wp2_with (fail)
  have hb1 : ((w.drewN nq).alloc (.cells #[Value.int IntKind.u8 0, Value.int IntKind.u8 0, Value.int IntKind.u8 0, Value.int IntKind.u8 0, Value.int IntKind.u8 0, Value.int IntKind.u8 0, Value.int IntKind.u8 0, Value.int IntKind.u8 0, Value.int IntKind.u8 0, Value.int IntKind.u8 0, Value.int IntKind.u8 0, Value.int IntKind.u8 0, Value.int IntKind.u8 0, Value.int IntKind.u8 0, Value.int IntKind.u8 0, Value.int IntKind.u8 0, Value.int IntKind.u8 0, Value.int IntKind.u8 0, Value.int IntKind.u8 0, Value.int IntKind.u8 0, Value.int IntKind.u8 0, Value.int IntKind.u8 0, Value.int IntKind.u8 0, Value.int IntKind.u8 0, Value.int IntKind.u8 0, Value.int IntKind.u8 0, Value.int IntKind.u8 0, Value.int IntKind.u8 0, Value.int IntKind.u8 0, Value.int IntKind.u8 0, Value.int IntKind.u8 0, Value.int IntKind.u8 0] 82)).heap[w.heap.size]? = some (.cells (Array.replicate 32 (.int .u8 0)) 82 (0, 0)) := blk_new _ _
  have hB1 : Below w.heap.size w ((w.drewN nq).alloc (.cells #[Value.int IntKind.u8 0, Value.int IntKind.u8 0, Value.int IntKind.u8 0, Value.int IntKind.u8 0, Value.int IntKind.u8 0, Value.int IntKind.u8 0, Value.int IntKind.u8 0, Value.int IntKind.u8 0, Value.int IntKind.u8 0, Value.int IntKind.u8 0, Value.int IntKind.u8 0, Value.int IntKind.u8 0, Value.int IntKind.u8 0, Value.int IntKind.u8 0, Value.int IntKind.u8 0, Value.int IntKind.u8 0, Value.int IntKind.u8 0, Value.int IntKind.u8 0, Value.int IntKind.u8 0, Value.int IntKind.u8 0, Value.int IntKind.u8 0, Value.int IntKind.u8 0, Value.int IntKind.u8 0, Value.int IntKind.u8 0, Value.int IntKind.u8 0, Value.int IntKind.u8 0, Value.int IntKind.u8 0, Value.int IntKind.u8 0, Value.int IntKind.u8 0, Value.int IntKind.u8 0, Value.int IntKind.u8 0, Value.int IntKind.u8 0] 82)) := below_alloc (pw_below_drewN (Below.refl _ _) _) _
  generalize ((w.drewN nq).alloc _) = W1 at hb1 hB1 ⊢
  have HA1 := Lib.hid hb1
  have HB1 := Lib.hid hB1
  clear hb1 hB1
  refine (H57.out _).mono ?_
  rintro e w' ⟨rfl, rfl⟩
  go_wp2_with (fail)
  refine (HSF.out _ ?hb1).mono ?_
  case hb1 => exact HB1.out
  rintro e W2 ⟨rfl, hB2⟩
  have HB2 := Lib.hid hB2
  clear hB2
  go_wp2_with (fail)
  have bW2 := Lib.hid (below_then HB1.out HB1.out.size HB2.out)
  have cW2 := Lib.hid (blk_below HA1.out HB2.out)
  have cD := Lib.hid (show W2.drew.heap[w.heap.size]? = some (.cells (Array.replicate 32 (.int .u8 0)) 82 (0, 0)) from cW2.out)
  have HSD := Lib.hid (setDigits_calls w.heap.size D nd pp (Array.replicate 32 (.int .u8 0)) 82 W2.drew cD.out (fun j hj => by rw [Array.getElem?_replicate, if_pos (by omega)]) HD2.out HD1.out hnd1 hnd2 hD3 hp0 hp1)
  go_region_with (first | (go_at_call 60; refine (HND.out _ (below_drew bW2.out)).mono ?_; rintro e w' ⟨rfl, rfl⟩) | (go_at_call 59; refine HSD.out.mono ?_; intro e W3 hpost; obtain ⟨k, rfl, k1, k2, k3, k4, c', d1, d2, d3, d4, d5, d6⟩ := hpost; have HK := Lib.hid (show Left D nd k from ⟨k1, k2, k3, k4⟩); have G1 := Lib.hid d1; have G3 := Lib.hid d3; have G4 := Lib.hid d4; have G5 := Lib.hid d5; have G6 := Lib.hid d6; clear k3 k4 d1 d2 d3 d4 d5 d6))
  obtain ⟨K, r, hr, hR⟩ := HF.out k HK.out
  have HR' := Lib.hid hR
  have HR := Lib.hid hr
  clear hr hR
  have RDY := Lib.hid (efg_ready HB.out HO.out bW2.out G1.out G3.out G4.out G5.out G6.out)
  go_wp2_with (fail)
  · have hr := HR.out
    rw [show mx ((k : Int) - ((nd : Int) + pp)) 0 = 0 by unfold mx; split <;> omega] at hr
    have C := fmtF.calls K (fun q => P0_ q ∧ q < w.heap.size) v0 l0 sg (some ⟨w.heap.size, 0, none⟩) 32 (bufL D nd) ((nd : Int) + pp) (k : Int) (0) true r w0 W3 RDY.out.1 RDY.out.2.1 RDY.out.2.2 (by rw [bufL_length]; omega) hr
    rw [bufL_length] at C
    refine C.mono ?_
    rintro e w' ⟨v, rfl, q1, q2, q3⟩
    clear C hr
    go_wp2
    go_ret
    exact ⟨v, r, rfl, HR'.out, RM_mono q1 (fun _ _ => trivial), q2⟩
  · have hr := HR.out
    rw [show mx ((k : Int) - ((nd : Int) + pp)) 0 = (k : Int) - ((nd : Int) + pp) by unfold mx; split <;> omega] at hr
    have C := fmtF.calls K (fun q => P0_ q ∧ q < w.heap.size) v0 l0 sg (some ⟨w.heap.size, 0, none⟩) 32 (bufL D nd) ((nd : Int) + pp) (k : Int) ((k : Int) - ((nd : Int) + pp)) true r w0 W3 RDY.out.1 RDY.out.2.1 RDY.out.2.2 (by rw [bufL_length]; omega) hr
    rw [bufL_length] at C
    refine C.mono ?_
    rintro e w' ⟨v, rfl, q1, q2, q3⟩
    clear C hr
    go_wp2
    go_ret
    exact ⟨v, r, rfl, HR'.out, RM_mono q1 (fun _ _ => trivial), q2⟩

set_option maxHeartbeats 3200000 in
set_option maxRecDepth 100000 in
theorem ftoa32EN (P0_ : Nat → Prop) (v0 : Value) (l0 : List Int) (R : List Int → Prop) (x ex fr M L m D nd : Nat) (E pp : Int) (sg : Bool) (w0 w : World) (hx : x < 4294967296)
    (hB : Below w0.heap.size w0 w) (ho : RM 5 w w0.heap.size P0_ v0 l0)
    (hneg : ((x : Int) / 2147483648 != 0) = sg) (hexp : bits .and .i64 ((x : Int) / 8388608) 255 = (ex : Int)) (hman : bits .and .u64 (x : Int) 8388607 = (fr : Int))
    (hex1 : 1 ≤ ex) (hex2 : ex < 255) (hor : bits .or .u64 (fr : Int) 8388608 = (M : Int)) (hM1 : 1 ≤ M) (hM2 : M < 16777216)
    (hL : Lib.bitLen M = L) (hL1 : 1 ≤ L) (hL2 : L ≤ 24) (hm : IntKind.u64.wrap ((M : Int) * 2 ^ (64 - L)) = (m : Int)) (hE : (ex : Int) + -127 - (64 - (L : Int)) - 23 = E)
    (hSF : ∀ W, Below w.heap.size w W → Calls Tryd.prog 58 #[.int .u64 (m : Int), .int .i64 E] W fun e W' => e = .returned (.tuple #[.int .u64 (D : Int), .int .i64 pp]) ∧ Below W.heap.size W W')
    (hND : ∀ W, Below w.heap.size w W → Calls Tryd.prog 60 #[.int .u64 (D : Int)] W fun e W' => e = .returned (.int .i64 (nd : Int)) ∧ W = W')
    (hD1 : 10 ^ (nd - 1) ≤ D) (hD2 : D < 10 ^ nd) (hD3 : D < 18446744073709551616) (hnd1 : 1 ≤ nd) (hnd2 : nd ≤ 20) (hp0 : -2000 ≤ pp) (hp1 : pp ≤ 2000)
    (hF : ∀ k, Left D nd k → ∃ K r, fmtE.f K l0 sg (bufL D nd) ((nd : Int) + pp) k ((k : Int) - 1) = some r ∧ R r) :
    Calls Tryd.prog 50 #[v0, .float .f32 x, .int .u8 101, .int .i64 (-1)] w (FtPost w0 R) := by
  have f53 := run52
  have tex : ((ex : Int) == 255) = false := by rw [beq_eq_false_iff_ne]; omega
  have te0 : ((ex : Int) == 0) = false := by rw [beq_eq_false_iff_ne]; omega
  have tm0 : ((M : Int) == 0) = false := by rw [beq_eq_false_iff_ne]; omega
  have L57 : ∀ w, Calls Tryd.prog 57 #[.int .u64 (M : Int)] w fun e w' => e = .returned (.int .i64 (L : Int)) ∧ w = w' := fun w => by
    have h := Tryd.bits_Len64 (M : Int) w (by omega) (by omega)
    rw [Int.toNat_natCast, hL] at h
    exact h.mono fun _ _ h => ⟨h.1, h.2.symm⟩
  have H57 := Lib.hid L57; have HSF := Lib.hid hSF; have HND := Lib.hid hND; have HF := Lib.hid hF; have HO := Lib.hid ho; have HB := Lib.hid hB
  have HD1 := Lib.hid hD1; have HD2 := Lib.hid hD2
  clear L57 hL hSF hND hF ho hB hD1 hD2
  go_enter Tryd.func50, Tryd.ntmps50
  go_wp2_with (fail)
  go_quiet (fail)
  go_wp2_with (fail)
  have hb1 : ((w.drewN nq).alloc (.cells #[Value.int IntKind.u8 0, Value.int IntKind.u8 0, Value.int IntKind.u8 0, Value.int IntKind.u8 0, Value.int IntKind.u8 0, Value.int IntKind.u8 0, Value.int IntKind.u8 0, Value.int IntKind.u8 0, Value.int IntKind.u8 0, Value.int IntKind.u8 0, Value.int IntKind.u8 0, Value.int IntKind.u8 0, Value.int IntKind.u8 0, Value.int IntKind.u8 0, Value.int IntKind.u8 0, Value.int IntKind.u8 0, Value.int IntKind.u8 0, Value.int IntKind.u8 0, Value.int IntKind.u8 0, Value.int IntKind.u8 0, Value.int IntKind.u8 0, Value.int IntKind.u8 0, Value.int IntKind.u8 0, Value.int IntKind.u8 0, Value.int IntKind.u8 0, Value.int IntKind.u8 0, Value.int IntKind.u8 0, Value.int IntKind.u8 0, Value.int IntKind.u8 0, Value.int IntKind.u8 0, Value.int IntKind.u8 0, Value.int IntKind.u8 0] 82)).heap[w.heap.size]? = some (.cells (Array.replicate 32 (.int .u8 0)) 82 (0, 0)) := blk_new _ _
  have hB1 : Below w.heap.size w ((w.drewN nq).alloc (.cells #[Value.int IntKind.u8 0, Value.int IntKind.u8 0, Value.int IntKind.u8 0, Value.int IntKind.u8 0, Value.int IntKind.u8 0, Value.int IntKind.u8 0, Value.int IntKind.u8 0, Value.int IntKind.u8 0, Value.int IntKind.u8 0, Value.int IntKind.u8 0, Value.int IntKind.u8 0, Value.int IntKind.u8 0, Value.int IntKind.u8 0, Value.int IntKind.u8 0, Value.int IntKind.u8 0, Value.int IntKind.u8 0, Value.int IntKind.u8 0, Value.int IntKind.u8 0, Value.int IntKind.u8 0, Value.int IntKind.u8 0, Value.int IntKind.u8 0, Value.int IntKind.u8 0, Value.int IntKind.u8 0, Value.int IntKind.u8 0, Value.int IntKind.u8 0, Value.int IntKind.u8 0, Value.int IntKind.u8 0, Value.int IntKind.u8 0, Value.int IntKind.u8 0, Value.int IntKind.u8 0, Value.int IntKind.u8 0, Value.int IntKind.u8 0] 82)) := below_alloc (pw_below_drewN (Below.refl _ _) _) _
  generalize ((w.drewN nq).alloc _) = W1 at hb1 hB1 ⊢
  have HA1 := Lib.hid hb1
  have HB1 := Lib.hid hB1
  clear hb1 hB1
  refine (H57.out _).mono ?_
  rintro e w' ⟨rfl, rfl⟩
  go_wp2_with (fail)
  refine (HSF.out _ ?hb1).mono ?_
  case hb1 => exact HB1.out
  rintro e W2 ⟨rfl, hB2⟩
  have HB2 := Lib.hid hB2
  clear hB2
  go_wp2_with (fail)
  have bW2 := Lib.hid (below_then HB1.out HB1.out.size HB2.out)
  have cW2 := Lib.hid (blk_below HA1.out HB2.out)
  have cD := Lib.hid (show W2.drew.heap[w.heap.size]? = some (.cells (Array.replicate 32 (.int .u8 0)) 82 (0, 0)) from cW2.out)
  have HSD := Lib.hid (setDigits_calls w.heap.size D nd pp (Array.replicate 32 (.int .u8 0)) 82 W2.drew cD.out (fun j hj => by rw [Array.getElem?_replicate, if_pos (by omega)]) HD2.out HD1.out hnd1 hnd2 hD3 hp0 hp1)
  go_region_with (first | (go_at_call 60; refine (HND.out _ (below_drew bW2.out)).mono ?_; rintro e w' ⟨rfl, rfl⟩) | (go_at_call 59; refine HSD.out.mono ?_; intro e W3 hpost; obtain ⟨k, rfl, k1, k2, k3, k4, c', d1, d2, d3, d4, d5, d6⟩ := hpost; have HK := Lib.hid (show Left D nd k from ⟨k1, k2, k3, k4⟩); have G1 := Lib.hid d1; have G3 := Lib.hid d3; have G4 := Lib.hid d4; have G5 := Lib.hid d5; have G6 := Lib.hid d6; clear k3 k4 d1 d2 d3 d4 d5 d6))
  obtain ⟨K, r, hr, hR⟩ := HF.out k HK.out
  have HR' := Lib.hid hR
  have HR := Lib.hid hr
  clear hr hR
  have RDY := Lib.hid (efg_ready HB.out HO.out bW2.out G1.out G3.out G4.out G5.out G6.out)
  go_wp2_with (fail)
  · have hr := HR.out
    have C := fmtE.calls K (fun q => P0_ q ∧ q < w.heap.size) v0 l0 sg (some ⟨w.heap.size, 0, none⟩) 32 (bufL D nd) ((nd : Int) + pp) (k : Int) ((k : Int) - 1) true r w0 W3 RDY.out.1 RDY.out.2.1 RDY.out.2.2 (by rw [bufL_length]; omega) hr
    rw [bufL_length] at C
    refine C.mono ?_
    rintro e w' ⟨v, rfl, q1, q2, q3⟩
    clear C hr
    go_wp2
    go_ret
    exact ⟨v, r, rfl, HR'.out, RM_mono q1 (fun _ _ => trivial), q2⟩

set_option maxHeartbeats 3200000 in
set_option maxRecDepth 100000 in
theorem ftoa32ES (P0_ : Nat → Prop) (v0 : Value) (l0 : List Int) (R : List Int → Prop) (x M L m D nd : Nat) (E pp : Int) (sg : Bool) (w0 w : World) (hx : x < 4294967296)
    (hB : Below w0.heap.size w0 w) (ho : RM 5 w w0.heap.size P0_ v0 l0)
    (hneg : ((x : Int) / 2147483648 != 0) = sg) (hexp : bits .and .i64 ((x : Int) / 8388608) 255 = 0) (hman : bits .and .u64 (x : Int) 8388607 = (M : Int))
    (hM1 : 1 ≤ M) (hM2 : M < 16777216)
    (hL : Lib.bitLen M = L) (hL1 : 1 ≤ L) (hL2 : L ≤ 24) (hm : IntKind.u64.wrap ((M : Int) * 2 ^ (64 - L)) = (m : Int)) (hE : (-126 : Int) - (64 - (L : Int)) - 23 = E)
    (hSF : ∀ W, Below w.heap.size w W → Calls Tryd.prog 58 #[.int .u64 (m : Int), .int .i64 E] W fun e W' => e = .returned (.tuple #[.int .u64 (D : Int), .int .i64 pp]) ∧ Below W.heap.size W W')
    (hND : ∀ W, Below w.heap.size w W → Calls Tryd.prog 60 #[.int .u64 (D : Int)] W fun e W' => e = .returned (.int .i64 (nd : Int)) ∧ W = W')
    (hD1 : 10 ^ (nd - 1) ≤ D) (hD2 : D < 10 ^ nd) (hD3 : D < 18446744073709551616) (hnd1 : 1 ≤ nd) (hnd2 : nd ≤ 20) (hp0 : -2000 ≤ pp) (hp1 : pp ≤ 2000)
    (hF : ∀ k, Left D nd k → ∃ K r, fmtE.f K l0 sg (bufL D nd) ((nd : Int) + pp) k ((k : Int) - 1) = some r ∧ R r) :
    Calls Tryd.prog 50 #[v0, .float .f32 x, .int .u8 101, .int .i64 (-1)] w (FtPost w0 R) := by
  have f53 := run52
  have tm0 : ((M : Int) == 0) = false := by rw [beq_eq_false_iff_ne]; omega
  have L57 : ∀ w, Calls Tryd.prog 57 #[.int .u64 (M : Int)] w fun e w' => e = .returned (.int .i64 (L : Int)) ∧ w = w' := fun w => by
    have h := Tryd.bits_Len64 (M : Int) w (by omega) (by omega)
    rw [Int.toNat_natCast, hL] at h
    exact h.mono fun _ _ h => ⟨h.1, h.2.symm⟩
  have H57 := Lib.hid L57; have HSF := Lib.hid hSF; have HND := Lib.hid hND; have HF := Lib.hid hF; have HO := Lib.hid ho; have HB := Lib.hid hB
  have HD1 := Lib.hid hD1; have HD2 := Lib.hid hD2
  clear L57 hL hSF hND hF ho hB hD1 hD2
  go_enter Tryd.func50, Tryd.ntmps50
  go_wp2_with (fail)
  go_quiet (fail)
  go_wp2_with (fail)
  have hb1 : ((w.drewN nq).alloc (.cells #[Value.int IntKind.u8 0, Value.int IntKind.u8 0, Value.int IntKind.u8 0, Value.int IntKind.u8 0, Value.int IntKind.u8 0, Value.int IntKind.u8 0, Value.int IntKind.u8 0, Value.int IntKind.u8 0, Value.int IntKind.u8 0, Value.int IntKind.u8 0, Value.int IntKind.u8 0, Value.int IntKind.u8 0, Value.int IntKind.u8 0, Value.int IntKind.u8 0, Value.int IntKind.u8 0, Value.int IntKind.u8 0, Value.int IntKind.u8 0, Value.int IntKind.u8 0, Value.int IntKind.u8 0, Value.int IntKind.u8 0, Value.int IntKind.u8 0, Value.int IntKind.u8 0, Value.int IntKind.u8 0, Value.int IntKind.u8 0, Value.int IntKind.u8 0, Value.int IntKind.u8 0, Value.int IntKind.u8 0, Value.int IntKind.u8 0, Value.int IntKind.u8 0, Value.int IntKind.u8 0, Value.int IntKind.u8 0, Value.int IntKind.u8 0] 82)).heap[w.heap.size]? = some (.cells (Array.replicate 32 (.int .u8 0)) 82 (0, 0)) := blk_new _ _
  have hB1 : Below w.heap.size w ((w.drewN nq).alloc (.cells #[Value.int IntKind.u8 0, Value.int IntKind.u8 0, Value.int IntKind.u8 0, Value.int IntKind.u8 0, Value.int IntKind.u8 0, Value.int IntKind.u8 0, Value.int IntKind.u8 0, Value.int IntKind.u8 0, Value.int IntKind.u8 0, Value.int IntKind.u8 0, Value.int IntKind.u8 0, Value.int IntKind.u8 0, Value.int IntKind.u8 0, Value.int IntKind.u8 0, Value.int IntKind.u8 0, Value.int IntKind.u8 0, Value.int IntKind.u8 0, Value.int IntKind.u8 0, Value.int IntKind.u8 0, Value.int IntKind.u8 0, Value.int IntKind.u8 0, Value.int IntKind.u8 0, Value.int IntKind.u8 0, Value.int IntKind.u8 0, Value.int IntKind.u8 0, Value.int IntKind.u8 0, Value.int IntKind.u8 0, Value.int IntKind.u8 0, Value.int IntKind.u8 0, Value.int IntKind.u8 0, Value.int IntKind.u8 0, Value.int IntKind.u8 0] 82)) := below_alloc (pw_below_drewN (Below.refl _ _) _) _
  generalize ((w.drewN nq).alloc _) = W1 at hb1 hB1 ⊢
  have HA1 := Lib.hid hb1
  have HB1 := Lib.hid hB1
  clear hb1 hB1
  refine (H57.out _).mono ?_
  rintro e w' ⟨rfl, rfl⟩
  go_wp2_with (fail)
  refine (HSF.out _ ?hb1).mono ?_
  case hb1 => exact HB1.out
  rintro e W2 ⟨rfl, hB2⟩
  have HB2 := Lib.hid hB2
  clear hB2
  go_wp2_with (fail)
  have bW2 := Lib.hid (below_then HB1.out HB1.out.size HB2.out)
  have cW2 := Lib.hid (blk_below HA1.out HB2.out)
  have cD := Lib.hid (show W2.drew.heap[w.heap.size]? = some (.cells (Array.replicate 32 (.int .u8 0)) 82 (0, 0)) from cW2.out)
  have HSD := Lib.hid (setDigits_calls w.heap.size D nd pp (Array.replicate 32 (.int .u8 0)) 82 W2.drew cD.out (fun j hj => by rw [Array.getElem?_replicate, if_pos (by omega)]) HD2.out HD1.out hnd1 hnd2 hD3 hp0 hp1)
  go_region_with (first | (go_at_call 60; refine (HND.out _ (below_drew bW2.out)).mono ?_; rintro e w' ⟨rfl, rfl⟩) | (go_at_call 59; refine HSD.out.mono ?_; intro e W3 hpost; obtain ⟨k, rfl, k1, k2, k3, k4, c', d1, d2, d3, d4, d5, d6⟩ := hpost; have HK := Lib.hid (show Left D nd k from ⟨k1, k2, k3, k4⟩); have G1 := Lib.hid d1; have G3 := Lib.hid d3; have G4 := Lib.hid d4; have G5 := Lib.hid d5; have G6 := Lib.hid d6; clear k3 k4 d1 d2 d3 d4 d5 d6))
  obtain ⟨K, r, hr, hR⟩ := HF.out k HK.out
  have HR' := Lib.hid hR
  have HR := Lib.hid hr
  clear hr hR
  have RDY := Lib.hid (efg_ready HB.out HO.out bW2.out G1.out G3.out G4.out G5.out G6.out)
  go_wp2_with (fail)
  · have hr := HR.out
    have C := fmtE.calls K (fun q => P0_ q ∧ q < w.heap.size) v0 l0 sg (some ⟨w.heap.size, 0, none⟩) 32 (bufL D nd) ((nd : Int) + pp) (k : Int) ((k : Int) - 1) true r w0 W3 RDY.out.1 RDY.out.2.1 RDY.out.2.2 (by rw [bufL_length]; omega) hr
    rw [bufL_length] at C
    refine C.mono ?_
    rintro e w' ⟨v, rfl, q1, q2, q3⟩
    clear C hr
    go_wp2
    go_ret
    exact ⟨v, r, rfl, HR'.out, RM_mono q1 (fun _ _ => trivial), q2⟩
end Go.Proofs.YtiopeaponffmdaaDoor.PAll
-- YtiopeaponffmdaaDoorFh
namespace Go.Proofs.YtiopeaponffmdaaDoor.PAll
open Go.RowKit Go.Proofs.YtiopeaponffmdaaDoorW.PrintWords Go.Proofs.YtiopeaponffmdaaDoorW.PrintLast Go.Proofs.YtiopeaponffmdaaDoorW.PrintMore
attribute [local go_sem] max2_int min2_int max_two min_two max_three min_three max_four min_four

set_option maxHeartbeats 3200000 in
set_option maxRecDepth 100000 in
theorem ftoa32Z (P0_ : Nat → Prop) (v0 : Value) (l0 : List Int) (R : List Int → Prop) (x : Nat) (sg : Bool) (w0 w : World) (hx : x < 4294967296)
    (hB : Below w0.heap.size w0 w) (ho : RM 5 w w0.heap.size P0_ v0 l0)
    (hneg : ((x : Int) / 2147483648 != 0) = sg) (hexp : bits .and .i64 ((x : Int) / 8388608) 255 = 0) (hman : bits .and .u64 (x : Int) 8388607 = 0)
    (hF : ∃ K r, fmtF.f K l0 sg [] 0 0 (-1) = some r ∧ R r) :
    Calls Tryd.prog 50 #[v0, .float .f32 x, .int .u8 102, .int .i64 (-1)] w (FtPost w0 R) := by
  have f53 := run52
  have HF := Lib.hid hF; have HO := Lib.hid ho; have HB := Lib.hid hB
  clear hF ho hB
  go_enter Tryd.func50, Tryd.ntmps50
  go_wp2_with (fail)
  go_quiet (fail)
  go_wp2_with (fail)
  obtain ⟨K, r, hr, hR⟩ := HF.out
  have C := fmtF.calls K P0_ v0 l0 sg none 0 [] 0 0 (-1) true r w0 (w.drewN nq) (pw_below_drewN HB.out _) (RM_drewN HO.out _) (fun W_ _ => Kd.C_of_reads (enc := Value.int .u8) (d := (0 : Int)) (h1 := fun _ => rfl) ⟨rfl, by simp, fun h => absurd h (Nat.lt_irrefl 0)⟩) (by simp) hr
  have HR := Lib.hid hR
  clear hr hR
  rw [List.length_nil] at C
  refine C.mono ?_
  rintro e w' ⟨v, rfl, q1, q2, q3⟩
  clear C
  go_wp2
  go_ret
  exact ⟨v, r, rfl, HR.out, RM_mono q1 (fun _ _ => trivial), q2⟩

end Go.Proofs.YtiopeaponffmdaaDoor.PAll
-- YtiopeaponffmdaaDoorFi
namespace Go.Proofs.YtiopeaponffmdaaDoor.PAll
open Go.RowKit Go.Proofs.YtiopeaponffmdaaDoorW.PrintWords Go.Proofs.YtiopeaponffmdaaDoorW.PrintLast Go.Proofs.YtiopeaponffmdaaDoorW.PrintMore

theorem run13 (x : Nat) (w : World) : (callFunc 13 #[.float .f64 x]).run Tryd.prog w = .ok (.value (.int .u64 (x : Int))) w := by kernel_rfl
theorem run31 (x : Nat) (w : World) : (callFunc 31 #[.int .u64 (x : Int)]).run Tryd.prog w = .ok (.value (.float .f64 x)) w := by kernel_rfl
theorem run22 (x : Nat) (w : World) : (callFunc 22 #[.float .f32 x]).run Tryd.prog w = .ok (.value (.int .u32 (x : Int))) w := by kernel_rfl

/-- math.Abs, by its bits -/
theorem abs_calls (x y : Nat) (w : World) (h : bits .andNot .u64 (x : Int) 9223372036854775808 = (y : Int)) :
    Calls Tryd.prog 21 #[.float .f64 x] w fun e w' => e = .returned (.float .f64 y) ∧ w = w' := by
  have r13 := run13
  have r31 := run31
  go_enter Tryd.func21, Tryd.ntmps21
  go_wp2_with (fail)
  go_ret
  exact ⟨rfl, rfl⟩


/-- 'e-09' made 'e-9' -/
def fixE (r : List Int) : List Int :=
  match r.reverse with
  | d :: c :: b :: a :: q => if a = 101 ∧ b = 45 ∧ c = 48 then (d :: b :: a :: q).reverse else r
  | _ => r
theorem fixE_app (q : List Int) (a b c d : Int) : fixE (q ++ [a, b, c, d]) = if a = 101 ∧ b = 45 ∧ c = 48 then q ++ [a, b, d] else q ++ [a, b, c, d] := by
  simp [fixE]

/-- the last four bytes of a row of the call's own -/
theorem last_four {W : World} {base : Nat} {v : Value} {q : List Int} {a b c d : Int} (h : RM 5 W base (fun _ => True) v (q ++ [a, b, c, d])) :
    ∃ g cap, v = .slice (some ⟨g, 0, none⟩) (q.length + 4) cap ∧ q.length + 4 ≤ cap ∧ base ≤ g ∧ cap ≤ 9223372036854775807 ∧ W.frozen? ⟨g, q.length + 2, none⟩ = false ∧ W.cell? ⟨g, q.length, none⟩ = some (.int .u8 a) ∧ W.cell? ⟨g, q.length + 1, none⟩ = some (.int .u8 b) ∧ W.cell? ⟨g, q.length + 2, none⟩ = some (.int .u8 c) ∧ W.cell? ⟨g, q.length + 3, none⟩ = some (.int .u8 d) := by
  have hl : (q ++ [a, b, c, d]).length = q.length + 4 := by simp
  rcases h.2.2 with ⟨h1, h2⟩ | ⟨g, cap, cur, fz, h1, h2, h3, _, h4, h5, _⟩
  · simp at h2
  · rw [hl] at h1 h4
    unfold maxLen at h5
    subst h1
    have k := fun (j : Nat) (hj : j < 4) => RM_cell h (q.length + j) (by rw [hl]; omega)
    have r0 : (q ++ [a, b, c, d]).getD (q.length + 0) 0 = a := by simp
    have r1 : (q ++ [a, b, c, d]).getD (q.length + 1) 0 = b := by
      rw [List.getD_eq_getElem?_getD, List.getElem?_append_right (by omega)]; simp
    have r2 : (q ++ [a, b, c, d]).getD (q.length + 2) 0 = c := by
      rw [List.getD_eq_getElem?_getD, List.getElem?_append_right (by omega)]; simp
    have r3 : (q ++ [a, b, c, d]).getD (q.length + 3) 0 = d := by
      rw [List.getD_eq_getElem?_getD, List.getElem?_append_right (by omega)]; simp
    exact ⟨g, cap, rfl, h4, h2, h5, (k 2 (by omega)).2, by have := (k 0 (by omega)).1; rwa [r0] at this, by have := (k 1 (by omega)).1; rwa [r1] at this, by have := (k 2 (by omega)).1; rwa [r2] at this, by have := (k 3 (by omega)).1; rwa [r3] at this⟩

theorem af25s (v0 : Value) (x : Nat) (w0 w : World) (R : List Int → Prop) (h : Calls Tryd.prog 33 #[v0, .float .f64 x, .int .i64 32] w (FtPost w0 R)) :
    Calls Tryd.prog 25 #[v0, .float .f64 x, .int .i64 32] w (FtPost w0 R) := by
  have H := Lib.hid h
  clear h
  go_enter Tryd.func25, Tryd.ntmps25
  go_wp2_with (fail)
  refine H.out.mono ?_
  rintro e w' ⟨v, r, rfl, q1, q2, q3⟩
  go_wp2_with (fail)
  go_ret
  exact ⟨v, r, rfl, q1, q2, q3⟩
end Go.Proofs.YtiopeaponffmdaaDoor.PAll
-- YtiopeaponffmdaaDoorNg
namespace Go.Proofs.YtiopeaponffmdaaDoor.PAll
open Go.RowKit Go.Proofs.YtiopeaponffmdaaDoorW.PrintWords Go.Proofs.YtiopeaponffmdaaDoorW.PrintLast Go.Proofs.YtiopeaponffmdaaDoorW.PrintMore

theorem drop_rd (y : List Int) (i : Nat) (h : i < y.length) : y.drop i = rd y (i : Int) :: y.drop (i + 1) := by
  rw [List.drop_eq_getElem_cons h]
  congr 1
  simp [rd, List.getD, List.getElem?_eq_getElem h]

theorem ef_l5 (x0 : List Int) : Ev (fun k => strconv_fmtEFG.l5 k x0 0 0) x0 := by
  refine Ev.succ (g := fun _ => some x0) (fun k => ?_) (Ev.pure _)
  rw [strconv_fmtEFG.l5, if_neg (by omega)]

theorem ef_l4 (x2 : List Int) (b n : Nat) (hb : b + n ≤ x2.length) (hn : x2.length ≤ 100000) : ∀ (m i : Nat) (x0 : List Int), i + m = n → x0.length + m < 100000000000 →
    Ev (fun k => strconv_fmtEFG.l4 k x0 x2 (b : Int) 0 (n : Int) (i : Int)) (x0 ++ (x2.drop (b + i)).take m) := by
  intro m
  induction m with
  | zero =>
    intro i x0 hi hl
    rw [List.take_zero, List.append_nil]
    refine Ev.succ (fun k => ?_) (ef_l5 x0)
    rw [strconv_fmtEFG.l4, if_neg (by omega)]
  | succ m ih =>
    intro i x0 hi hl
    have f := ih (i + 1) (x0 ++ [rd x2 ((b + i : Nat) : Int)]) (by omega) (by rw [List.length_append]; simp only [List.length_cons, List.length_nil]; omega)
    have e : x0 ++ (x2.drop (b + i)).take (m + 1) = (x0 ++ [rd x2 ((b + i : Nat) : Int)]) ++ (x2.drop (b + (i + 1))).take m := by
      rw [drop_rd x2 (b + i) (by omega), List.take_succ_cons, List.append_cons]
      rfl
    rw [e]
    refine Ev.succ (fun k => ?_) f
    have w1 : wrap64 ((b : Int) + (i : Int)) = ((b + i : Nat) : Int) := by rw [w64 _ (by omega) (by omega)]; omega
    have w2 : wrap64 ((i : Int) + 1) = ((i + 1 : Nat) : Int) := by rw [w64 _ (by omega) (by omega)]; omega
    rw [strconv_fmtEFG.l4, if_pos (by omega), w1, if_pos (by omega), if_pos (by omega), if_pos (by omega), w2]

theorem ef_l3 (x2 : List Int) (b c n : Nat) (r : List Int) (hn : n ≤ 100000) : ∀ (m i : Nat) (x0 : List Int), i + m = n → x0.length + m < 100000000000 →
    Ev (fun k => strconv_fmtEFG.l4 k (x0 ++ List.replicate m 48) x2 (b : Int) 0 (c : Int) 0) r → Ev (fun k => strconv_fmtEFG.l3 k x0 x2 (b : Int) (c : Int) 0 (n : Int) (i : Int)) r := by
  intro m
  induction m with
  | zero =>
    intro i x0 hi hl h
    rw [List.replicate_zero, List.append_nil] at h
    refine Ev.succ (fun k => ?_) h
    rw [strconv_fmtEFG.l3, if_neg (by omega)]
  | succ m ih =>
    intro i x0 hi hl h
    rw [List.replicate_succ, List.append_cons] at h
    refine Ev.succ (fun k => ?_) (ih (i + 1) (x0 ++ [48]) (by omega) (by rw [List.length_append]; simp only [List.length_cons, List.length_nil]; omega) h)
    have w2 : wrap64 ((i : Int) + 1) = ((i + 1 : Nat) : Int) := by rw [w64 _ (by omega) (by omega)]; omega
    rw [strconv_fmtEFG.l3, if_pos (by omega), if_pos (by omega), w2]

theorem ef_l2 (x2 : List Int) (x3 x4 x5 : Int) (n : Nat) (r : List Int) (hn : n ≤ 100000) : ∀ (m i : Nat) (x0 : List Int), i + m = n → x0.length + m < 100000000000 →
    Ev (fun k => strconv_fmtEFG.j17 k (x0 ++ List.replicate m 48) x2 x3 x4 x5) r → Ev (fun k => strconv_fmtEFG.l2 k x0 x2 x3 x4 x5 (n : Int) (i : Int)) r := by
  intro m
  induction m with
  | zero =>
    intro i x0 hi hl h
    rw [List.replicate_zero, List.append_nil] at h
    refine Ev.succ (fun k => ?_) h
    rw [strconv_fmtEFG.l2, if_neg (by omega)]
  | succ m ih =>
    intro i x0 hi hl h
    rw [List.replicate_succ, List.append_cons] at h
    refine Ev.succ (fun k => ?_) (ih (i + 1) (x0 ++ [48]) (by omega) (by rw [List.length_append]; simp only [List.length_cons, List.length_nil]; omega) h)
    have w2 : wrap64 ((i : Int) + 1) = ((i + 1 : Nat) : Int) := by rw [w64 _ (by omega) (by omega)]; omega
    rw [strconv_fmtEFG.l2, if_pos (by omega), if_pos (by omega), w2]

theorem ef_l1 (x2 y : List Int) (x3 x4 x5 x23 : Int) (r : List Int) (hn : y.length ≤ 100000) : ∀ (m i : Nat) (x0 : List Int), i + m = y.length → x0.length + m < 100000000000 →
    Ev (fun k => strconv_fmtEFG.l2 k (x0 ++ y.drop i) x2 x3 x4 x5 (wrap64 (x3 - x23)) 0) r → Ev (fun k => strconv_fmtEFG.l1 k x0 x2 x3 x4 x5 x23 y (y.length : Int) (i : Int)) r := by
  intro m
  induction m with
  | zero =>
    intro i x0 hi hl h
    rw [List.drop_eq_nil_of_le (by omega), List.append_nil] at h
    refine Ev.succ (fun k => ?_) h
    rw [strconv_fmtEFG.l1, if_neg (by omega)]
  | succ m ih =>
    intro i x0 hi hl h
    rw [drop_rd y i (by omega), List.append_cons] at h
    refine Ev.succ (fun k => ?_) (ih (i + 1) (x0 ++ [rd y (i : Int)]) (by omega) (by rw [List.length_append]; simp only [List.length_cons, List.length_nil]; omega) h)
    have w2 : wrap64 ((i : Int) + 1) = ((i + 1 : Nat) : Int) := by rw [w64 _ (by omega) (by omega)]; omega
    rw [strconv_fmtEFG.l1, if_pos (by omega), if_pos (by omega), if_pos (by omega), if_pos (by omega), w2]

/-- behind the point -/
theorem ef_j17 (x0 x2 : List Int) (dp : Int) (nd : Nat) (hl : x0.length < 50000000000) (h2 : nd ≤ x2.length) (h3 : x2.length ≤ 100) (h4 : -1000 ≤ dp) (h5 : dp < nd) :
    Ev (fun k => strconv_fmtEFG.j17 k x0 x2 dp (nd : Int) ((nd : Int) - dp)) (x0 ++ [46] ++ List.replicate (-dp).toNat 48 ++ (x2.drop dp.toNat).take (nd - dp.toNat)) := by
  obtain ⟨z, hz⟩ : ∃ z, z = (-dp).toNat := ⟨_, rfl⟩
  obtain ⟨b, hb⟩ : ∃ b, b = dp.toNat := ⟨_, rfl⟩
  rw [← hz, ← hb]
  have a1 : mx 0 (wrap64 (-dp)) = (z : Int) := by rw [w64 _ (by omega) (by omega)]; unfold mx; split <;> omega
  have a2 : mn ((nd : Int) - dp) (z : Int) = (z : Int) := by unfold mn; split <;> omega
  have a3 : wrap64 (dp + (z : Int)) = (b : Int) := by rw [w64 _ (by omega) (by omega)]; omega
  have a4 : wrap64 ((nd : Int) - dp - (z : Int)) = ((nd - b : Nat) : Int) := by rw [w64 _ (by omega) (by omega)]; omega
  have a5 : mx 0 (wrap64 ((nd : Int) - (b : Int))) = ((nd - b : Nat) : Int) := by rw [w64 _ (by omega) (by omega)]; unfold mx; split <;> omega
  have a6 : mn ((nd - b : Nat) : Int) ((nd - b : Nat) : Int) = ((nd - b : Nat) : Int) := by unfold mn; split <;> rfl
  have a7 : mx 0 (wrap64 (((nd - b : Nat) : Int) - ((nd - b : Nat) : Int))) = 0 := by rw [w64 _ (by omega) (by omega)]; unfold mx; split <;> omega
  have f4 := ef_l4 x2 b (nd - b) (by omega) (by omega) (nd - b) 0 (x0 ++ [46] ++ List.replicate z 48) (by omega) (by simp only [List.length_append, List.length_cons, List.length_nil, List.length_replicate]; omega)
  have f3 := ef_l3 x2 b (nd - b) z _ (by omega) z 0 (x0 ++ [46]) (by omega) (by simp only [List.length_append, List.length_cons, List.length_nil]; omega) f4
  rw [Nat.add_zero] at f3
  refine Ev.succ (fun k => ?_) f3
  rw [strconv_fmtEFG.j17, if_pos (by omega), if_pos (by omega), a1, a2, a3, a4, a5, a6, a7]
  rfl

theorem fmtF_j14 (x0 buf : List Int) (nd : Nat) (dp : Int) (h1 : 1 ≤ nd) (h2 : nd ≤ buf.length) (h3 : buf.length ≤ 100) (hl : x0.length ≤ 40000000000) (hd0 : -6 < dp) (hd1 : dp ≤ 21) :
    Ev (fun k => strconv_fmtEFG.j14 k x0 buf dp (nd : Int) (mx ((nd : Int) - dp) 0)) (x0 ++ laidL (buf.take nd) dp) := by
  have hlen : (buf.take nd).length = nd := by rw [List.length_take]; omega
  unfold laidL
  rw [hlen]
  by_cases hp : dp > 0
  · obtain ⟨d, rfl⟩ : ∃ d : Nat, dp = (d : Int) := ⟨dp.toNat, by omega⟩
    by_cases hle : nd ≤ d
    · rw [if_pos ⟨by omega, hd1⟩]
      have a1 : mn (nd : Int) (d : Int) = (nd : Int) := by unfold mn; split <;> omega
      have a2 : mx ((nd : Int) - (d : Int)) 0 = 0 := by unfold mx; split <;> omega
      have a3 : ((d : Int) - (nd : Int)).toNat = d - nd := by omega
      rw [a2, a3]
      have f17 : Ev (fun k => strconv_fmtEFG.j17 k (x0 ++ (buf.take nd).drop 0 ++ List.replicate (d - nd) 48) buf (d : Int) (nd : Int) 0) (x0 ++ (buf.take nd ++ List.replicate (d - nd) 48)) := by
        refine Ev.succ (g := fun _ => some (x0 ++ (buf.take nd ++ List.replicate (d - nd) 48))) (fun k => ?_) (Ev.pure _)
        rw [strconv_fmtEFG.j17, if_neg (by omega), List.drop_zero, List.append_assoc]
      have f2 := ef_l2 buf (d : Int) (nd : Int) 0 (d - nd) _ (by omega) (d - nd) 0 (x0 ++ (buf.take nd).drop 0) (by omega) (by simp only [List.length_append, List.length_drop, hlen]; omega) f17
      have a4 : ((d - nd : Nat) : Int) = wrap64 ((d : Int) - (nd : Int)) := by rw [w64 _ (by omega) (by omega)]; omega
      rw [a4] at f2
      have f1 := ef_l1 buf (buf.take nd) (d : Int) (nd : Int) 0 (nd : Int) _ (by omega) nd 0 x0 (by omega) (by omega) f2
      refine Ev.succ (fun k => ?_) f1
      rw [strconv_fmtEFG.j14, if_pos hp, a1, if_pos (by omega), if_pos (by omega), Int.toNat_natCast, Option.bind_some]
      rfl
    · rw [if_neg (by omega), if_pos ⟨by omega, hd1⟩, Int.toNat_natCast]
      have a1 : mn (nd : Int) (d : Int) = (d : Int) := by unfold mn; split <;> omega
      have a2 : mx ((nd : Int) - (d : Int)) 0 = (nd : Int) - (d : Int) := by unfold mx; split <;> omega
      rw [a2]
      have hlen2 : (buf.take d).length = d := by rw [List.length_take]; omega
      have f17 := ef_j17 (x0 ++ buf.take d) buf (d : Int) nd (by rw [List.length_append]; omega) h2 h3 (by omega) (by omega)
      rw [show (-(d : Int)).toNat = 0 by omega, List.replicate_zero, List.append_nil, Int.toNat_natCast] at f17
      have e : x0 ++ ((buf.take nd).take d ++ [46] ++ (buf.take nd).drop d) = x0 ++ buf.take d ++ [46] ++ (buf.drop d).take (nd - d) := by
        rw [List.take_take, Nat.min_eq_left (by omega), List.drop_take]
        simp only [List.append_assoc]
      rw [e]
      have f2 := ef_l2 buf (d : Int) (nd : Int) ((nd : Int) - (d : Int)) 0 _ (by omega) 0 0 (x0 ++ (buf.take d).drop 0) (by omega) (by simp only [List.length_append, List.length_drop, hlen2]; omega) (by rw [List.replicate_zero, List.append_nil, List.drop_zero]; exact f17)
      have a4 : ((0 : Nat) : Int) = wrap64 ((d : Int) - (d : Int)) := by rw [w64 _ (by omega) (by omega)]; omega
      have f1 := ef_l1 buf (buf.take d) (d : Int) (nd : Int) ((nd : Int) - (d : Int)) (d : Int) _ (by omega) d 0 x0 (by omega) (by omega) (by rw [← a4]; exact f2)
      refine Ev.succ (fun k => ?_) f1
      rw [strconv_fmtEFG.j14, if_pos hp, a1, if_pos (by omega), if_pos (by omega), Int.toNat_natCast, Option.bind_some]
      rfl
  · rw [if_neg (by omega), if_neg (by omega), if_pos ⟨hd0, by omega⟩]
    have a2 : mx ((nd : Int) - dp) 0 = (nd : Int) - dp := by unfold mx; split <;> omega
    rw [a2]
    have f17 := ef_j17 (x0 ++ [48]) buf dp nd (by rw [List.length_append]; simp only [List.length_cons, List.length_nil]; omega) h2 h3 (by omega) (by omega)
    have e0 : dp.toNat = 0 := by omega
    rw [e0, List.drop_zero, Nat.sub_zero] at f17
    have e : x0 ++ ([48, 46] ++ List.replicate (-dp).toNat 48 ++ buf.take nd) = x0 ++ [48] ++ [46] ++ List.replicate (-dp).toNat 48 ++ buf.take nd := by
      simp only [List.append_assoc, List.cons_append, List.nil_append]
    rw [e]
    refine Ev.succ (fun k => ?_) f17
    rw [strconv_fmtEFG.j14, if_neg hp, if_pos (by omega)]

theorem fmtF_ev (l0 buf : List Int) (neg : Bool) (nd : Nat) (dp : Int) (h1 : 1 ≤ nd) (h2 : nd ≤ buf.length) (h3 : buf.length ≤ 100) (hl : l0.length ≤ 5000000000) (hd0 : -6 < dp) (hd1 : dp ≤ 21) :
    ∃ K, fmtF.f K l0 neg buf dp (nd : Int) (mx ((nd : Int) - dp) 0) = some (l0 ++ ((if neg = true then [45] else []) ++ laidL (buf.take nd) dp)) := by
  cases neg with
  | true =>
    obtain ⟨K, h⟩ := fmtF_j14 (l0 ++ [45]) buf nd dp h1 h2 h3 (by rw [List.length_append]; simp only [List.length_cons, List.length_nil]; omega) hd0 hd1
    refine ⟨K, ?_⟩
    rw [fmtF.f, if_pos rfl, if_pos (by omega), if_pos rfl, ← List.append_assoc]
    exact h K (Nat.le_refl _)
  | false =>
    obtain ⟨K, h⟩ := fmtF_j14 l0 buf nd dp h1 h2 h3 (by omega) hd0 hd1
    refine ⟨K, ?_⟩
    rw [fmtF.f, if_neg (by decide), if_neg (by decide), List.nil_append]
    exact h K (Nat.le_refl _)
theorem fmtF_zero (l0 : List Int) (neg : Bool) (hl : l0.length ≤ 5000000000) : ∃ K, fmtF.f K l0 neg [] 0 0 (-1) = some (l0 ++ ((if neg = true then [45] else []) ++ [48])) := by
  have h : ∀ x0 : List Int, x0.length < 50000000000 → strconv_fmtEFG.j14 2 x0 [] 0 0 (-1) = some (x0 ++ [48]) := by
    intro x0 hx
    rw [strconv_fmtEFG.j14, if_neg (by decide), if_pos (by omega), strconv_fmtEFG.j17, if_neg (by decide)]
  cases neg with
  | true =>
    refine ⟨2, ?_⟩
    rw [fmtF.f, if_pos rfl, if_pos (by omega), if_pos rfl, ← List.append_assoc]
    exact h _ (by rw [List.length_append]; simp only [List.length_cons, List.length_nil]; omega)
  | false =>
    refine ⟨2, ?_⟩
    rw [fmtF.f, if_neg (by decide), if_neg (by decide), List.nil_append]
    exact h _ (by omega)

/-- the digits of an exponent -/
def expL (x : Nat) : List Int := if x < 10 then [48, ((x + 48 : Nat) : Int)] else if x < 100 then [((x / 10 + 48 : Nat) : Int), ((x % 10 + 48 : Nat) : Int)] else [((x / 100 + 48 : Nat) : Int), ((x / 10 % 10 + 48 : Nat) : Int), ((x % 10 + 48 : Nat) : Int)]

theorem ef_j13 (x0 : List Int) (s : Int) (x : Nat) (hx : x < 1000) (hl : x0.length ≤ 90000000000) : Ev (fun k => strconv_fmtEFG.j13 k x0 s (x : Int)) (x0 ++ [s] ++ expL x) := by
  refine Ev.succ (g := fun _ => some (x0 ++ [s] ++ expL x)) (fun k => ?_) (Ev.pure _)
  have t10 : Int.tdiv (x : Int) 10 = ((x / 10 : Nat) : Int) := rfl
  have t100 : Int.tdiv (x : Int) 100 = ((x / 100 : Nat) : Int) := rfl
  have m10 : Int.tmod (x : Int) 10 = ((x % 10 : Nat) : Int) := rfl
  have ls : (x0 ++ [s]).length = x0.length + 1 := by simp
  rw [strconv_fmtEFG.j13, if_pos (by omega), t10, t100, m10, Option.bind_some]
  unfold expL
  by_cases h1 : x < 10
  · rw [if_pos (by omega), Option.bind_some, if_pos h1, if_pos (by rw [ls]; simp only [List.length_cons, List.length_nil]; omega)]
    have e : ((x : Int) % 256 + 48) % 256 = ((x + 48 : Nat) : Int) := by omega
    rw [e]
  · by_cases h2 : x < 100
    · rw [if_neg (by omega), if_neg h1, if_pos (by omega), Option.bind_some, if_pos h2, if_pos (by rw [ls]; simp only [List.length_cons, List.length_nil]; omega), w64 _ (by omega) (by omega)]
      have e1 : (((x / 10 : Nat) : Int) % 256 + 48) % 256 = ((x / 10 + 48 : Nat) : Int) := by omega
      have e2 : (((x % 10 : Nat) : Int) % 256 + 48) % 256 = ((x % 10 + 48 : Nat) : Int) := by omega
      rw [e1, e2]
    · rw [if_neg (by omega), if_neg h1, if_neg (by omega), Option.bind_some, if_neg h2, if_pos (by rw [ls]; simp only [List.length_cons, List.length_nil]; omega), w64 _ (by omega) (by omega), w64 _ (by omega) (by omega)]
      have e1 : (((x / 100 : Nat) : Int) % 256 + 48) % 256 = ((x / 100 + 48 : Nat) : Int) := by omega
      have e2 : (((x / 10 : Nat) : Int) % 256) % 10 + 48 = ((x / 10 % 10 + 48 : Nat) : Int) := by omega
      have e3 : (((x % 10 : Nat) : Int) % 256 + 48) % 256 = ((x % 10 + 48 : Nat) : Int) := by omega
      rw [e1, e2, e3]

theorem dec_expL (x : Nat) (hx : x < 1000) : (x < 10 → expL x = [48, ((x + 48 : Nat) : Int)] ∧ dec x = [((x + 48 : Nat) : Int)]) ∧ (10 ≤ x → x < 100 → dec x = expL x ∧ expL x = [((x / 10 + 48 : Nat) : Int), ((x % 10 + 48 : Nat) : Int)]) ∧ (100 ≤ x → dec x = expL x ∧ expL x = [((x / 100 + 48 : Nat) : Int), ((x / 10 % 10 + 48 : Nat) : Int), ((x % 10 + 48 : Nat) : Int)]) := by
  refine ⟨fun h => ⟨if_pos h, by rw [dec_lt h, Nat.add_comm]⟩, fun h1 h2 => ?_, fun h1 => ?_⟩
  · have e : expL x = [((x / 10 + 48 : Nat) : Int), ((x % 10 + 48 : Nat) : Int)] := by unfold expL; rw [if_neg (by omega), if_pos h2]
    refine ⟨?_, e⟩
    rw [e, dec_ge h1, dec_lt (by omega), Nat.add_comm 48, Nat.add_comm 48]
    rfl
  · have e : expL x = [((x / 100 + 48 : Nat) : Int), ((x / 10 % 10 + 48 : Nat) : Int), ((x % 10 + 48 : Nat) : Int)] := by unfold expL; rw [if_neg (by omega), if_neg (by omega)]
    refine ⟨?_, e⟩
    rw [e, dec_ge (n := x) (by omega), dec_ge (n := x / 10) (by omega), dec_lt (by omega), Nat.add_comm 48, Nat.add_comm 48, Nat.add_comm 48, Nat.div_div_eq_div_mul]
    rfl

/-- a text with its exponent, mended -/
theorem fixE_exp (p : List Int) (s : Int) (x : Nat) (hx : x < 1000) (h : (s = 45 ∧ 1 ≤ x) ∨ (s = 43 ∧ 10 ≤ x)) :
    (∃ q a b c d, p ++ [101] ++ [s] ++ expL x = q ++ [a, b, c, d] ∧ q.length ≤ p.length + 1) ∧ fixE (p ++ [101] ++ [s] ++ expL x) = p ++ ([101, s] ++ dec x) := by
  obtain ⟨d1, d2, d3⟩ := dec_expL x hx
  by_cases h1 : x < 10
  · obtain ⟨e1, e2⟩ := d1 h1
    have hs : s = 45 := by omega
    have e : p ++ [101] ++ [s] ++ expL x = p ++ [101, s, 48, ((x + 48 : Nat) : Int)] := by rw [e1]; simp
    refine ⟨⟨p, 101, s, 48, ((x + 48 : Nat) : Int), e, by omega⟩, ?_⟩
    rw [e, fixE_app, if_pos ⟨rfl, hs, rfl⟩, e2]
    rfl
  · by_cases h2 : x < 100
    · obtain ⟨e2, e1⟩ := d2 (by omega) h2
      have e : p ++ [101] ++ [s] ++ expL x = p ++ [101, s, ((x / 10 + 48 : Nat) : Int), ((x % 10 + 48 : Nat) : Int)] := by rw [e1]; simp
      refine ⟨⟨p, 101, s, ((x / 10 + 48 : Nat) : Int), ((x % 10 + 48 : Nat) : Int), e, by omega⟩, ?_⟩
      rw [e, fixE_app, if_neg (by omega), e2, e1]
      rfl
    · obtain ⟨e2, e1⟩ := d3 (by omega)
      have e : p ++ [101] ++ [s] ++ expL x = (p ++ [101]) ++ [s, ((x / 100 + 48 : Nat) : Int), ((x / 10 % 10 + 48 : Nat) : Int), ((x % 10 + 48 : Nat) : Int)] := by rw [e1]; simp
      refine ⟨⟨p ++ [101], s, ((x / 100 + 48 : Nat) : Int), ((x / 10 % 10 + 48 : Nat) : Int), ((x % 10 + 48 : Nat) : Int), e, by simp⟩, ?_⟩
      rw [e, fixE_app, if_neg (by omega), e2, e1]
      simp

theorem ef_j11 (x0 : List Int) (dp : Int) (nd : Nat) (hn : 1 ≤ nd) (hl : x0.length ≤ 80000000000) (h0 : -900 ≤ dp) (h1 : dp ≤ 900) :
    Ev (fun k => strconv_fmtEFG.j11 k x0 dp (nd : Int) 101) (x0 ++ [101] ++ [if dp - 1 < 0 then 45 else 43] ++ expL (dp - 1).natAbs) := by
  have ls : (x0 ++ [101]).length = x0.length + 1 := by simp
  refine Ev.succ (g := fun k => strconv_fmtEFG.j12 k (x0 ++ [101]) (dp - 1)) (fun k => ?_) ?_
  · rw [strconv_fmtEFG.j11, if_pos (by omega), Option.bind_some, if_neg (by omega), w64 _ (by omega) (by omega)]
  · by_cases h : dp - 1 < 0
    · rw [if_pos h]
      refine Ev.succ (fun k => ?_) (ef_j13 (x0 ++ [101]) 45 (dp - 1).natAbs (by omega) (by omega))
      rw [strconv_fmtEFG.j12, if_pos h, w64 _ (by omega) (by omega), show -(dp - 1) = ((dp - 1).natAbs : Int) by omega]
    · rw [if_neg h]
      refine Ev.succ (fun k => ?_) (ef_j13 (x0 ++ [101]) 43 (dp - 1).natAbs (by omega) (by omega))
      rw [strconv_fmtEFG.j12, if_neg h]
      congr 1
      omega

theorem fmtE_j7 (x0 buf : List Int) (nd : Nat) (dp : Int) (h1 : 1 ≤ nd) (h2 : nd ≤ buf.length) (h3 : buf.length ≤ 100) (hl : x0.length ≤ 40000000000) (hd0 : -900 ≤ dp) (hd1 : dp ≤ 900) :
    Ev (fun k => strconv_fmtEFG.j7 k x0 buf dp (nd : Int) ((nd : Int) - 1) 101) (x0 ++ (if nd = 1 then buf.take nd else (buf.take nd).take 1 ++ [46] ++ (buf.take nd).drop 1) ++ [101] ++ [if dp - 1 < 0 then 45 else 43] ++ expL (dp - 1).natAbs) := by
  have hlen : (buf.take nd).length = nd := by rw [List.length_take]; omega
  have t1 : buf.take 1 = [rd buf 0] := by
    have := take_snoc buf 0 (by omega)
    simpa using this
  have ls : (x0 ++ [rd buf 0]).length = x0.length + 1 := by simp
  refine Ev.succ (g := fun k => strconv_fmtEFG.j8 k x0 buf dp (nd : Int) ((nd : Int) - 1) 101 (rd buf 0)) (fun k => ?_) ?_
  · rw [strconv_fmtEFG.j7, if_neg (by omega), if_pos (by omega)]
  · by_cases hn : nd = 1
    · subst hn
      rw [if_pos rfl, t1]
      refine Ev.succ (fun k => ?_) (ef_j11 (x0 ++ [rd buf 0]) dp 1 (by omega) (by omega) hd0 hd1)
      rw [strconv_fmtEFG.j8, if_pos (by omega), Option.bind_some, if_neg (by omega)]
    · rw [if_neg hn, List.take_take, Nat.min_eq_left (by omega), t1]
      have a1 : mn (nd : Int) (wrap64 ((nd : Int) - 1 + 1)) = (nd : Int) := by rw [w64 _ (by omega) (by omega)]; unfold mn; split <;> omega
      have ls2 : (x0 ++ [rd buf 0] ++ [46]).length = x0.length + 2 := by simp
      have ls3 : ((buf.take nd).drop 1).length = nd - 1 := by rw [List.length_drop, hlen]
      have f := ef_j11 (x0 ++ [rd buf 0] ++ [46] ++ (buf.take nd).drop 1) dp nd h1 (by rw [List.length_append, ls2, ls3]; omega) hd0 hd1
      have f0 := Ev.succ (f := fun k => strconv_fmtEFG.l0 k (x0 ++ [rd buf 0] ++ [46] ++ (buf.take nd).drop 1) dp (nd : Int) 101 0 0) (fun k => by rw [strconv_fmtEFG.l0, if_neg (by omega)]) f
      have e : x0 ++ ([rd buf 0] ++ [46] ++ (buf.take nd).drop 1) = x0 ++ [rd buf 0] ++ [46] ++ (buf.take nd).drop 1 := by simp only [List.append_assoc]
      rw [e]
      refine Ev.succ (g := fun k => strconv_fmtEFG.j9 k (x0 ++ [rd buf 0] ++ [46] ++ (buf.take nd).drop 1) dp (nd : Int) ((nd : Int) - 1) 101 (nd : Int)) (fun k => ?_) ?_
      · rw [strconv_fmtEFG.j8, if_pos (by omega), Option.bind_some, if_pos (by omega), if_pos (by omega), Option.bind_some, a1, if_pos (by omega), if_pos (by omega), if_pos (by omega), Option.bind_some, Int.toNat_natCast, if_pos (by rw [ls2, ls3]; omega)]
      · refine Ev.succ (fun k => ?_) f0
        rw [strconv_fmtEFG.j9, w64 ((nd : Int) - 1 + 1) (by omega) (by omega), w64 _ (by omega) (by omega), show (nd : Int) - 1 + 1 - (nd : Int) = 0 by omega]

theorem fmtE_ev (l0 buf : List Int) (neg : Bool) (nd : Nat) (dp : Int) (h1 : 1 ≤ nd) (h2 : nd ≤ buf.length) (h3 : buf.length ≤ 100) (hl : l0.length ≤ 5000000000) (hd : (-900 ≤ dp ∧ dp ≤ -6) ∨ (21 < dp ∧ dp ≤ 900)) :
    ∃ K r, fmtE.f K l0 neg buf dp (nd : Int) ((nd : Int) - 1) = some r ∧ (∃ q a b c d, r = q ++ [a, b, c, d] ∧ q.length ≤ 140737488355328) ∧ fixE r = l0 ++ ((if neg = true then [45] else []) ++ laidL (buf.take nd) dp) := by
  have hlen : (buf.take nd).length = nd := by rw [List.length_take]; omega
  obtain ⟨p, hp⟩ : ∃ p, p = (l0 ++ (if neg = true then [45] else [])) ++ (if nd = 1 then buf.take nd else (buf.take nd).take 1 ++ [46] ++ (buf.take nd).drop 1) := ⟨_, rfl⟩
  have lp : p.length ≤ 10000000000 := by
    rw [hp, List.length_append, List.length_append]
    have x1 : (if neg = true then [45] else [] : List Int).length ≤ 1 := by split <;> simp
    have x2 : (if nd = 1 then buf.take nd else (buf.take nd).take 1 ++ [46] ++ (buf.take nd).drop 1).length ≤ 200 := by
      split
      · omega
      · simp only [List.length_append, List.length_take, List.length_drop, List.length_cons, List.length_nil]; omega
    omega
  have fx := fixE_exp p (if dp - 1 < 0 then 45 else 43) (dp - 1).natAbs (by omega) (by split <;> omega)
  obtain ⟨K, hK⟩ := fmtE_j7 (l0 ++ (if neg = true then [45] else [])) buf nd dp h1 h2 h3 (by
    have x1 : (if neg = true then [45] else [] : List Int).length ≤ 1 := by split <;> simp
    rw [List.length_append]; omega) (by omega) (by omega)
  refine ⟨K, p ++ [101] ++ [if dp - 1 < 0 then 45 else 43] ++ expL (dp - 1).natAbs, ?_, ?_, ?_⟩
  · have hk := hK K (Nat.le_refl _)
    dsimp only at hk
    rw [← hp] at hk
    cases neg with
    | true => rw [fmtE.f, if_pos rfl, if_pos (by omega)]; exact hk
    | false =>
      rw [fmtE.f, if_neg (by decide)]
      rw [if_neg (by decide), List.append_nil] at hk
      exact hk
  · obtain ⟨⟨q, a, b, c, d, e, lq⟩, _⟩ := fx
    exact ⟨q, a, b, c, d, e, by omega⟩
  · have e : laidL (buf.take nd) dp = (if nd = 1 then buf.take nd else (buf.take nd).take 1 ++ [46] ++ (buf.take nd).drop 1) ++ ([101, if dp - 1 < 0 then 45 else 43] ++ dec (dp - 1).natAbs) := by
      unfold laidL
      rw [hlen, if_neg (by omega), if_neg (by omega), if_neg (by omega)]
      congr 1
      by_cases h : dp - 1 < 0
      · rw [if_pos h, if_pos h, show (dp - 1).natAbs = (1 - dp).toNat by omega]
      · rw [if_neg h, if_neg h, show (dp - 1).natAbs = (dp - 1).toNat by omega]
    rw [fx.2, hp, e]
    simp only [List.append_assoc]
end Go.Proofs.YtiopeaponffmdaaDoor.PAll
-- YtiopeaponffmdaaDoorFl
namespace Go.Proofs.YtiopeaponffmdaaDoor.PAll
open Go.RowKit Go.Proofs.YtiopeaponffmdaaDoorW.PrintWords Go.Proofs.YtiopeaponffmdaaDoorW.PrintLast Go.Proofs.YtiopeaponffmdaaDoorW.PrintMore
open Fm

/-- the table of powers of ten lies in its block -/
def Tab3 (w : World) : Prop := 3 < w.heap.size ∧ ∀ i, i < 696 → w.cell? ⟨3, i * 2, none⟩ = some (.int .u64 ((Go.Pinned.pow10Rows.getD i (0, 0)).1 : Int)) ∧ w.cell? ⟨3, i * 2 + 1, none⟩ = some (.int .u64 ((Go.Pinned.pow10Rows.getD i (0, 0)).2 : Int))
theorem Tab3.at {w : World} (h : Tab3 w) {p : Int} {hi lo : Nat} (hr : rowOf p = (hi, lo)) (h0 : -348 ≤ p) (h1 : p ≤ 347) :
    w.cell? ⟨3, (p + 348).toNat * 2, none⟩ = some (.int .u64 (hi : Int)) ∧ w.cell? ⟨3, (p + 348).toNat * 2 + 1, none⟩ = some (.int .u64 (lo : Int)) := by
  have := h.2 (p + 348).toNat (by omega)
  unfold rowOf at hr
  rw [hr] at this
  exact this

theorem i64_and (n k : Nat) (h : n < 9223372036854775808) (hk : 2 ^ k ≤ 9223372036854775808) : bits .and .i64 (n : Int) ((2 ^ k - 1 : Nat) : Int) = ((n % 2 ^ k : Nat) : Int) := by
  have hp : 0 < 2 ^ k := Nat.two_pow_pos k
  have hm : n % 2 ^ k < 2 ^ k := Nat.mod_lt _ hp
  show IntKind.i64.wrap ((BitVec.ofInt 64 (n : Int) &&& BitVec.ofInt 64 ((2 ^ k - 1 : Nat) : Int)).toNat : Int) = _
  rw [BitVec.toNat_and, ofInt_u64 n (by omega), ofInt_u64 (2 ^ k - 1) (by omega), Nat.and_two_pow_sub_one_eq_mod]
  exact Go.Lib.wrap_i64_small _ (by omega)

/-- what shortFloat answers, and what the reference says of it -/
structure SfAns (f fn c mant : Nat) (E : Int) (most : Int) (D : Nat) (pp : Int) : Prop where
  pos : 0 < D
  lt : D < 1000000000000000000
  p0 : -400 ≤ pp
  p1 : pp ≤ 400
  ev : Ev (fun k => spec_Form_Shortest.f k (f : Int) most (c : Int)) (strOfNums (dec (cutz D)), ((dec D).length : Int) + pp)
  sh : ∃ n k x, ShAt f c 400 n k x ∧ cutz x = cutz D ∧ 0 < x ∧ n + ((dec x).length : Int) - (k : Int) = ((dec D).length : Int) + pp
  calls : ∀ W, Tab3 W → Calls Tryd.prog fn #[.int .u64 (mant : Int), .int .i64 E] W fun e W' => e = .returned (.tuple #[.int .u64 (D : Int), .int .i64 pp]) ∧ Below W.heap.size W W'

theorem T2_bound32 (c e311 : Nat) (he : e311 = 311) (hc : c < 255 * 2 ^ 23) : T2 23 c < 2 ^ lst 23 * 10 ^ e311 := by
  have h1 : T2 23 c ≤ T2 23 (255 * 2 ^ 23) := T2_mono 23 (by omega)
  refine Nat.lt_of_le_of_lt h1 ?_
  subst he
  decide +kernel

end Go.Proofs.YtiopeaponffmdaaDoor.PAll
-- YtiopeaponffmdaaDoorFj
namespace Go.Proofs.YtiopeaponffmdaaDoor.PAll
open Go.RowKit Go.Proofs.YtiopeaponffmdaaDoorW.PrintWords Go.Proofs.YtiopeaponffmdaaDoorW.PrintLast Go.Proofs.YtiopeaponffmdaaDoorW.PrintMore

theorem conv5 (s : ByteArray) (w : World) : (convert 9 39 (.string s)).run Tryd.prog w = .ok (.slice (some ⟨w.heap.size, 0, none⟩) s.size (grownCap w s.size 0 5)) (Lib.bytesWorld w 5 s) :=
  Lib.run_convert_string_bytes w 9 39 5 s Tryd.underlying9 Tryd.underlying39 Tryd.underlying5
/-- FloatText, by what AppendFloat answers on a row of the call's own -/
theorem floatText32 (tt : ByteArray) (x : Nat) (w : World) (R : List Int → Prop) (hto : tt.size ≤ 140737488355328)
    (h : ∀ (W : World) (v : Value), Below w.heap.size w W → RM 5 W w.heap.size (fun _ => True) v (bytesOf tt) → Calls Tryd.prog 25 #[v, .float .f64 x, .int .i64 32] W (FtPost w R)) :
    Calls Tryd.prog 14 #[.string tt, .float .f64 x, .int .i64 32] w fun e w' => ∃ r, R r ∧ e = .returned (.string (strOfNums r)) ∧ Below w.heap.size w w' := by
  have cv := conv5 tt w
  have H := h (Lib.bytesWorld w 5 tt) _ (Joins.below_bytesWorld _ _ _ _ (Nat.le_refl _)) (RM_bytes w 5 tt hto (Nat.le_refl _) trivial)
  obtain ⟨W, hW⟩ : ∃ X, X = Lib.bytesWorld w 5 tt := ⟨_, rfl⟩
  obtain ⟨cap, hcap⟩ : ∃ c, c = grownCap w tt.size 0 5 := ⟨_, rfl⟩
  rw [← hW, ← hcap] at cv H
  have HH := Lib.hid H
  clear H h hW hcap
  go_enter Tryd.func14, Tryd.ntmps14
  go_wp2_with (fail)
  refine HH.out.mono ?_
  rintro e w' ⟨v, r, rfl, q1, q2, q3⟩
  obtain ⟨A, c, rfl, hc, hr⟩ := RM_reads q2
  have cs := Kd.C_string (P := Tryd.prog) (w := w') (src := 39) (dst := 9) (e := 5) (c := c) Tryd.underlying39 Tryd.underlying5 Tryd.underlying9 hr
  have Q1 := Lib.hid q1
  have Q3 := Lib.hid q3
  clear q1 q2 q3 hr hc
  go_wp2_with (fail)
  go_returns
  exact ⟨_, Q1.out, rfl, Q3.out⟩
end Go.Proofs.YtiopeaponffmdaaDoor.PAll
-- YtiopeaponffmdaaDoorFo
namespace Go.Proofs.YtiopeaponffmdaaDoor.PAll
open Go.RowKit Go.Proofs.YtiopeaponffmdaaDoorW.PrintWords Go.Proofs.YtiopeaponffmdaaDoorW.PrintLast Go.Proofs.YtiopeaponffmdaaDoorW.PrintMore
open Fm

theorem bitLen_of (M : Nat) (h0 : 1 ≤ M) (h1 : M < 18446744073709551616) : ∃ L, Lib.bitLen M = L ∧ 1 ≤ L ∧ L ≤ 64 ∧ 2 ^ (L - 1) ≤ M ∧ M < 2 ^ L := by
  obtain ⟨a, b, d⟩ := Lib.bitLenAux_bounds 64 M (by omega) (by omega)
  refine ⟨Lib.bitLen M, rfl, a, ?_, b, d⟩
  exact Lib.bitLen_le M 64 (Nat.le_refl _) (by omega)
theorem pow2_lt {i j : Nat} (h : (2 : Nat) ^ i < 2 ^ j) : i < j := (Nat.pow_lt_pow_iff_right (by decide)).1 h

/-- the tables lie, now and later -/
def Rdy (w : World) : Prop := ∀ W, Below w.heap.size w W → Tab3 W ∧ Lib.TabIs Tryd.prog W "internal/strconv.uint64pow10" .u64 Lib.pow10Tab
theorem Rdy.mono {w W : World} (h : Rdy w) (hb : Below w.heap.size w W) : Rdy W := fun V hV => h V (hb.trans (hV.mono hb.size))

theorem cutz_le (D : Nat) : cutz D ≤ D := by
  induction D using Nat.strongRecOn with
  | ind D ih =>
    by_cases h : 10 ≤ D ∧ D % 10 = 0
    · rw [cutz_pos h.1 h.2]
      have := ih (D / 10) (by omega)
      omega
    · rw [cutz_neg h]; exact Nat.le_refl _
theorem laidL_len (ds : List Int) (n : Int) (h1 : ds.length ≤ 20) (h2 : -1000 ≤ n) (h3 : n ≤ 1000) : (laidL ds n).length ≤ 100 := by
  have d20 : ∀ k : Nat, k ≤ 2000 → (dec k).length ≤ 4 := fun k hk => dec_length_le 3 k (Nat.lt_of_le_of_lt hk (by decide))
  unfold laidL
  split
  · simp only [List.length_append, List.length_replicate]; omega
  · split
    · simp only [List.length_append, List.length_take, List.length_drop, List.length_cons, List.length_nil]; omega
    · split
      · simp only [List.length_append, List.length_replicate, List.length_cons, List.length_nil]; omega
      · have e1 := d20 (1 - n).toNat (by omega)
        have e2 := d20 (n - 1).toNat (by omega)
        rw [List.length_append]
        have g1 : (if ds.length = 1 then ds else ds.take 1 ++ [46] ++ ds.drop 1).length ≤ 42 := by
          split
          · omega
          · simp only [List.length_append, List.length_take, List.length_drop, List.length_cons, List.length_nil]; omega
        have g2 : (if n - 1 < 0 then [101, 45] ++ dec (1 - n).toNat else [101, 43] ++ dec (n - 1).toNat).length ≤ 6 := by
          split <;> simp only [List.length_append, List.length_cons, List.length_nil] <;> omega
        omega

theorem order64 (c y : Nat) (hc : c < 9218868437227405312) (hy : y < 9218868437227405312) : (c < y → FloatKind.f64.format.order c y = some .lt) ∧ (c = y → FloatKind.f64.format.order c y = some .eq) ∧ (y < c → FloatKind.f64.format.order c y = some .gt) := by
  have h := order_pos FloatKind.f64.format c y (by decide +kernel) (Nat.lt_of_lt_of_le hc (by decide +kernel)) (Nat.lt_of_lt_of_le hy (by decide +kernel))
  refine ⟨fun e => ?_, fun e => ?_, fun e => ?_⟩
  · rw [h, if_pos (T2_strict _ e)]
  · rw [h, e, if_neg (Nat.lt_irrefl _), if_pos rfl]
  · have := T2_strict FloatKind.f64.format.fractionBits e
    rw [h, if_neg (Nat.lt_asymm this), if_neg (Nat.ne_of_gt this)]

end Go.Proofs.YtiopeaponffmdaaDoor.PAll
