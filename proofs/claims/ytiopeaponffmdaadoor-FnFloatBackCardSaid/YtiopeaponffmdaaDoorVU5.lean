/- The texts of a proof, its declarations alone: part 5. -/
import Derived.Laws.BitsAllLaws
import Derived.Lib.Strings
import Derived.Shelf.Strconv.Itoa0
import Derived.Shelf.Strconv.Itoa1
import Derived.Shelf.LaysM
import Derived.Shelf.Strconv.Itoa2
import Derived.Shelf.Bits.Mul64
import Derived.Test.YtiopeaponffmdaaDoorProg
import Derived.IntWalk
import Derived.WalkSmall
import Derived.Lib.QuoteBits
import Derived.Lib.Hide
import Derived.Test.YtiopeaponffmdaaDoorVU1
import Derived.Test.YtiopeaponffmdaaDoorVU3
import Derived.Test.YtiopeaponffmdaaDoorVU4
set_option linter.unusedVariables false
set_option linter.unusedSimpArgs false
-- YtiopeaponffmdaaDoorNb2
namespace Go.Proofs.YtiopeaponffmdaaDoor.PAll
open Go.RowKit Go.Proofs.YtiopeaponffmdaaDoorW.PrintWords Go.Proofs.YtiopeaponffmdaaDoorW.PrintLast Go.Proofs.YtiopeaponffmdaaDoorW.PrintMore

/-- the decimal digits of a number, as bytes -/
def dec (n : Nat) : List Int := if h : n < 10 then [((48 + n : Nat) : Int)] else dec (n / 10) ++ [((48 + n % 10 : Nat) : Int)]
termination_by n
decreasing_by omega
theorem dec_lt {n : Nat} (h : n < 10) : dec n = [((48 + n : Nat) : Int)] := by rw [dec, dif_pos h]
theorem dec_ge {n : Nat} (h : 10 ≤ n) : dec n = dec (n / 10) ++ [((48 + n % 10 : Nat) : Int)] := by rw [dec, dif_neg (by omega)]
theorem dec_digit (n : Nat) : ∀ b ∈ dec n, 48 ≤ b ∧ b ≤ 57 := by
  induction n using Nat.strongRecOn with
  | ind n ih =>
    intro b hb
    by_cases h : n < 10
    · rw [dec_lt h] at hb
      simp only [List.mem_singleton] at hb
      omega
    · rw [dec_ge (by omega)] at hb
      rcases List.mem_append.1 hb with hb | hb
      · exact ih _ (by omega) b hb
      · simp only [List.mem_singleton] at hb
        omega
theorem dec_length_pos (n : Nat) : 1 ≤ (dec n).length := by
  by_cases h : n < 10
  · rw [dec_lt h]; simp
  · rw [dec_ge (by omega)]; simp
theorem dec_length_le (d : Nat) : ∀ n, n < 10 ^ (d + 1) → (dec n).length ≤ d + 1 := by
  induction d with
  | zero => intro n h; rw [dec_lt (by simpa using h)]; simp
  | succ d ih =>
    intro n h
    by_cases h1 : n < 10
    · rw [dec_lt h1]; simp
    · rw [dec_ge (by omega), List.length_append]
      have := ih (n / 10) (by rw [Nat.pow_succ] at h; omega)
      simp only [List.length_singleton]
      omega
theorem dec_lower (n : Nat) (h0 : 0 < n) : 10 ^ ((dec n).length - 1) ≤ n := by
  induction n using Nat.strongRecOn with
  | ind n ih =>
    by_cases h1 : n < 10
    · rw [dec_lt h1]; simp only [List.length_cons, List.length_nil]; omega
    · rw [dec_ge (by omega), List.length_append]
      have h2 := ih (n / 10) (by omega) (by omega)
      have h3 := dec_length_pos (n / 10)
      obtain ⟨m, hm⟩ : ∃ m, (dec (n / 10)).length = m + 1 := ⟨_, (Nat.sub_add_cancel h3).symm⟩
      rw [hm] at h2 ⊢
      simp only [List.length_singleton, Nat.add_sub_cancel] at h2 ⊢
      rw [Nat.pow_succ]
      omega
theorem dec_upper (n : Nat) : n < 10 ^ (dec n).length := by
  induction n using Nat.strongRecOn with
  | ind n ih =>
    by_cases h1 : n < 10
    · rw [dec_lt h1]; simpa using h1
    · rw [dec_ge (by omega), List.length_append]
      have h2 := ih (n / 10) (by omega)
      simp only [List.length_singleton]
      rw [Nat.pow_succ]
      omega

/-- what digits say -/
def dvl (l : List Int) : Nat := l.foldl (fun v b => v * 10 + (b - 48).toNat) 0
theorem dvl_snoc (l : List Int) (b : Int) : dvl (l ++ [b]) = dvl l * 10 + (b - 48).toNat := by simp [dvl]
theorem dvl_dec (n : Nat) : dvl (dec n) = n := by
  induction n using Nat.strongRecOn with
  | ind n ih =>
    by_cases h : n < 10
    · rw [dec_lt h]; simp only [dvl, List.foldl_cons, List.foldl_nil]; omega
    · rw [dec_ge (by omega), dvl_snoc, ih _ (by omega)]; omega
theorem dvl_take (l : List Int) (h : ∀ b ∈ l, 48 ≤ b ∧ b ≤ 57) : ∀ i, i ≤ l.length → dvl (l.take i) < 10 ^ i := by
  intro i
  induction i with
  | zero => intro _; rw [List.take_zero]; decide
  | succ i ih =>
    intro hi
    have h1 := ih (by omega)
    have h2 := h _ (rd_mem l i (by omega))
    rw [take_snoc l i (by omega), dvl_snoc, Nat.pow_succ]
    omega
theorem dvl_lt (l : List Int) (h : ∀ b ∈ l, 48 ≤ b ∧ b ≤ 57) : dvl l < 10 ^ l.length := by
  have := dvl_take l h l.length (Nat.le_refl _)
  rwa [List.take_length] at this
theorem pow_len {n m : Nat} (h : n < 10 ^ m) : (dg n).length ≤ m := by
  refine dg_length (Nat.lt_of_lt_of_le h ?_)
  exact Nat.pow_le_pow_left (by decide) m

theorem bytesOf_strOfNums {l : List Int} (h : ∀ x ∈ l, 0 ≤ x ∧ x < 256) : bytesOf (strOfNums l) = l := by
  rw [bytesOf, strOfNums_data, List.map_map]
  conv => rhs; rw [← List.map_id l]
  refine List.map_congr_left fun x hx => ?_
  have := h x hx
  simp only [Function.comp_apply, id_eq, UInt8.toNat_ofNat']
  omega
theorem strOfNums_bytesOf (s : ByteArray) : strOfNums (bytesOf s) = s := by
  have e : (strOfNums (bytesOf s)).data.toList = s.data.toList := by
    rw [strOfNums_data, bytesOf, List.map_map]
    conv => rhs; rw [← List.map_id s.data.toList]
    refine List.map_congr_left fun x _ => ?_
    simp
  cases s with
  | mk a =>
    simp only at e
    have := Array.toList_inj.1 e
    exact congrArg ByteArray.mk this
theorem bt_dec_strOfNums {l : List Int} (h : ∀ x ∈ l, 48 ≤ x ∧ x ≤ 57) : bytesOf (strOfNums l) = l := bytesOf_strOfNums fun x hx => by have := h x hx; omega

theorem wrapu (x : Int) (h0 : 0 ≤ x) (h1 : x < 18446744073709551616) : IntKind.u64.wrap x = x := by rw [IntKind.wrap_u64]; omega

theorem decimals_ev (n : Nat) (hn : n < 18446744073709551616) : Ev (fun k => spec_decimals.f k (n : Int)) (strOfNums (dec n)) := by
  have step : ∀ n : Nat, n < 18446744073709551616 → (IntKind.u64.wrap (48 + (Int.tmod (n : Int) 10))) % 256 = ((48 + n % 10 : Nat) : Int) ∧ IntKind.u64.wrap (Int.tdiv (n : Int) 10) = ((n / 10 : Nat) : Int) := by
    intro n hn
    rw [show Int.tmod (n : Int) 10 = ((n % 10 : Nat) : Int) from rfl, show Int.tdiv (n : Int) 10 = ((n / 10 : Nat) : Int) from rfl, wrapu _ (by omega) (by omega), wrapu _ (by omega) (by omega)]
    omega
  have stop : ∀ acc : List Int, acc ≠ [] → Ev (fun k => spec_decimals.l0 k ((0 : Nat) : Int) acc) (strOfNums acc) := by
    intro acc h3
    refine Ev.succ (g := fun _ => some (strOfNums acc)) (fun k => ?_) (Ev.pure _)
    have hl : acc.length ≠ 0 := by simpa using h3
    rw [spec_decimals.l0, if_neg (by omega), if_neg (by omega)]
  have eq : ∀ n acc, n ≠ 0 → (if n / 10 = 0 then [] else dec (n / 10)) ++ (((48 + n % 10 : Nat) : Int) :: acc) = dec n ++ acc := by
    intro n acc h0
    by_cases h : n < 10
    · rw [if_pos (by omega), dec_lt h, Nat.mod_eq_of_lt h]; rfl
    · rw [if_neg (by omega), dec_ge (n := n) (by omega)]; simp
  have main : ∀ (d n : Nat) (acc : List Int), n < 10 ^ d → n < 18446744073709551616 → acc ≠ [] → acc.length + d ≤ 1000 →
      Ev (fun k => spec_decimals.l0 k (n : Int) acc) (strOfNums ((if n = 0 then [] else dec n) ++ acc)) := by
    intro d
    induction d with
    | zero =>
      intro n acc h1 h2 h3 h4
      obtain rfl : n = 0 := by rw [Nat.pow_zero] at h1; omega
      rw [if_pos rfl, List.nil_append]
      exact stop acc h3
    | succ d ih =>
      intro n acc h1 h2 h3 h4
      by_cases h0 : n = 0
      · subst h0
        rw [if_pos rfl, List.nil_append]
        exact stop acc h3
      · have f := ih (n / 10) (((48 + n % 10 : Nat) : Int) :: acc) (by rw [Nat.pow_succ] at h1; omega) (by omega) (by simp) (by simp only [List.length_cons]; omega)
        rw [eq n acc h0] at f
        rw [if_neg h0]
        refine Ev.succ (fun k => ?_) f
        rw [spec_decimals.l0, if_pos (by omega), (step n h2).1, (step n h2).2]
        simp only [Option.bind_some]
        rw [if_pos (by simp only [List.length_cons, List.length_nil]; omega)]
        rfl
  have f := main 20 (n / 10) [((48 + n % 10 : Nat) : Int)] (by omega) (by omega) (by simp) (by simp)
  have e : (if n / 10 = 0 then [] else dec (n / 10)) ++ [((48 + n % 10 : Nat) : Int)] = dec n := by
    by_cases h : n < 10
    · rw [if_pos (by omega), dec_lt h, Nat.mod_eq_of_lt h]; rfl
    · rw [if_neg (by omega), ← dec_ge (n := n) (by omega)]
  rw [e] at f
  refine Ev.succ (fun k => ?_) f
  show spec_decimals.l0 (k + 1) (n : Int) [] = _
  rw [spec_decimals.l0, (step n hn).1, (step n hn).2]
  rw [Option.bind_some, if_pos (c := (([] : List Int).length : Int) = 0) rfl]
  have h2 : ([((48 + n % 10 : Nat) : Int)] : List Int).length + ([] : List Int).length < 140737488355328 := by simp
  rw [if_pos h2, List.append_nil, ite_self]

theorem dg_mul_len (a b : Nat) : (dg (a * b)).length ≤ (dg a).length + (dg b).length := by
  refine dg_length ?_
  rw [Nat.pow_add]
  exact Nat.mul_lt_mul'' (lt_dg_length a) (lt_dg_length b)
theorem dg_pow_len (c m : Nat) (hc : c ≤ 4294967296) : (dg (c ^ m)).length ≤ m + 1 := by
  refine dg_length ?_
  calc c ^ m ≤ 4294967296 ^ m := Nat.pow_le_pow_left hc m
    _ < 4294967296 ^ (m + 1) := Nat.pow_lt_pow_right (by decide) (by omega)
theorem cmp_mul (x y c : Nat) (hc : 0 < c) : cmp (x * c) (y * c) = cmp x y := by
  rcases Nat.lt_trichotomy x y with h | h | h
  · rw [cmp_lt h, cmp_lt (Nat.mul_lt_mul_of_pos_right h hc)]
  · rw [h, cmp_eq rfl, cmp_eq rfl]
  · rw [cmp_gt h, cmp_gt (Nat.mul_lt_mul_of_pos_right h hc)]
theorem cmp_le_zero (x y : Nat) : cmp x y ≤ 0 ↔ x ≤ y := by
  rcases Nat.lt_trichotomy x y with h | h | h
  · rw [cmp_lt h]; omega
  · rw [cmp_eq h]; omega
  · rw [cmp_gt h]; omega
theorem cmp_neg (x y : Nat) : cmp x y < 0 ↔ x < y := by
  rcases Nat.lt_trichotomy x y with h | h | h
  · rw [cmp_lt h]; omega
  · rw [cmp_eq h]; omega
  · rw [cmp_gt h]; omega
theorem cmp_zero (x y : Nat) : cmp x y = 0 ↔ x = y := by
  rcases Nat.lt_trichotomy x y with h | h | h
  · rw [cmp_lt h]; omega
  · rw [cmp_eq h]; omega
  · rw [cmp_gt h]; omega

/-- the least place of a form -/
def lst (f : Nat) : Nat := if f = 52 then 1074 else 149
theorem lst_le (f : Nat) : lst f ≤ 1074 := by unfold lst; split <;> omega
/-- a decimal number against halves of units -/
def agn (f : Nat) (D : Nat) (p : Int) (H : Nat) : Int := cmp (D * 2 ^ (lst f + 1) * 10 ^ p.toNat) (H * 10 ^ (-p).toNat)

theorem least_ev (f : Nat) (most : Int) : spec_Form_least.f (f : Int) most = some ((lst f : Nat) : Int) := by
  unfold spec_Form_least.f lst
  by_cases h : f = 52
  · rw [if_pos (by omega), if_pos h]; rfl
  · rw [if_neg (by omega), if_neg h]; rfl
theorem w64a (n : Nat) (h : n ≤ 100000) : wrap64 ((n : Int) + 1) = ((n + 1 : Nat) : Int) := by unfold wrap64; omega
theorem w64m (n : Nat) (h : n ≤ 100000) : wrap64 (-(-(n : Int))) = (n : Int) := by unfold wrap64; omega
theorem shifted_len (f D : Nat) (h : (dg D).length ≤ 1001) : (dg (D * 2 ^ (lst f + 1))).length ≤ 3100 := by
  have h1 := dg_mul_len D (2 ^ (lst f + 1))
  have h2 := dg_pow_len 2 (lst f + 1) (by decide)
  have hL := lst_le f
  omega
theorem tens_len (X q m : Nat) (h : (dg X).length ≤ m) : (dg (X * 10 ^ q)).length ≤ m + q + 1 := by
  have h1 := dg_mul_len X (10 ^ q)
  have h2 := dg_pow_len 10 q (by decide)
  omega
end Go.Proofs.YtiopeaponffmdaaDoor.PAll
-- YtiopeaponffmdaaDoorNc
namespace Go.Proofs.YtiopeaponffmdaaDoor.PAll
open Go.RowKit Go.Proofs.YtiopeaponffmdaaDoorW.PrintWords Go.Proofs.YtiopeaponffmdaaDoorW.PrintLast Go.Proofs.YtiopeaponffmdaaDoorW.PrintMore

theorem against_pos (f : Nat) (most : Int) (q : Nat) (s : ByteArray) (D H : Nat) (hq : q ≤ 3000) (hD : (dg D).length ≤ 1001) (hH : (dg H).length ≤ 1000) :
    Ev (fun k => spec_Form_against.l0 k (dg H) (dg D) (s.size : Int) (s.size : Int) (f : Int) most s (q : Int)) (agn f D (q : Int) H) := by
  have hL := lst_le f
  have hS := Shifted_ev (dg D) (lst f + 1) (Dg_dg D) (by omega) (by omega)
  rw [nv_dg] at hS
  have hSl := shifted_len f D hD
  have hTl := tens_len (D * 2 ^ (lst f + 1)) q 3100 hSl
  have hT := Tens_ev (dg (D * 2 ^ (lst f + 1))) q (Dg_dg _) (by omega)
  have hC := Compare_ev (D * 2 ^ (lst f + 1) * 10 ^ q) H (by omega) (by omega)
  have e1 : (if q = 0 then dg (D * 2 ^ (lst f + 1)) else dg (nv (dg (D * 2 ^ (lst f + 1))) * 10 ^ q)) = dg (D * 2 ^ (lst f + 1) * 10 ^ q) := by
    rw [nv_dg]
    split
    · rename_i h0; subst h0; rw [Nat.pow_zero, Nat.mul_one]
    · rfl
  rw [e1] at hT
  have ea : agn f D (q : Int) H = cmp (D * 2 ^ (lst f + 1) * 10 ^ q) H := by
    unfold agn
    rw [Int.toNat_natCast, show (-(q : Int)).toNat = 0 by omega, Nat.pow_zero, Nat.mul_one]
  rw [ea]
  have g1 : ¬ (s.size : Int) < (s.size : Int) := by omega
  have g2 : (q : Int) ≥ 0 := Int.natCast_nonneg q
  refine Ev.succ (g := fun k => (spec_Shifted.f k (dg D) ((lst f + 1 : Nat) : Int)).bind fun t => (spec_Tens.f k t (q : Int)).bind fun u => (spec_Compare.f k u (dg H)).bind fun v => some v) (fun k => ?_) (Ev.bind hS (Ev.bind hT (Ev.bind hC (Ev.pure _))))
  rw [spec_Form_against.l0, if_neg g1, least_ev, Option.bind_some, w64a _ (Nat.le_trans hL (by decide))]
  simp only [if_pos g2]
theorem against_neg (f : Nat) (most : Int) (q : Nat) (s : ByteArray) (D H : Nat) (hq : q ≤ 3000) (hq1 : 1 ≤ q) (hD : (dg D).length ≤ 1001) (hH : (dg H).length ≤ 1000) :
    Ev (fun k => spec_Form_against.l0 k (dg H) (dg D) (s.size : Int) (s.size : Int) (f : Int) most s (-(q : Int))) (agn f D (-(q : Int)) H) := by
  have hL := lst_le f
  have hS := Shifted_ev (dg D) (lst f + 1) (Dg_dg D) (by omega) (by omega)
  rw [nv_dg] at hS
  have hSl := shifted_len f D hD
  have hTl := tens_len H q 1000 hH
  have hT := Tens_ev (dg H) q (Dg_dg _) (by omega)
  have hC := Compare_ev (D * 2 ^ (lst f + 1)) (H * 10 ^ q) (by omega) (by omega)
  rw [if_neg (by omega), nv_dg] at hT
  have ea : agn f D (-(q : Int)) H = cmp (D * 2 ^ (lst f + 1)) (H * 10 ^ q) := by
    unfold agn
    rw [show (-(q : Int)).toNat = 0 by omega, show (-(-(q : Int))).toNat = q by omega, Nat.pow_zero, Nat.mul_one]
  rw [ea]
  have g1 : ¬ (s.size : Int) < (s.size : Int) := by omega
  have g2 : ¬ (-(q : Int)) ≥ 0 := by omega
  refine Ev.succ (g := fun k => (spec_Shifted.f k (dg D) ((lst f + 1 : Nat) : Int)).bind fun t => (spec_Tens.f k (dg H) (q : Int)).bind fun u => (spec_Compare.f k t u).bind fun v => some v) (fun k => ?_) (Ev.bind hS (Ev.bind hT (Ev.bind hC (Ev.pure _))))
  rw [spec_Form_against.l0, if_neg g1, least_ev, Option.bind_some, w64a _ (Nat.le_trans hL (by decide))]
  simp only [if_neg g2, w64m q (Nat.le_trans hq (by decide))]
theorem against_step (f : Nat) (most p : Int) (s : ByteArray) (H i : Nat) (R : Int) (hs : s.size ≤ 1000) (hd : ∀ b ∈ bytesOf s, 48 ≤ b ∧ b ≤ 57) (hi : i < s.size)
    (h : Ev (fun k => spec_Form_against.l0 k (dg H) (dg (dvl ((bytesOf s).take (i + 1)))) (s.size : Int) ((i + 1 : Nat) : Int) (f : Int) most s p) R) :
    Ev (fun k => spec_Form_against.l0 k (dg H) (dg (dvl ((bytesOf s).take i))) (s.size : Int) (i : Int) (f : Int) most s p) R := by
  have hl : (bytesOf s).length = s.size := bytesOf_length s
  have hil : i < (bytesOf s).length := by rw [hl]; exact hi
  have hr := hd _ (rd_mem (bytesOf s) i hil)
  rw [take_snoc (bytesOf s) i hil, dvl_snoc, rd_bytesOf] at h
  rw [rd_bytesOf] at hr
  have hDl : (dg (dvl ((bytesOf s).take i))).length ≤ 1000000 := Nat.le_trans (pow_len (dvl_take (bytesOf s) hd i (Nat.le_of_lt hil))) (Nat.le_trans (Nat.le_of_lt hi) (Nat.le_trans hs (by decide)))
  generalize dvl ((bytesOf s).take i) = D at *
  obtain ⟨b, hb⟩ : ∃ b : Nat, bt s (i : Int) = ((b + 48 : Nat) : Int) := ⟨(bt s (i : Int) - 48).toNat, by omega⟩
  have hb2 : b ≤ 9 := by omega
  have e0 : (bt s (i : Int) - 48).toNat = b := by omega
  have e1 : (bt s (i : Int) - 48) % 256 = (b : Int) := by omega
  rw [e0] at h
  have hT := Times_ev (dg D) 10 b (Dg_dg _) hDl (by decide) (Nat.lt_of_le_of_lt hb2 (by decide))
  rw [nv_dg] at hT
  have g1 : (i : Int) < (s.size : Int) := Int.ofNat_lt.2 hi
  have g2 : (0 : Int) ≤ (i : Int) := Int.natCast_nonneg i
  refine Ev.succ (g := fun k => (spec_Times.f k (dg D) ((10 : Nat) : Int) (b : Int)).bind fun t => spec_Form_against.l0 k (dg H) t (s.size : Int) ((i + 1 : Nat) : Int) (f : Int) most s p) (fun k => ?_) (Ev.bind hT h)
  rw [spec_Form_against.l0, if_pos g1, if_pos g2, if_pos g1, e1, w64a i (Nat.le_trans (Nat.le_of_lt hi) (Nat.le_trans hs (by decide)))]
  rfl
theorem against_ev (f : Nat) (most p : Int) (s : ByteArray) (H : Nat) (hs : s.size ≤ 1000) (hd : ∀ b ∈ bytesOf s, 48 ≤ b ∧ b ≤ 57) (hp0 : -3000 ≤ p) (hp1 : p ≤ 3000) (hH : (dg H).length ≤ 1000) :
    Ev (fun k => spec_Form_against.f k (f : Int) most s p (dg H)) (agn f (dvl (bytesOf s)) p H) := by
  have hl : (bytesOf s).length = s.size := bytesOf_length s
  have main : ∀ n i : Nat, s.size = i + n → Ev (fun k => spec_Form_against.l0 k (dg H) (dg (dvl ((bytesOf s).take i))) (s.size : Int) (i : Int) (f : Int) most s p) (agn f (dvl (bytesOf s)) p H) := by
    intro n
    induction n with
    | zero =>
      intro i hi
      have hi' : i = s.size := by omega
      subst hi'
      rw [List.take_of_length_le (Nat.le_of_eq hl)]
      have h1 := dvl_lt (bytesOf s) hd
      rw [hl] at h1
      have hDl : (dg (dvl (bytesOf s))).length ≤ 1001 := Nat.le_trans (pow_len h1) (Nat.le_trans hs (by decide))
      by_cases hp : 0 ≤ p
      · obtain ⟨q, rfl⟩ : ∃ q : Nat, p = (q : Int) := ⟨p.toNat, by omega⟩
        exact against_pos f most q s _ H (by omega) hDl hH
      · obtain ⟨q, rfl⟩ : ∃ q : Nat, p = -(q : Int) := ⟨(-p).toNat, by omega⟩
        exact against_neg f most q s _ H (by omega) (by omega) hDl hH
    | succ n ih =>
      intro i hi
      exact against_step f most p s H i _ hs hd (by omega) (ih (i + 1) (by omega))
  have h := main s.size 0 (by omega)
  rw [List.take_zero] at h
  have e : dg (dvl []) = [] := dg_zero
  rw [e] at h
  exact Ev.congr h (fun k => rfl)

/-- the number with a code, in units of the least place -/
def T2 (f code : Nat) : Nat := if code / 2 ^ f = 0 then code % 2 ^ f else (code % 2 ^ f + 2 ^ f) * 2 ^ (code / 2 ^ f - 1)

theorem shl_two (f : Nat) (hf : f = 52 ∨ f = 23) : shl .u64 1 (f : Int) = ((2 ^ f : Nat) : Int) := by rcases hf with rfl | rfl <;> decide
theorem shr_two (f code : Nat) (hf : f = 52 ∨ f = 23) : shr .u64 (code : Int) (f : Int) = ((code / 2 ^ f : Nat) : Int) := by
  have h : f ≤ IntKind.u64.bits := by rcases hf with rfl | rfl <;> decide
  unfold shr
  rw [Int.toNat_natCast, Nat.min_eq_left h, Int.natCast_ediv]
  simp
theorem wrap_pred (P : Nat) (h : 1 ≤ P) (h2 : P ≤ 4503599627370496) : IntKind.u64.wrap ((P : Int) - 1) = ((P - 1 : Nat) : Int) := by
  rw [wrapu _ (by omega) (by omega)]; omega
theorem and_low (code f : Nat) (hc : code < 18446744073709551616) (h : 2 ^ f ≤ 4503599627370496) : Go.bits .and .u64 (code : Int) ((2 ^ f - 1 : Nat) : Int) = ((code % 2 ^ f : Nat) : Int) := by
  rw [u64_and_nat code (2 ^ f - 1) hc (by omega), Nat.and_two_pow_sub_one_eq_mod]
theorem w64n (q : Nat) (h : q ≤ 1000000) : wrap64 (q : Int) = (q : Int) := by unfold wrap64; omega
theorem w64p (q : Nat) (h : q ≤ 1000000) (h2 : q ≠ 0) : wrap64 ((q : Int) - 1) = ((q - 1 : Nat) : Int) := by unfold wrap64; omega

theorem Times2_ev (f code : Nat) (most : Int) (hf : f = 52 ∨ f = 23) (hc : code < 18446744073709551616) (hc2 : code / 2 ^ f ≤ 2100) :
    Ev (fun k => spec_Form_Times2.f k (f : Int) most (code : Int)) (dg (T2 f code)) := by
  have hpow : 1 ≤ 2 ^ f ∧ 2 ^ f ≤ 4503599627370496 := by rcases hf with rfl | rfl <;> decide
  have hm : code % 2 ^ f < 2 ^ f := Nat.mod_lt _ hpow.1
  have h0 : (0 : Int) ≤ (f : Int) := Int.natCast_nonneg f
  have hcm : code % 2 ^ f < 18446744073709551616 := Nat.lt_of_lt_of_le hm (Nat.le_trans hpow.2 (by decide))
  by_cases hq : code / 2 ^ f = 0
  · have hq' : ((code / 2 ^ f : Nat) : Int) = 0 := by rw [hq]; rfl
    unfold T2
    rw [if_pos hq]
    refine Ev.congr (Ev.bind (h := fun _ t => some t) (NatOf_ev (code % 2 ^ f) hcm) (Ev.pure _)) (fun k => ?_)
    rw [spec_Form_Times2.f, if_pos h0, shr_two f code hf, w64n _ (Nat.le_trans hc2 (by decide)), if_pos hq', shl_two f hf, wrap_pred _ hpow.1 hpow.2, and_low code f hc hpow.2]
  · have hq' : ¬ ((code / 2 ^ f : Nat) : Int) = 0 := fun h => hq (Int.ofNat.inj h)
    have hs : code % 2 ^ f + 2 ^ f < 18446744073709551616 := by omega
    have hl : code % 2 ^ f + 2 ^ f < 4294967296 ^ 2 := by
      have e : (4294967296 : Nat) ^ 2 = 18446744073709551616 := by decide
      rw [e]; exact hs
    unfold T2
    rw [if_neg hq]
    have hS := Shifted_ev (dg (code % 2 ^ f + 2 ^ f)) (code / 2 ^ f - 1) (Dg_dg _) (Nat.le_trans (dg_length hl) (by decide)) (Nat.le_trans (Nat.sub_le _ _) (Nat.le_trans hc2 (by decide)))
    rw [nv_dg] at hS
    refine Ev.congr (Ev.bind (h := fun k t => (spec_Shifted.f k t ((code / 2 ^ f - 1 : Nat) : Int)).bind fun u => some u) (NatOf_ev (code % 2 ^ f + 2 ^ f) hs) (Ev.bind hS (Ev.pure _))) (fun k => ?_)
    have e7 : IntKind.u64.wrap (((code % 2 ^ f : Nat) : Int) + ((2 ^ f : Nat) : Int)) = ((code % 2 ^ f + 2 ^ f : Nat) : Int) := by
      rw [← Int.natCast_add, wrapu _ (Int.natCast_nonneg _) (Int.ofNat_lt.2 hs)]
    rw [spec_Form_Times2.f, if_pos h0, shr_two f code hf, w64n _ (Nat.le_trans hc2 (by decide)), if_neg hq', shl_two f hf, wrap_pred _ hpow.1 hpow.2, and_low code f hc hpow.2, w64p _ (Nat.le_trans hc2 (by decide)) hq, e7]

theorem T2_len (f code : Nat) (hf : f = 52 ∨ f = 23) (hc2 : code / 2 ^ f ≤ 2100) : (dg (T2 f code)).length ≤ 200 := by
  have hpow : 1 ≤ 2 ^ f ∧ 2 ^ f ≤ 4503599627370496 := by rcases hf with rfl | rfl <;> decide
  have hm : code % 2 ^ f < 2 ^ f := Nat.mod_lt _ (by omega)
  unfold T2
  generalize 2 ^ f = P at *
  generalize code % P = m at *
  generalize code / P = q at *
  refine dg_length ?_
  obtain ⟨w, hw⟩ : ∃ w, w = 32 * 200 := ⟨_, rfl⟩
  rw [show (4294967296 : Nat) = 2 ^ 32 by decide, ← Nat.pow_mul, ← hw]
  split
  · exact Nat.lt_of_lt_of_le (show m < 2 ^ 52 by omega) (Nat.pow_le_pow_right (by decide) (by omega))
  · calc (m + P) * 2 ^ (q - 1) < 2 ^ 54 * 2 ^ (q - 1) := Nat.mul_lt_mul_of_pos_right (by omega) (Nat.two_pow_pos _)
      _ = 2 ^ (54 + (q - 1)) := (Nat.pow_add ..).symm
      _ ≤ 2 ^ w := Nat.pow_le_pow_right (by decide) (by omega)
end Go.Proofs.YtiopeaponffmdaaDoor.PAll
-- YtiopeaponffmdaaDoorPAllx19
namespace Go.Proofs.YtiopeaponffmdaaDoor.PAll
open Go.RowKit Go.Proofs.YtiopeaponffmdaaDoorW.PrintWords Go.Proofs.YtiopeaponffmdaaDoorW.PrintLast Go.Proofs.YtiopeaponffmdaaDoorW.PrintMore
attribute [local go_sem] max2_int min2_int max_two min_two max_three min_three max_four min_four   -- for this text's walks alone
set_option linter.unusedVariables false
set_option linter.unusedSimpArgs false

def spec_Form_top.l0 : Nat → Int → Int → List Int → Int → Int → Option (Int)
  | 0, _, _, _, _, _ => none
  | k + 1, x5, x6, x7, x357000, x357001 => if x5 < x6 then ((spec_Form_against.f k x357000 x357001 (⟨#[49]⟩ : ByteArray) (wrap64 (x5 + (wrap64 (Int.tdiv (wrap64 ((wrap64 (x6 - x5)) + 1)) 2)))) x7).bind fun t363 => (if t363 ≤ 0 then (spec_Form_top.l0 k (wrap64 (x5 + (wrap64 (Int.tdiv (wrap64 ((wrap64 (x6 - x5)) + 1)) 2)))) x6 x7 x357000 x357001) else (spec_Form_top.l0 k x5 (wrap64 ((wrap64 (x5 + (wrap64 (Int.tdiv (wrap64 ((wrap64 (x6 - x5)) + 1)) 2)))) - 1)) x7 x357000 x357001))) else (some (wrap64 (x5 + 1)))
def spec_Form_top.f (k : Nat) (a0_0 : Int) (a0_1 : Int) (a1 : Int) : Option (Int) := (spec_Form_Times2.f k a0_0 a0_1 a1).bind fun t357 => ((spec_Shifted.f k t357 1).bind fun t360 => (spec_Form_top.l0 k (-330) 310 t360 a0_0 a0_1))
end Go.Proofs.YtiopeaponffmdaaDoor.PAll
-- YtiopeaponffmdaaDoorPAllx21
namespace Go.Proofs.YtiopeaponffmdaaDoor.PAll
open Go.RowKit Go.Proofs.YtiopeaponffmdaaDoorW.PrintWords Go.Proofs.YtiopeaponffmdaaDoorW.PrintLast Go.Proofs.YtiopeaponffmdaaDoorW.PrintMore
attribute [local go_sem] max2_int min2_int max_two min_two max_three min_three max_four min_four   -- for this text's walks alone
set_option linter.unusedVariables false
set_option linter.unusedSimpArgs false

def spec_Form_below.l0 : Nat → Int → Int → Int → List Int → Int → Int → Option (Int)
  | 0, _, _, _, _, _, _ => none
  | k + 1, x2, x7, x8, x9, x380000, x380001 => if x7 < x8 then ((spec_decimals.f k (IntKind.u64.wrap (x7 + (IntKind.u64.wrap (Int.tdiv (IntKind.u64.wrap ((IntKind.u64.wrap (x8 - x7)) + 1)) 2))))).bind fun t386 => ((spec_Form_against.f k x380000 x380001 t386 x2 x9).bind fun t387 => (if t387 ≤ 0 then (spec_Form_below.l0 k x2 (IntKind.u64.wrap (x7 + (IntKind.u64.wrap (Int.tdiv (IntKind.u64.wrap ((IntKind.u64.wrap (x8 - x7)) + 1)) 2)))) x8 x9 x380000 x380001) else (spec_Form_below.l0 k x2 x7 (IntKind.u64.wrap ((IntKind.u64.wrap (x7 + (IntKind.u64.wrap (Int.tdiv (IntKind.u64.wrap ((IntKind.u64.wrap (x8 - x7)) + 1)) 2)))) - 1)) x9 x380000 x380001)))) else (some x7)
def spec_Form_below.f (k : Nat) (a0_0 : Int) (a0_1 : Int) (a1 : Int) (a2 : Int) : Option (Int) := (spec_Form_Times2.f k a0_0 a0_1 a1).bind fun t380 => ((spec_Shifted.f k t380 1).bind fun t383 => (spec_Form_below.l0 k a2 0 99999999999999999 t383 a0_0 a0_1))
end Go.Proofs.YtiopeaponffmdaaDoor.PAll
-- YtiopeaponffmdaaDoorPAllx23
namespace Go.Proofs.YtiopeaponffmdaaDoor.PAll
open Go.RowKit Go.Proofs.YtiopeaponffmdaaDoorW.PrintWords Go.Proofs.YtiopeaponffmdaaDoorW.PrintLast Go.Proofs.YtiopeaponffmdaaDoorW.PrintMore
attribute [local go_sem] max2_int min2_int max_two min_two max_three min_three max_four min_four   -- for this text's walks alone
set_option linter.unusedVariables false
set_option linter.unusedSimpArgs false

def spec_Form_reads.j0 : Nat → Int → Int → Int → ByteArray → Int → Option (Bool)
  | 0, _, _, _, _, _ => none
  | k + 1, x2, x410000, x410001, x411000, x411001 => (spec_Form_Times2.f k x410000 x410001 x2).bind fun t421 => ((spec_Form_Times2.f k x410000 x410001 (IntKind.u64.wrap (x2 + 1))).bind fun t424 => ((spec_Add.f k t421 t424).bind fun t427 => ((spec_Form_against.f k x410000 x410001 x411000 x411001 t427).bind fun t430 => (if t430 < 0 then (some true) else (if t430 = 0 then (some ((Int.tmod x2 2) == 0)) else (some false))))))
def spec_Form_reads.f (k : Nat) (a0_0 : Int) (a0_1 : Int) (a1_0 : ByteArray) (a1_1 : Int) (a2 : Int) : Option (Bool) := if a2 > 0 then ((spec_Form_Times2.f k a0_0 a0_1 (IntKind.u64.wrap (a2 - 1))).bind fun t411 => ((spec_Form_Times2.f k a0_0 a0_1 a2).bind fun t414 => ((spec_Add.f k t411 t414).bind fun t417 => ((spec_Form_against.f k a0_0 a0_1 a1_0 a1_1 t417).bind fun t420 => (if t420 < 0 then (some false) else (if t420 = 0 then (if (Int.tmod a2 2) = 1 then (some false) else (spec_Form_reads.j0 k a2 a0_0 a0_1 a1_0 a1_1)) else (spec_Form_reads.j0 k a2 a0_0 a0_1 a1_0 a1_1))))))) else (spec_Form_reads.j0 k a2 a0_0 a0_1 a1_0 a1_1)
end Go.Proofs.YtiopeaponffmdaaDoor.PAll
-- YtiopeaponffmdaaDoorPAllx24
namespace Go.Proofs.YtiopeaponffmdaaDoor.PAll
open Go.RowKit Go.Proofs.YtiopeaponffmdaaDoorW.PrintWords Go.Proofs.YtiopeaponffmdaaDoorW.PrintLast Go.Proofs.YtiopeaponffmdaaDoorW.PrintMore
attribute [local go_sem] max2_int min2_int max_two min_two max_three min_three max_four min_four   -- for this text's walks alone
set_option linter.unusedVariables false
set_option linter.unusedSimpArgs false

def spec_Form_closer.f (k : Nat) (a0_0 : Int) (a0_1 : Int) (a1 : Int) (a2 : Int) (a3 : Int) : Option (Bool) := (spec_decimals.f k (IntKind.u64.wrap ((IntKind.u64.wrap (2 * a2)) + 1))).bind fun t432 => ((spec_Form_Times2.f k a0_0 a0_1 a1).bind fun t433 => ((spec_Shifted.f k t433 2).bind fun t436 => ((spec_Form_against.f k a0_0 a0_1 t432 a3 t436).bind fun t439 => (if t439 < 0 then (some true) else (if t439 = 0 then (some ((Int.tmod a2 2) == 1)) else (some false))))))
end Go.Proofs.YtiopeaponffmdaaDoor.PAll
-- YtiopeaponffmdaaDoorNd
namespace Go.Proofs.YtiopeaponffmdaaDoor.PAll
open Go.RowKit Go.Proofs.YtiopeaponffmdaaDoorW.PrintWords Go.Proofs.YtiopeaponffmdaaDoorW.PrintLast Go.Proofs.YtiopeaponffmdaaDoorW.PrintMore

theorem w64 (x : Int) (h0 : -1000000000 ≤ x) (h1 : x ≤ 1000000000) : wrap64 x = x := by unfold wrap64; omega
theorem str_dec (n : Nat) : dvl (bytesOf (strOfNums (dec n))) = n := by rw [bt_dec_strOfNums (dec_digit n), dvl_dec]
theorem str_dec_digit (n : Nat) : ∀ b ∈ bytesOf (strOfNums (dec n)), 48 ≤ b ∧ b ≤ 57 := by rw [bt_dec_strOfNums (dec_digit n)]; exact dec_digit n
theorem str_dec_size (n : Nat) (hn : n < 18446744073709551616) : (strOfNums (dec n)).size ≤ 20 := by
  rw [strOfNums_size]
  exact dec_length_le 19 n (Nat.lt_trans hn (by decide))
theorem dg_two_mul (H m : Nat) (h : (dg H).length ≤ m) : (dg (H * 2 ^ 1)).length ≤ m + 2 := by
  have h1 := dg_mul_len H (2 ^ 1)
  have h2 := dg_pow_len 2 1 (by decide)
  omega

theorem top_ev (f code : Nat) (most : Int) (hf : f = 52 ∨ f = 23) (hc : code < 18446744073709551616) (hc2 : code / 2 ^ f ≤ 2100) :
    ∃ r : Int, -330 ≤ r ∧ r ≤ 310 ∧ (r = -330 ∨ agn f 1 r (T2 f code * 2 ^ 1) ≤ 0) ∧ (r = 310 ∨ ¬ agn f 1 (r + 1) (T2 f code * 2 ^ 1) ≤ 0) ∧
      Ev (fun k => spec_Form_top.f k (f : Int) most (code : Int)) (r + 1) := by
  have hT := T2_len f code hf hc2
  have hS := Shifted_ev (dg (T2 f code)) 1 (Dg_dg _) (by omega) (by decide)
  rw [nv_dg] at hS
  obtain ⟨H, hH⟩ : ∃ H, H = T2 f code * 2 ^ 1 := ⟨_, rfl⟩
  have hHl : (dg H).length ≤ 1000 := by
    have := dg_two_mul _ _ hT
    rw [hH]; omega
  rw [← hH] at hS ⊢
  have stop : ∀ lo : Int, -330 ≤ lo → lo ≤ 310 → Ev (fun k => spec_Form_top.l0 k lo lo (dg H) (f : Int) most) (lo + 1) := by
    intro lo h1 h2
    refine Ev.succ (g := fun _ => some (lo + 1)) (fun k => ?_) (Ev.pure _)
    rw [spec_Form_top.l0, if_neg (by omega), w64 _ (by omega) (by omega)]
  have main : ∀ (n : Nat) (lo hi : Int), (hi - lo).toNat ≤ n → -330 ≤ lo → lo ≤ hi → hi ≤ 310 →
      ∃ r : Int, lo ≤ r ∧ r ≤ hi ∧ (r = lo ∨ agn f 1 r H ≤ 0) ∧ (r = hi ∨ ¬ agn f 1 (r + 1) H ≤ 0) ∧ Ev (fun k => spec_Form_top.l0 k lo hi (dg H) (f : Int) most) (r + 1) := by
    intro n
    induction n with
    | zero =>
      intro lo hi h1 h2 h3 h4
      obtain rfl : hi = lo := by omega
      exact ⟨hi, by omega, by omega, .inl rfl, .inl rfl, stop hi h2 h4⟩
    | succ n ih =>
      intro lo hi h1 h2 h3 h4
      by_cases hlt : lo < hi
      · obtain ⟨mid, hmid⟩ : ∃ m, m = lo + (hi - lo + 1) / 2 := ⟨_, rfl⟩
        have em : wrap64 (lo + (wrap64 (Int.tdiv (wrap64 ((wrap64 (hi - lo)) + 1)) 2))) = mid := by
          rw [w64 (hi - lo) (by omega) (by omega), w64 (hi - lo + 1) (by omega) (by omega), Int.tdiv_eq_ediv_of_nonneg (by omega), w64 ((hi - lo + 1) / 2) (by omega) (by omega), ← hmid, w64 _ (by omega) (by omega)]
        have em2 : wrap64 (mid - 1) = mid - 1 := w64 _ (by omega) (by omega)
        have eb : bytesOf (⟨#[49]⟩ : ByteArray) = [49] := rfl
        have hA := against_ev f most mid (⟨#[49]⟩ : ByteArray) H (by decide) (by rw [eb]; simp) (by omega) (by omega) hHl
        rw [eb, show dvl [49] = 1 from rfl] at hA
        have hg : ∀ k, spec_Form_top.l0 (k + 1) lo hi (dg H) (f : Int) most = (spec_Form_against.f k (f : Int) most (⟨#[49]⟩ : ByteArray) mid (dg H)).bind fun t => if t ≤ 0 then spec_Form_top.l0 k mid hi (dg H) (f : Int) most else spec_Form_top.l0 k lo (mid - 1) (dg H) (f : Int) most := by
          intro k
          rw [spec_Form_top.l0, if_pos hlt, em, em2]
        by_cases ht : agn f 1 mid H ≤ 0
        · obtain ⟨r, r1, r2, r3, r4, r5⟩ := ih mid hi (by omega) (by omega) (by omega) (by omega)
          refine ⟨r, by omega, r2, .inr ?_, r4, Ev.succ hg (Ev.bind hA (Ev.congr r5 (fun k => if_pos ht)))⟩
          rcases r3 with rfl | r3
          · exact ht
          · exact r3
        · obtain ⟨r, r1, r2, r3, r4, r5⟩ := ih lo (mid - 1) (by omega) (by omega) (by omega) (by omega)
          refine ⟨r, r1, by omega, r3, .inr ?_, Ev.succ hg (Ev.bind hA (Ev.congr r5 (fun k => if_neg ht)))⟩
          rcases r4 with rfl | r4
          · rw [show mid - 1 + 1 = mid by omega]; exact ht
          · exact r4
      · obtain rfl : hi = lo := by omega
        exact ⟨hi, by omega, by omega, .inl rfl, .inl rfl, stop hi h2 h4⟩
  obtain ⟨r, r1, r2, r3, r4, r5⟩ := main 640 (-330) 310 (by decide) (by decide) (by decide) (by decide)
  refine ⟨r, r1, r2, r3, r4, ?_⟩
  exact Ev.congr (Ev.bind (h := fun k t => (spec_Shifted.f k t ((1 : Nat) : Int)).bind fun u => spec_Form_top.l0 k (-330) 310 u (f : Int) most) (Times2_ev f code most hf hc hc2) (Ev.bind hS r5)) (fun k => rfl)

theorem below_ev (f code : Nat) (most pw : Int) (hf : f = 52 ∨ f = 23) (hc : code < 18446744073709551616) (hc2 : code / 2 ^ f ≤ 2100) (hp0 : -3000 ≤ pw) (hp1 : pw ≤ 3000) :
    ∃ r : Nat, r ≤ 99999999999999999 ∧ (r = 0 ∨ agn f r pw (T2 f code * 2 ^ 1) ≤ 0) ∧ (r = 99999999999999999 ∨ ¬ agn f (r + 1) pw (T2 f code * 2 ^ 1) ≤ 0) ∧
      Ev (fun k => spec_Form_below.f k (f : Int) most (code : Int) pw) (r : Int) := by
  have hT := T2_len f code hf hc2
  have hS := Shifted_ev (dg (T2 f code)) 1 (Dg_dg _) (by omega) (by decide)
  rw [nv_dg] at hS
  obtain ⟨H, hH⟩ : ∃ H, H = T2 f code * 2 ^ 1 := ⟨_, rfl⟩
  have hHl : (dg H).length ≤ 1000 := by
    have := dg_two_mul _ _ hT
    rw [hH]; omega
  rw [← hH] at hS ⊢
  have stop : ∀ lo : Nat, Ev (fun k => spec_Form_below.l0 k pw (lo : Int) (lo : Int) (dg H) (f : Int) most) (lo : Int) := by
    intro lo
    refine Ev.succ (g := fun _ => some (lo : Int)) (fun k => ?_) (Ev.pure _)
    rw [spec_Form_below.l0, if_neg (by omega)]
  have main : ∀ (n lo hi : Nat), hi - lo < 2 ^ n → lo ≤ hi → hi ≤ 99999999999999999 →
      ∃ r : Nat, lo ≤ r ∧ r ≤ hi ∧ (r = lo ∨ agn f r pw H ≤ 0) ∧ (r = hi ∨ ¬ agn f (r + 1) pw H ≤ 0) ∧ Ev (fun k => spec_Form_below.l0 k pw (lo : Int) (hi : Int) (dg H) (f : Int) most) (r : Int) := by
    intro n
    induction n with
    | zero =>
      intro lo hi h1 h3 h4
      obtain rfl : hi = lo := by rw [Nat.pow_zero] at h1; omega
      exact ⟨hi, by omega, by omega, .inl rfl, .inl rfl, stop hi⟩
    | succ n ih =>
      intro lo hi h1 h3 h4
      rw [Nat.pow_succ] at h1
      by_cases hlt : lo < hi
      · obtain ⟨mid, hmid⟩ : ∃ m, m = lo + (hi - lo + 1) / 2 := ⟨_, rfl⟩
        have em : (IntKind.u64.wrap ((lo : Int) + (IntKind.u64.wrap (Int.tdiv (IntKind.u64.wrap ((IntKind.u64.wrap ((hi : Int) - (lo : Int))) + 1)) 2)))) = (mid : Int) := by
          rw [wrapu ((hi : Int) - (lo : Int)) (by omega) (by omega), wrapu ((hi : Int) - (lo : Int) + 1) (by omega) (by omega), Int.tdiv_eq_ediv_of_nonneg (by omega), wrapu (((hi : Int) - (lo : Int) + 1) / 2) (by omega) (by omega), wrapu _ (by omega) (by omega)]
          omega
        have em2 : IntKind.u64.wrap ((mid : Int) - 1) = ((mid - 1 : Nat) : Int) := by rw [wrapu _ (by omega) (by omega)]; omega
        have hD := decimals_ev mid (by omega)
        have hA := against_ev f most pw (strOfNums (dec mid)) H (by have := str_dec_size mid (by omega); omega) (str_dec_digit mid) hp0 hp1 hHl
        rw [str_dec] at hA
        have hg : ∀ k, spec_Form_below.l0 (k + 1) pw (lo : Int) (hi : Int) (dg H) (f : Int) most = (spec_decimals.f k (mid : Int)).bind fun s => (spec_Form_against.f k (f : Int) most s pw (dg H)).bind fun t => if t ≤ 0 then spec_Form_below.l0 k pw (mid : Int) (hi : Int) (dg H) (f : Int) most else spec_Form_below.l0 k pw (lo : Int) ((mid - 1 : Nat) : Int) (dg H) (f : Int) most := by
          intro k
          rw [spec_Form_below.l0, if_pos (by omega), em, em2]
        by_cases ht : agn f mid pw H ≤ 0
        · obtain ⟨r, r1, r2, r3, r4, r5⟩ := ih mid hi (by omega) (by omega) (by omega)
          refine ⟨r, by omega, r2, .inr ?_, r4, Ev.succ hg (Ev.bind (h := fun k s => (spec_Form_against.f k (f : Int) most s pw (dg H)).bind fun t => if t ≤ 0 then spec_Form_below.l0 k pw (mid : Int) (hi : Int) (dg H) (f : Int) most else spec_Form_below.l0 k pw (lo : Int) ((mid - 1 : Nat) : Int) (dg H) (f : Int) most) hD (Ev.bind hA (Ev.congr r5 (fun k => if_pos ht))))⟩
          rcases r3 with rfl | r3
          · exact ht
          · exact r3
        · obtain ⟨r, r1, r2, r3, r4, r5⟩ := ih lo (mid - 1) (by omega) (by omega) (by omega)
          refine ⟨r, r1, by omega, r3, .inr ?_, Ev.succ hg (Ev.bind (h := fun k s => (spec_Form_against.f k (f : Int) most s pw (dg H)).bind fun t => if t ≤ 0 then spec_Form_below.l0 k pw (mid : Int) (hi : Int) (dg H) (f : Int) most else spec_Form_below.l0 k pw (lo : Int) ((mid - 1 : Nat) : Int) (dg H) (f : Int) most) hD (Ev.bind hA (Ev.congr r5 (fun k => if_neg ht))))⟩
          rcases r4 with rfl | r4
          · rw [show mid - 1 + 1 = mid by omega]; exact ht
          · exact r4
      · obtain rfl : hi = lo := by omega
        exact ⟨hi, by omega, by omega, .inl rfl, .inl rfl, stop hi⟩
  obtain ⟨r, r1, r2, r3, r4, r5⟩ := main 57 0 99999999999999999 (by decide) (by decide) (by decide)
  refine ⟨r, r2, r3, r4, ?_⟩
  exact Ev.congr (Ev.bind (h := fun k t => (spec_Shifted.f k t ((1 : Nat) : Int)).bind fun u => spec_Form_below.l0 k pw ((0 : Nat) : Int) ((99999999999999999 : Nat) : Int) u (f : Int) most) (Times2_ev f code most hf hc hc2) (Ev.bind hS r5)) (fun k => rfl)

/-- is D * 10^p read as the number with a code? -/
def readsB (f code D : Nat) (p : Int) : Bool :=
  decide ((0 < agn f D p (T2 f (code - 1) + T2 f code) ∨ (code % 2 = 0 ∧ agn f D p (T2 f (code - 1) + T2 f code) = 0)) ∧
    (agn f D p (T2 f code + T2 f (code + 1)) < 0 ∨ (code % 2 = 0 ∧ agn f D p (T2 f code + T2 f (code + 1)) = 0)))

theorem T2_add_len (f a b : Nat) (hf : f = 52 ∨ f = 23) (ha : a / 2 ^ f ≤ 2100) (hb : b / 2 ^ f ≤ 2100) : (dg (T2 f a + T2 f b)).length ≤ 1000 := by
  have h1 := lt_dg_length (T2 f a)
  have h2 := lt_dg_length (T2 f b)
  have h3 := T2_len f a hf ha
  have h4 := T2_len f b hf hb
  have k1 : T2 f a < 4294967296 ^ 200 := Nat.lt_of_lt_of_le h1 (Nat.pow_le_pow_right (by decide) h3)
  have k2 : T2 f b < 4294967296 ^ 200 := Nat.lt_of_lt_of_le h2 (Nat.pow_le_pow_right (by decide) h4)
  refine Nat.le_trans (dg_length (m := 201) ?_) (by decide)
  rw [Nat.pow_succ]
  omega

theorem reads_ev (f code : Nat) (most p : Int) (s : ByteArray) (hf : f = 52 ∨ f = 23) (h0 : 1 ≤ code) (hc : code < 18446744073709551000) (hc2 : (code + 1) / 2 ^ f ≤ 2100)
    (hs : s.size ≤ 1000) (hd : ∀ b ∈ bytesOf s, 48 ≤ b ∧ b ≤ 57) (hp0 : -3000 ≤ p) (hp1 : p ≤ 3000) :
    Ev (fun k => spec_Form_reads.f k (f : Int) most s p (code : Int)) (readsB f code (dvl (bytesOf s)) p) := by
  have q1 : code / 2 ^ f ≤ 2100 := Nat.le_trans (Nat.div_le_div_right (by omega)) hc2
  have q0 : (code - 1) / 2 ^ f ≤ 2100 := Nat.le_trans (Nat.div_le_div_right (by omega)) hc2
  have t0 := Times2_ev f (code - 1) most hf (by omega) q0
  have t1 := Times2_ev f code most hf (by omega) q1
  have t2 := Times2_ev f (code + 1) most hf (by omega) hc2
  have l0 := T2_add_len f (code - 1) code hf q0 q1
  have l1 := T2_add_len f code (code + 1) hf q1 hc2
  have a0 := Add_ev (dg (T2 f (code - 1))) (dg (T2 f code)) (Dg_dg _) (Dg_dg _) (by have := T2_len f (code - 1) hf q0; omega) (by have := T2_len f code hf q1; omega)
  have a1 := Add_ev (dg (T2 f code)) (dg (T2 f (code + 1))) (Dg_dg _) (Dg_dg _) (by have := T2_len f code hf q1; omega) (by have := T2_len f (code + 1) hf hc2; omega)
  rw [nv_dg, nv_dg] at a0 a1
  have g0 := against_ev f most p s (T2 f (code - 1) + T2 f code) hs hd hp0 hp1 l0
  have g1 := against_ev f most p s (T2 f code + T2 f (code + 1)) hs hd hp0 hp1 l1
  have e1 : IntKind.u64.wrap ((code : Int) + 1) = ((code + 1 : Nat) : Int) := by rw [wrapu _ (by omega) (by omega)]; omega
  have e0 : IntKind.u64.wrap ((code : Int) - 1) = ((code - 1 : Nat) : Int) := by rw [wrapu _ (by omega) (by omega)]; omega
  have em : Int.tmod (code : Int) 2 = ((code % 2 : Nat) : Int) := rfl
  unfold readsB
  generalize agn f (dvl (bytesOf s)) p (T2 f (code - 1) + T2 f code) = c0 at *
  generalize agn f (dvl (bytesOf s)) p (T2 f code + T2 f (code + 1)) = c1 at *
  -- the second half
  have half : Ev (fun k => spec_Form_reads.j0 k (code : Int) (f : Int) most s p) (decide (c1 < 0 ∨ (code % 2 = 0 ∧ c1 = 0))) := by
    refine Ev.succ (g := fun k => (spec_Form_Times2.f k (f : Int) most (code : Int)).bind fun t421 => (spec_Form_Times2.f k (f : Int) most ((code + 1 : Nat) : Int)).bind fun t424 => (spec_Add.f k t421 t424).bind fun t427 => (spec_Form_against.f k (f : Int) most s p t427).bind fun t430 => if t430 < 0 then some true else if t430 = 0 then some (Int.tmod (code : Int) 2 == 0) else some false) (fun k => ?_) ?_
    · rw [spec_Form_reads.j0, e1]
    · refine Ev.bind t1 (Ev.bind t2 (Ev.bind a1 (Ev.bind g1 (Ev.congr (Ev.pure _) (fun k => ?_)))))
      rw [em]
      by_cases h : c1 < 0
      · rw [if_pos h]; simp [h]
      · rw [if_neg h]
        by_cases hz : c1 = 0
        · rw [if_pos hz]
          congr 1
          by_cases hm : code % 2 = 0
          · simp [hz, hm]
          · have : (((code % 2 : Nat) : Int) == 0) = false := by rw [beq_eq_false_iff_ne]; omega
            rw [this]; simp [hz, hm]
        · rw [if_neg hz]; simp [h, hz]
  refine Ev.congr (f := fun k => spec_Form_reads.f k (f : Int) most s p (code : Int)) (g := fun k => (spec_Form_Times2.f k (f : Int) most ((code - 1 : Nat) : Int)).bind fun t411 => (spec_Form_Times2.f k (f : Int) most (code : Int)).bind fun t414 => (spec_Add.f k t411 t414).bind fun t417 => (spec_Form_against.f k (f : Int) most s p t417).bind fun t420 => if t420 < 0 then some false else if t420 = 0 then (if Int.tmod (code : Int) 2 = 1 then some false else spec_Form_reads.j0 k (code : Int) (f : Int) most s p) else spec_Form_reads.j0 k (code : Int) (f : Int) most s p) ?_ (fun k => ?_)
  · refine Ev.bind t0 (Ev.bind t1 (Ev.bind a0 (Ev.bind g0 ?_)))
    rw [em]
    by_cases h : c0 < 0
    · refine Ev.congr (g := fun _ => some false) ?_ (fun k => by rw [if_pos h])
      have : decide ((0 < c0 ∨ code % 2 = 0 ∧ c0 = 0) ∧ (c1 < 0 ∨ code % 2 = 0 ∧ c1 = 0)) = false := by rw [decide_eq_false_iff_not]; omega
      rw [this]; exact Ev.pure _
    · by_cases hz : c0 = 0
      · by_cases hm : code % 2 = 1
        · refine Ev.congr (g := fun _ => some false) ?_ (fun k => by rw [if_neg h, if_pos hz, if_pos (by omega)])
          have : decide ((0 < c0 ∨ code % 2 = 0 ∧ c0 = 0) ∧ (c1 < 0 ∨ code % 2 = 0 ∧ c1 = 0)) = false := by rw [decide_eq_false_iff_not]; omega
          rw [this]; exact Ev.pure _
        · refine Ev.congr (g := fun k => spec_Form_reads.j0 k (code : Int) (f : Int) most s p) ?_ (fun k => by rw [if_neg h, if_pos hz, if_neg (by omega)])
          have : decide ((0 < c0 ∨ code % 2 = 0 ∧ c0 = 0) ∧ (c1 < 0 ∨ code % 2 = 0 ∧ c1 = 0)) = decide (c1 < 0 ∨ code % 2 = 0 ∧ c1 = 0) := by
            rw [decide_eq_decide]
            exact ⟨fun x => x.2, fun x => ⟨.inr ⟨by omega, hz⟩, x⟩⟩
          rw [this]; exact half
      · refine Ev.congr (g := fun k => spec_Form_reads.j0 k (code : Int) (f : Int) most s p) ?_ (fun k => by rw [if_neg h, if_neg hz])
        have : decide ((0 < c0 ∨ code % 2 = 0 ∧ c0 = 0) ∧ (c1 < 0 ∨ code % 2 = 0 ∧ c1 = 0)) = decide (c1 < 0 ∨ code % 2 = 0 ∧ c1 = 0) := by
          rw [decide_eq_decide]
          exact ⟨fun x => x.2, fun x => ⟨.inl (by omega), x⟩⟩
        rw [this]; exact half
  · rw [spec_Form_reads.f, if_pos (by omega), e0]

theorem closer_ev (f code q : Nat) (most p : Int) (hf : f = 52 ∨ f = 23) (hc : code < 18446744073709551616) (hc2 : code / 2 ^ f ≤ 2100) (hq : q ≤ 1000000000000000000) (hp0 : -3000 ≤ p) (hp1 : p ≤ 3000) :
    Ev (fun k => spec_Form_closer.f k (f : Int) most (code : Int) (q : Int) p) (decide (agn f (2 * q + 1) p (T2 f code * 2 ^ 2) < 0 ∨ (agn f (2 * q + 1) p (T2 f code * 2 ^ 2) = 0 ∧ q % 2 = 1))) := by
  have hT := T2_len f code hf hc2
  have hS := Shifted_ev (dg (T2 f code)) 2 (Dg_dg _) (by omega) (by decide)
  rw [nv_dg] at hS
  have hl : (dg (T2 f code * 2 ^ 2)).length ≤ 1000 := by
    have h1 := dg_mul_len (T2 f code) (2 ^ 2)
    have h2 := dg_pow_len 2 2 (by decide)
    omega
  have hD := decimals_ev (2 * q + 1) (by omega)
  have hA := against_ev f most p (strOfNums (dec (2 * q + 1))) (T2 f code * 2 ^ 2) (by have := str_dec_size (2 * q + 1) (by omega); omega) (str_dec_digit _) hp0 hp1 hl
  rw [str_dec] at hA
  have e1 : IntKind.u64.wrap ((IntKind.u64.wrap (2 * (q : Int))) + 1) = ((2 * q + 1 : Nat) : Int) := by
    rw [wrapu (2 * (q : Int)) (by omega) (by omega), wrapu _ (by omega) (by omega)]; omega
  have em : Int.tmod (q : Int) 2 = ((q % 2 : Nat) : Int) := rfl
  generalize agn f (2 * q + 1) p (T2 f code * 2 ^ 2) = c at *
  refine Ev.congr (g := fun k => (spec_decimals.f k ((2 * q + 1 : Nat) : Int)).bind fun t432 => (spec_Form_Times2.f k (f : Int) most (code : Int)).bind fun t433 => (spec_Shifted.f k t433 ((2 : Nat) : Int)).bind fun t436 => (spec_Form_against.f k (f : Int) most t432 p t436).bind fun t439 => if t439 < 0 then some true else if t439 = 0 then some (Int.tmod (q : Int) 2 == 1) else some false) ?_ (fun k => ?_)
  · refine Ev.bind (h := fun k t432 => (spec_Form_Times2.f k (f : Int) most (code : Int)).bind fun t433 => (spec_Shifted.f k t433 ((2 : Nat) : Int)).bind fun t436 => (spec_Form_against.f k (f : Int) most t432 p t436).bind fun t439 => if t439 < 0 then some true else if t439 = 0 then some (Int.tmod (q : Int) 2 == 1) else some false) hD (Ev.bind (Times2_ev f code most hf hc hc2) (Ev.bind hS (Ev.bind hA (Ev.congr (Ev.pure _) (fun k => ?_)))))
    rw [em]
    by_cases h : c < 0
    · rw [if_pos h]; simp [h]
    · rw [if_neg h]
      by_cases hz : c = 0
      · rw [if_pos hz]
        congr 1
        by_cases hm : q % 2 = 1
        · simp [hz, hm]
        · have : (((q % 2 : Nat) : Int) == 1) = false := by rw [beq_eq_false_iff_ne]; omega
          rw [this]; simp [hz, hm]
      · rw [if_neg hz]; simp [h, hz]
  · rw [spec_Form_closer.f, e1]
    rfl
end Go.Proofs.YtiopeaponffmdaaDoor.PAll
-- YtiopeaponffmdaaDoorPAllx25
namespace Go.Proofs.YtiopeaponffmdaaDoor.PAll
open Go.RowKit Go.Proofs.YtiopeaponffmdaaDoorW.PrintWords Go.Proofs.YtiopeaponffmdaaDoorW.PrintLast Go.Proofs.YtiopeaponffmdaaDoorW.PrintMore
attribute [local go_sem] max2_int min2_int max_two min_two max_three min_three max_four min_four   -- for this text's walks alone
set_option linter.unusedVariables false
set_option linter.unusedSimpArgs false

mutual
def spec_Form_Shortest.l0 : Nat → Int → Int → Int → Int → Int → Int → Int → Option (ByteArray × Int)
  | 0, _, _, _, _, _, _, _ => none
  | k + 1, x1, x6, x7, x8, x9, x441000, x441001 => if x9 ≤ 17 then (if x8 = 0 then (none) else ((spec_decimals.f k (IntKind.u64.wrap (Int.tdiv x7 x8))).bind fun t443 => ((spec_Form_reads.f k x441000 x441001 t443 (wrap64 (x6 - x9)) x1).bind fun t444 => ((spec_decimals.f k (IntKind.u64.wrap ((IntKind.u64.wrap (Int.tdiv x7 x8)) + 1))).bind fun t445 => ((spec_Form_reads.f k x441000 x441001 t445 (wrap64 (x6 - x9)) x1).bind fun t446 => (if t444 = true then (spec_Form_Shortest.j1 k x1 x6 x7 (IntKind.u64.wrap (Int.tdiv x8 10)) x9 (IntKind.u64.wrap (Int.tdiv x7 x8)) t444 t446 false x441000 x441001) else (spec_Form_Shortest.j1 k x1 x6 x7 (IntKind.u64.wrap (Int.tdiv x8 10)) x9 (IntKind.u64.wrap (Int.tdiv x7 x8)) t444 t446 (!t446) x441000 x441001))))))) else (some ((⟨#[]⟩ : ByteArray), 0))
def spec_Form_Shortest.j1 : Nat → Int → Int → Int → Int → Int → Int → Bool → Bool → Bool → Int → Int → Option (ByteArray × Int)
  | 0, _, _, _, _, _, _, _, _, _, _, _ => none
  | k + 1, x1, x6, x7, x8, x9, x10, x11, x12, x56, x441000, x441001 => if x56 = true then (spec_Form_Shortest.l0 k x1 x6 x7 x8 (wrap64 (x9 + 1)) x441000 x441001) else (if x12 = true then (if x11 = true then ((spec_Form_closer.f k x441000 x441001 x1 x10 (wrap64 (x6 - x9))).bind fun t447 => (spec_Form_Shortest.j2 k x6 x9 x10 t447)) else (spec_Form_Shortest.j2 k x6 x9 x10 true)) else (spec_Form_Shortest.j2 k x6 x9 x10 false))
def spec_Form_Shortest.j2 : Nat → Int → Int → Int → Bool → Option (ByteArray × Int)
  | 0, _, _, _, _ => none
  | k + 1, x6, x9, x10, x70 => if x70 = true then (spec_Form_Shortest.j3 k x6 x9 (IntKind.u64.wrap (x10 + 1))) else (spec_Form_Shortest.j3 k x6 x9 x10)
def spec_Form_Shortest.j3 : Nat → Int → Int → Int → Option (ByteArray × Int)
  | 0, _, _, _ => none
  | k + 1, x6, x9, x10 => (spec_decimals.f k x10).bind fun t448 => (spec_Form_Shortest.l1 k t448 (wrap64 ((wrap64 (x6 + (t448.size : Int))) - x9)))
def spec_Form_Shortest.l1 : Nat → ByteArray → Int → Option (ByteArray × Int)
  | 0, _, _ => none
  | k + 1, x13, x14 => if (x13.size : Int) > 1 then (if 0 ≤ (wrap64 ((x13.size : Int) - 1)) then (if (wrap64 ((x13.size : Int) - 1)) < (x13.size : Int) then (if (bt x13 (wrap64 ((x13.size : Int) - 1))) = 48 then (if (wrap64 ((x13.size : Int) - 1)) ≤ (x13.size : Int) then (spec_Form_Shortest.l1 k (x13.extract 0 ((wrap64 ((x13.size : Int) - 1)) : Int).toNat) x14) else (none)) else (some (x13, x14))) else (none)) else (none)) else (some (x13, x14))
end
def spec_Form_Shortest.f (k : Nat) (a0_0 : Int) (a0_1 : Int) (a1 : Int) : Option (ByteArray × Int) := (spec_Form_top.f k a0_0 a0_1 a1).bind fun t441 => ((spec_Form_below.f k a0_0 a0_1 a1 (wrap64 (t441 - 17))).bind fun t442 => (spec_Form_Shortest.l0 k a1 t441 t442 10000000000000000 1 a0_0 a0_1))
end Go.Proofs.YtiopeaponffmdaaDoor.PAll
-- YtiopeaponffmdaaDoorNe
namespace Go.Proofs.YtiopeaponffmdaaDoor.PAll
open Go.RowKit Go.Proofs.YtiopeaponffmdaaDoorW.PrintWords Go.Proofs.YtiopeaponffmdaaDoorW.PrintLast Go.Proofs.YtiopeaponffmdaaDoorW.PrintMore

theorem wrapuN (n : Nat) (h : n < 18446744073709551616) : IntKind.u64.wrap (n : Int) = (n : Int) := by rw [IntKind.wrap_u64]; omega
theorem wrapu1 (n : Nat) (h : n < 18446744073709551615) : IntKind.u64.wrap ((n : Int) + 1) = ((n + 1 : Nat) : Int) := by rw [IntKind.wrap_u64]; omega
theorem bytes_eq {a b : ByteArray} (h : a.data.toList = b.data.toList) : a = b := by
  cases a with
  | mk x => cases b with
    | mk y => exact congrArg ByteArray.mk (Array.toList_inj.1 h)
theorem str_extract (l : List Int) (a b : Nat) : (strOfNums l).extract a b = strOfNums ((l.drop a).take (b - a)) := by
  refine bytes_eq ?_
  rw [Go.Lib.extract_data, strOfNums_data, strOfNums_data, List.map_take, List.map_drop]
theorem str_append (l r : List Int) : strOfNums l ++ strOfNums r = strOfNums (l ++ r) := by
  refine bytes_eq ?_
  rw [ByteArray.data_append, Array.toList_append, strOfNums_data, strOfNums_data, strOfNums_data, List.map_append]
theorem bt_str {l : List Int} (h : ∀ x ∈ l, 48 ≤ x ∧ x ≤ 57) (i : Int) : bt (strOfNums l) i = rd l i := by
  rw [← rd_bytesOf, bt_dec_strOfNums h]

/-- without the zeros at its end -/
def cutz (D : Nat) : Nat := if h : 10 ≤ D ∧ D % 10 = 0 then cutz (D / 10) else D
termination_by D
decreasing_by omega
theorem cutz_pos {D : Nat} (h : 10 ≤ D) (h2 : D % 10 = 0) : cutz D = cutz (D / 10) := by rw [cutz, dif_pos ⟨h, h2⟩]
theorem cutz_neg {D : Nat} (h : ¬ (10 ≤ D ∧ D % 10 = 0)) : cutz D = D := by rw [cutz, dif_neg h]

theorem l1_ev (place : Int) (D : Nat) : D < 100000000000000000000 → Ev (fun k => spec_Form_Shortest.l1 k (strOfNums (dec D)) place) (strOfNums (dec (cutz D)), place) := by
  induction D using Nat.strongRecOn with
  | ind D ih =>
    intro hD
    have hlen := dec_length_le 19 D hD
    have hsz : (strOfNums (dec D)).size = (dec D).length := strOfNums_size _
    by_cases h1 : D < 10
    · rw [cutz_neg (by omega)]
      refine Ev.succ (g := fun _ => some (strOfNums (dec D), place)) (fun k => ?_) (Ev.pure _)
      rw [spec_Form_Shortest.l1, if_neg]
      rw [hsz, dec_lt h1]; simp
    · have hl1 : (dec D).length = (dec (D / 10)).length + 1 := by rw [dec_ge (n := D) (by omega)]; simp
      have hp := dec_length_pos (D / 10)
      have ew : wrap64 (((strOfNums (dec D)).size : Int) - 1) = ((dec (D / 10)).length : Int) := by
        rw [hsz, hl1, w64 _ (by omega) (by omega)]; omega
      have eb : bt (strOfNums (dec D)) ((dec (D / 10)).length : Int) = ((48 + D % 10 : Nat) : Int) := by
        rw [bt_str (dec_digit D), rd, Int.toNat_natCast, dec_ge (n := D) (by omega)]
        simp
      by_cases h2 : D % 10 = 0
      · rw [cutz_pos (by omega) h2]
        refine Ev.succ (fun k => ?_) (ih (D / 10) (by omega) (by omega))
        rw [spec_Form_Shortest.l1, if_pos (by rw [hsz]; omega), ew, if_pos (by omega), if_pos (by rw [hsz]; omega), eb, if_pos (by omega), if_pos (by rw [hsz]; omega), Int.toNat_natCast, str_extract, List.drop_zero, Nat.sub_zero]
        congr 2
        rw [dec_ge (n := D) (by omega), List.take_left']
        rfl
      · rw [cutz_neg (by omega)]
        refine Ev.succ (g := fun _ => some (strOfNums (dec D), place)) (fun k => ?_) (Ev.pure _)
        rw [spec_Form_Shortest.l1, if_pos (by rw [hsz]; omega), ew, if_pos (by omega), if_pos (by rw [hsz]; omega), eb, if_neg (by omega)]

theorem j3_ev (n : Int) (kk D : Nat) (hn0 : -1000 ≤ n) (hn1 : n ≤ 1000) (hk : kk ≤ 17) (hD : D < 1000000000000000000) :
    Ev (fun k => spec_Form_Shortest.j3 k n (kk : Int) (D : Int)) (strOfNums (dec (cutz D)), n + ((dec D).length : Int) - (kk : Int)) := by
  have hlen := dec_length_le 19 D (by omega)
  refine Ev.succ (g := fun k => (spec_decimals.f k (D : Int)).bind fun t => spec_Form_Shortest.l1 k t (wrap64 ((wrap64 (n + (t.size : Int))) - (kk : Int)))) (fun k => ?_) ?_
  · rw [spec_Form_Shortest.j3]
  · refine Ev.bind (h := fun k t => spec_Form_Shortest.l1 k t (wrap64 ((wrap64 (n + (t.size : Int))) - (kk : Int)))) (decimals_ev D (by omega)) ?_
    rw [strOfNums_size, w64 (n + ((dec D).length : Int)) (by omega) (by omega), w64 _ (by omega) (by omega)]
    exact l1_ev _ D (by omega)

theorem j2_ev (n : Int) (kk x : Nat) (up : Bool) (hn0 : -1000 ≤ n) (hn1 : n ≤ 1000) (hk : kk ≤ 17) (hx : x < 100000000000000000) :
    Ev (fun k => spec_Form_Shortest.j2 k n (kk : Int) (x : Int) up) (strOfNums (dec (cutz (if up then x + 1 else x))), n + ((dec (if up then x + 1 else x)).length : Int) - (kk : Int)) := by
  cases up with
  | true =>
    refine Ev.succ (fun k => ?_) (j3_ev n kk (x + 1) hn0 hn1 hk (by omega))
    rw [spec_Form_Shortest.j2, if_pos rfl, wrapu _ (by omega) (by omega)]
    rfl
  | false =>
    refine Ev.succ (fun k => ?_) (j3_ev n kk x hn0 hn1 hk (by omega))
    rw [spec_Form_Shortest.j2, if_neg (by decide)]

open Fm in
theorem shortest_loop (f code q : Nat) (most n : Int) (hf : f = 52 ∨ f = 23) (h0 : 1 ≤ code) (hc : code < 18446744073709551000) (hc2 : (code + 1) / 2 ^ f ≤ 2100)
    (hn0 : -500 ≤ n) (hn1 : n ≤ 500) (hq : q < 100000000000000000)
    (V Bm Bp : Nat) (ev : Bool) (U : Nat → Nat) (hx : ∀ k, 1 ≤ k → k ≤ 17 → V / U k = q / 10 ^ (17 - k))
    (hr : ∀ k D : Nat, 1 ≤ k → k ≤ 17 → readsB f code D (n - (k : Int)) = decide (Inn Bm Bp ev (D * U k)))
    (hcl : ∀ k x : Nat, 1 ≤ k → k ≤ 17 → decide (agn f (2 * x + 1) (n - (k : Int)) (T2 f code * 2 ^ 2) < 0 ∨ (agn f (2 * x + 1) (n - (k : Int)) (T2 f code * 2 ^ 2) = 0 ∧ x % 2 = 1)) = decide (Closer V (U k) x))
    (kk x : Nat) (hk1 : 1 ≤ kk) (hk2 : kk ≤ 17) (hnone : ∀ j, 1 ≤ j → j < kk → refStep V Bm Bp ev (U j) = none) (hsome : refStep V Bm Bp ev (U kk) = some x) :
    Ev (fun k => spec_Form_Shortest.l0 k (code : Int) n (q : Int) 10000000000000000 1 (f : Int) most) (strOfNums (dec (cutz x)), n + ((dec x).length : Int) - (kk : Int)) := by
  have q1 : code / 2 ^ f ≤ 2100 := Nat.le_trans (Nat.div_le_div_right (by omega)) hc2
  have step : ∀ j : Nat, 1 ≤ j → j ≤ 17 → ∀ (R : ByteArray × Int),
      Ev (fun k => spec_Form_Shortest.j1 k (code : Int) n (q : Int) (((10 ^ (17 - j) / 10 : Nat)) : Int) (j : Int) ((V / U j : Nat) : Int) (decide (Inn Bm Bp ev (V / U j * U j))) (decide (Inn Bm Bp ev ((V / U j + 1) * U j))) (!decide (Inn Bm Bp ev (V / U j * U j)) && !decide (Inn Bm Bp ev ((V / U j + 1) * U j))) (f : Int) most) R →
      Ev (fun k => spec_Form_Shortest.l0 k (code : Int) n (q : Int) ((10 ^ (17 - j) : Nat) : Int) (j : Int) (f : Int) most) R := by
    intro j j1 j2 R hR
    have hc10 : 10 ^ (17 - j) ≤ 10000000000000000 := by
      have : 10 ^ (17 - j) ≤ 10 ^ 16 := Nat.pow_le_pow_right (by decide) (by omega)
      exact Nat.le_trans this (by decide)
    have hc0 : 0 < 10 ^ (17 - j) := Nat.pow_pos (by decide)
    have hX : q / 10 ^ (17 - j) ≤ q := Nat.div_le_self _ _
    have e1 : IntKind.u64.wrap (Int.tdiv (q : Int) ((10 ^ (17 - j) : Nat) : Int)) = ((V / U j : Nat) : Int) := by
      rw [hx j j1 j2, show Int.tdiv (q : Int) ((10 ^ (17 - j) : Nat) : Int) = ((q / 10 ^ (17 - j) : Nat) : Int) from rfl, wrapuN _ (Nat.lt_of_le_of_lt hX (Nat.lt_trans hq (by decide)))]
    have e2 : IntKind.u64.wrap (Int.tdiv ((10 ^ (17 - j) : Nat) : Int) 10) = ((10 ^ (17 - j) / 10 : Nat) : Int) := by
      rw [show Int.tdiv ((10 ^ (17 - j) : Nat) : Int) 10 = ((10 ^ (17 - j) / 10 : Nat) : Int) from rfl, wrapuN _ (Nat.lt_of_le_of_lt (Nat.div_le_self _ _) (Nat.lt_of_le_of_lt hc10 (by decide)))]
    have e3 : wrap64 (n - (j : Int)) = n - (j : Int) := w64 _ (by omega) (by omega)
    have hXb : V / U j < 100000000000000000 := by rw [hx j j1 j2]; exact Nat.lt_of_le_of_lt hX hq
    have e4 : IntKind.u64.wrap (((V / U j : Nat) : Int) + 1) = ((V / U j + 1 : Nat) : Int) := wrapu1 _ (Nat.lt_trans hXb (by decide))
    generalize V / U j = X at *
    have d1 := decimals_ev X (by omega)
    have d2 := decimals_ev (X + 1) (by omega)
    have s1 := str_dec_size X (by omega)
    have s2 := str_dec_size (X + 1) (by omega)
    have r1 := reads_ev f code most (n - (j : Int)) (strOfNums (dec X)) hf h0 hc hc2 (by omega) (str_dec_digit X) (by omega) (by omega)
    have r2 := reads_ev f code most (n - (j : Int)) (strOfNums (dec (X + 1))) hf h0 hc hc2 (by omega) (str_dec_digit (X + 1)) (by omega) (by omega)
    rw [str_dec, hr j _ j1 j2] at r1 r2
    generalize decide (Inn Bm Bp ev (X * U j)) = fst at *
    generalize decide (Inn Bm Bp ev ((X + 1) * U j)) = snd at *
    refine Ev.succ (g := fun k => (spec_decimals.f k (X : Int)).bind fun t443 => (spec_Form_reads.f k (f : Int) most t443 (n - (j : Int)) (code : Int)).bind fun t444 => (spec_decimals.f k ((X + 1 : Nat) : Int)).bind fun t445 => (spec_Form_reads.f k (f : Int) most t445 (n - (j : Int)) (code : Int)).bind fun t446 =>
      if t444 = true then spec_Form_Shortest.j1 k (code : Int) n (q : Int) (((10 ^ (17 - j) / 10 : Nat)) : Int) (j : Int) (X : Int) t444 t446 false (f : Int) most else spec_Form_Shortest.j1 k (code : Int) n (q : Int) (((10 ^ (17 - j) / 10 : Nat)) : Int) (j : Int) (X : Int) t444 t446 (!t446) (f : Int) most) (fun k => ?_) ?_
    · rw [spec_Form_Shortest.l0, if_pos (by omega), if_neg (by omega), e1, e2, e3, e4]
    · refine Ev.bind (h := fun k t443 => (spec_Form_reads.f k (f : Int) most t443 (n - (j : Int)) (code : Int)).bind fun t444 => (spec_decimals.f k ((X + 1 : Nat) : Int)).bind fun t445 => (spec_Form_reads.f k (f : Int) most t445 (n - (j : Int)) (code : Int)).bind fun t446 =>
        if t444 = true then spec_Form_Shortest.j1 k (code : Int) n (q : Int) (((10 ^ (17 - j) / 10 : Nat)) : Int) (j : Int) (X : Int) t444 t446 false (f : Int) most else spec_Form_Shortest.j1 k (code : Int) n (q : Int) (((10 ^ (17 - j) / 10 : Nat)) : Int) (j : Int) (X : Int) t444 t446 (!t446) (f : Int) most) d1 (Ev.bind r1 ?_)
      refine Ev.bind (h := fun k t445 => (spec_Form_reads.f k (f : Int) most t445 (n - (j : Int)) (code : Int)).bind fun t446 =>
        if fst = true then spec_Form_Shortest.j1 k (code : Int) n (q : Int) (((10 ^ (17 - j) / 10 : Nat)) : Int) (j : Int) (X : Int) fst t446 false (f : Int) most else spec_Form_Shortest.j1 k (code : Int) n (q : Int) (((10 ^ (17 - j) / 10 : Nat)) : Int) (j : Int) (X : Int) fst t446 (!t446) (f : Int) most) d2 (Ev.bind r2 ?_)
      cases fst with
      | true => exact Ev.congr hR (fun k => by rw [if_pos rfl]; rfl)
      | false => exact Ev.congr hR (fun k => by rw [if_neg (by decide)]; rfl)
  have main : ∀ m j : Nat, j + m = kk → 1 ≤ j → Ev (fun k => spec_Form_Shortest.l0 k (code : Int) n (q : Int) ((10 ^ (17 - j) : Nat) : Int) (j : Int) (f : Int) most) (strOfNums (dec (cutz x)), n + ((dec x).length : Int) - (kk : Int)) := by
    intro m
    induction m with
    | zero =>
      intro j hj j1
      obtain rfl : j = kk := by omega
      refine step j j1 hk2 _ ?_
      have hXb : V / U j < 100000000000000000 := by
        rw [hx j j1 hk2]
        exact Nat.lt_of_le_of_lt (Nat.div_le_self _ _) hq
      have hs := hsome
      unfold refStep at hs
      dsimp only at hs
      have hcj := hcl j (V / U j) j1 hk2
      have e3 : wrap64 (n - (j : Int)) = n - (j : Int) := w64 _ (by omega) (by omega)
      generalize V / U j = X at *
      have hC := closer_ev f code X most (n - (j : Int)) hf (by omega) q1 (by omega) (by omega) (by omega)
      rw [hcj] at hC
      by_cases a1 : Inn Bm Bp ev (X * U j)
      · by_cases a2 : Inn Bm Bp ev ((X + 1) * U j)
        · rw [if_pos (.inl a1)] at hs
          simp only [Option.some.injEq] at hs
          have e : x = if (decide (Closer V (U j) X)) = true then X + 1 else X := by
            rw [← hs]
            by_cases hcc : Closer V (U j) X
            · rw [if_pos ⟨a2, .inr hcc⟩, if_pos (decide_eq_true hcc)]
            · rw [if_neg (fun h => by rcases h.2 with h | h; exact h a1; exact hcc h), if_neg (by rw [decide_eq_true_eq]; exact hcc)]
          rw [e]
          refine Ev.succ (g := fun k => (spec_Form_closer.f k (f : Int) most (code : Int) (X : Int) (n - (j : Int))).bind fun t => spec_Form_Shortest.j2 k n (j : Int) (X : Int) t) (fun k => ?_) (Ev.bind hC (j2_ev n j X _ (by omega) (by omega) hk2 hXb))
          rw [decide_eq_true a1, decide_eq_true a2, spec_Form_Shortest.j1, if_neg (by decide), if_pos rfl, if_pos rfl, e3]
        · rw [if_pos (.inl a1)] at hs
          simp only [Option.some.injEq] at hs
          have e : x = X := by
            rw [← hs, if_neg (fun h => a2 h.1)]
          rw [e]
          refine Ev.succ (fun k => ?_) (j2_ev n j X false (by omega) (by omega) hk2 hXb)
          rw [decide_eq_true a1, decide_eq_false a2, spec_Form_Shortest.j1, if_neg (by decide), if_neg (by decide)]
      · by_cases a2 : Inn Bm Bp ev ((X + 1) * U j)
        · rw [if_pos (.inr a2)] at hs
          simp only [Option.some.injEq] at hs
          have e : x = X + 1 := by
            rw [← hs, if_pos ⟨a2, .inl a1⟩]
          rw [e]
          refine Ev.succ (fun k => ?_) (j2_ev n j X true (by omega) (by omega) hk2 hXb)
          rw [decide_eq_false a1, decide_eq_true a2, spec_Form_Shortest.j1, if_neg (by decide), if_pos rfl, if_neg (by decide)]
        · rw [if_neg (fun h => by rcases h with h | h; exact a1 h; exact a2 h)] at hs
          cases hs
    | succ m ih =>
      intro j hj j1
      have hj17 : j ≤ 17 := by omega
      have h17 : 17 - j = 17 - (j + 1) + 1 := by omega
      have ihj := ih (j + 1) (by omega) (by omega)
      refine step j j1 hj17 _ ?_
      have hn := hnone j j1 (by omega)
      unfold refStep at hn
      dsimp only at hn
      generalize V / U j = X at *
      have ha : ¬ (Inn Bm Bp ev (X * U j) ∨ Inn Bm Bp ev ((X + 1) * U j)) := by
        intro h
        rw [if_pos h] at hn
        cases hn
      have a1 : ¬ Inn Bm Bp ev (X * U j) := fun h => ha (.inl h)
      have a2 : ¬ Inn Bm Bp ev ((X + 1) * U j) := fun h => ha (.inr h)
      have e : 10 ^ (17 - j) / 10 = 10 ^ (17 - (j + 1)) := by
        rw [show 17 - j = 17 - (j + 1) + 1 from h17, Nat.pow_succ, Nat.mul_div_cancel _ (by decide)]
      have e4 : wrap64 ((j : Int) + 1) = ((j + 1 : Nat) : Int) := w64a j (Nat.le_trans hj17 (by decide))
      refine Ev.succ (fun k => ?_) ihj
      rw [decide_eq_false a1, decide_eq_false a2, spec_Form_Shortest.j1, if_pos (by decide), e, e4]
  exact main (kk - 1) 1 (by omega) (by omega)
end Go.Proofs.YtiopeaponffmdaaDoor.PAll
-- YtiopeaponffmdaaDoorSh
namespace Go.Proofs
open Go.Shelf
def Tryd.lays129_ren : Go.Shelf.Ren := ⟨fun | 129 => 57 | n => n, fun | 53 => 25 | 3 => 3 | 4 => 4 | 46 => 29 | 5 => 5 | 9 => 9 | n => n, fun | n => n⟩
theorem Tryd.lays129 : Go.Proofs.Lays.n129 Tryd.prog Tryd.lays129_ren := {
  mixed := by kernel_rfl
  f129 := Tryd.func57.trans (congrArg some (by kernel_rfl))
  t3 := Tryd.underlying3
  a3 := Tryd.isAgg3
  z3 := Tryd.sizeOf3
  v3 := Tryd.zeroValue3
  t4 := Tryd.underlying4
  a4 := Tryd.isAgg4
  z4 := Tryd.sizeOf4
  v4 := Tryd.zeroValue4
  t5 := Tryd.underlying5
  a5 := Tryd.isAgg5
  z5 := Tryd.sizeOf5
  v5 := Tryd.zeroValue5
  t9 := Tryd.underlying9
  a9 := Tryd.isAgg9
  z9 := Tryd.sizeOf9
  v9 := Tryd.zeroValue9
  t46 := Tryd.underlying29
  a46 := Tryd.isAgg29
  z46 := Tryd.sizeOf29
  v46 := Tryd.zeroValue29
  t53 := Tryd.underlying25
  a53 := Tryd.isAgg25
  z53 := Tryd.sizeOf25
  v53 := Tryd.zeroValue25 }
/-- bits.Len64: "Len64 returns the minimum number of bits required to represent x; the result is 0 for x == 0.": IT RETURNS 'Lib.bitLen x'; the world is as it was. ('h0', 'h1': x is a uint64.) (LAID: no walk: one application.) -/
theorem Tryd.bits_Len64 (x : Int) (w : World) (h0 : 0 ≤ x) (h1 : x ≤ 18446744073709551615) :
    Calls Tryd.prog 57 #[.int .u64 x] w fun e w' => e = .returned (.int .i64 (Lib.bitLen x.toNat)) ∧ w' = w := Any.bits_Len64 Tryd.lays129 x w h0 h1
def Tryd.laysM284_ren : Go.Shelf.Ren := ⟨fun | 284 => 60 | 129 => 57 | 317 => 61 | 318 => 79 | n => n, fun | 53 => 25 | 3 => 3 | 212 => 109 | 0 => 0 | 4 => 4 | 46 => 29 | 5 => 5 | 9 => 9 | n => n, fun | 17 => 2 | n => n⟩
theorem Tryd.laysM284 : Go.Proofs.LaysM.n284 Tryd.prog Tryd.laysM284_ren := {
  mixed := by kernel_rfl
  f129 := Tryd.func57.trans (congrArg some (by kernel_rfl))
  f284 := Tryd.func60.trans (congrArg some (by kernel_rfl))
  f317 := Tryd.func61.trans (congrArg some (by kernel_rfl))
  f318 := Tryd.func79.trans (congrArg some (by kernel_rfl))
  t0 := Tryd.underlying0
  a0 := Tryd.isAgg0
  z0 := Tryd.sizeOf0
  v0 := Tryd.zeroValue0
  t3 := Tryd.underlying3
  a3 := Tryd.isAgg3
  z3 := Tryd.sizeOf3
  v3 := Tryd.zeroValue3
  t4 := Tryd.underlying4
  a4 := Tryd.isAgg4
  z4 := Tryd.sizeOf4
  v4 := Tryd.zeroValue4
  t5 := Tryd.underlying5
  a5 := Tryd.isAgg5
  z5 := Tryd.sizeOf5
  v5 := Tryd.zeroValue5
  t9 := Tryd.underlying9
  a9 := Tryd.isAgg9
  z9 := Tryd.sizeOf9
  v9 := Tryd.zeroValue9
  t46 := Tryd.underlying29
  a46 := Tryd.isAgg29
  z46 := Tryd.sizeOf29
  v46 := Tryd.zeroValue29
  t53 := Tryd.underlying25
  a53 := Tryd.isAgg25
  z53 := Tryd.sizeOf25
  v53 := Tryd.zeroValue25
  t212 := Tryd.underlying109
  a212 := Tryd.isAgg109
  z212 := Tryd.sizeOf109
  v212 := Tryd.zeroValue109
  g17 := by kernel_rfl
  i0 := by kernel_rfl
  i3 := by kernel_rfl
  i4 := by kernel_rfl
  i5 := by kernel_rfl
  i9 := by kernel_rfl
  i46 := by kernel_rfl
  i53 := by kernel_rfl
  i212 := by kernel_rfl
  m17 := by kernel_rfl }
open Go.Lib in
/-- internal/strconv.numDigits, at a d that is not 0: THE NUMBER OF d's DECIMAL DIGITS. The world is as it was. (LAID: no walk: one application.) -/
theorem Tryd.internal_strconv_numDigits (u : Nat) (h1 : 1 ≤ u) (h2 : u < 18446744073709551616) (w : World) (htab : Lib.TabIs Tryd.prog w "internal/strconv.uint64pow10" .u64 Lib.pow10Tab) :
    Calls Tryd.prog 60 #[.int .u64 u] w fun e w' => e = .returned (.int .i64 (Lib.nDigits u)) ∧ w' = w := Any.internal_strconv_numDigits Tryd.laysM284 u h1 h2 w htab
def Tryd.lays285_ren : Go.Shelf.Ren := ⟨fun | 285 => 78 | n => n, fun | 37 => 39 | 53 => 25 | 3 => 3 | 4 => 4 | 51 => 47 | 9 => 9 | 5 => 5 | 0 => 0 | n => n, fun | n => n⟩
theorem Tryd.lays285 : Go.Proofs.Lays.n285 Tryd.prog Tryd.lays285_ren := {
  mixed := by kernel_rfl
  f285 := Tryd.func78.trans (congrArg some (by kernel_rfl))
  t0 := Tryd.underlying0
  a0 := Tryd.isAgg0
  z0 := Tryd.sizeOf0
  v0 := Tryd.zeroValue0
  t3 := Tryd.underlying3
  a3 := Tryd.isAgg3
  z3 := Tryd.sizeOf3
  v3 := Tryd.zeroValue3
  t4 := Tryd.underlying4
  a4 := Tryd.isAgg4
  z4 := Tryd.sizeOf4
  v4 := Tryd.zeroValue4
  t5 := Tryd.underlying5
  a5 := Tryd.isAgg5
  z5 := Tryd.sizeOf5
  v5 := Tryd.zeroValue5
  t9 := Tryd.underlying9
  a9 := Tryd.isAgg9
  z9 := Tryd.sizeOf9
  v9 := Tryd.zeroValue9
  t37 := Tryd.underlying39
  a37 := Tryd.isAgg39
  z37 := Tryd.sizeOf39
  v37 := Tryd.zeroValue39
  t51 := Tryd.underlying47
  a51 := Tryd.isAgg47
  z51 := Tryd.sizeOf47
  v51 := Tryd.zeroValue47
  t53 := Tryd.underlying25
  a53 := Tryd.isAgg25
  z53 := Tryd.sizeOf25
  v53 := Tryd.zeroValue25 }
open Go.RowKit Go.Sort Go.Lib in
/-- internal/strconv.formatBase10: "formatBase10 formats the decimal representation of u into a. The caller is responsible for ensuring that a is big enough to hold u. If a is too big, leading zeros will be filled in as needed.": THE ROW HOLDS u's DIGITS ('FmtInv .. 0 ..': every place t holds 'dg u (len - 1 - t)'); all else is as it was but for the count of draws. (LAID: no walk: one application.) -/
theorem Tryd.internal_strconv_formatBase10 (blk off cap : Nat) (u : Nat) (d : Array UInt8) (w : World) (hH : Holds (fun (b : UInt8) => Value.int .u8 (b.toNat : Int)) w blk off d) (hu : u < 10 ^ d.size) (hu64 : u < 18446744073709551616) (hsz : d.size < 4611686018427387904) :
    Calls Tryd.prog 78 #[.slice (some ⟨blk, off, none⟩) d.size cap, .int .u64 u] w fun e w' =>
      e = .returned (.tuple #[]) ∧ ∃ (n v' : Nat) (dk : Array UInt8), w' = (putRow (fun (b : UInt8) => Value.int .u8 (b.toNat : Int)) w blk off dk).drewN n ∧ FmtInv d.size u 0 v' dk := Any.internal_strconv_formatBase10 Tryd.lays285 blk off cap u d w hH hu hu64 hsz
def Tryd.lays264_ren : Go.Shelf.Ren := ⟨fun | 264 => 90 | n => n, fun | 53 => 25 | 46 => 29 | n => n, fun | n => n⟩
theorem Tryd.lays264 : Go.Proofs.Lays.n264 Tryd.prog Tryd.lays264_ren := {
  mixed := by kernel_rfl
  f264 := Tryd.func90.trans (congrArg some (by kernel_rfl))
  t46 := Tryd.underlying29
  a46 := Tryd.isAgg29
  z46 := Tryd.sizeOf29
  v46 := Tryd.zeroValue29
  t53 := Tryd.underlying25
  a53 := Tryd.isAgg25
  z53 := Tryd.sizeOf25
  v53 := Tryd.zeroValue25 }
open Go.RowKit Go.Lib in
theorem Tryd.bits_Mul64 (x y : Nat) (hx : x < 18446744073709551616) (hy : y < 18446744073709551616) (w : World) :
    Calls Tryd.prog 90 #[.int .u64 x, .int .u64 y] w fun e w' => e = .returned (.tuple #[.int .u64 ((x * y / 18446744073709551616 : Nat) : Int), .int .u64 ((x * y % 18446744073709551616 : Nat) : Int)]) ∧ w' = w := Any.bits_Mul64 Tryd.lays264 x y hx hy w
end Go.Proofs
-- YtiopeaponffmdaaDoorFa
namespace Go.Proofs.YtiopeaponffmdaaDoor.PAll
open Go.RowKit Go.Proofs.YtiopeaponffmdaaDoorW.PrintWords Go.Proofs.YtiopeaponffmdaaDoorW.PrintLast Go.Proofs.YtiopeaponffmdaaDoorW.PrintMore

theorem log10Pow2_calls (x : Int) (w : World) (h0 : -100000 ≤ x) (h1 : x ≤ 100000) :
    Calls Tryd.prog 61 #[.int .i64 x] w fun e w' => e = .returned (.int .i64 (x * 78913 / 262144)) ∧ w = w' := by
  go_enter Tryd.func61, Tryd.ntmps61
  go_wp2
  go_ret
  exact ⟨rfl, rfl⟩

theorem skewed_calls (x : Int) (w : World) (h0 : -100000 ≤ x) (h1 : x ≤ 100000) :
    Calls Tryd.prog 70 #[.int .i64 x] w fun e w' => e = .returned (.int .i64 ((x * 631305 - 261663) / 2097152)) ∧ w = w' := by
  go_enter Tryd.func70, Tryd.ntmps70
  go_wp2
  go_ret
  exact ⟨rfl, rfl⟩

theorem log2Pow10_calls (x : Int) (w : World) (h0 : -100000 ≤ x) (h1 : x ≤ 100000) :
    Calls Tryd.prog 72 #[.int .i64 x] w fun e w' => e = .returned (.int .i64 (x * 108853 / 32768)) ∧ w = w' := by
  go_enter Tryd.func72, Tryd.ntmps72
  go_wp2
  go_ret
  exact ⟨rfl, rfl⟩

theorem nudge_calls (u d : Int) (w : World) (h0 : 0 ≤ u + d) (h1 : u + d < 18446744073709551616) :
    Calls Tryd.prog 74 #[.int .u64 u, .int .i64 d] w fun e w' => e = .returned (.int .u64 (u + d)) ∧ w = w' := by
  go_enter Tryd.func74, Tryd.ntmps74
  go_wp2
  go_ret
  have e1 : IntKind.u64.wrap (u + IntKind.u64.wrap d) = u + d := by
    rw [IntKind.wrap_u64, IntKind.wrap_u64]; omega
  refine ⟨?_, rfl⟩
  simp [e1]

theorem ceil_calls (u : Int) (w : World) (h0 : 0 ≤ u) (h1 : u + 3 < 18446744073709551616) :
    Calls Tryd.prog 75 #[.int .u64 u] w fun e w' => e = .returned (.int .u64 ((u + 3) / 4)) ∧ w = w' := by
  go_enter Tryd.func75, Tryd.ntmps75
  go_wp2
  go_ret
  exact ⟨rfl, rfl⟩

theorem floor_calls (u : Int) (w : World) (h0 : 0 ≤ u) (h1 : u < 18446744073709551616) :
    Calls Tryd.prog 76 #[.int .u64 u] w fun e w' => e = .returned (.int .u64 (u / 4)) ∧ w = w' := by
  go_enter Tryd.func76, Tryd.ntmps76
  go_wp2
  go_ret
  exact ⟨rfl, rfl⟩

theorem round_calls (u : Int) (w : World) (h0 : 0 ≤ u) (h1 : u + 2 < 18446744073709551616) :
    Calls Tryd.prog 77 #[.int .u64 u] w fun e w' => e = .returned (.int .u64 ((u + 1 + u / 4 % 2) / 4)) ∧ w = w' := by
  go_enter Tryd.func77, Tryd.ntmps77
  go_wp2
  go_ret
  have e1 := and_one_u64 (u / 4) (by omega) (by omega)
  have e2 : IntKind.u64.wrap (u + 1 + u / 4 % 2) = u + 1 + u / 4 % 2 := IntWalk.u64_in _ (by omega)
  refine ⟨?_, rfl⟩
  simp [e1, e2]

theorem bool2u_t (w : World) : Calls Tryd.prog 91 #[.bool true] w fun e w' => e = .returned (.int .u64 1) ∧ w = w' := by
  go_enter Tryd.func91, Tryd.ntmps91; go_wp2; go_ret; exact ⟨rfl, rfl⟩
theorem bool2u_f (w : World) : Calls Tryd.prog 91 #[.bool false] w fun e w' => e = .returned (.int .u64 0) ∧ w = w' := by
  go_enter Tryd.func91, Tryd.ntmps91; go_wp2; go_ret; exact ⟨rfl, rfl⟩

theorem bool2u_t' (w : World) : Calls Tryd.prog 91 #[.bool true] w fun e w' => e = .returned (.int .u64 1) ∧ w' = w := (bool2u_t w).mono fun _ _ h => ⟨h.1, h.2.symm⟩
theorem bool2u_f' (w : World) : Calls Tryd.prog 91 #[.bool false] w fun e w' => e = .returned (.int .u64 0) ∧ w' = w := (bool2u_f w).mono fun _ _ h => ⟨h.1, h.2.symm⟩
theorem or_one_u64 (n : Nat) (h : n < 18446744073709551616) : bits .or .u64 (n : Int) 1 = ((n / 2 * 2 + 1 : Nat) : Int) := by
  have := u64_or_nat n 1 h (by omega)
  rw [Go.Lib.or_one_nat] at this
  exact this
theorem or_zero_u64 (n : Nat) (h : n < 18446744073709551616) : bits .or .u64 (n : Int) 0 = (n : Int) := by
  have := u64_or_nat n 0 h (by omega)
  rw [Nat.or_zero] at this
  exact this
theorem i64_and63 (s : Nat) (h : s < 64) : bits .and .i64 (s : Int) 63 = (s : Int) := by
  show IntKind.i64.wrap ((BitVec.ofInt 64 (s : Int) &&& BitVec.ofInt 64 ((63 : Nat) : Int)).toNat : Int) = _
  rw [BitVec.toNat_and, ofInt_u64 s (by omega), ofInt_u64 63 (by omega), nat_mask6, Nat.mod_eq_of_lt h]
  exact Go.Lib.wrap_i64_small _ (by omega)

theorem mul64_calls (x y a b : Nat) (hx : x < 18446744073709551616) (hy : y < 18446744073709551616) (ha : x * y / 18446744073709551616 = a) (hb : x * y % 18446744073709551616 = b) (w : World) :
    Calls Tryd.prog 90 #[.int .u64 (x : Int), .int .u64 (y : Int)] w fun e w' => e = .returned (.tuple #[.int .u64 (a : Int), .int .u64 (b : Int)]) ∧ w = w' := by
  subst ha hb
  exact (Tryd.bits_Mul64 x y hx hy w).mono fun e w' ⟨h1, h2⟩ => ⟨h1, h2.symm⟩

theorem div_pow_cast (H s : Nat) : (H : Int) / 2 ^ s = ((H / 2 ^ s : Nat) : Int) := by
  rw [Int.natCast_ediv]; simp
theorem pow_cast (H s : Nat) : (H : Int) * 2 ^ s = ((H * 2 ^ s : Nat) : Int) := by
  rw [Int.natCast_mul]; simp

set_option maxHeartbeats 800000 in
theorem uscale_calls (x g hi lo s : Nat) (w : World) (hx : x < 18446744073709551616) (hhi1 : 1 ≤ hi) (hhi : hi < 18446744073709551616) (hlo : lo < 18446744073709551616) (hs : s < 64)
    (c0 : w.cell? ⟨g, 0, none⟩ = some (.int .u64 (hi : Int))) (c1 : w.cell? ⟨g, 1, none⟩ = some (.int .u64 (lo : Int))) (c2 : w.cell? ⟨g, 2, none⟩ = some (.int .i64 (s : Int))) :
    Calls Tryd.prog 73 #[.int .u64 (x : Int), .pointer (some ⟨g, 0, none⟩)] w fun e w' => e = .returned (.int .u64 ((Fm.usc x hi lo s : Nat) : Int)) ∧ Drawn0 w w' := by
  have e63 := i64_and63 s hs
  obtain ⟨H, hH⟩ : ∃ H, x * hi / 18446744073709551616 = H := ⟨_, rfl⟩
  obtain ⟨M, hM⟩ : ∃ M, x * hi % 18446744073709551616 = M := ⟨_, rfl⟩
  obtain ⟨m2, hm2⟩ : ∃ m2, x * lo / 18446744073709551616 = m2 := ⟨_, rfl⟩
  obtain ⟨l2, hl2⟩ : ∃ l2, x * lo % 18446744073709551616 = l2 := ⟨_, rfl⟩
  have k1 := fun w' => mul64_calls x hi H M hx hhi hH hM w'
  have k2 := fun w' => mul64_calls x lo m2 l2 hx hlo hm2 hl2 w'
  have bH : H < 18446744073709551616 := by
    have : x * hi < 18446744073709551616 * 18446744073709551616 := Nat.mul_lt_mul'' hx hhi
    omega
  have bM : M < 18446744073709551616 := by omega
  have b2 : m2 < 18446744073709551616 := by
    have : x * lo < 18446744073709551616 * 18446744073709551616 := Nat.mul_lt_mul'' hx hlo
    omega
  have hq0 : H / 2 ^ s ≤ H := Nat.div_le_self _ _
  have hqm : H / 2 ^ s * 2 ^ s ≤ H := Nat.div_mul_le_self _ _
  have hU : Fm.usc x hi lo s = if H % 2 ^ s ≠ 0 then H / 2 ^ s / 2 * 2 + 1 else if (if M < m2 then M + 18446744073709551616 - m2 else M - m2) > 1 then (if M < m2 then H - 1 else H) / 2 ^ s / 2 * 2 + 1 else (if M < m2 then H - 1 else H) / 2 ^ s := by
    unfold Fm.usc
    subst hH hM hm2
    rfl
  have hmod : H % 2 ^ s = 0 ↔ H / 2 ^ s * 2 ^ s = H := by
    have := Nat.div_add_mod H (2 ^ s)
    rw [Nat.mul_comm] at this
    omega
  have hp : M < m2 → 1 ≤ H := by
    intro hlt
    refine Nat.pos_of_ne_zero fun h => ?_
    have a1 : x * 1 ≤ x * hi := Nat.mul_le_mul_left x hhi1
    have a2 : x * lo ≤ x * 18446744073709551616 := Nat.mul_le_mul_left x (by omega)
    have a3 : M = x * hi := by omega
    omega
  have HP := Lib.hid hp
  clear hp
  have K1 := Lib.hid k1
  have K2 := Lib.hid k2
  have HU := Lib.hid hU
  have HM := Lib.hid hmod
  clear k1 k2 hU hmod hH hM hm2 hl2
  obtain ⟨q, hq⟩ : ∃ q, H / 2 ^ s = q := ⟨_, rfl⟩
  obtain ⟨Z, hZ⟩ : ∃ Z, q * 2 ^ s = Z := ⟨_, rfl⟩
  have ed : (H : Int) / 2 ^ s = (q : Int) := by rw [div_pow_cast, hq]
  have em : IntKind.u64.wrap ((q : Int) * 2 ^ s) = (Z : Int) := by
    rw [pow_cast, hZ]; exact IntWalk.u64_in _ (by rw [hq, hZ] at hqm; omega)
  have bq : q < 18446744073709551616 := by omega
  have o1 := or_one_u64 q bq
  rw [hq, hZ] at HM
  clear hq0 hqm
  have HQ := Lib.hid hq
  clear hq hZ
  by_cases hr : Z = H
  · subst hr
    have hU2 := HU.out
    rw [if_neg (fun h => h (HM.out.2 rfl))] at hU2
    clear o1
    by_cases hlt : M < m2
    · have hpos : 1 ≤ Z := HP.out hlt
      have d1 : decide (M < m2) = true := decide_eq_true hlt
      have w1 : IntKind.u64.wrap ((M : Int) - (m2 : Int)) = ((M + 18446744073709551616 - m2 : Nat) : Int) := by
        rw [IntKind.wrap_u64]; omega
      have w2 : IntKind.u64.wrap ((Z : Int) - 1) = ((Z - 1 : Nat) : Int) := by
        rw [IntKind.wrap_u64]; omega
      simp only [if_pos hlt] at hU2
      obtain ⟨D, hD⟩ : ∃ D, M + 18446744073709551616 - m2 = D := ⟨_, rfl⟩
      rw [hD] at w1 hU2
      have HD := Lib.hid hD
      clear hD
      obtain ⟨Y, hY⟩ : ∃ Y, Z - 1 = Y := ⟨_, rfl⟩
      rw [hY] at w2 hU2
      have bY : Y < 18446744073709551616 := by omega
      have HY := Lib.hid hY
      clear hY
      obtain ⟨qq, hqq⟩ : ∃ qq, Y / 2 ^ s = qq := ⟨_, rfl⟩
      have bqq : qq < 18446744073709551616 := by have := Nat.div_le_self Y (2 ^ s); omega
      have edd : (Y : Int) / 2 ^ s = (qq : Int) := by rw [div_pow_cast, hqq]
      rw [hqq] at hU2
      have Hqq := Lib.hid hqq
      clear hqq
      by_cases hg : D > 1
      · have d2 : decide ((1 : Int) < (D : Int)) = true := decide_eq_true (by omega)
        rw [if_pos hg] at hU2
        have HU2 := Lib.hid hU2
        clear hU2
        go_enter Tryd.func73, Tryd.ntmps73
        go_wp2_with (fail)
        refine (K1.out _).mono ?_
        rintro e w' ⟨rfl, rfl⟩
        go_wp2_with (fail)
        refine (K2.out _).mono ?_
        rintro e w' ⟨rfl, rfl⟩
        go_wp2_with (fail)
        refine (bool2u_t _).mono ?_
        rintro e w' ⟨rfl, rfl⟩
        go_wp2_with (fail)
        go_quiet ((go_at_call 91; exact Calls.quiet_of_same (bool2u_t' _)))
        go_wp2_with (fail)
        go_ret
        exact ⟨by rw [HU2.out]; exact congrArg (fun z => Ending.returned (.int .u64 z)) (or_one_u64 qq bqq), ⟨⟨_, rfl⟩⟩⟩
      · have d2 : decide ((1 : Int) < (D : Int)) = false := decide_eq_false (by omega)
        rw [if_neg hg] at hU2
        have HU2 := Lib.hid hU2
        clear hU2
        go_enter Tryd.func73, Tryd.ntmps73
        go_wp2_with (fail)
        refine (K1.out _).mono ?_
        rintro e w' ⟨rfl, rfl⟩
        go_wp2_with (fail)
        refine (K2.out _).mono ?_
        rintro e w' ⟨rfl, rfl⟩
        go_wp2_with (fail)
        refine (bool2u_t _).mono ?_
        rintro e w' ⟨rfl, rfl⟩
        go_wp2_with (fail)
        go_quiet ((go_at_call 91; exact Calls.quiet_of_same (bool2u_f' _)))
        go_wp2_with (fail)
        go_ret
        exact ⟨by rw [HU2.out]; exact congrArg (fun z => Ending.returned (.int .u64 z)) (or_zero_u64 qq bqq), ⟨⟨_, rfl⟩⟩⟩
    · have d1 : decide (M < m2) = false := decide_eq_false hlt
      have w1 : IntKind.u64.wrap ((M : Int) - (m2 : Int)) = ((M - m2 : Nat) : Int) := by
        rw [IntKind.wrap_u64]; omega
      simp only [if_neg hlt] at hU2
      obtain ⟨D, hD⟩ : ∃ D, M - m2 = D := ⟨_, rfl⟩
      rw [hD] at w1 hU2
      have HD := Lib.hid hD
      clear hD
      rw [HQ.out] at hU2
      by_cases hg : D > 1
      · have d2 : decide ((1 : Int) < (D : Int)) = true := decide_eq_true (by omega)
        rw [if_pos hg] at hU2
        have HU2 := Lib.hid hU2
        clear hU2
        go_enter Tryd.func73, Tryd.ntmps73
        go_wp2_with (fail)
        refine (K1.out _).mono ?_
        rintro e w' ⟨rfl, rfl⟩
        go_wp2_with (fail)
        refine (K2.out _).mono ?_
        rintro e w' ⟨rfl, rfl⟩
        go_wp2_with (fail)
        refine (bool2u_f _).mono ?_
        rintro e w' ⟨rfl, rfl⟩
        go_wp2_with (fail)
        go_quiet ((go_at_call 91; exact Calls.quiet_of_same (bool2u_t' _)))
        go_wp2_with (fail)
        go_ret
        exact ⟨by rw [HU2.out]; exact congrArg (fun z => Ending.returned (.int .u64 z)) (or_one_u64 q bq), ⟨⟨_, rfl⟩⟩⟩
      · have d2 : decide ((1 : Int) < (D : Int)) = false := decide_eq_false (by omega)
        rw [if_neg hg] at hU2
        have HU2 := Lib.hid hU2
        clear hU2
        go_enter Tryd.func73, Tryd.ntmps73
        go_wp2_with (fail)
        refine (K1.out _).mono ?_
        rintro e w' ⟨rfl, rfl⟩
        go_wp2_with (fail)
        refine (K2.out _).mono ?_
        rintro e w' ⟨rfl, rfl⟩
        go_wp2_with (fail)
        refine (bool2u_f _).mono ?_
        rintro e w' ⟨rfl, rfl⟩
        go_wp2_with (fail)
        go_quiet ((go_at_call 91; exact Calls.quiet_of_same (bool2u_f' _)))
        go_wp2_with (fail)
        go_ret
        exact ⟨by rw [HU2.out]; exact congrArg (fun z => Ending.returned (.int .u64 z)) (or_zero_u64 q bq), ⟨⟨_, rfl⟩⟩⟩
  · have t1 : ((Z : Int) != (H : Int)) = true := by rw [bne_iff_ne]; omega
    have fin : Fm.usc x hi lo s = q / 2 * 2 + 1 := by
      rw [HU.out, if_pos (fun h => hr (HM.out.1 h)), HQ.out]
    have FIN := Lib.hid fin
    clear fin
    have O1 := Lib.hid o1
    clear o1
    go_enter Tryd.func73, Tryd.ntmps73
    go_wp2_with (fail)
    refine (K1.out _).mono ?_
    rintro e w' ⟨rfl, rfl⟩
    go_wp2_with (fail)
    go_ret
    exact ⟨by rw [FIN.out, ← O1.out]; rfl, Drawn0.refl _⟩
end Go.Proofs.YtiopeaponffmdaaDoor.PAll
