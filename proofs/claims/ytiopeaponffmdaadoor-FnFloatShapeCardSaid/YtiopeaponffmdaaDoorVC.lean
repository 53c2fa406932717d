/- FnFloatShape, the tied card: the law returns true, whatever the input. Conditions: the listed package-level variables hold what the program's text lays in them (the card ties them). -/
import Derived.Test.YtiopeaponffmdaaDoorCards
import Derived.Test.YtiopeaponffmdaaDoorTie
import Derived.SevenTiedAt
import Derived.Test.YtiopeaponffmdaaDoorVA1
import Derived.Test.YtiopeaponffmdaaDoorVA2
import Derived.Test.YtiopeaponffmdaaDoorVA3
import Derived.Test.YtiopeaponffmdaaDoorVA4
import Derived.Test.YtiopeaponffmdaaDoorVA5
import Derived.Test.YtiopeaponffmdaaDoorVA6
import Derived.Test.YtiopeaponffmdaaDoorVA7
import Derived.Test.YtiopeaponffmdaaDoorVA8
import Derived.Test.YtiopeaponffmdaaDoorVA9
import Derived.Test.YtiopeaponffmdaaDoorVA10
import Derived.Test.YtiopeaponffmdaaDoorVA11
import Derived.Test.YtiopeaponffmdaaDoorVA12
import Derived.Test.YtiopeaponffmdaaDoorVA13
import Derived.Test.YtiopeaponffmdaaDoorVA14
import Derived.Test.YtiopeaponffmdaaDoorVA15
import Derived.Test.YtiopeaponffmdaaDoorVA16
import Derived.Test.YtiopeaponffmdaaDoorVA
set_option linter.unusedVariables false
set_option linter.unusedSimpArgs false
-- YtiopeaponffmdaaDoorMg
namespace Go.Proofs.YtiopeaponffmdaaDoor.PAll
open Go.RowKit Go.Proofs.YtiopeaponffmdaaDoorW.PrintWords Go.Proofs.YtiopeaponffmdaaDoorW.PrintLast Go.Proofs.YtiopeaponffmdaaDoorW.PrintMore
open Fm

theorem Ug_pos (f : Nat) (n : Int) (a k : Nat) : 0 < Ug f n a k := Nat.mul_pos (Nat.two_pow_pos _) (Nat.pow_pos (by decide))
end Go.Proofs.YtiopeaponffmdaaDoor.PAll
-- YtiopeaponffmdaaDoorFr
namespace Go.Proofs.YtiopeaponffmdaaDoor.PAll
open Go.RowKit Go.Proofs.YtiopeaponffmdaaDoorW.PrintWords Go.Proofs.YtiopeaponffmdaaDoorW.PrintLast Go.Proofs.YtiopeaponffmdaaDoorW.PrintMore
open Fm

/-- the text of a finite number without its sign -/
def NumText (f c : Nat) (l : List Int) : Prop := (c = 0 ∧ l = [48]) ∨ (1 ≤ c ∧ ∃ (n : Int) (k y : Nat), ShAt f c 400 n k y ∧ 0 < y ∧ l = laidL (dec (cutz y)) (n + ((dec y).length : Int) - (k : Int)))

theorem text64F (tt : ByteArray) (x c : Nat) (sg : Bool) (w : World) (hto : tt.size ≤ 4000000000) (hx : x < 18446744073709551616) (hc : c = x % 9223372036854775808) (hc1 : c < 9218868437227405312)
    (hsg : ((x : Int) / 9223372036854775808 != 0) = sg) (hR : Rdy w) :
    ∃ l : List Int, NumText 52 c l ∧
      Calls Tryd.prog 14 #[.string tt, .float .f64 x, .int .i64 64] w fun e w' => e = .returned (.string (tt ++ strOfNums ((if sg = true then [45] else []) ++ l))) ∧ Below w.heap.size w w' := by
  by_cases h0 : c = 0
  · subst h0
    refine ⟨[48], .inl ⟨rfl, rfl⟩, (text64Z tt x sg w hto hx hc hsg).mono fun e w' ⟨h1, h2⟩ => ⟨?_, h2⟩⟩
    rw [h1, ← str_append, strOfNums_bytesOf]
  · obtain ⟨q, m, P, M, L, D, pp, N⟩ := n64 c 0 (by omega) hc1
    have hS := N.hS
    obtain ⟨n, k, y, hsh, hy, hy0, hpl⟩ := hS.sh
    refine ⟨_, .inr ⟨by omega, n, k, y, hsh, hy0, rfl⟩, (text64N tt x c 0 sg w hto hx hc (by omega) hc1 N hsg hR).mono fun e w' ⟨h1, h2⟩ => ⟨?_, h2⟩⟩
    rw [h1, hy, hpl, ← str_append, strOfNums_bytesOf]

theorem laidL_head (ds : List Int) (n : Int) (h1 : 1 ≤ ds.length) (hd : ∀ b ∈ ds, 48 ≤ b ∧ b ≤ 57) : ∃ b t, laidL ds n = b :: t ∧ 48 ≤ b ∧ b ≤ 57 := by
  obtain ⟨b, t, rfl⟩ : ∃ b t, ds = b :: t := by
    cases ds with
    | nil => simp at h1
    | cons b t => exact ⟨b, t, rfl⟩
  have hb := hd b (by simp)
  unfold laidL
  split
  · exact ⟨b, _, rfl, hb⟩
  · split
    · rename_i h
      obtain ⟨m, hm⟩ : ∃ m, n.toNat = m + 1 := ⟨n.toNat - 1, by omega⟩
      rw [hm, List.take_succ_cons]
      exact ⟨b, _, rfl, hb⟩
    · split
      · exact ⟨48, _, rfl, by omega⟩
      · split
        · exact ⟨b, _, rfl, hb⟩
        · exact ⟨b, _, rfl, hb⟩
theorem NumText.head {f c : Nat} {l : List Int} (h : NumText f c l) : ∃ b t, l = b :: t ∧ 48 ≤ b ∧ b ≤ 57 := by
  rcases h with ⟨_, rfl⟩ | ⟨_, n, k, y, _, _, rfl⟩
  · exact ⟨48, [], rfl, by omega⟩
  · exact laidL_head _ _ (dec_length_pos _) (dec_digit _)
theorem cutz_len (D : Nat) : (dec (cutz D)).length ≤ (dec D).length := by
  induction D using Nat.strongRecOn with
  | ind D ih =>
    by_cases h : 10 ≤ D ∧ D % 10 = 0
    · rw [cutz_pos h.1 h.2, dec_ge h.1, List.length_append]
      have := ih (D / 10) (by omega)
      omega
    · rw [cutz_neg h]; exact Nat.le_refl _
/-- the digits fit the grid -/
theorem ShAt.upper {f c a : Nat} {n : Int} {k x : Nat} (h : ShAt f c a n k x) (ha : 400 ≤ a) : x ≤ 10 ^ k := by
  have hr := h.some
  have hU : ∀ i : Nat, i < 17 → Ug f n a i = 10 * Ug f n a (i + 1) := fun i hi => Ug_succ f n a i (by have := h.n0; omega)
  have hm := unit_mul (Ug f n a) hU 0 k (by have := h.k2; omega)
  rw [Nat.zero_add] at hm
  have hq : (T2 f c * 2 ^ 1 * 10 ^ a) / Ug f n a k < 10 ^ k := by
    rw [Nat.div_lt_iff_lt_mul (Ug_pos _ _ _ _), ← hm]
    exact h.high
  unfold refStep at hr
  dsimp only at hr
  split at hr
  · have := Option.some.inj hr
    rw [← this]
    split <;> omega
  · cases hr
theorem NumText.len {f c : Nat} {l : List Int} (h : NumText f c l) : l.length ≤ 100 := by
  rcases h with ⟨_, rfl⟩ | ⟨_, n, k, y, h, h0, rfl⟩
  · decide
  · have hu := h.upper (by decide)
    have hk := h.k2
    have h1 : y < 10 ^ (17 + 1) := Nat.lt_of_le_of_lt hu (Nat.pow_lt_pow_right (by decide) (by omega))
    have h2 := dec_length_le 17 y h1
    have h3 := cutz_len y
    have n0 := h.n0
    have n1 := h.n1
    have k1 := h.k1
    exact laidL_len _ _ (by omega) (by omega) (by omega)
end Go.Proofs.YtiopeaponffmdaaDoor.PAll
-- YtiopeaponffmdaaDoorFs
namespace Go.Proofs.YtiopeaponffmdaaDoor.PAll
open Go.RowKit Go.Proofs.YtiopeaponffmdaaDoorW.PrintWords Go.Proofs.YtiopeaponffmdaaDoorW.PrintLast Go.Proofs.YtiopeaponffmdaaDoorW.PrintMore
open Fm
theorem empty_app (s : ByteArray) : (⟨#[]⟩ : ByteArray) ++ s = s := by
  refine bytes_eq ?_
  rw [ByteArray.data_append, Array.toList_append]
  rfl
/-- the text alone -/
theorem textE (x c : Nat) (sg : Bool) (w : World) (hx : x < 18446744073709551616) (hc : c = x % 9223372036854775808) (hc1 : c < 9218868437227405312)
    (hsg : ((x : Int) / 9223372036854775808 != 0) = sg) (hR : Rdy w) :
    ∃ l : List Int, NumText 52 c l ∧
      Calls Tryd.prog 14 #[.string ⟨#[]⟩, .float .f64 x, .int .i64 64] w fun e w' => e = .returned (.string (strOfNums ((if sg = true then [45] else []) ++ l))) ∧ Below w.heap.size w w' := by
  obtain ⟨l, hl, hC⟩ := text64F ⟨#[]⟩ x c sg w (by decide) hx hc hc1 hsg hR
  exact ⟨l, hl, hC.mono fun e w' ⟨h1, h2⟩ => ⟨by rw [h1, empty_app], h2⟩⟩
end Go.Proofs.YtiopeaponffmdaaDoor.PAll
-- YtiopeaponffmdaaDoorFt
namespace Go.Proofs.YtiopeaponffmdaaDoor.PAll
open Go.RowKit Go.Proofs.YtiopeaponffmdaaDoorW.PrintWords Go.Proofs.YtiopeaponffmdaaDoorW.PrintLast Go.Proofs.YtiopeaponffmdaaDoorW.PrintMore
open Fm
/-- has a text the letter e among its first k bytes? -/
def hasE (s : ByteArray) (k : Nat) : Bool := ((bytesOf s).take k).any (· == 101)
theorem hasE_succ (s : ByteArray) (k : Nat) (h : k < s.size) : hasE s (k + 1) = (hasE s k || ((s[k]'h).toNat : Int) == 101) := by
  unfold hasE
  rw [take_snoc (bytesOf s) k (by rw [bytesOf_length]; exact h), List.any_append, rd_bytesOf]
  have e : bt s (k : Int) = ((s[k]'h).toNat : Int) := by
    unfold bt
    rw [dif_pos (by simpa using h)]
    simp
  rw [e]
  simp
set_option maxRecDepth 100000 in
theorem w6_Z (x y : Nat) (s : ByteArray) (w : World) (hs : s.size ≤ 1000) (hs0 : s.toList.isEmpty = false) (hn : x % 9223372036854775808 < 9218868437227405312)
    (hC : Calls Tryd.prog 14 #[.string ⟨#[]⟩, .float .f64 x, .int .i64 64] w fun e w' => e = .returned (.string s) ∧ Below w.heap.size w w')
    (hA : ∀ W, Calls Tryd.prog 21 #[.float .f64 x] W fun e w' => e = .returned (.float .f64 y) ∧ W = w') (o0 : FloatKind.f64.format.order y 0 = some .eq) (o1 : FloatKind.f64.format.order y 4517329193108106637 = some .lt) (o2 : FloatKind.f64.format.order y 4921056587992461136 = some .lt) (hE : hasE s s.size = false) :
    Calls Tryd.prog 6 #[.float .f64 x] w fun e w' => e = .returned (.bool true) ∧ Below w.heap.size w w' := by
  have HF := Lib.hid (fun w => finite8_yes x w hn)
  have HC := Lib.hid hC
  have HA := Lib.hid hA
  have HE := Lib.hid hE
  clear hn hC hA hE
  go_enter Tryd.func6, Tryd.ntmps6
  go_wp2_with (fail)
  refine (HF.out _).mono ?_
  rintro e w'' ⟨rfl, rfl⟩
  go_wp2_with (fail)
  refine HC.out.mono ?_
  rintro e w' ⟨rfl, hb⟩
  have HB := Lib.hid hb
  clear hb
  go_wp2_with (fail)
  go_loop [4, 14] (fun e i => ∃ k : Nat, k ≤ s.size ∧ i = .int .i64 k ∧ e = .bool (hasE s k)) (fun _ i => s.size - (intOf i).toNat)
  case atStart => exact ⟨0, Nat.zero_le _, rfl, rfl⟩
  case round =>
    obtain ⟨k, hk, rfl, rfl⟩ := hrel
    by_cases hlt : k < s.size
    · have HS := Lib.hid (hasE_succ s k hlt)
      by_cases he : hasE s k = true
      · go_wp2_with (fail)
        go_round
        case rel => exact ⟨k + 1, by omega, by go_num, by rw [HS.out, he]; rfl⟩
        case measure => simp [intOf]; omega
      · rw [Bool.not_eq_true] at he
        go_wp2_with (fail)
        go_round
        case rel => exact ⟨k + 1, by omega, by go_num, by rw [HS.out, he]; rfl⟩
        case measure => simp [intOf]; omega
    · obtain rfl : k = s.size := by omega
      have hE := HE.out
      go_wp2_with (fail)
      refine (HA.out _).mono ?_
      rintro e w2 ⟨rfl, rfl⟩
      go_wp2_with (fail)
      go_ret
      exact ⟨rfl, HB.out⟩
set_option maxRecDepth 100000 in
theorem w6_S (x y : Nat) (s : ByteArray) (w : World) (hs : s.size ≤ 1000) (hs0 : s.toList.isEmpty = false) (hn : x % 9223372036854775808 < 9218868437227405312)
    (hC : Calls Tryd.prog 14 #[.string ⟨#[]⟩, .float .f64 x, .int .i64 64] w fun e w' => e = .returned (.string s) ∧ Below w.heap.size w w')
    (hA : ∀ W, Calls Tryd.prog 21 #[.float .f64 x] W fun e w' => e = .returned (.float .f64 y) ∧ W = w') (o0 : FloatKind.f64.format.order y 0 = some .gt) (o1 : FloatKind.f64.format.order y 4517329193108106637 = some .lt) (o2 : FloatKind.f64.format.order y 4921056587992461136 = some .lt) (hE : hasE s s.size = true) :
    Calls Tryd.prog 6 #[.float .f64 x] w fun e w' => e = .returned (.bool true) ∧ Below w.heap.size w w' := by
  have HF := Lib.hid (fun w => finite8_yes x w hn)
  have HC := Lib.hid hC
  have HA := Lib.hid hA
  have HE := Lib.hid hE
  clear hn hC hA hE
  go_enter Tryd.func6, Tryd.ntmps6
  go_wp2_with (fail)
  refine (HF.out _).mono ?_
  rintro e w'' ⟨rfl, rfl⟩
  go_wp2_with (fail)
  refine HC.out.mono ?_
  rintro e w' ⟨rfl, hb⟩
  have HB := Lib.hid hb
  clear hb
  go_wp2_with (fail)
  go_loop [4, 14] (fun e i => ∃ k : Nat, k ≤ s.size ∧ i = .int .i64 k ∧ e = .bool (hasE s k)) (fun _ i => s.size - (intOf i).toNat)
  case atStart => exact ⟨0, Nat.zero_le _, rfl, rfl⟩
  case round =>
    obtain ⟨k, hk, rfl, rfl⟩ := hrel
    by_cases hlt : k < s.size
    · have HS := Lib.hid (hasE_succ s k hlt)
      by_cases he : hasE s k = true
      · go_wp2_with (fail)
        go_round
        case rel => exact ⟨k + 1, by omega, by go_num, by rw [HS.out, he]; rfl⟩
        case measure => simp [intOf]; omega
      · rw [Bool.not_eq_true] at he
        go_wp2_with (fail)
        go_round
        case rel => exact ⟨k + 1, by omega, by go_num, by rw [HS.out, he]; rfl⟩
        case measure => simp [intOf]; omega
    · obtain rfl : k = s.size := by omega
      have hE := HE.out
      go_wp2_with (fail)
      refine (HA.out _).mono ?_
      rintro e w2 ⟨rfl, rfl⟩
      go_wp2_with (fail)
      go_ret
      exact ⟨rfl, HB.out⟩
set_option maxRecDepth 100000 in
theorem w6_E6 (x y : Nat) (s : ByteArray) (w : World) (hs : s.size ≤ 1000) (hs0 : s.toList.isEmpty = false) (hn : x % 9223372036854775808 < 9218868437227405312)
    (hC : Calls Tryd.prog 14 #[.string ⟨#[]⟩, .float .f64 x, .int .i64 64] w fun e w' => e = .returned (.string s) ∧ Below w.heap.size w w')
    (hA : ∀ W, Calls Tryd.prog 21 #[.float .f64 x] W fun e w' => e = .returned (.float .f64 y) ∧ W = w') (o0 : FloatKind.f64.format.order y 0 = some .gt) (o1 : FloatKind.f64.format.order y 4517329193108106637 = some .eq) (o2 : FloatKind.f64.format.order y 4921056587992461136 = some .lt) (hE : hasE s s.size = false) :
    Calls Tryd.prog 6 #[.float .f64 x] w fun e w' => e = .returned (.bool true) ∧ Below w.heap.size w w' := by
  have HF := Lib.hid (fun w => finite8_yes x w hn)
  have HC := Lib.hid hC
  have HA := Lib.hid hA
  have HE := Lib.hid hE
  clear hn hC hA hE
  go_enter Tryd.func6, Tryd.ntmps6
  go_wp2_with (fail)
  refine (HF.out _).mono ?_
  rintro e w'' ⟨rfl, rfl⟩
  go_wp2_with (fail)
  refine HC.out.mono ?_
  rintro e w' ⟨rfl, hb⟩
  have HB := Lib.hid hb
  clear hb
  go_wp2_with (fail)
  go_loop [4, 14] (fun e i => ∃ k : Nat, k ≤ s.size ∧ i = .int .i64 k ∧ e = .bool (hasE s k)) (fun _ i => s.size - (intOf i).toNat)
  case atStart => exact ⟨0, Nat.zero_le _, rfl, rfl⟩
  case round =>
    obtain ⟨k, hk, rfl, rfl⟩ := hrel
    by_cases hlt : k < s.size
    · have HS := Lib.hid (hasE_succ s k hlt)
      by_cases he : hasE s k = true
      · go_wp2_with (fail)
        go_round
        case rel => exact ⟨k + 1, by omega, by go_num, by rw [HS.out, he]; rfl⟩
        case measure => simp [intOf]; omega
      · rw [Bool.not_eq_true] at he
        go_wp2_with (fail)
        go_round
        case rel => exact ⟨k + 1, by omega, by go_num, by rw [HS.out, he]; rfl⟩
        case measure => simp [intOf]; omega
    · obtain rfl : k = s.size := by omega
      have hE := HE.out
      go_wp2_with (fail)
      refine (HA.out _).mono ?_
      rintro e w2 ⟨rfl, rfl⟩
      go_wp2_with (fail)
      go_ret
      exact ⟨rfl, HB.out⟩
set_option maxRecDepth 100000 in
theorem w6_M (x y : Nat) (s : ByteArray) (w : World) (hs : s.size ≤ 1000) (hs0 : s.toList.isEmpty = false) (hn : x % 9223372036854775808 < 9218868437227405312)
    (hC : Calls Tryd.prog 14 #[.string ⟨#[]⟩, .float .f64 x, .int .i64 64] w fun e w' => e = .returned (.string s) ∧ Below w.heap.size w w')
    (hA : ∀ W, Calls Tryd.prog 21 #[.float .f64 x] W fun e w' => e = .returned (.float .f64 y) ∧ W = w') (o0 : FloatKind.f64.format.order y 0 = some .gt) (o1 : FloatKind.f64.format.order y 4517329193108106637 = some .gt) (o2 : FloatKind.f64.format.order y 4921056587992461136 = some .lt) (hE : hasE s s.size = false) :
    Calls Tryd.prog 6 #[.float .f64 x] w fun e w' => e = .returned (.bool true) ∧ Below w.heap.size w w' := by
  have HF := Lib.hid (fun w => finite8_yes x w hn)
  have HC := Lib.hid hC
  have HA := Lib.hid hA
  have HE := Lib.hid hE
  clear hn hC hA hE
  go_enter Tryd.func6, Tryd.ntmps6
  go_wp2_with (fail)
  refine (HF.out _).mono ?_
  rintro e w'' ⟨rfl, rfl⟩
  go_wp2_with (fail)
  refine HC.out.mono ?_
  rintro e w' ⟨rfl, hb⟩
  have HB := Lib.hid hb
  clear hb
  go_wp2_with (fail)
  go_loop [4, 14] (fun e i => ∃ k : Nat, k ≤ s.size ∧ i = .int .i64 k ∧ e = .bool (hasE s k)) (fun _ i => s.size - (intOf i).toNat)
  case atStart => exact ⟨0, Nat.zero_le _, rfl, rfl⟩
  case round =>
    obtain ⟨k, hk, rfl, rfl⟩ := hrel
    by_cases hlt : k < s.size
    · have HS := Lib.hid (hasE_succ s k hlt)
      by_cases he : hasE s k = true
      · go_wp2_with (fail)
        go_round
        case rel => exact ⟨k + 1, by omega, by go_num, by rw [HS.out, he]; rfl⟩
        case measure => simp [intOf]; omega
      · rw [Bool.not_eq_true] at he
        go_wp2_with (fail)
        go_round
        case rel => exact ⟨k + 1, by omega, by go_num, by rw [HS.out, he]; rfl⟩
        case measure => simp [intOf]; omega
    · obtain rfl : k = s.size := by omega
      have hE := HE.out
      go_wp2_with (fail)
      refine (HA.out _).mono ?_
      rintro e w2 ⟨rfl, rfl⟩
      go_wp2_with (fail)
      go_ret
      exact ⟨rfl, HB.out⟩
set_option maxRecDepth 100000 in
theorem w6_E21 (x y : Nat) (s : ByteArray) (w : World) (hs : s.size ≤ 1000) (hs0 : s.toList.isEmpty = false) (hn : x % 9223372036854775808 < 9218868437227405312)
    (hC : Calls Tryd.prog 14 #[.string ⟨#[]⟩, .float .f64 x, .int .i64 64] w fun e w' => e = .returned (.string s) ∧ Below w.heap.size w w')
    (hA : ∀ W, Calls Tryd.prog 21 #[.float .f64 x] W fun e w' => e = .returned (.float .f64 y) ∧ W = w') (o0 : FloatKind.f64.format.order y 0 = some .gt) (o1 : FloatKind.f64.format.order y 4517329193108106637 = some .gt) (o2 : FloatKind.f64.format.order y 4921056587992461136 = some .eq) (hE : hasE s s.size = true) :
    Calls Tryd.prog 6 #[.float .f64 x] w fun e w' => e = .returned (.bool true) ∧ Below w.heap.size w w' := by
  have HF := Lib.hid (fun w => finite8_yes x w hn)
  have HC := Lib.hid hC
  have HA := Lib.hid hA
  have HE := Lib.hid hE
  clear hn hC hA hE
  go_enter Tryd.func6, Tryd.ntmps6
  go_wp2_with (fail)
  refine (HF.out _).mono ?_
  rintro e w'' ⟨rfl, rfl⟩
  go_wp2_with (fail)
  refine HC.out.mono ?_
  rintro e w' ⟨rfl, hb⟩
  have HB := Lib.hid hb
  clear hb
  go_wp2_with (fail)
  go_loop [4, 14] (fun e i => ∃ k : Nat, k ≤ s.size ∧ i = .int .i64 k ∧ e = .bool (hasE s k)) (fun _ i => s.size - (intOf i).toNat)
  case atStart => exact ⟨0, Nat.zero_le _, rfl, rfl⟩
  case round =>
    obtain ⟨k, hk, rfl, rfl⟩ := hrel
    by_cases hlt : k < s.size
    · have HS := Lib.hid (hasE_succ s k hlt)
      by_cases he : hasE s k = true
      · go_wp2_with (fail)
        go_round
        case rel => exact ⟨k + 1, by omega, by go_num, by rw [HS.out, he]; rfl⟩
        case measure => simp [intOf]; omega
      · rw [Bool.not_eq_true] at he
        go_wp2_with (fail)
        go_round
        case rel => exact ⟨k + 1, by omega, by go_num, by rw [HS.out, he]; rfl⟩
        case measure => simp [intOf]; omega
    · obtain rfl : k = s.size := by omega
      have hE := HE.out
      go_wp2_with (fail)
      refine (HA.out _).mono ?_
      rintro e w2 ⟨rfl, rfl⟩
      go_wp2_with (fail)
      go_ret
      exact ⟨rfl, HB.out⟩
set_option maxRecDepth 100000 in
theorem w6_G (x y : Nat) (s : ByteArray) (w : World) (hs : s.size ≤ 1000) (hs0 : s.toList.isEmpty = false) (hn : x % 9223372036854775808 < 9218868437227405312)
    (hC : Calls Tryd.prog 14 #[.string ⟨#[]⟩, .float .f64 x, .int .i64 64] w fun e w' => e = .returned (.string s) ∧ Below w.heap.size w w')
    (hA : ∀ W, Calls Tryd.prog 21 #[.float .f64 x] W fun e w' => e = .returned (.float .f64 y) ∧ W = w') (o0 : FloatKind.f64.format.order y 0 = some .gt) (o1 : FloatKind.f64.format.order y 4517329193108106637 = some .gt) (o2 : FloatKind.f64.format.order y 4921056587992461136 = some .gt) (hE : hasE s s.size = true) :
    Calls Tryd.prog 6 #[.float .f64 x] w fun e w' => e = .returned (.bool true) ∧ Below w.heap.size w w' := by
  have HF := Lib.hid (fun w => finite8_yes x w hn)
  have HC := Lib.hid hC
  have HA := Lib.hid hA
  have HE := Lib.hid hE
  clear hn hC hA hE
  go_enter Tryd.func6, Tryd.ntmps6
  go_wp2_with (fail)
  refine (HF.out _).mono ?_
  rintro e w'' ⟨rfl, rfl⟩
  go_wp2_with (fail)
  refine HC.out.mono ?_
  rintro e w' ⟨rfl, hb⟩
  have HB := Lib.hid hb
  clear hb
  go_wp2_with (fail)
  go_loop [4, 14] (fun e i => ∃ k : Nat, k ≤ s.size ∧ i = .int .i64 k ∧ e = .bool (hasE s k)) (fun _ i => s.size - (intOf i).toNat)
  case atStart => exact ⟨0, Nat.zero_le _, rfl, rfl⟩
  case round =>
    obtain ⟨k, hk, rfl, rfl⟩ := hrel
    by_cases hlt : k < s.size
    · have HS := Lib.hid (hasE_succ s k hlt)
      by_cases he : hasE s k = true
      · go_wp2_with (fail)
        go_round
        case rel => exact ⟨k + 1, by omega, by go_num, by rw [HS.out, he]; rfl⟩
        case measure => simp [intOf]; omega
      · rw [Bool.not_eq_true] at he
        go_wp2_with (fail)
        go_round
        case rel => exact ⟨k + 1, by omega, by go_num, by rw [HS.out, he]; rfl⟩
        case measure => simp [intOf]; omega
    · obtain rfl : k = s.size := by omega
      have hE := HE.out
      go_wp2_with (fail)
      refine (HA.out _).mono ?_
      rintro e w2 ⟨rfl, rfl⟩
      go_wp2_with (fail)
      go_ret
      exact ⟨rfl, HB.out⟩

theorem digits_noE {l : List Int} (h : ∀ b ∈ l, 48 ≤ b ∧ b ≤ 57) : l.any (· == 101) = false := by
  rw [List.any_eq_false]
  intro b hb
  have := h b hb
  rw [beq_iff_eq]
  omega
theorem laidL_E (ds : List Int) (n : Int) (hd : ∀ b ∈ ds, 48 ≤ b ∧ b ≤ 57) : (laidL ds n).any (· == 101) = !decide (-6 < n ∧ n ≤ 21) := by
  have z : ∀ k : Nat, (List.replicate k (48 : Int)).any (· == 101) = false := fun k => digits_noE fun b hb => by
    have := (List.mem_replicate.1 hb).2
    omega
  have d0 := digits_noE hd
  have d1 : ∀ k, (ds.take k).any (· == 101) = false := fun k => digits_noE fun b hb => hd b (List.mem_of_mem_take hb)
  have d2 : ∀ k, (ds.drop k).any (· == 101) = false := fun k => digits_noE fun b hb => hd b (List.mem_of_mem_drop hb)
  unfold laidL
  by_cases c1 : (ds.length : Int) ≤ n ∧ n ≤ 21
  · rw [if_pos c1, decide_eq_true (by omega), List.any_append, d0, z]; rfl
  · rw [if_neg c1]
    by_cases c2 : 0 < n ∧ n ≤ 21
    · rw [if_pos c2, decide_eq_true (by omega), List.any_append, List.any_append, d1, d2]; rfl
    · rw [if_neg c2]
      by_cases c3 : -6 < n ∧ n ≤ 0
      · rw [if_pos c3, decide_eq_true (by omega), List.any_append, List.any_append, z, d0]; rfl
      · rw [if_neg c3, decide_eq_false (by omega), List.any_append]
        have : ((if n - 1 < 0 then [101, 45] ++ dec (1 - n).toNat else [101, 43] ++ dec (n - 1).toNat) : List Int).any (· == 101) = true := by
          split <;> simp
        rw [this]
        simp

theorem laidL_bytes (ds : List Int) (n : Int) (hd : ∀ b ∈ ds, 48 ≤ b ∧ b ≤ 57) : ∀ b ∈ laidL ds n, 0 ≤ b ∧ b < 256 := by
  have hd' : ∀ b ∈ ds, 0 ≤ b ∧ b < 256 := fun b hb => by have := hd b hb; omega
  have hdec : ∀ k, ∀ b ∈ dec k, 0 ≤ b ∧ b < 256 := fun k b hb => by have := dec_digit k b hb; omega
  intro b hb
  unfold laidL at hb
  split at hb
  · rcases List.mem_append.1 hb with hb | hb
    · exact hd' b hb
    · have := (List.mem_replicate.1 hb).2; omega
  · split at hb
    · rcases List.mem_append.1 hb with hb | hb
      · rcases List.mem_append.1 hb with hb | hb
        · exact hd' b (List.mem_of_mem_take hb)
        · simp at hb; omega
      · exact hd' b (List.mem_of_mem_drop hb)
    · split at hb
      · rcases List.mem_append.1 hb with hb | hb
        · rcases List.mem_append.1 hb with hb | hb
          · simp at hb; omega
          · have := (List.mem_replicate.1 hb).2; omega
        · exact hd' b hb
      · rcases List.mem_append.1 hb with hb | hb
        · split at hb
          · exact hd' b hb
          · rcases List.mem_append.1 hb with hb | hb
            · rcases List.mem_append.1 hb with hb | hb
              · exact hd' b (List.mem_of_mem_take hb)
              · simp at hb; omega
            · exact hd' b (List.mem_of_mem_drop hb)
        · split at hb
          · rcases List.mem_append.1 hb with hb | hb
            · simp at hb; omega
            · exact hdec _ b hb
          · rcases List.mem_append.1 hb with hb | hb
            · simp at hb; omega
            · exact hdec _ b hb
theorem NumText.bytes {f c : Nat} {l : List Int} (h : NumText f c l) : ∀ b ∈ l, 0 ≤ b ∧ b < 256 := by
  rcases h with ⟨_, rfl⟩ | ⟨_, n, k, y, _, _, rfl⟩
  · intro b hb; simp at hb; omega
  · exact laidL_bytes _ _ (dec_digit _)
theorem sgn_bytes {sg : Bool} {l : List Int} (h : ∀ b ∈ l, 0 ≤ b ∧ b < 256) : ∀ b ∈ (if sg = true then [45] else []) ++ l, (0 : Int) ≤ b ∧ b < 256 := by
  intro b hb
  rcases List.mem_append.1 hb with hb | hb
  · split at hb
    · simp at hb; omega
    · cases hb
  · exact h b hb
theorem isEmpty_of {s : ByteArray} (h : 0 < s.size) : s.toList.isEmpty = false := by
  have : s.toList.length = s.size := by rw [ByteArray.toList_eq]; simp
  cases e : s.toList with
  | nil => rw [e] at this; simp at this; omega
  | cons => rfl
theorem hasE_all (l : List Int) (hl : ∀ b ∈ l, 0 ≤ b ∧ b < 256) : hasE (strOfNums l) (strOfNums l).size = l.any (· == 101) := by
  unfold hasE
  rw [List.take_of_length_le (by rw [bytesOf_length]; exact Nat.le_refl _), bytesOf_strOfNums hl]

set_option maxRecDepth 100000 in
theorem w6C (x : Nat) (w : World) (hn : 9218868437227405312 ≤ x % 9223372036854775808) : Calls Tryd.prog 6 #[.float .f64 x] w fun e w' => e = .returned (.bool true) ∧ Below w.heap.size w w' := by
  have HF := Lib.hid (fun w => finite8_no x w hn)
  clear hn
  go_enter Tryd.func6, Tryd.ntmps6
  go_wp2_with (fail)
  refine (HF.out _).mono ?_
  rintro e w'' ⟨rfl, rfl⟩
  go_wp2_with (fail)
  go_ret
  exact ⟨rfl, (Below.refl _ _).drew⟩

theorem w6 (x : Nat) (w : World) (hx : x < 18446744073709551616) (hR : Rdy w) : Calls Tryd.prog 6 #[.float .f64 x] w fun e w' => e = .returned (.bool true) ∧ Below w.heap.size w w' := by
  by_cases h1 : 9218868437227405312 ≤ x % 9223372036854775808
  · exact w6C x w h1
  · obtain ⟨c, hc⟩ : ∃ c, c = x % 9223372036854775808 := ⟨_, rfl⟩
    obtain ⟨sg, hsg⟩ : ∃ sg, ((x : Int) / 9223372036854775808 != 0) = sg := ⟨_, rfl⟩
    have hc1 : c < 9218868437227405312 := by omega
    obtain ⟨l, hl, hC⟩ := textE x c sg w hx hc hc1 hsg hR
    obtain ⟨b, t, hbt, hb1, hb2⟩ := hl.head
    have hb := sgn_bytes (sg := sg) hl.bytes
    have hA : ∀ W, Calls Tryd.prog 21 #[.float .f64 x] W fun e w' => e = .returned (.float .f64 c) ∧ W = w' := fun W => by
      refine abs_calls x c W ?_
      have e5 := u64_andNot_nat x 9223372036854775808 hx (by decide)
      have e6 : x &&& (18446744073709551615 - 9223372036854775808) = x % 2 ^ 63 := Nat.and_two_pow_sub_one_eq_mod x 63
      rw [e6] at e5
      have e7 : x % 2 ^ 63 = c := by omega
      rw [e7] at e5
      exact e5
    have hE : hasE (strOfNums ((if sg = true then [45] else []) ++ l)) (strOfNums ((if sg = true then [45] else []) ++ l)).size = l.any (· == 101) := by
      rw [hasE_all _ hb, List.any_append]
      cases sg <;> rfl
    have hlen := hl.len
    have hsize : (strOfNums ((if sg = true then [45] else []) ++ l)).size ≤ 1000 := by
      rw [strOfNums_size, List.length_append]
      have : (if sg = true then [45] else [] : List Int).length ≤ 1 := by split <;> simp
      omega
    have hne : (strOfNums ((if sg = true then [45] else []) ++ l)).toList.isEmpty = false := by
      refine isEmpty_of ?_
      rw [strOfNums_size, List.length_append, hbt, List.length_cons]
      omega
    have hn : x % 9223372036854775808 < 9218868437227405312 := by omega
    have o0 := order64 c 0 hc1 (by decide)
    have o1 := order64 c 4517329193108106637 hc1 (by decide)
    have o2 := order64 c 4921056587992461136 hc1 (by decide)
    by_cases h0 : c = 0
    · have hf : l.any (· == 101) = false := by
        rcases hl with ⟨_, rfl⟩ | ⟨h, _⟩
        · rfl
        · omega
      rw [hf] at hE
      exact w6_Z x c _ w hsize hne hn hC hA (o0.2.1 h0) (o1.1 (by omega)) (o2.1 (by omega)) hE
    · obtain ⟨n, k, y, hsh, hy0, hlaid⟩ : ∃ (n : Int) (k y : Nat), ShAt 52 c 400 n k y ∧ 0 < y ∧ l = laidL (dec (cutz y)) (n + ((dec y).length : Int) - (k : Int)) := by
        rcases hl with ⟨h, _⟩ | ⟨_, h⟩
        · omega
        · exact h
      have pl := place64 rfl hsh hy0
      have hlE := laidL_E (dec (cutz y)) (n + ((dec y).length : Int) - (k : Int)) (dec_digit _)
      rw [← hlaid] at hlE
      generalize n + ((dec y).length : Int) - (k : Int) = dp at *
      have g0 := o0.2.2 (by omega)
      rcases Nat.lt_trichotomy c 4517329193108106637 with a | a | a
      · have := pl.1.2 a
        rw [hlE, decide_eq_false (by omega)] at hE
        exact w6_S x c _ w hsize hne hn hC hA g0 (o1.1 a) (o2.1 (by omega)) hE
      · have p1 : ¬ dp ≤ -6 := fun h => by have := pl.1.1 h; omega
        have p2 := pl.2.2 (by omega)
        rw [hlE, decide_eq_true (by omega)] at hE
        exact w6_E6 x c _ w hsize hne hn hC hA g0 (o1.2.1 a) (o2.1 (by omega)) hE
      · have p1 : ¬ dp ≤ -6 := fun h => by have := pl.1.1 h; omega
        rcases Nat.lt_trichotomy c 4921056587992461136 with d | d | d
        · have p2 := pl.2.2 d
          rw [hlE, decide_eq_true (by omega)] at hE
          exact w6_M x c _ w hsize hne hn hC hA g0 (o1.2.2 a) (o2.1 d) hE
        · have p2 : ¬ dp ≤ 21 := fun h => by have := pl.2.1 h; omega
          rw [hlE, decide_eq_false (by omega)] at hE
          exact w6_E21 x c _ w hsize hne hn hC hA g0 (o1.2.2 a) (o2.2.1 d) hE
        · have p2 : ¬ dp ≤ 21 := fun h => by have := pl.2.1 h; omega
          rw [hlE, decide_eq_false (by omega)] at hE
          exact w6_G x c _ w hsize hne hn hC hA g0 (o1.2.2 a) (o2.2.2 d) hE
end Go.Proofs.YtiopeaponffmdaaDoor.PAll
-- YtiopeaponffmdaaDoorLFnFloatShape
namespace Go.Proofs.YtiopeaponffmdaaDoor
open Go Go.ChangeShapes Go.WideShapes Go.ChangeAt Go.RowKit Go.ChangeMaps

theorem varsOkFnFloatShape : varsRowed Tryd.prog Rows.fnFloatShapeSpec.vars = true := by kernel_rfl
set_option maxRecDepth 100000 in
theorem liftedFnFloatShape (os : Os) (started : os.Started) (H : Type) (enc : TypeId × Value → H) :
    ReturnsInHanded {} Tryd.checked os 6 .any (fun w args => (Rows.fnFloatShapeSpec.pre enc Tryd.prog Tryd.f6 Rows.fnFloatShapeRow.domain false w args ∧ laidMetH Tryd.prog Rows.fnFloatShapeRow.laid w) ∧ sizedMet enc Tryd.prog Tryd.f6 (OpenSpec.ofChange Rows.fnFloatShapeSpec) false w args)
      (Rows.fnFloatShapeSpec.post enc Tryd.prog Tryd.f6 false true false false) := by
  refine returnsInHanded_of_change_and (C := Tryd.checked) (X := fun w _ => laidMetH Tryd.prog Rows.fnFloatShapeRow.laid w) (fun _ _ _ hh h => h.of_heap hh) own started (by kernel_rfl) Tryd.func6
    (ChangeSpec.witness_shaped (enc := enc) (C := Tryd.checked) (os := os) (X := fun w _ => laidMetH Tryd.prog Rows.fnFloatShapeRow.laid w) false (World.laidAll Tryd.prog os Rows.fnFloatShapeRow.laid) #[.float .f64 0] 8 (World.laidAll_os _ _ _)
      (World.shaped_of_ZipB (by kernel_rfl) (by kernel_rfl)) (by kernel_rfl) (by kernel_rfl) (by kernel_rfl)
      (by rw [MakeChecks.laidMetH_plain _ _ _ (by kernel_rfl)]; exact laidMet_laidAll _ (by kernel_rfl) (by kernel_rfl))) ?_
  intro W base args ds gs before hval0 hW hc _ hL _
  have hval : ∀ (j : Nat) t v, Tryd.f6.params[j]? = some t → args[j]? = some v → Value.okWide Tryd.prog W .any base t v := hval0
  have hW' := hW
  obtain ⟨p, q, hA0, hV, rfl, _, _⟩ := hW
  have hA : DataW.TrodAll enc Tryd.prog W 0 (fun _ => true) true Tryd.f6.params.toList args.toList ds p := hA0
  rw [Tryd.params6] at hA hval
  obtain ⟨v0, d0, rfl, rfl, h0⟩ := trodAll_one hA
  obtain ⟨x0, rfl, rfl, rfl, wx0⟩ := open_float Tryd.underlying22 (hval 0 22 v0 rfl rfl) h0
  obtain ⟨rfl, rfl⟩ := trodVars_none hV
  rw [MakeChecks.laidMetH_plain _ _ _ (by kernel_rfl)] at hL
  have hR : PAll.Rdy W := rdy_of hL (by simp [Rows.fnFloatShapeRow]) (by simp [Rows.fnFloatShapeRow])
  have fin : Calls Tryd.prog 6 #[.float .f64 x0] W fun e w' => e = .returned (.bool true) ∧ Below W.heap.size W w' := by
    exact PAll.w6 x0 W (by have := wx0; simp [Lit.wf] at this; omega) hR
  refine fin.mono fun e W' ⟨he, hb⟩ => ?_
  subst he
  exact ⟨_, rfl, _, _, _, [], [], _, hW', trodAll_mk1 (shut_bool Tryd.underlying4 true), trodAll_mk1 (shut_float Tryd.underlying22 wx0), Below.trodVars laidOut hb varsOkFnFloatShape hV, hb.frame _, fun h => by cases h⟩

theorem fnFloatShape_holds : Rows.FnFloatShapeSaid :=
  OpenClaim.holds_of_wide 6 Tryd.f6 rfl rfl rfl rfl rfl rfl rfl ⟨rfl, rfl, rfl, rfl, rfl⟩ rfl rfl rfl rfl rfl (by kernel_rfl) Tryd.func6 (by kernel_rfl)
    (of_decide_eq_true (by kernel_rfl)) (by unfold Func.isWrapper; first | (rw [if_pos (by decide +kernel)]; kernel_rfl) | (rw [if_neg (by decide +kernel)]; exact ⟨rfl, rfl⟩))
    (fun os started H enc _ => liftedFnFloatShape os started H enc)
theorem fnFloatShape_card : Rows.FnFloatShapeCardSaid :=
  Claim7.holds_tied_plain_at .later [] [.data, .data, .data, .data, .pinned, .pinned] true (true, "de90ebed450df59327ce393381191af0e1580690049105112f683f9df6acb66c") false
    fnFloatShape_holds (fun _ h => by cases h) (by kernel_rfl) (fun _ h => by cases h) fnFloatShape_row_tie rfl ⟨rfl, rfl⟩ (by kernel_rfl) rfl
    (fun f fn hf hfn => by
      obtain rfl : f = 6 := Option.some.inj ((show Tryd.prog.funcNamed "loop.example/pub-g01450/laws.FnFloatShape" = some 6 by kernel_rfl).symm.trans hf) |>.symm
      obtain rfl : fn = Tryd.f6 := (Option.some.inj (Tryd.func6.symm.trans hfn)).symm
      exact ⟨by kernel_rfl, fun j t ht => by
        rw [Tryd.params6] at ht
        have h4 : t = 22 := by
          rcases j with _ | j
          · simp at ht; subst ht; simp
          · simp at ht
        rcases h4 with rfl
        · exact (show Tryd.prog.wantsStandIn 22 = false by kernel_rfl)⟩)
    (by kernel_rfl)
end Go.Proofs.YtiopeaponffmdaaDoor
