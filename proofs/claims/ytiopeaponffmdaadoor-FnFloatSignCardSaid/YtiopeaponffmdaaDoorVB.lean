/- FnFloatSign, the tied card: the law returns true, whatever the input. Conditions: the listed package-level variables hold what the program's text lays in them (the card ties them). -/
import Derived.Test.YtiopeaponffmdaaDoorCards
import Derived.Test.YtiopeaponffmdaaDoorTie
import Derived.SevenTiedAt
import Derived.Test.YtiopeaponffmdaaDoorVA1
import Derived.Test.YtiopeaponffmdaaDoorVA2
import Derived.Test.YtiopeaponffmdaaDoorVA3
import Derived.Test.YtiopeaponffmdaaDoorVA4
import Derived.Test.YtiopeaponffmdaaDoorVA5
import Derived.Test.YtiopeaponffmdaaDoorVA6
import Derived.Test.YtiopeaponffmdaaDoorVA7
import Derived.Test.YtiopeaponffmdaaDoorVA8
import Derived.Test.YtiopeaponffmdaaDoorVA9
import Derived.Test.YtiopeaponffmdaaDoorVA10
import Derived.Test.YtiopeaponffmdaaDoorVA11
import Derived.Test.YtiopeaponffmdaaDoorVA12
import Derived.Test.YtiopeaponffmdaaDoorVA13
import Derived.Test.YtiopeaponffmdaaDoorVA14
import Derived.Test.YtiopeaponffmdaaDoorVA15
import Derived.Test.YtiopeaponffmdaaDoorVA16
import Derived.Test.YtiopeaponffmdaaDoorVA
set_option linter.unusedVariables false
set_option linter.unusedSimpArgs false
-- YtiopeaponffmdaaDoorMg
namespace Go.Proofs.YtiopeaponffmdaaDoor.PAll
open Go.RowKit Go.Proofs.YtiopeaponffmdaaDoorW.PrintWords Go.Proofs.YtiopeaponffmdaaDoorW.PrintLast Go.Proofs.YtiopeaponffmdaaDoorW.PrintMore
open Fm

theorem Ug_pos (f : Nat) (n : Int) (a k : Nat) : 0 < Ug f n a k := Nat.mul_pos (Nat.two_pow_pos _) (Nat.pow_pos (by decide))
end Go.Proofs.YtiopeaponffmdaaDoor.PAll
-- YtiopeaponffmdaaDoorFr
namespace Go.Proofs.YtiopeaponffmdaaDoor.PAll
open Go.RowKit Go.Proofs.YtiopeaponffmdaaDoorW.PrintWords Go.Proofs.YtiopeaponffmdaaDoorW.PrintLast Go.Proofs.YtiopeaponffmdaaDoorW.PrintMore
open Fm

/-- the text of a finite number without its sign -/
def NumText (f c : Nat) (l : List Int) : Prop := (c = 0 ∧ l = [48]) ∨ (1 ≤ c ∧ ∃ (n : Int) (k y : Nat), ShAt f c 400 n k y ∧ 0 < y ∧ l = laidL (dec (cutz y)) (n + ((dec y).length : Int) - (k : Int)))

theorem text64F (tt : ByteArray) (x c : Nat) (sg : Bool) (w : World) (hto : tt.size ≤ 4000000000) (hx : x < 18446744073709551616) (hc : c = x % 9223372036854775808) (hc1 : c < 9218868437227405312)
    (hsg : ((x : Int) / 9223372036854775808 != 0) = sg) (hR : Rdy w) :
    ∃ l : List Int, NumText 52 c l ∧
      Calls Tryd.prog 14 #[.string tt, .float .f64 x, .int .i64 64] w fun e w' => e = .returned (.string (tt ++ strOfNums ((if sg = true then [45] else []) ++ l))) ∧ Below w.heap.size w w' := by
  by_cases h0 : c = 0
  · subst h0
    refine ⟨[48], .inl ⟨rfl, rfl⟩, (text64Z tt x sg w hto hx hc hsg).mono fun e w' ⟨h1, h2⟩ => ⟨?_, h2⟩⟩
    rw [h1, ← str_append, strOfNums_bytesOf]
  · obtain ⟨q, m, P, M, L, D, pp, N⟩ := n64 c 0 (by omega) hc1
    have hS := N.hS
    obtain ⟨n, k, y, hsh, hy, hy0, hpl⟩ := hS.sh
    refine ⟨_, .inr ⟨by omega, n, k, y, hsh, hy0, rfl⟩, (text64N tt x c 0 sg w hto hx hc (by omega) hc1 N hsg hR).mono fun e w' ⟨h1, h2⟩ => ⟨?_, h2⟩⟩
    rw [h1, hy, hpl, ← str_append, strOfNums_bytesOf]

/-- the digits are those of the first grid on which a number is found: they are one text alone -/
theorem ShAt.unique {f c a : Nat} {n n' : Int} {k k' x x' : Nat} (h : ShAt f c a n k x) (h' : ShAt f c a n' k' x') : n = n' ∧ k = k' ∧ x = x' := by
  have hn : n = n' := by
    have a1 := h.low
    have a2 := h.high
    have b1 := h'.low
    have b2 := h'.high
    rcases Int.lt_trichotomy n n' with hl | he | hg
    · have := Ug_anti f n n' a 0 1 (by omega)
      omega
    · exact he
    · have := Ug_anti f n' n a 0 1 (by omega)
      omega
  subst hn
  have hk : k = k' := by
    rcases Nat.lt_trichotomy k k' with hl | he | hg
    · have := h'.none k h.k1 hl
      rw [h.some] at this; cases this
    · exact he
    · have := h.none k' h'.k1 hg
      rw [h'.some] at this; cases this
  subst hk
  have := h.some
  rw [h'.some] at this
  exact ⟨rfl, rfl, (Option.some.inj this).symm⟩
theorem NumText.unique {f c : Nat} {l l' : List Int} (h : NumText f c l) (h' : NumText f c l') : l = l' := by
  rcases h with ⟨e, h⟩ | ⟨e, n, k, y, h1, h2, h⟩
  · rcases h' with ⟨_, h'⟩ | ⟨e', _⟩
    · rw [h, h']
    · omega
  · rcases h' with ⟨e', _⟩ | ⟨e', n', k', y', h1', h2', h'⟩
    · omega
    · obtain ⟨rfl, rfl, rfl⟩ := h1.unique h1'
      rw [h, h']

theorem laidL_head (ds : List Int) (n : Int) (h1 : 1 ≤ ds.length) (hd : ∀ b ∈ ds, 48 ≤ b ∧ b ≤ 57) : ∃ b t, laidL ds n = b :: t ∧ 48 ≤ b ∧ b ≤ 57 := by
  obtain ⟨b, t, rfl⟩ : ∃ b t, ds = b :: t := by
    cases ds with
    | nil => simp at h1
    | cons b t => exact ⟨b, t, rfl⟩
  have hb := hd b (by simp)
  unfold laidL
  split
  · exact ⟨b, _, rfl, hb⟩
  · split
    · rename_i h
      obtain ⟨m, hm⟩ : ∃ m, n.toNat = m + 1 := ⟨n.toNat - 1, by omega⟩
      rw [hm, List.take_succ_cons]
      exact ⟨b, _, rfl, hb⟩
    · split
      · exact ⟨48, _, rfl, by omega⟩
      · split
        · exact ⟨b, _, rfl, hb⟩
        · exact ⟨b, _, rfl, hb⟩
theorem NumText.head {f c : Nat} {l : List Int} (h : NumText f c l) : ∃ b t, l = b :: t ∧ 48 ≤ b ∧ b ≤ 57 := by
  rcases h with ⟨_, rfl⟩ | ⟨_, n, k, y, _, _, rfl⟩
  · exact ⟨48, [], rfl, by omega⟩
  · exact laidL_head _ _ (dec_length_pos _) (dec_digit _)
theorem cutz_len (D : Nat) : (dec (cutz D)).length ≤ (dec D).length := by
  induction D using Nat.strongRecOn with
  | ind D ih =>
    by_cases h : 10 ≤ D ∧ D % 10 = 0
    · rw [cutz_pos h.1 h.2, dec_ge h.1, List.length_append]
      have := ih (D / 10) (by omega)
      omega
    · rw [cutz_neg h]; exact Nat.le_refl _
/-- the digits fit the grid -/
theorem ShAt.upper {f c a : Nat} {n : Int} {k x : Nat} (h : ShAt f c a n k x) (ha : 400 ≤ a) : x ≤ 10 ^ k := by
  have hr := h.some
  have hU : ∀ i : Nat, i < 17 → Ug f n a i = 10 * Ug f n a (i + 1) := fun i hi => Ug_succ f n a i (by have := h.n0; omega)
  have hm := unit_mul (Ug f n a) hU 0 k (by have := h.k2; omega)
  rw [Nat.zero_add] at hm
  have hq : (T2 f c * 2 ^ 1 * 10 ^ a) / Ug f n a k < 10 ^ k := by
    rw [Nat.div_lt_iff_lt_mul (Ug_pos _ _ _ _), ← hm]
    exact h.high
  unfold refStep at hr
  dsimp only at hr
  split at hr
  · have := Option.some.inj hr
    rw [← this]
    split <;> omega
  · cases hr
theorem NumText.len {f c : Nat} {l : List Int} (h : NumText f c l) : l.length ≤ 100 := by
  rcases h with ⟨_, rfl⟩ | ⟨_, n, k, y, h, h0, rfl⟩
  · decide
  · have hu := h.upper (by decide)
    have hk := h.k2
    have h1 : y < 10 ^ (17 + 1) := Nat.lt_of_le_of_lt hu (Nat.pow_lt_pow_right (by decide) (by omega))
    have h2 := dec_length_le 17 y h1
    have h3 := cutz_len y
    have n0 := h.n0
    have n1 := h.n1
    have k1 := h.k1
    exact laidL_len _ _ (by omega) (by omega) (by omega)
end Go.Proofs.YtiopeaponffmdaaDoor.PAll
-- YtiopeaponffmdaaDoorFs
namespace Go.Proofs.YtiopeaponffmdaaDoor.PAll
open Go.RowKit Go.Proofs.YtiopeaponffmdaaDoorW.PrintWords Go.Proofs.YtiopeaponffmdaaDoorW.PrintLast Go.Proofs.YtiopeaponffmdaaDoorW.PrintMore
open Fm
set_option maxRecDepth 100000 in
theorem w7C (x : Nat) (w : World) (hn : 9218868437227405312 ≤ x % 9223372036854775808) : Calls Tryd.prog 7 #[.float .f64 x] w fun e w' => e = .returned (.bool true) ∧ Below w.heap.size w w' := by
  have HF := Lib.hid (fun w => finite8_no x w hn)
  clear hn
  go_enter Tryd.func7, Tryd.ntmps7
  go_wp2_with (fail)
  refine (HF.out _).mono ?_
  rintro e w'' ⟨rfl, rfl⟩
  go_wp2_with (fail)
  go_ret
  exact ⟨rfl, (Below.refl _ _).drew⟩
set_option maxRecDepth 100000 in
theorem w7N (x : Nat) (w : World) (hn : x % 9223372036854775808 < 9218868437227405312) (hx : x < 18446744073709551616) (hs : 9223372036854775808 ≤ x) : Calls Tryd.prog 7 #[.float .f64 x] w fun e w' => e = .returned (.bool true) ∧ Below w.heap.size w w' := by
  have HF := Lib.hid (fun w => finite8_yes x w hn)
  have r13 := run13
  have h1 : ((x : Int) / 9223372036854775808 == 1) = true := by rw [beq_iff_eq]; omega
  clear hn hs hx
  go_enter Tryd.func7, Tryd.ntmps7
  go_wp2_with (fail)
  refine (HF.out _).mono ?_
  rintro e w'' ⟨rfl, rfl⟩
  go_wp2_with (fail)
  go_ret
  exact ⟨rfl, Below.refl _ _⟩
theorem empty_app (s : ByteArray) : (⟨#[]⟩ : ByteArray) ++ s = s := by
  refine bytes_eq ?_
  rw [ByteArray.data_append, Array.toList_append]
  rfl
/-- the text alone -/
theorem textE (x c : Nat) (sg : Bool) (w : World) (hx : x < 18446744073709551616) (hc : c = x % 9223372036854775808) (hc1 : c < 9218868437227405312)
    (hsg : ((x : Int) / 9223372036854775808 != 0) = sg) (hR : Rdy w) :
    ∃ l : List Int, NumText 52 c l ∧
      Calls Tryd.prog 14 #[.string ⟨#[]⟩, .float .f64 x, .int .i64 64] w fun e w' => e = .returned (.string (strOfNums ((if sg = true then [45] else []) ++ l))) ∧ Below w.heap.size w w' := by
  obtain ⟨l, hl, hC⟩ := text64F ⟨#[]⟩ x c sg w (by decide) hx hc hc1 hsg hR
  exact ⟨l, hl, hC.mono fun e w' ⟨h1, h2⟩ => ⟨by rw [h1, empty_app], h2⟩⟩
theorem neg_run (x y : Nat) (hx : x < 9223372036854775808) (hy : y = x + 9223372036854775808) (w : World) : (Op.unary UnOp.neg (Value.float FloatKind.f64 x)).run Tryd.prog w = .ok (.float .f64 y) w := by
  have e : x ^^^ 2 ^ 63 = y := by
    have h := Nat.two_pow_add_eq_or_of_lt (b := x) (i := 63) (by omega) 1
    have h2 : x ^^^ 2 ^ 63 = 2 ^ 63 ||| x := by
      apply Nat.eq_of_testBit_eq
      intro i
      rw [Nat.testBit_xor, Nat.testBit_or, Nat.testBit_two_pow]
      by_cases hi : 63 = i
      · subst hi
        rw [Nat.testBit_lt_two_pow (by omega)]
        simp
      · simp [hi]
    rw [h2]
    rw [Nat.mul_one] at h
    rw [← h, hy]
    omega
  have e2 : Op.negFloat FloatKind.f64 x = y := e
  simp [Op.unary, e2]
theorem str_head (b : Int) (t : List Int) (hb1 : 48 ≤ b) (hb2 : b ≤ 57) : ∃ h : 0 < (strOfNums (b :: t)).size, (((strOfNums (b :: t))[0]'h).toNat : Int) = b := by
  refine ⟨by rw [strOfNums_size]; simp, ?_⟩
  show ((UInt8.ofNat b.toNat).toNat : Int) = b
  rw [UInt8.toNat_ofNat']
  omega
set_option maxRecDepth 100000 in
theorem w7P (x : Nat) (w : World) (hn : x < 9218868437227405312) (hR : Rdy w) : Calls Tryd.prog 7 #[.float .f64 x] w fun e w' => e = .returned (.bool true) ∧ Below w.heap.size w w' := by
  have HF := Lib.hid (fun w => finite8_yes x w (show x % 9223372036854775808 < 9218868437227405312 by omega))
  have r13 := run13
  have h1 : ((x : Int) / 9223372036854775808 == 1) = false := by rw [beq_eq_false_iff_ne]; omega
  obtain ⟨l, hl, hC⟩ := textE x x false w (by omega) (by omega) hn (by rw [bne_eq_false_iff_eq]; omega) hR
  obtain ⟨b, t, hbt, hb1, hb2⟩ := hl.head
  obtain ⟨s, hs⟩ : ∃ s, s = strOfNums l := ⟨_, rfl⟩
  obtain ⟨h0, h2⟩ := str_head b t hb1 hb2
  rw [← hbt, ← hs] at h0
  have hbb : ((s[0]'h0).toNat : Int) = b := by
    subst hs
    subst hbt
    exact h2
  have hd : (((s[0]'h0).toNat : Int) != 45) = true := by rw [hbb, bne_iff_ne]; omega
  have hl1 : s.toList.isEmpty = false := by
    have : s.toList.length = s.size := by rw [ByteArray.toList_eq]; simp
    cases h : s.toList with
    | nil => rw [h] at this; simp at this; omega
    | cons => rfl
  have hl2 : ¬ s.toList = [] := fun h => by rw [h] at hl1; cases hl1
  have hsz : s.size ≤ 100 := by rw [hs, strOfNums_size]; exact hl.len
  rw [if_neg (by decide), List.nil_append, ← hs] at hC
  have hT2 : ∀ W, Below w.heap.size w W → Calls Tryd.prog 14 #[.string ⟨#[]⟩, .float .f64 (x + 9223372036854775808), .int .i64 64] W fun e w' => e = .returned (.string (⟨#[45]⟩ ++ s)) ∧ Below W.heap.size W w' := by
    intro W hW
    obtain ⟨l', hl', hC'⟩ := textE (x + 9223372036854775808) x true W (by omega) (by omega) hn (by rw [bne_iff_ne]; omega) (hR.mono hW)
    rw [hl'.unique hl, if_pos rfl, ← str_append, ← hs] at hC'
    exact hC'
  have hneg := neg_run x (x + 9223372036854775808) (by omega) rfl
  have HC := Lib.hid hC
  have HT2 := Lib.hid hT2
  clear hn hR hl hC hbt hT2 hs h2 hb1 hb2 hbb
  go_enter Tryd.func7, Tryd.ntmps7
  go_wp2_with (fail)
  refine (HF.out _).mono ?_
  rintro e w'' ⟨rfl, rfl⟩
  go_wp2_with (fail)
  refine HC.out.mono ?_
  rintro e w' ⟨rfl, hb⟩
  have HB := Lib.hid hb
  clear hb
  go_wp2_with (fail)
  refine (HT2.out _ HB.out).mono ?_
  rintro e w1 ⟨rfl, hb1⟩
  have HB1 := Lib.hid (HB.out.trans (hb1.mono HB.out.size))
  clear hb1
  go_wp2_with (fail)
  go_ret
  exact ⟨rfl, HB1.out⟩
theorem w7 (x : Nat) (w : World) (hx : x < 18446744073709551616) (hR : Rdy w) : Calls Tryd.prog 7 #[.float .f64 x] w fun e w' => e = .returned (.bool true) ∧ Below w.heap.size w w' := by
  by_cases h1 : 9218868437227405312 ≤ x % 9223372036854775808
  · exact w7C x w h1
  · by_cases h2 : 9223372036854775808 ≤ x
    · exact w7N x w (by omega) hx h2
    · exact w7P x w (by omega) hR
end Go.Proofs.YtiopeaponffmdaaDoor.PAll
-- YtiopeaponffmdaaDoorLFnFloatSign
namespace Go.Proofs.YtiopeaponffmdaaDoor
open Go Go.ChangeShapes Go.WideShapes Go.ChangeAt Go.RowKit Go.ChangeMaps

theorem varsOkFnFloatSign : varsRowed Tryd.prog Rows.fnFloatSignSpec.vars = true := by kernel_rfl
set_option maxRecDepth 100000 in
theorem liftedFnFloatSign (os : Os) (started : os.Started) (H : Type) (enc : TypeId × Value → H) :
    ReturnsInHanded {} Tryd.checked os 7 .any (fun w args => (Rows.fnFloatSignSpec.pre enc Tryd.prog Tryd.f7 Rows.fnFloatSignRow.domain false w args ∧ laidMetH Tryd.prog Rows.fnFloatSignRow.laid w) ∧ sizedMet enc Tryd.prog Tryd.f7 (OpenSpec.ofChange Rows.fnFloatSignSpec) false w args)
      (Rows.fnFloatSignSpec.post enc Tryd.prog Tryd.f7 false true false false) := by
  refine returnsInHanded_of_change_and (C := Tryd.checked) (X := fun w _ => laidMetH Tryd.prog Rows.fnFloatSignRow.laid w) (fun _ _ _ hh h => h.of_heap hh) own started (by kernel_rfl) Tryd.func7
    (ChangeSpec.witness_shaped (enc := enc) (C := Tryd.checked) (os := os) (X := fun w _ => laidMetH Tryd.prog Rows.fnFloatSignRow.laid w) false (World.laidAll Tryd.prog os Rows.fnFloatSignRow.laid) #[.float .f64 0] 8 (World.laidAll_os _ _ _)
      (World.shaped_of_ZipB (by kernel_rfl) (by kernel_rfl)) (by kernel_rfl) (by kernel_rfl) (by kernel_rfl)
      (by rw [MakeChecks.laidMetH_plain _ _ _ (by kernel_rfl)]; exact laidMet_laidAll _ (by kernel_rfl) (by kernel_rfl))) ?_
  intro W base args ds gs before hval0 hW hc _ hL _
  have hval : ∀ (j : Nat) t v, Tryd.f7.params[j]? = some t → args[j]? = some v → Value.okWide Tryd.prog W .any base t v := hval0
  have hW' := hW
  obtain ⟨p, q, hA0, hV, rfl, _, _⟩ := hW
  have hA : DataW.TrodAll enc Tryd.prog W 0 (fun _ => true) true Tryd.f7.params.toList args.toList ds p := hA0
  rw [Tryd.params7] at hA hval
  obtain ⟨v0, d0, rfl, rfl, h0⟩ := trodAll_one hA
  obtain ⟨x0, rfl, rfl, rfl, wx0⟩ := open_float Tryd.underlying22 (hval 0 22 v0 rfl rfl) h0
  obtain ⟨rfl, rfl⟩ := trodVars_none hV
  rw [MakeChecks.laidMetH_plain _ _ _ (by kernel_rfl)] at hL
  have hR : PAll.Rdy W := rdy_of hL (by simp [Rows.fnFloatSignRow]) (by simp [Rows.fnFloatSignRow])
  have fin : Calls Tryd.prog 7 #[.float .f64 x0] W fun e w' => e = .returned (.bool true) ∧ Below W.heap.size W w' := by
    exact PAll.w7 x0 W (by have := wx0; simp [Lit.wf] at this; omega) hR
  refine fin.mono fun e W' ⟨he, hb⟩ => ?_
  subst he
  exact ⟨_, rfl, _, _, _, [], [], _, hW', trodAll_mk1 (shut_bool Tryd.underlying4 true), trodAll_mk1 (shut_float Tryd.underlying22 wx0), Below.trodVars laidOut hb varsOkFnFloatSign hV, hb.frame _, fun h => by cases h⟩

theorem fnFloatSign_holds : Rows.FnFloatSignSaid :=
  OpenClaim.holds_of_wide 7 Tryd.f7 rfl rfl rfl rfl rfl rfl rfl ⟨rfl, rfl, rfl, rfl, rfl⟩ rfl rfl rfl rfl rfl (by kernel_rfl) Tryd.func7 (by kernel_rfl)
    (of_decide_eq_true (by kernel_rfl)) (by unfold Func.isWrapper; first | (rw [if_pos (by decide +kernel)]; kernel_rfl) | (rw [if_neg (by decide +kernel)]; exact ⟨rfl, rfl⟩))
    (fun os started H enc _ => liftedFnFloatSign os started H enc)
theorem fnFloatSign_card : Rows.FnFloatSignCardSaid :=
  Claim7.holds_tied_plain_at .later [] [.data, .data, .data, .data, .pinned, .pinned] true (true, "de90ebed450df59327ce393381191af0e1580690049105112f683f9df6acb66c") false
    fnFloatSign_holds (fun _ h => by cases h) (by kernel_rfl) (fun _ h => by cases h) fnFloatSign_row_tie rfl ⟨rfl, rfl⟩ (by kernel_rfl) rfl
    (fun f fn hf hfn => by
      obtain rfl : f = 7 := Option.some.inj ((show Tryd.prog.funcNamed "loop.example/pub-g01450/laws.FnFloatSign" = some 7 by kernel_rfl).symm.trans hf) |>.symm
      obtain rfl : fn = Tryd.f7 := (Option.some.inj (Tryd.func7.symm.trans hfn)).symm
      exact ⟨by kernel_rfl, fun j t ht => by
        rw [Tryd.params7] at ht
        have h4 : t = 22 := by
          rcases j with _ | j
          · simp at ht; subst ht; simp
          · simp at ht
        rcases h4 with rfl
        · exact (show Tryd.prog.wantsStandIn 22 = false by kernel_rfl)⟩)
    (by kernel_rfl)
end Go.Proofs.YtiopeaponffmdaaDoor
