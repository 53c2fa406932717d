/- The texts of a proof, its declarations alone: part 36. -/
import Derived.Lib.IndexBytes
import Derived.Test.YtjfbkgkpjkickaaGreatDoorVU2
import Derived.Test.YtjfbkgkpjkickaaGreatDoorVU31
import Derived.Test.YtjfbkgkpjkickaaGreatDoorVU33
import Derived.Test.YtjfbkgkpjkickaaGreatDoorVU35
set_option linter.unusedVariables false
set_option linter.unusedSimpArgs false
-- YtjfbkgkpjkickaaGreatDoorPAllx148
namespace Go.Proofs.YtjfbkgkpjkickaaGreatDoor.PAll
open Go.RowKit Go.Proofs.YtjfbkgkpjkickaaGreatDoorW.PrintWords Go.Proofs.YtjfbkgkpjkickaaGreatDoorW.PrintLast Go.Proofs.YtjfbkgkpjkickaaGreatDoorW.PrintMore
attribute [local go_sem] max2_int min2_int max_two min_two max_three min_three max_four min_four   -- for this text's walks alone
set_option linter.unusedVariables false
set_option linter.unusedSimpArgs false

def spec_IsText.l0 : Nat → ByteArray → Option (Bool)
  | 0, _ => none
  | k + 1, x0 => if x0.toList = ([] : List UInt8) then (some true) else ((spec_runeLength.f k x0).bind fun t255 => (if t255 = 0 then (some false) else (if 0 ≤ t255 then (if t255 ≤ (x0.size : Int) then (spec_IsText.l0 k (x0.extract (t255 : Int).toNat x0.size)) else (none)) else (none))))
def spec_IsText.f (k : Nat) (a0 : ByteArray) : Option (Bool) := spec_IsText.l0 k a0
theorem spec_IsText.mono_l : ∀ k, (∀ y0, LeO (spec_IsText.l0 k y0) (spec_IsText.l0 (k + 1) y0))
  | 0 => fun _ r h => by simp [spec_IsText.l0] at h
  | k + 1 => by
    have ih0 := spec_IsText.mono_l k
    · intro y0
      unfold spec_IsText.l0
      repeat' first
      | (with_reducible exact ih0 _)
      | (with_reducible exact spec_runeLength.mono _ _)
      | (with_reducible exact LeO.refl _)
      | (with_reducible exact LeO.none _)
      | (with_reducible refine LeO.ite ?_ ?_)
      | (with_reducible refine LeO.bind ?_ (fun _ => ?_))
      | exact ih0 _
      | exact spec_runeLength.mono _ _
      | exact LeO.none _
      | refine LeO.ite ?_ ?_
      | refine LeO.bind ?_ (fun _ => ?_)
set_option maxHeartbeats 8000000 in
set_option maxRecDepth 100000 in
theorem spec_IsText.calls (k : Nat) (a0 : ByteArray) (r : Bool) (w : World) (h : spec_IsText.f k a0 = some r) :
    Calls Tryz.prog 19 #[.string a0] w fun e w' => e = .returned (.bool r) ∧ Drawn0 w w' := by
  have H : (spec_IsText.l0 k a0) = some r := h
  clear h
  have H' := Aside0.mk H
  clear H
  go_enter Tryz.func19, Tryz.ntmps19
  go_wp2
  go_loopg [0] k (fun kq v0 w' => ∃ (x0_1 : ByteArray), v0 = .string x0_1 ∧ Aside0 (spec_IsText.l0 kq x0_1 = some r) ∧ Aside0 (kq ≤ k) ∧ Drawn0 w w')
  case atStart => exact ⟨(a0), (by first | rfl | (simp; done) | (simp [*]; done)), H', ⟨Nat.le_refl _⟩, by repeat (first | exact Drawn0.refl _ | apply Drawn0.step)⟩
  case round =>
    clear H'
    try clear c1
    obtain ⟨x0_1, rfl, HA, HK1, ⟨m1, rfl⟩⟩ := hrel
    cases gk with
    | zero => exact absurd HA.out (by simp [spec_IsText.l0])
    | succ k1 =>
      have H := HA.out
      clear HA
      simp only [spec_IsText.l0] at H
      by_cases c2 : x0_1.toList = ([] : List UInt8)
      · rw [if_pos c2] at H
        have c2b0 : (x0_1.toList == ([] : List UInt8)) = true := beq_iff_eq.mpr c2
        have c2b1 : (x0_1.toList != ([] : List UInt8)) = false := bne_eq_false_iff_eq.mpr c2
        clear c2
        obtain rfl := Option.some.inj H
        go_wp2
        go_ret
        exact ⟨by first | rfl | (simp; done) | (simp [*]; done), by repeat (first | exact Drawn0.refl _ | apply Drawn0.step)⟩
      · rw [if_neg c2] at H
        have c2b0 : (x0_1.toList == ([] : List UInt8)) = false := beq_eq_false_iff_ne.mpr c2
        have c2b1 : (x0_1.toList != ([] : List UInt8)) = true := bne_iff_ne.mpr c2
        replace H := Option.bind_eq_some_iff.mp H
        obtain ⟨t255, A30, H⟩ := H
        replace H : (if t255 = 0 then (some false) else (if 0 ≤ t255 then (if t255 ≤ (x0_1.size : Int) then (spec_IsText.l0 k1 (x0_1.extract (t255 : Int).toNat x0_1.size)) else (none)) else (none))) = some r := H
        have A3 := Aside0.mk A30
        clear A30
        by_cases c4 : t255 = 0
        · rw [if_pos c4] at H
          have c4b0 : (t255 == 0) = true := beq_iff_eq.mpr c4
          have c4b1 : (t255 != 0) = false := bne_eq_false_iff_eq.mpr c4
          clear c4
          obtain rfl := Option.some.inj H
          go_wp2_with (first | ((with_reducible refine gate_callee (f := 29) rfl ?_); refine goesL_ (some 7) rfl rfl Tryz.func29 (by kernel_rfl) rfl #[.string x0_1] rfl (by (try simp only [List.map_toArray, List.map_cons, List.map_nil]); first | done | rfl | (simp only [List.length_drop, List.length_take]; rfl)) ?_; (with_reducible refine (spec_runeLength.calls k1 x0_1 t255 _ A3.out).mono ?_); rintro e w' ⟨rfl, ⟨nd, rfl⟩⟩; refine ⟨_, rfl, ?_⟩))
          go_ret
          exact ⟨by first | rfl | (simp; done) | (simp [*]; done), by repeat (first | exact Drawn0.refl _ | apply Drawn0.step)⟩
        · rw [if_neg c4] at H
          have c4b0 : (t255 == 0) = false := beq_eq_false_iff_ne.mpr c4
          have c4b1 : (t255 != 0) = true := bne_iff_ne.mpr c4
          by_cases c5 : 0 ≤ t255
          · rw [if_pos c5] at H
            have c5b0 := eq_true c5
            have c5b1 : decide (0 ≤ t255) = true := decide_eq_true c5
            clear c5
            by_cases c6 : t255 ≤ (x0_1.size : Int)
            · rw [if_pos c6] at H
              have c6b0 := eq_true c6
              have c6b1 : decide (t255 ≤ (x0_1.size : Int)) = true := decide_eq_true c6
              clear c6
              have H' := Aside0.mk H
              clear H
              go_wp2_with (first | ((with_reducible refine gate_callee (f := 29) rfl ?_); refine goesL_ (some 7) rfl rfl Tryz.func29 (by kernel_rfl) rfl #[.string x0_1] rfl (by (try simp only [List.map_toArray, List.map_cons, List.map_nil]); first | done | rfl | (simp only [List.length_drop, List.length_take]; rfl)) ?_; (with_reducible refine (spec_runeLength.calls k1 x0_1 t255 _ A3.out).mono ?_); rintro e w' ⟨rfl, ⟨nd, rfl⟩⟩; refine ⟨_, rfl, ?_⟩))
              go_roundg k1
              case measure => have := HK1.out; omega
              case rel => exact ⟨(x0_1.extract (t255 : Int).toNat x0_1.size), (by first | rfl | (simp; done) | (simp [*]; done)), H', ⟨by have := HK1.out; omega⟩, by repeat (first | exact Drawn0.refl _ | apply Drawn0.step)⟩
            · rw [if_neg c6] at H
              exact absurd H (by simp)
          · rw [if_neg c5] at H
            exact absurd H (by simp)

end Go.Proofs.YtjfbkgkpjkickaaGreatDoor.PAll
-- YtjfbkgkpjkickaaGreatDoorQc
set_option linter.unusedVariables false
set_option linter.unusedSimpArgs false
namespace Go.Proofs.YtjfbkgkpjkickaaGreatDoor.PAll
open Go.RowKit Go.Proofs.YtjfbkgkpjkickaaGreatDoorW.PrintWords Go.Proofs.YtjfbkgkpjkickaaGreatDoorW.PrintLast Go.Proofs.YtjfbkgkpjkickaaGreatDoorW.PrintMore

theorem rl2 (s : ByteArray) (k : Nat) : spec_runeLength.l0 (k + 1) s 2 2 = some 2 := by
  rw [spec_runeLength.l0, if_neg (by decide)]
theorem cont_no {b : Int} (h : b < 128 ∨ b > 191) : ¬ cont b := fun z => by unfold cont at z; omega
theorem cont_yes {b : Int} (h1 : ¬ b < 128) (h2 : ¬ b > 191) : cont b := ⟨by omega, by omega⟩
theorem rl3 (s : ByteArray) (k : Nat) (h : 3 ≤ s.size) : spec_runeLength.l0 (k + 2) s 3 2 = some (if cont (bt s 2) then 3 else 0) := by
  rw [spec_runeLength.l0, if_pos (by decide), if_pos (by decide), if_pos (by omega)]
  by_cases h1 : bt s 2 < 128
  · rw [if_pos h1, if_neg (cont_no (.inl h1))]
  · rw [if_neg h1]
    by_cases h2 : bt s 2 > 191
    · rw [if_pos h2, if_neg (cont_no (.inr h2))]
    · rw [if_neg h2, if_pos (cont_yes h1 h2), show wrap64 (2 + 1) = 3 by unfold wrap64; omega, spec_runeLength.l0, if_neg (by decide)]
theorem rl4 (s : ByteArray) (k : Nat) (h : 4 ≤ s.size) : spec_runeLength.l0 (k + 3) s 4 2 = some (if cont (bt s 2) ∧ cont (bt s 3) then 4 else 0) := by
  rw [spec_runeLength.l0, if_pos (by decide), if_pos (by decide), if_pos (by omega)]
  by_cases h1 : bt s 2 < 128
  · rw [if_pos h1, if_neg (fun z => cont_no (.inl h1) z.1)]
  · rw [if_neg h1]
    by_cases h2 : bt s 2 > 191
    · rw [if_pos h2, if_neg (fun z => cont_no (.inr h2) z.1)]
    · rw [if_neg h2, show wrap64 (2 + 1) = 3 by unfold wrap64; omega, spec_runeLength.l0, if_pos (by decide), if_pos (by decide), if_pos (by omega)]
      by_cases h3 : bt s 3 < 128
      · rw [if_pos h3, if_neg (fun z => cont_no (.inl h3) z.2)]
      · rw [if_neg h3]
        by_cases h4 : bt s 3 > 191
        · rw [if_pos h4, if_neg (fun z => cont_no (.inr h4) z.2)]
        · rw [if_neg h4, show wrap64 (3 + 1) = 4 by unfold wrap64; omega, spec_runeLength.l0, if_neg (by decide), if_pos ⟨cont_yes h1 h2, cont_yes h3 h4⟩]
theorem rlj3 (s : ByteArray) (k : Nat) (n lo hi : Int) (r : Int) (h : (n ≤ s.size → spec_runeLength.l0 k s n 2 = some r)) (hn : 2 ≤ n) : spec_runeLength.j3 (k + 2) s n lo hi = some (if n ≤ s.size ∧ (lo ≤ bt s 1 ∧ bt s 1 ≤ hi) then r else 0) := by
  rw [spec_runeLength.j3]
  by_cases h1 : (s.size : Int) < n
  · rw [if_pos h1, spec_runeLength.j4, if_pos rfl, if_neg (by omega)]
  · rw [if_neg h1, if_pos (by omega)]
    by_cases h2 : bt s 1 < lo
    · rw [if_pos h2, spec_runeLength.j4, if_pos rfl, if_neg (by omega)]
    · rw [if_neg h2, spec_runeLength.j4]
      by_cases h3 : bt s 1 > hi
      · rw [if_pos (decide_eq_true h3), if_neg (by omega)]
      · rw [if_neg (by rw [decide_eq_true_eq]; exact h3), if_pos (by omega)]
        exact h (by omega)
/-- how long the character at a text's head is -/
def rlen (l : List Int) : Int := if rd l 0 < 128 then 1 else (ulen l : Int)
theorem rl_ev (s : ByteArray) (h : 0 < s.size) : ∀ k, spec_runeLength.f (k + 10) s = some (rlen (bytesOf s)) := by
  intro k
  unfold spec_runeLength.f rlen ulen
  have e0 : rd (bytesOf s) 0 = bt s 0 := rd_bytesOf s 0
  have e1 : rd (bytesOf s) 1 = bt s 1 := rd_bytesOf s 1
  have e2 : rd (bytesOf s) 2 = bt s 2 := rd_bytesOf s 2
  have e3 : rd (bytesOf s) 3 = bt s 3 := rd_bytesOf s 3
  rw [e0, e1, e2, e3, bytesOf_length]
  rw [if_pos (by omega)]
  by_cases h128 : bt s 0 < 128
  · rw [if_pos h128, if_pos h128]
  rw [if_neg h128, if_neg h128]
  by_cases a1 : 194 ≤ bt s 0 ∧ bt s 0 ≤ 223
  · rw [if_pos a1, if_pos (by omega), decide_eq_true (by omega), spec_runeLength.j0, if_pos rfl, spec_runeLength.j2, if_pos (by omega), if_neg (by omega), if_neg (by omega), if_neg (by omega), if_neg (by omega)]
    rw [rlj3 s (k + 6) 2 128 191 2 (fun _ => rl2 s (k + 5)) (by decide)]
    congr 1
    by_cases hc : 2 ≤ s.size ∧ cont (bt s 1)
    · rw [if_pos hc, if_pos ⟨by omega, hc.2⟩]; rfl
    · rw [if_neg hc, if_neg (fun z => hc ⟨by omega, z.2⟩)]; rfl
  rw [if_neg a1]
  have b1 : ∀ x : Option Int, (if bt s 0 ≥ 194 then (spec_runeLength.j0 (k + 10) s 128 191 (bt s 0) (decide (bt s 0 ≤ 223))) else (spec_runeLength.j0 (k + 10) s 128 191 (bt s 0) false)) = spec_runeLength.j0 (k + 10) s 128 191 (bt s 0) false := by
    intro _
    split
    · rw [decide_eq_false (by omega)]
    · rfl
  rw [b1 none, spec_runeLength.j0, if_neg (by decide)]
  by_cases a2 : 224 ≤ bt s 0 ∧ bt s 0 ≤ 239
  · rw [if_pos a2, if_pos (by omega), decide_eq_true (by omega), spec_runeLength.j1, if_pos rfl, spec_runeLength.j2, if_pos (by omega)]
    have key : ∀ lo hi, rlo (bt s 0) = lo → rhi (bt s 0) = hi → spec_runeLength.j3 (k + 7) s 3 lo hi = some (((if 3 ≤ s.size ∧ (rlo (bt s 0) ≤ bt s 1 ∧ bt s 1 ≤ rhi (bt s 0)) ∧ cont (bt s 2) then 3 else 0 : Nat) : Int)) := by
      intro lo hi hlo hhi
      rw [rlj3 s (k + 5) 3 lo hi (if cont (bt s 2) then 3 else 0) (fun h => rl3 s (k + 3) (by omega)) (by decide), hlo, hhi]
      congr 1
      by_cases hc : 3 ≤ s.size ∧ (lo ≤ bt s 1 ∧ bt s 1 ≤ hi) ∧ cont (bt s 2)
      · rw [if_pos (by omega), if_pos hc.2.2, if_pos hc]; rfl
      · rw [if_neg hc]
        by_cases hd : (3 : Int) ≤ s.size ∧ (lo ≤ bt s 1 ∧ bt s 1 ≤ hi)
        · rw [if_pos hd, if_neg (fun z => hc ⟨by omega, hd.2, z⟩)]; rfl
        · rw [if_neg hd]; rfl
    by_cases c1 : bt s 0 = 224
    · rw [if_pos c1]
      exact key _ _ (by unfold rlo; rw [if_pos c1]) (by unfold rhi; rw [if_neg (by omega), if_neg (by omega)])
    · rw [if_neg c1]
      by_cases c2 : bt s 0 = 237
      · rw [if_pos c2]
        exact key _ _ (by unfold rlo; rw [if_neg (by omega), if_neg (by omega)]) (by unfold rhi; rw [if_pos c2])
      · rw [if_neg c2, if_neg (by omega), if_neg (by omega)]
        exact key _ _ (by unfold rlo; rw [if_neg (by omega), if_neg (by omega)]) (by unfold rhi; rw [if_neg (by omega), if_neg (by omega)])
  rw [if_neg a2]
  have b2 : ∀ x : Option Int, (if bt s 0 ≥ 224 then (spec_runeLength.j1 (k + 9) s 128 191 (bt s 0) (decide (bt s 0 ≤ 239))) else (spec_runeLength.j1 (k + 9) s 128 191 (bt s 0) false)) = spec_runeLength.j1 (k + 9) s 128 191 (bt s 0) false := by
    intro _
    split
    · rw [decide_eq_false (by omega)]
    · rfl
  rw [b2 none, spec_runeLength.j1, if_neg (by decide)]
  by_cases a3 : 240 ≤ bt s 0 ∧ bt s 0 ≤ 244
  · rw [if_pos a3, if_pos (by omega), if_pos (by omega), spec_runeLength.j2, if_pos (by omega), if_neg (by omega), if_neg (by omega)]
    have key : ∀ lo hi, rlo (bt s 0) = lo → rhi (bt s 0) = hi → spec_runeLength.j3 (k + 7) s 4 lo hi = some (((if 4 ≤ s.size ∧ (rlo (bt s 0) ≤ bt s 1 ∧ bt s 1 ≤ rhi (bt s 0)) ∧ cont (bt s 2) ∧ cont (bt s 3) then 4 else 0 : Nat) : Int)) := by
      intro lo hi hlo hhi
      rw [rlj3 s (k + 5) 4 lo hi (if cont (bt s 2) ∧ cont (bt s 3) then 4 else 0) (fun h => rl4 s (k + 2) (by omega)) (by decide), hlo, hhi]
      congr 1
      by_cases hc : 4 ≤ s.size ∧ (lo ≤ bt s 1 ∧ bt s 1 ≤ hi) ∧ cont (bt s 2) ∧ cont (bt s 3)
      · rw [if_pos (by omega), if_pos hc.2.2, if_pos hc]; rfl
      · rw [if_neg hc]
        by_cases hd : (4 : Int) ≤ s.size ∧ (lo ≤ bt s 1 ∧ bt s 1 ≤ hi)
        · rw [if_pos hd, if_neg (fun z => hc ⟨by omega, hd.2, z⟩)]; rfl
        · rw [if_neg hd]; rfl
    by_cases c1 : bt s 0 = 240
    · rw [if_pos c1]
      exact key _ _ (by unfold rlo; rw [if_neg (by omega), if_pos c1]) (by unfold rhi; rw [if_neg (by omega), if_neg (by omega)])
    · rw [if_neg c1]
      by_cases c2 : bt s 0 = 244
      · rw [if_pos c2]
        exact key _ _ (by unfold rlo; rw [if_neg (by omega), if_neg (by omega)]) (by unfold rhi; rw [if_neg (by omega), if_pos c2])
      · rw [if_neg c2]
        exact key _ _ (by unfold rlo; rw [if_neg (by omega), if_neg (by omega)]) (by unfold rhi; rw [if_neg (by omega), if_neg (by omega)])
  · rw [if_neg a3]
    split
    · rw [if_neg (by omega)]; rfl
    · rfl
/-- Unicode text -/
def txs : Nat → List Int → Bool
  | _, [] => true
  | k + 1, _ :: t => txs k t
  | 0, b :: t => if b < 128 then txs 0 t else if ulen (b :: t) = 0 then false else txs (ulen (b :: t) - 1) t
theorem txs_skip : ∀ (k : Nat) (l : List Int), txs k l = txs 0 (l.drop k)
  | 0, l => by rw [List.drop_zero]
  | k + 1, [] => by rw [List.drop_nil]; rfl
  | k + 1, _ :: t => by rw [List.drop_succ_cons]; exact txs_skip k t
theorem txs0 (b : Int) (t : List Int) : txs 0 (b :: t) = if b < 128 then txs 0 t else if ulen (b :: t) = 0 then false else txs 0 ((b :: t).drop (ulen (b :: t))) := by
  show (if b < 128 then txs 0 t else if ulen (b :: t) = 0 then false else txs (ulen (b :: t) - 1) t) = _
  split
  · rfl
  · split
    · rfl
    · rename_i h
      rw [txs_skip]
      obtain ⟨u, hu⟩ : ∃ u, ulen (b :: t) = u + 1 := ⟨ulen (b :: t) - 1, by omega⟩
      rw [hu, Nat.add_sub_cancel, List.drop_succ_cons]
theorem bytesOf_extract (s : ByteArray) (a : Nat) : bytesOf (s.extract a s.size) = (bytesOf s).drop a := by
  unfold bytesOf
  rw [Lib.extract_to_end, List.map_drop]
theorem text_ev : ∀ (m : Nat) (s : ByteArray), s.size ≤ m → s.size ≤ 4000000000 → ∃ k, spec_IsText.f k s = some (txs 0 (bytesOf s))
  | m, s, hm, hs => by
    by_cases h0 : s.size = 0
    · have hb : bytesOf s = [] := List.eq_nil_of_length_eq_zero (by rw [bytesOf_length]; exact h0)
      refine ⟨1, ?_⟩
      rw [hb]
      unfold spec_IsText.f
      rw [spec_IsText.l0, if_pos]
      · rfl
      · rw [ByteArray.toList_eq]
        exact List.eq_nil_of_length_eq_zero (by rw [Array.length_toList]; exact h0)
    · cases m with
      | zero => omega
      | succ m =>
        have hne : ¬ (s.toList = ([] : List UInt8)) := fun h => h0 (by
          rw [ByteArray.toList_eq] at h
          have := congrArg List.length h
          rw [Array.length_toList] at this
          exact this)
        have hp : 0 < s.size := by omega
        have hc : bytesOf s = rd (bytesOf s) ((0 : Nat) : Int) :: (bytesOf s).drop 1 := by
          have := drop_cons (bytesOf s) 0 (by rw [bytesOf_length]; exact hp)
          rwa [List.drop_zero] at this
        have e00 : rd (bytesOf s) ((0 : Nat) : Int) = rd (bytesOf s) 0 := rfl
        rw [e00] at hc
        have hrl := rl_ev s hp
        by_cases h128 : rd (bytesOf s) 0 < 128
        · have er : rlen (bytesOf s) = 1 := by unfold rlen; rw [if_pos h128]
          have hsz : (s.extract 1 s.size).size = s.size - 1 := by rw [← bytesOf_length, bytesOf_extract, List.length_drop, bytesOf_length]
          obtain ⟨k, hk⟩ := text_ev m (s.extract 1 s.size) (by omega) (by omega)
          refine ⟨k + 10 + 1, ?_⟩
          unfold spec_IsText.f at hk ⊢
          rw [spec_IsText.l0, if_neg hne, hrl k, er, Option.bind_some, if_neg (by decide), if_pos (by decide), if_pos (by omega)]
          have hk' : spec_IsText.l0 (k + 10) (s.extract (1 : Int).toNat s.size) = some (txs 0 (bytesOf (s.extract 1 s.size))) := by
            have mono : ∀ j x r, spec_IsText.l0 j x = some r → spec_IsText.l0 (j + 1) x = some r := fun j x r h => spec_IsText.mono_l j x r h
            exact mono _ _ _ (mono _ _ _ (mono _ _ _ (mono _ _ _ (mono _ _ _ (mono _ _ _ (mono _ _ _ (mono _ _ _ (mono _ _ _ (mono _ _ _ hk)))))))))
          rw [hk', bytesOf_extract, hc, txs0, ← hc, if_pos h128]
        · by_cases hu : ulen (bytesOf s) = 0
          · have er : rlen (bytesOf s) = 0 := by unfold rlen; rw [if_neg h128, hu]; rfl
            refine ⟨11, ?_⟩
            unfold spec_IsText.f
            rw [spec_IsText.l0, if_neg hne, hrl 0, er, Option.bind_some, if_pos rfl]
            have : txs 0 (bytesOf s) = false := by rw [hc, txs0, ← hc, if_neg h128, if_pos hu]
            rw [this]
          · have er : rlen (bytesOf s) = (ulen (bytesOf s) : Int) := by unfold rlen; rw [if_neg h128]
            have hle := ulen_le (bytesOf s)
            rw [bytesOf_length] at hle
            have hsz : (s.extract (ulen (bytesOf s)) s.size).size = s.size - ulen (bytesOf s) := by rw [← bytesOf_length, bytesOf_extract, List.length_drop, bytesOf_length]
            obtain ⟨k, hk⟩ := text_ev m (s.extract (ulen (bytesOf s)) s.size) (by omega) (by omega)
            refine ⟨k + 10 + 1, ?_⟩
            unfold spec_IsText.f at hk ⊢
            rw [spec_IsText.l0, if_neg hne, hrl k, er, Option.bind_some, if_neg (by omega), if_pos (by omega), if_pos (by omega), Int.toNat_natCast]
            have hk' : spec_IsText.l0 (k + 10) (s.extract (ulen (bytesOf s)) s.size) = some (txs 0 (bytesOf (s.extract (ulen (bytesOf s)) s.size))) := by
              have mono : ∀ j x r, spec_IsText.l0 j x = some r → spec_IsText.l0 (j + 1) x = some r := fun j x r h => spec_IsText.mono_l j x r h
              exact mono _ _ _ (mono _ _ _ (mono _ _ _ (mono _ _ _ (mono _ _ _ (mono _ _ _ (mono _ _ _ (mono _ _ _ (mono _ _ _ (mono _ _ _ hk)))))))))
            rw [hk', bytesOf_extract]
            conv => rhs; rw [hc, txs0, ← hc, if_neg h128, if_neg hu]
termination_by m => m
end Go.Proofs.YtjfbkgkpjkickaaGreatDoor.PAll
-- YtjfbkgkpjkickaaGreatDoorMe
set_option linter.unusedVariables false
set_option linter.unusedSimpArgs false
namespace Go.Proofs.YtjfbkgkpjkickaaGreatDoor.PAll
open Go.RowKit Go.Proofs.YtjfbkgkpjkickaaGreatDoorW.PrintWords Go.Proofs.YtjfbkgkpjkickaaGreatDoorW.PrintLast Go.Proofs.YtjfbkgkpjkickaaGreatDoorW.PrintMore

theorem cont34 : ¬ cont 34 := by unfold cont; omega
theorem ulen_quote (b : Int) (t : List Int) : ulen ((b :: t) ++ [34]) = ulen (b :: t) := by
  rcases t with _ | ⟨c, _ | ⟨d, _ | ⟨e, t⟩⟩⟩
  · unfold ulen
    have e0 : rd ([b] ++ [34]) 0 = b := rfl
    have e1 : rd ([b] ++ [34]) 1 = 34 := rfl
    have f0 : rd [b] 0 = b := rfl
    rw [e0, e1, f0]
    simp [cont34]
  · unfold ulen
    have e0 : rd ([b, c] ++ [34]) 0 = b := rfl
    have e1 : rd ([b, c] ++ [34]) 1 = c := rfl
    have e2 : rd ([b, c] ++ [34]) 2 = 34 := rfl
    have f0 : rd [b, c] 0 = b := rfl
    have f1 : rd [b, c] 1 = c := rfl
    rw [e0, e1, e2, f0, f1]
    simp [cont34]
  · unfold ulen
    have e0 : rd ([b, c, d] ++ [34]) 0 = b := rfl
    have e1 : rd ([b, c, d] ++ [34]) 1 = c := rfl
    have e2 : rd ([b, c, d] ++ [34]) 2 = d := rfl
    have e3 : rd ([b, c, d] ++ [34]) 3 = 34 := rfl
    have f0 : rd [b, c, d] 0 = b := rfl
    have f1 : rd [b, c, d] 1 = c := rfl
    have f2 : rd [b, c, d] 2 = d := rfl
    rw [e0, e1, e2, e3, f0, f1, f2]
    simp [cont34]
  · unfold ulen
    have e0 : rd ((b :: c :: d :: e :: t) ++ [34]) 0 = b := rfl
    have e1 : rd ((b :: c :: d :: e :: t) ++ [34]) 1 = c := rfl
    have e2 : rd ((b :: c :: d :: e :: t) ++ [34]) 2 = d := rfl
    have e3 : rd ((b :: c :: d :: e :: t) ++ [34]) 3 = e := rfl
    have f0 : rd (b :: c :: d :: e :: t) 0 = b := rfl
    have f1 : rd (b :: c :: d :: e :: t) 1 = c := rfl
    have f2 : rd (b :: c :: d :: e :: t) 2 = d := rfl
    have f3 : rd (b :: c :: d :: e :: t) 3 = e := rfl
    rw [e0, e1, e2, e3, f0, f1, f2, f3]
    simp
/-- nothing that must be escaped -/
def plainB (l : List Int) : Prop := ∀ b ∈ l, 32 ≤ b ∧ b ≠ 34 ∧ b ≠ 92
theorem plainB.drop {l : List Int} (h : plainB l) (n : Nat) : plainB (l.drop n) := fun b hb => h b (List.mem_of_mem_drop hb)
theorem plain_strS : ∀ (m : Nat) (l : List Int), l.length ≤ m → plainB l → (strS true 0 (l ++ [34]) = some (l.length + 1) ↔ txs 0 l = true) ∧ strS false 0 (l ++ [34]) = some (l.length + 1)
  | _, [], _, _ => ⟨⟨fun _ => rfl, fun _ => rfl⟩, rfl⟩
  | 0, b :: t, hm, _ => absurd hm (by simp)
  | m + 1, b :: t, hm, hp => by
    obtain ⟨h32, h34, h92⟩ := hp b (List.mem_cons_self ..)
    have htl : t.length ≤ m := by simpa using hm
    have hpt : plainB t := fun x hx => hp x (List.mem_cons_of_mem _ hx)
    have key : ∀ v n, stepN v (b :: (t ++ [34])) = n + 1 → n ≤ t.length → strS v 0 ((b :: t) ++ [34]) = (strS v 0 (t.drop n ++ [34])).map (· + (n + 1)) := by
      intro v n hn hle
      rw [show ((b :: t) ++ [34] : List Int) = b :: (t ++ [34]) from rfl, strS0s v b _ n h34 hn, List.drop_append_of_le_length hle]
    have fin : ∀ v n, n ≤ t.length → ((strS v 0 (t.drop n ++ [34])).map (· + (n + 1)) = some ((b :: t).length + 1) ↔ strS v 0 (t.drop n ++ [34]) = some ((t.drop n).length + 1)) := by
      intro v n hle
      rw [List.length_drop, List.length_cons]
      cases strS v 0 (t.drop n ++ [34]) with
      | none => simp
      | some x =>
        simp only [Option.map_some, Option.some.injEq]
        omega
    by_cases h128 : b < 128
    · have hs : ∀ v, stepN v (b :: (t ++ [34])) = 0 + 1 := fun v => stepN_ascii _ _ h92 (by rw [rd_cons0]; exact h32) (by rw [rd_cons0]; exact h128)
      obtain ⟨i1, i2⟩ := plain_strS m t htl hpt
      rw [key true 0 (hs true) (Nat.zero_le _), key false 0 (hs false) (Nat.zero_le _), fin true 0 (Nat.zero_le _), fin false 0 (Nat.zero_le _), List.drop_zero, txs0, if_pos h128]
      exact ⟨i1, i2⟩
    · have hr : ∀ v, stepN v (b :: (t ++ [34])) = if ulen (b :: t) = 0 then (if v then 0 else 1) else ulen (b :: t) := fun v => by
        have := stepN_rune v (b :: (t ++ [34])) (by rw [rd_cons0]; omega)
        rw [show (b :: (t ++ [34]) : List Int) = (b :: t) ++ [34] from rfl, ulen_quote] at this
        exact this
      by_cases hu : ulen (b :: t) = 0
      · have h1 : stepN true (b :: (t ++ [34])) = 0 := by rw [hr, if_pos hu]; rfl
        have h2 : stepN false (b :: (t ++ [34])) = 0 + 1 := by rw [hr, if_pos hu]; rfl
        obtain ⟨i1, i2⟩ := plain_strS m t htl hpt
        constructor
        · rw [show ((b :: t) ++ [34] : List Int) = b :: (t ++ [34]) from rfl, strS0n true b _ h34 h1, txs0, if_neg h128, if_pos hu]
          exact ⟨fun h => (by cases h), fun h => (by cases h)⟩
        · rw [key false 0 h2 (Nat.zero_le _), fin false 0 (Nat.zero_le _), List.drop_zero]
          exact i2
      · obtain ⟨u, hu1⟩ : ∃ u, ulen (b :: t) = u + 1 := ⟨ulen (b :: t) - 1, by omega⟩
        have hle : u ≤ t.length := by have := ulen_le (b :: t); rw [hu1] at this; simpa using this
        have hs : ∀ v, stepN v (b :: (t ++ [34])) = u + 1 := fun v => by rw [hr, if_neg hu, hu1]
        obtain ⟨i1, i2⟩ := plain_strS m (t.drop u) (by rw [List.length_drop]; omega) (hpt.drop u)
        rw [key true u (hs true) hle, key false u (hs false) hle, fin true u hle, fin false u hle, txs0, if_neg h128, if_neg hu, hu1, List.drop_succ_cons]
        exact ⟨i1, i2⟩
set_option maxRecDepth 100000 in
set_option maxHeartbeats 8000000 in
theorem f18 (w : World) : Calls Tryz.prog 18 #[.bool false, .bool true] w fun e w' => e = .returned (optsV false true) ∧ Below w.heap.size w w' := by
  go_enter Tryz.func18, Tryz.ntmps18
  go_wp2_with (fail)
  go_returns
  exact ⟨rfl, below_alloc (below_alloc (Below.refl _ _) _) _⟩
set_option maxRecDepth 100000 in
set_option maxHeartbeats 8000000 in
theorem w7 (s : ByteArray) (hs : s.size ≤ 9223372036854775807) (w : World) (V : Bool → Bool → List Int → Prop) (hV : ∀ d i l, V d i (34 :: (l ++ [34])) ↔ strS (!i) 0 (l ++ [34]) = some (l.length + 1)) (HI : Isv V w) :
    Calls Tryz.prog 7 #[.string s] w (Law w) := by
  by_cases hbig : s.size > 2147483647
  · have d1 : decide ((2147483647 : Int) < (s.size : Int)) = true := decide_eq_true (by omega)
    have d2 : decide (2147483647 < s.size) = true := decide_eq_true hbig
    clear hV HI
    go_enter Tryz.func7, Tryz.ntmps7
    go_wp2_with (fail)
    go_returns
    exact ⟨rfl, Below.refl _ _⟩
  have d1 : decide ((2147483647 : Int) < (s.size : Int)) = false := decide_eq_false (by omega)
  have d2 : decide (2147483647 < s.size) = false := decide_eq_false hbig
  by_cases h5 : s.size > 8
  · have d3 : decide ((8 : Int) < (s.size : Int)) = true := decide_eq_true (by omega)
    have d4 : decide (8 < s.size) = true := decide_eq_true h5
    clear hV HI
    go_enter Tryz.func7, Tryz.ntmps7
    go_wp2_with (fail)
    go_returns
    exact ⟨rfl, Below.refl _ _⟩
  have d3 : decide ((8 : Int) < (s.size : Int)) = false := decide_eq_false (by omega)
  have d4 : decide (8 < s.size) = false := decide_eq_false h5
  have H16 := Lib.hid (fun (i : Bool) (W : World) (x : ByteArray) (hW : Below w.heap.size w W) (hx : bytesOf x = 34 :: (bytesOf s ++ [34])) => (show Calls Tryz.prog 16 #[.string x, optsV false i] W (IsV (V false i (34 :: (bytesOf s ++ [34]))) W) from hx ▸ HI false i x W hW (by have := congrArg List.length hx; rw [bytesOf_length] at this; simp [bytesOf_length] at this; omega) (by rw [hx]; intro b hb; simp at hb; subst hb; decide)))
  have HV := Lib.hid (fun i => hV false i (bytesOf s))
  obtain ⟨k, hk⟩ := text_ev s.size s (Nat.le_refl _) (by omega)
  have C19 := Lib.hid (fun W => spec_IsText.calls k s _ W hk)
  have C18 := Lib.hid f18
  clear hV HI hk
  go_enter Tryz.func7, Tryz.ntmps7
  go_wp2_with (fail)
  go_loopg [13] (s.size + 1) (fun kq v13 w' => ∃ i : Nat, v13 = .int .i64 i ∧ i ≤ s.size ∧ s.size + 1 ≤ kq + i ∧ Hid (plainB ((bytesOf s).take i)) ∧ w = w')
  case atStart => exact ⟨0, rfl, by omega, by omega, Lib.hid (by intro b hb; simp at hb), rfl⟩
  case round => as_aux_lemma =>
    obtain ⟨i, rfl, hi, hk, HP, rfl⟩ := hrel
    by_cases hlt : i < s.size
    · have q1 : decide ((i : Int) < (s.size : Int)) = true := decide_eq_true (by omega)
      have q2 : decide (i < s.size) = true := decide_eq_true hlt
      obtain ⟨c, hc⟩ : ∃ c, ((s[i]'hlt).toNat : Int) = c := ⟨_, rfl⟩
      have hcb : bt s (i : Int) = c := by rw [← hc]; unfold bt; rw [dif_pos (by simpa using hlt)]; simp
      have HCB := Lib.hid hcb
      clear hcb
      by_cases a1 : c < 32
      · have e1 : decide (c < 32) = true := decide_eq_true a1
        go_wp2_with (fail)
        go_returns
        exact ⟨rfl, Below.refl _ _⟩
      have e1 : decide (c < 32) = false := decide_eq_false a1
      by_cases a2 : c = 34
      · have e2 : (c == 34) = true := by rw [beq_iff_eq]; exact a2
        clear a2
        go_wp2_with (fail)
        go_returns
        exact ⟨rfl, Below.refl _ _⟩
      have e2 : (c == 34) = false := by rw [beq_eq_false_iff_ne]; exact a2
      by_cases a3 : c = 92
      · have e3 : (c == 92) = true := by rw [beq_iff_eq]; exact a3
        clear a3
        go_wp2_with (fail)
        go_returns
        exact ⟨rfl, Below.refl _ _⟩
      have e3 : (c == 92) = false := by rw [beq_eq_false_iff_ne]; exact a3
      have HP2 := Lib.hid (show plainB ((bytesOf s).take (i + 1)) by
        intro b hb
        have hl : i < (bytesOf s).length := by rw [bytesOf_length]; exact hlt
        rw [List.take_succ_eq_append_getElem hl] at hb
        rcases List.mem_append.1 hb with hb | hb
        · exact HP.out b hb
        · have hbb : b = c := by
            have e := List.mem_singleton.1 hb
            rw [e, ← HCB.out, ← rd_bytesOf, rd_getD, List.getD_eq_getElem?_getD, List.getElem?_eq_getElem hl]
            rfl
          rw [hbb]
          exact ⟨by omega, a2, a3⟩)
      go_wp2_with (fail)
      go_roundg (gk - 1)
      case measure => omega
      case rel => exact ⟨i + 1, by first | rfl | go_num, by omega, by omega, HP2, rfl⟩
    · have q1 : decide ((i : Int) < (s.size : Int)) = false := decide_eq_false (by omega)
      have q2 : decide (i < s.size) = false := decide_eq_false hlt
      obtain ⟨i1, i2⟩ := plain_strS _ (bytesOf s) (Nat.le_refl _) (by have := HP.out; rwa [List.take_of_length_le (by rw [bytesOf_length]; omega)] at this)
      have H1 := Lib.hid ((HV.out false).trans i1)
      have H2 := Lib.hid ((HV.out true).trans (show strS (!true) 0 (bytesOf s ++ [34]) = some ((bytesOf s).length + 1) ↔ True from ⟨fun _ => trivial, fun _ => i2⟩))
      clear i1 i2
      generalize txs 0 (bytesOf s) = tx at *
      go_wp2_with (fail)
      refine (H16.out false _ _ (Below.refl _ _) ?hx).mono ?_
      case hx => rw [bytesOf_append, bytesOf_append]; rfl
      rintro e w2 ⟨r, rfl, hr, hb⟩
      obtain rfl : r = tx := Bool.eq_iff_iff.2 (hr.trans H1.out)
      have HB2 := Lib.hid hb
      clear hr hb
      go_wp2_with (fail)
      refine (C19.out _).mono ?_
      rintro e w3 ⟨rfl, hd⟩
      have HB3 := Lib.hid (HB2.out.trans (hd.below.mono HB2.out.size))
      clear hd
      have hrr : (r == r) = true := beq_self_eq_true r
      go_wp2_with (fail)
      refine (C18.out _).mono ?_
      rintro e w4 ⟨rfl, hb⟩
      have HB4 := Lib.hid (HB3.out.trans (hb.mono HB3.out.size))
      clear hb
      go_wp2_with (fail)
      refine (H16.out true _ _ HB4.out ?hx2).mono ?_
      case hx2 => rw [bytesOf_append, bytesOf_append]; rfl
      rintro e w5 ⟨r2, rfl, hr, hb⟩
      obtain rfl : r2 = true := (hr.trans H2.out).2 trivial
      have HB5 := Lib.hid (HB4.out.trans (hb.mono HB4.out.size))
      clear hr hb
      go_wp2_with (fail)
      go_returns
      exact ⟨rfl, HB5.out⟩
end Go.Proofs.YtjfbkgkpjkickaaGreatDoor.PAll
