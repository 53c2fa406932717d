/- The texts of a proof, its declarations alone: part 4. -/
import Derived.Test.YtjfbkgkpjkickaaGreatDoorVU3
set_option linter.unusedVariables false
set_option linter.unusedSimpArgs false
-- YtjfbkgkpjkickaaGreatDoorBj
set_option linter.unusedVariables false
set_option linter.unusedSimpArgs false
namespace Go.Proofs.YtjfbkgkpjkickaaGreatDoor.PAll
open Go.RowKit Go.Proofs.YtjfbkgkpjkickaaGreatDoorW.PrintWords Go.Proofs.YtjfbkgkpjkickaaGreatDoorW.PrintLast Go.Proofs.YtjfbkgkpjkickaaGreatDoorW.PrintMore

/-- hexadecimal digits -/
def hexV (b : Int) : Option Int := if 48 ≤ b ∧ b ≤ 57 then some (b - 48) else if 97 ≤ b ∧ b ≤ 102 then some (b - 87) else if 65 ≤ b ∧ b ≤ 70 then some (b - 55) else none
def hex4 (l : List Int) (i : Nat) : Option Int :=
  if i + 4 ≤ l.length then
    (match hexV (rd l (i : Int)), hexV (rd l ((i + 1 : Nat) : Int)), hexV (rd l ((i + 2 : Nat) : Int)), hexV (rd l ((i + 3 : Nat) : Int)) with
    | some a, some b, some c, some d => some (4096 * a + 256 * b + 16 * c + d)
    | _, _, _, _ => none)
  else none
def isEsc (c : Int) : Prop := c = 34 ∨ c = 92 ∨ c = 47 ∨ c = 98 ∨ c = 102 ∨ c = 110 ∨ c = 114 ∨ c = 116
instance (c : Int) : Decidable (isEsc c) := by unfold isEsc; infer_instance
/-- the second half of a pair stands at 6 -/
def pairAt (l : List Int) (v1 : Int) : Prop := v1 < 56320 ∧ 12 ≤ l.length ∧ rd l 6 = 92 ∧ rd l 7 = 117 ∧ ∃ v2, hex4 l 8 = some v2 ∧ 56320 ≤ v2 ∧ v2 ≤ 57343
open Classical in
/-- how many bytes an escape has; 0: it is none -/
noncomputable def escN (v : Bool) (l : List Int) : Nat :=
  if l.length < 2 then 0 else
  if isEsc (rd l 1) then 2 else
  if rd l 1 = 117 then
    (match hex4 l 2 with
    | none => 0
    | some v1 => if v = true ∧ 55296 ≤ v1 ∧ v1 ≤ 57343 then (if pairAt l v1 then 12 else 0) else 6)
  else 0
/-- how many bytes an item of a string has; 0: a fault -/
noncomputable def stepN (v : Bool) (l : List Int) : Nat :=
  if rd l 0 = 92 then escN v l else if rd l 0 < 32 then 0 else if rd l 0 < 128 then 1 else if ulen l = 0 then (if v then 0 else 1) else ulen l
/-- the place behind the last quotation mark -/
noncomputable def strS (v : Bool) : Nat → List Int → Option Nat
  | _, [] => none
  | k + 1, _ :: t => (strS v k t).map (· + 1)
  | 0, b :: t => if b = 34 then some 1 else if stepN v (b :: t) = 0 then none else (strS v (stepN v (b :: t) - 1) t).map (· + 1)
noncomputable def strF (v : Bool) (l : List Int) (n : Nat) : Option Nat := (strS v 0 (l.drop n)).map (· + n)
noncomputable def strEnd (v : Bool) (l : List Int) : Option Nat := if 0 < l.length ∧ rd l 0 = 34 then strF v l 1 else none
theorem strS_skip (v : Bool) : ∀ (k : Nat) (l : List Int), strS v k l = (strS v 0 (l.drop k)).map (· + k)
  | 0, l => by
    rw [List.drop_zero]
    cases strS v 0 l <;> rfl
  | k + 1, [] => by rw [List.drop_nil]; rfl
  | k + 1, b :: t => by
    rw [List.drop_succ_cons]
    show (strS v k t).map (· + 1) = _
    rw [strS_skip v k t]
    cases strS v 0 (t.drop k) with
    | none => rfl
    | some x => rfl
theorem strF_end (v : Bool) (l : List Int) (n : Nat) (h : l.length ≤ n) : strF v l n = none := by
  unfold strF; rw [List.drop_of_length_le h]; rfl
theorem rd_drop0 (l : List Int) (n : Nat) : rd (l.drop n) 0 = rd l (n : Int) := by
  have := rd_getD (l.drop n) 0
  rw [show ((0 : Nat) : Int) = 0 from rfl] at this
  rw [this, rd_getD, getD_drop]; rfl
theorem rd_drop (l : List Int) (n j : Nat) : rd (l.drop n) (j : Int) = rd l ((n + j : Nat) : Int) := by
  rw [rd_getD, rd_getD, getD_drop]
theorem strF_step (v : Bool) (l : List Int) (n : Nat) (h : n < l.length) :
    strF v l n = if rd l (n : Int) = 34 then some (n + 1) else if stepN v (l.drop n) = 0 then none else strF v l (n + stepN v (l.drop n)) := by
  unfold strF
  rw [drop_cons l n h]
  show Option.map _ (if rd l (n : Int) = 34 then some 1 else if stepN v (rd l (n : Int) :: l.drop (n + 1)) = 0 then none else (strS v (stepN v (rd l (n : Int) :: l.drop (n + 1)) - 1) (l.drop (n + 1))).map (· + 1)) = _
  rw [← drop_cons l n h]
  split
  · simp only [Option.map_some]; congr 1; omega
  · split
    · rfl
    · rename_i hz
      rw [strS_skip, List.drop_drop, show n + 1 + (stepN v (l.drop n) - 1) = n + stepN v (l.drop n) by omega]
      cases strS v 0 (l.drop (n + stepN v (l.drop n))) with
      | none => rfl
      | some x => simp only [Option.map_some]; congr 1; omega
/-- an item that stands for itself -/
def plainI (l : List Int) : Prop := rd l 0 ≠ 92 ∧ rd l 0 ≠ 34 ∧ (128 ≤ rd l 0 → ulen l ≠ 0)
/-- from a place to another by items that stand for themselves -/
inductive Reach (v : Bool) (l : List Int) (a : Nat) : Nat → Prop
  | refl : Reach v l a a
  | snoc (n : Nat) (h : Reach v l a n) (hn : n < l.length) (hp : plainI (l.drop n)) (hs : stepN v (l.drop n) ≠ 0) : Reach v l a (n + stepN v (l.drop n))
theorem stepN_ascii (v : Bool) (l : List Int) (h0 : rd l 0 ≠ 92) (h1 : 32 ≤ rd l 0) (h2 : rd l 0 < 128) : stepN v l = 1 := by
  unfold stepN; rw [if_neg h0, if_neg (by omega), if_pos h2]
theorem stepN_ctrl (v : Bool) (l : List Int) (h1 : rd l 0 < 32) : stepN v l = 0 := by
  unfold stepN; rw [if_neg (by omega), if_pos h1]
theorem stepN_rune (v : Bool) (l : List Int) (h1 : 128 ≤ rd l 0) : stepN v l = if ulen l = 0 then (if v then 0 else 1) else ulen l := by
  unfold stepN; rw [if_neg (by omega), if_neg (by omega), if_neg (by omega)]
theorem stepN_esc (v : Bool) (l : List Int) (h1 : rd l 0 = 92) : stepN v l = escN v l := by
  unfold stepN; rw [if_pos h1]
/-- where nothing but bytes beyond ASCII is left there is no end -/
theorem strS_high : ∀ (k : Nat) (l : List Int) (v : Bool), (∀ b ∈ l, 128 ≤ b) → strS v k l = none := by
  intro k l
  induction l generalizing k with
  | nil => intro v h; cases k <;> rfl
  | cons b t ih =>
    intro v h
    have hb := h b (List.mem_cons_self ..)
    have ht : ∀ x ∈ t, 128 ≤ x := fun x hx => h x (List.mem_cons_of_mem _ hx)
    cases k with
    | succ k => show (strS v k t).map _ = none; rw [ih k v ht]; rfl
    | zero =>
      show (if b = 34 then some 1 else if stepN v (b :: t) = 0 then none else (strS v (stepN v (b :: t) - 1) t).map (· + 1)) = none
      rw [if_neg (by omega)]
      split
      · rfl
      · rw [ih _ v ht]; rfl
end Go.Proofs.YtjfbkgkpjkickaaGreatDoor.PAll
-- YtjfbkgkpjkickaaGreatDoorBk
set_option linter.unusedVariables false
set_option linter.unusedSimpArgs false
namespace Go.Proofs.YtjfbkgkpjkickaaGreatDoor.PAll
open Go.RowKit Go.Proofs.YtjfbkgkpjkickaaGreatDoorW.PrintWords Go.Proofs.YtjfbkgkpjkickaaGreatDoorW.PrintLast Go.Proofs.YtjfbkgkpjkickaaGreatDoorW.PrintMore

def noEsc (b : Int) : Prop := 32 ≤ b ∧ b < 128 ∧ b ≠ 92 ∧ b ≠ 34
instance (b : Int) : Decidable (noEsc b) := by unfold noEsc; infer_instance
set_option maxRecDepth 100000 in
theorem f180 (b : Int) (w : World) : Calls Tryz.prog 180 #[.int .u8 b] w fun e w' => e = .returned (.bool (decide (noEsc b))) ∧ w' = w := by
  by_cases h1 : b < 128
  · by_cases h2 : 32 ≤ b
    · by_cases h3 : b = 92
      · have d1 : decide (b < 128) = true := decide_eq_true h1
        have d2 : decide (32 ≤ b) = true := decide_eq_true h2
        have d3 : (b != 92) = false := by rw [bne_eq_false_iff_eq]; exact h3
        have hd : decide (noEsc b) = false := decide_eq_false (fun h => h.2.2.1 h3)
        rw [hd]
        clear hd
        go_enter Tryz.func180, Tryz.ntmps180
        go_wp2_with (fail)
        go_returns
        exact ⟨rfl, rfl⟩
      · by_cases h4 : b = 34
        · have d1 : decide (b < 128) = true := decide_eq_true h1
          have d2 : decide (32 ≤ b) = true := decide_eq_true h2
          have d3 : (b != 92) = true := by rw [bne_iff_ne]; exact h3
          have d4 : (b != 34) = false := by rw [bne_eq_false_iff_eq]; exact h4
          have hd : decide (noEsc b) = false := decide_eq_false (fun h => h.2.2.2 h4)
          rw [hd]
          clear hd
          go_enter Tryz.func180, Tryz.ntmps180
          go_wp2_with (fail)
          go_returns
          exact ⟨rfl, rfl⟩
        · have d1 : decide (b < 128) = true := decide_eq_true h1
          have d2 : decide (32 ≤ b) = true := decide_eq_true h2
          have d3 : (b != 92) = true := by rw [bne_iff_ne]; exact h3
          have d4 : (b != 34) = true := by rw [bne_iff_ne]; exact h4
          have hd : decide (noEsc b) = true := decide_eq_true ⟨h2, h1, h3, h4⟩
          rw [hd]
          clear hd
          go_enter Tryz.func180, Tryz.ntmps180
          go_wp2_with (fail)
          go_returns
          exact ⟨rfl, rfl⟩
    · have d1 : decide (b < 128) = true := decide_eq_true h1
      have d2 : decide (32 ≤ b) = false := decide_eq_false h2
      have hd : decide (noEsc b) = false := decide_eq_false (fun h => h2 h.1)
      rw [hd]
      clear hd
      go_enter Tryz.func180, Tryz.ntmps180
      go_wp2_with (fail)
      go_returns
      exact ⟨rfl, rfl⟩
  · have d1 : decide (b < 128) = false := decide_eq_false h1
    have hd : decide (noEsc b) = false := decide_eq_false (fun h => h1 h.2.1)
    rw [hd]
    clear hd
    go_enter Tryz.func180, Tryz.ntmps180
    go_wp2_with (fail)
    go_returns
    exact ⟨rfl, rfl⟩
/-- a plain string: its end is known, whatever the rules -/
def SimpleStr (l : List Int) (n : Nat) : Prop := ∀ v, strEnd v l = some n ∧ Reach v l 1 (n - 1)
theorem simple_start (l : List Int) (hl : 0 < l.length) (h0 : rd l 0 = 34) : ∀ v, strEnd v l = strF v l 1 ∧ Reach v l 1 1 := fun v => ⟨by unfold strEnd; rw [if_pos ⟨hl, h0⟩], Reach.refl⟩
theorem simple_step (l : List Int) (i : Nat) (hi : i < l.length) (b : Int) (hb : rd l (i : Int) = b) (hn : noEsc b) (h : ∀ v, strEnd v l = strF v l i ∧ Reach v l 1 i) : ∀ v, strEnd v l = strF v l (i + 1) ∧ Reach v l 1 (i + 1) := fun v => by
  have hd := rd_drop0 l i
  rw [hb] at hd
  have hs : stepN v (l.drop i) = 1 := stepN_ascii v _ (by rw [hd]; exact hn.2.2.1) (by rw [hd]; exact hn.1) (by rw [hd]; exact hn.2.1)
  refine ⟨?_, ?_⟩
  · rw [(h v).1, strF_step v l i hi, hb, if_neg hn.2.2.2, hs, if_neg (by decide)]
  · have := Reach.snoc i (h v).2 hi ⟨by rw [hd]; exact hn.2.2.1, by rw [hd]; exact hn.2.2.2, fun h => by rw [hd] at h; have := hn.2.1; omega⟩ (by rw [hs]; decide)
    rw [hs] at this
    exact this
theorem simple_end (l : List Int) (i : Nat) (hi : i < l.length) (hb : rd l (i : Int) = 34) (h : ∀ v, strEnd v l = strF v l i ∧ Reach v l 1 i) : SimpleStr l (i + 1) := fun v => by
  refine ⟨?_, (h v).2⟩
  rw [(h v).1, strF_step v l i hi, if_pos hb]
theorem escK_no (b : Nat) (h : b < 128) (he : escK b = 0) : noEsc b := by
  unfold escK at he
  split at he
  · simp at he
  · rename_i h1
    unfold noEsc
    omega
set_option maxRecDepth 100000 in
set_option maxHeartbeats 4000000 in
theorem f119 (B o c : Nat) (l : List Int) (w : World) (G : GV) (hE : Env w G) (hr : RB w B o l) (hl : 0 < l.length) (hl2 : l.length ≤ 4000000000) (hbs : Bs l) :
    Calls Tryz.prog 119 #[.slice (some ⟨B, o, none⟩) l.length c] w fun e w' => ∃ n : Nat, e = .returned (.int .i64 (n : Int)) ∧ (n = 0 ∨ (2 ≤ n ∧ n ≤ l.length ∧ SimpleStr l n)) ∧ w = w' := by
  obtain ⟨b0, h0⟩ : ∃ b0, rd l 0 = b0 := ⟨_, rfl⟩
  have hc0 : w.cell? ⟨B, o, none⟩ = some (.int .u8 b0) := by have := hr 0 hl; rw [show ((0 : Nat) : Int) = 0 from rfl, h0] at this; exact this
  have d1 : decide ((0 : Int) < (l.length : Int)) = true := decide_eq_true (by omega)
  have d2 : decide (0 < l.length) = true := decide_eq_true hl
  have HR := Lib.hid hr
  have HE := Lib.hid hE
  have HBS := Lib.hid hbs
  by_cases h34 : b0 = 34
  · have q0 : (b0 == 34) = true := by rw [beq_iff_eq]; exact h34
    have HS := Lib.hid (simple_start l hl (h0.trans h34))
    clear hr hE hbs h0
    go_enter Tryz.func119, Tryz.ntmps119
    go_wp2_with (fail)
    go_loopg [2] l.length (fun kq v2 w' => ∃ i : Nat, v2 = .int .i64 i ∧ 1 ≤ i ∧ i ≤ l.length ∧ (∀ v, strEnd v l = strF v l i ∧ Reach v l 1 i) ∧ l.length ≤ kq + i ∧ w = w')
    case atStart => exact ⟨1, rfl, by omega, by omega, HS.out, by omega, rfl⟩
    case round => as_aux_lemma =>
      obtain ⟨i, rfl, hi1, hil, hS, hk, rfl⟩ := hrel
      have HI := Lib.hid hS
      clear hS
      by_cases hlt : i < l.length
      · obtain ⟨b, hb⟩ : ∃ b, rd l (i : Int) = b := ⟨_, rfl⟩
        have cb : w.cell? ⟨B, o + i, none⟩ = some (.int .u8 b) := by have := HR.out i hlt; rw [hb] at this; exact this
        obtain ⟨kba, kbb⟩ : 0 ≤ b ∧ b < 256 := by have := HBS.out.rd i; rw [hb] at this; exact this
        obtain ⟨bn, rfl⟩ : ∃ bn : Nat, b = (bn : Int) := ⟨b.toNat, by omega⟩
        have Hb := Lib.hid hb
        clear hb
        have q1 : decide ((i : Int) < (l.length : Int)) = true := decide_eq_true (by omega)
        have q2 : decide (i < l.length) = true := decide_eq_true (by omega)
        by_cases h128 : bn < 128
        · have r1 : decide ((bn : Int) < 128) = true := decide_eq_true (by omega)
          have r2 : decide (bn < 128) = true := decide_eq_true h128
          have ce := HE.out.esc bn h128
          by_cases he : escK bn = 0
          · have r3 : ((escK bn : Int) == 0) = true := by rw [he]; rfl
            have HN := Lib.hid (simple_step l i hlt bn Hb.out (escK_no bn h128 he) HI.out)
            clear he
            generalize escK bn = ek at *
            go_wp2_with (fail)
            go_roundg (gk - 1)
            case measure => omega
            case rel => exact ⟨i + 1, by go_num, by omega, by omega, HN.out, by omega, rfl⟩
          · have r3 : ((escK bn : Int) == 0) = false := by rw [beq_eq_false_iff_ne]; omega
            clear he
            generalize escK bn = ek at *
            by_cases hq : bn = 34
            · have s1 : ((bn : Int) == 34) = true := by rw [beq_iff_eq]; omega
              have HN := Lib.hid (simple_end l i hlt (by rw [Hb.out]; omega) HI.out)
              clear hq
              go_wp2_with (fail)
              go_returns
              exact ⟨i + 1, by go_num, .inr ⟨by omega, by omega, HN.out⟩, rfl⟩
            · have s1 : ((bn : Int) == 34) = false := by rw [beq_eq_false_iff_ne]; omega
              go_wp2_with (fail)
              go_returns
              exact ⟨0, rfl, .inl rfl, rfl⟩
        · have r1 : decide ((bn : Int) < 128) = false := decide_eq_false (by omega)
          have r2 : decide (bn < 128) = false := decide_eq_false h128
          have s1 : ((bn : Int) == 34) = false := by rw [beq_eq_false_iff_ne]; omega
          go_wp2_with (fail)
          go_returns
          exact ⟨0, rfl, .inl rfl, rfl⟩
      · have q1 : decide ((i : Int) < (l.length : Int)) = false := decide_eq_false (by omega)
        have q2 : decide (i < l.length) = false := decide_eq_false (by omega)
        go_wp2_with (fail)
        go_returns
        exact ⟨0, rfl, .inl rfl, rfl⟩
  · have q0 : (b0 == 34) = false := by rw [beq_eq_false_iff_ne]; exact h34
    clear hr hE hbs h0
    go_enter Tryz.func119, Tryz.ntmps119
    go_wp2_with (fail)
    go_returns
    exact ⟨0, rfl, .inl rfl, rfl⟩
end Go.Proofs.YtjfbkgkpjkickaaGreatDoor.PAll
