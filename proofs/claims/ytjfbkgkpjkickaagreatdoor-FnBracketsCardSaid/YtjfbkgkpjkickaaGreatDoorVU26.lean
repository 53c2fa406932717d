/- The texts of a proof, its declarations alone: part 26. -/
import Derived.Test.YtjfbkgkpjkickaaGreatDoorVU9
import Derived.Test.YtjfbkgkpjkickaaGreatDoorVU12
import Derived.Test.YtjfbkgkpjkickaaGreatDoorVU13
import Derived.Test.YtjfbkgkpjkickaaGreatDoorVU16
import Derived.Test.YtjfbkgkpjkickaaGreatDoorVU17
import Derived.Test.YtjfbkgkpjkickaaGreatDoorVU21
import Derived.Test.YtjfbkgkpjkickaaGreatDoorVU23
import Derived.Test.YtjfbkgkpjkickaaGreatDoorVU24
import Derived.Test.YtjfbkgkpjkickaaGreatDoorVU25
set_option linter.unusedVariables false
set_option linter.unusedSimpArgs false
-- YtjfbkgkpjkickaaGreatDoorCd
set_option linter.unusedVariables false
namespace Go.Proofs.YtjfbkgkpjkickaaGreatDoor.PAll
open Go.RowKit Go.Proofs.YtjfbkgkpjkickaaGreatDoorW.PrintWords Go.Proofs.YtjfbkgkpjkickaaGreatDoorW.PrintLast Go.Proofs.YtjfbkgkpjkickaaGreatDoorW.PrintMore

theorem f72 (D B c q : Nat) (t : List Int) (s : DS) (loose dup : Bool) (wz : World) (G : GV) (hIz : Inv wz G D B c t s loose dup) (hT : Top s) (hpe : s.pe = (q : Int)) (hql : q ≤ t.length) (hns : s.nss = .slice none 0 0) (hof : s.offs = .slice none 0 0) (hsk : s.stack = .slice none 0 0) :
    Calls Tryz.prog 72 #[.pointer (some ⟨D, 0, none⟩)] wz (RT t q G D wz) := by
  by_cases h1 : rd t ((q + wsN (t.drop q) : Nat) : Int) = 34
  · exact f72a D B c q t s loose dup wz G hIz hT hpe hql hns hof hsk (fun _ => h1)
  · by_cases h2 : (rd t ((q + wsN (t.drop q) : Nat) : Int) = 45 ∨ (48 ≤ rd t ((q + wsN (t.drop q) : Nat) : Int) ∧ rd t ((q + wsN (t.drop q) : Nat) : Int) ≤ 57))
    · exact f72b D B c q t s loose dup wz G hIz hT hpe hql hns hof hsk (fun _ => h2)
    · exact f72c D B c q t s loose dup wz G hIz hT hpe hql hns hof hsk (fun _ => ⟨h1, fun h => h2 (.inl h), fun h => h2 (.inr h)⟩)
end Go.Proofs.YtjfbkgkpjkickaaGreatDoor.PAll
-- YtjfbkgkpjkickaaGreatDoorPc
set_option linter.unusedVariables false
set_option linter.unusedSimpArgs false
namespace Go.Proofs.YtjfbkgkpjkickaaGreatDoor.PAll
open Go.RowKit Go.Proofs.YtjfbkgkpjkickaaGreatDoorW.PrintWords Go.Proofs.YtjfbkgkpjkickaaGreatDoorW.PrintLast Go.Proofs.YtjfbkgkpjkickaaGreatDoorW.PrintMore

theorem numE_le (l : List Int) (n m : Nat) (hn : n ≤ l.length) (h : numE l n = some m) : m ≤ l.length := by
  unfold numE at h
  split at h
  · split at h
    · split at h
      · injection h with h
        have := digAt_le l (n + 2) (by omega)
        omega
      · cases h
    · split at h
      · injection h with h
        have := digAt_le l (n + 1) (by omega)
        omega
      · cases h
  · injection h with h
    omega
theorem numF_le (l : List Int) (n m : Nat) (hn : n ≤ l.length) (h : numF l n = some m) : m ≤ l.length := by
  unfold numF at h
  split at h
  · split at h
    · exact numE_le l _ m (digAt_le l (n + 1) (by omega)) h
    · cases h
  · exact numE_le l n m hn h
theorem numEnd_le (l : List Int) (m : Nat) (h : numEnd l = some m) : m ≤ l.length := by
  unfold numEnd at h
  have key : ∀ a, numI l a = some m → m ≤ l.length := by
    intro a h
    unfold numI at h
    split at h
    · split at h
      · exact numF_le l _ m (by omega) h
      · split at h
        · exact numF_le l _ m (digAt_le l a (by omega)) h
        · cases h
    · cases h
  exact key _ h
theorem strEnd_le (v : Bool) (l : List Int) (m : Nat) (h : strEnd v l = some m) : m ≤ l.length := by
  unfold strEnd at h
  split at h
  · rename_i hl
    unfold strF at h
    obtain ⟨x, hx, rfl⟩ := Option.map_eq_some_iff.1 h
    have := strS_le v 0 _ x hx
    rw [List.length_drop] at this
    omega
  · cases h
theorem pre_le {a l : List Int} (h : pre a l) : a.length ≤ l.length := by
  have := congrArg List.length h
  rw [List.length_take] at this
  omega
open Classical in
theorem scalEnd_le (v : Bool) (l : List Int) (m : Nat) (h : scalEnd v l = some m) : m ≤ l.length := by
  unfold scalEnd at h
  split at h
  · split at h
    · rename_i hp; injection h with h; have := pre_le hp; simp at this; omega
    · cases h
  · split at h
    · split at h
      · rename_i hp; injection h with h; have := pre_le hp; simp at this; omega
      · cases h
    · split at h
      · split at h
        · rename_i hp; injection h with h; have := pre_le hp; simp at this; omega
        · cases h
      · split at h
        · exact strEnd_le v l m h
        · split at h
          · exact numEnd_le l m h
          · cases h
open Classical in
theorem scalEnd_kind (v : Bool) (l : List Int) (m : Nat) (h : scalEnd v l = some m) : rd l 0 = 110 ∨ rd l 0 = 102 ∨ rd l 0 = 116 ∨ rd l 0 = 34 ∨ rd l 0 = 45 ∨ isD (rd l 0) := by
  unfold scalEnd at h
  split at h
  · rename_i h1; exact .inl h1
  · split at h
    · rename_i h1; exact .inr (.inl h1)
    · split at h
      · rename_i h1; exact .inr (.inr (.inl h1))
      · split at h
        · rename_i h1; exact .inr (.inr (.inr (.inl h1)))
        · split at h
          · rename_i h1; exact .inr (.inr (.inr (.inr h1)))
          · cases h
theorem scalEnd_delim (v : Bool) (l : List Int) (h : rd l 0 = 58 ∨ rd l 0 = 44) : scalEnd v l = none := by
  cases hx : scalEnd v l with
  | none => rfl
  | some m =>
    have := scalEnd_kind v l m hx
    unfold isD at this
    omega
end Go.Proofs.YtjfbkgkpjkickaaGreatDoor.PAll
-- YtjfbkgkpjkickaaGreatDoorCl
set_option linter.unusedVariables false
set_option linter.unusedSimpArgs false
namespace Go.Proofs.YtjfbkgkpjkickaaGreatDoor.PAll
open Go.RowKit Go.Proofs.YtjfbkgkpjkickaaGreatDoorW.PrintWords Go.Proofs.YtjfbkgkpjkickaaGreatDoorW.PrintLast Go.Proofs.YtjfbkgkpjkickaaGreatDoorW.PrintMore

theorem opt_of (d i : Bool) : Opt (flagsOf d i) i d := by
  cases d <;> cases i <;> exact ⟨by decide +kernel, by decide +kernel, by decide +kernel⟩
/-- a value that is no array and no object -/
theorem f95 (D B c p F : Nat) (t : List Int) (s : DS) (loose dup : Bool) (w : World) (G : GV) (hI : Inv w G D B c t s loose dup) (hT : Top s) (hp : p < t.length) (hF : D < F) (hf : FlAt w F 0) (h1 : rd t (p : Int) ≠ 91) (h2 : rd t (p : Int) ≠ 123) :
    Calls Tryz.prog 95 #[.pointer (some ⟨D, 0, none⟩), .pointer (some ⟨F, 0, none⟩), .int .i64 p, .int .i64 1] w (ValAt (scalEnd (!loose) (t.drop p)) t p G F w) := by
  have bd := hI.bs.rd p
  obtain ⟨cn, hcn⟩ : ∃ cn : Nat, rd t (p : Int) = (cn : Int) := ⟨(rd t (p : Int)).toNat, by omega⟩
  have hc2 : cn < 256 := by omega
  by_cases k110 : cn = 110
  · exact f95n D B c p F cn t s loose dup 0 1 w G hI hT hp hF hf (.inl rfl) hc2 hcn k110
  by_cases k102 : cn = 102
  · exact f95f D B c p F cn t s loose dup 0 1 w G hI hT hp hF hf (.inl rfl) hc2 hcn k102
  by_cases k116 : cn = 116
  · exact f95t D B c p F cn t s loose dup 0 1 w G hI hT hp hF hf (.inl rfl) hc2 hcn k116
  by_cases k34 : cn = 34
  · have hc := hI.hc
    have hl := hI.hl
    have hc2' := hI.hc2
    exact f95s D B c p F cn t s loose dup 0 1 w G hI hT hp hF hf (.inl rfl) hc2 hcn k34 (fun W hS => f164 (!loose) F B p (c - p) (t.drop p) 0 W G hS (by rw [List.length_drop]; omega) (by rw [List.length_drop]; omega) (hI.bs.drop p) (by rw [List.length_drop]; omega) (by omega) ((rd_drop0 t p).trans (by rw [hcn, k34]; rfl)))
  by_cases kd : cn = 45 ∨ (48 ≤ cn ∧ cn ≤ 57)
  · exact f95d D B c p F cn t s loose dup 0 1 w G hI hT hp hF hf (.inl rfl) hc2 hcn kd
  exact f95o D B c p F cn t s loose dup 0 1 w G hI hT hp hF hf (.inl rfl) hc2 hcn k34 kd (by omega) k102 k110 k116 (by omega)
/-- IsValid at a text that begins with no bracket -/
theorem isv (d i : Bool) (s : ByteArray) (w : World) (G : GV) (hE0 : Env w G) (hsent : Sent w G w.heap.size) (hlen : s.size ≤ 4000000000)
    (h1 : rd (bytesOf s) ((wsN (bytesOf s) : Nat) : Int) ≠ 91) (h2 : rd (bytesOf s) ((wsN (bytesOf s) : Nat) : Int) ≠ 123) :
    Calls Tryz.prog 16 #[.string s, optsV d i] w (IsV (Valid (scalEnd (!i)) (bytesOf s)) w) :=
  f16 d i s w G (scalEnd (!i)) i d (opt_of d i) hE0 hsent hlen (scalEnd_kind (!i)) (scalEnd_delim (!i)) (scalEnd_le (!i))
    (fun B c D s' F W p hF hp hlt hI hT hf => f95 D B c p F (bytesOf s) s' i d W G hI hT hlt hF hf (by rw [hp]; exact h1) (by rw [hp]; exact h2))
    (fun B c D q' s' W hI hT hpe hq hns hof hsk => f72 D B c q' (bytesOf s) s' i d W G hI hT hpe hq hns hof hsk)
end Go.Proofs.YtjfbkgkpjkickaaGreatDoor.PAll
-- YtjfbkgkpjkickaaGreatDoorQb
set_option linter.unusedVariables false
set_option linter.unusedSimpArgs false
namespace Go.Proofs.YtjfbkgkpjkickaaGreatDoor.PAll
open Go.RowKit Go.Proofs.YtjfbkgkpjkickaaGreatDoorW.PrintWords Go.Proofs.YtjfbkgkpjkickaaGreatDoorW.PrintLast Go.Proofs.YtjfbkgkpjkickaaGreatDoorW.PrintMore

theorem pre_all {a l : List Int} (h : pre a l) (hl : l.length = a.length) : l = a := by
  unfold pre at h
  rw [← hl, List.take_length] at h
  exact h
theorem pre_self (a : List Int) : pre a a := List.take_length
open Classical in
theorem word_iff (v : Bool) (l : List Int) (h : ∀ b ∈ l, 97 ≤ b ∧ b ≤ 122) : Valid (scalEnd v) l ↔ l = [110, 117, 108, 108] ∨ l = [116, 114, 117, 101] ∨ l = [102, 97, 108, 115, 101] := by
  have hw : ∀ b ∈ l, isW b = false := fun b hb => by
    have := h b hb
    unfold isW
    simp only [Bool.or_eq_false_iff, beq_eq_false_iff_ne]
    omega
  cases l with
  | nil =>
    constructor
    · rintro ⟨n, h1, _⟩
      exact absurd h1 (by decide)
    · rintro (h | h | h) <;> cases h
  | cons c t =>
    have hc := h c (List.mem_cons_self ..)
    rw [valid_nows _ _ hw (by simp) (scalEnd_le v _)]
    unfold scalEnd
    rw [rd_cons0]
    constructor
    · intro hv
      split at hv
      · split at hv
        · rename_i hp
          injection hv with hv
          exact .inl (pre_all hp hv.symm)
        · cases hv
      · split at hv
        · split at hv
          · rename_i hp
            injection hv with hv
            exact .inr (.inr (pre_all hp hv.symm))
          · cases hv
        · split at hv
          · split at hv
            · rename_i hp
              injection hv with hv
              exact .inr (.inl (pre_all hp hv.symm))
            · cases hv
          · rw [if_neg (by omega), if_neg (by unfold isD; omega)] at hv
            cases hv
    · rintro (e | e | e)
      · injection e with e1 e2
        subst e1 e2
        rw [if_pos rfl, if_pos (pre_self _)]
        rfl
      · injection e with e1 e2
        subst e1 e2
        rw [if_neg (by decide), if_neg (by decide), if_pos rfl, if_pos (pre_self _)]
        rfl
      · injection e with e1 e2
        subst e1 e2
        rw [if_neg (by decide), if_pos rfl, if_pos (pre_self _)]
        rfl
/-- signs, digits, points, the letter e -/
theorem num_iff (v : Bool) (l : List Int) (h : ∀ b ∈ l, isD b ∨ b = 43 ∨ b = 45 ∨ b = 46 ∨ b = 101 ∨ b = 69) : Valid (scalEnd v) l ↔ nrun 0 l = true := by
  have hw : ∀ b ∈ l, isW b = false := fun b hb => by
    have := h b hb
    unfold isD at this
    unfold isW
    simp only [Bool.or_eq_false_iff, beq_eq_false_iff_ne]
    omega
  cases l with
  | nil =>
    constructor
    · rintro ⟨n, h1, _⟩
      exact absurd h1 (by decide)
    · intro h
      cases h
  | cons c t =>
    have hc := h c (List.mem_cons_self ..)
    rw [valid_nows _ _ hw (by simp) (scalEnd_le v _), numEnd_iff]
    unfold scalEnd
    rw [rd_cons0]
    unfold isD at hc
    rw [if_neg (by omega), if_neg (by omega), if_neg (by omega), if_neg (by omega)]
    by_cases hd : c = 45 ∨ isD c
    · rw [if_pos hd]
    · rw [if_neg hd]
      constructor
      · intro h
        cases h
      · intro h
        exfalso
        unfold numEnd at h
        rw [rd_cons0, if_neg (fun z => hd (.inl z.2))] at h
        unfold numI at h
        rw [if_pos (by simp)] at h
        have e0 : rd (c :: t) ((0 : Nat) : Int) = c := rfl
        rw [e0] at h
        unfold isD at hd
        rw [if_neg (by omega), if_neg (by omega)] at h
        cases h
end Go.Proofs.YtjfbkgkpjkickaaGreatDoor.PAll
-- YtjfbkgkpjkickaaGreatDoorLa
set_option linter.unusedVariables false
namespace Go.Proofs.YtjfbkgkpjkickaaGreatDoor.PAll
open Go.RowKit Go.Proofs.YtjfbkgkpjkickaaGreatDoorW.PrintWords Go.Proofs.YtjfbkgkpjkickaaGreatDoorW.PrintLast Go.Proofs.YtjfbkgkpjkickaaGreatDoorW.PrintMore

theorem head_ws {l : List Int} (h : ∀ b ∈ l.head?, b ≠ 91 ∧ b ≠ 123 ∧ isW b = false) : rd l ((wsN l : Nat) : Int) ≠ 91 ∧ rd l ((wsN l : Nat) : Int) ≠ 123 := by
  cases l with
  | nil => exact ⟨by decide, by decide⟩
  | cons b t =>
    obtain ⟨h1, h2, h3⟩ := h b (by simp)
    have e0 : wsN (b :: t) = 0 := by unfold wsN; rw [h3]; rfl
    rw [e0]
    exact ⟨h1, h2⟩
theorem isv_of {w : World} {G : GV} (hE : Env w G) (hS : Sent w G w.heap.size) : Isv (fun _ i l => Valid (scalEnd (!i)) l) w := by
  intro d i x W hb hlen hh
  obtain ⟨h1, h2⟩ := head_ws hh
  exact isv d i x W G (hE.mono hb) ⟨fun a ha => Nat.lt_of_lt_of_le (hS.lt a ha) hb.size, (hS.mono hb).blk⟩ hlen h1 h2
theorem scal_quote (v : Bool) (l : List Int) : scalEnd v (34 :: (l ++ [34])) = strEnd v (34 :: (l ++ [34])) := by
  unfold scalEnd
  have e : rd (34 :: (l ++ [34])) 0 = 34 := rfl
  rw [e, if_neg (by decide), if_neg (by decide), if_neg (by decide), if_pos rfl]
end Go.Proofs.YtjfbkgkpjkickaaGreatDoor.PAll
