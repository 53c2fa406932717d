/- The texts of a proof, its declarations alone: part 3. -/
import Derived.Deep.DeepCutAuto
import Derived.WalkMore
import Derived.Deep.Light
import Derived.Test.YtjfbkgkpjkickaaGreatDoorVU2
import Derived.Test.YtjfbkgkpjkickaaGreatDoorVU3
import Derived.Test.YtjfbkgkpjkickaaGreatDoorVU4
import Derived.Test.YtjfbkgkpjkickaaGreatDoorVU5
import Derived.Test.YtjfbkgkpjkickaaGreatDoorVU6
import Derived.Test.YtjfbkgkpjkickaaGreatDoorVU7
import Derived.Test.YtjfbkgkpjkickaaGreatDoorVU8
import Derived.Test.YtjfbkgkpjkickaaGreatDoorVE2
set_option linter.unusedVariables false
set_option linter.unusedSimpArgs false
-- YtjfbkgkpjkickaaGreatDoorEc
set_option linter.unusedVariables false
set_option linter.unusedSimpArgs false
namespace Go.Proofs.YtjfbkgkpjkickaaGreatDoor.PAll
open Go.RowKit Go.Proofs.YtjfbkgkpjkickaaGreatDoorW.PrintWords Go.Proofs.YtjfbkgkpjkickaaGreatDoorW.PrintLast Go.Proofs.YtjfbkgkpjkickaaGreatDoorW.PrintMore

/-- what a simple escape stands for -/
def trE (e : Int) : Int := if e = 98 then 8 else if e = 102 then 12 else if e = 110 then 10 else if e = 114 then 13 else if e = 116 then 9 else e
/-- a round over a text of escapes: where it goes on -/
inductive URound (l : List Int) (P : Nat → List Int → Bool → Prop) (n : Nat) (ys : List Int) (er : Bool) : Prop
  | fin (h : rd l (n : Int) = 34) (h1 : n + 1 = l.length)
  | esc (h : rd l (n : Int) = 92) (h2 : n + 1 < l.length) (he : isEsc (rd l ((n + 1 : Nat) : Int))) (hp : P (n + 2) (ys ++ [trE (rd l ((n + 1 : Nat) : Int))]) er)
  | bad (h : rd l (n : Int) = 92) (h2 : n + 1 < l.length) (he : ¬ isEsc (rd l ((n + 1 : Nat) : Int))) (hu : rd l ((n + 1 : Nat) : Int) ≠ 117)
  | uni (h : rd l (n : Int) = 92) (hu : rd l ((n + 1 : Nat) : Int) = 117) (v1 : Int) (hx : hex4 l (n + 2) = some v1) (hs : ¬ (55296 ≤ v1 ∧ v1 ≤ 57343)) (hp : P (n + 6) (ys ++ encR v1) er)
  | lone (h : rd l (n : Int) = 92) (hu : rd l ((n + 1 : Nat) : Int) = 117) (v1 : Int) (hx : hex4 l (n + 2) = some v1) (hs : 55296 ≤ v1 ∧ v1 ≤ 57343) (hl : n + 7 = l.length) (hq : rd l ((n + 6 : Nat) : Int) = 34) (hp : P (n + 6) (ys ++ encR 65533) true)
  | two (h : rd l (n : Int) = 92) (hu : rd l ((n + 1 : Nat) : Int) = 117) (v1 : Int) (hx : hex4 l (n + 2) = some v1) (hs : 55296 ≤ v1 ∧ v1 ≤ 57343) (hl : n + 12 ≤ l.length) (h6 : rd l ((n + 6 : Nat) : Int) = 92) (h7 : rd l ((n + 7 : Nat) : Int) = 117) (v2 : Int) (hx2 : hex4 l (n + 8) = some v2)
      (hp : if pairR v1 v2 = 65533 then P (n + 6) (ys ++ encR 65533) true else P (n + 12) (ys ++ encR (pairR v1 v2)) er)
def ErV (G : GV) (er : Bool) (x : Value) : Prop := (er = false ∧ x = .nilIface) ∨ (er = true ∧ ErrS G x)
theorem ErV.err {G : GV} {x : Value} (h : ErrS G x) : ErV G true x := .inr ⟨rfl, h⟩
def UPost (w0 : World) (G : GV) (B o : Nat) (l : List Int) (P : Nat → List Int → Bool → Prop) (e : Ending) (w' : World) : Prop :=
  ∃ v x ys, e = .returned (.tuple #[v, x]) ∧ US w0 w' B o l v ys ∧ ((x = .nilIface ∧ P (l.length - 1) ys false) ∨ (ErrS G x ∧ (P (l.length - 1) ys true ∨ ∃ n ys' er, P n ys' er ∧ rd l (n : Int) = 92 ∧ ¬ isEsc (rd l ((n + 1 : Nat) : Int)) ∧ rd l ((n + 1 : Nat) : Int) ≠ 117)))
theorem UPost.fin {w0 w' : World} {G : GV} {B o n : Nat} {l ys : List Int} {P : Nat → List Int → Bool → Prop} {v x : Value} {er : Bool} (hU : US w0 w' B o l v ys) (hx : ErV G er x) (hP : P n ys er) (h1 : n + 1 = l.length) : UPost w0 G B o l P (.returned (.tuple #[v, x])) w' := by
  have hn : l.length - 1 = n := by omega
  rcases hx with ⟨rfl, rfl⟩ | ⟨rfl, hx⟩
  · exact ⟨_, _, ys, rfl, hU, .inl ⟨rfl, hn ▸ hP⟩⟩
  · exact ⟨_, _, ys, rfl, hU, .inr ⟨hx, .inl (hn ▸ hP)⟩⟩
theorem f61e (b : Int) (w : World) : Calls Tryz.prog 61 #[.int .u8 b] w fun e w' => e = .returned (.bool (decide (noEsc b))) ∧ w = w' := (f61 b w).mono fun _ _ h => ⟨h.1, h.2.symm⟩

theorem f63q (B o c : Nat) (l : List Int) (w : World) (hr : RB w B o l) (hl : l.length = 1) (h0 : rd l 0 = 34) (hc : 1 ≤ c) :
    Calls Tryz.prog 63 #[.slice (some ⟨B, o, none⟩) l.length c, .bool true] w fun e w' => e = .returned (.bool false) ∧ Drawn0 w w' := by
  obtain ⟨b, rfl⟩ : ∃ b, l = [b] := by
    match l, hl with
    | [b], _ => exact ⟨b, rfl⟩
  obtain rfl : b = 34 := h0
  exact jsontext_internal_jsonwire_hasEscapedUTF16Prefix.calls 20 _ c [34] true false w (hr.C (by decide)) hc (by rfl)

set_option maxRecDepth 100000 in
set_option maxHeartbeats 40000000 in
theorem f34 (l : List Int) (P : Nat → List Int → Bool → Prop) (G : GV) (B o c g cap : Nat) (w0 w : World) (hE : Env w0 G) (hU : US w0 w B o l (.slice (some ⟨g, 0, none⟩) 0 cap) []) (hl : 0 < l.length) (hl2 : l.length ≤ 1000) (hbs : Bs l) (hc : l.length ≤ c) (hc2 : c ≤ 9223372036854775807) (h0 : rd l 0 = 34)
    (hP : ∀ n ys er, P n ys er → URound l P n ys er ∧ n < l.length ∧ 1 ≤ n ∧ ys.length ≤ 10000) (hs : P 1 [] false) :
    Calls Tryz.prog 34 #[.slice (some ⟨g, 0, none⟩) 0 cap, .slice (some ⟨B, o, none⟩) l.length c] w (UPost w0 G B o l P) := by
  have C59 := Lib.hid (f59 (w0 := w0) (ok := fun k => k ≠ B) g cap l.length hU.rm hU.bel.size (by omega) (fun k hk => by have := hU.hB; omega))
  have H0 := Lib.hid hU
  have HE := Lib.hid hE
  have HBS := Lib.hid hbs
  have HP := Lib.hid hP
  have HS := Lib.hid hs
  have HR0 := Lib.hid h0
  have hn1 := (hP 1 [] false hs).2.1
  have d1 : decide ((0 : Int) < (l.length : Int)) = true := decide_eq_true (by omega)
  have d2 : decide (0 < l.length) = true := decide_eq_true hl
  have d3 : ((l.length : Int) == 0) = false := by rw [beq_eq_false_iff_ne]; omega
  clear hU hE hbs hP hs h0
  go_enter Tryz.func34, Tryz.ntmps34
  go_wp2_with (fail)
  refine C59.out.mono ?_
  rintro en w1 ⟨v1, rfl, hr1, hb1⟩
  have HU1 := Lib.hid (show US w0 w1 B o l v1 [] from ⟨H0.out.bel.trans (hb1.mono H0.out.bel.size), hr1, H0.out.rb.mono hb1, Nat.lt_of_lt_of_le H0.out.hB hb1.size⟩)
  have hc0 : w1.cell? ⟨B, o, none⟩ = some (.int .u8 34) := by have := HU1.out.rb 0 hl; rw [show ((0 : Nat) : Int) = 0 from rfl, HR0.out] at this; exact this
  clear hr1 hb1 C59 H0
  go_wp2_with (fail)
  go_loopg [0, 5, 6, 7] l.length (fun kq s0 s5 s6 s7 w' => ∃ (n : Nat) (ys : List Int) (er : Bool), s6 = .int .i64 n ∧ s7 = .int .i64 n ∧ n < l.length ∧ 1 ≤ n ∧ l.length ≤ kq + n ∧ Hid (P n ys er) ∧ Hid (ErV G er s5) ∧ Hid (US w0 w' B o l s0 ys))
  case atStart => exact ⟨1, [], false, by first | rfl | go_num, by first | rfl | go_num, hn1, by omega, by omega, HS, Lib.hid (.inl ⟨rfl, rfl⟩), HU1⟩
  case round => as_aux_lemma =>
    obtain ⟨n, ys, er, rfl, rfl, hnl, hn1', hk, HPN, HX, HU⟩ := hrel
    obtain ⟨gko, rfl⟩ : ∃ x, x = gk := ⟨gk, rfl⟩
    clear hc0 d1 d2 d3 HU1 HS HR0
    obtain ⟨hrd, _, _, hyl⟩ := HP.out n ys er HPN.out
    have q1 : decide ((n : Int) < (l.length : Int)) = true := decide_eq_true (by go_light; omega)
    have q2 : decide (n < l.length) = true := decide_eq_true (by go_light; omega)
    have q3 : decide ((l.length : Int) ≤ (n : Int)) = false := decide_eq_false (by go_light; omega)
    have q4 : decide (l.length ≤ n) = false := decide_eq_false (by go_light; omega)
    obtain ⟨b, hb⟩ : ∃ b, rd l (n : Int) = b := ⟨_, rfl⟩
    have cb : wr.cell? ⟨B, o + n, none⟩ = some (.int .u8 b) := by have := HU.out.rb n hnl; rw [hb] at this; exact this
    have hbb : b = 34 ∨ b = 92 := by cases hrd with | fin h _ => exact .inl (hb ▸ h) | esc h => exact .inr (hb ▸ h) | bad h => exact .inr (hb ▸ h) | uni h => exact .inr (hb ▸ h) | lone h => exact .inr (hb ▸ h) | two h => exact .inr (hb ▸ h)
    have r1 : decide (noEsc b) = false := decide_eq_false (by unfold noEsc; omega)
    have HRD := Lib.hid hrd
    have Hb := Lib.hid hb
    clear hrd hb
    go_wp2_with (fail)
    go_loopg [7] 1 (fun kq s7 w' => s7 = .int .i64 n ∧ wr = w')
    case atStart => exact ⟨rfl, rfl⟩
    case round => as_aux_lemma =>
      obtain ⟨rfl, rfl⟩ := hrel
      rcases hbb with rfl | rfl
      · as_aux_lemma =>
          have r2 : ((34 : Int) == 34) = true := rfl
          have h1 : n + 1 = l.length := by
            cases HRD.out with
            | fin _ h1 => exact h1
            | esc h => exact absurd (h.symm.trans Hb.out) (by decide)
            | bad h => exact absurd (h.symm.trans Hb.out) (by decide)
            | uni h => exact absurd (h.symm.trans Hb.out) (by decide)
            | lone h => exact absurd (h.symm.trans Hb.out) (by decide)
            | two h => exact absurd (h.symm.trans Hb.out) (by decide)
          have z1 : decide ((n : Int) + 1 < (l.length : Int)) = false := decide_eq_false (by go_light; omega)
          have z2 : decide (n + 1 < l.length) = false := decide_eq_false (by go_light; omega)
          go_wp2_with (first | (go_at_call 61; refine (f61e _ _).mono ?_; rintro en w1 ⟨rfl, rfl⟩) | ((with_reducible refine gate_builtin (b := .append) (xs := #[.tmp 77, .tmp 81]) rfl ?_); at_builtin; refine US_none (w0 := w0) rfl (.tmp 77) (.tmp 81) rfl u0 ys _ _ _ rfl rfl (by omega) HU.out (by omega) ?_; intro v2 w2 hU2; have HU2 := Lib.hid hU2; clear hU2))
          go_returns
          exact UPost.fin HU2.out HX.out HPN.out h1
      · as_aux_lemma =>
          have r2 : ((92 : Int) == 34) = false := rfl
          have C62 := Lib.hid (f62a B (o + n) (c - n) (l.drop n) 92 wr (HU.out.rb.sub n (o + n) (fun _ => rfl)) (by rw [List.length_drop]; omega) (by rw [List.length_drop]; omega) ((rd_drop0 l n).trans Hb.out) (by decide) (by decide))
          rw [List.length_drop] at C62
          have h2 : n + 1 < l.length := by
            cases HRD.out with
            | fin h => exact absurd (h.symm.trans Hb.out) (by decide)
            | esc _ h2 => exact h2
            | bad _ h2 => exact h2
            | uni _ _ v1 hx => have := hex4_len hx; omega
            | lone _ _ v1 hx => have := hex4_len hx; omega
            | two _ _ v1 hx => have := hex4_len hx; omega
          obtain ⟨e, he⟩ : ∃ e, rd l ((n + 1 : Nat) : Int) = e := ⟨_, rfl⟩
          have ce : ∀ v' W', Hid (US w0 W' B o l v' ys) → W'.cell? ⟨B, o + (n + 1), none⟩ = some (.int .u8 e) := fun v' W' H => by have := H.out.rb (n + 1) h2; rw [he] at this; exact this
          have He := Lib.hid he
          have s1 : decide ((l.length : Int) < (n : Int) + 2) = false := decide_eq_false (by go_light; omega)
          have s2 : decide (l.length < n + 2) = false := decide_eq_false (by go_light; omega)
          clear he
          go_wp2_with (go_at_call 61; refine (f61e _ _).mono ?_; rintro en w1 ⟨rfl, rfl⟩)
          refine C62.out.mono ?_
          rintro en w1 ⟨rfl, rfl⟩
          clear cb r1 C62
          cases HRD.out with
          | fin h => exact absurd (h.symm.trans Hb.out) (by decide)
          | esc hz hz2 hesc hp =>
            rw [He.out] at hesc hp
            have HPP := Lib.hid hp
            have hn2 : n + 2 < l.length := (HP.out _ _ _ hp).2.1
            unfold isEsc at hesc
            clear hp hz hz2
            rcases hesc with rfl | rfl | rfl | rfl | rfl | rfl | rfl | rfl
            · as_aux_lemma =>
                go_wp2_with (first | ((with_reducible refine gate_builtin (b := .append) (xs := #[.tmp 112, .tmp 116]) rfl ?_); at_builtin; refine US_none (w0 := w0) rfl (.tmp 112) (.tmp 116) rfl u0 ys _ _ _ rfl rfl (by omega) HU.out (by omega) ?_; intro v2 w2 hU2; have HU2 := Lib.hid hU2; clear hU2; have ce2 := ce _ _ HU2; clear ce) | ((with_reducible refine gate_builtin (b := .append) (xs := #[.tmp 144, .tmp 146]) rfl ?_); at_builtin; refine US_put (w0 := w0) rfl (.tmp 144) (.tmp 146) rfl v2 ys [_] _ _ rfl rfl rfl rfl HU2.out (by simp; omega) ?_; intro v3 w3 hU3; have HU3 := Lib.hid hU3; clear hU3))
                go_roundg (gko - 1)
                case measure => go_light; omega
                case rel => exact ⟨n + 2, _, er, by first | rfl | go_num, by first | rfl | go_num, hn2, by omega, by omega, HPP, HX, HU3⟩
            · as_aux_lemma =>
                go_wp2_with (first | ((with_reducible refine gate_builtin (b := .append) (xs := #[.tmp 112, .tmp 116]) rfl ?_); at_builtin; refine US_none (w0 := w0) rfl (.tmp 112) (.tmp 116) rfl u0 ys _ _ _ rfl rfl (by omega) HU.out (by omega) ?_; intro v2 w2 hU2; have HU2 := Lib.hid hU2; clear hU2; have ce2 := ce _ _ HU2; clear ce) | ((with_reducible refine gate_builtin (b := .append) (xs := #[.tmp 144, .tmp 146]) rfl ?_); at_builtin; refine US_put (w0 := w0) rfl (.tmp 144) (.tmp 146) rfl v2 ys [_] _ _ rfl rfl rfl rfl HU2.out (by simp; omega) ?_; intro v3 w3 hU3; have HU3 := Lib.hid hU3; clear hU3))
                go_roundg (gko - 1)
                case measure => go_light; omega
                case rel => exact ⟨n + 2, _, er, by first | rfl | go_num, by first | rfl | go_num, hn2, by omega, by omega, HPP, HX, HU3⟩
            · as_aux_lemma =>
                go_wp2_with (first | ((with_reducible refine gate_builtin (b := .append) (xs := #[.tmp 112, .tmp 116]) rfl ?_); at_builtin; refine US_none (w0 := w0) rfl (.tmp 112) (.tmp 116) rfl u0 ys _ _ _ rfl rfl (by omega) HU.out (by omega) ?_; intro v2 w2 hU2; have HU2 := Lib.hid hU2; clear hU2; have ce2 := ce _ _ HU2; clear ce) | ((with_reducible refine gate_builtin (b := .append) (xs := #[.tmp 144, .tmp 146]) rfl ?_); at_builtin; refine US_put (w0 := w0) rfl (.tmp 144) (.tmp 146) rfl v2 ys [_] _ _ rfl rfl rfl rfl HU2.out (by simp; omega) ?_; intro v3 w3 hU3; have HU3 := Lib.hid hU3; clear hU3))
                go_roundg (gko - 1)
                case measure => go_light; omega
                case rel => exact ⟨n + 2, _, er, by first | rfl | go_num, by first | rfl | go_num, hn2, by omega, by omega, HPP, HX, HU3⟩
            · as_aux_lemma =>
                go_wp2_with (first | ((with_reducible refine gate_builtin (b := .append) (xs := #[.tmp 112, .tmp 116]) rfl ?_); at_builtin; refine US_none (w0 := w0) rfl (.tmp 112) (.tmp 116) rfl u0 ys _ _ _ rfl rfl (by omega) HU.out (by omega) ?_; intro v2 w2 hU2; have HU2 := Lib.hid hU2; clear hU2; have ce2 := ce _ _ HU2; clear ce) | ((with_reducible refine gate_builtin (b := .append) (xs := #[.tmp 152, .tmp 153]) rfl ?_); at_builtin; refine US_put (w0 := w0) rfl (.tmp 152) (.tmp 153) rfl v2 ys [_] _ _ rfl rfl rfl rfl HU2.out (by simp; omega) ?_; intro v3 w3 hU3; have HU3 := Lib.hid hU3; clear hU3))
                go_roundg (gko - 1)
                case measure => go_light; omega
                case rel => exact ⟨n + 2, _, er, by first | rfl | go_num, by first | rfl | go_num, hn2, by omega, by omega, HPP, HX, HU3⟩
            · as_aux_lemma =>
                go_wp2_with (first | ((with_reducible refine gate_builtin (b := .append) (xs := #[.tmp 112, .tmp 116]) rfl ?_); at_builtin; refine US_none (w0 := w0) rfl (.tmp 112) (.tmp 116) rfl u0 ys _ _ _ rfl rfl (by omega) HU.out (by omega) ?_; intro v2 w2 hU2; have HU2 := Lib.hid hU2; clear hU2; have ce2 := ce _ _ HU2; clear ce) | ((with_reducible refine gate_builtin (b := .append) (xs := #[.tmp 159, .tmp 160]) rfl ?_); at_builtin; refine US_put (w0 := w0) rfl (.tmp 159) (.tmp 160) rfl v2 ys [_] _ _ rfl rfl rfl rfl HU2.out (by simp; omega) ?_; intro v3 w3 hU3; have HU3 := Lib.hid hU3; clear hU3))
                go_roundg (gko - 1)
                case measure => go_light; omega
                case rel => exact ⟨n + 2, _, er, by first | rfl | go_num, by first | rfl | go_num, hn2, by omega, by omega, HPP, HX, HU3⟩
            · as_aux_lemma =>
                go_wp2_with (first | ((with_reducible refine gate_builtin (b := .append) (xs := #[.tmp 112, .tmp 116]) rfl ?_); at_builtin; refine US_none (w0 := w0) rfl (.tmp 112) (.tmp 116) rfl u0 ys _ _ _ rfl rfl (by omega) HU.out (by omega) ?_; intro v2 w2 hU2; have HU2 := Lib.hid hU2; clear hU2; have ce2 := ce _ _ HU2; clear ce) | ((with_reducible refine gate_builtin (b := .append) (xs := #[.tmp 166, .tmp 167]) rfl ?_); at_builtin; refine US_put (w0 := w0) rfl (.tmp 166) (.tmp 167) rfl v2 ys [_] _ _ rfl rfl rfl rfl HU2.out (by simp; omega) ?_; intro v3 w3 hU3; have HU3 := Lib.hid hU3; clear hU3))
                go_roundg (gko - 1)
                case measure => go_light; omega
                case rel => exact ⟨n + 2, _, er, by first | rfl | go_num, by first | rfl | go_num, hn2, by omega, by omega, HPP, HX, HU3⟩
            · as_aux_lemma =>
                go_wp2_with (first | ((with_reducible refine gate_builtin (b := .append) (xs := #[.tmp 112, .tmp 116]) rfl ?_); at_builtin; refine US_none (w0 := w0) rfl (.tmp 112) (.tmp 116) rfl u0 ys _ _ _ rfl rfl (by omega) HU.out (by omega) ?_; intro v2 w2 hU2; have HU2 := Lib.hid hU2; clear hU2; have ce2 := ce _ _ HU2; clear ce) | ((with_reducible refine gate_builtin (b := .append) (xs := #[.tmp 173, .tmp 174]) rfl ?_); at_builtin; refine US_put (w0 := w0) rfl (.tmp 173) (.tmp 174) rfl v2 ys [_] _ _ rfl rfl rfl rfl HU2.out (by simp; omega) ?_; intro v3 w3 hU3; have HU3 := Lib.hid hU3; clear hU3))
                go_roundg (gko - 1)
                case measure => go_light; omega
                case rel => exact ⟨n + 2, _, er, by first | rfl | go_num, by first | rfl | go_num, hn2, by omega, by omega, HPP, HX, HU3⟩
            · as_aux_lemma =>
                go_wp2_with (first | ((with_reducible refine gate_builtin (b := .append) (xs := #[.tmp 112, .tmp 116]) rfl ?_); at_builtin; refine US_none (w0 := w0) rfl (.tmp 112) (.tmp 116) rfl u0 ys _ _ _ rfl rfl (by omega) HU.out (by omega) ?_; intro v2 w2 hU2; have HU2 := Lib.hid hU2; clear hU2; have ce2 := ce _ _ HU2; clear ce) | ((with_reducible refine gate_builtin (b := .append) (xs := #[.tmp 180, .tmp 181]) rfl ?_); at_builtin; refine US_put (w0 := w0) rfl (.tmp 180) (.tmp 181) rfl v2 ys [_] _ _ rfl rfl rfl rfl HU2.out (by simp; omega) ?_; intro v3 w3 hU3; have HU3 := Lib.hid hU3; clear hU3))
                go_roundg (gko - 1)
                case measure => go_light; omega
                case rel => exact ⟨n + 2, _, er, by first | rfl | go_num, by first | rfl | go_num, hn2, by omega, by omega, HPP, HX, HU3⟩
          | bad hz hz2 hesc hu =>
            rw [He.out] at hesc hu
            as_aux_lemma =>
              have k34 : (e == 34) = false := by rw [beq_eq_false_iff_ne]; unfold isEsc at hesc; omega
              have k92 : (e == 92) = false := by rw [beq_eq_false_iff_ne]; unfold isEsc at hesc; omega
              have k47 : (e == 47) = false := by rw [beq_eq_false_iff_ne]; unfold isEsc at hesc; omega
              have k98 : (e == 98) = false := by rw [beq_eq_false_iff_ne]; unfold isEsc at hesc; omega
              have k102 : (e == 102) = false := by rw [beq_eq_false_iff_ne]; unfold isEsc at hesc; omega
              have k110 : (e == 110) = false := by rw [beq_eq_false_iff_ne]; unfold isEsc at hesc; omega
              have k114 : (e == 114) = false := by rw [beq_eq_false_iff_ne]; unfold isEsc at hesc; omega
              have k116 : (e == 116) = false := by rw [beq_eq_false_iff_ne]; unfold isEsc at hesc; omega
              have k117 : (e == 117) = false := by rw [beq_eq_false_iff_ne]; exact hu
              have HBAD := Lib.hid (show ∃ n ys' er, P n ys' er ∧ rd l (n : Int) = 92 ∧ ¬ isEsc (rd l ((n + 1 : Nat) : Int)) ∧ rd l ((n + 1 : Nat) : Int) ≠ 117 from ⟨n, ys, er, HPN.out, Hb.out, by rw [He.out]; exact hesc, by rw [He.out]; exact hu⟩)
              clear hesc hu hz
              go_wp2_with (((with_reducible refine gate_builtin (b := .append) (xs := #[.tmp 112, .tmp 116]) rfl ?_); at_builtin; refine US_none (w0 := w0) rfl (.tmp 112) (.tmp 116) rfl u0 ys _ _ _ rfl rfl (by omega) HU.out (by omega) ?_; intro v2 w2 hU2; have HU2 := Lib.hid hU2; clear hU2; have ce2 := ce _ _ HU2; clear ce))
              refine (f64g B _ _ _ w2 ?hcell ?hn64 ?hc64).mono ?_
              case hcell => exact sub_cells HU2.out.rb n _ _ (by omega) (by omega)
              case hn64 => omega
              case hc64 => omega
              rintro en w3 ⟨gg, rfl, hb⟩
              have HU3 := Lib.hid (HU2.out.next hb)
              clear hb
              go_wp2_with (fail)
              go_returns
              exact ⟨_, _, ys, rfl, HU3.out, .inr ⟨.inr ⟨gg, rfl⟩, .inr HBAD.out⟩⟩
          | uni hz hu v1 hx hsu hp =>
            rw [He.out] at hu
            subst hu
            obtain ⟨v1a, v1b⟩ := hex4_bd hx
            have h6l : n + 6 ≤ l.length := by have := hex4_len hx; omega
            have u1 : decide ((l.length : Int) < (n : Int) + 6) = false := decide_eq_false (by go_light; omega)
            have u2 : decide (l.length < n + 6) = false := decide_eq_false (by go_light; omega)
            have hw : wrap32 v1 = v1 := by unfold wrap32; omega
            have C65 := Lib.hid (fun (W : World) (hr : RB W B o l) => f65 B o (c - (n + 2)) l (n + 2) W hr (by omega) (by omega))
            rw [hx] at C65
            simp only [hexR] at C65
            have HX1 := Lib.hid hx
            clear hx hz
            have HPP := Lib.hid hp
            have hn6 : n + 6 < l.length := (HP.out _ _ _ hp).2.1
            clear hp
            have C66 : ∀ W : World, Calls Tryz.prog 66 #[.int .i32 v1] W fun e w' => e = .returned (.bool false) ∧ Drawn0 W w' := fun W => by have := f66 v1 W; rw [decide_eq_false hsu] at this; exact this
            as_aux_lemma =>
              go_wp2_with (((with_reducible refine gate_builtin (b := .append) (xs := #[.tmp 112, .tmp 116]) rfl ?_); at_builtin; refine US_none (w0 := w0) rfl (.tmp 112) (.tmp 116) rfl u0 ys _ _ _ rfl rfl (by omega) HU.out (by omega) ?_; intro v2 w2 hU2; have HU2 := Lib.hid hU2; clear hU2; have ce2 := ce _ _ HU2; clear ce))
              refine (C65.out _ HU2.out.rb).mono ?_
              rintro en w3 ⟨rfl, m3, rfl⟩
              go_wp2_with (fail)
              refine (C66 _).mono ?_
              rintro en w4 ⟨rfl, m4, rfl⟩
              go_wp2_with (fail)
              refine (f67 v1 (by omega) (by omega) hsu (HU2.out.drewN (m3 + m4)) (by omega)).mono ?_
              rintro en w5 ⟨v5, rfl, hU5⟩
              have HU5 := Lib.hid hU5
              clear hU5
              go_wp2_with (fail)
              go_roundg (gko - 1)
              case measure => go_light; omega
              case rel => exact ⟨n + 6, _, er, by first | rfl | go_num, by first | rfl | go_num, hn6, by omega, by omega, HPP, HX, HU5⟩
          | lone hz hu v1 hx hsu hl7 hq hp =>
            rw [He.out] at hu
            subst hu
            obtain ⟨v1a, v1b⟩ := hex4_bd hx
            have h6l : n + 6 ≤ l.length := by have := hex4_len hx; omega
            have u1 : decide ((l.length : Int) < (n : Int) + 6) = false := decide_eq_false (by go_light; omega)
            have u2 : decide (l.length < n + 6) = false := decide_eq_false (by go_light; omega)
            have hw : wrap32 v1 = v1 := by unfold wrap32; omega
            have C65 := Lib.hid (fun (W : World) (hr : RB W B o l) => f65 B o (c - (n + 2)) l (n + 2) W hr (by omega) (by omega))
            rw [hx] at C65
            simp only [hexR] at C65
            have HX1 := Lib.hid hx
            clear hx hz
            have HPP := Lib.hid hp
            clear hp
            have C66 : ∀ W : World, Calls Tryz.prog 66 #[.int .i32 v1] W fun e w' => e = .returned (.bool true) ∧ Drawn0 W w' := fun W => by have := f66 v1 W; rw [decide_eq_true hsu] at this; exact this
            obtain ⟨p, hp6⟩ : ∃ p : Nat, p = n + 6 := ⟨_, rfl⟩
            have HPI := Lib.hid (show (n : Int) + 6 = (p : Int) by omega)
            have hpm : (p : Int) - 6 = (n : Int) := by omega
            have hnp : n < p := by omega
            rw [← hp6] at HPP
            have hpl : p + 1 = l.length := by omega
            have u3 : decide ((l.length : Int) < (p : Int) + 6) = true := decide_eq_true (by go_light; omega)
            have u4 : decide (l.length < p + 6) = true := decide_eq_true (by go_light; omega)
            have C63 := Lib.hid (fun (W : World) (hr : RB W B o l) => f63q B (o + p) (c - p) (l.drop p) W (hr.sub p (o + p) (fun _ => rfl)) (by rw [List.length_drop]; omega) (by rw [rd_drop0, hp6]; exact hq) (by omega))
            rw [List.length_drop] at C63
            clear hp6 hl7
            as_aux_lemma =>
              go_wp2_with (((with_reducible refine gate_builtin (b := .append) (xs := #[.tmp 112, .tmp 116]) rfl ?_); at_builtin; refine US_none (w0 := w0) rfl (.tmp 112) (.tmp 116) rfl u0 ys _ _ _ rfl rfl (by omega) HU.out (by omega) ?_; intro v2 w2 hU2; have HU2 := Lib.hid hU2; clear hU2; have ce2 := ce _ _ HU2; clear ce))
              refine (C65.out _ HU2.out.rb).mono ?_
              rintro en w3 ⟨rfl, m3, rfl⟩
              go_wp2_with (fail)
              rw [HPI.out]
              refine (C66 _).mono ?_
              rintro en w4 ⟨rfl, m4, rfl⟩
              go_wp2_with (fail)
              have HU4 := Lib.hid (HU2.out.drewN (m3 + m4))
              refine (C63.out _ HU4.out.rb).mono ?_
              rintro en w5 ⟨rfl, hd5⟩
              have HU5 := Lib.hid (HU4.out.next hd5.below)
              clear hd5
              go_wp2_with (fail)
              refine (f64g B _ _ _ w5 ?hcell ?hn64 ?hc64).mono ?_
              case hcell => exact sub_cells HU5.out.rb n _ _ (by omega) (by omega)
              case hn64 => omega
              case hc64 => omega
              rintro en w6 ⟨gg, rfl, hb⟩
              have HU6 := Lib.hid (HU5.out.next hb)
              clear hb
              go_wp2_with (fail)
              refine (f67 65533 (by decide) (by decide) (by decide) HU6.out (by omega)).mono ?_
              rintro en w7 ⟨v7, rfl, hU7⟩
              have HU7 := Lib.hid hU7
              clear hU7
              go_wp2_with (fail)
              go_roundg (gko - 1)
              case measure => go_light; omega
              case rel => exact ⟨p, _, true, by first | rfl | go_num, by first | rfl | go_num, by omega, by omega, by omega, HPP, Lib.hid (ErV.err (.inr ⟨gg, rfl⟩)), HU7⟩
          | two hz hu v1 hx hsu hl12 h6 h7 v2 hx2 hp =>
            rw [He.out] at hu
            subst hu
            obtain ⟨v1a, v1b⟩ := hex4_bd hx
            have h6l : n + 6 ≤ l.length := by have := hex4_len hx; omega
            have u1 : decide ((l.length : Int) < (n : Int) + 6) = false := decide_eq_false (by go_light; omega)
            have u2 : decide (l.length < n + 6) = false := decide_eq_false (by go_light; omega)
            have hw : wrap32 v1 = v1 := by unfold wrap32; omega
            have C65 := Lib.hid (fun (W : World) (hr : RB W B o l) => f65 B o (c - (n + 2)) l (n + 2) W hr (by omega) (by omega))
            rw [hx] at C65
            simp only [hexR] at C65
            have HX1 := Lib.hid hx
            clear hx hz
            have C66 : ∀ W : World, Calls Tryz.prog 66 #[.int .i32 v1] W fun e w' => e = .returned (.bool true) ∧ Drawn0 W w' := fun W => by have := f66 v1 W; rw [decide_eq_true hsu] at this; exact this
            obtain ⟨p, hp6⟩ : ∃ p : Nat, p = n + 6 := ⟨_, rfl⟩
            have HPI := Lib.hid (show (n : Int) + 6 = (p : Int) by omega)
            have hpm : (p : Int) - 6 = (n : Int) := by omega
            have hnp : n < p := by omega
            obtain ⟨v2a, v2b⟩ := hex4_bd hx2
            have hw2 : wrap32 v2 = v2 := by unfold wrap32; omega
            have hpl : p + 6 ≤ l.length := by omega
            have u3 : decide ((l.length : Int) < (p : Int) + 6) = false := decide_eq_false (by go_light; omega)
            have u4 : decide (l.length < p + 6) = false := decide_eq_false (by go_light; omega)
            have C652 := Lib.hid (fun (W : World) (hr : RB W B o l) => f65 B o (c - (p + 2)) l (p + 2) W hr (by omega) (by omega))
            rw [show p + 2 = n + 8 by omega, hx2] at C652
            simp only [hexR] at C652
            rw [show n + 8 = p + 2 by omega] at C652
            have c6f : ∀ v' W', US w0 W' B o l v' ys → W'.cell? ⟨B, o + p, none⟩ = some (.int .u8 92) := fun v' W' H => by have := H.rb p (by omega); rw [hp6, h6, ← hp6] at this; exact this
            have c7f : ∀ v' W', US w0 W' B o l v' ys → W'.cell? ⟨B, o + (p + 1), none⟩ = some (.int .u8 117) := fun v' W' H => by have := H.rb (p + 1) (by omega); rw [show p + 1 = n + 7 by omega, h7, show n + 7 = p + 1 by omega] at this; exact this
            have C6F := Lib.hid c6f
            have C7F := Lib.hid c7f
            have y6 : ((92 : Int) != 92) = false := rfl
            have y7 : ((117 : Int) != 117) = false := rfl
            clear c6f c7f h6 h7 hx2
            have HP6 := Lib.hid hp6
            clear hp6
            by_cases hpr : pairR v1 v2 = 65533
            · as_aux_lemma =>
                rw [if_pos hpr] at hp
                have HPP := Lib.hid hp
                rw [← HP6.out] at HPP
                have hn6 : p < l.length := by omega
                have y8 : (pairR v1 v2 == 65533) = true := by rw [beq_iff_eq]; exact hpr
                have C68 := Lib.hid (f68 v1 v2)
                generalize pairR v1 v2 = pr at *
                clear hp
                go_wp2_with (((with_reducible refine gate_builtin (b := .append) (xs := #[.tmp 112, .tmp 116]) rfl ?_); at_builtin; refine US_none (w0 := w0) rfl (.tmp 112) (.tmp 116) rfl u0 ys _ _ _ rfl rfl (by omega) HU.out (by omega) ?_; intro v2 w2 hU2; have HU2 := Lib.hid hU2; clear hU2; have ce2 := ce _ _ HU2; clear ce))
                refine (C65.out _ HU2.out.rb).mono ?_
                rintro en w3 ⟨rfl, m3, rfl⟩
                go_wp2_with (fail)
                rw [HPI.out]
                refine (C66 _).mono ?_
                rintro en w4 ⟨rfl, m4, rfl⟩
                go_wp2_with (fail)
                have HU4 := Lib.hid (HU2.out.drewN (m3 + m4))
                refine (C652.out _ HU4.out.rb).mono ?_
                rintro en w5 ⟨rfl, hd5⟩
                have HU5 := Lib.hid (HU4.out.next hd5.below)
                clear hd5
                have c6 := C6F.out _ _ HU5.out
                have c7 := C7F.out _ _ HU5.out
                go_wp2_with (fail)
                refine (C68.out _).mono ?_
                rintro en w6 ⟨rfl, hd6⟩
                have HU6 := Lib.hid (HU5.out.next hd6.below)
                clear hd6
                go_wp2_with (fail)
                refine (f64g B _ _ _ w6 ?hcell ?hn64 ?hc64).mono ?_
                case hcell => exact sub_cells HU6.out.rb n _ _ (by omega) (by omega)
                case hn64 => omega
                case hc64 => omega
                rintro en w7 ⟨gg, rfl, hb⟩
                have HU7 := Lib.hid (HU6.out.next hb)
                clear hb
                go_wp2_with (fail)
                subst hpr
                refine (f67 65533 (by decide) (by decide) (by decide) HU7.out (by omega)).mono ?_
                rintro en w8 ⟨v8, rfl, hU8⟩
                have HU8 := Lib.hid hU8
                clear hU8
                go_wp2_with (fail)
                go_roundg (gko - 1)
                case measure => go_light; omega
                case rel => exact ⟨p, _, true, by first | rfl | go_num, by first | rfl | go_num, hn6, by omega, by omega, HPP, Lib.hid (ErV.err (.inr ⟨gg, rfl⟩)), HU8⟩
            · as_aux_lemma =>
                rw [if_neg hpr] at hp
                have HPP := Lib.hid hp
                rw [show n + 12 = p + 6 by have := HP6.out; omega] at HPP
                have hn6 : p + 6 < l.length := (HP.out _ _ _ HPP.out).2.1
                have y8 : (pairR v1 v2 == 65533) = false := by rw [beq_eq_false_iff_ne]; exact hpr
                have hpc : 65536 ≤ pairR v1 v2 ∧ pairR v1 v2 ≤ 1114111 := by
                  have hv := Classical.not_not.1 (fun h => hpr ((pairR_ne v1 v2).2 h))
                  unfold pairR
                  rw [if_pos hv]
                  omega
                have C68 := Lib.hid (f68 v1 v2)
                generalize pairR v1 v2 = pr at *
                clear hp
                go_wp2_with (((with_reducible refine gate_builtin (b := .append) (xs := #[.tmp 112, .tmp 116]) rfl ?_); at_builtin; refine US_none (w0 := w0) rfl (.tmp 112) (.tmp 116) rfl u0 ys _ _ _ rfl rfl (by omega) HU.out (by omega) ?_; intro v2 w2 hU2; have HU2 := Lib.hid hU2; clear hU2; have ce2 := ce _ _ HU2; clear ce))
                refine (C65.out _ HU2.out.rb).mono ?_
                rintro en w3 ⟨rfl, m3, rfl⟩
                go_wp2_with (fail)
                rw [HPI.out]
                refine (C66 _).mono ?_
                rintro en w4 ⟨rfl, m4, rfl⟩
                go_wp2_with (fail)
                have HU4 := Lib.hid (HU2.out.drewN (m3 + m4))
                refine (C652.out _ HU4.out.rb).mono ?_
                rintro en w5 ⟨rfl, hd5⟩
                have HU5 := Lib.hid (HU4.out.next hd5.below)
                clear hd5
                have c6 := C6F.out _ _ HU5.out
                have c7 := C7F.out _ _ HU5.out
                go_wp2_with (fail)
                refine (C68.out _).mono ?_
                rintro en w6 ⟨rfl, hd6⟩
                have HU6 := Lib.hid (HU5.out.next hd6.below)
                clear hd6
                go_wp2_with (fail)
                refine (f67 pr (by omega) (by omega) (by omega) HU6.out (by omega)).mono ?_
                rintro en w8 ⟨v8, rfl, hU8⟩
                have HU8 := Lib.hid hU8
                clear hU8
                go_wp2_with (fail)
                go_roundg (gko - 1)
                case measure => go_light; omega
                case rel => exact ⟨p + 6, _, er, by first | rfl | go_num, by first | rfl | go_num, hn6, by omega, by omega, HPP, HX, HU8⟩
end Go.Proofs.YtjfbkgkpjkickaaGreatDoor.PAll
