/- The texts of a proof, its declarations alone: part 17. -/
import Derived.Test.YtjfbkgkpjkickaaGreatDoorVU16
set_option linter.unusedVariables false
set_option linter.unusedSimpArgs false
-- YtjfbkgkpjkickaaGreatDoorBy
set_option linter.unusedVariables false
set_option linter.unusedSimpArgs false
namespace Go.Proofs.YtjfbkgkpjkickaaGreatDoor.PAll
open Go.RowKit Go.Proofs.YtjfbkgkpjkickaaGreatDoorW.PrintWords Go.Proofs.YtjfbkgkpjkickaaGreatDoorW.PrintLast Go.Proofs.YtjfbkgkpjkickaaGreatDoorW.PrintMore

theorem normK_num (c : Nat) (h : c = 45 ∨ (48 ≤ c ∧ c ≤ 57)) : normK c = 48 := by
  unfold normK
  rw [if_neg (by omega), if_pos h]
theorem normK_oth (c : Nat) (h1 : c ≠ 34) (h2 : ¬ (c = 45 ∨ (48 ≤ c ∧ c ≤ 57))) (h3 : c ≠ 91) (h4 : c ≠ 102) (h5 : c ≠ 110) (h6 : c ≠ 116) (h7 : c ≠ 123) : normK c = 0 ∨ normK c = 93 ∨ normK c = 125 := by
  unfold normK
  rw [if_neg h1, if_neg h2]
  split
  · omega
  · exact .inl rfl
set_option maxRecDepth 100000 in
set_option maxHeartbeats 8000000 in
theorem f95n (D B c p F cn : Nat) (t : List Int) (s : DS) (loose dup : Bool) (f0 dep : Int) (w : World) (G : GV) (hI : Inv w G D B c t s loose dup) (hT : Top s) (hp : p < t.length) (hF : D < F) (hf : FlAt w F f0) (h4 : f03 f0) (hcn : cn < 256) (hrd : rd t (p : Int) = (cn : Int)) (hch : cn = 110) :
    Calls Tryz.prog 95 #[.pointer (some ⟨D, 0, none⟩), .pointer (some ⟨F, 0, none⟩), .int .i64 p, .int .i64 dep] w (ValAt (scalEnd (!loose) (t.drop p)) t p G F w) := by
  have hc := hI.hc
  have hl := hI.hl
  have hc2 := hI.hc2
  have c7 := hI.c7
  have hu := hI.env.h1
  have cb : w.cell? ⟨B, p, none⟩ = some (.int .u8 (cn : Int)) := by have := hI.rb p hp; rw [hrd, Nat.zero_add] at this; exact this
  have hd0 : rd (t.drop p) 0 = (cn : Int) := (rd_drop0 t p).trans hrd
  have C85 := f85 cn G w hI.env hcn
  have qn := eqNil w (.pointer (some G.ueof))
  have HI := Lib.hid hI
  have HF := Lib.hid hf
  have HT := Lib.hid hT
  subst hch
  rw [show normK 110 = 110 from rfl] at C85
  have H85 := Lib.hid C85
  have hE : scalEnd (!loose) (t.drop p) = (open Classical in if pre [110, 117, 108, 108] (t.drop p) then some 4 else none) := by
    unfold scalEnd
    rw [hd0]
    rw [if_pos (by decide)]
  have hln : (t.drop p).length = t.length - p := List.length_drop
  by_cases hpre : pre [110, 117, 108, 108] (t.drop p)
  · rw [if_pos hpre] at hE
    have hk : 4 ≤ t.length - p := by
      have := congrArg List.length hpre
      rw [List.length_take, hln] at this
      simp at this
      omega
    have C1 := f112y B p (c - p) (t.drop p) w (hI.rb.sub p p (fun _ => by omega)) (hI.bs.drop p) (by omega) (by omega) hpre
    rw [hln] at C1
    have H1 := Lib.hid C1
    have HE := Lib.hid hE
    clear C1 hE hpre C85 hI hf hrd hd0 hT hln
    go_enter Tryz.func95, Tryz.ntmps95
    go_wp2_with (fail)
    go_loopg [2] 1 (fun kq v2 w' => v2 = .int .i64 p ∧ w = w')
    case atStart => exact ⟨rfl, rfl⟩
    case round =>
      obtain ⟨rfl, rfl⟩ := hrel
      go_wp2_with (fail)
      refine H85.out.mono ?_
      rintro e w1 ⟨rfl, rfl⟩
      go_wp2_with (fail)
      refine H1.out.mono ?_
      rintro e w1 ⟨rfl, rfl⟩
      go_wp2_with (fail)
      go_returns
      exact ⟨p + 4, _, f0, by rw [Int.natCast_add]; rfl, by omega, BB.refl _ _, HF.out, h4, .inl ⟨4, HE.out, rfl, rfl⟩⟩
  · rw [if_neg hpre] at hE
    have C1 := f112n B p (c - p) (t.drop p) w (hI.rb.sub p p (fun _ => by omega)) (hI.bs.drop p) (by omega) (by omega) hpre
    rw [hln] at C1
    have H1 := Lib.hid C1
    have C2 := f155s B p (c - p) (t.drop p) ⟨#[110, 117, 108, 108]⟩ w G hI.env (hI.rb.sub p p (fun _ => by omega)) (by omega) (hI.bs.drop p) (by omega) (by omega) (by decide) hpre
    rw [hln] at C2
    have H2 := Lib.hid C2
    have HE := Lib.hid hE
    have HLN := Lib.hid hln
    clear C1 C2 hE hpre C85 hI hf hrd hd0 hT hln
    go_enter Tryz.func95, Tryz.ntmps95
    go_wp2_with (fail)
    go_loopg [2] 1 (fun kq v2 w' => v2 = .int .i64 p ∧ w = w')
    case atStart => exact ⟨rfl, rfl⟩
    case round =>
      obtain ⟨rfl, rfl⟩ := hrel
      go_wp2_with (fail)
      refine H85.out.mono ?_
      rintro e w1 ⟨rfl, rfl⟩
      go_wp2_with (fail)
      refine H1.out.mono ?_
      rintro e w1 ⟨rfl, rfl⟩
      go_wp2_with (fail)
      refine H2.out.mono ?_
      rintro e w2 ⟨n, v, rfl, hn, hv, hb⟩
      have HB := Lib.hid hb
      have HI2 := Lib.hid (HI.out.mono hb)
      have hu2 := HI2.out.env.h1
      have e10 := HI2.out.c10
      have hnl : p + n ≤ t.length := by omega
      have ec : ((p + n : Nat) : Int) = (p : Int) + (n : Int) := by omega
      have C147 := Lib.hid (f147 D s G w2 HI2.out.env HI2.out.dec)
      have HV := Lib.hid hv
      clear hb c7 hn cb hu
      rcases hv with rfl | ⟨gg, rfl⟩
      · have q1 := eqSent HI2.out.sent (a := G.ueof) (b := G.ueof) (.inr (.inl rfl)) (.inr (.inl rfl))
        rw [decide_eq_true rfl] at q1
        go_wp2_with (fail)
        refine C147.out.mono ?_
        rintro e w3 ⟨rfl, rfl⟩
        go_wp2_with (fail)
        go_returns
        exact ⟨p + n, _, f0, by rw [ec]; rfl, hnl, BB.of HB.out, HF.out.mono HB.out, h4, .inr ⟨HE.out, HV.out.s⟩⟩
      · have q0 := eq153 w2 (.pointer (some ⟨gg, 0, none⟩)) (.pointer (some G.ueof))
        go_wp2_with (fail)
        go_returns
        exact ⟨p + n, _, f0, by rw [ec]; rfl, hnl, BB.of HB.out, HF.out.mono HB.out, h4, .inr ⟨HE.out, HV.out.s⟩⟩
set_option maxRecDepth 100000 in
set_option maxHeartbeats 8000000 in
theorem f95f (D B c p F cn : Nat) (t : List Int) (s : DS) (loose dup : Bool) (f0 dep : Int) (w : World) (G : GV) (hI : Inv w G D B c t s loose dup) (hT : Top s) (hp : p < t.length) (hF : D < F) (hf : FlAt w F f0) (h4 : f03 f0) (hcn : cn < 256) (hrd : rd t (p : Int) = (cn : Int)) (hch : cn = 102) :
    Calls Tryz.prog 95 #[.pointer (some ⟨D, 0, none⟩), .pointer (some ⟨F, 0, none⟩), .int .i64 p, .int .i64 dep] w (ValAt (scalEnd (!loose) (t.drop p)) t p G F w) := by
  have hc := hI.hc
  have hl := hI.hl
  have hc2 := hI.hc2
  have c7 := hI.c7
  have hu := hI.env.h1
  have cb : w.cell? ⟨B, p, none⟩ = some (.int .u8 (cn : Int)) := by have := hI.rb p hp; rw [hrd, Nat.zero_add] at this; exact this
  have hd0 : rd (t.drop p) 0 = (cn : Int) := (rd_drop0 t p).trans hrd
  have C85 := f85 cn G w hI.env hcn
  have qn := eqNil w (.pointer (some G.ueof))
  have HI := Lib.hid hI
  have HF := Lib.hid hf
  have HT := Lib.hid hT
  subst hch
  rw [show normK 102 = 102 from rfl] at C85
  have H85 := Lib.hid C85
  have hE : scalEnd (!loose) (t.drop p) = (open Classical in if pre [102, 97, 108, 115, 101] (t.drop p) then some 5 else none) := by
    unfold scalEnd
    rw [hd0]
    rw [if_neg (by decide), if_pos (by decide)]
  have hln : (t.drop p).length = t.length - p := List.length_drop
  by_cases hpre : pre [102, 97, 108, 115, 101] (t.drop p)
  · rw [if_pos hpre] at hE
    have hk : 5 ≤ t.length - p := by
      have := congrArg List.length hpre
      rw [List.length_take, hln] at this
      simp at this
      omega
    have C1 := f115y B p (c - p) (t.drop p) w (hI.rb.sub p p (fun _ => by omega)) (hI.bs.drop p) (by omega) (by omega) hpre
    rw [hln] at C1
    have H1 := Lib.hid C1
    have HE := Lib.hid hE
    clear C1 hE hpre C85 hI hf hrd hd0 hT hln
    go_enter Tryz.func95, Tryz.ntmps95
    go_wp2_with (fail)
    go_loopg [2] 1 (fun kq v2 w' => v2 = .int .i64 p ∧ w = w')
    case atStart => exact ⟨rfl, rfl⟩
    case round =>
      obtain ⟨rfl, rfl⟩ := hrel
      go_wp2_with (fail)
      refine H85.out.mono ?_
      rintro e w1 ⟨rfl, rfl⟩
      go_wp2_with (fail)
      refine H1.out.mono ?_
      rintro e w1 ⟨rfl, rfl⟩
      go_wp2_with (fail)
      go_returns
      exact ⟨p + 5, _, f0, by rw [Int.natCast_add]; rfl, by omega, BB.refl _ _, HF.out, h4, .inl ⟨5, HE.out, rfl, rfl⟩⟩
  · rw [if_neg hpre] at hE
    have C1 := f115n B p (c - p) (t.drop p) w (hI.rb.sub p p (fun _ => by omega)) (hI.bs.drop p) (by omega) (by omega) hpre
    rw [hln] at C1
    have H1 := Lib.hid C1
    have C2 := f155s B p (c - p) (t.drop p) ⟨#[102, 97, 108, 115, 101]⟩ w G hI.env (hI.rb.sub p p (fun _ => by omega)) (by omega) (hI.bs.drop p) (by omega) (by omega) (by decide) hpre
    rw [hln] at C2
    have H2 := Lib.hid C2
    have HE := Lib.hid hE
    have HLN := Lib.hid hln
    clear C1 C2 hE hpre C85 hI hf hrd hd0 hT hln
    go_enter Tryz.func95, Tryz.ntmps95
    go_wp2_with (fail)
    go_loopg [2] 1 (fun kq v2 w' => v2 = .int .i64 p ∧ w = w')
    case atStart => exact ⟨rfl, rfl⟩
    case round =>
      obtain ⟨rfl, rfl⟩ := hrel
      go_wp2_with (fail)
      refine H85.out.mono ?_
      rintro e w1 ⟨rfl, rfl⟩
      go_wp2_with (fail)
      refine H1.out.mono ?_
      rintro e w1 ⟨rfl, rfl⟩
      go_wp2_with (fail)
      refine H2.out.mono ?_
      rintro e w2 ⟨n, v, rfl, hn, hv, hb⟩
      have HB := Lib.hid hb
      have HI2 := Lib.hid (HI.out.mono hb)
      have hu2 := HI2.out.env.h1
      have e10 := HI2.out.c10
      have hnl : p + n ≤ t.length := by omega
      have ec : ((p + n : Nat) : Int) = (p : Int) + (n : Int) := by omega
      have C147 := Lib.hid (f147 D s G w2 HI2.out.env HI2.out.dec)
      have HV := Lib.hid hv
      clear hb c7 hn cb hu
      rcases hv with rfl | ⟨gg, rfl⟩
      · have q1 := eqSent HI2.out.sent (a := G.ueof) (b := G.ueof) (.inr (.inl rfl)) (.inr (.inl rfl))
        rw [decide_eq_true rfl] at q1
        go_wp2_with (fail)
        refine C147.out.mono ?_
        rintro e w3 ⟨rfl, rfl⟩
        go_wp2_with (fail)
        go_returns
        exact ⟨p + n, _, f0, by rw [ec]; rfl, hnl, BB.of HB.out, HF.out.mono HB.out, h4, .inr ⟨HE.out, HV.out.s⟩⟩
      · have q0 := eq153 w2 (.pointer (some ⟨gg, 0, none⟩)) (.pointer (some G.ueof))
        go_wp2_with (fail)
        go_returns
        exact ⟨p + n, _, f0, by rw [ec]; rfl, hnl, BB.of HB.out, HF.out.mono HB.out, h4, .inr ⟨HE.out, HV.out.s⟩⟩
set_option maxRecDepth 100000 in
set_option maxHeartbeats 8000000 in
theorem f95t (D B c p F cn : Nat) (t : List Int) (s : DS) (loose dup : Bool) (f0 dep : Int) (w : World) (G : GV) (hI : Inv w G D B c t s loose dup) (hT : Top s) (hp : p < t.length) (hF : D < F) (hf : FlAt w F f0) (h4 : f03 f0) (hcn : cn < 256) (hrd : rd t (p : Int) = (cn : Int)) (hch : cn = 116) :
    Calls Tryz.prog 95 #[.pointer (some ⟨D, 0, none⟩), .pointer (some ⟨F, 0, none⟩), .int .i64 p, .int .i64 dep] w (ValAt (scalEnd (!loose) (t.drop p)) t p G F w) := by
  have hc := hI.hc
  have hl := hI.hl
  have hc2 := hI.hc2
  have c7 := hI.c7
  have hu := hI.env.h1
  have cb : w.cell? ⟨B, p, none⟩ = some (.int .u8 (cn : Int)) := by have := hI.rb p hp; rw [hrd, Nat.zero_add] at this; exact this
  have hd0 : rd (t.drop p) 0 = (cn : Int) := (rd_drop0 t p).trans hrd
  have C85 := f85 cn G w hI.env hcn
  have qn := eqNil w (.pointer (some G.ueof))
  have HI := Lib.hid hI
  have HF := Lib.hid hf
  have HT := Lib.hid hT
  subst hch
  rw [show normK 116 = 116 from rfl] at C85
  have H85 := Lib.hid C85
  have hE : scalEnd (!loose) (t.drop p) = (open Classical in if pre [116, 114, 117, 101] (t.drop p) then some 4 else none) := by
    unfold scalEnd
    rw [hd0]
    rw [if_neg (by decide), if_neg (by decide), if_pos (by decide)]
  have hln : (t.drop p).length = t.length - p := List.length_drop
  by_cases hpre : pre [116, 114, 117, 101] (t.drop p)
  · rw [if_pos hpre] at hE
    have hk : 4 ≤ t.length - p := by
      have := congrArg List.length hpre
      rw [List.length_take, hln] at this
      simp at this
      omega
    have C1 := f117y B p (c - p) (t.drop p) w (hI.rb.sub p p (fun _ => by omega)) (hI.bs.drop p) (by omega) (by omega) hpre
    rw [hln] at C1
    have H1 := Lib.hid C1
    have HE := Lib.hid hE
    clear C1 hE hpre C85 hI hf hrd hd0 hT hln
    go_enter Tryz.func95, Tryz.ntmps95
    go_wp2_with (fail)
    go_loopg [2] 1 (fun kq v2 w' => v2 = .int .i64 p ∧ w = w')
    case atStart => exact ⟨rfl, rfl⟩
    case round =>
      obtain ⟨rfl, rfl⟩ := hrel
      go_wp2_with (fail)
      refine H85.out.mono ?_
      rintro e w1 ⟨rfl, rfl⟩
      go_wp2_with (fail)
      refine H1.out.mono ?_
      rintro e w1 ⟨rfl, rfl⟩
      go_wp2_with (fail)
      go_returns
      exact ⟨p + 4, _, f0, by rw [Int.natCast_add]; rfl, by omega, BB.refl _ _, HF.out, h4, .inl ⟨4, HE.out, rfl, rfl⟩⟩
  · rw [if_neg hpre] at hE
    have C1 := f117n B p (c - p) (t.drop p) w (hI.rb.sub p p (fun _ => by omega)) (hI.bs.drop p) (by omega) (by omega) hpre
    rw [hln] at C1
    have H1 := Lib.hid C1
    have C2 := f155s B p (c - p) (t.drop p) ⟨#[116, 114, 117, 101]⟩ w G hI.env (hI.rb.sub p p (fun _ => by omega)) (by omega) (hI.bs.drop p) (by omega) (by omega) (by decide) hpre
    rw [hln] at C2
    have H2 := Lib.hid C2
    have HE := Lib.hid hE
    have HLN := Lib.hid hln
    clear C1 C2 hE hpre C85 hI hf hrd hd0 hT hln
    go_enter Tryz.func95, Tryz.ntmps95
    go_wp2_with (fail)
    go_loopg [2] 1 (fun kq v2 w' => v2 = .int .i64 p ∧ w = w')
    case atStart => exact ⟨rfl, rfl⟩
    case round =>
      obtain ⟨rfl, rfl⟩ := hrel
      go_wp2_with (fail)
      refine H85.out.mono ?_
      rintro e w1 ⟨rfl, rfl⟩
      go_wp2_with (fail)
      refine H1.out.mono ?_
      rintro e w1 ⟨rfl, rfl⟩
      go_wp2_with (fail)
      refine H2.out.mono ?_
      rintro e w2 ⟨n, v, rfl, hn, hv, hb⟩
      have HB := Lib.hid hb
      have HI2 := Lib.hid (HI.out.mono hb)
      have hu2 := HI2.out.env.h1
      have e10 := HI2.out.c10
      have hnl : p + n ≤ t.length := by omega
      have ec : ((p + n : Nat) : Int) = (p : Int) + (n : Int) := by omega
      have C147 := Lib.hid (f147 D s G w2 HI2.out.env HI2.out.dec)
      have HV := Lib.hid hv
      clear hb c7 hn cb hu
      rcases hv with rfl | ⟨gg, rfl⟩
      · have q1 := eqSent HI2.out.sent (a := G.ueof) (b := G.ueof) (.inr (.inl rfl)) (.inr (.inl rfl))
        rw [decide_eq_true rfl] at q1
        go_wp2_with (fail)
        refine C147.out.mono ?_
        rintro e w3 ⟨rfl, rfl⟩
        go_wp2_with (fail)
        go_returns
        exact ⟨p + n, _, f0, by rw [ec]; rfl, hnl, BB.of HB.out, HF.out.mono HB.out, h4, .inr ⟨HE.out, HV.out.s⟩⟩
      · have q0 := eq153 w2 (.pointer (some ⟨gg, 0, none⟩)) (.pointer (some G.ueof))
        go_wp2_with (fail)
        go_returns
        exact ⟨p + n, _, f0, by rw [ec]; rfl, hnl, BB.of HB.out, HF.out.mono HB.out, h4, .inr ⟨HE.out, HV.out.s⟩⟩
set_option maxRecDepth 100000 in
set_option maxHeartbeats 8000000 in
theorem f95s (D B c p F cn : Nat) (t : List Int) (s : DS) (loose dup : Bool) (f0 dep : Int) (w : World) (G : GV) (hI : Inv w G D B c t s loose dup) (hT : Top s) (hp : p < t.length) (hF : D < F) (hf : FlAt w F f0) (h4 : f03 f0) (hcn : cn < 256) (hrd : rd t (p : Int) = (cn : Int)) (hch : cn = 34)
    (C164 : ∀ W, StF W W G F B p (t.drop p) f0 → Calls Tryz.prog 164 #[.pointer (some ⟨F, 0, none⟩), .slice (some ⟨B, p, none⟩) (t.drop p).length (c - p), .int .i64 0, .bool (!loose)] W (StrPost (!loose) (t.drop p) G F B p f0 W)) :
    Calls Tryz.prog 95 #[.pointer (some ⟨D, 0, none⟩), .pointer (some ⟨F, 0, none⟩), .int .i64 p, .int .i64 dep] w (ValAt (scalEnd (!loose) (t.drop p)) t p G F w) := by
  have hc := hI.hc
  have hl := hI.hl
  have hc2 := hI.hc2
  have c7 := hI.c7
  have hu := hI.env.h1
  have cb : w.cell? ⟨B, p, none⟩ = some (.int .u8 (cn : Int)) := by have := hI.rb p hp; rw [hrd, Nat.zero_add] at this; exact this
  have hd0 : rd (t.drop p) 0 = (cn : Int) := (rd_drop0 t p).trans hrd
  have C85 := f85 cn G w hI.env hcn
  have qn := eqNil w (.pointer (some G.ueof))
  have HI := Lib.hid hI
  have HF := Lib.hid hf
  have HT := Lib.hid hT
  subst hch
  rw [show normK 34 = 34 from rfl] at C85
  have H85 := Lib.hid C85
  have hE : scalEnd (!loose) (t.drop p) = strEnd (!loose) (t.drop p) := by
    unfold scalEnd
    rw [hd0]
    rw [if_neg (by decide), if_neg (by decide), if_neg (by decide), if_pos (by decide)]
  have hln : (t.drop p).length = t.length - p := List.length_drop
  have C119 := f119 B p (c - p) (t.drop p) w G hI.env (hI.rb.sub p p (fun _ => by omega)) (by omega) (by omega) (hI.bs.drop p)
  rw [hln] at C119
  have H119 := Lib.hid C119
  have C120 := Lib.hid (f120 D B c p F t s loose dup f0 w G hI hp hF hf h4 C164)
  have HE := Lib.hid hE
  have HLN := Lib.hid hln
  clear C119 C164 hE C85 hI hf hrd hd0 hT hln
  go_enter Tryz.func95, Tryz.ntmps95
  go_wp2_with (fail)
  go_loopg [2] 1 (fun kq v2 w' => v2 = .int .i64 p ∧ w = w')
  case atStart => exact ⟨rfl, rfl⟩
  case round =>
    obtain ⟨rfl, rfl⟩ := hrel
    go_wp2_with (fail)
    refine H85.out.mono ?_
    rintro e w1 ⟨rfl, rfl⟩
    go_wp2_with (fail)
    refine H119.out.mono ?_
    rintro e w1 ⟨n, rfl, hn, rfl⟩
    rcases hn with rfl | ⟨h2, hnl, hsim⟩
    · go_wp2_with (fail)
      refine C120.out.mono ?_
      rintro e w2 ⟨n, x, g, rfl, hnl, hbb, hfl, hf3, hm, hr⟩
      have A1 := Lib.hid hbb
      have A2 := Lib.hid hfl
      have A3 := Lib.hid hf3
      have A4 := Lib.hid hr
      clear hbb hfl hf3 hm hr
      go_wp2_with (fail)
      go_returns
      refine ⟨p + n, x, g, rfl, hnl, A1.out, A2.out, A3.out, ?_⟩
      rcases A4.out with ⟨h1, h2, _⟩ | ⟨h1, h2⟩
      · exact .inl ⟨n, by rw [HE.out, h1], rfl, h2⟩
      · exact .inr ⟨by rw [HE.out, h1], h2⟩
    · have HS := Lib.hid hsim
      have hz : ((n : Int) == 0) = false := by rw [beq_eq_false_iff_ne]; omega
      have hnl2 : p + n ≤ t.length := by have := HLN.out; omega
      clear hsim hnl h2
      go_wp2_with (fail)
      go_returns
      exact ⟨p + n, _, f0, by rw [Int.natCast_add]; rfl, hnl2, BB.refl _ _, HF.out, h4, .inl ⟨n, by rw [HE.out]; exact (HS.out _).1, rfl, rfl⟩⟩
set_option maxRecDepth 100000 in
set_option maxHeartbeats 8000000 in
theorem f95d (D B c p F cn : Nat) (t : List Int) (s : DS) (loose dup : Bool) (f0 dep : Int) (w : World) (G : GV) (hI : Inv w G D B c t s loose dup) (hT : Top s) (hp : p < t.length) (hF : D < F) (hf : FlAt w F f0) (h4 : f03 f0) (hcn : cn < 256) (hrd : rd t (p : Int) = (cn : Int)) (hch : cn = 45 ∨ (48 ≤ cn ∧ cn ≤ 57)) :
    Calls Tryz.prog 95 #[.pointer (some ⟨D, 0, none⟩), .pointer (some ⟨F, 0, none⟩), .int .i64 p, .int .i64 dep] w (ValAt (scalEnd (!loose) (t.drop p)) t p G F w) := by
  have hc := hI.hc
  have hl := hI.hl
  have hc2 := hI.hc2
  have c7 := hI.c7
  have hu := hI.env.h1
  have cb : w.cell? ⟨B, p, none⟩ = some (.int .u8 (cn : Int)) := by have := hI.rb p hp; rw [hrd, Nat.zero_add] at this; exact this
  have hd0 : rd (t.drop p) 0 = (cn : Int) := (rd_drop0 t p).trans hrd
  have C85 := f85 cn G w hI.env hcn
  have qn := eqNil w (.pointer (some G.ueof))
  have HI := Lib.hid hI
  have HF := Lib.hid hf
  have HT := Lib.hid hT
  rw [normK_num cn hch] at C85
  have H85 := Lib.hid C85
  have hE : scalEnd (!loose) (t.drop p) = numEnd (t.drop p) := by
    unfold scalEnd
    rw [hd0]
    rw [if_neg (by omega), if_neg (by omega), if_neg (by omega), if_neg (by omega), if_pos (by unfold isD; omega)]
  have hln : (t.drop p).length = t.length - p := List.length_drop
  have C122 := f122 B p (c - p) (t.drop p) w (hI.rb.sub p p (fun _ => by omega)) (by omega) (by omega) (hI.bs.drop p)
  rw [hln] at C122
  have H122 := Lib.hid C122
  have C123 := Lib.hid (f123 D B c p t s loose dup w G hI hp)
  have C88 := Lib.hid (fun (n : Nat) (hn : p + n ≤ t.length) => f88 D (p + n) s (some ⟨B, 0, none⟩) t.length c w hI.dec hI.buf hl (by omega))
  have HE := Lib.hid hE
  have HLN := Lib.hid hln
  clear C122 hE C85 hI hf hrd hd0 hT hln hch
  go_enter Tryz.func95, Tryz.ntmps95
  go_wp2_with (fail)
  go_loopg [2] 1 (fun kq v2 w' => v2 = .int .i64 p ∧ w = w')
  case atStart => exact ⟨rfl, rfl⟩
  case round =>
    obtain ⟨rfl, rfl⟩ := hrel
    go_wp2_with (fail)
    refine H85.out.mono ?_
    rintro e w1 ⟨rfl, rfl⟩
    go_wp2_with (fail)
    refine H122.out.mono ?_
    rintro e w1 ⟨n, rfl, hn, hne, rfl⟩
    have HNE := Lib.hid hne
    have hnl : p + n ≤ t.length := by have := HLN.out; omega
    have D88 := C88.out n hnl
    rw [Int.natCast_add] at D88
    clear hne hn
    have fin : ∀ (e : Ending) (w' : World), NumAt t p G w e w' → ValAt (scalEnd (!loose) (t.drop p)) t p G F w e w' := by
      rintro e w' ⟨q, x, rfl, h1, h2, h3⟩
      refine ⟨q, x, f0, rfl, h1, BB.of h2, HF.out.mono h2, h4, ?_⟩
      rcases h3 with ⟨n, a1, a2, a3⟩ | ⟨a1, a2⟩
      · exact .inl ⟨n, by rw [HE.out, a1], a2, a3⟩
      · exact .inr ⟨by rw [HE.out, a1], a2⟩
    have FIN := Lib.hid fin
    clear fin
    by_cases hz : n = 0
    · subst hz
      clear D88
      go_wp2_with (fail)
      refine C123.out.mono ?_
      rintro e w2 hq
      have HQ := Lib.hid (FIN.out _ _ hq)
      obtain ⟨q, x, rfl, _⟩ := hq
      go_wp2_with (fail)
      go_returns
      exact HQ.out
    · have z1 : ((n : Int) == 0) = false := by rw [beq_eq_false_iff_ne]; omega
      by_cases hend : p + n = t.length
      · rw [decide_eq_true hend] at D88
        have H88 := Lib.hid D88
        clear D88 hend
        go_wp2_with (fail)
        refine H88.out.mono ?_
        rintro e w3 ⟨rfl, rfl⟩
        go_wp2_with (fail)
        refine C123.out.mono ?_
        rintro e w2 hq
        have HQ := Lib.hid (FIN.out _ _ hq)
        obtain ⟨q, x, rfl, _⟩ := hq
        go_wp2_with (fail)
        go_returns
        exact HQ.out
      · rw [decide_eq_false hend] at D88
        have H88 := Lib.hid D88
        have HN := Lib.hid (HNE.out hz (by have := HLN.out; omega))
        clear D88 hend
        go_wp2_with (fail)
        refine H88.out.mono ?_
        rintro e w3 ⟨rfl, rfl⟩
        go_wp2_with (fail)
        go_returns
        exact ⟨p + n, _, f0, by rw [Int.natCast_add]; rfl, hnl, BB.refl _ _, HF.out, h4, .inl ⟨n, by rw [HE.out, HN.out], rfl, rfl⟩⟩
set_option maxRecDepth 100000 in
set_option maxHeartbeats 8000000 in
theorem f95o (D B c p F cn : Nat) (t : List Int) (s : DS) (loose dup : Bool) (f0 dep : Int) (w : World) (G : GV) (hI : Inv w G D B c t s loose dup) (hT : Top s) (hp : p < t.length) (hF : D < F) (hf : FlAt w F f0) (h4 : f03 f0) (hcn : cn < 256) (hrd : rd t (p : Int) = (cn : Int)) (h1 : cn ≠ 34) (h2 : ¬ (cn = 45 ∨ (48 ≤ cn ∧ cn ≤ 57))) (h3 : cn ≠ 91) (h5 : cn ≠ 102) (h6 : cn ≠ 110) (h7 : cn ≠ 116) (h8 : cn ≠ 123) :
    Calls Tryz.prog 95 #[.pointer (some ⟨D, 0, none⟩), .pointer (some ⟨F, 0, none⟩), .int .i64 p, .int .i64 dep] w (ValAt (scalEnd (!loose) (t.drop p)) t p G F w) := by
  have hc := hI.hc
  have hl := hI.hl
  have hc2 := hI.hc2
  have c7 := hI.c7
  have hu := hI.env.h1
  have cb : w.cell? ⟨B, p, none⟩ = some (.int .u8 (cn : Int)) := by have := hI.rb p hp; rw [hrd, Nat.zero_add] at this; exact this
  have hd0 : rd (t.drop p) 0 = (cn : Int) := (rd_drop0 t p).trans hrd
  have C85 := f85 cn G w hI.env hcn
  have qn := eqNil w (.pointer (some G.ueof))
  have HI := Lib.hid hI
  have HF := Lib.hid hf
  have HT := Lib.hid hT
  have c1 : w.cell? ⟨D, 1, none⟩ = some (.int .u64 s.last) := hI.dec.cell 1 _ rfl
  have h8m := hI.env.h8
  have hE : scalEnd (!loose) (t.drop p) = none := by
    unfold scalEnd
    rw [hd0]
    rw [if_neg (by omega), if_neg (by omega), if_neg (by omega), if_neg (by omega), if_neg (by unfold isD; omega)]
  have hln : (t.drop p).length = t.length - p := List.length_drop
  have C152 := Lib.hid (fun W => f152 hT.last W)
  have C150 := Lib.hid (fun W => f150 hT.last W)
  have C60 := fun W s' (hb : Below w.heap.size w W) => f60 B p (c - p) (t.drop p) s' W G (hI.env.mono hb) ((hI.rb.sub p p (fun _ => by omega)).mono hb) (by omega) (by omega) (hI.bs.drop p) (by omega) (by omega)
  rw [hln] at C60
  have H60 := Lib.hid C60
  have HE := Lib.hid hE
  have hk := normK_oth cn h1 h2 h3 h5 h6 h7 h8
  clear C60 hE hI hf hrd hd0 hT hln h1 h2 h3 h5 h6 h7 h8
  by_cases h125 : normK cn = 125
  · rw [h125] at C85
    have H85 := Lib.hid C85
    clear C85 h125 hk
    go_enter Tryz.func95, Tryz.ntmps95
    go_wp2_with (fail)
    go_loopg [2] 1 (fun kq v2 w' => v2 = .int .i64 p ∧ w = w')
    case atStart => exact ⟨rfl, rfl⟩
    case round =>
      obtain ⟨rfl, rfl⟩ := hrel
      go_wp2_with (fail)
      refine H85.out.mono ?_
      rintro e w1 ⟨rfl, rfl⟩
      go_wp2_with (fail)
      refine (C152.out _).mono ?_
      rintro e w2 ⟨rfl, m2, rfl⟩
      go_wp2_with (fail)
      refine (C150.out _).mono ?_
      rintro e w3 ⟨rfl, m3, rfl⟩
      go_wp2_with (fail)
      go_quiet (fail)
      go_wp2_with (fail)
      go_returns
      exact ⟨p, _, f0, rfl, by omega, BB.of (by repeat (first | exact Below.refl _ _ | apply pw_below_drewN)), HF.out.mono (by repeat (first | exact Below.refl _ _ | apply pw_below_drewN)), h4, .inr ⟨HE.out, .inl ⟨_, rfl, .inr (.inr (.inr (.inr (.inl rfl))))⟩⟩⟩
  · obtain ⟨kn, hkn⟩ : ∃ kn, normK cn = kn := ⟨_, rfl⟩
    rw [hkn] at C85 h125 hk
    have H85 := Lib.hid C85
    have x1 : ((kn : Int) == 110) = false := by rw [beq_eq_false_iff_ne]; omega
    have x2 : ((kn : Int) == 102) = false := by rw [beq_eq_false_iff_ne]; omega
    have x3 : ((kn : Int) == 116) = false := by rw [beq_eq_false_iff_ne]; omega
    have x4 : ((kn : Int) == 34) = false := by rw [beq_eq_false_iff_ne]; omega
    have x5 : ((kn : Int) == 48) = false := by rw [beq_eq_false_iff_ne]; omega
    have x6 : ((kn : Int) == 123) = false := by rw [beq_eq_false_iff_ne]; omega
    have x7 : ((kn : Int) == 91) = false := by rw [beq_eq_false_iff_ne]; omega
    have x8 : ((kn : Int) == 125) = false := by rw [beq_eq_false_iff_ne]; omega
    clear C85 h125 hk hkn
    go_enter Tryz.func95, Tryz.ntmps95
    go_wp2_with (fail)
    go_loopg [2] 1 (fun kq v2 w' => v2 = .int .i64 p ∧ w = w')
    case atStart => exact ⟨rfl, rfl⟩
    case round =>
      obtain ⟨rfl, rfl⟩ := hrel
      go_wp2_with (fail)
      refine H85.out.mono ?_
      rintro e w1 ⟨rfl, rfl⟩
      go_wp2_with (fail)
      refine (C152.out _).mono ?_
      rintro e w2 ⟨rfl, m2, rfl⟩
      go_wp2_with (fail)
      refine (C150.out _).mono ?_
      rintro e w3 ⟨rfl, m3, rfl⟩
      go_wp2_with (fail)
      refine (H60.out _ _ (by repeat (first | exact Below.refl _ _ | apply pw_below_drewN))).mono ?_
      rintro e w4 ⟨gg, rfl, hb⟩
      have HB := Lib.hid ((show Below w.heap.size w (w.drewN (m2 + m3)) from pw_below_drewN (Below.refl _ _) _).trans (hb.mono (Nat.le_refl _)))
      clear hb
      go_wp2_with (fail)
      go_returns
      exact ⟨p, _, f0, rfl, by omega, BB.of HB.out, HF.out.mono HB.out, h4, .inr ⟨HE.out, .inr ⟨gg, rfl⟩⟩⟩
end Go.Proofs.YtjfbkgkpjkickaaGreatDoor.PAll
