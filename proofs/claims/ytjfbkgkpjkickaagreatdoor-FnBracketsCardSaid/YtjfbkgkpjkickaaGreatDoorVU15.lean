/- The texts of a proof, its declarations alone: part 15. -/
import Derived.Deep.DeepCutAuto
import Derived.WalkMore
import Derived.Test.YtjfbkgkpjkickaaGreatDoorVU8
set_option linter.unusedVariables false
set_option linter.unusedSimpArgs false
-- YtjfbkgkpjkickaaGreatDoorBq
set_option linter.unusedVariables false
set_option linter.unusedSimpArgs false
namespace Go.Proofs.YtjfbkgkpjkickaaGreatDoor.PAll
open Go.RowKit Go.Proofs.YtjfbkgkpjkickaaGreatDoorW.PrintWords Go.Proofs.YtjfbkgkpjkickaaGreatDoorW.PrintLast Go.Proofs.YtjfbkgkpjkickaaGreatDoorW.PrintMore

/-- what is told of a string of the text, from a place on -/
def StrAt (v : Bool) (t : List Int) (p : Nat) (G : GV) (F : Nat) (f0 : Int) (w : World) (e : Ending) (w' : World) : Prop :=
  ∃ (n : Nat) (x : Value) (g : Int), e = .returned (.tuple #[.int .i64 ((p + n : Nat) : Int), x]) ∧ p + n ≤ t.length ∧ BB F w w' ∧ FlAt w' F g ∧ f03 g ∧ (nv f0 → nv g) ∧
    ((strEnd v (t.drop p) = some n ∧ x = .nilIface ∧ (¬ nv g → Reach v (t.drop p) 1 (n - 1))) ∨ (strEnd v (t.drop p) = none ∧ ErrS G x))
set_option maxRecDepth 100000 in
set_option maxHeartbeats 4000000 in
theorem f120 (D B c p F : Nat) (t : List Int) (s : DS) (loose dup : Bool) (f0 : Int) (w : World) (G : GV) (hI : Inv w G D B c t s loose dup) (hp : p < t.length) (hF : D < F) (hf : FlAt w F f0) (h4 : f03 f0)
    (C164 : ∀ W, StF W W G F B p (t.drop p) f0 → Calls Tryz.prog 164 #[.pointer (some ⟨F, 0, none⟩), .slice (some ⟨B, p, none⟩) (t.drop p).length (c - p), .int .i64 0, .bool (!loose)] W (StrPost (!loose) (t.drop p) G F B p f0 W)) :
    Calls Tryz.prog 120 #[.pointer (some ⟨D, 0, none⟩), .pointer (some ⟨F, 0, none⟩), .int .i64 p] w (StrAt (!loose) t p G F f0 w) := by
  have hc := hI.hc
  have hl := hI.hl
  have hc2 := hI.hc2
  have c7 := hI.c7
  have c13 := hI.c13
  have c14 := hI.c14
  have H164 := Lib.hid C164
  have HI := Lib.hid hI
  have HF := Lib.hid hf
  clear C164 hI hf
  go_enter Tryz.func120, Tryz.ntmps120
  go_wp2_with (fail)
  go_loopg [8, 2, 7] 1 (fun kq v8 v2 v7 w' => v8 = .int .i64 0 ∧ v2 = .int .i64 p ∧ v7 = .nilIface ∧ w = w')
  case atStart => exact ⟨rfl, rfl, rfl, rfl⟩
  case round =>
    obtain ⟨rfl, rfl, rfl, rfl⟩ := hrel
    go_wp2_with (fail)
    have C98 := Lib.hid (fun (W : World) => f98 s.pres s.vals 4 loose HI.out.opt.loose W)
    have HST := Lib.hid (fun (W : World) (hb : Below w.heap.size w W) => StF.start (w := W) (F := F) (B := B) (HI.out.env.mono hb) ((HI.out.rb.sub p p (fun _ => by omega)).mono hb) (HF.out.mono hb) h4 (by have := HI.out.hBD; have := HI.out.h13; omega) (by have := HI.out.hBD; omega))
    rw [List.length_drop] at H164
    go_region_with (first
      | (go_at_call 98; refine (C98.out _).mono ?_; rintro e w1 ⟨rfl, hb⟩; have HB1 := Lib.hid ((pw_below_drewN (Below.refl w.heap.size w) 1).trans (hb.mono (Nat.le_refl _))); clear hb; have d7 := pw_cell_below HB1.out c7)
      | (go_at_call 164; refine (H164.out _ (HST.out _ HB1.out)).mono ?_; rintro e w2 ⟨n, x, g, rfl, hn, hS, hm, hr⟩; have HN := Lib.hid hn; have HS := Lib.hid hS; have HM := Lib.hid hm; have HR := Lib.hid hr; clear hn hS hm hr))
    all_goals
      have HBB := Lib.hid ((BB.of HB1.out).trans HS.out.bb)
      have HI2 := Lib.hid (HI.out.bb HBB.out hF)
      have hu := HI2.out.env.h1
      have e10 := HI2.out.c10
      have hnl : p + n ≤ t.length := by have := HN.out; rw [List.length_drop] at this; omega
      have ec : ((p + n : Nat) : Int) = (p : Int) + (n : Int) := by omega
      have C147 := Lib.hid (f147 D s G w2 HI2.out.env HI2.out.dec)
      clear c7 c13 c14 d7
      rcases HR.out with ⟨h1, rfl, h3⟩ | ⟨h1, ⟨a, rfl, ha⟩ | ⟨gg, rfl⟩⟩
      · have H1 := Lib.hid h1
        have H3 := Lib.hid h3
        clear h1 h3 HR
        have q0 := eqNil w2 (.pointer (some G.ueof))
        go_wp2_with (fail)
        go_returns
        exact ⟨n, _, g, by rw [ec]; rfl, hnl, HBB.out, HS.out.fl, HS.out.f4, HM.out, .inl ⟨H1.out, rfl, H3.out⟩⟩
      · have H1 := Lib.hid h1
        have HA := Lib.hid ha
        clear h1 ha HR
        have q0 := eqSent HI2.out.sent (a := a) (b := G.ueof) (.inr HA.out) (.inr (.inl rfl))
        by_cases hau : a = G.ueof
        · subst hau
          rw [decide_eq_true rfl] at q0
          go_wp2_with (fail)
          refine C147.out.mono ?_
          rintro e w3 ⟨rfl, rfl⟩
          go_wp2_with (fail)
          go_returns
          exact ⟨n, _, g, by rw [ec]; rfl, hnl, HBB.out, HS.out.fl, HS.out.f4, HM.out, .inr ⟨H1.out, .inl ⟨_, rfl, .inl rfl⟩⟩⟩
        · rw [decide_eq_false hau] at q0
          go_wp2_with (fail)
          go_returns
          exact ⟨n, _, g, by rw [ec]; rfl, hnl, HBB.out, HS.out.fl, HS.out.f4, HM.out, .inr ⟨H1.out, .inl ⟨a, rfl, HA.out⟩⟩⟩
      · have H1 := Lib.hid h1
        clear h1 HR
        have q0 := eq153 w2 (.pointer (some ⟨gg, 0, none⟩)) (.pointer (some G.ueof))
        go_wp2_with (fail)
        go_returns
        exact ⟨n, _, g, by rw [ec]; rfl, hnl, HBB.out, HS.out.fl, HS.out.f4, HM.out, .inr ⟨H1.out, .inr ⟨gg, rfl⟩⟩⟩
end Go.Proofs.YtjfbkgkpjkickaaGreatDoor.PAll
