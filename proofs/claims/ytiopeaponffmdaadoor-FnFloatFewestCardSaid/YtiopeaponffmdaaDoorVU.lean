/- FnFloatFewest, the tied card: the law returns true, whatever the input. Conditions: the listed package-level variables hold what the program's text lays in them (the card ties them). -/
import Derived.Test.YtiopeaponffmdaaDoorCards
import Derived.Test.YtiopeaponffmdaaDoorTie
import Derived.SevenTiedAt
import Derived.Test.YtiopeaponffmdaaDoorVU21
import Derived.Test.YtiopeaponffmdaaDoorVU25
set_option linter.unusedVariables false
set_option linter.unusedSimpArgs false
-- YtiopeaponffmdaaDoorLFnFloatFewest
namespace Go.Proofs.YtiopeaponffmdaaDoor
open Go Go.ChangeShapes Go.WideShapes Go.ChangeAt Go.RowKit Go.ChangeMaps

theorem varsOkFnFloatFewest : varsRowed Tryd.prog Rows.fnFloatFewestSpec.vars = true := by kernel_rfl
set_option maxRecDepth 100000 in
theorem liftedFnFloatFewest (os : Os) (started : os.Started) (H : Type) (enc : TypeId × Value → H) :
    ReturnsInHanded {} Tryd.checked os 5 .any (fun w args => (Rows.fnFloatFewestSpec.pre enc Tryd.prog Tryd.f5 Rows.fnFloatFewestRow.domain false w args ∧ laidMetH Tryd.prog Rows.fnFloatFewestRow.laid w) ∧ sizedMet enc Tryd.prog Tryd.f5 (OpenSpec.ofChange Rows.fnFloatFewestSpec) false w args)
      (Rows.fnFloatFewestSpec.post enc Tryd.prog Tryd.f5 false true false false) := by
  refine returnsInHanded_of_change_and (C := Tryd.checked) (X := fun w _ => laidMetH Tryd.prog Rows.fnFloatFewestRow.laid w) (fun _ _ _ hh h => h.of_heap hh) own started (by kernel_rfl) Tryd.func5
    (ChangeSpec.witness_shaped (enc := enc) (C := Tryd.checked) (os := os) (X := fun w _ => laidMetH Tryd.prog Rows.fnFloatFewestRow.laid w) false (World.laidAll Tryd.prog os Rows.fnFloatFewestRow.laid) #[.float .f64 0, .int .u64 0, .int .i64 0] 8 (World.laidAll_os _ _ _)
      (World.shaped_of_ZipB (by kernel_rfl) (by kernel_rfl)) (by kernel_rfl) (by kernel_rfl) (by kernel_rfl)
      (by rw [MakeChecks.laidMetH_plain _ _ _ (by kernel_rfl)]; exact laidMet_laidAll _ (by kernel_rfl) (by kernel_rfl))) ?_
  intro W base args ds gs before hval0 hW hc _ hL _
  have hval : ∀ (j : Nat) t v, Tryd.f5.params[j]? = some t → args[j]? = some v → Value.okWide Tryd.prog W .any base t v := hval0
  have hW' := hW
  obtain ⟨p, q, hA0, hV, rfl, _, _⟩ := hW
  have hA : DataW.TrodAll enc Tryd.prog W 0 (fun _ => true) true Tryd.f5.params.toList args.toList ds p := hA0
  rw [Tryd.params5] at hA hval
  obtain ⟨v0, v1, v2, d0, d1, d2, p0, p1, p2, rfl, rfl, rfl, h0, h1, h2⟩ := trodAll_three hA
  obtain ⟨x0, rfl, rfl, rfl, wx0⟩ := open_float Tryd.underlying22 (hval 0 22 v0 rfl rfl) h0
  obtain ⟨x1, rfl, rfl, rfl, wx1⟩ := open_int Tryd.underlying25 (hval 1 25 v1 rfl rfl) h1
  obtain ⟨x2, rfl, rfl, rfl, wx2⟩ := open_int Tryd.underlying3 (hval 2 3 v2 rfl rfl) h2
  obtain ⟨rfl, rfl⟩ := trodVars_none hV
  rw [MakeChecks.laidMetH_plain _ _ _ (by kernel_rfl)] at hL
  have hR : PAll.Rdy W := rdy_of hL (by simp [Rows.fnFloatFewestRow]) (by simp [Rows.fnFloatFewestRow])
  have fin : Calls Tryd.prog 5 #[.float .f64 x0, .int .u64 x1, .int .i64 x2] W fun e w' => e = .returned (.bool true) ∧ Below W.heap.size W w' := by
    obtain ⟨D, hD⟩ : ∃ D : Nat, x1 = (D : Int) := ⟨x1.toNat, by
      have := wx1
      have h1 : IntKind.u64.min = 0 := by decide +kernel
      simp [Lit.wf, h1] at this
      omega⟩
    rw [hD]
    exact PAll.w5 x0 D x2 W (by have := wx0; simp [Lit.wf] at this; omega) hR
  refine fin.mono fun e W' ⟨he, hb⟩ => ?_
  subst he
  exact ⟨_, rfl, _, _, _, [], [], _, hW', trodAll_mk1 (shut_bool Tryd.underlying4 true), trodAll_mk3 (shut_float Tryd.underlying22 wx0) (shut_int Tryd.underlying25 wx1) (shut_int Tryd.underlying3 wx2), Below.trodVars laidOut hb varsOkFnFloatFewest hV, hb.frame _, fun h => by cases h⟩

theorem fnFloatFewest_holds : Rows.FnFloatFewestSaid :=
  OpenClaim.holds_of_wide 5 Tryd.f5 rfl rfl rfl rfl rfl rfl rfl ⟨rfl, rfl, rfl, rfl, rfl⟩ rfl rfl rfl rfl rfl (by kernel_rfl) Tryd.func5 (by kernel_rfl)
    (of_decide_eq_true (by kernel_rfl)) (by unfold Func.isWrapper; first | (rw [if_pos (by decide +kernel)]; kernel_rfl) | (rw [if_neg (by decide +kernel)]; exact ⟨rfl, rfl⟩))
    (fun os started H enc _ => liftedFnFloatFewest os started H enc)
theorem fnFloatFewest_card : Rows.FnFloatFewestCardSaid :=
  Claim7.holds_tied_plain_at .later [] [.data, .data, .data, .data, .pinned, .pinned] true (true, "de90ebed450df59327ce393381191af0e1580690049105112f683f9df6acb66c") false
    fnFloatFewest_holds (fun _ h => by cases h) (by kernel_rfl) (fun _ h => by cases h) fnFloatFewest_row_tie rfl ⟨rfl, rfl⟩ (by kernel_rfl) rfl
    (fun f fn hf hfn => by
      obtain rfl : f = 5 := Option.some.inj ((show Tryd.prog.funcNamed "loop.example/pub-g01450/laws.FnFloatFewest" = some 5 by kernel_rfl).symm.trans hf) |>.symm
      obtain rfl : fn = Tryd.f5 := (Option.some.inj (Tryd.func5.symm.trans hfn)).symm
      exact ⟨by kernel_rfl, fun j t ht => by
        rw [Tryd.params5] at ht
        have h4 : t = 22 ∨ t = 25 ∨ t = 3 := by
          rcases j with _ | j
          · simp at ht; subst ht; simp
          rcases j with _ | j
          · simp at ht; subst ht; simp
          rcases j with _ | j
          · simp at ht; subst ht; simp
          · simp at ht
        rcases h4 with rfl | rfl | rfl
        · exact (show Tryd.prog.wantsStandIn 22 = false by kernel_rfl)
        · exact (show Tryd.prog.wantsStandIn 25 = false by kernel_rfl)
        · exact (show Tryd.prog.wantsStandIn 3 = false by kernel_rfl)⟩)
    (by kernel_rfl)
end Go.Proofs.YtiopeaponffmdaaDoor
