/- FnFloatWhole, the tied card: the law returns true, whatever the input. Conditions: the listed package-level variables hold what the program's text lays in them (the card ties them). -/
import Derived.Test.YtiopeaponffmdaaDoorCards
import Derived.Test.YtiopeaponffmdaaDoorTie
import Derived.SevenTiedAt
import Derived.Test.YtiopeaponffmdaaDoorVU21
set_option linter.unusedVariables false
set_option linter.unusedSimpArgs false
-- YtiopeaponffmdaaDoorLFnFloatWhole
namespace Go.Proofs.YtiopeaponffmdaaDoor
open Go Go.ChangeShapes Go.WideShapes Go.ChangeAt Go.RowKit Go.ChangeMaps

theorem varsOkFnFloatWhole : varsRowed Tryd.prog Rows.fnFloatWholeSpec.vars = true := by kernel_rfl
set_option maxRecDepth 100000 in
theorem liftedFnFloatWhole (os : Os) (started : os.Started) (H : Type) (enc : TypeId × Value → H) :
    ReturnsInHanded {} Tryd.checked os 8 .any (fun w args => (Rows.fnFloatWholeSpec.pre enc Tryd.prog Tryd.f8 Rows.fnFloatWholeRow.domain false w args ∧ laidMetH Tryd.prog Rows.fnFloatWholeRow.laid w) ∧ sizedMet enc Tryd.prog Tryd.f8 (OpenSpec.ofChange Rows.fnFloatWholeSpec) false w args)
      (Rows.fnFloatWholeSpec.post enc Tryd.prog Tryd.f8 false true false false) := by
  refine returnsInHanded_of_change_and (C := Tryd.checked) (X := fun w _ => laidMetH Tryd.prog Rows.fnFloatWholeRow.laid w) (fun _ _ _ hh h => h.of_heap hh) own started (by kernel_rfl) Tryd.func8
    (ChangeSpec.witness_shaped (enc := enc) (C := Tryd.checked) (os := os) (X := fun w _ => laidMetH Tryd.prog Rows.fnFloatWholeRow.laid w) false (World.laidAll Tryd.prog os Rows.fnFloatWholeRow.laid) #[.int .i64 0] 8 (World.laidAll_os _ _ _)
      (World.shaped_of_ZipB (by kernel_rfl) (by kernel_rfl)) (by kernel_rfl) (by kernel_rfl) (by kernel_rfl)
      (by rw [MakeChecks.laidMetH_plain _ _ _ (by kernel_rfl)]; exact laidMet_laidAll _ (by kernel_rfl) (by kernel_rfl))) ?_
  intro W base args ds gs before hval0 hW hc _ hL _
  have hval : ∀ (j : Nat) t v, Tryd.f8.params[j]? = some t → args[j]? = some v → Value.okWide Tryd.prog W .any base t v := hval0
  have hW' := hW
  obtain ⟨p, q, hA0, hV, rfl, _, _⟩ := hW
  have hA : DataW.TrodAll enc Tryd.prog W 0 (fun _ => true) true Tryd.f8.params.toList args.toList ds p := hA0
  rw [Tryd.params8] at hA hval
  obtain ⟨v0, d0, rfl, rfl, h0⟩ := trodAll_one hA
  obtain ⟨x0, rfl, rfl, rfl, wx0⟩ := open_int Tryd.underlying2 (hval 0 2 v0 rfl rfl) h0
  obtain ⟨rfl, rfl⟩ := trodVars_none hV
  rw [MakeChecks.laidMetH_plain _ _ _ (by kernel_rfl)] at hL
  have hR : PAll.Rdy W := rdy_of hL (by simp [Rows.fnFloatWholeRow]) (by simp [Rows.fnFloatWholeRow])
  have fin : Calls Tryd.prog 8 #[.int .i64 x0] W fun e w' => e = .returned (.bool true) ∧ Below W.heap.size W w' := by
    exact PAll.w8 x0 W hR
  refine fin.mono fun e W' ⟨he, hb⟩ => ?_
  subst he
  exact ⟨_, rfl, _, _, _, [], [], _, hW', trodAll_mk1 (shut_bool Tryd.underlying4 true), trodAll_mk1 (shut_int Tryd.underlying2 wx0), Below.trodVars laidOut hb varsOkFnFloatWhole hV, hb.frame _, fun h => by cases h⟩

theorem fnFloatWhole_holds : Rows.FnFloatWholeSaid :=
  OpenClaim.holds_of_wide 8 Tryd.f8 rfl rfl rfl rfl rfl rfl rfl ⟨rfl, rfl, rfl, rfl, rfl⟩ rfl rfl rfl rfl rfl (by kernel_rfl) Tryd.func8 (by kernel_rfl)
    (of_decide_eq_true (by kernel_rfl)) (by unfold Func.isWrapper; first | (rw [if_pos (by decide +kernel)]; kernel_rfl) | (rw [if_neg (by decide +kernel)]; exact ⟨rfl, rfl⟩))
    (fun os started H enc _ => liftedFnFloatWhole os started H enc)
theorem fnFloatWhole_card : Rows.FnFloatWholeCardSaid :=
  Claim7.holds_tied_plain_at .later [] [.data, .data, .data, .data, .pinned, .pinned] true (true, "de90ebed450df59327ce393381191af0e1580690049105112f683f9df6acb66c") false
    fnFloatWhole_holds (fun _ h => by cases h) (by kernel_rfl) (fun _ h => by cases h) fnFloatWhole_row_tie rfl ⟨rfl, rfl⟩ (by kernel_rfl) rfl
    (fun f fn hf hfn => by
      obtain rfl : f = 8 := Option.some.inj ((show Tryd.prog.funcNamed "loop.example/pub-g01450/laws.FnFloatWhole" = some 8 by kernel_rfl).symm.trans hf) |>.symm
      obtain rfl : fn = Tryd.f8 := (Option.some.inj (Tryd.func8.symm.trans hfn)).symm
      exact ⟨by kernel_rfl, fun j t ht => by
        rw [Tryd.params8] at ht
        have h4 : t = 2 := by
          rcases j with _ | j
          · simp at ht; subst ht; simp
          · simp at ht
        rcases h4 with rfl
        · exact (show Tryd.prog.wantsStandIn 2 = false by kernel_rfl)⟩)
    (by kernel_rfl)
end Go.Proofs.YtiopeaponffmdaaDoor
