/- FnCharacter, the tied card: the law returns true, whatever the input (a row of at most eight bytes stands in a string exactly if it is UTF-8, and by looser rules always). Conditions: the listed package-level variables hold what the program's text lays in them (the card ties them). -/
import Derived.Test.YtjfbkgkpjkickaaGreatDoorCards
import Derived.Test.YtjfbkgkpjkickaaGreatDoorTie
import Derived.SevenTiedAt
import Derived.Test.YtjfbkgkpjkickaaGreatDoorVU26
import Derived.Test.YtjfbkgkpjkickaaGreatDoorVU27
import Derived.Test.YtjfbkgkpjkickaaGreatDoorVU36
set_option linter.unusedVariables false
set_option linter.unusedSimpArgs false
-- YtjfbkgkpjkickaaGreatDoorR7
namespace Go.Proofs.YtjfbkgkpjkickaaGreatDoor
open Go Go.ChangeShapes Go.WideShapes Go.ChangeAt Go.RowKit Go.ChangeMaps

theorem varsOkFnCharacter : varsRowed Tryz.prog Rows.fnCharacterSpec.vars = true := by kernel_rfl
theorem vlenFnCharacter {H : Type} {enc : TypeId × Value → H} {w : World} {sp : Nat → Bool} : ∀ (ns : List String) (gs : List (DataW H)) (ps : List MemPlace), DataW.TrodVars enc Tryz.prog w sp ns gs ps → gs.length = ns.length
  | [], [], _, _ => rfl
  | [], _ :: _, _, h => h.elim
  | _ :: _, [], _, h => h.elim
  | _ :: ns, _ :: gs, _, h => by
    obtain ⟨_, _, _, _, _, q, _, _, _, _, h, _⟩ := h
    rw [List.length_cons, List.length_cons, vlenFnCharacter ns gs q h]

set_option maxRecDepth 100000 in
theorem liftedFnCharacter (os : Os) (started : os.Started) (H : Type) (enc : TypeId × Value → H) :
    ReturnsInHanded {} Tryz.checked os 7 .any (fun w args => (Rows.fnCharacterSpec.pre enc Tryz.prog Tryz.f7 Rows.fnCharacterRow.domain false w args ∧ laidMetH Tryz.prog Rows.fnCharacterRow.laid w) ∧ sizedMet enc Tryz.prog Tryz.f7 (OpenSpec.ofChange Rows.fnCharacterSpec) false w args)
      (Rows.fnCharacterSpec.post enc Tryz.prog Tryz.f7 false true false false) := by
  refine returnsInHanded_of_change_and (C := Tryz.checked) (X := fun w _ => laidMetH Tryz.prog Rows.fnCharacterRow.laid w) (fun _ _ _ hh h => h.of_heap hh) own started (by kernel_rfl) Tryz.func7
    (ChangeSpec.witness_shaped (enc := enc) (C := Tryz.checked) (os := os) (X := fun w _ => laidMetH Tryz.prog Rows.fnCharacterRow.laid w) false (World.laidAll Tryz.prog os Rows.fnCharacterRow.laid) #[.string ⟨#[]⟩] 8 (World.laidAll_os _ _ _)
      (World.shaped_of_ZipB (by kernel_rfl) (by kernel_rfl)) (by kernel_rfl) (by kernel_rfl) (by kernel_rfl)
      (by rw [MakeChecks.laidMetH_plain _ _ _ (by kernel_rfl)]; exact laidMet_laidAll _ (by kernel_rfl) (by kernel_rfl))) ?_
  intro W base args ds gs before hval0 hW hc _ hL _
  have hval : ∀ (j : Nat) t v, Tryz.f7.params[j]? = some t → args[j]? = some v → Value.okWide Tryz.prog W .any base t v := hval0
  have hW' := hW
  obtain ⟨p, q, hA0, hV, rfl, _, _⟩ := hW
  have hA : DataW.TrodAll enc Tryz.prog W 0 (fun _ => true) true Tryz.f7.params.toList args.toList ds p := hA0
  rw [Tryz.params7] at hA hval
  obtain ⟨v0, d0, rfl, rfl, h0⟩ := trodAll_one hA
  obtain ⟨x, rfl, rfl, rfl, wx⟩ := open_string Tryz.underlying9 (hval 0 9 v0 rfl rfl) h0
  obtain ⟨g1, g2, g3, g4, g5, g6, g7, g8, g9, g10, rfl⟩ : ∃ g1 g2 g3 g4 g5 g6 g7 g8 g9 g10, gs = [g1, g2, g3, g4, g5, g6, g7, g8, g9, g10] := by
    have hl := vlenFnCharacter _ _ _ hV
    rcases gs with _ | ⟨g1, _ | ⟨g2, _ | ⟨g3, _ | ⟨g4, _ | ⟨g5, _ | ⟨g6, _ | ⟨g7, _ | ⟨g8, _ | ⟨g9, _ | ⟨g10, _ | ⟨g11, r⟩⟩⟩⟩⟩⟩⟩⟩⟩⟩⟩
    all_goals first | exact ⟨_, _, _, _, _, _, _, _, _, _, rfl⟩ | (exfalso; simp [Rows.fnCharacterSpec] at hl)
  have fin : Calls Tryz.prog 7 #[.string x] W fun e w' => e = .returned (.bool true) ∧ Below W.heap.size W w' := by
    have hL' := hL
    rw [MakeChecks.laidMetH_plain _ _ _ (by kernel_rfl)] at hL'
    obtain ⟨G, hE, hS⟩ := env_of hL' (fun y hy => by
      simp only [need, List.mem_cons, List.not_mem_nil, or_false] at hy
      rcases hy with rfl | rfl | rfl | rfl | rfl | rfl | rfl | rfl | rfl | rfl | rfl | rfl | rfl
      all_goals simp [Rows.fnCharacterRow])
    exact PAll.w7 x wx W _ (fun d i l => PAll.valid_quoted (!i) _ l (PAll.scal_quote (!i) l)) (PAll.isv_of hE hS)
  refine fin.mono fun e W' ⟨he, hb⟩ => ?_
  subst he
  exact ⟨_, rfl, _, _, _, [], [], q, hW', trodAll_mk1 (shut_bool Tryz.underlying4 true), trodAll_mk1 (shut_string Tryz.underlying9 wx), Below.trodVars laidOut hb varsOkFnCharacter hV, hb.frame _, fun h => by cases h⟩

set_option maxHeartbeats 40000000 in
theorem factsFnCharacter : joinedFacts Tryz.prog 7 Tryz.f7 Rows.fnCharacterSpec Rows.fnCharacterRow = true := by
  unfold joinedFacts
  simp only [Bool.and_eq_true]
  repeat' apply And.intro
  all_goals (as_aux_lemma => kernel_rfl)
theorem instFnCharacter : Tryz.f7.isInstance Tryz.prog Rows.fnCharacterRow.origin Rows.fnCharacterRow.targs := of_decide_eq_true (by kernel_rfl)
theorem wrapFnCharacter : Tryz.f7.isWrapper Tryz.prog Rows.fnCharacterRow.wrapper Rows.fnCharacterRow.mainSum := by unfold Func.isWrapper; first | (rw [if_pos (by decide +kernel)]; kernel_rfl) | (rw [if_neg (by decide +kernel)]; exact ⟨rfl, rfl⟩)
theorem nameFnCharacter : Tryz.prog.funcNamed "loop.example/pub-g01450/laws.FnCharacter" = some 7 := by kernel_rfl

theorem fnCharacter_holds : Rows.FnCharacterSaid :=
  OpenClaim.holds_of_wide 7 Tryz.f7 rfl rfl rfl rfl rfl rfl rfl ⟨rfl, rfl, rfl, rfl, rfl⟩ rfl rfl rfl rfl rfl nameFnCharacter Tryz.func7 factsFnCharacter
    instFnCharacter wrapFnCharacter
    (fun os started H enc _ => liftedFnCharacter os started H enc)

theorem textFnCharacter : Rows.fnCharacterRow.wfByText (OpenSpec.ofChange Rows.fnCharacterSpec) = true := by kernel_rfl
theorem mainFnCharacter : Tryz.pinned.checked.prog.mainIs = some (true, "f9ba0bdcb4f781d71dac5428f53b6c2553b9c2f61ddcf064964ca4461bb95ad9".toList) := by kernel_rfl
theorem looksFnCharacter : true = Tryz.pinned.checked.prog.looks [] := by kernel_rfl
theorem standFnCharacter : Tryz.prog.wantsStandIn 9 = false := by kernel_rfl
theorem goesFnCharacter : false = Rows.fnCharacterRow.goesBy Tryz.pinned.checked.prog := by kernel_rfl

theorem fnCharacter_card : Rows.FnCharacterCardSaid :=
  Claim7.holds_tied_plain_at .later [] [.data, .data, .data, .data, .sentinel, .sentinel, .data, .sentinel, .sentinel, .sentinel, .sentinel, .sentinel, .sentinel, .sentinel, .sentinel, .data, .pinned] true (true, "f9ba0bdcb4f781d71dac5428f53b6c2553b9c2f61ddcf064964ca4461bb95ad9") true
    fnCharacter_holds (fun _ h => by cases h) textFnCharacter (fun _ h => by cases h) fnCharacter_row_tie rfl ⟨rfl, rfl⟩ mainFnCharacter rfl
    (fun f fn hf hfn => by
      obtain rfl : f = 7 := Option.some.inj (nameFnCharacter.symm.trans hf) |>.symm
      obtain rfl : fn = Tryz.f7 := (Option.some.inj (Tryz.func7.symm.trans hfn)).symm
      exact ⟨looksFnCharacter, fun j t ht => by
        rw [Tryz.params7] at ht
        have h4 : t = 9 := by
          rcases j with _ | j
          · simpa using ht.symm
          · simp at ht
        subst h4
        exact standFnCharacter⟩)
    goesFnCharacter
end Go.Proofs.YtjfbkgkpjkickaaGreatDoor
