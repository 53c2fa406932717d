/- FnControl, the tied card: the law returns true, whatever the input (a byte stands in a string as it is exactly if it is no control character, no quotation mark and no backslash, and of ASCII). Conditions: the listed package-level variables hold what the program's text lays in them (the card ties them). -/
import Derived.Test.YtjfbkgkpjkickaaGreatDoorCards
import Derived.Test.YtjfbkgkpjkickaaGreatDoorTie
import Derived.SevenTiedAt
import Derived.Test.YtjfbkgkpjkickaaGreatDoorVU26
import Derived.Test.YtjfbkgkpjkickaaGreatDoorVU27
import Derived.Test.YtjfbkgkpjkickaaGreatDoorVU31
set_option linter.unusedVariables false
set_option linter.unusedSimpArgs false
-- YtjfbkgkpjkickaaGreatDoorR8
namespace Go.Proofs.YtjfbkgkpjkickaaGreatDoor
open Go Go.ChangeShapes Go.WideShapes Go.ChangeAt Go.RowKit Go.ChangeMaps

theorem varsOkFnControl : varsRowed Tryz.prog Rows.fnControlSpec.vars = true := by kernel_rfl
theorem vlenFnControl {H : Type} {enc : TypeId × Value → H} {w : World} {sp : Nat → Bool} : ∀ (ns : List String) (gs : List (DataW H)) (ps : List MemPlace), DataW.TrodVars enc Tryz.prog w sp ns gs ps → gs.length = ns.length
  | [], [], _, _ => rfl
  | [], _ :: _, _, h => h.elim
  | _ :: _, [], _, h => h.elim
  | _ :: ns, _ :: gs, _, h => by
    obtain ⟨_, _, _, _, _, q, _, _, _, _, h, _⟩ := h
    rw [List.length_cons, List.length_cons, vlenFnControl ns gs q h]

set_option maxRecDepth 100000 in
theorem liftedFnControl (os : Os) (started : os.Started) (H : Type) (enc : TypeId × Value → H) :
    ReturnsInHanded {} Tryz.checked os 8 .any (fun w args => (Rows.fnControlSpec.pre enc Tryz.prog Tryz.f8 Rows.fnControlRow.domain false w args ∧ laidMetH Tryz.prog Rows.fnControlRow.laid w) ∧ sizedMet enc Tryz.prog Tryz.f8 (OpenSpec.ofChange Rows.fnControlSpec) false w args)
      (Rows.fnControlSpec.post enc Tryz.prog Tryz.f8 false true false false) := by
  refine returnsInHanded_of_change_and (C := Tryz.checked) (X := fun w _ => laidMetH Tryz.prog Rows.fnControlRow.laid w) (fun _ _ _ hh h => h.of_heap hh) own started (by kernel_rfl) Tryz.func8
    (ChangeSpec.witness_shaped (enc := enc) (C := Tryz.checked) (os := os) (X := fun w _ => laidMetH Tryz.prog Rows.fnControlRow.laid w) false (World.laidAll Tryz.prog os Rows.fnControlRow.laid) #[.int .i64 0] 8 (World.laidAll_os _ _ _)
      (World.shaped_of_ZipB (by kernel_rfl) (by kernel_rfl)) (by kernel_rfl) (by kernel_rfl) (by kernel_rfl)
      (by rw [MakeChecks.laidMetH_plain _ _ _ (by kernel_rfl)]; exact laidMet_laidAll _ (by kernel_rfl) (by kernel_rfl))) ?_
  intro W base args ds gs before hval0 hW hc _ hL _
  have hval : ∀ (j : Nat) t v, Tryz.f8.params[j]? = some t → args[j]? = some v → Value.okWide Tryz.prog W .any base t v := hval0
  have hW' := hW
  obtain ⟨p, q, hA0, hV, rfl, _, _⟩ := hW
  have hA : DataW.TrodAll enc Tryz.prog W 0 (fun _ => true) true Tryz.f8.params.toList args.toList ds p := hA0
  rw [Tryz.params8] at hA hval
  obtain ⟨v0, d0, rfl, rfl, h0⟩ := trodAll_one hA
  obtain ⟨x, rfl, rfl, rfl, wx⟩ := open_int Tryz.underlying3 (hval 0 3 v0 rfl rfl) h0
  obtain ⟨g1, g2, g3, g4, g5, g6, g7, g8, g9, g10, rfl⟩ : ∃ g1 g2 g3 g4 g5 g6 g7 g8 g9 g10, gs = [g1, g2, g3, g4, g5, g6, g7, g8, g9, g10] := by
    have hl := vlenFnControl _ _ _ hV
    rcases gs with _ | ⟨g1, _ | ⟨g2, _ | ⟨g3, _ | ⟨g4, _ | ⟨g5, _ | ⟨g6, _ | ⟨g7, _ | ⟨g8, _ | ⟨g9, _ | ⟨g10, _ | ⟨g11, r⟩⟩⟩⟩⟩⟩⟩⟩⟩⟩⟩
    all_goals first | exact ⟨_, _, _, _, _, _, _, _, _, _, rfl⟩ | (exfalso; simp [Rows.fnControlSpec] at hl)
  have fin : Calls Tryz.prog 8 #[.int .i64 x] W fun e w' => e = .returned (.bool true) ∧ Below W.heap.size W w' := by
    have hL' := hL
    rw [MakeChecks.laidMetH_plain _ _ _ (by kernel_rfl)] at hL'
    obtain ⟨G, hE, hS⟩ := env_of hL' (fun y hy => by
      simp only [need, List.mem_cons, List.not_mem_nil, or_false] at hy
      rcases hy with rfl | rfl | rfl | rfl | rfl | rfl | rfl | rfl | rfl | rfl | rfl | rfl | rfl
      all_goals simp [Rows.fnControlRow])
    exact PAll.w8 x W _ (fun d l => PAll.valid_quoted true _ l (PAll.scal_quote true l)) (PAll.isv_of hE hS)
  refine fin.mono fun e W' ⟨he, hb⟩ => ?_
  subst he
  exact ⟨_, rfl, _, _, _, [], [], q, hW', trodAll_mk1 (shut_bool Tryz.underlying4 true), trodAll_mk1 (shut_int Tryz.underlying3 wx), Below.trodVars laidOut hb varsOkFnControl hV, hb.frame _, fun h => by cases h⟩

set_option maxHeartbeats 40000000 in
theorem factsFnControl : joinedFacts Tryz.prog 8 Tryz.f8 Rows.fnControlSpec Rows.fnControlRow = true := by
  unfold joinedFacts
  simp only [Bool.and_eq_true]
  repeat' apply And.intro
  all_goals (as_aux_lemma => kernel_rfl)
theorem instFnControl : Tryz.f8.isInstance Tryz.prog Rows.fnControlRow.origin Rows.fnControlRow.targs := of_decide_eq_true (by kernel_rfl)
theorem wrapFnControl : Tryz.f8.isWrapper Tryz.prog Rows.fnControlRow.wrapper Rows.fnControlRow.mainSum := by unfold Func.isWrapper; first | (rw [if_pos (by decide +kernel)]; kernel_rfl) | (rw [if_neg (by decide +kernel)]; exact ⟨rfl, rfl⟩)
theorem nameFnControl : Tryz.prog.funcNamed "loop.example/pub-g01450/laws.FnControl" = some 8 := by kernel_rfl

theorem fnControl_holds : Rows.FnControlSaid :=
  OpenClaim.holds_of_wide 8 Tryz.f8 rfl rfl rfl rfl rfl rfl rfl ⟨rfl, rfl, rfl, rfl, rfl⟩ rfl rfl rfl rfl rfl nameFnControl Tryz.func8 factsFnControl
    instFnControl wrapFnControl
    (fun os started H enc _ => liftedFnControl os started H enc)

theorem textFnControl : Rows.fnControlRow.wfByText (OpenSpec.ofChange Rows.fnControlSpec) = true := by kernel_rfl
theorem mainFnControl : Tryz.pinned.checked.prog.mainIs = some (true, "f9ba0bdcb4f781d71dac5428f53b6c2553b9c2f61ddcf064964ca4461bb95ad9".toList) := by kernel_rfl
theorem looksFnControl : true = Tryz.pinned.checked.prog.looks [] := by kernel_rfl
theorem standFnControl : Tryz.prog.wantsStandIn 3 = false := by kernel_rfl
theorem goesFnControl : false = Rows.fnControlRow.goesBy Tryz.pinned.checked.prog := by kernel_rfl

theorem fnControl_card : Rows.FnControlCardSaid :=
  Claim7.holds_tied_plain_at .later [] [.data, .data, .data, .data, .sentinel, .sentinel, .data, .sentinel, .sentinel, .sentinel, .sentinel, .sentinel, .sentinel, .sentinel, .sentinel, .data, .pinned] true (true, "f9ba0bdcb4f781d71dac5428f53b6c2553b9c2f61ddcf064964ca4461bb95ad9") true
    fnControl_holds (fun _ h => by cases h) textFnControl (fun _ h => by cases h) fnControl_row_tie rfl ⟨rfl, rfl⟩ mainFnControl rfl
    (fun f fn hf hfn => by
      obtain rfl : f = 8 := Option.some.inj (nameFnControl.symm.trans hf) |>.symm
      obtain rfl : fn = Tryz.f8 := (Option.some.inj (Tryz.func8.symm.trans hfn)).symm
      exact ⟨looksFnControl, fun j t ht => by
        rw [Tryz.params8] at ht
        have h4 : t = 3 := by
          rcases j with _ | j
          · simpa using ht.symm
          · simp at ht
        subst h4
        exact standFnControl⟩)
    goesFnControl
end Go.Proofs.YtjfbkgkpjkickaaGreatDoor
