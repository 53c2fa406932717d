/- FnPair, the tied card: the law returns true, whatever the input (two halves stand for one character, a first one ahead of a second one; two others are replaced each). Conditions: the listed package-level variables hold what the program's text lays in them (the card ties them). -/
import Derived.Test.YtjfbkgkpjkickaaGreatDoorCards
import Derived.Test.YtjfbkgkpjkickaaGreatDoorTie
import Derived.SevenTiedAt
import Derived.Test.YtjfbkgkpjkickaaGreatDoorVU2
import Derived.Test.YtjfbkgkpjkickaaGreatDoorVU3
import Derived.Test.YtjfbkgkpjkickaaGreatDoorVU4
import Derived.Test.YtjfbkgkpjkickaaGreatDoorVU5
import Derived.Test.YtjfbkgkpjkickaaGreatDoorVU6
import Derived.Test.YtjfbkgkpjkickaaGreatDoorVU7
import Derived.Test.YtjfbkgkpjkickaaGreatDoorVU8
import Derived.Test.YtjfbkgkpjkickaaGreatDoorVU9
import Derived.Test.YtjfbkgkpjkickaaGreatDoorVU10
import Derived.Test.YtjfbkgkpjkickaaGreatDoorVU11
import Derived.Test.YtjfbkgkpjkickaaGreatDoorVU12
import Derived.Test.YtjfbkgkpjkickaaGreatDoorVU13
import Derived.Test.YtjfbkgkpjkickaaGreatDoorVU14
import Derived.Test.YtjfbkgkpjkickaaGreatDoorVU15
import Derived.Test.YtjfbkgkpjkickaaGreatDoorVU16
import Derived.Test.YtjfbkgkpjkickaaGreatDoorVU17
import Derived.Test.YtjfbkgkpjkickaaGreatDoorVU18
import Derived.Test.YtjfbkgkpjkickaaGreatDoorVU19
import Derived.Test.YtjfbkgkpjkickaaGreatDoorVU20
import Derived.Test.YtjfbkgkpjkickaaGreatDoorVU21
import Derived.Test.YtjfbkgkpjkickaaGreatDoorVU22
import Derived.Test.YtjfbkgkpjkickaaGreatDoorVU23
import Derived.Test.YtjfbkgkpjkickaaGreatDoorVU24
import Derived.Test.YtjfbkgkpjkickaaGreatDoorVU25
import Derived.Test.YtjfbkgkpjkickaaGreatDoorVU26
import Derived.Test.YtjfbkgkpjkickaaGreatDoorVU27
import Derived.Test.YtjfbkgkpjkickaaGreatDoorVE2
import Derived.Test.YtjfbkgkpjkickaaGreatDoorVE9
set_option linter.unusedVariables false
set_option linter.unusedSimpArgs false
-- YtjfbkgkpjkickaaGreatDoorR4
namespace Go.Proofs.YtjfbkgkpjkickaaGreatDoor
open Go Go.ChangeShapes Go.WideShapes Go.ChangeAt Go.RowKit Go.ChangeMaps

theorem varsOkFnPair : varsRowed Tryz.prog Rows.fnPairSpec.vars = true := by kernel_rfl
theorem vlenFnPair {H : Type} {enc : TypeId × Value → H} {w : World} {sp : Nat → Bool} : ∀ (ns : List String) (gs : List (DataW H)) (ps : List MemPlace), DataW.TrodVars enc Tryz.prog w sp ns gs ps → gs.length = ns.length
  | [], [], _, _ => rfl
  | [], _ :: _, _, h => h.elim
  | _ :: _, [], _, h => h.elim
  | _ :: ns, _ :: gs, _, h => by
    obtain ⟨_, _, _, _, _, q, _, _, _, _, h, _⟩ := h
    rw [List.length_cons, List.length_cons, vlenFnPair ns gs q h]

set_option maxRecDepth 100000 in
theorem liftedFnPair (os : Os) (started : os.Started) (H : Type) (enc : TypeId × Value → H) :
    ReturnsInHanded {} Tryz.checked os 4 .any (fun w args => (Rows.fnPairSpec.pre enc Tryz.prog Tryz.f4 Rows.fnPairRow.domain false w args ∧ laidMetH Tryz.prog Rows.fnPairRow.laid w) ∧ sizedMet enc Tryz.prog Tryz.f4 (OpenSpec.ofChange Rows.fnPairSpec) false w args)
      (Rows.fnPairSpec.post enc Tryz.prog Tryz.f4 false true false false) := by
  refine returnsInHanded_of_change_and (C := Tryz.checked) (X := fun w _ => laidMetH Tryz.prog Rows.fnPairRow.laid w) (fun _ _ _ hh h => h.of_heap hh) own started (by kernel_rfl) Tryz.func4
    (ChangeSpec.witness_shaped (enc := enc) (C := Tryz.checked) (os := os) (X := fun w _ => laidMetH Tryz.prog Rows.fnPairRow.laid w) false (World.laidAll Tryz.prog os Rows.fnPairRow.laid) #[.int .i64 0, .int .i64 0] 8 (World.laidAll_os _ _ _)
      (World.shaped_of_ZipB (by kernel_rfl) (by kernel_rfl)) (by kernel_rfl) (by kernel_rfl) (by kernel_rfl)
      (by rw [MakeChecks.laidMetH_plain _ _ _ (by kernel_rfl)]; exact laidMet_laidAll _ (by kernel_rfl) (by kernel_rfl))) ?_
  intro W base args ds gs before hval0 hW hc _ hL _
  have hval : ∀ (j : Nat) t v, Tryz.f4.params[j]? = some t → args[j]? = some v → Value.okWide Tryz.prog W .any base t v := hval0
  have hW' := hW
  obtain ⟨p, q, hA0, hV, rfl, _, _⟩ := hW
  have hA : DataW.TrodAll enc Tryz.prog W 0 (fun _ => true) true Tryz.f4.params.toList args.toList ds p := hA0
  rw [Tryz.params4] at hA hval
  obtain ⟨v0, v1, d0, d1, p0, p1, rfl, rfl, rfl, h0, h1⟩ := trodAll_two hA
  obtain ⟨x, rfl, rfl, rfl, wx⟩ := open_int Tryz.underlying3 (hval 0 3 v0 rfl rfl) h0
  obtain ⟨y, rfl, rfl, rfl, wy⟩ := open_int Tryz.underlying3 (hval 1 3 v1 rfl rfl) h1
  obtain ⟨g1, g2, g3, g4, g5, g6, g7, g8, g9, g10, rfl⟩ : ∃ g1 g2 g3 g4 g5 g6 g7 g8 g9 g10, gs = [g1, g2, g3, g4, g5, g6, g7, g8, g9, g10] := by
    have hl := vlenFnPair _ _ _ hV
    rcases gs with _ | ⟨g1, _ | ⟨g2, _ | ⟨g3, _ | ⟨g4, _ | ⟨g5, _ | ⟨g6, _ | ⟨g7, _ | ⟨g8, _ | ⟨g9, _ | ⟨g10, _ | ⟨g11, r⟩⟩⟩⟩⟩⟩⟩⟩⟩⟩⟩
    all_goals first | exact ⟨_, _, _, _, _, _, _, _, _, _, rfl⟩ | (exfalso; simp [Rows.fnPairSpec] at hl)
  have fin : Calls Tryz.prog 4 #[.int .i64 x, .int .i64 y] W fun e w' => e = .returned (.bool true) ∧ Below W.heap.size W w' := by
    have hL' := hL
    rw [MakeChecks.laidMetH_plain _ _ _ (by kernel_rfl)] at hL'
    obtain ⟨G, hE, hS⟩ := env_of hL' (fun y hy => by
      simp only [need, List.mem_cons, List.not_mem_nil, or_false] at hy
      rcases hy with rfl | rfl | rfl | rfl | rfl | rfl | rfl | rfl | rfl | rfl | rfl | rfl | rfl
      all_goals simp [Rows.fnPairRow])
    exact PAll.w4 x y W _ G hE (fun d l => PAll.valid_quoted true _ l (PAll.scal_quote true l)) (PAll.isv_of hE hS)
  refine fin.mono fun e W' ⟨he, hb⟩ => ?_
  subst he
  exact ⟨_, rfl, _, _, _, [], [], q, hW', trodAll_mk1 (shut_bool Tryz.underlying4 true), trodAll_mk2 (shut_int Tryz.underlying3 wx) (shut_int Tryz.underlying3 wy), Below.trodVars laidOut hb varsOkFnPair hV, hb.frame _, fun h => by cases h⟩

set_option maxHeartbeats 40000000 in
theorem factsFnPair : joinedFacts Tryz.prog 4 Tryz.f4 Rows.fnPairSpec Rows.fnPairRow = true := by
  unfold joinedFacts
  simp only [Bool.and_eq_true]
  repeat' apply And.intro
  all_goals (as_aux_lemma => kernel_rfl)
theorem instFnPair : Tryz.f4.isInstance Tryz.prog Rows.fnPairRow.origin Rows.fnPairRow.targs := of_decide_eq_true (by kernel_rfl)
theorem wrapFnPair : Tryz.f4.isWrapper Tryz.prog Rows.fnPairRow.wrapper Rows.fnPairRow.mainSum := by unfold Func.isWrapper; first | (rw [if_pos (by decide +kernel)]; kernel_rfl) | (rw [if_neg (by decide +kernel)]; exact ⟨rfl, rfl⟩)
theorem nameFnPair : Tryz.prog.funcNamed "loop.example/pub-g01450/laws.FnPair" = some 4 := by kernel_rfl

theorem fnPair_holds : Rows.FnPairSaid :=
  OpenClaim.holds_of_wide 4 Tryz.f4 rfl rfl rfl rfl rfl rfl rfl ⟨rfl, rfl, rfl, rfl, rfl⟩ rfl rfl rfl rfl rfl nameFnPair Tryz.func4 factsFnPair
    instFnPair wrapFnPair
    (fun os started H enc _ => liftedFnPair os started H enc)

theorem textFnPair : Rows.fnPairRow.wfByText (OpenSpec.ofChange Rows.fnPairSpec) = true := by kernel_rfl
theorem mainFnPair : Tryz.pinned.checked.prog.mainIs = some (true, "f9ba0bdcb4f781d71dac5428f53b6c2553b9c2f61ddcf064964ca4461bb95ad9".toList) := by kernel_rfl
theorem looksFnPair : true = Tryz.pinned.checked.prog.looks [] := by kernel_rfl
theorem standFnPair : Tryz.prog.wantsStandIn 3 = false := by kernel_rfl
theorem goesFnPair : false = Rows.fnPairRow.goesBy Tryz.pinned.checked.prog := by kernel_rfl

theorem fnPair_card : Rows.FnPairCardSaid :=
  Claim7.holds_tied_plain_at .later [] [.data, .data, .data, .data, .sentinel, .sentinel, .data, .sentinel, .sentinel, .sentinel, .sentinel, .sentinel, .sentinel, .sentinel, .sentinel, .data, .pinned] true (true, "f9ba0bdcb4f781d71dac5428f53b6c2553b9c2f61ddcf064964ca4461bb95ad9") true
    fnPair_holds (fun _ h => by cases h) textFnPair (fun _ h => by cases h) fnPair_row_tie rfl ⟨rfl, rfl⟩ mainFnPair rfl
    (fun f fn hf hfn => by
      obtain rfl : f = 4 := Option.some.inj (nameFnPair.symm.trans hf) |>.symm
      obtain rfl : fn = Tryz.f4 := (Option.some.inj (Tryz.func4.symm.trans hfn)).symm
      exact ⟨looksFnPair, fun j t ht => by
        rw [Tryz.params4] at ht
        have h4 : t = 3 := by
          rcases j with _ | j
          · simpa using ht.symm
          · rcases j with _ | j
            · simpa using ht.symm
            · simp at ht
        subst h4
        exact standFnPair⟩)
    goesFnPair
end Go.Proofs.YtjfbkgkpjkickaaGreatDoor
