/- FnUnit, the tied card: the law returns true, whatever the input (an escape of four digits stands for the character of that number, that of a half of a pair is replaced and told). Conditions: the listed package-level variables hold what the program's text lays in them (the card ties them). -/
import Derived.Test.YtjfbkgkpjkickaaGreatDoorCards
import Derived.Test.YtjfbkgkpjkickaaGreatDoorTie
import Derived.SevenTiedAt
import Derived.Test.YtjfbkgkpjkickaaGreatDoorVU2
import Derived.Test.YtjfbkgkpjkickaaGreatDoorVU3
import Derived.Test.YtjfbkgkpjkickaaGreatDoorVU4
import Derived.Test.YtjfbkgkpjkickaaGreatDoorVU5
import Derived.Test.YtjfbkgkpjkickaaGreatDoorVU6
import Derived.Test.YtjfbkgkpjkickaaGreatDoorVU7
import Derived.Test.YtjfbkgkpjkickaaGreatDoorVU8
import Derived.Test.YtjfbkgkpjkickaaGreatDoorVU9
import Derived.Test.YtjfbkgkpjkickaaGreatDoorVU10
import Derived.Test.YtjfbkgkpjkickaaGreatDoorVU11
import Derived.Test.YtjfbkgkpjkickaaGreatDoorVU12
import Derived.Test.YtjfbkgkpjkickaaGreatDoorVU13
import Derived.Test.YtjfbkgkpjkickaaGreatDoorVU14
import Derived.Test.YtjfbkgkpjkickaaGreatDoorVU15
import Derived.Test.YtjfbkgkpjkickaaGreatDoorVU16
import Derived.Test.YtjfbkgkpjkickaaGreatDoorVU17
import Derived.Test.YtjfbkgkpjkickaaGreatDoorVU18
import Derived.Test.YtjfbkgkpjkickaaGreatDoorVU19
import Derived.Test.YtjfbkgkpjkickaaGreatDoorVU20
import Derived.Test.YtjfbkgkpjkickaaGreatDoorVU21
import Derived.Test.YtjfbkgkpjkickaaGreatDoorVU22
import Derived.Test.YtjfbkgkpjkickaaGreatDoorVU23
import Derived.Test.YtjfbkgkpjkickaaGreatDoorVU24
import Derived.Test.YtjfbkgkpjkickaaGreatDoorVU25
import Derived.Test.YtjfbkgkpjkickaaGreatDoorVU26
import Derived.Test.YtjfbkgkpjkickaaGreatDoorVU27
import Derived.Test.YtjfbkgkpjkickaaGreatDoorVE2
import Derived.Test.YtjfbkgkpjkickaaGreatDoorVE7
set_option linter.unusedVariables false
set_option linter.unusedSimpArgs false
-- YtjfbkgkpjkickaaGreatDoorR5
namespace Go.Proofs.YtjfbkgkpjkickaaGreatDoor
open Go Go.ChangeShapes Go.WideShapes Go.ChangeAt Go.RowKit Go.ChangeMaps

theorem varsOkFnUnit : varsRowed Tryz.prog Rows.fnUnitSpec.vars = true := by kernel_rfl
theorem vlenFnUnit {H : Type} {enc : TypeId × Value → H} {w : World} {sp : Nat → Bool} : ∀ (ns : List String) (gs : List (DataW H)) (ps : List MemPlace), DataW.TrodVars enc Tryz.prog w sp ns gs ps → gs.length = ns.length
  | [], [], _, _ => rfl
  | [], _ :: _, _, h => h.elim
  | _ :: _, [], _, h => h.elim
  | _ :: ns, _ :: gs, _, h => by
    obtain ⟨_, _, _, _, _, q, _, _, _, _, h, _⟩ := h
    rw [List.length_cons, List.length_cons, vlenFnUnit ns gs q h]

set_option maxRecDepth 100000 in
theorem liftedFnUnit (os : Os) (started : os.Started) (H : Type) (enc : TypeId × Value → H) :
    ReturnsInHanded {} Tryz.checked os 5 .any (fun w args => (Rows.fnUnitSpec.pre enc Tryz.prog Tryz.f5 Rows.fnUnitRow.domain false w args ∧ laidMetH Tryz.prog Rows.fnUnitRow.laid w) ∧ sizedMet enc Tryz.prog Tryz.f5 (OpenSpec.ofChange Rows.fnUnitSpec) false w args)
      (Rows.fnUnitSpec.post enc Tryz.prog Tryz.f5 false true false false) := by
  refine returnsInHanded_of_change_and (C := Tryz.checked) (X := fun w _ => laidMetH Tryz.prog Rows.fnUnitRow.laid w) (fun _ _ _ hh h => h.of_heap hh) own started (by kernel_rfl) Tryz.func5
    (ChangeSpec.witness_shaped (enc := enc) (C := Tryz.checked) (os := os) (X := fun w _ => laidMetH Tryz.prog Rows.fnUnitRow.laid w) false (World.laidAll Tryz.prog os Rows.fnUnitRow.laid) #[.int .i64 0, .bool false] 8 (World.laidAll_os _ _ _)
      (World.shaped_of_ZipB (by kernel_rfl) (by kernel_rfl)) (by kernel_rfl) (by kernel_rfl) (by kernel_rfl)
      (by rw [MakeChecks.laidMetH_plain _ _ _ (by kernel_rfl)]; exact laidMet_laidAll _ (by kernel_rfl) (by kernel_rfl))) ?_
  intro W base args ds gs before hval0 hW hc _ hL _
  have hval : ∀ (j : Nat) t v, Tryz.f5.params[j]? = some t → args[j]? = some v → Value.okWide Tryz.prog W .any base t v := hval0
  have hW' := hW
  obtain ⟨p, q, hA0, hV, rfl, _, _⟩ := hW
  have hA : DataW.TrodAll enc Tryz.prog W 0 (fun _ => true) true Tryz.f5.params.toList args.toList ds p := hA0
  rw [Tryz.params5] at hA hval
  obtain ⟨v0, v1, d0, d1, p0, p1, rfl, rfl, rfl, h0, h1⟩ := trodAll_two hA
  obtain ⟨x, rfl, rfl, rfl, wx⟩ := open_int Tryz.underlying3 (hval 0 3 v0 rfl rfl) h0
  obtain ⟨y, rfl, rfl, rfl⟩ := open_bool Tryz.underlying4 (hval 1 4 v1 rfl rfl) h1
  obtain ⟨g1, g2, g3, g4, g5, g6, g7, g8, g9, g10, rfl⟩ : ∃ g1 g2 g3 g4 g5 g6 g7 g8 g9 g10, gs = [g1, g2, g3, g4, g5, g6, g7, g8, g9, g10] := by
    have hl := vlenFnUnit _ _ _ hV
    rcases gs with _ | ⟨g1, _ | ⟨g2, _ | ⟨g3, _ | ⟨g4, _ | ⟨g5, _ | ⟨g6, _ | ⟨g7, _ | ⟨g8, _ | ⟨g9, _ | ⟨g10, _ | ⟨g11, r⟩⟩⟩⟩⟩⟩⟩⟩⟩⟩⟩
    all_goals first | exact ⟨_, _, _, _, _, _, _, _, _, _, rfl⟩ | (exfalso; simp [Rows.fnUnitSpec] at hl)
  have fin : Calls Tryz.prog 5 #[.int .i64 x, .bool y] W fun e w' => e = .returned (.bool true) ∧ Below W.heap.size W w' := by
    have hL' := hL
    rw [MakeChecks.laidMetH_plain _ _ _ (by kernel_rfl)] at hL'
    obtain ⟨G, hE, hS⟩ := env_of hL' (fun y hy => by
      simp only [need, List.mem_cons, List.not_mem_nil, or_false] at hy
      rcases hy with rfl | rfl | rfl | rfl | rfl | rfl | rfl | rfl | rfl | rfl | rfl | rfl | rfl
      all_goals simp [Rows.fnUnitRow])
    exact PAll.w5 x y W _ G hE (fun d i l => PAll.valid_quoted (!i) _ l (PAll.scal_quote (!i) l)) (PAll.isv_of hE hS)
  refine fin.mono fun e W' ⟨he, hb⟩ => ?_
  subst he
  exact ⟨_, rfl, _, _, _, [], [], q, hW', trodAll_mk1 (shut_bool Tryz.underlying4 true), trodAll_mk2 (shut_int Tryz.underlying3 wx) (shut_bool Tryz.underlying4 y), Below.trodVars laidOut hb varsOkFnUnit hV, hb.frame _, fun h => by cases h⟩

set_option maxHeartbeats 40000000 in
theorem factsFnUnit : joinedFacts Tryz.prog 5 Tryz.f5 Rows.fnUnitSpec Rows.fnUnitRow = true := by
  unfold joinedFacts
  simp only [Bool.and_eq_true]
  repeat' apply And.intro
  all_goals (as_aux_lemma => kernel_rfl)
theorem instFnUnit : Tryz.f5.isInstance Tryz.prog Rows.fnUnitRow.origin Rows.fnUnitRow.targs := of_decide_eq_true (by kernel_rfl)
theorem wrapFnUnit : Tryz.f5.isWrapper Tryz.prog Rows.fnUnitRow.wrapper Rows.fnUnitRow.mainSum := by unfold Func.isWrapper; first | (rw [if_pos (by decide +kernel)]; kernel_rfl) | (rw [if_neg (by decide +kernel)]; exact ⟨rfl, rfl⟩)
theorem nameFnUnit : Tryz.prog.funcNamed "loop.example/pub-g01450/laws.FnUnit" = some 5 := by kernel_rfl

theorem fnUnit_holds : Rows.FnUnitSaid :=
  OpenClaim.holds_of_wide 5 Tryz.f5 rfl rfl rfl rfl rfl rfl rfl ⟨rfl, rfl, rfl, rfl, rfl⟩ rfl rfl rfl rfl rfl nameFnUnit Tryz.func5 factsFnUnit
    instFnUnit wrapFnUnit
    (fun os started H enc _ => liftedFnUnit os started H enc)

theorem textFnUnit : Rows.fnUnitRow.wfByText (OpenSpec.ofChange Rows.fnUnitSpec) = true := by kernel_rfl
theorem mainFnUnit : Tryz.pinned.checked.prog.mainIs = some (true, "f9ba0bdcb4f781d71dac5428f53b6c2553b9c2f61ddcf064964ca4461bb95ad9".toList) := by kernel_rfl
theorem looksFnUnit : true = Tryz.pinned.checked.prog.looks [] := by kernel_rfl
theorem standFnUnit : Tryz.prog.wantsStandIn 3 = false := by kernel_rfl
theorem standFnUnitb : Tryz.prog.wantsStandIn 4 = false := by kernel_rfl
theorem goesFnUnit : false = Rows.fnUnitRow.goesBy Tryz.pinned.checked.prog := by kernel_rfl

theorem fnUnit_card : Rows.FnUnitCardSaid :=
  Claim7.holds_tied_plain_at .later [] [.data, .data, .data, .data, .sentinel, .sentinel, .data, .sentinel, .sentinel, .sentinel, .sentinel, .sentinel, .sentinel, .sentinel, .sentinel, .data, .pinned] true (true, "f9ba0bdcb4f781d71dac5428f53b6c2553b9c2f61ddcf064964ca4461bb95ad9") true
    fnUnit_holds (fun _ h => by cases h) textFnUnit (fun _ h => by cases h) fnUnit_row_tie rfl ⟨rfl, rfl⟩ mainFnUnit rfl
    (fun f fn hf hfn => by
      obtain rfl : f = 5 := Option.some.inj (nameFnUnit.symm.trans hf) |>.symm
      obtain rfl : fn = Tryz.f5 := (Option.some.inj (Tryz.func5.symm.trans hfn)).symm
      exact ⟨looksFnUnit, fun j t ht => by
        rw [Tryz.params5] at ht
        rcases j with _ | j
        · obtain rfl : t = 3 := by simpa using ht.symm
          exact standFnUnit
        · rcases j with _ | j
          · obtain rfl : t = 4 := by simpa using ht.symm
            exact standFnUnitb
          · simp at ht⟩)
    goesFnUnit
end Go.Proofs.YtjfbkgkpjkickaaGreatDoor
