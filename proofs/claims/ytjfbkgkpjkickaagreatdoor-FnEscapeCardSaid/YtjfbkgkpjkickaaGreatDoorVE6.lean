/- FnEscape, the tied card: the law returns true, whatever the input (of the characters behind a backslash eight stand for one character each, all others but the letter u are refused). Conditions: the listed package-level variables hold what the program's text lays in them (the card ties them). -/
import Derived.Test.YtjfbkgkpjkickaaGreatDoorCards
import Derived.Test.YtjfbkgkpjkickaaGreatDoorTie
import Derived.SevenTiedAt
import Derived.Test.YtjfbkgkpjkickaaGreatDoorVU2
import Derived.Test.YtjfbkgkpjkickaaGreatDoorVU3
import Derived.Test.YtjfbkgkpjkickaaGreatDoorVU4
import Derived.Test.YtjfbkgkpjkickaaGreatDoorVU5
import Derived.Test.YtjfbkgkpjkickaaGreatDoorVU6
import Derived.Test.YtjfbkgkpjkickaaGreatDoorVU7
import Derived.Test.YtjfbkgkpjkickaaGreatDoorVU8
import Derived.Test.YtjfbkgkpjkickaaGreatDoorVU9
import Derived.Test.YtjfbkgkpjkickaaGreatDoorVU10
import Derived.Test.YtjfbkgkpjkickaaGreatDoorVU11
import Derived.Test.YtjfbkgkpjkickaaGreatDoorVU12
import Derived.Test.YtjfbkgkpjkickaaGreatDoorVU13
import Derived.Test.YtjfbkgkpjkickaaGreatDoorVU14
import Derived.Test.YtjfbkgkpjkickaaGreatDoorVU15
import Derived.Test.YtjfbkgkpjkickaaGreatDoorVU16
import Derived.Test.YtjfbkgkpjkickaaGreatDoorVU17
import Derived.Test.YtjfbkgkpjkickaaGreatDoorVU18
import Derived.Test.YtjfbkgkpjkickaaGreatDoorVU19
import Derived.Test.YtjfbkgkpjkickaaGreatDoorVU20
import Derived.Test.YtjfbkgkpjkickaaGreatDoorVU21
import Derived.Test.YtjfbkgkpjkickaaGreatDoorVU22
import Derived.Test.YtjfbkgkpjkickaaGreatDoorVU23
import Derived.Test.YtjfbkgkpjkickaaGreatDoorVU24
import Derived.Test.YtjfbkgkpjkickaaGreatDoorVU25
import Derived.Test.YtjfbkgkpjkickaaGreatDoorVU26
import Derived.Test.YtjfbkgkpjkickaaGreatDoorVU27
import Derived.Test.YtjfbkgkpjkickaaGreatDoorVE2
import Derived.Test.YtjfbkgkpjkickaaGreatDoorVE5
set_option linter.unusedVariables false
set_option linter.unusedSimpArgs false
-- YtjfbkgkpjkickaaGreatDoorR3
namespace Go.Proofs.YtjfbkgkpjkickaaGreatDoor
open Go Go.ChangeShapes Go.WideShapes Go.ChangeAt Go.RowKit Go.ChangeMaps

theorem varsOkFnEscape : varsRowed Tryz.prog Rows.fnEscapeSpec.vars = true := by kernel_rfl
theorem vlenFnEscape {H : Type} {enc : TypeId × Value → H} {w : World} {sp : Nat → Bool} : ∀ (ns : List String) (gs : List (DataW H)) (ps : List MemPlace), DataW.TrodVars enc Tryz.prog w sp ns gs ps → gs.length = ns.length
  | [], [], _, _ => rfl
  | [], _ :: _, _, h => h.elim
  | _ :: _, [], _, h => h.elim
  | _ :: ns, _ :: gs, _, h => by
    obtain ⟨_, _, _, _, _, q, _, _, _, _, h, _⟩ := h
    rw [List.length_cons, List.length_cons, vlenFnEscape ns gs q h]

set_option maxRecDepth 100000 in
theorem liftedFnEscape (os : Os) (started : os.Started) (H : Type) (enc : TypeId × Value → H) :
    ReturnsInHanded {} Tryz.checked os 3 .any (fun w args => (Rows.fnEscapeSpec.pre enc Tryz.prog Tryz.f3 Rows.fnEscapeRow.domain false w args ∧ laidMetH Tryz.prog Rows.fnEscapeRow.laid w) ∧ sizedMet enc Tryz.prog Tryz.f3 (OpenSpec.ofChange Rows.fnEscapeSpec) false w args)
      (Rows.fnEscapeSpec.post enc Tryz.prog Tryz.f3 false true false false) := by
  refine returnsInHanded_of_change_and (C := Tryz.checked) (X := fun w _ => laidMetH Tryz.prog Rows.fnEscapeRow.laid w) (fun _ _ _ hh h => h.of_heap hh) own started (by kernel_rfl) Tryz.func3
    (ChangeSpec.witness_shaped (enc := enc) (C := Tryz.checked) (os := os) (X := fun w _ => laidMetH Tryz.prog Rows.fnEscapeRow.laid w) false (World.laidAll Tryz.prog os Rows.fnEscapeRow.laid) #[.int .i64 0] 8 (World.laidAll_os _ _ _)
      (World.shaped_of_ZipB (by kernel_rfl) (by kernel_rfl)) (by kernel_rfl) (by kernel_rfl) (by kernel_rfl)
      (by rw [MakeChecks.laidMetH_plain _ _ _ (by kernel_rfl)]; exact laidMet_laidAll _ (by kernel_rfl) (by kernel_rfl))) ?_
  intro W base args ds gs before hval0 hW hc _ hL _
  have hval : ∀ (j : Nat) t v, Tryz.f3.params[j]? = some t → args[j]? = some v → Value.okWide Tryz.prog W .any base t v := hval0
  have hW' := hW
  obtain ⟨p, q, hA0, hV, rfl, _, _⟩ := hW
  have hA : DataW.TrodAll enc Tryz.prog W 0 (fun _ => true) true Tryz.f3.params.toList args.toList ds p := hA0
  rw [Tryz.params3] at hA hval
  obtain ⟨v0, d0, rfl, rfl, h0⟩ := trodAll_one hA
  obtain ⟨x, rfl, rfl, rfl, wx⟩ := open_int Tryz.underlying3 (hval 0 3 v0 rfl rfl) h0
  obtain ⟨g1, g2, g3, g4, g5, g6, g7, g8, g9, g10, rfl⟩ : ∃ g1 g2 g3 g4 g5 g6 g7 g8 g9 g10, gs = [g1, g2, g3, g4, g5, g6, g7, g8, g9, g10] := by
    have hl := vlenFnEscape _ _ _ hV
    rcases gs with _ | ⟨g1, _ | ⟨g2, _ | ⟨g3, _ | ⟨g4, _ | ⟨g5, _ | ⟨g6, _ | ⟨g7, _ | ⟨g8, _ | ⟨g9, _ | ⟨g10, _ | ⟨g11, r⟩⟩⟩⟩⟩⟩⟩⟩⟩⟩⟩
    all_goals first | exact ⟨_, _, _, _, _, _, _, _, _, _, rfl⟩ | (exfalso; simp [Rows.fnEscapeSpec] at hl)
  have fin : Calls Tryz.prog 3 #[.int .i64 x] W fun e w' => e = .returned (.bool true) ∧ Below W.heap.size W w' := by
    have hL' := hL
    rw [MakeChecks.laidMetH_plain _ _ _ (by kernel_rfl)] at hL'
    obtain ⟨G, hE, hS⟩ := env_of hL' (fun y hy => by
      simp only [need, List.mem_cons, List.not_mem_nil, or_false] at hy
      rcases hy with rfl | rfl | rfl | rfl | rfl | rfl | rfl | rfl | rfl | rfl | rfl | rfl | rfl
      all_goals simp [Rows.fnEscapeRow])
    exact PAll.w3 x W _ G hE (fun d l => PAll.valid_quoted true _ l (PAll.scal_quote true l)) (PAll.isv_of hE hS)
  refine fin.mono fun e W' ⟨he, hb⟩ => ?_
  subst he
  exact ⟨_, rfl, _, _, _, [], [], q, hW', trodAll_mk1 (shut_bool Tryz.underlying4 true), trodAll_mk1 (shut_int Tryz.underlying3 wx), Below.trodVars laidOut hb varsOkFnEscape hV, hb.frame _, fun h => by cases h⟩

set_option maxHeartbeats 40000000 in
theorem factsFnEscape : joinedFacts Tryz.prog 3 Tryz.f3 Rows.fnEscapeSpec Rows.fnEscapeRow = true := by
  unfold joinedFacts
  simp only [Bool.and_eq_true]
  repeat' apply And.intro
  all_goals (as_aux_lemma => kernel_rfl)
theorem instFnEscape : Tryz.f3.isInstance Tryz.prog Rows.fnEscapeRow.origin Rows.fnEscapeRow.targs := of_decide_eq_true (by kernel_rfl)
theorem wrapFnEscape : Tryz.f3.isWrapper Tryz.prog Rows.fnEscapeRow.wrapper Rows.fnEscapeRow.mainSum := by unfold Func.isWrapper; first | (rw [if_pos (by decide +kernel)]; kernel_rfl) | (rw [if_neg (by decide +kernel)]; exact ⟨rfl, rfl⟩)
theorem nameFnEscape : Tryz.prog.funcNamed "loop.example/pub-g01450/laws.FnEscape" = some 3 := by kernel_rfl

theorem fnEscape_holds : Rows.FnEscapeSaid :=
  OpenClaim.holds_of_wide 3 Tryz.f3 rfl rfl rfl rfl rfl rfl rfl ⟨rfl, rfl, rfl, rfl, rfl⟩ rfl rfl rfl rfl rfl nameFnEscape Tryz.func3 factsFnEscape
    instFnEscape wrapFnEscape
    (fun os started H enc _ => liftedFnEscape os started H enc)

theorem textFnEscape : Rows.fnEscapeRow.wfByText (OpenSpec.ofChange Rows.fnEscapeSpec) = true := by kernel_rfl
theorem mainFnEscape : Tryz.pinned.checked.prog.mainIs = some (true, "f9ba0bdcb4f781d71dac5428f53b6c2553b9c2f61ddcf064964ca4461bb95ad9".toList) := by kernel_rfl
theorem looksFnEscape : true = Tryz.pinned.checked.prog.looks [] := by kernel_rfl
theorem standFnEscape : Tryz.prog.wantsStandIn 3 = false := by kernel_rfl
theorem goesFnEscape : false = Rows.fnEscapeRow.goesBy Tryz.pinned.checked.prog := by kernel_rfl

theorem fnEscape_card : Rows.FnEscapeCardSaid :=
  Claim7.holds_tied_plain_at .later [] [.data, .data, .data, .data, .sentinel, .sentinel, .data, .sentinel, .sentinel, .sentinel, .sentinel, .sentinel, .sentinel, .sentinel, .sentinel, .data, .pinned] true (true, "f9ba0bdcb4f781d71dac5428f53b6c2553b9c2f61ddcf064964ca4461bb95ad9") true
    fnEscape_holds (fun _ h => by cases h) textFnEscape (fun _ h => by cases h) fnEscape_row_tie rfl ⟨rfl, rfl⟩ mainFnEscape rfl
    (fun f fn hf hfn => by
      obtain rfl : f = 3 := Option.some.inj (nameFnEscape.symm.trans hf) |>.symm
      obtain rfl : fn = Tryz.f3 := (Option.some.inj (Tryz.func3.symm.trans hfn)).symm
      exact ⟨looksFnEscape, fun j t ht => by
        rw [Tryz.params3] at ht
        have h4 : t = 3 := by
          rcases j with _ | j
          · simpa using ht.symm
          · simp at ht
        subst h4
        exact standFnEscape⟩)
    goesFnEscape
end Go.Proofs.YtjfbkgkpjkickaaGreatDoor
