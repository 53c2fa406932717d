/- FnBrackets: its row and its card, given what the law computes. -/
import Derived.Test.YtjfbkgkpjkickaaGreatDoorVU27
import Derived.Test.YtjfbkgkpjkickaaGreatDoorCards
import Derived.Test.YtjfbkgkpjkickaaGreatDoorTie
import Derived.SevenTiedAt
namespace Go.Proofs.YtjfbkgkpjkickaaGreatDoor
open Go Go.ChangeShapes Go.WideShapes Go.ChangeAt Go.RowKit Go.ChangeMaps

theorem varsOkFnBrackets : varsRowed Tryz.prog Rows.fnBracketsSpec.vars = true := by kernel_rfl
theorem vlenFnBrackets {H : Type} {enc : TypeId × Value → H} {w : World} {sp : Nat → Bool} : ∀ (ns : List String) (gs : List (DataW H)) (ps : List MemPlace), DataW.TrodVars enc Tryz.prog w sp ns gs ps → gs.length = ns.length
  | [], [], _, _ => rfl
  | [], _ :: _, _, h => h.elim
  | _ :: _, [], _, h => h.elim
  | _ :: ns, _ :: gs, _, h => by
    obtain ⟨_, _, _, _, _, q, _, _, _, _, h, _⟩ := h
    rw [List.length_cons, List.length_cons, vlenFnBrackets ns gs q h]

set_option maxRecDepth 100000 in
theorem liftedFnBrackets (core : ∀ (x y : Int) (W : World) (G : PAll.GV), PAll.Env W G → PAll.Sent W G W.heap.size → Calls Tryz.prog 6 #[.int .i64 x, .int .i64 y] W fun e w' => e = .returned (.bool true) ∧ Below W.heap.size W w') (os : Os) (started : os.Started) (H : Type) (enc : TypeId × Value → H) :
    ReturnsInHanded {} Tryz.checked os 6 .any (fun w args => (Rows.fnBracketsSpec.pre enc Tryz.prog Tryz.f6 Rows.fnBracketsRow.domain false w args ∧ laidMetH Tryz.prog Rows.fnBracketsRow.laid w) ∧ sizedMet enc Tryz.prog Tryz.f6 (OpenSpec.ofChange Rows.fnBracketsSpec) false w args)
      (Rows.fnBracketsSpec.post enc Tryz.prog Tryz.f6 false true false false) := by
  refine returnsInHanded_of_change_and (C := Tryz.checked) (X := fun w _ => laidMetH Tryz.prog Rows.fnBracketsRow.laid w) (fun _ _ _ hh h => h.of_heap hh) own started (by kernel_rfl) Tryz.func6
    (ChangeSpec.witness_shaped (enc := enc) (C := Tryz.checked) (os := os) (X := fun w _ => laidMetH Tryz.prog Rows.fnBracketsRow.laid w) false (World.laidAll Tryz.prog os Rows.fnBracketsRow.laid) #[.int .i64 0, .int .i64 0] 8 (World.laidAll_os _ _ _)
      (World.shaped_of_ZipB (by kernel_rfl) (by kernel_rfl)) (by kernel_rfl) (by kernel_rfl) (by kernel_rfl)
      (by rw [MakeChecks.laidMetH_plain _ _ _ (by kernel_rfl)]; exact laidMet_laidAll _ (by kernel_rfl) (by kernel_rfl))) ?_
  intro W base args ds gs before hval0 hW hc _ hL _
  have hval : ∀ (j : Nat) t v, Tryz.f6.params[j]? = some t → args[j]? = some v → Value.okWide Tryz.prog W .any base t v := hval0
  have hW' := hW
  obtain ⟨p, q, hA0, hV, rfl, _, _⟩ := hW
  have hA : DataW.TrodAll enc Tryz.prog W 0 (fun _ => true) true Tryz.f6.params.toList args.toList ds p := hA0
  rw [Tryz.params6] at hA hval
  obtain ⟨v0, v1, d0, d1, p0, p1, rfl, rfl, rfl, h0, h1⟩ := trodAll_two hA
  obtain ⟨x, rfl, rfl, rfl, wx⟩ := open_int Tryz.underlying3 (hval 0 3 v0 rfl rfl) h0
  obtain ⟨y, rfl, rfl, rfl, wy⟩ := open_int Tryz.underlying3 (hval 1 3 v1 rfl rfl) h1
  obtain ⟨g1, g2, g3, g4, g5, g6, g7, g8, g9, g10, rfl⟩ : ∃ g1 g2 g3 g4 g5 g6 g7 g8 g9 g10, gs = [g1, g2, g3, g4, g5, g6, g7, g8, g9, g10] := by
    have hl := vlenFnBrackets _ _ _ hV
    rcases gs with _ | ⟨g1, _ | ⟨g2, _ | ⟨g3, _ | ⟨g4, _ | ⟨g5, _ | ⟨g6, _ | ⟨g7, _ | ⟨g8, _ | ⟨g9, _ | ⟨g10, _ | ⟨g11, r⟩⟩⟩⟩⟩⟩⟩⟩⟩⟩⟩
    all_goals first | exact ⟨_, _, _, _, _, _, _, _, _, _, rfl⟩ | (exfalso; simp [Rows.fnBracketsSpec] at hl)
  have fin : Calls Tryz.prog 6 #[.int .i64 x, .int .i64 y] W fun e w' => e = .returned (.bool true) ∧ Below W.heap.size W w' := by
    have hL' := hL
    rw [MakeChecks.laidMetH_plain _ _ _ (by kernel_rfl)] at hL'
    obtain ⟨G, hE, hS⟩ := env_of hL' (fun y hy => by
      simp only [need, List.mem_cons, List.not_mem_nil, or_false] at hy
      rcases hy with rfl | rfl | rfl | rfl | rfl | rfl | rfl | rfl | rfl | rfl | rfl | rfl | rfl
      all_goals simp [Rows.fnBracketsRow])
    exact core x y W _ hE hS
  refine fin.mono fun e W' ⟨he, hb⟩ => ?_
  subst he
  exact ⟨_, rfl, _, _, _, [], [], q, hW', trodAll_mk1 (shut_bool Tryz.underlying4 true), trodAll_mk2 (shut_int Tryz.underlying3 wx) (shut_int Tryz.underlying3 wy), Below.trodVars laidOut hb varsOkFnBrackets hV, hb.frame _, fun h => by cases h⟩

set_option maxHeartbeats 40000000 in
theorem factsFnBrackets : joinedFacts Tryz.prog 6 Tryz.f6 Rows.fnBracketsSpec Rows.fnBracketsRow = true := by
  unfold joinedFacts
  simp only [Bool.and_eq_true]
  repeat' apply And.intro
  all_goals (as_aux_lemma => kernel_rfl)
theorem instFnBrackets : Tryz.f6.isInstance Tryz.prog Rows.fnBracketsRow.origin Rows.fnBracketsRow.targs := of_decide_eq_true (by kernel_rfl)
theorem wrapFnBrackets : Tryz.f6.isWrapper Tryz.prog Rows.fnBracketsRow.wrapper Rows.fnBracketsRow.mainSum := by unfold Func.isWrapper; first | (rw [if_pos (by decide +kernel)]; kernel_rfl) | (rw [if_neg (by decide +kernel)]; exact ⟨rfl, rfl⟩)
theorem nameFnBrackets : Tryz.prog.funcNamed "loop.example/pub-g01450/laws.FnBrackets" = some 6 := by kernel_rfl

theorem fnBrackets_holds0 (core : ∀ (x y : Int) (W : World) (G : PAll.GV), PAll.Env W G → PAll.Sent W G W.heap.size → Calls Tryz.prog 6 #[.int .i64 x, .int .i64 y] W fun e w' => e = .returned (.bool true) ∧ Below W.heap.size W w') : Rows.FnBracketsSaid :=
  OpenClaim.holds_of_wide 6 Tryz.f6 rfl rfl rfl rfl rfl rfl rfl ⟨rfl, rfl, rfl, rfl, rfl⟩ rfl rfl rfl rfl rfl nameFnBrackets Tryz.func6 factsFnBrackets
    instFnBrackets wrapFnBrackets
    (fun os started H enc _ => liftedFnBrackets core os started H enc)

theorem textFnBrackets : Rows.fnBracketsRow.wfByText (OpenSpec.ofChange Rows.fnBracketsSpec) = true := by kernel_rfl
theorem mainFnBrackets : Tryz.pinned.checked.prog.mainIs = some (true, "f9ba0bdcb4f781d71dac5428f53b6c2553b9c2f61ddcf064964ca4461bb95ad9".toList) := by kernel_rfl
theorem looksFnBrackets : true = Tryz.pinned.checked.prog.looks [] := by kernel_rfl
theorem standFnBrackets : Tryz.prog.wantsStandIn 3 = false := by kernel_rfl
theorem goesFnBrackets : false = Rows.fnBracketsRow.goesBy Tryz.pinned.checked.prog := by kernel_rfl

theorem fnBrackets_card0 (core : ∀ (x y : Int) (W : World) (G : PAll.GV), PAll.Env W G → PAll.Sent W G W.heap.size → Calls Tryz.prog 6 #[.int .i64 x, .int .i64 y] W fun e w' => e = .returned (.bool true) ∧ Below W.heap.size W w') : Rows.FnBracketsCardSaid :=
  Claim7.holds_tied_plain_at .later [] [.data, .data, .data, .data, .sentinel, .sentinel, .data, .sentinel, .sentinel, .sentinel, .sentinel, .sentinel, .sentinel, .sentinel, .sentinel, .data, .pinned] true (true, "f9ba0bdcb4f781d71dac5428f53b6c2553b9c2f61ddcf064964ca4461bb95ad9") true
    (fnBrackets_holds0 core) (fun _ h => by cases h) textFnBrackets (fun _ h => by cases h) fnBrackets_row_tie rfl ⟨rfl, rfl⟩ mainFnBrackets rfl
    (fun f fn hf hfn => by
      obtain rfl : f = 6 := Option.some.inj (nameFnBrackets.symm.trans hf) |>.symm
      obtain rfl : fn = Tryz.f6 := (Option.some.inj (Tryz.func6.symm.trans hfn)).symm
      exact ⟨looksFnBrackets, fun j t ht => by
        rw [Tryz.params6] at ht
        have h4 : t = 3 := by
          rcases j with _ | j
          · simpa using ht.symm
          · rcases j with _ | j
            · simpa using ht.symm
            · simp at ht
        subst h4
        exact standFnBrackets⟩)
    goesFnBrackets
end Go.Proofs.YtjfbkgkpjkickaaGreatDoor
