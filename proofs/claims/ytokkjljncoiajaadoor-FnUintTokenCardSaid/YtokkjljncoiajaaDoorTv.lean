/- FnUintToken, the tied card: the law returns true, whatever the input. Conditions: the listed package-level variables hold what the program's text lays in them (the card ties them). -/
import Derived.Test.YtokkjljncoiajaaDoorTu
import Derived.Test.YtokkjljncoiajaaDoorTi
import Derived.Test.YtokkjljncoiajaaDoorCards
import Derived.Test.YtokkjljncoiajaaDoorTie
import Derived.SevenTiedAt
set_option linter.unusedVariables false
set_option linter.unusedSimpArgs false
namespace Go.Proofs.YtokkjljncoiajaaDoor
open Go Go.ChangeShapes Go.WideShapes Go.ChangeAt Go.RowKit

theorem varsOkFnUintToken : varsRowed Tryd.prog Rows.fnUintTokenSpec.vars = true := by kernel_rfl
theorem norm_cellFnUintToken {W : World} (h : laidMetH Tryd.prog Rows.fnUintTokenRow.laid W) (i : Nat) (hi : i < normZ.length) : W.cell? ⟨0, i, none⟩ = some (.int .u8 (normZ.getD i 0)) := by
  rw [MakeChecks.laidMetH_plain _ _ _ (by kernel_rfl)] at h
  obtain ⟨g, t, cs, fuel, p, h1, h2, h3, h4⟩ := Lib.laidMet.reads h (n := "loop.example/pub-g01450/pub/jsontext.normKind") (d := Rows.laid_loop_example_pub_g01450_pub_jsontext_normKind) (by simp [Rows.fnUintTokenRow])
  obtain rfl := Option.some.inj (normOk.symm.trans h1)
  obtain rfl := Option.some.inj (normTy.symm.trans h2)
  have e : (Rows.laid_loop_example_pub_g01450_pub_jsontext_normKind : DataW Unit) = Lib.tabData .u8 normZ := by kernel_rfl
  rw [e] at h4
  have hc := Lib.cells_of_tab Tryd.underlying62 Tryd.underlying42 cells42 cells62 h4
  rw [World.var?_cell normOk h3 i]
  have : cs.toList[i]? = some (.int .u8 (normZ.getD i 0)) := by
    rw [hc]; simp [List.getD, hi]
  simpa using this
theorem u10OkFnUintToken : Tryd.prog.globalNamed "internal/strconv.uint64pow10" = some 7 := by kernel_rfl
theorem u10TyFnUintToken : (Tryd.prog.globals[7]?).map (·.type) = some 112 := by kernel_rfl
theorem cells29FnUintToken : Tryd.prog.cellsOf 29 = 1 := by kernel_rfl
theorem cells112FnUintToken : Tryd.prog.cellsOf 112 = 20 := by kernel_rfl
theorem und112FnUintToken : Tryd.prog.underlying 112 = some (.array 20 29) := by kernel_rfl
theorem tab_ofFnUintToken {W : World} (h : laidMetH Tryd.prog Rows.fnUintTokenRow.laid W) (V : World) (hV : Below W.heap.size W V) : Lib.TabIs Tryd.prog V "internal/strconv.uint64pow10" .u64 Lib.pow10Tab := by
  rw [MakeChecks.laidMetH_plain _ _ _ (by kernel_rfl)] at h
  obtain ⟨g, t, cs, fuel, p, a1, a2, a3, a4⟩ := Lib.laidMet.reads h (n := "internal/strconv.uint64pow10") (d := Rows.laid_internal_strconv_uint64pow10) (by simp [Rows.fnUintTokenRow])
  obtain rfl := Option.some.inj (u10OkFnUintToken.symm.trans a1)
  obtain rfl := Option.some.inj (u10TyFnUintToken.symm.trans a2)
  have e1 : (Rows.laid_internal_strconv_uint64pow10 : DataW Unit) = Lib.tabData .u64 Lib.pow10Tab := by kernel_rfl
  rw [e1] at a4
  have hc1 := Lib.cells_of_tab und112FnUintToken Tryd.underlying29 cells29FnUintToken cells112FnUintToken a4
  have tab1 : Lib.TabIs Tryd.prog W "internal/strconv.uint64pow10" .u64 Lib.pow10Tab := by
    unfold Lib.TabIs
    rw [a3, ← hc1]
  have s7 : 7 < W.heap.size := by
    refine Nat.not_le.1 fun hle => ?_
    have : W.heap[7]? = none := Array.getElem?_eq_none hle
    simp [World.var?, u10OkFnUintToken, this] at a3
  have k7 : V.heap[7]? = W.heap[7]? := hV.block 7 s7
  unfold Lib.TabIs at tab1 ⊢
  rw [← tab1]
  simp only [World.var?, u10OkFnUintToken, Option.bind_some, k7]

set_option maxRecDepth 100000 in
theorem liftedFnUintToken (os : Os) (started : os.Started) (H : Type) (enc : TypeId × Value → H) :
    ReturnsInHanded {} Tryd.checked os 5 .any (fun w args => (Rows.fnUintTokenSpec.pre enc Tryd.prog Tryd.f5 Rows.fnUintTokenRow.domain false w args ∧ laidMetH Tryd.prog Rows.fnUintTokenRow.laid w) ∧ sizedMet enc Tryd.prog Tryd.f5 (OpenSpec.ofChange Rows.fnUintTokenSpec) false w args)
      (Rows.fnUintTokenSpec.post enc Tryd.prog Tryd.f5 false true false false) := by
  refine returnsInHanded_of_change_and (C := Tryd.checked) (X := fun w _ => laidMetH Tryd.prog Rows.fnUintTokenRow.laid w) (fun _ _ _ hh h => h.of_heap hh) own started (by kernel_rfl) Tryd.func5
    (ChangeSpec.witness_shaped (enc := enc) (C := Tryd.checked) (os := os) (X := fun w _ => laidMetH Tryd.prog Rows.fnUintTokenRow.laid w) false (World.laidAll Tryd.prog os Rows.fnUintTokenRow.laid) #[.int .u64 0] 8 (World.laidAll_os _ _ _)
      (World.shaped_of_ZipB (by kernel_rfl) (by kernel_rfl)) (by kernel_rfl) (by kernel_rfl) (by kernel_rfl)
      (by rw [MakeChecks.laidMetH_plain _ _ _ (by kernel_rfl)]; exact laidMet_laidAll _ (by kernel_rfl) (by kernel_rfl))) ?_
  intro W base args ds gs before hval0 hW hc _ hL _
  have hval : ∀ (j : Nat) t v, Tryd.f5.params[j]? = some t → args[j]? = some v → Value.okWide Tryd.prog W .any base t v := hval0
  have hW' := hW
  obtain ⟨p, q, hA0, hV, rfl, _, _⟩ := hW
  have hA : DataW.TrodAll enc Tryd.prog W 0 (fun _ => true) true Tryd.f5.params.toList args.toList ds p := hA0
  rw [Tryd.params5] at hA hval
  obtain ⟨v0, d0, rfl, rfl, h0⟩ := trodAll_one hA
  obtain ⟨x, rfl, rfl, rfl, wx⟩ := open_int Tryd.underlying29 (hval 0 29 v0 rfl rfl) h0
  obtain ⟨g1, g2, g3, rfl⟩ : ∃ g1 g2 g3, gs = [g1, g2, g3] := by
    rcases gs with _ | ⟨g1, _ | ⟨g2, _ | ⟨g3, _ | ⟨g4, r⟩⟩⟩⟩
    · exact absurd hV (fun h => h.elim)
    · obtain ⟨_, _, _, _, _, _, _, _, _, _, h, _⟩ := hV; exact absurd h (fun h => h.elim)
    · obtain ⟨_, _, _, _, _, _, _, _, _, _, h, _⟩ := hV
      obtain ⟨_, _, _, _, _, _, _, _, _, _, h, _⟩ := h; exact absurd h (fun h => h.elim)
    · exact ⟨g1, g2, g3, rfl⟩
    · obtain ⟨_, _, _, _, _, _, _, _, _, _, h, _⟩ := hV
      obtain ⟨_, _, _, _, _, _, _, _, _, _, h, _⟩ := h
      obtain ⟨_, _, _, _, _, _, _, _, _, _, h, _⟩ := h; exact absurd h (fun h => h.elim)
  have fin : Calls Tryd.prog 5 #[.int .u64 x] W fun e w' => e = .returned (.bool true) ∧ Below W.heap.size W w' :=
    w5U x W (wf_u64 wx).1 (wf_u64 wx).2 (norm_cellFnUintToken hL 48 (by decide +kernel)) (cell_pos (norm_cellFnUintToken hL 48 (by decide +kernel))) (tab_ofFnUintToken hL)
  refine fin.mono fun e W' ⟨he, hb⟩ => ?_
  subst he
  exact ⟨_, rfl, _, _, _, [], [], q, hW', trodAll_mk1 (shut_bool Tryd.underlying4 true), trodAll_mk1 (shut_int Tryd.underlying29 wx), Below.trodVars laidOut hb varsOkFnUintToken hV, hb.frame _, fun h => by cases h⟩

theorem fnUintToken_holds : Rows.FnUintTokenSaid :=
  OpenClaim.holds_of_wide 5 Tryd.f5 rfl rfl rfl rfl rfl rfl rfl ⟨rfl, rfl, rfl, rfl, rfl⟩ rfl rfl rfl rfl rfl (by kernel_rfl) Tryd.func5 (by kernel_rfl)
    (of_decide_eq_true (by kernel_rfl)) (by unfold Func.isWrapper; first | (rw [if_pos (by decide +kernel)]; kernel_rfl) | (rw [if_neg (by decide +kernel)]; exact ⟨rfl, rfl⟩))
    (fun os started H enc _ => liftedFnUintToken os started H enc)

theorem fnUintToken_card : Rows.FnUintTokenCardSaid :=
  Claim7.holds_tied_plain_at .later [] [.data, .data, .data, .data, .data, .sentinel, .data, .sentinel, .data, .pinned, .pinned, .pinned] true (true, "7ab73ff569cbd71ac8a6fb112f887a10d91a7a66b418e02ed23eb6e8120430dc") false
    fnUintToken_holds (fun _ h => by cases h) (by kernel_rfl) (fun _ h => by cases h) fnUintToken_row_tie rfl ⟨rfl, rfl⟩ (by kernel_rfl) rfl
    (fun f fn hf hfn => by
      obtain rfl : f = 5 := Option.some.inj ((show Tryd.prog.funcNamed "loop.example/pub-g01450/laws.FnUintToken" = some 5 by kernel_rfl).symm.trans hf) |>.symm
      obtain rfl : fn = Tryd.f5 := (Option.some.inj (Tryd.func5.symm.trans hfn)).symm
      exact ⟨by kernel_rfl, fun j t ht => by
        rw [Tryd.params5] at ht
        have h4 : t = 29 := by
          rcases j with _ | j
          · simpa using ht.symm
          · simp at ht
        subst h4
        exact (show Tryd.prog.wantsStandIn 29 = false by kernel_rfl)⟩)
    (by kernel_rfl)
end Go.Proofs.YtokkjljncoiajaaDoor
