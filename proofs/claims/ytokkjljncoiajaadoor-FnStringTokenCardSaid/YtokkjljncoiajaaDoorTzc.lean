/- FnStringToken, the tied card: the law returns true, whatever the input. Conditions: the listed package-level variables hold what the program's text lays in them (the card ties them). -/
import Derived.Test.YtokkjljncoiajaaDoorTzb
import Derived.Test.YtokkjljncoiajaaDoorTi
import Derived.Test.YtokkjljncoiajaaDoorCards
import Derived.Test.YtokkjljncoiajaaDoorTie
import Derived.SevenTiedAt
set_option linter.unusedVariables false
set_option linter.unusedSimpArgs false
namespace Go.Proofs.YtokkjljncoiajaaDoor
open Go Go.ChangeShapes Go.WideShapes Go.ChangeAt Go.RowKit Go.ChangeMaps

theorem varsOkFnStringToken : varsRowed Tryd.prog Rows.fnStringTokenSpec.vars = true := by kernel_rfl
theorem norm_cellFnStringToken {W : World} (h : laidMetH Tryd.prog Rows.fnStringTokenRow.laid W) (i : Nat) (hi : i < normZ.length) : W.cell? ⟨0, i, none⟩ = some (.int .u8 (normZ.getD i 0)) := by
  rw [MakeChecks.laidMetH_plain _ _ _ (by kernel_rfl)] at h
  obtain ⟨g, t, cs, fuel, p, h1, h2, h3, h4⟩ := Lib.laidMet.reads h (n := "loop.example/pub-g01450/pub/jsontext.normKind") (d := Rows.laid_loop_example_pub_g01450_pub_jsontext_normKind) (by simp [Rows.fnStringTokenRow])
  obtain rfl := Option.some.inj (normOk.symm.trans h1)
  obtain rfl := Option.some.inj (normTy.symm.trans h2)
  have e : (Rows.laid_loop_example_pub_g01450_pub_jsontext_normKind : DataW Unit) = Lib.tabData .u8 normZ := by kernel_rfl
  rw [e] at h4
  have hc := Lib.cells_of_tab Tryd.underlying62 Tryd.underlying42 cells42 cells62 h4
  rw [World.var?_cell normOk h3 i]
  have : cs.toList[i]? = some (.int .u8 (normZ.getD i 0)) := by
    rw [hc]; simp [List.getD, hi]
  simpa using this
theorem escOk : Tryd.prog.globalNamed "loop.example/pub-g01450/pub/jsontext_internal_jsonwire.escapeASCII" = some 1 := by kernel_rfl
theorem escTy : (Tryd.prog.globals[1]?).map (·.type) = some 74 := by kernel_rfl
theorem cells5 : Tryd.prog.cellsOf 5 = 1 := by kernel_rfl
theorem cells74 : Tryd.prog.cellsOf 74 = 128 := by kernel_rfl
theorem und74 : Tryd.prog.underlying 74 = some (.array 128 5) := by kernel_rfl
def escZ : List Int := (Rows.laid_loop_example_pub_g01450_pub_jsontext_internal_jsonwire_escapeASCII (H := Unit) |> fun d => match d with
  | .agg l => l.map fun x => match x with | .lit (.int _ n) => n | _ => 0
  | _ => [])
theorem esc_cell {W : World} (h : laidMetH Tryd.prog Rows.fnStringTokenRow.laid W) : W.cell? ⟨1, 34, none⟩ = some (.int .u8 1) := by
  rw [MakeChecks.laidMetH_plain _ _ _ (by kernel_rfl)] at h
  obtain ⟨g, t, cs, fuel, p, h1, h2, h3, h4⟩ := Lib.laidMet.reads h (n := "loop.example/pub-g01450/pub/jsontext_internal_jsonwire.escapeASCII") (d := Rows.laid_loop_example_pub_g01450_pub_jsontext_internal_jsonwire_escapeASCII) (by simp [Rows.fnStringTokenRow])
  obtain rfl := Option.some.inj (escOk.symm.trans h1)
  obtain rfl := Option.some.inj (escTy.symm.trans h2)
  have e : (Rows.laid_loop_example_pub_g01450_pub_jsontext_internal_jsonwire_escapeASCII : DataW Unit) = Lib.tabData .u8 escZ := by kernel_rfl
  rw [e] at h4
  have hc := Lib.cells_of_tab und74 Tryd.underlying5 cells5 cells74 h4
  rw [World.var?_cell escOk h3 34]
  have hi : 34 < escZ.length := by decide +kernel
  have hv : escZ.getD 34 0 = 1 := by decide +kernel
  have : cs.toList[34]? = some (.int .u8 (escZ.getD 34 0)) := by
    rw [hc]; simp [List.getD, hi]
  rw [hv] at this
  simpa using this
theorem cell_pos1 {W : World} {i : Nat} {v : Value} (h : W.cell? ⟨1, i, none⟩ = some v) : 2 ≤ W.heap.size := by
  rcases Nat.lt_or_ge W.heap.size 2 with h1 | h1
  · have : W.heap[1]? = none := Array.getElem?_eq_none (by omega)
    simp [World.cell?, this] at h
  · exact h1
set_option maxRecDepth 100000 in
theorem liftedFnStringToken (os : Os) (started : os.Started) (H : Type) (enc : TypeId × Value → H) :
    ReturnsInHanded {} Tryd.checked os 4 .any (fun w args => (Rows.fnStringTokenSpec.pre enc Tryd.prog Tryd.f4 Rows.fnStringTokenRow.domain false w args ∧ laidMetH Tryd.prog Rows.fnStringTokenRow.laid w) ∧ sizedMet enc Tryd.prog Tryd.f4 (OpenSpec.ofChange Rows.fnStringTokenSpec) false w args)
      (Rows.fnStringTokenSpec.post enc Tryd.prog Tryd.f4 false true false false) := by
  refine returnsInHanded_of_change_and (C := Tryd.checked) (X := fun w _ => laidMetH Tryd.prog Rows.fnStringTokenRow.laid w) (fun _ _ _ hh h => h.of_heap hh) own started (by kernel_rfl) Tryd.func4
    (ChangeSpec.witness_shaped (enc := enc) (C := Tryd.checked) (os := os) (X := fun w _ => laidMetH Tryd.prog Rows.fnStringTokenRow.laid w) false (World.laidAll Tryd.prog os Rows.fnStringTokenRow.laid) #[.string ⟨#[]⟩] 8 (World.laidAll_os _ _ _)
      (World.shaped_of_ZipB (by kernel_rfl) (by kernel_rfl)) (by kernel_rfl) (by kernel_rfl) (by kernel_rfl)
      (by rw [MakeChecks.laidMetH_plain _ _ _ (by kernel_rfl)]; exact laidMet_laidAll _ (by kernel_rfl) (by kernel_rfl))) ?_
  intro W base args ds gs before hval0 hW hc _ hL _
  have hval : ∀ (j : Nat) t v, Tryd.f4.params[j]? = some t → args[j]? = some v → Value.okWide Tryd.prog W .any base t v := hval0
  have hW' := hW
  obtain ⟨p, q, hA0, hV, rfl, _, _⟩ := hW
  have hA : DataW.TrodAll enc Tryd.prog W 0 (fun _ => true) true Tryd.f4.params.toList args.toList ds p := hA0
  rw [Tryd.params4] at hA hval
  obtain ⟨v0, d0, rfl, rfl, h0⟩ := trodAll_one hA
  obtain ⟨x, rfl, rfl, rfl, wx⟩ := open_string Tryd.underlying9 (hval 0 9 v0 rfl rfl) h0
  obtain ⟨g1, g2, g3, rfl⟩ : ∃ g1 g2 g3, gs = [g1, g2, g3] := by
    rcases gs with _ | ⟨g1, _ | ⟨g2, _ | ⟨g3, _ | ⟨g4, r⟩⟩⟩⟩
    · exact absurd hV (fun h => h.elim)
    · obtain ⟨_, _, _, _, _, _, _, _, _, _, h, _⟩ := hV; exact absurd h (fun h => h.elim)
    · obtain ⟨_, _, _, _, _, _, _, _, _, _, h, _⟩ := hV
      obtain ⟨_, _, _, _, _, _, _, _, _, _, h, _⟩ := h; exact absurd h (fun h => h.elim)
    · exact ⟨g1, g2, g3, rfl⟩
    · obtain ⟨_, _, _, _, _, _, _, _, _, _, h, _⟩ := hV
      obtain ⟨_, _, _, _, _, _, _, _, _, _, h, _⟩ := h
      obtain ⟨_, _, _, _, _, _, _, _, _, _, h, _⟩ := h; exact absurd h (fun h => h.elim)
  have fin : Calls Tryd.prog 4 #[.string x] W fun e w' => e = .returned (.bool true) ∧ Below W.heap.size W w' :=
    w4S x W (norm_cellFnStringToken hL 34 (by decide +kernel)) (esc_cell hL) (cell_pos1 (esc_cell hL))
  refine fin.mono fun e W' ⟨he, hb⟩ => ?_
  subst he
  exact ⟨_, rfl, _, _, _, [], [], q, hW', trodAll_mk1 (shut_bool Tryd.underlying4 true), trodAll_mk1 (shut_string Tryd.underlying9 wx), Below.trodVars laidOut hb varsOkFnStringToken hV, hb.frame _, fun h => by cases h⟩

theorem fnStringToken_holds : Rows.FnStringTokenSaid :=
  OpenClaim.holds_of_wide 4 Tryd.f4 rfl rfl rfl rfl rfl rfl rfl ⟨rfl, rfl, rfl, rfl, rfl⟩ rfl rfl rfl rfl rfl (by kernel_rfl) Tryd.func4 (by kernel_rfl)
    (of_decide_eq_true (by kernel_rfl)) (by unfold Func.isWrapper; first | (rw [if_pos (by decide +kernel)]; kernel_rfl) | (rw [if_neg (by decide +kernel)]; exact ⟨rfl, rfl⟩))
    (fun os started H enc _ => liftedFnStringToken os started H enc)

theorem fnStringToken_card : Rows.FnStringTokenCardSaid :=
  Claim7.holds_tied_plain_at .later [] [.data, .data, .data, .data, .data, .sentinel, .data, .sentinel, .data, .pinned, .pinned, .pinned] true (true, "7ab73ff569cbd71ac8a6fb112f887a10d91a7a66b418e02ed23eb6e8120430dc") false
    fnStringToken_holds (fun _ h => by cases h) (by kernel_rfl) (fun _ h => by cases h) fnStringToken_row_tie rfl ⟨rfl, rfl⟩ (by kernel_rfl) rfl
    (fun f fn hf hfn => by
      obtain rfl : f = 4 := Option.some.inj ((show Tryd.prog.funcNamed "loop.example/pub-g01450/laws.FnStringToken" = some 4 by kernel_rfl).symm.trans hf) |>.symm
      obtain rfl : fn = Tryd.f4 := (Option.some.inj (Tryd.func4.symm.trans hfn)).symm
      exact ⟨by kernel_rfl, fun j t ht => by
        rw [Tryd.params4] at ht
        have h4 : t = 9 := by
          rcases j with _ | j
          · simpa using ht.symm
          · simp at ht
        subst h4
        exact (show Tryd.prog.wantsStandIn 9 = false by kernel_rfl)⟩)
    (by kernel_rfl)
end Go.Proofs.YtokkjljncoiajaaDoor
