/- FnBoolToken: the row, proved. -/
import Derived.Test.YtokkjljncoiajaaDoorTh
import Derived.ProofKit
import Derived.Lay
import Derived.OpenVars
import Derived.LaidHandle
import Derived.MakeChecks
import Derived.Lib.LaidU8
import Derived.Lib.LaidTab
import Derived.Stop.Joined
namespace Go.Proofs.YtokkjljncoiajaaDoor
open Go.ChangeShapes Go.WideShapes Go.ChangeAt Go.RowKit

theorem own : ownKnob Tryd.prog.godebug = none := by kernel_rfl
theorem laidOut : laidOutB Tryd.prog = true := by kernel_rfl
theorem varsOk : varsRowed Tryd.prog Rows.fnBoolTokenSpec.vars = true := by kernel_rfl
theorem normOk : Tryd.prog.globalNamed "loop.example/pub-g01450/pub/jsontext.normKind" = some 0 := by kernel_rfl
theorem normTy : (Tryd.prog.globals[0]?).map (·.type) = some 62 := by kernel_rfl
theorem cells42 : Tryd.prog.cellsOf 42 = 1 := by kernel_rfl
theorem cells62 : Tryd.prog.cellsOf 62 = 256 := by kernel_rfl
def normZ : List Int := (Rows.laid_loop_example_pub_g01450_pub_jsontext_normKind (H := Unit) |> fun d => match d with
  | .agg l => l.map fun x => match x with | .lit (.int _ n) => n | _ => 0
  | _ => [])
theorem norm_cell {W : World} (h : laidMetH Tryd.prog Rows.fnBoolTokenRow.laid W) (i : Nat) (hi : i < normZ.length) : W.cell? ⟨0, i, none⟩ = some (.int .u8 (normZ.getD i 0)) := by
  rw [MakeChecks.laidMetH_plain _ _ _ (by kernel_rfl)] at h
  obtain ⟨g, t, cs, fuel, p, h1, h2, h3, h4⟩ := Lib.laidMet.reads h (n := "loop.example/pub-g01450/pub/jsontext.normKind") (d := Rows.laid_loop_example_pub_g01450_pub_jsontext_normKind) (by simp [Rows.fnBoolTokenRow])
  obtain rfl := Option.some.inj (normOk.symm.trans h1)
  obtain rfl := Option.some.inj (normTy.symm.trans h2)
  have e : (Rows.laid_loop_example_pub_g01450_pub_jsontext_normKind : DataW Unit) = Lib.tabData .u8 normZ := by kernel_rfl
  rw [e] at h4
  have hc := Lib.cells_of_tab Tryd.underlying62 Tryd.underlying42 cells42 cells62 h4
  rw [World.var?_cell normOk h3 i]
  have : cs.toList[i]? = some (.int .u8 (normZ.getD i 0)) := by
    rw [hc]; simp [List.getD, hi]
  simpa using this
theorem norm_t {W : World} (h : laidMetH Tryd.prog Rows.fnBoolTokenRow.laid W) : W.cell? ⟨0, 116, none⟩ = some (.int .u8 116) := norm_cell h 116 (by decide +kernel)
theorem norm_f {W : World} (h : laidMetH Tryd.prog Rows.fnBoolTokenRow.laid W) : W.cell? ⟨0, 102, none⟩ = some (.int .u8 102) := norm_cell h 102 (by decide +kernel)
theorem cell_pos {W : World} {i : Nat} {v : Value} (h : W.cell? ⟨0, i, none⟩ = some v) : 1 ≤ W.heap.size := by
  rcases Nat.eq_zero_or_pos W.heap.size with h1 | h1
  · have : W.heap[0]? = none := Array.getElem?_eq_none (by omega)
    simp [World.cell?, this] at h
  · exact h1

set_option maxRecDepth 100000 in
theorem lifted (os : Os) (started : os.Started) (H : Type) (enc : TypeId × Value → H) :
    ReturnsInHanded {} Tryd.checked os 6 .any (fun w args => (Rows.fnBoolTokenSpec.pre enc Tryd.prog Tryd.f6 Rows.fnBoolTokenRow.domain false w args ∧ laidMetH Tryd.prog Rows.fnBoolTokenRow.laid w) ∧ sizedMet enc Tryd.prog Tryd.f6 (OpenSpec.ofChange Rows.fnBoolTokenSpec) false w args)
      (Rows.fnBoolTokenSpec.post enc Tryd.prog Tryd.f6 false true false false) := by
  refine returnsInHanded_of_change_and (C := Tryd.checked) (X := fun w _ => laidMetH Tryd.prog Rows.fnBoolTokenRow.laid w) (fun _ _ _ hh h => h.of_heap hh) own started (by kernel_rfl) Tryd.func6
    (ChangeSpec.witness_shaped (enc := enc) (C := Tryd.checked) (os := os) (X := fun w _ => laidMetH Tryd.prog Rows.fnBoolTokenRow.laid w) false (World.laidAll Tryd.prog os Rows.fnBoolTokenRow.laid) #[.bool false] 8 (World.laidAll_os _ _ _)
      (World.shaped_of_ZipB (by kernel_rfl) (by kernel_rfl)) (by kernel_rfl) (by kernel_rfl) (by kernel_rfl)
      (by rw [MakeChecks.laidMetH_plain _ _ _ (by kernel_rfl)]; exact laidMet_laidAll _ (by kernel_rfl) (by kernel_rfl))) ?_
  intro W base args ds gs before hval0 hW hc _ hL _
  have hval : ∀ (j : Nat) t v, Tryd.f6.params[j]? = some t → args[j]? = some v → Value.okWide Tryd.prog W .any base t v := hval0
  have hW' := hW
  obtain ⟨p, q, hA0, hV, rfl, _, _⟩ := hW
  have hA : DataW.TrodAll enc Tryd.prog W 0 (fun _ => true) true Tryd.f6.params.toList args.toList ds p := hA0
  rw [Tryd.params6] at hA hval
  obtain ⟨v0, d0, rfl, rfl, h0⟩ := trodAll_one hA
  obtain ⟨x, rfl, rfl, rfl⟩ := open_bool Tryd.underlying4 (hval 0 4 v0 rfl rfl) h0
  obtain ⟨g1, g2, g3, rfl⟩ : ∃ g1 g2 g3, gs = [g1, g2, g3] := by
    rcases gs with _ | ⟨g1, _ | ⟨g2, _ | ⟨g3, _ | ⟨g4, r⟩⟩⟩⟩
    · exact absurd hV (fun h => h.elim)
    · obtain ⟨_, _, _, _, _, _, _, _, _, _, h, _⟩ := hV; exact absurd h (fun h => h.elim)
    · obtain ⟨_, _, _, _, _, _, _, _, _, _, h, _⟩ := hV
      obtain ⟨_, _, _, _, _, _, _, _, _, _, h, _⟩ := h; exact absurd h (fun h => h.elim)
    · exact ⟨g1, g2, g3, rfl⟩
    · obtain ⟨_, _, _, _, _, _, _, _, _, _, h, _⟩ := hV
      obtain ⟨_, _, _, _, _, _, _, _, _, _, h, _⟩ := h
      obtain ⟨_, _, _, _, _, _, _, _, _, _, h, _⟩ := h; exact absurd h (fun h => h.elim)
  have fin : Calls Tryd.prog 6 #[.bool x] W fun e w' => e = .returned (.bool true) ∧ Below W.heap.size W w' := by
    cases x with
    | true => exact w6t W (norm_t hL) (cell_pos (norm_t hL))
    | false => exact w6f W (norm_f hL) (cell_pos (norm_f hL))
  refine fin.mono fun e W' ⟨he, hb⟩ => ?_
  subst he
  exact ⟨_, rfl, _, _, _, [], [], q, hW', trodAll_mk1 (shut_bool Tryd.underlying4 true), trodAll_mk1 (shut_bool Tryd.underlying4 x), Below.trodVars laidOut hb varsOk hV, hb.frame _, fun h => by cases h⟩

theorem fnBoolToken_holds : Rows.FnBoolTokenSaid :=
  OpenClaim.holds_of_wide 6 Tryd.f6 rfl rfl rfl rfl rfl rfl rfl ⟨rfl, rfl, rfl, rfl, rfl⟩ rfl rfl rfl rfl rfl (by kernel_rfl) Tryd.func6 (by kernel_rfl)
    (of_decide_eq_true (by kernel_rfl)) (by unfold Func.isWrapper; first | (rw [if_pos (by decide +kernel)]; kernel_rfl) | (rw [if_neg (by decide +kernel)]; exact ⟨rfl, rfl⟩))
    (fun os started H enc _ => lifted os started H enc)
end Go.Proofs.YtokkjljncoiajaaDoor
