/- The texts of a proof, its declarations alone: part 27. -/
import Derived.Test.YtjfbkgkpjkickaaGreatDoorRows
import Derived.ProofKit
import Derived.Lay
import Derived.OpenVars
import Derived.LaidHandle
import Derived.MakeChecks
import Derived.Lib.LaidU8
import Derived.Lib.LaidTab
import Derived.LaidLaws
import Derived.Stop.LaidErr
import Derived.Stop.Joined
import Derived.Test.YtjfbkgkpjkickaaGreatDoorVU8
set_option linter.unusedVariables false
set_option linter.unusedSimpArgs false
-- YtjfbkgkpjkickaaGreatDoorRa
set_option linter.unusedVariables false
set_option linter.unusedSimpArgs false
namespace Go.Proofs.YtjfbkgkpjkickaaGreatDoor
open Go.ChangeShapes Go.WideShapes Go.ChangeAt Go.RowKit

theorem own : ownKnob Tryz.prog.godebug = none := by kernel_rfl
theorem laidOut : laidOutB Tryz.prog = true := by kernel_rfl
theorem star265 : "*" ++ "errors.errorString" = "*errors.errorString" := by decide
theorem row265 (u : TypeId) (h : Tryz.prog.typeName? 3 u = some "*errors.errorString") : u = 265 :=
  typeName_ptr_named (nm := "errors.errorString") (by rw [star265]; kernel_rfl) (by kernel_rfl) (by decide) u (by rw [star265]; exact h)
theorem cells285 : Tryz.prog.cellsOf 285 = 1 := by kernel_rfl
theorem cells9 : Tryz.prog.cellsOf 9 = 1 := by kernel_rfl
theorem laid_in {l : List (String × DataW Unit)} {W : World} {n : String} {d : DataW Unit} (hd : laidMet Tryz.prog l W) (hm : (n, d) ∈ l) : ∃ r, laidMet Tryz.prog ((n, d) :: r) W := by
  induction l with
  | nil => cases hm
  | cons x r ih =>
    rcases List.mem_cons.1 hm with h | h
    · exact ⟨r, by rw [h]; exact hd⟩
    · exact ih hd.tail h
/-- a listed error: where it lies -/
structure SentAt (W : World) (g : Nat) (text : List UInt8) (a : Addr) : Prop where
  var : W.cell? ⟨g, 0, none⟩ = some (.iface 265 (.pointer (some a)))
  txt : ∃ s : ByteArray, W.cell? a = some (.string s) ∧ s.data.toList = text
  blk : ∃ c t, W.heap[a.block]? = some (.cells c t (0, 0))
set_option maxRecDepth 100000 in
theorem sent_of {l : List (String × DataW Unit)} {W : World} {n : String} {text : List UInt8} {g : Nat} (hd : laidMet Tryz.prog l W) (hm : (n, (.iface "*errors.errorString" (.ptr (.agg [.lit (.string text)])) : DataW Unit)) ∈ l)
    (hg : Tryz.prog.globalNamed n = some g) (ht : (Tryz.prog.globals[g]?).map (·.type) = some 47) : ∃ a, SentAt W g text a := by
  obtain ⟨r, h⟩ := laid_in hd hm
  obtain ⟨ps, ⟨g0, t0, cs0, f0, p0, q0, hg0, ht0, hv0, hd0, _, e0⟩, _, hrows⟩ := h
  obtain rfl := Option.some.inj (hg.symm.trans hg0)
  obtain rfl := Option.some.inj (ht.symm.trans ht0)
  subst e0
  obtain ⟨l0⟩ := cs0
  have ok0 : ∀ u v, l0 = [.iface u v] → Value.okWide Tryz.prog W .any 0 u v := fun u v e => by
    subst e
    exact (hrows g 0 (by simp [MemPlace.row])).2 u v (by simpa using World.var?_cell hg0 hv0 0)
  obtain ⟨a0, s0, rfl, hc0, hs0, hz0, rfl⟩ := errorString_of_trod Tryz.underlying47 row265 Tryz.underlying265 Tryz.underlying285 rfl rfl Tryz.underlying9 cells285 cells9 hd0 ok0
  obtain ⟨c0, t0, hb0⟩ := (hrows a0.block a0.off (by simp [MemPlace.row])).1
  exact ⟨a0, by simpa using World.var?_cell hg0 hv0 0, ⟨s0, hc0, hs0⟩, ⟨c0, t0, hb0⟩⟩
theorem SentAt.ne {W : World} {g g' : Nat} {x y : List UInt8} {a b : Addr} (h : SentAt W g x a) (k : SentAt W g' y b) (hxy : x ≠ y) : a ≠ b := by
  rintro rfl
  obtain ⟨s, h1, h2⟩ := h.txt
  obtain ⟨s', k1, k2⟩ := k.txt
  rw [h1] at k1
  injection k1 with k1
  injection k1 with k1
  subst k1
  exact hxy (h2.symm.trans k2)
theorem cells5 : Tryz.prog.cellsOf 5 = 1 := by kernel_rfl
theorem cells163 : Tryz.prog.cellsOf 163 = 1 := by kernel_rfl
theorem cells157 : Tryz.prog.cellsOf 157 = 256 := by kernel_rfl
theorem cells193 : Tryz.prog.cellsOf 193 = 256 := by kernel_rfl
theorem cells221 : Tryz.prog.cellsOf 221 = 128 := by kernel_rfl
theorem cells159 : Tryz.prog.cellsOf 159 = 2 := by kernel_rfl
/-- a table of bytes -/
theorem tab_of {l : List (String × DataW Unit)} {W : World} {n : String} {d : DataW Unit} {g t e m : Nat} (f : Nat → Nat) (hd : laidMet Tryz.prog l W) (hm : (n, d) ∈ l)
    (hg : Tryz.prog.globalNamed n = some g) (ht : (Tryz.prog.globals[g]?).map (·.type) = some t) (hu : Tryz.prog.underlying t = some (.array m e)) (he : Tryz.prog.underlying e = some (.int .u8)) (hce : Tryz.prog.cellsOf e = 1) (hct : Tryz.prog.cellsOf t = m)
    (hdat : d = Lib.tabData .u8 ((List.range m).map fun c => (f c : Int))) : ∀ c, c < m → W.cell? ⟨g, c, none⟩ = some (.int .u8 (f c)) := by
  obtain ⟨g', t', cs, fuel, p, h1, h2, h3, h4⟩ := Lib.laidMet.reads hd hm
  obtain rfl := Option.some.inj (hg.symm.trans h1)
  obtain rfl := Option.some.inj (ht.symm.trans h2)
  rw [hdat] at h4
  have hc := Lib.cells_of_tab hu he hce hct h4
  intro c hlt
  rw [World.var?_cell hg h3 c, ← Array.getElem?_toList, hc]
  simp [hlt]
theorem normDat : (Rows.laid_loop_example_pub_g01450_pub_jsontext_normKind : DataW Unit) = Lib.tabData .u8 ((List.range 256).map fun c => (PAll.normK c : Int)) := by kernel_rfl
theorem escDat : (Rows.laid_loop_example_pub_g01450_pub_jsontext_internal_jsonwire_escapeASCII : DataW Unit) = Lib.tabData .u8 ((List.range 128).map fun c => (PAll.escK c : Int)) := by kernel_rfl
theorem firstDat : Rows.laid_unicode_utf8_first = Lib.tabData .u8 ((List.range 256).map fun c => (PAll.firstK c : Int)) := by kernel_rfl
def accLo5 (i : Nat) : Int := match i with | 1 => 160 | 3 => 144 | _ => 128
def accHi5 (i : Nat) : Int := match i with | 2 => 159 | 4 => 143 | _ => 191
def acc16 (i : Nat) : Int × Int := if i < 5 then (accLo5 i, accHi5 i) else (0, 0)
theorem accDat : (Rows.laid_unicode_utf8_acceptRanges : DataW Unit) = .agg ((List.range 16).map fun i => .agg ([(acc16 i).1, (acc16 i).2].map fun z => .lit (.int .u8 z))) := by kernel_rfl
theorem acc_of {l : List (String × DataW Unit)} {W : World} (hd : laidMet Tryz.prog l W) (hm : ("unicode/utf8.acceptRanges", (Rows.laid_unicode_utf8_acceptRanges : DataW Unit)) ∈ l) :
    ∀ i, i < 16 → W.cell? ⟨4, 2 * i, none⟩ = some (.int .u8 (acc16 i).1) ∧ W.cell? ⟨4, 2 * i + 1, none⟩ = some (.int .u8 (acc16 i).2) := by
  have hg4 : Tryz.prog.globalNamed "unicode/utf8.acceptRanges" = some 4 := by kernel_rfl
  have ht4 : (Tryz.prog.globals[4]?).map (·.type) = some 160 := by kernel_rfl
  obtain ⟨g, t, cs, fuel, p, hg, hty, hvar, h4⟩ := Lib.laidMet.reads hd hm
  obtain rfl := Option.some.inj (hg4.symm.trans hg)
  obtain rfl := Option.some.inj (ht4.symm.trans hty)
  rw [accDat] at h4
  intro i hi
  obtain ⟨fuel', d, q, hdi, he⟩ := Lib.array_elem Tryz.underlying160 h4 i hi
  simp only [List.getElem?_map, List.getElem?_range hi, Option.map_some, Option.some.injEq] at hdi
  subst hdi
  rw [cells159] at he
  have hcs := Lib.ints_of_struct Tryz.underlying159 (fun j f hj => by
    match j, hj with
    | 0, hj => simp at hj; subst hj; exact ⟨Tryz.underlying5, rfl, cells5⟩
    | 1, hj => simp at hj; subst hj; exact ⟨Tryz.underlying5, rfl, cells5⟩
    | j + 2, hj => simp at hj) (by rw [cells159]; rfl) he
  have e0 := congrArg (·[0]?) hcs
  have e1 := congrArg (·[1]?) hcs
  simp only [List.getElem?_take, List.getElem?_drop] at e0 e1
  constructor
  · rw [World.var?_cell hg hvar (2 * i), ← Array.getElem?_toList]
    simpa [Nat.mul_comm] using e0
  · rw [World.var?_cell hg hvar (2 * i + 1), ← Array.getElem?_toList]
    simpa [Nat.mul_comm] using e1
/-- what a row must list -/
def need : List (String × DataW Unit) := [("unicode/utf8.acceptRanges", Rows.laid_unicode_utf8_acceptRanges), ("io.EOF", Rows.laid_io_EOF), ("io.ErrUnexpectedEOF", Rows.laid_io_ErrUnexpectedEOF), ("loop.example/pub-g01450/pub/jsontext_internal_jsonwire.escapeASCII", Rows.laid_loop_example_pub_g01450_pub_jsontext_internal_jsonwire_escapeASCII), ("loop.example/pub-g01450/pub/jsontext_internal_jsonwire.ErrInvalidUTF8", Rows.laid_loop_example_pub_g01450_pub_jsontext_internal_jsonwire_ErrInvalidUTF8), ("loop.example/pub-g01450/pub/jsontext.ErrDuplicateName", Rows.laid_loop_example_pub_g01450_pub_jsontext_ErrDuplicateName), ("loop.example/pub-g01450/pub/jsontext.ErrNonStringName", Rows.laid_loop_example_pub_g01450_pub_jsontext_ErrNonStringName), ("loop.example/pub-g01450/pub/jsontext.errMissingValue", Rows.laid_loop_example_pub_g01450_pub_jsontext_errMissingValue), ("loop.example/pub-g01450/pub/jsontext.errMismatchDelim", Rows.laid_loop_example_pub_g01450_pub_jsontext_errMismatchDelim), ("loop.example/pub-g01450/pub/jsontext.errMaxDepth", Rows.laid_loop_example_pub_g01450_pub_jsontext_errMaxDepth), ("loop.example/pub-g01450/pub/jsontext.errInvalidNamespace", Rows.laid_loop_example_pub_g01450_pub_jsontext_errInvalidNamespace), ("loop.example/pub-g01450/pub/jsontext.normKind", Rows.laid_loop_example_pub_g01450_pub_jsontext_normKind), ("unicode/utf8.first", Rows.laid_unicode_utf8_first)]
theorem env_of {l : List (String × DataW Unit)} {W : World} (hd : laidMet Tryz.prog l W) (hm : ∀ x ∈ need, x ∈ l) : ∃ G, PAll.Env W G ∧ PAll.Sent W G W.heap.size := by
  obtain ⟨a0, s0⟩ := sent_of (g := 0) hd (hm ("io.EOF", Rows.laid_io_EOF) (by simp [need])) (by kernel_rfl) (by kernel_rfl)
  obtain ⟨a1, s1⟩ := sent_of (g := 1) hd (hm ("io.ErrUnexpectedEOF", Rows.laid_io_ErrUnexpectedEOF) (by simp [need])) (by kernel_rfl) (by kernel_rfl)
  obtain ⟨a2, s2⟩ := sent_of (g := 2) hd (hm ("loop.example/pub-g01450/pub/jsontext_internal_jsonwire.ErrInvalidUTF8", Rows.laid_loop_example_pub_g01450_pub_jsontext_internal_jsonwire_ErrInvalidUTF8) (by simp [need])) (by kernel_rfl) (by kernel_rfl)
  obtain ⟨a5, s5⟩ := sent_of (g := 5) hd (hm ("loop.example/pub-g01450/pub/jsontext.errInvalidNamespace", Rows.laid_loop_example_pub_g01450_pub_jsontext_errInvalidNamespace) (by simp [need])) (by kernel_rfl) (by kernel_rfl)
  obtain ⟨a6, s6⟩ := sent_of (g := 6) hd (hm ("loop.example/pub-g01450/pub/jsontext.ErrDuplicateName", Rows.laid_loop_example_pub_g01450_pub_jsontext_ErrDuplicateName) (by simp [need])) (by kernel_rfl) (by kernel_rfl)
  obtain ⟨a8, s8⟩ := sent_of (g := 8) hd (hm ("loop.example/pub-g01450/pub/jsontext.errMismatchDelim", Rows.laid_loop_example_pub_g01450_pub_jsontext_errMismatchDelim) (by simp [need])) (by kernel_rfl) (by kernel_rfl)
  obtain ⟨a9, s9⟩ := sent_of (g := 9) hd (hm ("loop.example/pub-g01450/pub/jsontext.ErrNonStringName", Rows.laid_loop_example_pub_g01450_pub_jsontext_ErrNonStringName) (by simp [need])) (by kernel_rfl) (by kernel_rfl)
  obtain ⟨a10, s10⟩ := sent_of (g := 10) hd (hm ("loop.example/pub-g01450/pub/jsontext.errMaxDepth", Rows.laid_loop_example_pub_g01450_pub_jsontext_errMaxDepth) (by simp [need])) (by kernel_rfl) (by kernel_rfl)
  obtain ⟨a11, s11⟩ := sent_of (g := 11) hd (hm ("loop.example/pub-g01450/pub/jsontext.errMissingValue", Rows.laid_loop_example_pub_g01450_pub_jsontext_errMissingValue) (by simp [need])) (by kernel_rfl) (by kernel_rfl)
  refine ⟨⟨a0, a1, a2, a5, a6, a8, a9, a10, a11⟩, ⟨s0.var, s1.var, s2.var, s5.var, s6.var, s8.var, s9.var, s10.var, s11.var, ?_, ?_, ?_, ?_, ?_, ?_, ?_⟩, ?_, ?_⟩
  · exact tab_of PAll.normK hd (hm ("loop.example/pub-g01450/pub/jsontext.normKind", Rows.laid_loop_example_pub_g01450_pub_jsontext_normKind) (by simp [need])) (by kernel_rfl) (by kernel_rfl) Tryz.underlying193 Tryz.underlying163 cells163 cells193 normDat
  · exact tab_of PAll.escK hd (hm ("loop.example/pub-g01450/pub/jsontext_internal_jsonwire.escapeASCII", Rows.laid_loop_example_pub_g01450_pub_jsontext_internal_jsonwire_escapeASCII) (by simp [need])) (by kernel_rfl) (by kernel_rfl) Tryz.underlying221 Tryz.underlying5 cells5 cells221 escDat
  · exact tab_of PAll.firstK hd (hm ("unicode/utf8.first", Rows.laid_unicode_utf8_first) (by simp [need])) (by kernel_rfl) (by kernel_rfl) Tryz.underlying157 Tryz.underlying5 cells5 cells157 firstDat
  · intro i hi
    have := acc_of hd (hm ("unicode/utf8.acceptRanges", Rows.laid_unicode_utf8_acceptRanges) (by simp [need])) i (by omega)
    unfold acc16 at this
    rw [if_pos hi] at this
    exact this
  · rintro a (rfl | rfl | rfl | rfl | rfl | rfl | rfl | rfl)
    · exact s1.ne s0 (by decide)
    · exact s2.ne s0 (by decide)
    · exact s5.ne s0 (by decide)
    · exact s6.ne s0 (by decide)
    · exact s8.ne s0 (by decide)
    · exact s9.ne s0 (by decide)
    · exact s10.ne s0 (by decide)
    · exact s11.ne s0 (by decide)
  · rintro a (rfl | rfl | rfl | rfl | rfl | rfl | rfl)
    · exact s2.ne s1 (by decide)
    · exact s5.ne s1 (by decide)
    · exact s6.ne s1 (by decide)
    · exact s8.ne s1 (by decide)
    · exact s9.ne s1 (by decide)
    · exact s10.ne s1 (by decide)
    · exact s11.ne s1 (by decide)
  · rintro a (rfl | rfl | rfl | rfl | rfl | rfl | rfl)
    · exact s1.ne s8 (by decide)
    · exact s2.ne s8 (by decide)
    · exact s5.ne s8 (by decide)
    · exact s6.ne s8 (by decide)
    · exact s9.ne s8 (by decide)
    · exact s10.ne s8 (by decide)
    · exact s11.ne s8 (by decide)
  · have lt : ∀ {g : Nat} {x : List UInt8} {a : Addr}, SentAt W g x a → a.block < W.heap.size := fun h => by
      obtain ⟨c, t, h⟩ := h.blk
      exact (Array.getElem?_eq_some_iff.1 h).1
    rintro a (rfl | rfl | rfl | rfl | rfl | rfl | rfl | rfl | rfl)
    · exact lt s0
    · exact lt s1
    · exact lt s2
    · exact lt s5
    · exact lt s6
    · exact lt s8
    · exact lt s9
    · exact lt s10
    · exact lt s11
  · rintro a (rfl | rfl | rfl | rfl | rfl | rfl | rfl | rfl | rfl)
    · exact s0.blk
    · exact s1.blk
    · exact s2.blk
    · exact s5.blk
    · exact s6.blk
    · exact s8.blk
    · exact s9.blk
    · exact s10.blk
    · exact s11.blk
end Go.Proofs.YtjfbkgkpjkickaaGreatDoor
