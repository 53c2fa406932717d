/- FnSingle, the tied card: the law returns true, whatever the input. Conditions: the listed package-level variables hold what the program's text lays in them (the card ties them). -/
import Derived.Test.YtiopeaponffmdaaDoorRows
import Derived.ProofKit
import Derived.Lay
import Derived.OpenVars
import Derived.LaidHandle
import Derived.MakeChecks
import Derived.Lib.LaidU8
import Derived.Lib.LaidTab
import Derived.Stop.Joined
import Derived.Test.YtiopeaponffmdaaDoorCards
import Derived.Test.YtiopeaponffmdaaDoorTie
import Derived.SevenTiedAt
import Derived.Test.YtiopeaponffmdaaDoorVS23
set_option linter.unusedVariables false
set_option linter.unusedSimpArgs false
-- YtiopeaponffmdaaDoorFu
set_option linter.unusedVariables false
set_option linter.unusedSimpArgs false
namespace Go.Proofs.YtiopeaponffmdaaDoor.PAll
open Go.RowKit Go.Proofs.YtiopeaponffmdaaDoorW.PrintWords Go.Proofs.YtiopeaponffmdaaDoorW.PrintLast Go.Proofs.YtiopeaponffmdaaDoorW.PrintMore

theorem word_andNot (R : Nat) (sg : Bool) (hR : R < 9218868437227405312) : bits .andNot .u64 ((Ieee.double.word sg R : Nat) : Int) 9223372036854775808 = (R : Int) := by
  have sw : Ieee.double.signWeight = 9223372036854775808 := by decide
  have hw : Ieee.double.word sg R = (if sg = true then 9223372036854775808 else 0) + R := by
    unfold Ieee.Format.word
    rw [sw]
    cases sg <;> simp <;> omega
  have hx : Ieee.double.word sg R < 18446744073709551616 := by rw [hw]; split <;> omega
  have e5 := u64_andNot_nat (Ieee.double.word sg R) 9223372036854775808 hx (by decide)
  have e6 : Ieee.double.word sg R &&& (18446744073709551615 - 9223372036854775808) = Ieee.double.word sg R % 2 ^ 63 := Nat.and_two_pow_sub_one_eq_mod _ 63
  rw [e6] at e5
  have e7 : Ieee.double.word sg R % 2 ^ 63 = R := by
    have e2 : (2 : Nat) ^ 63 = 9223372036854775808 := by decide
    rw [hw, e2]; split <;> omega
  rw [e7] at e5
  exact e5
/-- FloatText at a number of single precision, and its text by the reference -/
theorem text32 (tt : ByteArray) (x c : Nat) (most : Int) (sg : Bool) (w : World) (hto : tt.size ≤ 4000000000) (hx : x < 4294967296) (hc : c = x % 2147483648) (hc1 : c < 2139095040)
    (hsg : ((x : Int) / 2147483648 != 0) = sg) (hR : Rdy w) :
    ∃ (X : Nat) (l : List Int), Conv32 x X ∧ l.length ≤ 100 ∧ Ev (fun k => spec_Form_Text.f k ((23 : Nat) : Int) most (c : Int)) (strOfNums l) ∧
      Calls Tryd.prog 14 #[.string tt, .float .f64 X, .int .i64 32] w fun e w' => e = .returned (.string (strOfNums (bytesOf tt ++ ((if sg = true then [45] else []) ++ l)))) ∧ Below w.heap.size w w' := by
  obtain ⟨R, hRb, hR0, cv, cvc⟩ := conv32 x c sg hx hc hc1 hsg
  have hY := word_andNot R sg hRb
  have o := order64 R 0 hRb (by decide)
  by_cases h0 : c = 0
  · have hR00 := hR0.1 h0
    subst h0
    exact ⟨_, [48], cv, by decide, Text_zero 23 most, text32Z tt x _ R sg w hto hx hc hsg cv cvc hY (o.2.1 hR00)⟩
  · obtain ⟨q, m, P, M, L, D, pp, N⟩ := n32 c most (by omega) hc1
    have hS := N.hS
    have hlt := Nat.lt_of_le_of_lt (cutz_le D) hS.lt
    have h18 : (dec (cutz D)).length ≤ 18 := dec_length_le 17 _ hlt
    have hD18 : (dec D).length ≤ 18 := dec_length_le 17 _ hS.lt
    have hp0 := hS.p0
    have hp1 := hS.p1
    have hRp : 0 < R := Nat.pos_of_ne_zero fun e => h0 (hR0.2 e)
    refine ⟨_, _, cv, laidL_len (dec (cutz D)) (((dec D).length : Int) + pp) (by omega) (by omega) (by omega), Text_ev 23 c most _ _ (by omega) hS.ev (dec_length_pos _) (by omega) (by omega) (by omega), ?_⟩
    exact text32N tt x _ R c most sg w hto hx hc (by omega) hc1 N hsg hR cv cvc hY (o.2.2 hRp)
theorem law_texts32 (x c : Nat) (most : Int) (sg : Bool) (w : World) (hx : x < 4294967296) (hc : c = x % 2147483648) (hc1 : c < 2139095040)
    (hsg : ((x : Int) / 2147483648 != 0) = sg) (hR : Rdy w) :
    ∃ (X : Nat) (r : ByteArray), Conv32 x X ∧ r.size ≤ 200 ∧ (∃ k, laws_floatText8.f k sg 23 most (c : Int) = some r) ∧
      Calls Tryd.prog 14 #[.string ⟨#[]⟩, .float .f64 X, .int .i64 32] w fun e w' => e = .returned (.string r) ∧ Below w.heap.size w w' := by
  obtain ⟨X, l, cv, hl, hE, hC⟩ := text32 ⟨#[]⟩ x c most sg w (by decide) hx hc hc1 hsg hR
  obtain ⟨K, hK⟩ := floatText8_ev sg 23 c most l (by omega) hE
  refine ⟨X, strOfNums ((if sg = true then [45] else []) ++ l), cv, ?_, ⟨K, hK K (Nat.le_refl _)⟩, hC.mono fun e w' ⟨h1, h2⟩ => ⟨?_, h2⟩⟩
  · rw [strOfNums_size, List.length_append]
    have : (if sg = true then [45] else [] : List Int).length ≤ 1 := by split <;> simp
    omega
  · rw [h1]
    rfl
theorem nan_cut32 (x y t : Nat) : 2139095040 < (Question.nanBits FloatKind.f32 x y).cut t % 2147483648 := by
  unfold Question.cut
  have : t / 2 % (2 ^ 23 - 1) < 2 ^ 23 - 1 := Nat.mod_lt _ (by decide)
  have e : (2 : Nat) ^ 23 - 1 = 8388607 := by decide
  have e2 : (2 : Nat) ^ 31 = 2147483648 := by decide
  rw [e] at this
  dsimp only
  rw [e, e2]
  generalize t / 2 % 8388607 = r at *
  have : t % 2 < 2 := Nat.mod_lt _ (by decide)
  omega
set_option maxRecDepth 100000 in
theorem w9A (x : Nat) (w : World) (h : 2139095040 ≤ x % 2147483648) : Calls Tryd.prog 9 #[.float .f32 x] w fun e w' => e = .returned (.bool true) ∧ Below w.heap.size w w' := by
  have hs := sub_self_none FloatKind.f32.format x (Nat.le_trans (by decide +kernel) h) (by decide +kernel)
  obtain ⟨nb, hnb⟩ : ∃ nb, nb = (Question.nanBits FloatKind.f32 x x).cut (w.tape w.drawn (Question.nanBits FloatKind.f32 x x)) := ⟨_, rfl⟩
  have hrun : (binOp BinOp.sub 46 (Value.float FloatKind.f32 x) (Value.float FloatKind.f32 x)).run Tryd.prog w = .ok (.float .f32 nb) w.drew := by
    rw [hnb]
    simp [binOp, Op.floatArith, hs, Question.forced]
  have hn := nan_cut32 x x (w.tape w.drawn (Question.nanBits FloatKind.f32 x x))
  rw [← hnb] at hn
  obtain ⟨s, t, hr⟩ := read_nan FloatKind.f32.format nb (Nat.lt_of_le_of_lt (by decide +kernel) hn) (by decide +kernel)
  have ho : FloatKind.f32.format.order nb 0 = none := by
    unfold Ieee.Format.order
    rw [hr]; rfl
  have ho2 : (FloatKind.f32.format.order nb 0 == some Ordering.eq) = false := by rw [ho]; rfl
  have ho3 : (FloatKind.f32.format.order nb 0 != some Ordering.eq) = true := by rw [ho]; rfl
  clear hs hr h hnb hn ho
  go_enter Tryd.func9, Tryd.ntmps9
  go_wp2_with (fail)
  go_ret
  exact ⟨rfl, (Below.refl _ _).drew⟩
set_option maxRecDepth 100000 in
theorem w9B (x c : Nat) (sg : Bool) (w : World) (hx : x < 4294967296) (hc : c = x % 2147483648) (hc1 : c < 2139095040) (hsg : ((x : Int) / 2147483648 != 0) = sg) (hsg1 : ((x : Int) / 2147483648 == 1) = sg) (hR : Rdy w) :
    Calls Tryd.prog 9 #[.float .f32 x] w fun e w' => e = .returned (.bool true) ∧ Below w.heap.size w w' := by
  obtain ⟨s, m, i, hr⟩ := read_fin FloatKind.f32.format x (Nat.lt_of_le_of_lt (Nat.le_of_eq (by rw [hc] at hc1; rfl)) (Nat.lt_of_lt_of_le (hc ▸ hc1) (by decide +kernel)))
  have hs := sub_self FloatKind.f32.format s m i x hr
  have hrun := fun w : World => run_float_arith (P := Tryd.prog) w .sub 46 .f32 x x 0 hs
  have heq := fun w : World => (show (binOp BinOp.neq 46 (Value.float FloatKind.f32 0) (Value.float FloatKind.f32 0)).run Tryd.prog w = .ok (.bool false) w from by kernel_rfl)
  have r22 := run22
  have ha : bits .and .u32 (x : Int) 2147483647 = (c : Int) := by
    have e := Go.u32_and_nat x (2 ^ 31 - 1) hx (by decide)
    rw [Nat.and_two_pow_sub_one_eq_mod] at e
    have e2 : x % 2 ^ 31 = c := by
      have : (2 : Nat) ^ 31 = 2147483648 := by decide
      rw [this, hc]
    rw [e2] at e
    exact e
  obtain ⟨X, r, cv, hrs, ⟨k, hk⟩, hC⟩ := law_texts32 x c 2139095039 sg w hx hc hc1 hsg hR
  have cvt := cv.there
  have wc : IntKind.u64.wrap (c : Int) = (c : Int) := by rw [IntKind.wrap_u64]; omega
  have HC := Lib.hid hC
  have HL := Lib.hid hk
  clear hR hc hsg hs hr cv hC hk
  go_enter Tryd.func9, Tryd.ntmps9
  go_wp2_with (fail)
  refine HC.out.mono ?_
  rintro e w1 ⟨rfl, hb1⟩
  have HB1 := Lib.hid hb1
  clear hb1
  go_wp2_with (fail)
  refine (spec_Single.calls 23 2139095039 w1 rfl).mono ?_
  rintro e w2 ⟨rfl, hb2⟩
  go_wp2_with (fail)
  refine (laws_floatText8.calls k sg 23 2139095039 (c : Int) r _ HL.out).mono ?_
  rintro e w3 ⟨rfl, hb3⟩
  go_wp2_with (fail)
  go_ret
  exact ⟨rfl, HB1.out.trans ((hb2.trans (hb3.mono hb2.size)).mono HB1.out.size)⟩
theorem w9 (x : Nat) (w : World) (hx : x < 4294967296) (hR : Rdy w) : Calls Tryd.prog 9 #[.float .f32 x] w fun e w' => e = .returned (.bool true) ∧ Below w.heap.size w w' := by
  by_cases h3 : 2139095040 ≤ x % 2147483648
  · exact w9A x w h3
  · by_cases h4 : 2147483648 ≤ x
    · exact w9B x _ true w hx rfl (by omega) (by rw [bne_iff_ne]; omega) (by rw [beq_iff_eq]; omega) hR
    · exact w9B x _ false w hx rfl (by omega) (by rw [bne_eq_false_iff_eq]; omega) (by rw [beq_eq_false_iff_ne]; omega) hR
end Go.Proofs.YtiopeaponffmdaaDoor.PAll
-- YtiopeaponffmdaaDoorRa
namespace Go.Proofs.YtiopeaponffmdaaDoor
open Go.ChangeShapes Go.WideShapes Go.ChangeAt Go.RowKit

/-- AN ARRAY OF PAIRS -/
theorem cells_of_pairs {H : Type} {enc : TypeId × Value → H} {P : Program} {w : World} {base : Nat} {sp : Nat → Bool} {held : Bool} {fuel : Nat} {t e : TypeId} {n : Nat} {k : IntKind} {cs : List Value} {zs : List (Int × Int)} {p : List MemPlace}
    (ht : P.underlying t = some (.array n e)) {fs : Array Field} (he : P.underlying e = some (.struct fs)) (hf : ∀ (i : Nat) (f : Field), fs[i]? = some f → P.underlying f.type = some (.int k) ∧ f.offset = i ∧ P.cellsOf f.type = 1) (hfs : fs.size = 2) (hce : P.cellsOf e = 2)
    (h : DataW.trod enc P w base sp held fuel t cs = some (.agg (zs.map fun z => .agg [.lit (.int k z.1), .lit (.int k z.2)]), p)) :
    ∀ i z, zs[i]? = some z → cs[i * 2]? = some (.int k z.1) ∧ cs[i * 2 + 1]? = some (.int k z.2) := by
  cases fuel with
  | zero => simp [DataW.trod] at h
  | succ fuel =>
    simp only [DataW.trod, ht, hce] at h
    split at h
    · rename_i hl
      obtain ⟨xs, hm, hx⟩ := Option.map_eq_some_iff.1 h
      have hxs : xs.map (·.1) = zs.map fun z => (DataW.agg [.lit (.int k z.1), .lit (.int k z.2)] : DataW H) := by
        have := congrArg Prod.fst hx
        simpa using this
      have hxl : xs.length = n := by simpa using Lib.mapM_length hm
      have hzl : zs.length = n := by
        have := congrArg List.length hxs
        simp at this
        omega
      intro i z hz
      have hi : i < n := by
        have := (List.getElem?_eq_some_iff.1 hz).1
        omega
      obtain ⟨b, hb, hfb⟩ := Lib.mapM_at hm i i (by simp [hi])
      have h2 : (xs.map (·.1))[i]? = some b.1 := by simp [hb]
      rw [hxs, List.getElem?_map, hz] at h2
      simp only [Option.map_some, Option.some.injEq] at h2
      obtain ⟨b1, b2⟩ := b
      simp only at h2
      subst h2
      have hc := Lib.ints_of_struct (zs := [z.1, z.2]) he hf (by rw [hce, hfs]) hfb
      constructor
      · have := congrArg (·[0]?) hc
        simpa [List.getElem?_take, List.getElem?_drop] using this
      · have := congrArg (·[1]?) hc
        simpa [List.getElem?_take, List.getElem?_drop] using this
    · cases h

theorem own : ownKnob Tryd.prog.godebug = none := by kernel_rfl
theorem laidOut : laidOutB Tryd.prog = true := by kernel_rfl
theorem p10Ok : Tryd.prog.globalNamed "internal/strconv.pow10Tab" = some 3 := by kernel_rfl
theorem p10Ty : (Tryd.prog.globals[3]?).map (·.type) = some 118 := by kernel_rfl
theorem u10Ok : Tryd.prog.globalNamed "internal/strconv.uint64pow10" = some 2 := by kernel_rfl
theorem u10Ty : (Tryd.prog.globals[2]?).map (·.type) = some 109 := by kernel_rfl
theorem cells25 : Tryd.prog.cellsOf 25 = 1 := by kernel_rfl
theorem cells117 : Tryd.prog.cellsOf 117 = 2 := by kernel_rfl
theorem cells109 : Tryd.prog.cellsOf 109 = 20 := by kernel_rfl
theorem und118 : Tryd.prog.underlying 118 = some (.array 696 117) := by kernel_rfl
theorem fields117 : ∀ (i : Nat) (f : Field), (#[{ name := "hi", type := 25, offset := 0, embedded := false, tag := "", pkgPath := "internal/strconv", byteOffset := 0 }, { name := "lo", type := 25, offset := 1, embedded := false, tag := "", pkgPath := "internal/strconv", byteOffset := 8 }] : Array Field)[i]? = some f → Tryd.prog.underlying f.type = some (.int .u64) ∧ f.offset = i ∧ Tryd.prog.cellsOf f.type = 1 := by
  intro i f h
  match i, h with
  | 0, h => cases h; exact ⟨Tryd.underlying25, rfl, cells25⟩
  | 1, h => cases h; exact ⟨Tryd.underlying25, rfl, cells25⟩
  | i + 2, h => simp at h
theorem und109 : Tryd.prog.underlying 109 = some (.array 20 25) := by kernel_rfl

/-- the tables, out of the row's condition -/
theorem rdy_of {W : World} {l : List (String × DataW Unit)} (hd : laidMet Tryd.prog l W) (h1 : ("internal/strconv.uint64pow10", (Rows.laid_internal_strconv_uint64pow10 : DataW Unit)) ∈ l) (h2 : ("internal/strconv.pow10Tab", Rows.laid_internal_strconv_pow10Tab) ∈ l) : PAll.Rdy W := by
  obtain ⟨g, t, cs, fuel, p, a1, a2, a3, a4⟩ := Lib.laidMet.reads hd h1
  obtain rfl := Option.some.inj (u10Ok.symm.trans a1)
  obtain rfl := Option.some.inj (u10Ty.symm.trans a2)
  have e1 : (Rows.laid_internal_strconv_uint64pow10 : DataW Unit) = Lib.tabData .u64 Lib.pow10Tab := by kernel_rfl
  rw [e1] at a4
  have hc1 := Lib.cells_of_tab und109 Tryd.underlying25 cells25 cells109 a4
  obtain ⟨g, t, cs', fuel', p', b1, b2, b3, b4⟩ := Lib.laidMet.reads hd h2
  obtain rfl := Option.some.inj (p10Ok.symm.trans b1)
  obtain rfl := Option.some.inj (p10Ty.symm.trans b2)
  have e2 : Rows.laid_internal_strconv_pow10Tab = .agg ((Go.Pinned.pow10Rows.map fun x => (((x.1 : Int), (x.2 : Int)) : Int × Int)).map fun z => .agg [.lit (.int .u64 z.1), .lit (.int .u64 z.2)]) := by
    show Go.Pinned.pow10Tab = _
    unfold Go.Pinned.pow10Tab
    rw [List.map_map]
    rfl
  rw [e2] at b4
  have hc2 := cells_of_pairs und118 Tryd.underlying117 fields117 rfl cells117 b4
  have tab1 : Lib.TabIs Tryd.prog W "internal/strconv.uint64pow10" .u64 Lib.pow10Tab := by
    unfold Lib.TabIs
    rw [a3, ← hc1]
  have len : Go.Pinned.pow10Rows.length = 696 := by kernel_rfl
  have s3 : 3 < W.heap.size := by
    refine Nat.not_le.1 fun hle => ?_
    have : W.heap[3]? = none := Array.getElem?_eq_none hle
    simp [World.var?, p10Ok, this] at b3
  have cell : ∀ i, i < 696 → W.cell? ⟨3, i * 2, none⟩ = some (.int .u64 ((Go.Pinned.pow10Rows.getD i (0, 0)).1 : Int)) ∧ W.cell? ⟨3, i * 2 + 1, none⟩ = some (.int .u64 ((Go.Pinned.pow10Rows.getD i (0, 0)).2 : Int)) := by
    intro i hi
    have hz : (Go.Pinned.pow10Rows.map fun x => (((x.1 : Int), (x.2 : Int)) : Int × Int))[i]? = some (((Go.Pinned.pow10Rows.getD i (0, 0)).1 : Int), ((Go.Pinned.pow10Rows.getD i (0, 0)).2 : Int)) := by
      rw [List.getElem?_map, List.getD_eq_getElem?_getD, List.getElem?_eq_getElem (by rw [len]; exact hi)]
      rfl
    obtain ⟨c1, c2⟩ := hc2 i _ hz
    rw [World.var?_cell p10Ok b3, World.var?_cell p10Ok b3]
    exact ⟨by simpa using c1, by simpa using c2⟩
  intro V hV
  have k3 : V.heap[3]? = W.heap[3]? := hV.block 3 s3
  have k2 : V.heap[2]? = W.heap[2]? := hV.block 2 (by omega)
  refine ⟨⟨Nat.lt_of_lt_of_le s3 hV.size, fun i hi => ?_⟩, ?_⟩
  · have := cell i hi
    simp only [World.cell?, k3] at this ⊢
    exact this
  · unfold Lib.TabIs at tab1 ⊢
    rw [← tab1]
    simp only [World.var?, u10Ok, Option.bind_some, k2]
end Go.Proofs.YtiopeaponffmdaaDoor
-- YtiopeaponffmdaaDoorLFnSingle
namespace Go.Proofs.YtiopeaponffmdaaDoor
open Go Go.ChangeShapes Go.WideShapes Go.ChangeAt Go.RowKit Go.ChangeMaps

theorem varsOkFnSingle : varsRowed Tryd.prog Rows.fnSingleSpec.vars = true := by kernel_rfl
set_option maxRecDepth 100000 in
theorem liftedFnSingle (os : Os) (started : os.Started) (H : Type) (enc : TypeId × Value → H) :
    ReturnsInHanded {} Tryd.checked os 9 .any (fun w args => (Rows.fnSingleSpec.pre enc Tryd.prog Tryd.f9 Rows.fnSingleRow.domain false w args ∧ laidMetH Tryd.prog Rows.fnSingleRow.laid w) ∧ sizedMet enc Tryd.prog Tryd.f9 (OpenSpec.ofChange Rows.fnSingleSpec) false w args)
      (Rows.fnSingleSpec.post enc Tryd.prog Tryd.f9 false true false false) := by
  refine returnsInHanded_of_change_and (C := Tryd.checked) (X := fun w _ => laidMetH Tryd.prog Rows.fnSingleRow.laid w) (fun _ _ _ hh h => h.of_heap hh) own started (by kernel_rfl) Tryd.func9
    (ChangeSpec.witness_shaped (enc := enc) (C := Tryd.checked) (os := os) (X := fun w _ => laidMetH Tryd.prog Rows.fnSingleRow.laid w) false (World.laidAll Tryd.prog os Rows.fnSingleRow.laid) #[.float .f32 0] 8 (World.laidAll_os _ _ _)
      (World.shaped_of_ZipB (by kernel_rfl) (by kernel_rfl)) (by kernel_rfl) (by kernel_rfl) (by kernel_rfl)
      (by rw [MakeChecks.laidMetH_plain _ _ _ (by kernel_rfl)]; exact laidMet_laidAll _ (by kernel_rfl) (by kernel_rfl))) ?_
  intro W base args ds gs before hval0 hW hc _ hL _
  have hval : ∀ (j : Nat) t v, Tryd.f9.params[j]? = some t → args[j]? = some v → Value.okWide Tryd.prog W .any base t v := hval0
  have hW' := hW
  obtain ⟨p, q, hA0, hV, rfl, _, _⟩ := hW
  have hA : DataW.TrodAll enc Tryd.prog W 0 (fun _ => true) true Tryd.f9.params.toList args.toList ds p := hA0
  rw [Tryd.params9] at hA hval
  obtain ⟨v0, d0, rfl, rfl, h0⟩ := trodAll_one hA
  obtain ⟨x0, rfl, rfl, rfl, wx0⟩ := open_float Tryd.underlying46 (hval 0 46 v0 rfl rfl) h0
  obtain ⟨rfl, rfl⟩ := trodVars_none hV
  rw [MakeChecks.laidMetH_plain _ _ _ (by kernel_rfl)] at hL
  have hR : PAll.Rdy W := rdy_of hL (by simp [Rows.fnSingleRow]) (by simp [Rows.fnSingleRow])
  have fin : Calls Tryd.prog 9 #[.float .f32 x0] W fun e w' => e = .returned (.bool true) ∧ Below W.heap.size W w' := by
    exact PAll.w9 x0 W (by simp only [Lit.wf, decide_eq_true_eq] at wx0; omega) hR
  refine fin.mono fun e W' ⟨he, hb⟩ => ?_
  subst he
  exact ⟨_, rfl, _, _, _, [], [], _, hW', trodAll_mk1 (shut_bool Tryd.underlying4 true), trodAll_mk1 (shut_float Tryd.underlying46 wx0), Below.trodVars laidOut hb varsOkFnSingle hV, hb.frame _, fun h => by cases h⟩

theorem fnSingle_holds : Rows.FnSingleSaid :=
  OpenClaim.holds_of_wide 9 Tryd.f9 rfl rfl rfl rfl rfl rfl rfl ⟨rfl, rfl, rfl, rfl, rfl⟩ rfl rfl rfl rfl rfl (by kernel_rfl) Tryd.func9 (by kernel_rfl)
    (of_decide_eq_true (by kernel_rfl)) (by unfold Func.isWrapper; first | (rw [if_pos (by decide +kernel)]; kernel_rfl) | (rw [if_neg (by decide +kernel)]; exact ⟨rfl, rfl⟩))
    (fun os started H enc _ => liftedFnSingle os started H enc)
theorem fnSingle_card : Rows.FnSingleCardSaid :=
  Claim7.holds_tied_plain_at .later [] [.data, .data, .data, .data, .pinned, .pinned] true (true, "de90ebed450df59327ce393381191af0e1580690049105112f683f9df6acb66c") false
    fnSingle_holds (fun _ h => by cases h) (by kernel_rfl) (fun _ h => by cases h) fnSingle_row_tie rfl ⟨rfl, rfl⟩ (by kernel_rfl) rfl
    (fun f fn hf hfn => by
      obtain rfl : f = 9 := Option.some.inj ((show Tryd.prog.funcNamed "loop.example/pub-g01450/laws.FnSingle" = some 9 by kernel_rfl).symm.trans hf) |>.symm
      obtain rfl : fn = Tryd.f9 := (Option.some.inj (Tryd.func9.symm.trans hfn)).symm
      exact ⟨by kernel_rfl, fun j t ht => by
        rw [Tryd.params9] at ht
        have h4 : t = 46 := by
          rcases j with _ | j
          · simp at ht; subst ht; simp
          · simp at ht
        rcases h4 with rfl
        · exact (show Tryd.prog.wantsStandIn 46 = false by kernel_rfl)⟩)
    (by kernel_rfl)
end Go.Proofs.YtiopeaponffmdaaDoor
