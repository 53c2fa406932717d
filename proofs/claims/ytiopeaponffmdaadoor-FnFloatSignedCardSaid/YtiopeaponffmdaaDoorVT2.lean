/- The texts of a proof, its declarations alone: part 2. -/
import Derived.Test.YtiopeaponffmdaaDoorProg
import Derived.Below
import Derived.Deep.Draws
import Derived.Deep.AppendLies
import Derived.Maps.AppendAt
import Derived.OwnWalk
import Derived.Laws.BytesArg
import Derived.Laws.MakeOwn
import Derived.Laws.OwnMore
import Derived.Deep.OwnRows
import Derived.Tactics
import Derived.Lib.ConvBytes
import Derived.Laws.Slices
import Derived.WalkKit
import Derived.KernelRfl
import Derived.RowKit3
import Derived.Deep.LoopGhost
import Derived.Deep.QuietTactic
import Derived.BigQuiet
import Derived.WideLaws
import Derived.Deep.DeepCutAuto
import Derived.Deep.CutBlock
import Derived.Deep.RegionHeld3
import Derived.Laws.Rows
import Derived.Lib.AppendStr
import Derived.ArgAppend
import Derived.Laws.IdiomCopy
import Derived.OrdersHeld
import Derived.Laws.BitsLemmas
import Derived.RowKit
import Derived.Lib.FrozenHead2
import Derived.Lib.SmallJoins
import Derived.WalkLawsBesides
import Derived.Handy
import Derived.Laws.StructEq
import Derived.Shelf.Strconv.Itoa0
import Derived.Shelf.Strconv.Itoa1
import Derived.Shelf.LaysM
import Derived.Shelf.Strconv.Itoa2
import Derived.Shelf.Bits.Mul64
import Derived.IntWalk
import Derived.WalkSmall
import Derived.Lib.QuoteBits
import Derived.Lib.Hide
import Derived.Test.YtiopeaponffmdaaDoorVT1
set_option linter.unusedVariables false
set_option linter.unusedSimpArgs false
-- YtiopeaponffmdaaDoorPAllx0
namespace Go.Proofs.YtiopeaponffmdaaDoor.PAll
open Go.RowKit Go.Proofs.YtiopeaponffmdaaDoorW.PrintWords Go.Proofs.YtiopeaponffmdaaDoorW.PrintLast Go.Proofs.YtiopeaponffmdaaDoorW.PrintMore
set_option linter.unusedVariables false
set_option linter.unusedSimpArgs false



theorem info5 : (Tryd.prog.info? 5).map (fun i => (i.zero, i.size, i.bytes)) = some (some (.int .u8 0), 1, 1) := by kernel_rfl
end Go.Proofs.YtiopeaponffmdaaDoor.PAll
-- YtiopeaponffmdaaDoorRm
namespace Go.Proofs.YtiopeaponffmdaaDoor.PAll
open Go.RowKit Go.Proofs.YtiopeaponffmdaaDoorW.PrintWords Go.Proofs.YtiopeaponffmdaaDoorW.PrintLast Go.Proofs.YtiopeaponffmdaaDoorW.PrintMore
open Go.Builtin
set_option linter.unusedVariables false

/-- none of the first n cells is frozen -/
def FreeM (fz : Nat × Nat) (n : Nat) : Prop := ∀ k, k < n → ¬ (fz.1 ≤ k ∧ k < fz.2)

def OwnM (w : World) (base : Nat) (e : TypeId) (v : Value) (n : Nat) (xs : List Value) : Prop :=
  xs.length = n ∧
  ((v = .slice none 0 0 ∧ n = 0) ∨
   ∃ g cap cur fz, v = .slice (some ⟨g, 0, none⟩) n cap ∧ base ≤ g ∧ w.heap[g]? = some (.cells cur e fz) ∧ FreeM fz cur.size ∧ n ≤ cap ∧ cap ≤ maxLen ∧ cur.size = cap ∧ cur.toList.take n = xs)

theorem OwnM.of_own {w : World} {base : Nat} {e : TypeId} {v : Value} {n : Nat} {xs : List Value} (h : w.ownsRow base e 1 v n xs) : OwnM w base e v n xs := by
  refine ⟨by have := h.1; simpa using this, ?_⟩
  rcases h.2 with hn | ⟨g, cap, cur, hv, hb, hg, h1, h2, h3, h4⟩
  · exact .inl hn
  · exact .inr ⟨g, cap, cur, (0, 0), hv, hb, hg, fun k _ h => by have := h.2; simp at this, h1, h2, by simpa using h3, by simpa using h4⟩

section
variable {w w' : World} {base : Nat} {e : TypeId} {v : Value} {n : Nat} {xs : List Value}
theorem OwnM.lt (h : OwnM w base e v n xs) : ∀ k, v.ownBlock = some k → base ≤ k ∧ k < w.heap.size := by
  intro k hk
  rcases h.2 with ⟨rfl, _⟩ | ⟨g, cap, cur, fz, rfl, hb, hg, _⟩
  · simp [Value.ownBlock] at hk
  · simp [Value.ownBlock] at hk
    subst hk
    exact ⟨hb, (Array.getElem?_eq_some_iff.1 hg).1⟩
theorem OwnM.move (h : OwnM w base e v n xs) (hm : ∀ k, v.ownBlock = some k → w'.heap[k]? = w.heap[k]?) : OwnM w' base e v n xs := by
  refine ⟨h.1, ?_⟩
  rcases h.2 with hn | ⟨g, cap, cur, fz, rfl, hb, hgg, rest⟩
  · exact .inl hn
  · exact .inr ⟨g, cap, cur, fz, rfl, hb, by rw [hm g (by simp [Value.ownBlock])]; exact hgg, rest⟩
theorem OwnM.lower {base' : Nat} (h : OwnM w base e v n xs) (hb : base' ≤ base) : OwnM w base' e v n xs := by
  refine ⟨h.1, ?_⟩
  rcases h.2 with hn | ⟨g, cap, cur, fz, hv, hbg, rest⟩
  · exact .inl hn
  · exact .inr ⟨g, cap, cur, fz, hv, by omega, rest⟩
theorem OwnM.cells (h : OwnM w base e v n xs) {g : Nat} (hg : v.ownBlock = some g) : ∀ j u, xs[j]? = some u → w.cell? ((⟨g, 0, none⟩ : Addr).add j) = some u := by
  intro j u hu
  rcases h.2 with ⟨rfl, _⟩ | ⟨g', cap, cur, fz, rfl, _, hgg, _, _, _, _, htake⟩
  · simp [Value.ownBlock] at hg
  · simp [Value.ownBlock] at hg
    subst hg
    have hadd : (⟨g', 0, none⟩ : Addr).add j = ⟨g', j, none⟩ := by unfold Addr.add; split <;> simp_all
    rw [hadd, cell_of_row w g' j cur e fz hgg]
    rw [← htake, List.getElem?_take] at hu
    split at hu
    · simpa using hu
    · cases hu
end

theorem run_storeCells_atM (P : Program) (g o : Nat) (t : TypeId) (fz : Nat × Nat) : ∀ (vs : List Value) (i : Nat) (cur : Array Value) (w : World), w.heap[g]? = some (.cells cur t fz) → FreeM fz cur.size → o + i + vs.length ≤ cur.size → (∀ v ∈ vs, v.oneCell' = true) →
    (storeCells ⟨g, o, none⟩ vs i).run P w = .ok () (w.setRow g (cur.toList.take (o + i) ++ vs ++ cur.toList.drop (o + i + vs.length)).toArray)
  | [], i, cur, w, hg, _, _, _ => by
    simp only [storeCells, List.append_nil, List.length_nil, Nat.add_zero, List.take_append_drop, Array.toArray_toList]
    rw [setRow_self w g cur t fz hg]
    rfl
  | v :: rest, i, cur, w, hg, hfz, hl, h1 => by
    have hi : o + i < cur.size := by simp at hl; omega
    have hadd : (⟨g, o, none⟩ : Addr).add i = ⟨g, o + i, none⟩ := by unfold Addr.add; split <;> simp_all
    have hcell : w.cell? ⟨g, o + i, none⟩ = some cur[o + i] := by simp [World.cell?, hg, hi]
    have hfro : w.frozen? ⟨g, o + i, none⟩ = false := by
      have := hfz (o + i) hi
      obtain ⟨lo, hi'⟩ := fz
      simp only [World.frozen?, hg, Bool.and_eq_false_iff, decide_eq_false_iff_not]
      simp only at this
      omega
    have hst : (store ((⟨g, o, none⟩ : Addr).add i) v).run P w = .ok () (w.setRow g (cur.setIfInBounds (o + i) v)) := by
      rw [hadd, run_store P w _ v _ (h1 v (by simp)), hcell]
      simp [hfro, setCell_eq_setRow w g (o + i) cur t fz v hg]
    have ih := run_storeCells_atM P g o t fz rest (i + 1) (cur.setIfInBounds (o + i) v) (w.setRow g (cur.setIfInBounds (o + i) v)) (setRow_heap w g cur _ t _ hg) (by simpa using hfz) (by simp at hl ⊢; omega) (fun x hx => h1 x (by simp [hx]))
    simp only [storeCells, Sem.run_bind, hst, Result.andThen_ok, ih, setRow_setRow]
    congr 3
    have e := list_seg_step cur.toList (o + i) v rest (by simp at hl ⊢; omega)
    simpa [Array.toList_setIfInBounds, Nat.add_assoc] using e

/-- a row of bytes of one's own, mark or none -/
def RM (e : Nat) (w : World) (base : Nat) (ok : Nat → Prop) (v : Value) (xs : List Int) : Prop :=
  (∀ k, v.ownBlock = some k → ok k) ∧ OwnM w base e v xs.length (nums .u8 xs)
section
variable {w w1 W : World} {e base b : Nat} {ok ok' oku okv : Nat → Prop} {v u : Value} {xs ys : List Int}
theorem RM_mono (h : RM e w base ok v xs) (hok : ∀ k, ok k → ok' k) : RM e w base ok' v xs := ⟨fun k hk => hok k (h.1 k hk), h.2⟩
theorem RM_lt (h : RM e w base ok v xs) : ∀ k, v.ownBlock = some k → k < w.heap.size := fun k hk => (h.2.lt k hk).2
theorem RM_base (h : RM e w base ok v xs) : ∀ k, v.ownBlock = some k → base ≤ k := fun k hk => (h.2.lt k hk).1
theorem RM_step (h : RM e w base ok v xs) (hm : ∀ k, ok k → k < w.heap.size → w1.heap[k]? = w.heap[k]?) : RM e w1 base ok v xs :=
  ⟨h.1, h.2.move (fun k hk => hm k (h.1 k hk) (RM_lt h k hk))⟩
theorem RM_below (h : RM e w base ok v xs) (hb : Below w.heap.size w w1) : RM e w1 base ok v xs := RM_step h (fun k _ hk => hb.block k hk)
theorem RM_drewN (h : RM e w base ok v xs) (m : Nat) : RM e (w.drewN m) base ok v xs := RM_below h (pw_below_drewN (Below.refl _ _) m)
theorem nums_get (xs : List Int) (j : Nat) (h : j < xs.length) : (nums .u8 xs)[j]? = some (.int .u8 (xs.getD j 0)) := by
  simp [nums, List.getD, h]
theorem RM_reads (h : RM e w base ok v xs) : ∃ A c, v = .slice A xs.length c ∧ xs.length ≤ c ∧ Kd.C (Kd.int .u8) w A xs.length xs := by
  rcases h.2.2 with ⟨h1, h2⟩ | ⟨g, cap, cur, fz, h1, hb, hg, hfz, h3, h4, h5, h6⟩
  · refine ⟨none, 0, by rw [h2]; exact h1, by omega, Kd.C_of_reads (enc := Value.int .u8) (d := (0 : Int)) (h1 := fun _ => rfl) ⟨rfl, by omega, fun h => by omega⟩⟩
  · refine ⟨_, _, h1, h3, Kd.C_of_reads (enc := Value.int .u8) (d := (0 : Int)) (h1 := fun _ => rfl) ⟨rfl, by simp only [maxLen] at h4; omega, fun _ => ⟨_, rfl, fun j hj => ?_⟩⟩⟩
    exact h.2.cells (g := g) (by rw [h1]; rfl) j _ (nums_get xs j hj)
end
theorem RM_appended {e base : Nat} {ok : Nat → Prop} {W w1 : World} {v v1 : Value} {xs ys : List Int} (h0 : ∀ k, v.ownBlock = some k → ok k) (hfresh : ∀ k, W.heap.size ≤ k → ok k)
    (h : OwnM w1 base e v1 (xs.length + ys.length) (nums .u8 xs ++ nums .u8 ys)) (hat : v1.ownBlock = v.ownBlock ∨ ∃ b, v1.ownBlock = some b ∧ W.heap.size ≤ b) : RM e w1 base ok v1 (xs ++ ys) := by
  refine ⟨fun k hk => ?_, by rw [nums_append, List.length_append]; exact h⟩
  rcases hat with hat | ⟨b, hb, hle⟩
  · exact h0 k (by rw [← hat]; exact hk)
  · rw [hb] at hk; injection hk with hk; exact hfresh k (by omega)
end Go.Proofs.YtiopeaponffmdaaDoor.PAll
-- YtiopeaponffmdaaDoorRn
namespace Go.Proofs.YtiopeaponffmdaaDoor.PAll
open Go.RowKit Go.Proofs.YtiopeaponffmdaaDoorW.PrintWords Go.Proofs.YtiopeaponffmdaaDoorW.PrintLast Go.Proofs.YtiopeaponffmdaaDoorW.PrintMore
open Go.Builtin Go.Lib
set_option linter.unusedVariables false
theorem run_append_M_str {P : Program} (w : World) (base : Nat) (t u ty e : TypeId) (i : TypeInfo) (ht : P.underlying t = some (.slice e)) (hu : P.underlying u = some .string) (hi : P.info? e = some i) (hz : i.zero = some (.int .u8 0))
    (hsize : i.size = 1) (hby : i.bytes = 1)
    (v : Value) (n : Nat) (xs : List Value) (hown : OwnM w base e v n xs) (s : ByteArray)
    (h63 : n + s.size ≤ maxLen) (hbytes : n + s.size ≤ 140737488355328) (hbase : base ≤ w.heap.size) :
    ∃ v' w', (Builtin.append_ #[t, u] ty #[v, .string s]).run P w = .ok v' w' ∧ OwnM w' base e v' (n + s.size) (xs ++ strCells s) ∧ w.grownBy w' v.ownBlock ∧ (v'.ownBlock = v.ownBlock ∨ ∃ b, v'.ownBlock = some b ∧ w.heap.size ≤ b) := by
  rcases hown.2 with ⟨rfl, rfl⟩ | ⟨g, cap, cur, fz, rfl, hbg, hg, hfz, hnc, hcm, hcs, htake⟩
  · obtain ⟨v', w', r1, r2, r3, r4⟩ := run_append_own_string (P := P) w w.heap.size t u ty e i ht hu hi hz hsize hby (.slice none 0 0) 0 xs ⟨by have := hown.1; simpa using this, .inl ⟨rfl, rfl⟩⟩ s h63 hbytes (Nat.le_refl _)
    refine ⟨v', w', r1, (OwnM.of_own r2).lower hbase, r3, ?_⟩
    rcases r2.2 with ⟨h1, _⟩ | ⟨g, cap, cur, h1, h2, _⟩
    · exact .inl (by rw [h1])
    · exact .inr ⟨g, by rw [h1]; rfl, h2⟩
  · have hsmall : n + s.size ≤ 9223372036854775807 := by simp only [maxLen] at h63; omega
    have hxl := hown.1
    have hlen : (xs ++ strCells s).length = n + s.size := by rw [List.length_append, hxl, strCells_length]
    by_cases hroom : n + s.size ≤ cap
    · have hf := run_firstCells_string (P := P) w 1 s
      have hst := run_storeCells_atM P g n e fz (strCells s) 0 cur w hg hfz (by simp only [strCells_length]; omega) (strCells_oneCell s)
      simp only [Nat.add_zero, strCells_length] at hst
      have hr : (Builtin.append_ #[t, u] ty #[.slice (some ⟨g, 0, none⟩) n cap, .string s]).run P w =
          .ok (.slice (some ⟨g, 0, none⟩) (n + s.size) cap) (w.setRow g (cur.toList.take n ++ strCells s ++ cur.toList.drop (n + s.size)).toArray) := by
        simp [Builtin.append_, run_underlying ht, run_underlying hu, sizeOf, typeInfo, hi, hsize, Builtin.lenOf, hroom, hf, Addr.add_lit, hst]
      have hsz : (cur.toList.take n ++ strCells s ++ cur.toList.drop (n + s.size)).toArray.size = cap := by
        simp only [List.size_toArray, List.length_append, List.length_take, List.length_drop, Array.length_toList, strCells_length]
        omega
      refine ⟨_, _, hr, ⟨hlen, .inr ⟨g, cap, _, fz, rfl, hbg, setRow_heap w g cur _ e _ hg, by rw [hsz]; rw [hcs] at hfz; exact hfz, hroom, hcm, hsz, ?_⟩⟩, ⟨rfl, rfl, rfl, by simp, fun k _ hk => setRow_other w g k _ (fun e => hk (by simp [Value.ownBlock, e]))⟩, .inl rfl⟩
      show (cur.toList.take n ++ strCells s ++ cur.toList.drop (n + s.size)).take (n + s.size) = xs ++ strCells s
      rw [htake, ← hlen]
      exact List.take_left
    · have holds : ∀ j u, xs[j]? = some u → w.cell? ((⟨g, 0, none⟩ : Addr).add j) = some u := hown.cells (g := g) rfl
      have hr := run_append_grow_string (P := P) w t u ty e i (.int .u8 0) ht hu hi hz ⟨g, 0, none⟩ n cap xs (by rw [hsize]; simpa using hxl) holds s (by omega) (by omega) (by rw [hby]; exact growslice_fits (by omega) (by omega))
      have hge := grownCap_ge w (n + s.size) cap e
      have hcm2 : grownCap w (n + s.size) cap e ≤ maxLen := grownCap_le_maxLen w (n + s.size) cap e h63
      refine ⟨_, _, hr, ⟨hlen, .inr ⟨w.heap.size, _, _, (0, 0), rfl, hbase, heap_alloc_new w.drew _, fun k _ h => by have := h.2; simp at this, hge, hcm2, ?_, ?_⟩⟩, ⟨rfl, rfl, rfl, by simp, fun k hk _ => heap_alloc_old w.drew _ hk⟩, .inr ⟨_, rfl, Nat.le_refl _⟩⟩
      · have hz1 : (Value.int IntKind.u8 0).cells.size = 1 := rfl
        simp only [Array.size_append, List.size_toArray, size_zeroCells, hz1, hxl, strCells_length]
        omega
      · simp only [Array.toList_append, List.append_assoc]
        rw [← List.append_assoc, ← hlen]
        exact List.take_left
theorem strCells_nums (s : ByteArray) : strCells s = nums .u8 (bytesOf s) := by simp [nums, bytesOf, strCells]
section
variable {P : Program} {ops : Array Oper} {rest : List Oper} {o : Oper} {a : Act} {Q : Exit → Act → World → Prop}
theorem RM_append_str {w0 W : World} (base : Nat) (hgd : o.guard = none) (s x : Operand) (t u e : TypeId)
    (ho : o.op = .call { callee := .builtin .append, args := #[s, x], argTypes := #[t, u] })
    (ht : P.underlying t = some (.slice e)) (hu : P.underlying u = some .string) (hinfo : (P.info? e).map (fun i => (i.zero, i.size, i.bytes)) = some (some (.int .u8 0), 1, 1))
    (v : Value) (xs : List Int) (y : ByteArray) (ok : Nat → Prop) (hs : a.eval s = v) (hx : a.eval x = .string y) (hfresh : ∀ k, W.heap.size ≤ k → ok k)
    (HO : RM e W base ok v xs) (HB : Below base w0 W) (hbase : base ≤ W.heap.size) (hl : xs.length + y.size ≤ 140737488355328)
    (h : ∀ v1 w1, RM e w1 base ok v1 (xs ++ bytesOf y) → Below base w0 w1 → W.grownBy w1 v.ownBlock → wpList P ops Q rest (a.put o.dst v1) w1) :
    wpList P ops Q (o :: rest) a W := by
  obtain ⟨i0, hi, hzz⟩ := Option.map_eq_some_iff.1 hinfo
  simp only [Prod.mk.injEq] at hzz
  obtain ⟨hz0, hz1, hz2⟩ := hzz
  refine wpList_plain hgd fun K hK => ?_
  obtain ⟨v', w', hr, h2, h3, h4⟩ := run_append_M_str (P := P) W base t u o.type e i0 ht hu hi hz0 hz1 hz2 v xs.length (nums .u8 xs) HO.2 y (by simp only [maxLen]; omega) hl hbase
  unfold Oper.wp execOp
  simp only [ho, resolve, invoke, builtin, Sem.run_bind, Sem.run_pure, Result.andThen_ok, List.map_toArray, List.map_cons, List.map_nil, hs, hx, hr]
  exact hK _ _ (h v' w' (RM_appended HO.1 hfresh (by rw [bytesOf_length, ← strCells_nums]; exact h2) h4) (HB.grown h3 hbase (RM_base HO)) h3)
end
section
variable {w w1 W : World} {e base b : Nat} {ok : Nat → Prop} {v u : Value} {xs ys : List Int}
theorem RM_block {g n cap : Nat} (h : RM e W base ok (.slice (some ⟨g, 0, none⟩) n cap) xs) : ∃ cur fz, base ≤ g ∧ W.heap[g]? = some (.cells cur e fz) ∧ FreeM fz cur.size ∧ xs.length ≤ cap ∧ cap ≤ maxLen ∧ cur.size = cap ∧ cur.toList.take xs.length = nums .u8 xs ∧ n = xs.length := by
  rcases h.2.2 with ⟨h1, h2⟩ | ⟨g', cap', cur, fz, h1, hb, hg, hfz, h3, h4, h5, h6⟩
  · simp at h1
  · injection h1 with q1 q2 q3
    injection q1 with q1
    injection q1 with q1
    subst q1 q3
    exact ⟨cur, fz, hb, hg, hfz, h3, h4, h5, h6, q2⟩
theorem RM_put {g n cap : Nat} (h : RM e W base ok (.slice (some ⟨g, 0, none⟩) n cap) xs) (i : Nat) (hi : i < xs.length) (x : Int) :
    RM e (W.setCell ⟨g, i, none⟩ (.int .u8 x)) base ok (.slice (some ⟨g, 0, none⟩) n cap) (xs.set i x) := by
  obtain ⟨cur, fz, h1, h2, h3, h4, h5, h6, h7, h8⟩ := RM_block h
  refine ⟨h.1, by simp [nums], .inr ⟨g, cap, cur.setIfInBounds i (.int .u8 x), fz, by rw [List.length_set, h8], h1, ?_, by simpa using h3, by rw [List.length_set]; exact h4, h5, by simpa using h6, ?_⟩⟩
  · rw [setCell_eq_setRow W g i cur e fz _ h2]
    exact setRow_heap W g cur _ e _ h2
  · rw [List.length_set, Array.toList_setIfInBounds, List.take_set, h7]
    simp [nums]
theorem RM_take {n m cap : Nat} {A : Option Addr} (h : RM e W base ok (.slice A n cap) xs) (hm : m ≤ xs.length) : RM e W base ok (.slice A m cap) (xs.take m) := by
  have hl : (xs.take m).length = m := by rw [List.length_take]; omega
  rcases h.2.2 with ⟨h1, h2⟩ | ⟨g', cap', cur, fz, h1, hb, hg, hfz, h3, h4, h5, h6⟩
  · injection h1 with q1 q2 q3
    subst q1 q3
    obtain rfl : m = 0 := by omega
    exact ⟨fun k hk => by simp [Value.ownBlock] at hk, by simp [nums], .inl ⟨rfl, by simp⟩⟩
  · injection h1 with q1 q2 q3
    subst q1 q3
    refine ⟨fun k hk => h.1 k (by simpa [Value.ownBlock] using hk), by simp [nums], .inr ⟨g', cap, cur, fz, by rw [hl], hb, hg, hfz, by omega, h4, h5, ?_⟩⟩
    rw [hl]
    have := congrArg (List.take m) h6
    rw [List.take_take, Nat.min_eq_left hm] at this
    rw [this]
    simp [nums, List.map_take]
theorem RM_cell {g n cap : Nat} (h : RM e W base ok (.slice (some ⟨g, 0, none⟩) n cap) xs) (i : Nat) (hi : i < xs.length) :
    W.cell? ⟨g, i, none⟩ = some (.int .u8 (xs.getD i 0)) ∧ W.frozen? ⟨g, i, none⟩ = false := by
  obtain ⟨cur, fz, h1, h2, h3, h4, h5, h6, h7, h8⟩ := RM_block h
  constructor
  · rw [cell_of_row W g i cur e fz h2]
    have := nums_get xs i hi
    rw [← h7, List.getElem?_take] at this
    rw [if_pos hi] at this
    simpa using this
  · have := h3 i (by omega)
    obtain ⟨lo, hi'⟩ := fz
    simp only [World.frozen?, h2, Bool.and_eq_false_iff, decide_eq_false_iff_not]
    simp only at this
    omega
/-- the row of a conversion of a string -/
theorem RM_bytes (w : World) (e : TypeId) (s : ByteArray) (hs : s.size ≤ 140737488355328) (hb : base ≤ w.heap.size) (hok : ok w.heap.size) : RM e (bytesWorld w e s) base ok (.slice (some ⟨w.heap.size, 0, none⟩) s.size (grownCap w s.size 0 e)) (bytesOf s) := by
  have hge := grownCap_ge w s.size 0 e
  have hcm : grownCap w s.size 0 e ≤ maxLen := grownCap_le_maxLen w s.size 0 e (by simp only [maxLen]; omega)
  have hsz : (bytesCells w e s).size = grownCap w s.size 0 e := by
    have : s.data.size = s.size := rfl
    simp only [bytesCells, Array.size_append, Array.size_map, Array.size_replicate, this]; omega
  refine ⟨fun k hk => by simp [Value.ownBlock] at hk; rw [← hk]; exact hok, by rw [nums_length], .inr ⟨w.heap.size, grownCap w s.size 0 e, bytesCells w e s, _, by rw [bytesOf_length], hb, bytesWorld_at_new w e s, ?_, by rw [bytesOf_length]; exact hge, hcm, hsz, ?_⟩⟩
  · intro k hk h
    simp only at h
    omega
  · rw [bytesOf_length, ← strCells_nums]
    simp only [bytesCells, Array.toList_append]
    have : (s.data.map fun b => Value.int IntKind.u8 b.toNat).toList = strCells s := by simp [strCells]
    rw [this, ← strCells_length s]
    exact List.take_left
end
end Go.Proofs.YtiopeaponffmdaaDoor.PAll
-- YtiopeaponffmdaaDoorFd
namespace Go.Proofs.YtiopeaponffmdaaDoor.PAll
open Go.RowKit Go.Proofs.YtiopeaponffmdaaDoorW.PrintWords Go.Proofs.YtiopeaponffmdaaDoorW.PrintLast Go.Proofs.YtiopeaponffmdaaDoorW.PrintMore
theorem run53 (x : Nat) (w : World) : (callFunc 53 #[.float .f64 x]).run Tryd.prog w = .ok (.value (.int .u64 (x : Int))) w := by kernel_rfl


def FtPost (w0 : World) (R : List Int → Prop) (e : Ending) (w' : World) : Prop :=
  ∃ (v : Value) (r : List Int), e = .returned v ∧ R r ∧ RM 5 w' w0.heap.size (fun _ => True) v r ∧ Below w0.heap.size w0 w'

end Go.Proofs.YtiopeaponffmdaaDoor.PAll
-- YtiopeaponffmdaaDoorFg
namespace Go.Proofs.YtiopeaponffmdaaDoor.PAll
open Go.RowKit Go.Proofs.YtiopeaponffmdaaDoorW.PrintWords Go.Proofs.YtiopeaponffmdaaDoorW.PrintLast Go.Proofs.YtiopeaponffmdaaDoorW.PrintMore
theorem run52 (x : Nat) (w : World) : (callFunc 52 #[.float .f32 x]).run Tryd.prog w = .ok (.value (.int .u32 (x : Int))) w := by kernel_rfl

end Go.Proofs.YtiopeaponffmdaaDoor.PAll
-- YtiopeaponffmdaaDoorFh
namespace Go.Proofs.YtiopeaponffmdaaDoor.PAll
open Go.RowKit Go.Proofs.YtiopeaponffmdaaDoorW.PrintWords Go.Proofs.YtiopeaponffmdaaDoorW.PrintLast Go.Proofs.YtiopeaponffmdaaDoorW.PrintMore

set_option maxHeartbeats 3200000 in
set_option maxRecDepth 100000 in
theorem ftoa64XN (P0_ : Nat → Prop) (v0 : Value) (l0 : List Int) (x : Nat) (fr : Nat) (sg : Bool) (fc : Int) (w0 w : World) (hx : x < 18446744073709551616) (hl : l0.length + 4 ≤ 140737488355328)
    (hB : Below w0.heap.size w0 w) (ho : RM 5 w w0.heap.size P0_ v0 l0)
    (hneg : ((x : Int) / 9223372036854775808 != 0) = sg) (hexp : bits .and .i64 ((x : Int) / 4503599627370496) 2047 = 2047) (hman : bits .and .u64 (x : Int) 4503599627370495 = (fr : Int)) (hfr : 1 ≤ fr) :
    Calls Tryd.prog 51 #[v0, .float .f64 x, .int .u8 fc, .int .i64 (-1)] w (FtPost w0 (fun r => r = l0 ++ [78, 97, 78])) := by
  have f53 := run53
  have HO := Lib.hid ho; have HB := Lib.hid hB
  have tfr : ((fr : Int) != 0) = true := by rw [bne_iff_ne]; omega
  clear ho hB
  go_enter Tryd.func51, Tryd.ntmps51
  go_wp2_with (fail)
  go_quiet (fail)
  go_wp2_with (first | (at_builtin; refine RM_append_str (w0 := w0) w0.heap.size rfl (.tmp 70) _ 39 9 5 rfl Tryd.underlying39 Tryd.underlying9 info5 v0 l0 ⟨#[78, 97, 78]⟩ (fun _ => True) rfl rfl (fun _ _ => trivial) ?aO ?aB ?aS ?aL ?_; (case aO => exact RM_mono (RM_drewN HO.out _) (fun _ _ => trivial)); (case aB => exact pw_below_drewN HB.out _); (case aS => exact HB.out.size); (case aL => have e : (⟨#[78, 97, 78]⟩ : ByteArray).size = 3 := rfl; rw [e]; omega); intro v1 w1 q1 q2 q3))
  go_ret
  exact ⟨v1, _, rfl, rfl, q1, q2⟩

set_option maxHeartbeats 3200000 in
set_option maxRecDepth 100000 in
theorem ftoa64XP (P0_ : Nat → Prop) (v0 : Value) (l0 : List Int) (x : Nat) (fc : Int) (w0 w : World) (hx : x < 18446744073709551616) (hl : l0.length + 4 ≤ 140737488355328)
    (hB : Below w0.heap.size w0 w) (ho : RM 5 w w0.heap.size P0_ v0 l0)
    (hneg : ((x : Int) / 9223372036854775808 != 0) = false) (hexp : bits .and .i64 ((x : Int) / 4503599627370496) 2047 = 2047) (hman : bits .and .u64 (x : Int) 4503599627370495 = 0) :
    Calls Tryd.prog 51 #[v0, .float .f64 x, .int .u8 fc, .int .i64 (-1)] w (FtPost w0 (fun r => r = l0 ++ [43, 73, 110, 102])) := by
  have f53 := run53
  have HO := Lib.hid ho; have HB := Lib.hid hB
  clear ho hB
  go_enter Tryd.func51, Tryd.ntmps51
  go_wp2_with (fail)
  go_quiet (fail)
  go_wp2_with (first | (at_builtin; refine RM_append_str (w0 := w0) w0.heap.size rfl (.tmp 75) _ 39 9 5 rfl Tryd.underlying39 Tryd.underlying9 info5 v0 l0 ⟨#[43, 73, 110, 102]⟩ (fun _ => True) rfl rfl (fun _ _ => trivial) ?aO ?aB ?aS ?aL ?_; (case aO => exact RM_mono (RM_drewN HO.out _) (fun _ _ => trivial)); (case aB => exact pw_below_drewN HB.out _); (case aS => exact HB.out.size); (case aL => have e : (⟨#[43, 73, 110, 102]⟩ : ByteArray).size = 4 := rfl; rw [e]; omega); intro v1 w1 q1 q2 q3))
  go_ret
  exact ⟨v1, _, rfl, rfl, q1, q2⟩

set_option maxHeartbeats 3200000 in
set_option maxRecDepth 100000 in
theorem ftoa64XM (P0_ : Nat → Prop) (v0 : Value) (l0 : List Int) (x : Nat) (fc : Int) (w0 w : World) (hx : x < 18446744073709551616) (hl : l0.length + 4 ≤ 140737488355328)
    (hB : Below w0.heap.size w0 w) (ho : RM 5 w w0.heap.size P0_ v0 l0)
    (hneg : ((x : Int) / 9223372036854775808 != 0) = true) (hexp : bits .and .i64 ((x : Int) / 4503599627370496) 2047 = 2047) (hman : bits .and .u64 (x : Int) 4503599627370495 = 0) :
    Calls Tryd.prog 51 #[v0, .float .f64 x, .int .u8 fc, .int .i64 (-1)] w (FtPost w0 (fun r => r = l0 ++ [45, 73, 110, 102])) := by
  have f53 := run53
  have HO := Lib.hid ho; have HB := Lib.hid hB
  clear ho hB
  go_enter Tryd.func51, Tryd.ntmps51
  go_wp2_with (fail)
  go_quiet (fail)
  go_wp2_with (first | (at_builtin; refine RM_append_str (w0 := w0) w0.heap.size rfl (.tmp 73) _ 39 9 5 rfl Tryd.underlying39 Tryd.underlying9 info5 v0 l0 ⟨#[45, 73, 110, 102]⟩ (fun _ => True) rfl rfl (fun _ _ => trivial) ?aO ?aB ?aS ?aL ?_; (case aO => exact RM_mono (RM_drewN HO.out _) (fun _ _ => trivial)); (case aB => exact pw_below_drewN HB.out _); (case aS => exact HB.out.size); (case aL => have e : (⟨#[45, 73, 110, 102]⟩ : ByteArray).size = 4 := rfl; rw [e]; omega); intro v1 w1 q1 q2 q3))
  go_ret
  exact ⟨v1, _, rfl, rfl, q1, q2⟩

set_option maxHeartbeats 3200000 in
set_option maxRecDepth 100000 in
theorem ftoa32XN (P0_ : Nat → Prop) (v0 : Value) (l0 : List Int) (x : Nat) (fr : Nat) (sg : Bool) (fc : Int) (w0 w : World) (hx : x < 4294967296) (hl : l0.length + 4 ≤ 140737488355328)
    (hB : Below w0.heap.size w0 w) (ho : RM 5 w w0.heap.size P0_ v0 l0)
    (hneg : ((x : Int) / 2147483648 != 0) = sg) (hexp : bits .and .i64 ((x : Int) / 8388608) 255 = 255) (hman : bits .and .u64 (x : Int) 8388607 = (fr : Int)) (hfr : 1 ≤ fr) :
    Calls Tryd.prog 50 #[v0, .float .f32 x, .int .u8 fc, .int .i64 (-1)] w (FtPost w0 (fun r => r = l0 ++ [78, 97, 78])) := by
  have f53 := run52
  have HO := Lib.hid ho; have HB := Lib.hid hB
  have tfr : ((fr : Int) != 0) = true := by rw [bne_iff_ne]; omega
  clear ho hB
  go_enter Tryd.func50, Tryd.ntmps50
  go_wp2_with (fail)
  go_quiet (fail)
  go_wp2_with (first | (at_builtin; refine RM_append_str (w0 := w0) w0.heap.size rfl (.tmp 70) _ 39 9 5 rfl Tryd.underlying39 Tryd.underlying9 info5 v0 l0 ⟨#[78, 97, 78]⟩ (fun _ => True) rfl rfl (fun _ _ => trivial) ?aO ?aB ?aS ?aL ?_; (case aO => exact RM_mono (RM_drewN HO.out _) (fun _ _ => trivial)); (case aB => exact pw_below_drewN HB.out _); (case aS => exact HB.out.size); (case aL => have e : (⟨#[78, 97, 78]⟩ : ByteArray).size = 3 := rfl; rw [e]; omega); intro v1 w1 q1 q2 q3))
  go_ret
  exact ⟨v1, _, rfl, rfl, q1, q2⟩

set_option maxHeartbeats 3200000 in
set_option maxRecDepth 100000 in
theorem ftoa32XP (P0_ : Nat → Prop) (v0 : Value) (l0 : List Int) (x : Nat) (fc : Int) (w0 w : World) (hx : x < 4294967296) (hl : l0.length + 4 ≤ 140737488355328)
    (hB : Below w0.heap.size w0 w) (ho : RM 5 w w0.heap.size P0_ v0 l0)
    (hneg : ((x : Int) / 2147483648 != 0) = false) (hexp : bits .and .i64 ((x : Int) / 8388608) 255 = 255) (hman : bits .and .u64 (x : Int) 8388607 = 0) :
    Calls Tryd.prog 50 #[v0, .float .f32 x, .int .u8 fc, .int .i64 (-1)] w (FtPost w0 (fun r => r = l0 ++ [43, 73, 110, 102])) := by
  have f53 := run52
  have HO := Lib.hid ho; have HB := Lib.hid hB
  clear ho hB
  go_enter Tryd.func50, Tryd.ntmps50
  go_wp2_with (fail)
  go_quiet (fail)
  go_wp2_with (first | (at_builtin; refine RM_append_str (w0 := w0) w0.heap.size rfl (.tmp 75) _ 39 9 5 rfl Tryd.underlying39 Tryd.underlying9 info5 v0 l0 ⟨#[43, 73, 110, 102]⟩ (fun _ => True) rfl rfl (fun _ _ => trivial) ?aO ?aB ?aS ?aL ?_; (case aO => exact RM_mono (RM_drewN HO.out _) (fun _ _ => trivial)); (case aB => exact pw_below_drewN HB.out _); (case aS => exact HB.out.size); (case aL => have e : (⟨#[43, 73, 110, 102]⟩ : ByteArray).size = 4 := rfl; rw [e]; omega); intro v1 w1 q1 q2 q3))
  go_ret
  exact ⟨v1, _, rfl, rfl, q1, q2⟩

set_option maxHeartbeats 3200000 in
set_option maxRecDepth 100000 in
theorem ftoa32XM (P0_ : Nat → Prop) (v0 : Value) (l0 : List Int) (x : Nat) (fc : Int) (w0 w : World) (hx : x < 4294967296) (hl : l0.length + 4 ≤ 140737488355328)
    (hB : Below w0.heap.size w0 w) (ho : RM 5 w w0.heap.size P0_ v0 l0)
    (hneg : ((x : Int) / 2147483648 != 0) = true) (hexp : bits .and .i64 ((x : Int) / 8388608) 255 = 255) (hman : bits .and .u64 (x : Int) 8388607 = 0) :
    Calls Tryd.prog 50 #[v0, .float .f32 x, .int .u8 fc, .int .i64 (-1)] w (FtPost w0 (fun r => r = l0 ++ [45, 73, 110, 102])) := by
  have f53 := run52
  have HO := Lib.hid ho; have HB := Lib.hid hB
  clear ho hB
  go_enter Tryd.func50, Tryd.ntmps50
  go_wp2_with (fail)
  go_quiet (fail)
  go_wp2_with (first | (at_builtin; refine RM_append_str (w0 := w0) w0.heap.size rfl (.tmp 73) _ 39 9 5 rfl Tryd.underlying39 Tryd.underlying9 info5 v0 l0 ⟨#[45, 73, 110, 102]⟩ (fun _ => True) rfl rfl (fun _ _ => trivial) ?aO ?aB ?aS ?aL ?_; (case aO => exact RM_mono (RM_drewN HO.out _) (fun _ _ => trivial)); (case aB => exact pw_below_drewN HB.out _); (case aS => exact HB.out.size); (case aL => have e : (⟨#[45, 73, 110, 102]⟩ : ByteArray).size = 4 := rfl; rw [e]; omega); intro v1 w1 q1 q2 q3))
  go_ret
  exact ⟨v1, _, rfl, rfl, q1, q2⟩
end Go.Proofs.YtiopeaponffmdaaDoor.PAll
-- YtiopeaponffmdaaDoorFi
namespace Go.Proofs.YtiopeaponffmdaaDoor.PAll
open Go.RowKit Go.Proofs.YtiopeaponffmdaaDoorW.PrintWords Go.Proofs.YtiopeaponffmdaaDoorW.PrintLast Go.Proofs.YtiopeaponffmdaaDoorW.PrintMore

theorem run13 (x : Nat) (w : World) : (callFunc 13 #[.float .f64 x]).run Tryd.prog w = .ok (.value (.int .u64 (x : Int))) w := by kernel_rfl
theorem run31 (x : Nat) (w : World) : (callFunc 31 #[.int .u64 (x : Int)]).run Tryd.prog w = .ok (.value (.float .f64 x)) w := by kernel_rfl
/-- math.Abs, by its bits -/
theorem abs_calls (x y : Nat) (w : World) (h : bits .andNot .u64 (x : Int) 9223372036854775808 = (y : Int)) :
    Calls Tryd.prog 21 #[.float .f64 x] w fun e w' => e = .returned (.float .f64 y) ∧ w = w' := by
  have r13 := run13
  have r31 := run31
  go_enter Tryd.func21, Tryd.ntmps21
  go_wp2_with (fail)
  go_ret
  exact ⟨rfl, rfl⟩


set_option maxHeartbeats 1600000 in
theorem af49 (v0 : Value) (x : Nat) (fc : Int) (w0 w : World) (R : List Int → Prop) (h : Calls Tryd.prog 51 #[v0, .float .f64 x, .int .u8 fc, .int .i64 (-1)] w (FtPost w0 R)) :
    Calls Tryd.prog 49 #[v0, .float .f64 x, .int .u8 fc, .int .i64 (-1), .int .i64 64] w (FtPost w0 R) := by
  have H := Lib.hid h
  clear h
  go_enter Tryd.func49, Tryd.ntmps49
  go_wp2_with (fail)
  refine H.out.mono ?_
  rintro e w' ⟨v, r, rfl, q1, q2, q3⟩
  go_wp2_with (fail)
  go_ret
  exact ⟨v, r, rfl, q1, q2, q3⟩

set_option maxHeartbeats 1600000 in
theorem af42 (v0 : Value) (x : Nat) (fc : Int) (w0 w : World) (R : List Int → Prop) (h : Calls Tryd.prog 51 #[v0, .float .f64 x, .int .u8 fc, .int .i64 (-1)] w (FtPost w0 R)) :
    Calls Tryd.prog 42 #[v0, .float .f64 x, .int .u8 fc, .int .i64 (-1), .int .i64 64] w (FtPost w0 R) := by
  have H := Lib.hid (af49 v0 x fc w0 w R h)
  clear h
  go_enter Tryd.func42, Tryd.ntmps42
  go_wp2_with (fail)
  refine H.out.mono ?_
  rintro e w' ⟨v, r, rfl, q1, q2, q3⟩
  go_wp2_with (fail)
  go_ret
  exact ⟨v, r, rfl, q1, q2, q3⟩

/-- 'e-09' made 'e-9' -/
def fixE (r : List Int) : List Int :=
  match r.reverse with
  | d :: c :: b :: a :: q => if a = 101 ∧ b = 45 ∧ c = 48 then (d :: b :: a :: q).reverse else r
  | _ => r
theorem fixE_app (q : List Int) (a b c d : Int) : fixE (q ++ [a, b, c, d]) = if a = 101 ∧ b = 45 ∧ c = 48 then q ++ [a, b, d] else q ++ [a, b, c, d] := by
  simp [fixE]

/-- the last four bytes of a row of the call's own -/
theorem last_four {W : World} {base : Nat} {v : Value} {q : List Int} {a b c d : Int} (h : RM 5 W base (fun _ => True) v (q ++ [a, b, c, d])) :
    ∃ g cap, v = .slice (some ⟨g, 0, none⟩) (q.length + 4) cap ∧ q.length + 4 ≤ cap ∧ base ≤ g ∧ cap ≤ 9223372036854775807 ∧ W.frozen? ⟨g, q.length + 2, none⟩ = false ∧ W.cell? ⟨g, q.length, none⟩ = some (.int .u8 a) ∧ W.cell? ⟨g, q.length + 1, none⟩ = some (.int .u8 b) ∧ W.cell? ⟨g, q.length + 2, none⟩ = some (.int .u8 c) ∧ W.cell? ⟨g, q.length + 3, none⟩ = some (.int .u8 d) := by
  have hl : (q ++ [a, b, c, d]).length = q.length + 4 := by simp
  rcases h.2.2 with ⟨h1, h2⟩ | ⟨g, cap, cur, fz, h1, h2, h3, _, h4, h5, _⟩
  · simp at h2
  · rw [hl] at h1 h4
    unfold maxLen at h5
    subst h1
    have k := fun (j : Nat) (hj : j < 4) => RM_cell h (q.length + j) (by rw [hl]; omega)
    have r0 : (q ++ [a, b, c, d]).getD (q.length + 0) 0 = a := by simp
    have r1 : (q ++ [a, b, c, d]).getD (q.length + 1) 0 = b := by
      rw [List.getD_eq_getElem?_getD, List.getElem?_append_right (by omega)]; simp
    have r2 : (q ++ [a, b, c, d]).getD (q.length + 2) 0 = c := by
      rw [List.getD_eq_getElem?_getD, List.getElem?_append_right (by omega)]; simp
    have r3 : (q ++ [a, b, c, d]).getD (q.length + 3) 0 = d := by
      rw [List.getD_eq_getElem?_getD, List.getElem?_append_right (by omega)]; simp
    exact ⟨g, cap, rfl, h4, h2, h5, (k 2 (by omega)).2, by have := (k 0 (by omega)).1; rwa [r0] at this, by have := (k 1 (by omega)).1; rwa [r1] at this, by have := (k 2 (by omega)).1; rwa [r2] at this, by have := (k 3 (by omega)).1; rwa [r3] at this⟩

set_option maxHeartbeats 1600000 in
set_option maxRecDepth 100000 in
theorem af33E2 (v0 : Value) (x y : Nat) (w0 w : World) (R : List Int → Prop) (hy : bits .andNot .u64 (x : Int) 9223372036854775808 = (y : Int))
    (t0 : FloatKind.f64.format.order y 0 = some .gt) (t1 : FloatKind.f64.format.order y 4517329193108106637 = some .gt) (t2 : FloatKind.f64.format.order y 4921056587992461136 = some .gt)
    (h : Calls Tryd.prog 51 #[v0, .float .f64 x, .int .u8 101, .int .i64 (-1)] w (FtPost w0 R)) (hshape : ∀ r, R r → ∃ q a b c d, r = q ++ [a, b, c, d] ∧ q.length ≤ 140737488355328) :
    Calls Tryd.prog 33 #[v0, .float .f64 x, .int .i64 64] w (FtPost w0 (fun r => ∃ r', R r' ∧ r = fixE r')) := by
  have A := fun w => abs_calls x y w hy
  have HA := Lib.hid A
  have H := Lib.hid (af42 v0 x 101 w0 w R h)
  have HS := Lib.hid hshape
  clear A hy h hshape
  go_enter Tryd.func33, Tryd.ntmps33
  go_wp2_with (fail)
  refine (HA.out _).mono ?_
  rintro e w' ⟨rfl, rfl⟩
  go_wp2_with (fail)
  refine H.out.mono ?_
  rintro e w' ⟨v, r, rfl, q1, q2, q3⟩
  obtain ⟨q, a, b, c, d, rfl, lq⟩ := HS.out r q1
  have Q1 := Lib.hid q1
  have Q2 := Lib.hid q2
  have Q3 := Lib.hid q3
  obtain ⟨g, cap, rfl, l1, l2, l3, lf, c0, c1, c2, c3⟩ := last_four q2
  clear q1 q3 q2
  clear l3
  by_cases ha : a = 101
  · by_cases hb : b = 45
    · by_cases hc : c = 48
      · subst ha hb hc
        go_wp2_with (fail)
        go_ret
        have T := RM_take (m := q.length + 3) (RM_put Q2.out (q.length + 2) (by simp) d) (by simp)
        have e : ((q ++ [101, 45, 48, d]).set (q.length + 2) d).take (q.length + 3) = fixE (q ++ [101, 45, 48, d]) := by
          rw [fixE_app, if_pos ⟨rfl, rfl, rfl⟩, List.set_append_right _ _ (by omega), List.take_append, List.take_of_length_le (by omega)]
          simp
        refine ⟨_, _, rfl, ⟨_, Q1.out, rfl⟩, by rw [← e]; exact T, Q3.out.setCell (p := ⟨g, q.length + 2, none⟩) l2 _⟩
      · have tc : (c == 48) = false := by rw [beq_eq_false_iff_ne]; omega
        have HN := Lib.hid (show fixE (q ++ [a, b, c, d]) = q ++ [a, b, c, d] by rw [fixE_app, if_neg (by omega)])
        clear hc
        subst ha hb
        go_wp2_with (fail)
        go_ret
        exact ⟨_, _, rfl, ⟨_, Q1.out, rfl⟩, by rw [HN.out]; exact Q2.out, Q3.out⟩
    · have tb : (b == 45) = false := by rw [beq_eq_false_iff_ne]; omega
      have HN := Lib.hid (show fixE (q ++ [a, b, c, d]) = q ++ [a, b, c, d] by rw [fixE_app, if_neg (by omega)])
      clear hb
      subst ha
      go_wp2_with (fail)
      go_ret
      exact ⟨_, _, rfl, ⟨_, Q1.out, rfl⟩, by rw [HN.out]; exact Q2.out, Q3.out⟩
  · have ta : (a == 101) = false := by rw [beq_eq_false_iff_ne]; omega
    have HN := Lib.hid (show fixE (q ++ [a, b, c, d]) = q ++ [a, b, c, d] by rw [fixE_app, if_neg (by omega)])
    clear ha
    go_wp2_with (fail)
    go_ret
    exact ⟨_, _, rfl, ⟨_, Q1.out, rfl⟩, by rw [HN.out]; exact Q2.out, Q3.out⟩
set_option maxHeartbeats 1600000 in
set_option maxRecDepth 100000 in
theorem af33X (v0 : Value) (x y : Nat) (w0 w : World) (R : List Int → Prop) (hy : bits .andNot .u64 (x : Int) 9223372036854775808 = (y : Int))
    (t0 : FloatKind.f64.format.order y 0 = none) (t1 : FloatKind.f64.format.order y 4517329193108106637 = none) (t2 : FloatKind.f64.format.order y 4921056587992461136 = none)
    (h : Calls Tryd.prog 51 #[v0, .float .f64 x, .int .u8 102, .int .i64 (-1)] w (FtPost w0 R)) :
    Calls Tryd.prog 33 #[v0, .float .f64 x, .int .i64 64] w (FtPost w0 R) := by
  have A := fun w => abs_calls x y w hy
  have HA := Lib.hid A
  have H := Lib.hid (af42 v0 x 102 w0 w R h)
  clear A hy h
  go_enter Tryd.func33, Tryd.ntmps33
  go_wp2_with (fail)
  refine (HA.out _).mono ?_
  rintro e w' ⟨rfl, rfl⟩
  go_wp2_with (fail)
  refine H.out.mono ?_
  rintro e w' ⟨v, r, rfl, q1, q2, q3⟩
  have Q1 := Lib.hid q1
  have Q2 := Lib.hid q2
  have Q3 := Lib.hid q3
  clear q1 q2 q3
  go_wp2_with (fail)
  go_ret
  exact ⟨v, r, rfl, Q1.out, Q2.out, Q3.out⟩

theorem af25 (v0 : Value) (x : Nat) (w0 w : World) (R : List Int → Prop) (h : Calls Tryd.prog 33 #[v0, .float .f64 x, .int .i64 64] w (FtPost w0 R)) :
    Calls Tryd.prog 25 #[v0, .float .f64 x, .int .i64 64] w (FtPost w0 R) := by
  have H := Lib.hid h
  clear h
  go_enter Tryd.func25, Tryd.ntmps25
  go_wp2_with (fail)
  refine H.out.mono ?_
  rintro e w' ⟨v, r, rfl, q1, q2, q3⟩
  go_wp2_with (fail)
  go_ret
  exact ⟨v, r, rfl, q1, q2, q3⟩

theorem af25s (v0 : Value) (x : Nat) (w0 w : World) (R : List Int → Prop) (h : Calls Tryd.prog 33 #[v0, .float .f64 x, .int .i64 32] w (FtPost w0 R)) :
    Calls Tryd.prog 25 #[v0, .float .f64 x, .int .i64 32] w (FtPost w0 R) := by
  have H := Lib.hid h
  clear h
  go_enter Tryd.func25, Tryd.ntmps25
  go_wp2_with (fail)
  refine H.out.mono ?_
  rintro e w' ⟨v, r, rfl, q1, q2, q3⟩
  go_wp2_with (fail)
  go_ret
  exact ⟨v, r, rfl, q1, q2, q3⟩
end Go.Proofs.YtiopeaponffmdaaDoor.PAll
-- YtiopeaponffmdaaDoorFj
namespace Go.Proofs.YtiopeaponffmdaaDoor.PAll
open Go.RowKit Go.Proofs.YtiopeaponffmdaaDoorW.PrintWords Go.Proofs.YtiopeaponffmdaaDoorW.PrintLast Go.Proofs.YtiopeaponffmdaaDoorW.PrintMore

theorem conv5 (s : ByteArray) (w : World) : (convert 9 39 (.string s)).run Tryd.prog w = .ok (.slice (some ⟨w.heap.size, 0, none⟩) s.size (grownCap w s.size 0 5)) (Lib.bytesWorld w 5 s) :=
  Lib.run_convert_string_bytes w 9 39 5 s Tryd.underlying9 Tryd.underlying39 Tryd.underlying5
/-- FloatText, by what AppendFloat answers on a row of the call's own -/
theorem floatText (tt : ByteArray) (x : Nat) (w : World) (R : List Int → Prop) (hto : tt.size ≤ 140737488355328)
    (h : ∀ (W : World) (v : Value), Below w.heap.size w W → RM 5 W w.heap.size (fun _ => True) v (bytesOf tt) → Calls Tryd.prog 25 #[v, .float .f64 x, .int .i64 64] W (FtPost w R)) :
    Calls Tryd.prog 14 #[.string tt, .float .f64 x, .int .i64 64] w fun e w' => ∃ r, R r ∧ e = .returned (.string (strOfNums r)) ∧ Below w.heap.size w w' := by
  have cv := conv5 tt w
  have H := h (Lib.bytesWorld w 5 tt) _ (Joins.below_bytesWorld _ _ _ _ (Nat.le_refl _)) (RM_bytes w 5 tt hto (Nat.le_refl _) trivial)
  obtain ⟨W, hW⟩ : ∃ X, X = Lib.bytesWorld w 5 tt := ⟨_, rfl⟩
  obtain ⟨cap, hcap⟩ : ∃ c, c = grownCap w tt.size 0 5 := ⟨_, rfl⟩
  rw [← hW, ← hcap] at cv H
  have HH := Lib.hid H
  clear H h hW hcap
  go_enter Tryd.func14, Tryd.ntmps14
  go_wp2_with (fail)
  refine HH.out.mono ?_
  rintro e w' ⟨v, r, rfl, q1, q2, q3⟩
  obtain ⟨A, c, rfl, hc, hr⟩ := RM_reads q2
  have cs := Kd.C_string (P := Tryd.prog) (w := w') (src := 39) (dst := 9) (e := 5) (c := c) Tryd.underlying39 Tryd.underlying5 Tryd.underlying9 hr
  have Q1 := Lib.hid q1
  have Q3 := Lib.hid q3
  clear q1 q2 q3 hr hc
  go_wp2_with (fail)
  go_returns
  exact ⟨_, Q1.out, rfl, Q3.out⟩
/-- FloatText, by what AppendFloat answers on a row of the call's own -/
theorem floatText32 (tt : ByteArray) (x : Nat) (w : World) (R : List Int → Prop) (hto : tt.size ≤ 140737488355328)
    (h : ∀ (W : World) (v : Value), Below w.heap.size w W → RM 5 W w.heap.size (fun _ => True) v (bytesOf tt) → Calls Tryd.prog 25 #[v, .float .f64 x, .int .i64 32] W (FtPost w R)) :
    Calls Tryd.prog 14 #[.string tt, .float .f64 x, .int .i64 32] w fun e w' => ∃ r, R r ∧ e = .returned (.string (strOfNums r)) ∧ Below w.heap.size w w' := by
  have cv := conv5 tt w
  have H := h (Lib.bytesWorld w 5 tt) _ (Joins.below_bytesWorld _ _ _ _ (Nat.le_refl _)) (RM_bytes w 5 tt hto (Nat.le_refl _) trivial)
  obtain ⟨W, hW⟩ : ∃ X, X = Lib.bytesWorld w 5 tt := ⟨_, rfl⟩
  obtain ⟨cap, hcap⟩ : ∃ c, c = grownCap w tt.size 0 5 := ⟨_, rfl⟩
  rw [← hW, ← hcap] at cv H
  have HH := Lib.hid H
  clear H h hW hcap
  go_enter Tryd.func14, Tryd.ntmps14
  go_wp2_with (fail)
  refine HH.out.mono ?_
  rintro e w' ⟨v, r, rfl, q1, q2, q3⟩
  obtain ⟨A, c, rfl, hc, hr⟩ := RM_reads q2
  have cs := Kd.C_string (P := Tryd.prog) (w := w') (src := 39) (dst := 9) (e := 5) (c := c) Tryd.underlying39 Tryd.underlying5 Tryd.underlying9 hr
  have Q1 := Lib.hid q1
  have Q3 := Lib.hid q3
  clear q1 q2 q3 hr hc
  go_wp2_with (fail)
  go_returns
  exact ⟨_, Q1.out, rfl, Q3.out⟩
end Go.Proofs.YtiopeaponffmdaaDoor.PAll
-- YtiopeaponffmdaaDoorFk
namespace Go.Proofs.YtiopeaponffmdaaDoor.PAll
open Go.RowKit Go.Proofs.YtiopeaponffmdaaDoorW.PrintWords Go.Proofs.YtiopeaponffmdaaDoorW.PrintLast Go.Proofs.YtiopeaponffmdaaDoorW.PrintMore
theorem textPosInf (tt : ByteArray) (w : World) (hto : tt.size ≤ 4000000000) : Calls Tryd.prog 14 #[.string tt, .float .f64 9218868437227405312, .int .i64 64] w fun e w' => e = .returned (.string (strOfNums (bytesOf tt ++ [43, 73, 110, 102]))) ∧ Below w.heap.size w w' := by
  refine (floatText tt 9218868437227405312 w (fun r => r = bytesOf tt ++ [43, 73, 110, 102]) (by omega) (fun W v hB ho => ?_)).mono ?_
  · refine af25 v _ w W _ ?_
    have F := ftoa64XP (fun _ => True) v (bytesOf tt) 9218868437227405312 101 w W (by decide) (by rw [bytesOf_length]; omega) hB ho (by decide) (by decide +kernel) (by decide +kernel)
    refine Calls.mono (af33E2 v 9218868437227405312 9218868437227405312 w W _ (by decide +kernel) (by decide +kernel) (by decide +kernel) (by decide +kernel) F ?_) ?_
    · rintro r rfl
      exact ⟨_, _, _, _, _, rfl, by rw [bytesOf_length]; omega⟩
    · rintro e w' ⟨v', r, h1, ⟨r', rfl, rfl⟩, h3, h4⟩
      exact ⟨v', _, h1, rfl, by rw [fixE_app, if_neg (by decide)] at h3; exact h3, h4⟩
  · rintro e w' ⟨r, rfl, h2, h3⟩
    exact ⟨h2, h3⟩
theorem textNegInf (tt : ByteArray) (w : World) (hto : tt.size ≤ 4000000000) : Calls Tryd.prog 14 #[.string tt, .float .f64 18442240474082181120, .int .i64 64] w fun e w' => e = .returned (.string (strOfNums (bytesOf tt ++ [45, 73, 110, 102]))) ∧ Below w.heap.size w w' := by
  refine (floatText tt 18442240474082181120 w (fun r => r = bytesOf tt ++ [45, 73, 110, 102]) (by omega) (fun W v hB ho => ?_)).mono ?_
  · refine af25 v _ w W _ ?_
    have F := ftoa64XM (fun _ => True) v (bytesOf tt) 18442240474082181120 101 w W (by decide) (by rw [bytesOf_length]; omega) hB ho (by decide) (by decide +kernel) (by decide +kernel)
    refine Calls.mono (af33E2 v 18442240474082181120 9218868437227405312 w W _ (by decide +kernel) (by decide +kernel) (by decide +kernel) (by decide +kernel) F ?_) ?_
    · rintro r rfl
      exact ⟨_, _, _, _, _, rfl, by rw [bytesOf_length]; omega⟩
    · rintro e w' ⟨v', r, h1, ⟨r', rfl, rfl⟩, h3, h4⟩
      exact ⟨v', _, h1, rfl, by rw [fixE_app, if_neg (by decide)] at h3; exact h3, h4⟩
  · rintro e w' ⟨r, rfl, h2, h3⟩
    exact ⟨h2, h3⟩
end Go.Proofs.YtiopeaponffmdaaDoor.PAll
