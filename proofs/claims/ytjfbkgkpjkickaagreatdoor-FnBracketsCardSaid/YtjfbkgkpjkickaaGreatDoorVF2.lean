/- The texts of a proof, its declarations alone: part 2. -/
import Derived.Test.YtjfbkgkpjkickaaGreatDoorProg
import Derived.Below
import Derived.Deep.Draws
import Derived.Deep.AppendLies
import Derived.Maps.AppendAt
import Derived.OwnWalk
import Derived.Laws.BytesArg
import Derived.Laws.MakeOwn
import Derived.Laws.OwnMore
import Derived.Deep.OwnRows
import Derived.Tactics
import Derived.Lib.ConvBytes
import Derived.Laws.Slices
import Derived.WalkKit
import Derived.KernelRfl
import Derived.RowKit3
import Derived.Deep.LoopGhost
import Derived.Deep.QuietTactic
import Derived.BigQuiet
import Derived.WideLaws
import Derived.Deep.DeepCutAuto
import Derived.Deep.CutBlock
import Derived.Deep.RegionHeld3
import Derived.Laws.Rows
import Derived.Lib.AppendStr
import Derived.ArgAppend
import Derived.Laws.IdiomCopy
import Derived.OrdersHeld
import Derived.Laws.BitsLemmas
import Derived.RowKit
import Derived.Lib.FrozenHead2
import Derived.Lib.SmallJoins
import Derived.LaidEql
import Derived.Deep.RegionHeld
import Derived.Test.YtjfbkgkpjkickaaGreatDoorVU1
import Derived.Test.YtjfbkgkpjkickaaGreatDoorVU2
import Derived.Test.YtjfbkgkpjkickaaGreatDoorVU3
import Derived.Test.YtjfbkgkpjkickaaGreatDoorVU4
import Derived.Test.YtjfbkgkpjkickaaGreatDoorVU5
import Derived.Test.YtjfbkgkpjkickaaGreatDoorVU6
import Derived.Test.YtjfbkgkpjkickaaGreatDoorVU7
import Derived.Test.YtjfbkgkpjkickaaGreatDoorVU8
import Derived.Test.YtjfbkgkpjkickaaGreatDoorVU9
import Derived.Test.YtjfbkgkpjkickaaGreatDoorVU16
import Derived.Test.YtjfbkgkpjkickaaGreatDoorVF1
set_option linter.unusedVariables false
set_option linter.unusedSimpArgs false
-- YtjfbkgkpjkickaaGreatDoorPAllx0
namespace Go.Proofs.YtjfbkgkpjkickaaGreatDoor.PAll
open Go.RowKit Go.Proofs.YtjfbkgkpjkickaaGreatDoorW.PrintWords Go.Proofs.YtjfbkgkpjkickaaGreatDoorW.PrintLast Go.Proofs.YtjfbkgkpjkickaaGreatDoorW.PrintMore
set_option linter.unusedVariables false
set_option linter.unusedSimpArgs false



theorem info5 : (Tryz.prog.info? 5).map (fun i => (i.zero, i.size, i.bytes)) = some (some (.int .u8 0), 1, 1) := by kernel_rfl
end Go.Proofs.YtjfbkgkpjkickaaGreatDoor.PAll
-- YtjfbkgkpjkickaaGreatDoorRm
namespace Go.Proofs.YtjfbkgkpjkickaaGreatDoor.PAll
open Go.RowKit Go.Proofs.YtjfbkgkpjkickaaGreatDoorW.PrintWords Go.Proofs.YtjfbkgkpjkickaaGreatDoorW.PrintLast Go.Proofs.YtjfbkgkpjkickaaGreatDoorW.PrintMore
open Go.Builtin
set_option linter.unusedVariables false

/-- none of the first n cells is frozen -/
def FreeM (fz : Nat × Nat) (n : Nat) : Prop := ∀ k, k < n → ¬ (fz.1 ≤ k ∧ k < fz.2)

def OwnM (w : World) (base : Nat) (e : TypeId) (v : Value) (n : Nat) (xs : List Value) : Prop :=
  xs.length = n ∧
  ((v = .slice none 0 0 ∧ n = 0) ∨
   ∃ g cap cur fz, v = .slice (some ⟨g, 0, none⟩) n cap ∧ base ≤ g ∧ w.heap[g]? = some (.cells cur e fz) ∧ FreeM fz cur.size ∧ n ≤ cap ∧ cap ≤ maxLen ∧ cur.size = cap ∧ cur.toList.take n = xs)

theorem OwnM.of_own {w : World} {base : Nat} {e : TypeId} {v : Value} {n : Nat} {xs : List Value} (h : w.ownsRow base e 1 v n xs) : OwnM w base e v n xs := by
  refine ⟨by have := h.1; simpa using this, ?_⟩
  rcases h.2 with hn | ⟨g, cap, cur, hv, hb, hg, h1, h2, h3, h4⟩
  · exact .inl hn
  · exact .inr ⟨g, cap, cur, (0, 0), hv, hb, hg, fun k _ h => by have := h.2; simp at this, h1, h2, by simpa using h3, by simpa using h4⟩

section
variable {w w' : World} {base : Nat} {e : TypeId} {v : Value} {n : Nat} {xs : List Value}
theorem OwnM.lt (h : OwnM w base e v n xs) : ∀ k, v.ownBlock = some k → base ≤ k ∧ k < w.heap.size := by
  intro k hk
  rcases h.2 with ⟨rfl, _⟩ | ⟨g, cap, cur, fz, rfl, hb, hg, _⟩
  · simp [Value.ownBlock] at hk
  · simp [Value.ownBlock] at hk
    subst hk
    exact ⟨hb, (Array.getElem?_eq_some_iff.1 hg).1⟩
theorem OwnM.move (h : OwnM w base e v n xs) (hm : ∀ k, v.ownBlock = some k → w'.heap[k]? = w.heap[k]?) : OwnM w' base e v n xs := by
  refine ⟨h.1, ?_⟩
  rcases h.2 with hn | ⟨g, cap, cur, fz, rfl, hb, hgg, rest⟩
  · exact .inl hn
  · exact .inr ⟨g, cap, cur, fz, rfl, hb, by rw [hm g (by simp [Value.ownBlock])]; exact hgg, rest⟩
theorem OwnM.lower {base' : Nat} (h : OwnM w base e v n xs) (hb : base' ≤ base) : OwnM w base' e v n xs := by
  refine ⟨h.1, ?_⟩
  rcases h.2 with hn | ⟨g, cap, cur, fz, hv, hbg, rest⟩
  · exact .inl hn
  · exact .inr ⟨g, cap, cur, fz, hv, by omega, rest⟩
theorem OwnM.cells (h : OwnM w base e v n xs) {g : Nat} (hg : v.ownBlock = some g) : ∀ j u, xs[j]? = some u → w.cell? ((⟨g, 0, none⟩ : Addr).add j) = some u := by
  intro j u hu
  rcases h.2 with ⟨rfl, _⟩ | ⟨g', cap, cur, fz, rfl, _, hgg, _, _, _, _, htake⟩
  · simp [Value.ownBlock] at hg
  · simp [Value.ownBlock] at hg
    subst hg
    have hadd : (⟨g', 0, none⟩ : Addr).add j = ⟨g', j, none⟩ := by unfold Addr.add; split <;> simp_all
    rw [hadd, cell_of_row w g' j cur e fz hgg]
    rw [← htake, List.getElem?_take] at hu
    split at hu
    · simpa using hu
    · cases hu
end

theorem run_storeCells_atM (P : Program) (g o : Nat) (t : TypeId) (fz : Nat × Nat) : ∀ (vs : List Value) (i : Nat) (cur : Array Value) (w : World), w.heap[g]? = some (.cells cur t fz) → FreeM fz cur.size → o + i + vs.length ≤ cur.size → (∀ v ∈ vs, v.oneCell' = true) →
    (storeCells ⟨g, o, none⟩ vs i).run P w = .ok () (w.setRow g (cur.toList.take (o + i) ++ vs ++ cur.toList.drop (o + i + vs.length)).toArray)
  | [], i, cur, w, hg, _, _, _ => by
    simp only [storeCells, List.append_nil, List.length_nil, Nat.add_zero, List.take_append_drop, Array.toArray_toList]
    rw [setRow_self w g cur t fz hg]
    rfl
  | v :: rest, i, cur, w, hg, hfz, hl, h1 => by
    have hi : o + i < cur.size := by simp at hl; omega
    have hadd : (⟨g, o, none⟩ : Addr).add i = ⟨g, o + i, none⟩ := by unfold Addr.add; split <;> simp_all
    have hcell : w.cell? ⟨g, o + i, none⟩ = some cur[o + i] := by simp [World.cell?, hg, hi]
    have hfro : w.frozen? ⟨g, o + i, none⟩ = false := by
      have := hfz (o + i) hi
      obtain ⟨lo, hi'⟩ := fz
      simp only [World.frozen?, hg, Bool.and_eq_false_iff, decide_eq_false_iff_not]
      simp only at this
      omega
    have hst : (store ((⟨g, o, none⟩ : Addr).add i) v).run P w = .ok () (w.setRow g (cur.setIfInBounds (o + i) v)) := by
      rw [hadd, run_store P w _ v _ (h1 v (by simp)), hcell]
      simp [hfro, setCell_eq_setRow w g (o + i) cur t fz v hg]
    have ih := run_storeCells_atM P g o t fz rest (i + 1) (cur.setIfInBounds (o + i) v) (w.setRow g (cur.setIfInBounds (o + i) v)) (setRow_heap w g cur _ t _ hg) (by simpa using hfz) (by simp at hl ⊢; omega) (fun x hx => h1 x (by simp [hx]))
    simp only [storeCells, Sem.run_bind, hst, Result.andThen_ok, ih, setRow_setRow]
    congr 3
    have e := list_seg_step cur.toList (o + i) v rest (by simp at hl ⊢; omega)
    simpa [Array.toList_setIfInBounds, Nat.add_assoc] using e

theorem run_append_M {P : Program} (w : World) (base : Nat) (t ty e : TypeId) (i : TypeInfo) (z : Value) (bytes : Nat) (ht : P.underlying t = some (.slice e)) (hi : P.info? e = some i) (hz : i.zero = some z)
    (hsize : i.size = 1) (hby : i.bytes = bytes) (hzs : z.cells.size = 1)
    (v : Value) (n : Nat) (xs : List Value) (hown : OwnM w base e v n xs)
    (a : Addr) (m c : Nat) (news : List Value) (hl : news.length = m) (hnews : ∀ j u, news[j]? = some u → w.cell? (a.add j) = some u) (h1 : ∀ u ∈ news, u.oneCell' = true)
    (h63 : n + m ≤ maxLen) (hbytes : (n + m) * bytes ≤ 140737488355328) (hbase : base ≤ w.heap.size) :
    ∃ v' w', (Builtin.append_ #[t, t] ty #[v, .slice (some a) m c]).run P w = .ok v' w' ∧ OwnM w' base e v' (n + m) (xs ++ news) ∧ w.grownBy w' v.ownBlock ∧ (v'.ownBlock = v.ownBlock ∨ v'.ownBlock = some w.heap.size) := by
  rcases hown.2 with ⟨rfl, rfl⟩ | ⟨g, cap, cur, fz, rfl, hbg, hg, hfz, hnc, hcm, hcs, htake⟩
  · obtain ⟨v', w', r1, r2, r3, _, r5⟩ := run_append_own_at (P := P) w base t ty e i z 1 bytes ht hi hz hsize hby hzs (by omega) (.slice none 0 0) 0 xs ⟨by have := hown.1; simpa using this, .inl ⟨rfl, rfl⟩⟩ a m c news (by simpa using hl) hnews h1 h63 hbytes hbase
    exact ⟨v', w', r1, OwnM.of_own r2, r3, r5⟩
  · subst hby
    have hsmall : n + m ≤ 9223372036854775807 := by simp only [maxLen] at h63; omega
    have hlen : (xs ++ news).length = n + m := by rw [List.length_append, hown.1, hl]
    by_cases hroom : n + m ≤ cap
    · have hfit : n * i.size + news.length ≤ cur.size := by rw [hl, hcs, hsize]; omega
      have hf := run_firstCells_some (P := P) w i.size m a m c news (by rw [hsize]; simpa using hl) hnews
      have hst := run_storeCells_atM P g (n * i.size) e fz news 0 cur w hg hfz (by simpa using hfit) h1
      simp only [Nat.add_zero] at hst
      have hr : (Builtin.append_ #[t, t] ty #[.slice (some ⟨g, 0, none⟩) n cap, .slice (some a) m c]).run P w =
          .ok (.slice (some ⟨g, 0, none⟩) (n + m) cap) (w.setRow g (cur.toList.take (n * i.size) ++ news ++ cur.toList.drop (n * i.size + news.length)).toArray) := by
        simp [Builtin.append_, run_underlying ht, sizeOf, typeInfo, hi, Builtin.lenOf, hroom, hf, Addr.add_lit, hst]
      rw [hsize, Nat.mul_one] at hr
      have hsz : (cur.toList.take n ++ news ++ cur.toList.drop (n + news.length)).toArray.size = cap := by
        simp only [List.size_toArray, List.length_append, List.length_take, List.length_drop, Array.length_toList]
        omega
      refine ⟨_, _, hr, ⟨hlen, .inr ⟨g, cap, _, fz, rfl, hbg, setRow_heap w g cur _ e _ hg, by rw [hsz]; rw [hcs] at hfz; exact hfz, hroom, hcm, hsz, ?_⟩⟩, ⟨rfl, rfl, rfl, by simp, fun k _ hk => setRow_other w g k _ (fun e => hk (by simp [Value.ownBlock, e]))⟩, .inl rfl⟩
      show (cur.toList.take n ++ news ++ cur.toList.drop (n + news.length)).take (n + m) = xs ++ news
      rw [htake, ← hlen]
      exact List.take_left
    · have holds : ∀ j u, xs[j]? = some u → w.cell? ((⟨g, 0, none⟩ : Addr).add j) = some u := hown.cells (g := g) rfl
      have hr := run_append_grow (P := P) w t ty e i z ht hi hz ⟨g, 0, none⟩ n cap xs (by rw [hsize]; simpa using hown.1) holds a m c news (by rw [hsize]; simpa using hl) hnews (by omega) (by omega) (growslice_fits (by omega) hbytes)
      have hge := grownCap_ge w (n + m) cap e
      have hcm2 : grownCap w (n + m) cap e ≤ maxLen := grownCap_le_maxLen w (n + m) cap e h63
      refine ⟨_, _, hr, ⟨hlen, .inr ⟨w.heap.size, _, _, (0, 0), rfl, hbase, heap_alloc_new w.drew _, fun k _ h => by have := h.2; simp at this, hge, hcm2, ?_, ?_⟩⟩, ⟨rfl, rfl, rfl, by simp, fun k hk _ => heap_alloc_old w.drew _ hk⟩, .inr rfl⟩
      · simp only [Array.size_append, List.size_toArray, size_zeroCells, hzs, hown.1, hl]
        omega
      · simp only [Array.toList_append, List.append_assoc]
        rw [← List.append_assoc, ← hlen]
        exact List.take_left

/-- a row of bytes of one's own, mark or none -/
def RM (e : Nat) (w : World) (base : Nat) (ok : Nat → Prop) (v : Value) (xs : List Int) : Prop :=
  (∀ k, v.ownBlock = some k → ok k) ∧ OwnM w base e v xs.length (nums .u8 xs)
section
variable {w w1 W : World} {e base b : Nat} {ok ok' oku okv : Nat → Prop} {v u : Value} {xs ys : List Int}
theorem RM_lt (h : RM e w base ok v xs) : ∀ k, v.ownBlock = some k → k < w.heap.size := fun k hk => (h.2.lt k hk).2
theorem RM_base (h : RM e w base ok v xs) : ∀ k, v.ownBlock = some k → base ≤ k := fun k hk => (h.2.lt k hk).1
theorem RM_step (h : RM e w base ok v xs) (hm : ∀ k, ok k → k < w.heap.size → w1.heap[k]? = w.heap[k]?) : RM e w1 base ok v xs :=
  ⟨h.1, h.2.move (fun k hk => hm k (h.1 k hk) (RM_lt h k hk))⟩
theorem RM_below (h : RM e w base ok v xs) (hb : Below w.heap.size w w1) : RM e w1 base ok v xs := RM_step h (fun k _ hk => hb.block k hk)
theorem RM_alloc (h : RM e w base ok v xs) (o : Obj) : RM e (w.alloc o) base ok v xs := RM_below h (below_alloc (Below.refl _ _) o)
theorem RM_drew (h : RM e w base ok v xs) : RM e w.drew base ok v xs := RM_below h (below_drew (Below.refl _ _))
theorem RM_drewN (h : RM e w base ok v xs) (m : Nat) : RM e (w.drewN m) base ok v xs := RM_below h (pw_below_drewN (Below.refl _ _) m)
theorem RM_lower {base' : Nat} (h : RM e w base ok v xs) (hb : base' ≤ base) : RM e w base' ok v xs := ⟨h.1, h.2.lower hb⟩
theorem nums_get (xs : List Int) (j : Nat) (h : j < xs.length) : (nums .u8 xs)[j]? = some (.int .u8 (xs.getD j 0)) := by
  simp [nums, List.getD, h]
theorem RM_reads (h : RM e w base ok v xs) : ∃ A c, v = .slice A xs.length c ∧ xs.length ≤ c ∧ Kd.C (Kd.int .u8) w A xs.length xs := by
  rcases h.2.2 with ⟨h1, h2⟩ | ⟨g, cap, cur, fz, h1, hb, hg, hfz, h3, h4, h5, h6⟩
  · refine ⟨none, 0, by rw [h2]; exact h1, by omega, Kd.C_of_reads (enc := Value.int .u8) (d := (0 : Int)) (h1 := fun _ => rfl) ⟨rfl, by omega, fun h => by omega⟩⟩
  · refine ⟨_, _, h1, h3, Kd.C_of_reads (enc := Value.int .u8) (d := (0 : Int)) (h1 := fun _ => rfl) ⟨rfl, by simp only [maxLen] at h4; omega, fun _ => ⟨_, rfl, fun j hj => ?_⟩⟩⟩
    exact h.2.cells (g := g) (by rw [h1]; rfl) j _ (nums_get xs j hj)
theorem RM_slice (h : RM e w base ok v xs) : ∃ A c, v = .slice A xs.length c := by
  obtain ⟨A, c, he, _⟩ := RM_reads h
  exact ⟨A, c, he⟩
end
theorem RM_appended {e base : Nat} {ok : Nat → Prop} {W w1 : World} {v v1 : Value} {xs ys : List Int} (h0 : ∀ k, v.ownBlock = some k → ok k) (hfresh : ∀ k, W.heap.size ≤ k → ok k)
    (h : OwnM w1 base e v1 (xs.length + ys.length) (nums .u8 xs ++ nums .u8 ys)) (hat : v1.ownBlock = v.ownBlock ∨ ∃ b, v1.ownBlock = some b ∧ W.heap.size ≤ b) : RM e w1 base ok v1 (xs ++ ys) := by
  refine ⟨fun k hk => ?_, by rw [nums_append, List.length_append]; exact h⟩
  rcases hat with hat | ⟨b, hb, hle⟩
  · exact h0 k (by rw [← hat]; exact hk)
  · rw [hb] at hk; injection hk with hk; exact hfresh k (by omega)
section
variable {P : Program} {ops : Array Oper} {rest : List Oper} {o : Oper} {a : Act} {Q : Exit → Act → World → Prop}
theorem wpList_append_M (w : World) (hgd : o.guard = none) (s x : Operand) (t : TypeId)
    (ho : o.op = .call { callee := .builtin .append, args := #[s, x], argTypes := #[t, t] })
    (base : Nat) (e : TypeId) (i : TypeInfo) (z : Value) (bytes : Nat) (ht : P.underlying t = some (.slice e)) (hi : P.info? e = some i) (hz : i.zero = some z)
    (hsize : i.size = 1) (hby : i.bytes = bytes) (hzs : z.cells.size = 1)
    (v : Value) (n : Nat) (xs : List Value) (hs : a.eval s = v) (hown : OwnM w base e v n xs)
    (ad : Addr) (m c : Nat) (news : List Value) (hx : a.eval x = .slice (some ad) m c) (hl : news.length = m) (hnews : ∀ j u, news[j]? = some u → w.cell? (ad.add j) = some u) (h1 : ∀ u ∈ news, u.oneCell' = true)
    (h63 : n + m ≤ maxLen) (hbytes : (n + m) * bytes ≤ 140737488355328) (hbase : base ≤ w.heap.size)
    (h : ∀ v' w', OwnM w' base e v' (n + m) (xs ++ news) → w.grownBy w' v.ownBlock → (v'.ownBlock = v.ownBlock ∨ v'.ownBlock = some w.heap.size) → wpList P ops Q rest (a.put o.dst v') w') :
    wpList P ops Q (o :: rest) a w := by
  refine wpList_plain hgd fun K hK => ?_
  obtain ⟨v', w', hr, h2, h3, h5⟩ := run_append_M (P := P) w base t o.type e i z bytes ht hi hz hsize hby hzs v n xs hown ad m c news hl hnews h1 h63 hbytes hbase
  unfold Oper.wp execOp
  simp only [ho, resolve, invoke, builtin, Sem.run_bind, Sem.run_pure, Result.andThen_ok, List.map_toArray, List.map_cons, List.map_nil, hs, hx, hr]
  exact hK _ _ (h v' w' h2 h3 h5)
theorem RM_append {w0 W : World} (base : Nat) (hgd : o.guard = none) (s x : Operand) (t e : TypeId) (z : Value) (bytes : Nat)
    (ho : o.op = .call { callee := .builtin .append, args := #[s, x], argTypes := #[t, t] })
    (ht : P.underlying t = some (.slice e)) (hinfo : (P.info? e).map (fun i => (i.zero, i.size, i.bytes)) = some (some z, 1, bytes)) (hz : z.cells.size = 1) (hb0 : 0 < bytes)
    (v : Value) (xs : List Int) (p : Int) (cs : List Value) (ok okp : Nat → Prop) (hs : a.eval s = v) (hx : a.eval x = .slice (some ⟨W.heap.size, 0, none⟩) 1 1) (hp : cs = [.int .u8 p]) (hokp : ∀ k, okp k → ok k ∧ some k ≠ v.ownBlock) (hfresh : ∀ k, W.heap.size ≤ k → ok k)
    (HO : RM e W base ok v xs) (HB : Below base w0 W) (hbase : base ≤ W.heap.size) (hl : (xs.length + 1) * bytes ≤ 140737488355328)
    (h : ∀ v1 w1, RM e w1 base ok v1 (xs ++ [p]) → Below base w0 w1 → W.grownBy w1 v.ownBlock → (v1.ownBlock = v.ownBlock ∨ ∃ b, v1.ownBlock = some b ∧ W.heap.size ≤ b) → wpList P ops Q rest (a.put o.dst v1) w1) :
    wpList P ops Q (o :: rest) a (W.alloc (.cells cs.toArray e)) := by
  subst hp
  obtain ⟨i0, hi, hzz⟩ := Option.map_eq_some_iff.1 hinfo
  simp only [Prod.mk.injEq] at hzz
  obtain ⟨hz0, hz1, hz2⟩ := hzz
  have hlen : xs.length + 1 ≤ 140737488355328 := Nat.le_trans (Nat.le_mul_of_pos_right _ hb0) hl
  refine wpList_append_M (W.alloc (.cells [.int .u8 p].toArray e)) hgd s x t ho base e i0 z bytes ht hi hz0 hz1 hz2 hz v xs.length (nums .u8 xs) hs (RM_alloc HO _).2 ⟨W.heap.size, 0, none⟩ 1 1 [.int .u8 p] hx rfl
    (by simpa using cell_one_new W (.int .u8 p) e) (by simp [Value.oneCell']) (by simp only [maxLen]; omega) hl (by simp; omega) ?_
  intro v1 w1 hown hg hat
  have hat' : v1.ownBlock = v.ownBlock ∨ ∃ b, v1.ownBlock = some b ∧ W.heap.size ≤ b := by
    rcases hat with hat | hat
    · exact .inl hat
    · exact .inr ⟨_, hat, by simp⟩
  exact h v1 w1 (RM_appended (ys := [p]) HO.1 hfresh hown hat') ((HB.alloc hbase _).grown hg (by simp; omega) (RM_base HO)) (World.grownBy.trans (World.grownBy_alloc W _ _) hg) hat'
end
end Go.Proofs.YtjfbkgkpjkickaaGreatDoor.PAll
-- YtjfbkgkpjkickaaGreatDoorRn
namespace Go.Proofs.YtjfbkgkpjkickaaGreatDoor.PAll
open Go.RowKit Go.Proofs.YtjfbkgkpjkickaaGreatDoorW.PrintWords Go.Proofs.YtjfbkgkpjkickaaGreatDoorW.PrintLast Go.Proofs.YtjfbkgkpjkickaaGreatDoorW.PrintMore
open Go.Builtin Go.Lib
set_option linter.unusedVariables false
theorem run_append_M_str {P : Program} (w : World) (base : Nat) (t u ty e : TypeId) (i : TypeInfo) (ht : P.underlying t = some (.slice e)) (hu : P.underlying u = some .string) (hi : P.info? e = some i) (hz : i.zero = some (.int .u8 0))
    (hsize : i.size = 1) (hby : i.bytes = 1)
    (v : Value) (n : Nat) (xs : List Value) (hown : OwnM w base e v n xs) (s : ByteArray)
    (h63 : n + s.size ≤ maxLen) (hbytes : n + s.size ≤ 140737488355328) (hbase : base ≤ w.heap.size) :
    ∃ v' w', (Builtin.append_ #[t, u] ty #[v, .string s]).run P w = .ok v' w' ∧ OwnM w' base e v' (n + s.size) (xs ++ strCells s) ∧ w.grownBy w' v.ownBlock ∧ (v'.ownBlock = v.ownBlock ∨ ∃ b, v'.ownBlock = some b ∧ w.heap.size ≤ b) := by
  rcases hown.2 with ⟨rfl, rfl⟩ | ⟨g, cap, cur, fz, rfl, hbg, hg, hfz, hnc, hcm, hcs, htake⟩
  · obtain ⟨v', w', r1, r2, r3, r4⟩ := run_append_own_string (P := P) w w.heap.size t u ty e i ht hu hi hz hsize hby (.slice none 0 0) 0 xs ⟨by have := hown.1; simpa using this, .inl ⟨rfl, rfl⟩⟩ s h63 hbytes (Nat.le_refl _)
    refine ⟨v', w', r1, (OwnM.of_own r2).lower hbase, r3, ?_⟩
    rcases r2.2 with ⟨h1, _⟩ | ⟨g, cap, cur, h1, h2, _⟩
    · exact .inl (by rw [h1])
    · exact .inr ⟨g, by rw [h1]; rfl, h2⟩
  · have hsmall : n + s.size ≤ 9223372036854775807 := by simp only [maxLen] at h63; omega
    have hxl := hown.1
    have hlen : (xs ++ strCells s).length = n + s.size := by rw [List.length_append, hxl, strCells_length]
    by_cases hroom : n + s.size ≤ cap
    · have hf := run_firstCells_string (P := P) w 1 s
      have hst := run_storeCells_atM P g n e fz (strCells s) 0 cur w hg hfz (by simp only [strCells_length]; omega) (strCells_oneCell s)
      simp only [Nat.add_zero, strCells_length] at hst
      have hr : (Builtin.append_ #[t, u] ty #[.slice (some ⟨g, 0, none⟩) n cap, .string s]).run P w =
          .ok (.slice (some ⟨g, 0, none⟩) (n + s.size) cap) (w.setRow g (cur.toList.take n ++ strCells s ++ cur.toList.drop (n + s.size)).toArray) := by
        simp [Builtin.append_, run_underlying ht, run_underlying hu, sizeOf, typeInfo, hi, hsize, Builtin.lenOf, hroom, hf, Addr.add_lit, hst]
      have hsz : (cur.toList.take n ++ strCells s ++ cur.toList.drop (n + s.size)).toArray.size = cap := by
        simp only [List.size_toArray, List.length_append, List.length_take, List.length_drop, Array.length_toList, strCells_length]
        omega
      refine ⟨_, _, hr, ⟨hlen, .inr ⟨g, cap, _, fz, rfl, hbg, setRow_heap w g cur _ e _ hg, by rw [hsz]; rw [hcs] at hfz; exact hfz, hroom, hcm, hsz, ?_⟩⟩, ⟨rfl, rfl, rfl, by simp, fun k _ hk => setRow_other w g k _ (fun e => hk (by simp [Value.ownBlock, e]))⟩, .inl rfl⟩
      show (cur.toList.take n ++ strCells s ++ cur.toList.drop (n + s.size)).take (n + s.size) = xs ++ strCells s
      rw [htake, ← hlen]
      exact List.take_left
    · have holds : ∀ j u, xs[j]? = some u → w.cell? ((⟨g, 0, none⟩ : Addr).add j) = some u := hown.cells (g := g) rfl
      have hr := run_append_grow_string (P := P) w t u ty e i (.int .u8 0) ht hu hi hz ⟨g, 0, none⟩ n cap xs (by rw [hsize]; simpa using hxl) holds s (by omega) (by omega) (by rw [hby]; exact growslice_fits (by omega) (by omega))
      have hge := grownCap_ge w (n + s.size) cap e
      have hcm2 : grownCap w (n + s.size) cap e ≤ maxLen := grownCap_le_maxLen w (n + s.size) cap e h63
      refine ⟨_, _, hr, ⟨hlen, .inr ⟨w.heap.size, _, _, (0, 0), rfl, hbase, heap_alloc_new w.drew _, fun k _ h => by have := h.2; simp at this, hge, hcm2, ?_, ?_⟩⟩, ⟨rfl, rfl, rfl, by simp, fun k hk _ => heap_alloc_old w.drew _ hk⟩, .inr ⟨_, rfl, Nat.le_refl _⟩⟩
      · have hz1 : (Value.int IntKind.u8 0).cells.size = 1 := rfl
        simp only [Array.size_append, List.size_toArray, size_zeroCells, hz1, hxl, strCells_length]
        omega
      · simp only [Array.toList_append, List.append_assoc]
        rw [← List.append_assoc, ← hlen]
        exact List.take_left
theorem strCells_nums (s : ByteArray) : strCells s = nums .u8 (bytesOf s) := by simp [nums, bytesOf, strCells]
section
variable {P : Program} {ops : Array Oper} {rest : List Oper} {o : Oper} {a : Act} {Q : Exit → Act → World → Prop}
theorem RM_append_str {w0 W : World} (base : Nat) (hgd : o.guard = none) (s x : Operand) (t u e : TypeId)
    (ho : o.op = .call { callee := .builtin .append, args := #[s, x], argTypes := #[t, u] })
    (ht : P.underlying t = some (.slice e)) (hu : P.underlying u = some .string) (hinfo : (P.info? e).map (fun i => (i.zero, i.size, i.bytes)) = some (some (.int .u8 0), 1, 1))
    (v : Value) (xs : List Int) (y : ByteArray) (ok : Nat → Prop) (hs : a.eval s = v) (hx : a.eval x = .string y) (hfresh : ∀ k, W.heap.size ≤ k → ok k)
    (HO : RM e W base ok v xs) (HB : Below base w0 W) (hbase : base ≤ W.heap.size) (hl : xs.length + y.size ≤ 140737488355328)
    (h : ∀ v1 w1, RM e w1 base ok v1 (xs ++ bytesOf y) → Below base w0 w1 → W.grownBy w1 v.ownBlock → wpList P ops Q rest (a.put o.dst v1) w1) :
    wpList P ops Q (o :: rest) a W := by
  obtain ⟨i0, hi, hzz⟩ := Option.map_eq_some_iff.1 hinfo
  simp only [Prod.mk.injEq] at hzz
  obtain ⟨hz0, hz1, hz2⟩ := hzz
  refine wpList_plain hgd fun K hK => ?_
  obtain ⟨v', w', hr, h2, h3, h4⟩ := run_append_M_str (P := P) W base t u o.type e i0 ht hu hi hz0 hz1 hz2 v xs.length (nums .u8 xs) HO.2 y (by simp only [maxLen]; omega) hl hbase
  unfold Oper.wp execOp
  simp only [ho, resolve, invoke, builtin, Sem.run_bind, Sem.run_pure, Result.andThen_ok, List.map_toArray, List.map_cons, List.map_nil, hs, hx, hr]
  exact hK _ _ (h v' w' (RM_appended HO.1 hfresh (by rw [bytesOf_length, ← strCells_nums]; exact h2) h4) (HB.grown h3 hbase (RM_base HO)) h3)
end
section
variable {w w1 W : World} {e base b : Nat} {ok : Nat → Prop} {v u : Value} {xs ys : List Int}
theorem RM_block {g n cap : Nat} (h : RM e W base ok (.slice (some ⟨g, 0, none⟩) n cap) xs) : ∃ cur fz, base ≤ g ∧ W.heap[g]? = some (.cells cur e fz) ∧ FreeM fz cur.size ∧ xs.length ≤ cap ∧ cap ≤ maxLen ∧ cur.size = cap ∧ cur.toList.take xs.length = nums .u8 xs ∧ n = xs.length := by
  rcases h.2.2 with ⟨h1, h2⟩ | ⟨g', cap', cur, fz, h1, hb, hg, hfz, h3, h4, h5, h6⟩
  · simp at h1
  · injection h1 with q1 q2 q3
    injection q1 with q1
    injection q1 with q1
    subst q1 q3
    exact ⟨cur, fz, hb, hg, hfz, h3, h4, h5, h6, q2⟩
end
end Go.Proofs.YtjfbkgkpjkickaaGreatDoor.PAll
-- YtjfbkgkpjkickaaGreatDoorEa
set_option linter.unusedVariables false
set_option linter.unusedSimpArgs false
namespace Go.Proofs.YtjfbkgkpjkickaaGreatDoor.PAll
open Go.RowKit Go.Proofs.YtjfbkgkpjkickaaGreatDoorW.PrintWords Go.Proofs.YtjfbkgkpjkickaaGreatDoorW.PrintLast Go.Proofs.YtjfbkgkpjkickaaGreatDoorW.PrintMore

/-- a row under way, and a text that stays -/
structure US (w0 w : World) (B o : Nat) (l : List Int) (v : Value) (ys : List Int) : Prop where
  bel : Below w0.heap.size w0 w
  rm : RM 5 w w0.heap.size (fun k => k ≠ B) v ys
  rb : RB w B o l
  hB : B < w.heap.size
section
variable {w0 w w1 W : World} {B o : Nat} {l ys zs : List Int} {v v1 : Value}
theorem US.next (h : US w0 w B o l v ys) (hb : Below w.heap.size w w1) : US w0 w1 B o l v ys :=
  ⟨h.bel.trans (hb.mono h.bel.size), RM_below h.rm hb, h.rb.mono hb, Nat.lt_of_lt_of_le h.hB hb.size⟩
theorem US.drewN (h : US w0 w B o l v ys) (m : Nat) : US w0 (w.drewN m) B o l v ys := h.next (pw_below_drewN (Below.refl _ _) m)
theorem US.env {G : GV} (h : US w0 w B o l v ys) (hE : Env w0 G) : Env w G := hE.mono h.bel
theorem US.grown (h : US w0 W B o l v ys) (hg : W.grownBy w1 v.ownBlock) (hB : Below w0.heap.size w0 w1) (hr : RM 5 w1 w0.heap.size (fun k => k ≠ B) v1 zs) : US w0 w1 B o l v1 zs :=
  ⟨hB, hr, fun j hj => by
    have h1 := h.rb j hj
    have hne : some B ≠ v.ownBlock := fun e => h.rm.1 B e.symm rfl
    simp only [World.cell?] at h1 ⊢
    rw [hg.block B h.hB hne]
    exact h1, Nat.lt_of_lt_of_le h.hB hg.size⟩
end
end Go.Proofs.YtjfbkgkpjkickaaGreatDoor.PAll
-- YtjfbkgkpjkickaaGreatDoorBp
set_option linter.unusedVariables false
set_option linter.unusedSimpArgs false
namespace Go.Proofs.YtjfbkgkpjkickaaGreatDoor.PAll
open Go.RowKit Go.Proofs.YtjfbkgkpjkickaaGreatDoorW.PrintWords Go.Proofs.YtjfbkgkpjkickaaGreatDoorW.PrintLast Go.Proofs.YtjfbkgkpjkickaaGreatDoorW.PrintMore

theorem eq201 (w : World) (v u : Value) : (binOp .eql 47 (.iface 201 v) (.iface 265 u)).run Tryz.prog w = .ok (.bool false) w := by kernel_rfl
end Go.Proofs.YtjfbkgkpjkickaaGreatDoor.PAll
-- YtjfbkgkpjkickaaGreatDoorFa
set_option linter.unusedVariables false
set_option linter.unusedSimpArgs false
namespace Go.Proofs.YtjfbkgkpjkickaaGreatDoor.PAll
open Go.RowKit Go.Proofs.YtjfbkgkpjkickaaGreatDoorW.PrintWords Go.Proofs.YtjfbkgkpjkickaaGreatDoorW.PrintLast Go.Proofs.YtjfbkgkpjkickaaGreatDoorW.PrintMore

theorem ta265_201b (v : Value) (w : World) : (Instr.typeAssert (.iface 265 v) 47 201 true).run Tryz.prog w = .ok (.tuple #[.pointer none, .bool false]) w := by kernel_rfl
theorem ta201_201 (v : Value) (w : World) : (Instr.typeAssert (.iface 201 v) 47 201 true).run Tryz.prog w = .ok (.tuple #[v, .bool true]) w := by kernel_rfl
set_option maxRecDepth 100000 in
theorem f191 (w : World) : Calls Tryz.prog 191 #[.int .i64 0] w fun e w' => e = .returned (.string ⟨#[48]⟩) ∧ w = w' := by
  go_enter Tryz.func191, Tryz.ntmps191
  go_wp2_with (fail)
  go_returns
  exact ⟨rfl, rfl⟩
section
variable {w0 w : World} {ok : Nat → Prop} {v : Value} {bs : List Int}
def AddZ (w0 w : World) (ok : Nat → Prop) (v : Value) (bs : List Int) (e : Ending) (w' : World) : Prop := ∃ v', e = .returned v' ∧ RM 5 w' w0.heap.size ok v' (bs ++ [48]) ∧ Below w0.heap.size w0 w' ∧ w.grownBy w' v.ownBlock
set_option maxRecDepth 100000 in
set_option maxHeartbeats 4000000 in
theorem f189 (HR : RM 5 w w0.heap.size ok v bs) (HB : Below w0.heap.size w0 w) (hfresh : ∀ k, w.heap.size ≤ k → ok k) (hl : bs.length ≤ 100000) :
    Calls Tryz.prog 189 #[v, .int .u64 0, .int .i64 10] w (AddZ w0 w ok v bs) := by
  have H1 := Lib.hid HR
  have H2 := Lib.hid HB
  have H3 := Lib.hid hfresh
  clear HR HB hfresh
  have u9 := Tryz.underlying9
  go_enter Tryz.func189, Tryz.ntmps189
  go_wp2_with (fail)
  refine (f191 _).mono ?_
  rintro e w1 ⟨rfl, rfl⟩
  go_wp2_with ((with_reducible refine gate_builtin (b := .append) (xs := #[.tmp 13, .tmp 16]) rfl ?_); at_builtin; refine RM_append_str (w0 := w0) w0.heap.size rfl (.tmp 13) (.tmp 16) 22 9 5 rfl Tryz.underlying22 Tryz.underlying9 info5 v bs ⟨#[48]⟩ ok rfl rfl H3.out H1.out H2.out H2.out.size (show bs.length + 1 ≤ _ by omega) ?_; intro v1 w1 hr hb hg; have K1 := Lib.hid hr; have K2 := Lib.hid hb; have K3 := Lib.hid hg; clear hr hb hg)
  go_returns
  exact ⟨_, rfl, K1.out, K2.out, K3.out⟩
set_option maxRecDepth 100000 in
theorem f185 (HR : RM 5 w w0.heap.size ok v bs) (HB : Below w0.heap.size w0 w) (hfresh : ∀ k, w.heap.size ≤ k → ok k) (hl : bs.length ≤ 100000) :
    Calls Tryz.prog 185 #[v, .int .u64 0, .int .i64 10] w (AddZ w0 w ok v bs) := by
  have C := Lib.hid (f189 HR HB hfresh hl)
  clear HR HB hfresh
  go_enter Tryz.func185, Tryz.ntmps185
  go_wp2_with (fail)
  refine C.out.mono ?_
  rintro e w1 ⟨v', rfl, h⟩
  have H := Lib.hid h
  clear h
  go_wp2_with (fail)
  go_returns
  exact ⟨_, rfl, H.out⟩
end
/-- the way to a place: so many first elements -/
def sufs : Nat → List Int
  | 0 => []
  | k + 1 => sufs k ++ [47, 48]
theorem sufs_len : ∀ k, (sufs k).length = 2 * k
  | 0 => rfl
  | k + 1 => by
    have := sufs_len k
    simp only [sufs, List.length_append, List.length_cons, List.length_nil]
    omega
/-- an error that bears the way to its place -/
structure EPat (w0 w : World) (G : GV) (P : Nat) (v : Value) (bs : List Int) : Prop where
  bel : Below w0.heap.size w0 w
  obj : w.heap[P]? = some (.cells #[.iface 265 (.pointer (some G.ueof)), v] 205 (0, 0))
  rm : RM 5 w w0.heap.size (fun k => k ≠ P) v bs
  hP : w0.heap.size ≤ P
theorem EPat.lt {w0 w : World} {G : GV} {P : Nat} {v : Value} {bs : List Int} (h : EPat w0 w G P v bs) : P < w.heap.size := (Array.getElem?_eq_some_iff.1 h.obj).1
def Wrapped (w0 : World) (G : GV) (k : Nat) (x : Value) (w : World) : Prop := ∃ P v, x = .iface 201 (.pointer (some ⟨P, 0, none⟩)) ∧ EPat w0 w G P v (sufs k)
theorem EPat.grown {w0 w w1 : World} {G : GV} {P : Nat} {v v1 : Value} {bs cs : List Int} (h : EPat w0 w G P v bs) (hg : w.grownBy w1 v.ownBlock) : w1.heap[P]? = some (.cells #[.iface 265 (.pointer (some G.ueof)), v] 205 (0, 0)) := by
  rw [hg.block P h.lt (fun e => h.rm.1 P e.symm rfl)]
  exact h.obj
set_option maxRecDepth 100000 in
set_option maxHeartbeats 4000000 in
theorem f178b (w0 w : World) (G : GV) (k : Nat) (x : Value) (hk : k ≤ 1000) (hx : Wrapped w0 G k x w) :
    Calls Tryz.prog 178 #[x, .int .i64 0] w fun e w' => ∃ x', e = .returned x' ∧ Wrapped w0 G (k + 1) x' w' ∧ Below w0.heap.size w0 w' := by
  obtain ⟨P, v, rfl, h⟩ := hx
  have ta := ta201_201 (.pointer (some ⟨P, 0, none⟩))
  have hlen : (sufs k).length = 2 * k := sufs_len k
  have c1 : w.cell? ⟨P, 1, none⟩ = some v := by simp [World.cell?, h.obj]
  have HP := Lib.hid h
  obtain ⟨bs, hbs⟩ : ∃ bs, sufs k = bs := ⟨_, rfl⟩
  rw [hbs] at hlen HP
  have HS := Lib.hid hbs
  clear h hbs
  go_enter Tryz.func178, Tryz.ntmps178
  go_wp2_with ((with_reducible refine gate_builtin (b := .append) (xs := #[.tmp 21, .tmp 22]) rfl ?_); at_builtin; refine RM_append (w0 := w0) w0.heap.size rfl (.tmp 21) (.tmp 22) 22 5 (.int .u8 0) 1 rfl Tryz.underlying22 info5 rfl (by decide) v bs 47 [.int .u8 47] (fun k => k ≠ P) (fun _ => False) rfl rfl rfl (fun _ hk => hk.elim) (fun k hk => by have := HP.out.lt; omega) HP.out.rm HP.out.bel HP.out.bel.size (by omega) ?_; intro v1 w1 hr hb hg ha; have K1 := Lib.hid hr; have K2 := Lib.hid hb; have K3 := Lib.hid (HP.out.grown (v1 := v1) (cs := bs) hg); have K4 := Lib.hid hg.size; clear hr hb hg ha)
  refine (f185 (w0 := w0) K1.out K2.out (fun k hk => by have := HP.out.lt; have := K4.out; omega) (by rw [List.length_append]; simp; omega)).mono ?_
  rintro e w2 ⟨v2, rfl, hr, hb, hg⟩
  obtain ⟨A2, n2, cc2, rfl⟩ : ∃ A n c, v2 = .slice A n c := by obtain ⟨A, c, h⟩ := RM_slice hr; exact ⟨A, _, c, h⟩
  have hP2 : w2.heap[P]? = some (.cells #[.iface 265 (.pointer (some G.ueof)), v] 205 (0, 0)) := by
    rw [hg.block P (Array.getElem?_eq_some_iff.1 K3.out).1 (fun e => K1.out.1 P e.symm rfl)]
    exact K3.out
  have c2 : w2.cell? ⟨P, 1, none⟩ = some v := by simp [World.cell?, hP2]
  have z2 : w2.frozen? ⟨P, 1, none⟩ = false := by simp [World.frozen?, hP2]
  have L1 := Lib.hid hr
  have L2 := Lib.hid hb
  have L3 := Lib.hid hP2
  clear hr hb hg hP2 c1
  go_wp2_with (fail)
  go_returns
  have hset : ∀ v2, (w2.setCell ⟨P, 1, none⟩ v2).heap[P]? = some (.cells #[.iface 265 (.pointer (some G.ueof)), v2] 205 (0, 0)) := fun v2 => by
    rw [setCell_eq_setRow w2 P 1 _ 205 (0, 0) _ L3.out]
    exact setRow_heap w2 P _ _ 205 (0, 0) L3.out
  refine ⟨_, rfl, ⟨P, _, rfl, ⟨L2.out.setCell HP.out.hP _, hset _, ?_, HP.out.hP⟩⟩, L2.out.setCell HP.out.hP _⟩
  have e1 : sufs (k + 1) = bs ++ [47] ++ [48] := by rw [← HS.out]; simp [sufs]
  rw [e1]
  exact RM_step L1.out (fun k hk _ => by
    rw [setCell_eq_setRow w2 P 1 _ 205 (0, 0) _ L3.out]
    exact setRow_other w2 P k _ hk)
set_option maxRecDepth 100000 in
set_option maxHeartbeats 4000000 in
theorem f178a (w0 w : World) (G : GV) (hB : Below w0.heap.size w0 w) :
    Calls Tryz.prog 178 #[.iface 265 (.pointer (some G.ueof)), .int .i64 0] w fun e w' => ∃ x', e = .returned x' ∧ Wrapped w0 G 1 x' w' ∧ Below w0.heap.size w0 w' := by
  have ta := ta265_201b (.pointer (some G.ueof))
  have hobj : (w.alloc (.cells #[.iface 265 (.pointer (some G.ueof)), .slice none 0 0] 205)).heap[w.heap.size]? = some (.cells #[.iface 265 (.pointer (some G.ueof)), .slice none 0 0] 205 (0, 0)) := heap_alloc_new w _
  have HP := Lib.hid (show EPat w0 (w.alloc (.cells #[.iface 265 (.pointer (some G.ueof)), .slice none 0 0] 205)) G w.heap.size (.slice none 0 0) [] from ⟨hB.alloc hB.size _, hobj, ⟨fun k hk => by simp [Value.ownBlock] at hk, rfl, .inl ⟨rfl, rfl⟩⟩, hB.size⟩)
  have c1 : (w.alloc (.cells #[.iface 265 (.pointer (some G.ueof)), .slice none 0 0] 205)).cell? ⟨w.heap.size, 1, none⟩ = some (.slice none 0 0) := (cell_of_row _ w.heap.size 1 _ 205 _ hobj).trans rfl
  clear hobj hB
  go_enter Tryz.func178, Tryz.ntmps178
  go_upto_region 4 with (fail)
  generalize w.alloc (.cells #[.iface 265 (.pointer (some G.ueof)), .slice none 0 0] 205) = wp at *
  obtain ⟨v0, hv0⟩ : ∃ v0, Value.slice none 0 0 = v0 := ⟨_, rfl⟩
  rw [hv0] at c1 HP
  clear hv0
  go_wp2_with ((with_reducible refine gate_builtin (b := .append) (xs := #[.tmp 21, .tmp 22]) rfl ?_); at_builtin; refine RM_append (w0 := w0) w0.heap.size rfl (.tmp 21) (.tmp 22) 22 5 (.int .u8 0) 1 rfl Tryz.underlying22 info5 rfl (by decide) v0 [] 47 [.int .u8 47] (fun k => k ≠ w.heap.size) (fun _ => False) rfl rfl rfl (fun _ hk => hk.elim) (fun k hk => by have := HP.out.lt; omega) HP.out.rm HP.out.bel HP.out.bel.size (by simp) ?_; intro v1 w1 hr hb hg ha; have K1 := Lib.hid hr; have K2 := Lib.hid hb; have K3 := Lib.hid (HP.out.grown (v1 := v1) (cs := []) hg); have K4 := Lib.hid hg.size; clear hr hb hg ha)
  refine (f185 (w0 := w0) K1.out K2.out (fun k hk => by have := HP.out.lt; have := K4.out; omega) (by simp)).mono ?_
  rintro e w2 ⟨v2, rfl, hr, hb, hg⟩
  obtain ⟨A2, n2, cc2, rfl⟩ : ∃ A n c, v2 = .slice A n c := by obtain ⟨A, c, h⟩ := RM_slice hr; exact ⟨A, _, c, h⟩
  have hP2 : w2.heap[w.heap.size]? = some (.cells #[.iface 265 (.pointer (some G.ueof)), v0] 205 (0, 0)) := by
    rw [hg.block w.heap.size (Array.getElem?_eq_some_iff.1 K3.out).1 (fun e => K1.out.1 w.heap.size e.symm rfl)]
    exact K3.out
  have c2 : w2.cell? ⟨w.heap.size, 1, none⟩ = some v0 := by simp [World.cell?, hP2]
  have z2 : w2.frozen? ⟨w.heap.size, 1, none⟩ = false := by simp [World.frozen?, hP2]
  have L1 := Lib.hid hr
  have L2 := Lib.hid hb
  have L3 := Lib.hid hP2
  clear hr hb hg hP2 c1
  go_wp2_with (fail)
  go_returns
  have hset : ∀ v2, (w2.setCell ⟨w.heap.size, 1, none⟩ v2).heap[w.heap.size]? = some (.cells #[.iface 265 (.pointer (some G.ueof)), v2] 205 (0, 0)) := fun v2 => by
    rw [setCell_eq_setRow w2 w.heap.size 1 _ 205 (0, 0) _ L3.out]
    exact setRow_heap w2 w.heap.size _ _ 205 (0, 0) L3.out
  refine ⟨_, rfl, ⟨w.heap.size, _, rfl, ⟨L2.out.setCell HP.out.hP _, hset _, ?_, HP.out.hP⟩⟩, L2.out.setCell HP.out.hP _⟩
  exact RM_step L1.out (fun k hk _ => by
    rw [setCell_eq_setRow w2 w.heap.size 1 _ 205 (0, 0) _ L3.out]
    exact setRow_other w2 w.heap.size k _ hk)
end Go.Proofs.YtjfbkgkpjkickaaGreatDoor.PAll
-- YtjfbkgkpjkickaaGreatDoorPAllx38
namespace Go.Proofs.YtjfbkgkpjkickaaGreatDoor.PAll
open Go.RowKit Go.Proofs.YtjfbkgkpjkickaaGreatDoorW.PrintWords Go.Proofs.YtjfbkgkpjkickaaGreatDoorW.PrintLast Go.Proofs.YtjfbkgkpjkickaaGreatDoorW.PrintMore
attribute [local go_sem] max2_int min2_int max_two min_two max_three min_three max_four min_four   -- for this text's walks alone
set_option linter.unusedVariables false
set_option linter.unusedSimpArgs false

def bytealg_LastIndexByte.l0 : Nat → List Int → Int → Int → Option (Int)
  | 0, _, _, _ => none
  | k + 1, x0, x1, x5 => if x5 ≥ 0 then (if 0 ≤ x5 then (if x5 < (x0.length : Int) then (if (rd x0 x5) = x1 then (some x5) else (bytealg_LastIndexByte.l0 k x0 x1 (wrap64 (x5 - 1)))) else (none)) else (none)) else (some (-1))
def bytealg_LastIndexByte.f (k : Nat) (l0 : List Int) (a1 : Int) : Option (Int) := bytealg_LastIndexByte.l0 k l0 a1 (wrap64 ((l0.length : Int) - 1))
set_option maxHeartbeats 8000000 in
set_option maxRecDepth 100000 in
theorem bytealg_LastIndexByte.calls (k : Nat) (A0 : Option Addr) (c0 : Nat) (l0 : List Int) (a1 : Int) (r : Int) (w : World) (hr0 : Kd.C (Kd.int .u8) w A0 l0.length l0) (hc0 : l0.length ≤ c0) (h : bytealg_LastIndexByte.f k l0 a1 = some r) :
    Calls Tryz.prog 183 #[.slice A0 l0.length c0, .int .u8 a1] w fun e w' => e = .returned (.int .i64 r) ∧ Drawn0 w w' := by
  have HR0 := Aside0.mk hr0
  have HC0 := Aside0.mk hc0
  clear hr0 hc0
  have H : (bytealg_LastIndexByte.l0 k l0 a1 (wrap64 ((l0.length : Int) - 1))) = some r := h
  clear h
  have H' := Aside0.mk H
  clear H
  go_enter Tryz.func183, Tryz.ntmps183
  go_wp2
  go_loopg [5] k (fun kq v5 w' => ∃ (x5_1 : Int), v5 = .int .i64 x5_1 ∧ Aside0 (bytealg_LastIndexByte.l0 kq l0 a1 x5_1 = some r) ∧ Aside0 (kq ≤ k) ∧ Drawn0 w w')
  case atStart => exact ⟨(wrap64 ((l0.length : Int) - 1)), (by first | rfl | (simp; done) | (simp [*]; done)), H', ⟨Nat.le_refl _⟩, by repeat (first | exact Drawn0.refl _ | apply Drawn0.step)⟩
  case round =>
    clear H'
    try clear c1
    try clear p2
    obtain ⟨x5_1, rfl, HA, HK1, ⟨m1, rfl⟩⟩ := hrel
    cases gk with
    | zero => exact absurd HA.out (by simp [bytealg_LastIndexByte.l0])
    | succ k1 =>
      have H := HA.out
      clear HA
      simp only [bytealg_LastIndexByte.l0] at H
      by_cases c3 : x5_1 ≥ 0
      · rw [if_pos c3] at H
        have c3b0 : decide (0 ≤ x5_1) = true := decide_eq_true c3
        clear c3
        by_cases c4 : 0 ≤ x5_1
        · rw [if_pos c4] at H
          have c4b0 : decide (0 ≤ x5_1) = true := decide_eq_true c4
          clear c4
          by_cases c5 : x5_1 < (l0.length : Int)
          · rw [if_pos c5] at H
            have c5b0 : decide (x5_1 < (l0.length : Int)) = true := decide_eq_true c5
            clear c5
            by_cases c6 : (rd l0 x5_1) = a1
            · rw [if_pos c6] at H
              have c6b0 : ((rd l0 x5_1) == a1) = true := beq_iff_eq.mpr c6
              have c6b1 : ((rd l0 x5_1) != a1) = false := bne_eq_false_iff_eq.mpr c6
              clear c6
              obtain rfl := Option.some.inj H
              have p159 : 0 ≤ (x5_1 : Int) := of_decide_eq_true (by first | (with_reducible assumption) | assumption)
              have q159 : x5_1 < (l0.length : Int) := of_decide_eq_true (by first | (with_reducible assumption) | assumption)
              obtain ⟨ad159, e159, hx159_0⟩ := Kd.at_int HR0.out x5_1 p159 q159
              cases e159
              replace p159 := eq_true p159
              replace q159 := eq_true q159
              go_wp2
              go_ret
              exact ⟨by first | rfl | (simp; done) | (simp [*]; done), by repeat (first | exact Drawn0.refl _ | apply Drawn0.step)⟩
            · rw [if_neg c6] at H
              have c6b0 : ((rd l0 x5_1) == a1) = false := beq_eq_false_iff_ne.mpr c6
              have c6b1 : ((rd l0 x5_1) != a1) = true := bne_iff_ne.mpr c6
              have H' := Aside0.mk H
              clear H
              have p159 : 0 ≤ (x5_1 : Int) := of_decide_eq_true (by first | (with_reducible assumption) | assumption)
              have q159 : x5_1 < (l0.length : Int) := of_decide_eq_true (by first | (with_reducible assumption) | assumption)
              obtain ⟨ad159, e159, hx159_0⟩ := Kd.at_int HR0.out x5_1 p159 q159
              cases e159
              replace p159 := eq_true p159
              replace q159 := eq_true q159
              go_wp2
              go_roundg k1
              case measure => have := HK1.out; omega
              case rel => exact ⟨(wrap64 (x5_1 - 1)), (by first | rfl | (simp; done) | (simp [*]; done)), H', ⟨by have := HK1.out; omega⟩, by repeat (first | exact Drawn0.refl _ | apply Drawn0.step)⟩
          · rw [if_neg c5] at H
            exact absurd H (by simp)
        · rw [if_neg c4] at H
          exact absurd H (by simp)
      · rw [if_neg c3] at H
        have c3b0 : decide (0 ≤ x5_1) = false := decide_eq_false c3
        clear c3
        obtain rfl := Option.some.inj H
        go_wp2
        go_ret
        exact ⟨by first | rfl | (simp; done) | (simp [*]; done), by repeat (first | exact Drawn0.refl _ | apply Drawn0.step)⟩

end Go.Proofs.YtjfbkgkpjkickaaGreatDoor.PAll
-- YtjfbkgkpjkickaaGreatDoorPAllx39
namespace Go.Proofs.YtjfbkgkpjkickaaGreatDoor.PAll
open Go.RowKit Go.Proofs.YtjfbkgkpjkickaaGreatDoorW.PrintWords Go.Proofs.YtjfbkgkpjkickaaGreatDoorW.PrintLast Go.Proofs.YtjfbkgkpjkickaaGreatDoorW.PrintMore
attribute [local go_sem] max2_int min2_int max_two min_two max_three min_three max_four min_four   -- for this text's walks alone
set_option linter.unusedVariables false
set_option linter.unusedSimpArgs false

def bytes_LastIndexByte.f (k : Nat) (l0 : List Int) (a1 : Int) : Option (Int) := (bytealg_LastIndexByte.f k l0 a1).bind fun t160 => (some t160)
set_option maxHeartbeats 8000000 in
set_option maxRecDepth 100000 in
theorem bytes_LastIndexByte.calls (k : Nat) (A0 : Option Addr) (c0 : Nat) (l0 : List Int) (a1 : Int) (r : Int) (w : World) (hr0 : Kd.C (Kd.int .u8) w A0 l0.length l0) (hc0 : l0.length ≤ c0) (h : bytes_LastIndexByte.f k l0 a1 = some r) :
    Calls Tryz.prog 175 #[.slice A0 l0.length c0, .int .u8 a1] w fun e w' => e = .returned (.int .i64 r) ∧ Drawn0 w w' := by
  have HR0 := Aside0.mk hr0
  have HC0 := Aside0.mk hc0
  clear hr0 hc0
  have H : ((bytealg_LastIndexByte.f k l0 a1).bind fun t160 => (some t160)) = some r := h
  clear h
  replace H := Option.bind_eq_some_iff.mp H
  obtain ⟨t160, A30, H⟩ := H
  replace H : (some t160) = some r := H
  have A3 := Aside0.mk A30
  clear A30
  obtain rfl := Option.some.inj H
  go_enter Tryz.func175, Tryz.ntmps175
  go_wp2_with (first | ((with_reducible refine gate_callee (f := 183) rfl ?_); refine goesL_ (some 7) rfl rfl Tryz.func183 (by kernel_rfl) rfl #[.slice A0 l0.length c0, .int .u8 a1] rfl (by (try simp only [List.map_toArray, List.map_cons, List.map_nil]); first | done | rfl | (simp only [List.length_drop, List.length_take]; rfl)) ?_; (with_reducible refine (bytealg_LastIndexByte.calls k _ _ l0 a1 t160 _ ?side1 ?side2 A3.out).mono ?_); (case side1 => repeat (first | exact HR0.out | (with_reducible refine Kd.C_alloc ?_ _) | (with_reducible refine Kd.C_drewN ?_ _) | (with_reducible refine Kd.C_drew ?_))); (case side2 => exact HC0.out); rintro e w' ⟨rfl, ⟨nd, rfl⟩⟩; refine ⟨_, rfl, ?_⟩))
  go_ret
  exact ⟨by first | rfl | (simp; done) | (simp [*]; done), by repeat (first | exact Drawn0.refl _ | apply Drawn0.step)⟩

end Go.Proofs.YtjfbkgkpjkickaaGreatDoor.PAll
-- YtjfbkgkpjkickaaGreatDoorFb
set_option linter.unusedVariables false
set_option linter.unusedSimpArgs false
namespace Go.Proofs.YtjfbkgkpjkickaaGreatDoor.PAll
open Go.RowKit Go.Proofs.YtjfbkgkpjkickaaGreatDoorW.PrintWords Go.Proofs.YtjfbkgkpjkickaaGreatDoorW.PrintLast Go.Proofs.YtjfbkgkpjkickaaGreatDoorW.PrintMore

theorem rd_app_left (l m : List Int) (j : Nat) (h : j < l.length) : rd (l ++ m) (j : Int) = rd l (j : Int) := by
  rw [rd_getD, rd_getD, List.getD_eq_getElem?_getD, List.getD_eq_getElem?_getD, List.getElem?_append_left h]
theorem rd_app_right (l m : List Int) (j : Nat) : rd (l ++ m) ((l.length + j : Nat) : Int) = rd m (j : Int) := by
  rw [rd_getD, rd_getD, List.getD_eq_getElem?_getD, List.getD_eq_getElem?_getD, List.getElem?_append_right (by omega), Nat.add_sub_cancel_left]
theorem sufs_rd (m : Nat) : ∀ d j : Nat, j < 2 * m → rd (sufs (m + d)) (j : Int) = rd (sufs m) (j : Int)
  | 0, _, _ => rfl
  | d + 1, j, h => by
    have e : sufs (m + (d + 1)) = sufs (m + d) ++ [47, 48] := rfl
    rw [e, rd_app_left _ _ _ (by rw [sufs_len]; omega)]
    exact sufs_rd m d j h
theorem RB.sufs {w : World} {g k m : Nat} (h : RB w g 0 (sufs k)) (hm : m ≤ k) : RB w g 0 (PAll.sufs m) := fun j hj => by
  rw [sufs_len] at hj
  rw [h j (by rw [sufs_len]; omega)]
  obtain ⟨d, rfl⟩ : ∃ d, k = m + d := ⟨k - m, by omega⟩
  rw [sufs_rd m d j hj]
theorem last47 (m : Nat) (hm : m ≤ 1000) : bytes_LastIndexByte.f 5 (sufs (m + 1)) 47 = some ((2 * m : Nat) : Int) := by
  have hl : (sufs m).length = 2 * m := sufs_len m
  have e : sufs (m + 1) = sufs m ++ [47, 48] := rfl
  have hl2 : (sufs (m + 1)).length = 2 * m + 2 := by rw [sufs_len]; omega
  have r1 : rd (sufs (m + 1)) ((2 * m + 1 : Nat) : Int) = 48 := by rw [e, ← hl, rd_app_right]; rfl
  have r0 : rd (sufs (m + 1)) ((2 * m : Nat) : Int) = 47 := by
    have := rd_app_right (sufs m) [47, 48] 0
    rw [Nat.add_zero, hl] at this
    rw [e, this]; rfl
  unfold bytes_LastIndexByte.f bytealg_LastIndexByte.f
  rw [hl2, show wrap64 (((2 * m + 2 : Nat) : Int) - 1) = ((2 * m + 1 : Nat) : Int) by unfold wrap64; omega]
  rw [bytealg_LastIndexByte.l0, if_pos (by omega), if_pos (by omega), if_pos (by rw [hl2]; omega), r1, if_neg (by decide)]
  rw [show wrap64 (((2 * m + 1 : Nat) : Int) - 1) = ((2 * m : Nat) : Int) by unfold wrap64; omega]
  rw [bytealg_LastIndexByte.l0, if_pos (by omega), if_pos (by omega), if_pos (by rw [hl2]; omega), r0, if_pos rfl]
  rfl
theorem op_append_rows {P : Program} {o : Oper} {a : Act} {K : Act → World → Prop} {Q : Exit → Act → World → Prop} {w0 W : World} (base : Nat) (s x : Operand) (t e : TypeId) (z : Value) (bytes : Nat)
    (ho : o.op = .call { callee := .builtin .append, args := #[s, x], argTypes := #[t, t] })
    (ht : P.underlying t = some (.slice e)) (hinfo : (P.info? e).map (fun i => (i.zero, i.size, i.bytes)) = some (some z, 1, bytes)) (hz : z.cells.size = 1) (hb0 : 0 < bytes)
    (v : Value) (xs ys : List Int) (ad : Addr) (m c : Nat) (ok : Nat → Prop) (hs : a.eval s = v) (hx : a.eval x = .slice (some ad) m c)
    (HO : RM e W base ok v xs) (HR : ys.length = m ∧ ∀ j, j < m → W.cell? (ad.add j) = some (.int .u8 (rd ys (j : Int)))) (hfresh : ∀ k, W.heap.size ≤ k → ok k)
    (HB : Below base w0 W) (hbase : base ≤ W.heap.size) (hl : (xs.length + m) * bytes ≤ 140737488355328)
    (h : ∀ v1 w1, RM e w1 base ok v1 (xs ++ ys) → Below base w0 w1 → W.grownBy w1 v.ownBlock → K (a.put o.dst v1) w1) :
    Oper.wp P o a W K Q := by
  obtain ⟨i0, hi, hzz⟩ := Option.map_eq_some_iff.1 hinfo
  simp only [Prod.mk.injEq] at hzz
  obtain ⟨hz0, hz1, hz2⟩ := hzz
  have hlen : xs.length + m ≤ 140737488355328 := Nat.le_trans (Nat.le_mul_of_pos_right _ hb0) hl
  obtain ⟨v', w', hr, h2, h3, h5⟩ := run_append_M (P := P) W base t o.type e i0 z bytes ht hi hz0 hz1 hz2 hz v xs.length (nums .u8 xs) HO.2 ad m c (nums .u8 ys) (by rw [nums_length]; exact HR.1) (fun j u hu => by
    have hj : j < ys.length := by
      have := (List.getElem?_eq_some_iff.1 hu).1
      rw [nums_length] at this; exact this
    rw [HR.2 j (by rw [← HR.1]; exact hj)]
    rw [nums_get ys j hj] at hu
    rw [rd_getD]
    exact hu) (by simp [nums, Value.oneCell']) (by simp only [maxLen]; omega) hl hbase
  have hat' : v'.ownBlock = v.ownBlock ∨ ∃ b, v'.ownBlock = some b ∧ W.heap.size ≤ b := by
    rcases h5 with h5 | h5
    · exact .inl h5
    · exact .inr ⟨_, h5, Nat.le_refl _⟩
  unfold Oper.wp execOp
  simp only [ho, resolve, invoke, builtin, Sem.run_bind, Sem.run_pure, Result.andThen_ok, List.map_toArray, List.map_cons, List.map_nil, hs, hx, hr]
  exact h _ _ (RM_appended HO.1 hfresh (by rw [HR.1]; exact h2) hat') (HB.grown h3 hbase (RM_base HO)) h3
set_option maxRecDepth 100000 in
set_option maxHeartbeats 8000000 in
theorem f148 (P g c k : Nat) (x : Value) (w : World) (hk : k ≤ 1000) (hP : w.heap[P]? = some (.cells #[x, .slice (some ⟨g, 0, none⟩) (2 * k) c] 205 (0, 0))) (hr : RB w g 0 (sufs k)) (hc : 2 * k ≤ c) (hc2 : c ≤ 9223372036854775807) :
    Calls Tryz.prog 148 #[.pointer (some ⟨P, 0, none⟩), .slice none 0 0] w fun e w' => ∃ v' ys, e = .returned v' ∧ RM 5 w' w.heap.size (fun _ => True) v' ys ∧ Below w.heap.size w w' := by
  obtain ⟨n0, hn0⟩ : ∃ n, 2 * k = n := ⟨_, rfl⟩
  rw [hn0] at hP hc
  have c1 : w.cell? ⟨P, 1, none⟩ = some (.slice (some ⟨g, 0, none⟩) n0 c) := by simp [World.cell?, hP]
  have HR := Lib.hid hr
  have HN0 := Lib.hid hn0
  obtain ⟨v0, hv0⟩ : ∃ v0, Value.slice none 0 0 = v0 := ⟨_, rfl⟩
  have H0 := Lib.hid (show RM 5 w w.heap.size (fun _ => True) v0 [] from ⟨fun _ _ => trivial, hv0 ▸ ⟨rfl, .inl ⟨rfl, rfl⟩⟩⟩)
  clear hr hP hn0
  rw [hv0]
  clear hv0
  go_enter Tryz.func148, Tryz.ntmps148
  go_wp2_with (fail)
  go_loopg [5, 6] k (fun kq s5 s6 w' => ∃ (m n : Nat) (ys : List Int), s5 = .slice (some ⟨g, 0, none⟩) n c ∧ n ≤ c ∧ m ≤ k ∧ m ≤ kq ∧ Hid (n = 2 * m) ∧ Hid (RM 5 w' w.heap.size (fun _ => True) s6 ys) ∧ Hid (Below w.heap.size w w') ∧ Hid (ys.length + n = 2 * k))
  case atStart => exact ⟨k, n0, [], rfl, hc, Nat.le_refl _, Nat.le_refl _, Lib.hid HN0.out.symm, H0, Lib.hid (Below.refl _ _), Lib.hid (by simpa using HN0.out.symm)⟩
  case round =>
    obtain ⟨m, n, ys, rfl, hnc, hmk, hkq, HN, HR6, HB, HY⟩ := hrel
    by_cases h0 : n = 0
    · have e1 : decide ((0 : Int) < (n : Int)) = false := decide_eq_false (by omega)
      have e2 : decide (0 < n) = false := decide_eq_false (by omega)
      go_wp2_with (fail)
      go_returns
      exact ⟨_, ys, rfl, HR6.out, HB.out⟩
    · have e1 : decide ((0 : Int) < (n : Int)) = true := decide_eq_true (by omega)
      have e2 : decide (0 < n) = true := decide_eq_true (by omega)
      obtain ⟨m', hm'⟩ : ∃ m', m = m' + 1 := ⟨m - 1, by have := HN.out; omega⟩
      subst hm'
      obtain ⟨i, hi⟩ : ∃ i, 2 * m' = i := ⟨_, rfl⟩
      have hin : i + 2 = n := by have := HN.out; omega
      have HRM := Lib.hid ((HR.out.mono HB.out).sufs hmk)
      have hl : (sufs (m' + 1)).length = n := by rw [sufs_len]; omega
      have C175 := bytes_LastIndexByte.calls 5 (some ⟨g, 0, none⟩) c (sufs (m' + 1)) 47 (i : Int) wr (HRM.out.C (by omega)) (by omega) (by rw [← hi]; exact last47 m' (by omega))
      rw [hl] at C175
      have H175 := Lib.hid C175
      have HI := Lib.hid hi
      have hni : n - i = 2 := by omega
      have hic : i ≤ c := by omega
      have hin' : i ≤ n := by omega
      have hci : ¬ c = i := by omega
      have hic2 : (i : Int) ≤ (c : Int) := by omega
      have hin2 : (i : Int) ≤ (n : Int) := by omega
      clear C175 hi hl
      go_wp2_with (fail)
      refine H175.out.mono ?_
      rintro e w1 ⟨rfl, mm, rfl⟩
      go_wp2_with (fail)
      refine wp_region_held_drew (S := fun _ => True) (by kernel_rfl) True.intro (fun hHeld => ?_)
      refine wpAnyH_take (i := 0) (oi := _) (v := ?v0) rfl (by kernel_rfl) (by kernel_rfl) (by kernel_rfl) (fun _ _ _ h => h) (Or.inl ⟨by rfl, ?hy0⟩) True.intro ?rest0
      case hy0 => intro w hSw; go_simp <;> with_reducible rfl
      try simp only [Act.put, List.setIfInBounds_toArray, List.set_cons_zero, List.set_cons_succ, List.getElem_toArray, List.getElem_cons_succ, List.getElem_cons_zero]
      refine wpAnyH_take (i := 1) (oi := _) (v := ?v1) rfl (by kernel_rfl) (by kernel_rfl) (by kernel_rfl) (fun _ _ _ h => h) (Or.inl ⟨by rfl, ?hy1⟩) True.intro ?rest1
      case hy1 => intro w hSw; go_simp <;> with_reducible rfl
      try simp only [Act.put, List.setIfInBounds_toArray, List.set_cons_zero, List.set_cons_succ, List.getElem_toArray, List.getElem_cons_succ, List.getElem_cons_zero]
      refine wpAnyH_take (i := 2) (oi := _) (v := ?v2) rfl (by kernel_rfl) (by kernel_rfl) (by kernel_rfl) (fun _ _ _ h => h) (Or.inl ⟨by rfl, ?hy2⟩) True.intro ?rest2
      case hy2 => intro w hSw; go_simp <;> with_reducible rfl
      try simp only [Act.put, List.setIfInBounds_toArray, List.set_cons_zero, List.set_cons_succ, List.getElem_toArray, List.getElem_cons_succ, List.getElem_cons_zero]
      refine wpAnyH_take (i := 3) (oi := _) (v := ?v3) rfl (by kernel_rfl) (by kernel_rfl) (by kernel_rfl) (fun _ _ _ h => h) (Or.inl ⟨by rfl, ?hy3⟩) True.intro ?rest3
      case hy3 => intro w hSw; go_simp <;> with_reducible rfl
      try simp only [Act.put, List.setIfInBounds_toArray, List.set_cons_zero, List.set_cons_succ, List.getElem_toArray, List.getElem_cons_succ, List.getElem_cons_zero]
      refine wpAnyH_take (i := 4) (oi := _) (v := ?v4) rfl (by kernel_rfl) (by kernel_rfl) (by kernel_rfl) (fun _ _ _ h => h) (Or.inl ⟨by rfl, ?hy4⟩) True.intro ?rest4
      case hy4 => intro w hSw; go_simp <;> with_reducible rfl
      try simp only [Act.put, List.setIfInBounds_toArray, List.set_cons_zero, List.set_cons_succ, List.getElem_toArray, List.getElem_cons_succ, List.getElem_cons_zero]
      refine wpAnyH_take (i := 5) (oi := _) (v := ?v5) rfl (by kernel_rfl) (by kernel_rfl) (by kernel_rfl) (fun _ _ _ h => h) (Or.inl ⟨by rfl, ?hy5⟩) True.intro ?rest5
      case hy5 => intro w hSw; go_simp <;> with_reducible rfl
      try simp only [Act.put, List.setIfInBounds_toArray, List.set_cons_zero, List.set_cons_succ, List.getElem_toArray, List.getElem_cons_succ, List.getElem_cons_zero]
      refine wpAnyH_take (i := 6) (oi := _) (v := ?v6) rfl (by kernel_rfl) (by kernel_rfl) (by kernel_rfl) (fun _ _ _ h => h) (Or.inl ⟨by rfl, ?hy6⟩) True.intro ?rest6
      case hy6 => intro w hSw; go_simp <;> with_reducible rfl
      try simp only [Act.put, List.setIfInBounds_toArray, List.set_cons_zero, List.set_cons_succ, List.getElem_toArray, List.getElem_cons_succ, List.getElem_cons_zero]
      refine wpAnyH_ready (rs := [7]) (by kernel_rfl) (by simp) ?_
      refine AllReadyH.cons rfl (fun K hK => ?_) AllReadyH.nil
      rw [if_pos (by rfl)]
      refine op_append_rows (w0 := w) w.heap.size (.tmp 21) (.tmp 24) 22 5 (.int .u8 0) 1 rfl Tryz.underlying22 info5 rfl (by decide) u6 ys [47, 48] ⟨g, i, none⟩ 2 (c - i) (fun _ => True) rfl rfl (RM_drew (RM_drewN HR6.out _)) ⟨rfl, ?hcells⟩ (fun _ _ => trivial) (below_drew (pw_below_drewN HB.out _)) HB.out.size (by have := HY.out; omega) ?_
      case hcells =>
        intro j hj
        have h1 := HRM.out (i + j) (by rw [sufs_len, ← HI.out]; omega)
        have h2 : rd (sufs (m' + 1)) ((i + j : Nat) : Int) = rd [47, 48] (j : Int) := by
          have := rd_app_right (sufs m') [47, 48] j
          rw [sufs_len, HI.out] at this
          exact this
        rw [h2, Nat.zero_add] at h1
        rw [add_off]
        exact h1
      intro v1 w2 hr hb hg
      refine hK.out _ _ True.intro (fun hHeld2 => ?_)
      clear hK K hg
      have K1 := Lib.hid hr
      have K2 := Lib.hid hb
      clear hr hb
      try simp only [Act.put, List.setIfInBounds_toArray, List.set_cons_zero, List.set_cons_succ, List.getElem_toArray, List.getElem_cons_succ, List.getElem_cons_zero]
      refine wpAnyH_take (i := 8) (oi := _) (v := ?v8) rfl (by kernel_rfl) (by kernel_rfl) (by kernel_rfl) (fun _ _ _ h => h) (Or.inl ⟨by rfl, ?hy8⟩) True.intro ?rest8
      case hy8 => intro w hSw; go_simp <;> with_reducible rfl
      try simp only [Act.put, List.setIfInBounds_toArray, List.set_cons_zero, List.set_cons_succ, List.getElem_toArray, List.getElem_cons_succ, List.getElem_cons_zero]
      refine wpAnyH_take (i := 9) (oi := _) (v := ?v9) rfl (by kernel_rfl) (by kernel_rfl) (by kernel_rfl) (fun _ _ _ h => h) (Or.inl ⟨by rfl, ?hy9⟩) True.intro ?rest9
      case hy9 => intro w hSw; go_simp <;> with_reducible rfl
      try simp only [Act.put, List.setIfInBounds_toArray, List.set_cons_zero, List.set_cons_succ, List.getElem_toArray, List.getElem_cons_succ, List.getElem_cons_zero]
      refine wpAnyH_done (by kernel_rfl) ?_ _
      go_wp2_with (fail)
      go_roundg (gk - 1)
      case measure => omega
      case rel => exact ⟨m', i, _, by first | rfl | go_num, hic, by omega, by omega, Lib.hid HI.out.symm, K1, K2, Lib.hid (by have := HY.out; rw [List.length_append]; simp; omega)⟩
end Go.Proofs.YtjfbkgkpjkickaaGreatDoor.PAll
-- YtjfbkgkpjkickaaGreatDoorFc
set_option linter.unusedVariables false
set_option linter.unusedSimpArgs false
namespace Go.Proofs.YtjfbkgkpjkickaaGreatDoor.PAll
open Go.RowKit Go.Proofs.YtjfbkgkpjkickaaGreatDoorW.PrintWords Go.Proofs.YtjfbkgkpjkickaaGreatDoorW.PrintLast Go.Proofs.YtjfbkgkpjkickaaGreatDoorW.PrintMore

theorem ta201_198 (v : Value) (w : World) : (Instr.typeAssert (.iface 201 v) 47 198 true).run Tryz.prog w = .ok (.tuple #[.pointer none, .bool false]) w := by kernel_rfl
theorem take_conv72 (n B o c : Nat) (l : List Int) (w : World) (hr : RB w B o l) (hn : n ≤ l.length) : (convert 22 72 (.slice (some ⟨B, o, none⟩) n c)).run Tryz.prog w = .ok (.string (strOfNums (l.take n))) w :=
  run_convert_bytes_arg w 22 5 Tryz.underlying22 Tryz.underlying5 B o n c (l.take n) (by rw [List.length_take]; omega) (fun i hi => by
    rw [hr i (by omega), rd_getD, List.getD_eq_getElem?_getD, List.getD_eq_getElem?_getD, List.getElem?_take_of_lt hi]) 72 Tryz.underlying72
theorem rm_rb {w : World} {base g n cap : Nat} {ok : Nat → Prop} {ys : List Int} (h : RM 5 w base ok (.slice (some ⟨g, 0, none⟩) n cap) ys) : RB w g 0 ys ∧ n = ys.length ∧ n ≤ cap ∧ cap ≤ 9223372036854775807 := by
  obtain ⟨cur, fz, hbg, hg, hfz, hnc, hcm, hcs, htake, hn⟩ := RM_block h
  refine ⟨fun j hj => ?_, hn, by omega, by simpa only [maxLen] using hcm⟩
  have := h.2.cells (g := g) rfl j _ (nums_get ys j hj)
  rw [rd_getD, Nat.zero_add]
  have hadd : (⟨g, 0, none⟩ : Addr).add j = ⟨g, j, none⟩ := by unfold Addr.add; split <;> simp_all
  rw [hadd] at this
  exact this
theorem rm_form {w : World} {base : Nat} {ok : Nat → Prop} {v : Value} {ys : List Int} (h : RM 5 w base ok v ys) : (v = .slice none 0 0 ∧ ys = []) ∨ ∃ g cap, v = .slice (some ⟨g, 0, none⟩) ys.length cap := by
  rcases h.2.2 with ⟨h1, h0⟩ | ⟨g, cap, cur, fz, h1, _⟩
  · exact .inl ⟨h1, List.eq_nil_of_length_eq_zero h0⟩
  · exact .inr ⟨g, cap, h1⟩
set_option maxRecDepth 100000 in
set_option maxHeartbeats 8000000 in
theorem f91p (D B c p m : Nat) (t : List Int) (s : DS) (loose dup : Bool) (k : Int) (x : Value) (w0 w : World) (G : GV) (hI : Inv w G D B c t s loose dup) (hT : Top s) (hp : p ≤ t.length) (hm : 0 < m) (hm2 : m ≤ 1000) (hx : Wrapped w0 G m x w) :
    Calls Tryz.prog 91 #[.iface 161 (.pointer (some ⟨D, 0, none⟩)), x, .int .i64 p, .int .i64 k] w (SynPost w) := by
  obtain ⟨P, v, rfl, hE⟩ := hx
  obtain ⟨g, cap, rfl⟩ : ∃ g cap, v = .slice (some ⟨g, 0, none⟩) (2 * m) cap := by
    rcases rm_form hE.rm with ⟨_, h⟩ | ⟨g, cap, h⟩
    · have := congrArg List.length h
      rw [sufs_len] at this
      simp at this; omega
    · exact ⟨g, cap, by rw [h, sufs_len]⟩
  obtain ⟨hrb, hlen0, hcap, hcap2⟩ := rm_rb hE.rm
  clear hlen0
  have hl := hI.hl
  have hc := hI.hc
  have hc2 := hI.hc2
  have t3 := ta161 (.pointer (some ⟨D, 0, none⟩))
  have t1 := ta201_198 (.pointer (some ⟨P, 0, none⟩))
  have t2 := ta201_201 (.pointer (some ⟨P, 0, none⟩))
  have q0 := eq201 w (.pointer (some ⟨P, 0, none⟩)) (.pointer (some G.eof))
  have h0 := hI.env.h0
  have HI := Lib.hid hI
  have HT := Lib.hid hT
  have C222 := Lib.hid (f222 D s p w hI.dec (by omega))
  have C231 := Lib.hid (f231 D s k w hI.dec hT)
  have HO := Lib.hid hE.obj
  have HRB := Lib.hid hrb
  clear hI hT hE hrb
  go_enter Tryz.func91, Tryz.ntmps91
  go_wp2_with (fail)
  refine C222.out.mono ?_
  rintro e w1 ⟨rfl, rfl⟩
  go_wp2_with (fail)
  refine C231.out.mono ?_
  rintro e w1 ⟨rfl, hb1⟩
  have HB1 := Lib.hid hb1
  have HI1 := Lib.hid (HI.out.mono hb1)
  have HO1 := Lib.hid (show w1.heap[P]? = some (.cells #[.iface 265 (.pointer (some G.ueof)), .slice (some ⟨g, 0, none⟩) (2 * m) cap] 205 (0, 0)) by rw [hb1.block P (Array.getElem?_eq_some_iff.1 HO.out).1]; exact HO.out)
  have C148 := Lib.hid (f148 P g cap m _ w1 hm2 HO1.out (HRB.out.mono hb1) hcap hcap2)
  clear hb1
  go_wp2_with (fail)
  refine C148.out.mono ?_
  rintro e w2 ⟨v2, ys, rfl, hr2, hb2⟩
  have HB2 := Lib.hid (HB1.out.trans (hb2.mono HB1.out.size))
  have HI2 := Lib.hid (HI1.out.mono hb2)
  have HO2 := Lib.hid (show w2.heap[P]? = some (.cells #[.iface 265 (.pointer (some G.ueof)), .slice (some ⟨g, 0, none⟩) (2 * m) cap] 205 (0, 0)) by rw [hb2.block P (Array.getElem?_eq_some_iff.1 HO1.out).1]; exact HO1.out)
  have cP : w2.cell? ⟨P, 0, none⟩ = some (.iface 265 (.pointer (some G.ueof))) := (cell_of_row _ P 0 _ 205 _ HO2.out).trans rfl
  have HR2 := Lib.hid hr2
  have h8 := HI2.out.env.h8
  have c13 := HI2.out.c13
  have c14 := HI2.out.c14
  have q8 := eqSent HI2.out.sent (a := G.ueof) (b := G.mism) (.inr (.inl rfl)) (.inr (.inr (.inr (.inr (.inr (.inl rfl))))))
  rw [decide_eq_false (HI2.out.env.nem _ (.inl rfl))] at q8
  clear hb2 hr2
  have C98 := Lib.hid (fun (W : World) => f98 s.pres s.vals 549755813888 false HI2.out.opt.leg W)
  have C234 := Lib.hid (f234 D w2)
  have cnil := conv_nil
  go_wp2_with (fail)
  refine C234.out.mono ?_
  rintro e w8 ⟨rfl, rfl⟩
  go_wp2_with (fail)
  refine (C98.out _).mono ?_
  rintro e w9 ⟨rfl, hb9⟩
  have HB9 := Lib.hid hb9
  have hr9 := RM_below HR2.out hb9
  clear hb9
  rcases rm_form hr9 with ⟨rfl, _⟩ | ⟨g2, cap2, rfl⟩
  · clear hr9
    go_wp2_with (fail)
    go_returns
    exact ⟨_, rfl, below_alloc (HB2.out.trans (HB9.out.mono HB2.out.size)) _⟩
  · obtain ⟨hrb2, _⟩ := rm_rb hr9
    have qc := take_conv72 ys.length g2 0 cap2 ys w9 hrb2 (Nat.le_refl _)
    generalize strOfNums (ys.take ys.length) = rs at *
    generalize ys.length = ny at *
    clear hr9 hrb2
    go_wp2_with (fail)
    go_returns
    exact ⟨_, rfl, below_alloc (HB2.out.trans (HB9.out.mono HB2.out.size)) _⟩
end Go.Proofs.YtjfbkgkpjkickaaGreatDoor.PAll
