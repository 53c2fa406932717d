/- The texts of a proof, its declarations alone: part 2. -/
import Derived.Test.YtjfbkgkpjkickaaGreatDoorProg
import Derived.Below
import Derived.Deep.Draws
import Derived.Deep.AppendLies
import Derived.Maps.AppendAt
import Derived.OwnWalk
import Derived.Laws.BytesArg
import Derived.Laws.MakeOwn
import Derived.Laws.OwnMore
import Derived.Deep.OwnRows
import Derived.Tactics
import Derived.Lib.ConvBytes
import Derived.Laws.Slices
import Derived.WalkKit
import Derived.KernelRfl
import Derived.RowKit3
import Derived.Deep.LoopGhost
import Derived.Deep.QuietTactic
import Derived.BigQuiet
import Derived.WideLaws
import Derived.Deep.DeepCutAuto
import Derived.Deep.CutBlock
import Derived.Deep.RegionHeld3
import Derived.Laws.Rows
import Derived.Lib.AppendStr
import Derived.ArgAppend
import Derived.Laws.IdiomCopy
import Derived.OrdersHeld
import Derived.Laws.BitsLemmas
import Derived.RowKit
import Derived.Lib.FrozenHead2
import Derived.Lib.SmallJoins
import Derived.Test.YtjfbkgkpjkickaaGreatDoorVU1
import Derived.Test.YtjfbkgkpjkickaaGreatDoorVU2
import Derived.Test.YtjfbkgkpjkickaaGreatDoorVU3
import Derived.Test.YtjfbkgkpjkickaaGreatDoorVU4
import Derived.Test.YtjfbkgkpjkickaaGreatDoorVE1
set_option linter.unusedVariables false
set_option linter.unusedSimpArgs false
-- YtjfbkgkpjkickaaGreatDoorPAllx0
namespace Go.Proofs.YtjfbkgkpjkickaaGreatDoor.PAll
open Go.RowKit Go.Proofs.YtjfbkgkpjkickaaGreatDoorW.PrintWords Go.Proofs.YtjfbkgkpjkickaaGreatDoorW.PrintLast Go.Proofs.YtjfbkgkpjkickaaGreatDoorW.PrintMore
set_option linter.unusedVariables false
set_option linter.unusedSimpArgs false



theorem info5 : (Tryz.prog.info? 5).map (fun i => (i.zero, i.size, i.bytes)) = some (some (.int .u8 0), 1, 1) := by kernel_rfl
end Go.Proofs.YtjfbkgkpjkickaaGreatDoor.PAll
-- YtjfbkgkpjkickaaGreatDoorRm
namespace Go.Proofs.YtjfbkgkpjkickaaGreatDoor.PAll
open Go.RowKit Go.Proofs.YtjfbkgkpjkickaaGreatDoorW.PrintWords Go.Proofs.YtjfbkgkpjkickaaGreatDoorW.PrintLast Go.Proofs.YtjfbkgkpjkickaaGreatDoorW.PrintMore
open Go.Builtin
set_option linter.unusedVariables false

/-- none of the first n cells is frozen -/
def FreeM (fz : Nat × Nat) (n : Nat) : Prop := ∀ k, k < n → ¬ (fz.1 ≤ k ∧ k < fz.2)

def OwnM (w : World) (base : Nat) (e : TypeId) (v : Value) (n : Nat) (xs : List Value) : Prop :=
  xs.length = n ∧
  ((v = .slice none 0 0 ∧ n = 0) ∨
   ∃ g cap cur fz, v = .slice (some ⟨g, 0, none⟩) n cap ∧ base ≤ g ∧ w.heap[g]? = some (.cells cur e fz) ∧ FreeM fz cur.size ∧ n ≤ cap ∧ cap ≤ maxLen ∧ cur.size = cap ∧ cur.toList.take n = xs)

theorem OwnM.of_own {w : World} {base : Nat} {e : TypeId} {v : Value} {n : Nat} {xs : List Value} (h : w.ownsRow base e 1 v n xs) : OwnM w base e v n xs := by
  refine ⟨by have := h.1; simpa using this, ?_⟩
  rcases h.2 with hn | ⟨g, cap, cur, hv, hb, hg, h1, h2, h3, h4⟩
  · exact .inl hn
  · exact .inr ⟨g, cap, cur, (0, 0), hv, hb, hg, fun k _ h => by have := h.2; simp at this, h1, h2, by simpa using h3, by simpa using h4⟩

section
variable {w w' : World} {base : Nat} {e : TypeId} {v : Value} {n : Nat} {xs : List Value}
theorem OwnM.lt (h : OwnM w base e v n xs) : ∀ k, v.ownBlock = some k → base ≤ k ∧ k < w.heap.size := by
  intro k hk
  rcases h.2 with ⟨rfl, _⟩ | ⟨g, cap, cur, fz, rfl, hb, hg, _⟩
  · simp [Value.ownBlock] at hk
  · simp [Value.ownBlock] at hk
    subst hk
    exact ⟨hb, (Array.getElem?_eq_some_iff.1 hg).1⟩
theorem OwnM.move (h : OwnM w base e v n xs) (hm : ∀ k, v.ownBlock = some k → w'.heap[k]? = w.heap[k]?) : OwnM w' base e v n xs := by
  refine ⟨h.1, ?_⟩
  rcases h.2 with hn | ⟨g, cap, cur, fz, rfl, hb, hgg, rest⟩
  · exact .inl hn
  · exact .inr ⟨g, cap, cur, fz, rfl, hb, by rw [hm g (by simp [Value.ownBlock])]; exact hgg, rest⟩
theorem OwnM.cells (h : OwnM w base e v n xs) {g : Nat} (hg : v.ownBlock = some g) : ∀ j u, xs[j]? = some u → w.cell? ((⟨g, 0, none⟩ : Addr).add j) = some u := by
  intro j u hu
  rcases h.2 with ⟨rfl, _⟩ | ⟨g', cap, cur, fz, rfl, _, hgg, _, _, _, _, htake⟩
  · simp [Value.ownBlock] at hg
  · simp [Value.ownBlock] at hg
    subst hg
    have hadd : (⟨g', 0, none⟩ : Addr).add j = ⟨g', j, none⟩ := by unfold Addr.add; split <;> simp_all
    rw [hadd, cell_of_row w g' j cur e fz hgg]
    rw [← htake, List.getElem?_take] at hu
    split at hu
    · simpa using hu
    · cases hu
end

theorem run_storeCells_atM (P : Program) (g o : Nat) (t : TypeId) (fz : Nat × Nat) : ∀ (vs : List Value) (i : Nat) (cur : Array Value) (w : World), w.heap[g]? = some (.cells cur t fz) → FreeM fz cur.size → o + i + vs.length ≤ cur.size → (∀ v ∈ vs, v.oneCell' = true) →
    (storeCells ⟨g, o, none⟩ vs i).run P w = .ok () (w.setRow g (cur.toList.take (o + i) ++ vs ++ cur.toList.drop (o + i + vs.length)).toArray)
  | [], i, cur, w, hg, _, _, _ => by
    simp only [storeCells, List.append_nil, List.length_nil, Nat.add_zero, List.take_append_drop, Array.toArray_toList]
    rw [setRow_self w g cur t fz hg]
    rfl
  | v :: rest, i, cur, w, hg, hfz, hl, h1 => by
    have hi : o + i < cur.size := by simp at hl; omega
    have hadd : (⟨g, o, none⟩ : Addr).add i = ⟨g, o + i, none⟩ := by unfold Addr.add; split <;> simp_all
    have hcell : w.cell? ⟨g, o + i, none⟩ = some cur[o + i] := by simp [World.cell?, hg, hi]
    have hfro : w.frozen? ⟨g, o + i, none⟩ = false := by
      have := hfz (o + i) hi
      obtain ⟨lo, hi'⟩ := fz
      simp only [World.frozen?, hg, Bool.and_eq_false_iff, decide_eq_false_iff_not]
      simp only at this
      omega
    have hst : (store ((⟨g, o, none⟩ : Addr).add i) v).run P w = .ok () (w.setRow g (cur.setIfInBounds (o + i) v)) := by
      rw [hadd, run_store P w _ v _ (h1 v (by simp)), hcell]
      simp [hfro, setCell_eq_setRow w g (o + i) cur t fz v hg]
    have ih := run_storeCells_atM P g o t fz rest (i + 1) (cur.setIfInBounds (o + i) v) (w.setRow g (cur.setIfInBounds (o + i) v)) (setRow_heap w g cur _ t _ hg) (by simpa using hfz) (by simp at hl ⊢; omega) (fun x hx => h1 x (by simp [hx]))
    simp only [storeCells, Sem.run_bind, hst, Result.andThen_ok, ih, setRow_setRow]
    congr 3
    have e := list_seg_step cur.toList (o + i) v rest (by simp at hl ⊢; omega)
    simpa [Array.toList_setIfInBounds, Nat.add_assoc] using e

theorem run_append_M {P : Program} (w : World) (base : Nat) (t ty e : TypeId) (i : TypeInfo) (z : Value) (bytes : Nat) (ht : P.underlying t = some (.slice e)) (hi : P.info? e = some i) (hz : i.zero = some z)
    (hsize : i.size = 1) (hby : i.bytes = bytes) (hzs : z.cells.size = 1)
    (v : Value) (n : Nat) (xs : List Value) (hown : OwnM w base e v n xs)
    (a : Addr) (m c : Nat) (news : List Value) (hl : news.length = m) (hnews : ∀ j u, news[j]? = some u → w.cell? (a.add j) = some u) (h1 : ∀ u ∈ news, u.oneCell' = true)
    (h63 : n + m ≤ maxLen) (hbytes : (n + m) * bytes ≤ 140737488355328) (hbase : base ≤ w.heap.size) :
    ∃ v' w', (Builtin.append_ #[t, t] ty #[v, .slice (some a) m c]).run P w = .ok v' w' ∧ OwnM w' base e v' (n + m) (xs ++ news) ∧ w.grownBy w' v.ownBlock ∧ (v'.ownBlock = v.ownBlock ∨ v'.ownBlock = some w.heap.size) := by
  rcases hown.2 with ⟨rfl, rfl⟩ | ⟨g, cap, cur, fz, rfl, hbg, hg, hfz, hnc, hcm, hcs, htake⟩
  · obtain ⟨v', w', r1, r2, r3, _, r5⟩ := run_append_own_at (P := P) w base t ty e i z 1 bytes ht hi hz hsize hby hzs (by omega) (.slice none 0 0) 0 xs ⟨by have := hown.1; simpa using this, .inl ⟨rfl, rfl⟩⟩ a m c news (by simpa using hl) hnews h1 h63 hbytes hbase
    exact ⟨v', w', r1, OwnM.of_own r2, r3, r5⟩
  · subst hby
    have hsmall : n + m ≤ 9223372036854775807 := by simp only [maxLen] at h63; omega
    have hlen : (xs ++ news).length = n + m := by rw [List.length_append, hown.1, hl]
    by_cases hroom : n + m ≤ cap
    · have hfit : n * i.size + news.length ≤ cur.size := by rw [hl, hcs, hsize]; omega
      have hf := run_firstCells_some (P := P) w i.size m a m c news (by rw [hsize]; simpa using hl) hnews
      have hst := run_storeCells_atM P g (n * i.size) e fz news 0 cur w hg hfz (by simpa using hfit) h1
      simp only [Nat.add_zero] at hst
      have hr : (Builtin.append_ #[t, t] ty #[.slice (some ⟨g, 0, none⟩) n cap, .slice (some a) m c]).run P w =
          .ok (.slice (some ⟨g, 0, none⟩) (n + m) cap) (w.setRow g (cur.toList.take (n * i.size) ++ news ++ cur.toList.drop (n * i.size + news.length)).toArray) := by
        simp [Builtin.append_, run_underlying ht, sizeOf, typeInfo, hi, Builtin.lenOf, hroom, hf, Addr.add_lit, hst]
      rw [hsize, Nat.mul_one] at hr
      have hsz : (cur.toList.take n ++ news ++ cur.toList.drop (n + news.length)).toArray.size = cap := by
        simp only [List.size_toArray, List.length_append, List.length_take, List.length_drop, Array.length_toList]
        omega
      refine ⟨_, _, hr, ⟨hlen, .inr ⟨g, cap, _, fz, rfl, hbg, setRow_heap w g cur _ e _ hg, by rw [hsz]; rw [hcs] at hfz; exact hfz, hroom, hcm, hsz, ?_⟩⟩, ⟨rfl, rfl, rfl, by simp, fun k _ hk => setRow_other w g k _ (fun e => hk (by simp [Value.ownBlock, e]))⟩, .inl rfl⟩
      show (cur.toList.take n ++ news ++ cur.toList.drop (n + news.length)).take (n + m) = xs ++ news
      rw [htake, ← hlen]
      exact List.take_left
    · have holds : ∀ j u, xs[j]? = some u → w.cell? ((⟨g, 0, none⟩ : Addr).add j) = some u := hown.cells (g := g) rfl
      have hr := run_append_grow (P := P) w t ty e i z ht hi hz ⟨g, 0, none⟩ n cap xs (by rw [hsize]; simpa using hown.1) holds a m c news (by rw [hsize]; simpa using hl) hnews (by omega) (by omega) (growslice_fits (by omega) hbytes)
      have hge := grownCap_ge w (n + m) cap e
      have hcm2 : grownCap w (n + m) cap e ≤ maxLen := grownCap_le_maxLen w (n + m) cap e h63
      refine ⟨_, _, hr, ⟨hlen, .inr ⟨w.heap.size, _, _, (0, 0), rfl, hbase, heap_alloc_new w.drew _, fun k _ h => by have := h.2; simp at this, hge, hcm2, ?_, ?_⟩⟩, ⟨rfl, rfl, rfl, by simp, fun k hk _ => heap_alloc_old w.drew _ hk⟩, .inr rfl⟩
      · simp only [Array.size_append, List.size_toArray, size_zeroCells, hzs, hown.1, hl]
        omega
      · simp only [Array.toList_append, List.append_assoc]
        rw [← List.append_assoc, ← hlen]
        exact List.take_left

/-- a row of bytes of one's own, mark or none -/
def RM (e : Nat) (w : World) (base : Nat) (ok : Nat → Prop) (v : Value) (xs : List Int) : Prop :=
  (∀ k, v.ownBlock = some k → ok k) ∧ OwnM w base e v xs.length (nums .u8 xs)
section
variable {w w1 W : World} {e base b : Nat} {ok ok' oku okv : Nat → Prop} {v u : Value} {xs ys : List Int}
theorem RM_mono (h : RM e w base ok v xs) (hok : ∀ k, ok k → ok' k) : RM e w base ok' v xs := ⟨fun k hk => hok k (h.1 k hk), h.2⟩
theorem RM_lt (h : RM e w base ok v xs) : ∀ k, v.ownBlock = some k → k < w.heap.size := fun k hk => (h.2.lt k hk).2
theorem RM_base (h : RM e w base ok v xs) : ∀ k, v.ownBlock = some k → base ≤ k := fun k hk => (h.2.lt k hk).1
theorem RM_step (h : RM e w base ok v xs) (hm : ∀ k, ok k → k < w.heap.size → w1.heap[k]? = w.heap[k]?) : RM e w1 base ok v xs :=
  ⟨h.1, h.2.move (fun k hk => hm k (h.1 k hk) (RM_lt h k hk))⟩
theorem RM_below (h : RM e w base ok v xs) (hb : Below w.heap.size w w1) : RM e w1 base ok v xs := RM_step h (fun k _ hk => hb.block k hk)
theorem RM_alloc (h : RM e w base ok v xs) (o : Obj) : RM e (w.alloc o) base ok v xs := RM_below h (below_alloc (Below.refl _ _) o)
theorem RM_drew (h : RM e w base ok v xs) : RM e w.drew base ok v xs := RM_below h (below_drew (Below.refl _ _))
theorem nums_get (xs : List Int) (j : Nat) (h : j < xs.length) : (nums .u8 xs)[j]? = some (.int .u8 (xs.getD j 0)) := by
  simp [nums, List.getD, h]
end
theorem RM_appended {e base : Nat} {ok : Nat → Prop} {W w1 : World} {v v1 : Value} {xs ys : List Int} (h0 : ∀ k, v.ownBlock = some k → ok k) (hfresh : ∀ k, W.heap.size ≤ k → ok k)
    (h : OwnM w1 base e v1 (xs.length + ys.length) (nums .u8 xs ++ nums .u8 ys)) (hat : v1.ownBlock = v.ownBlock ∨ ∃ b, v1.ownBlock = some b ∧ W.heap.size ≤ b) : RM e w1 base ok v1 (xs ++ ys) := by
  refine ⟨fun k hk => ?_, by rw [nums_append, List.length_append]; exact h⟩
  rcases hat with hat | ⟨b, hb, hle⟩
  · exact h0 k (by rw [← hat]; exact hk)
  · rw [hb] at hk; injection hk with hk; exact hfresh k (by omega)
section
variable {P : Program} {ops : Array Oper} {rest : List Oper} {o : Oper} {a : Act} {Q : Exit → Act → World → Prop}
theorem wpList_append_M (w : World) (hgd : o.guard = none) (s x : Operand) (t : TypeId)
    (ho : o.op = .call { callee := .builtin .append, args := #[s, x], argTypes := #[t, t] })
    (base : Nat) (e : TypeId) (i : TypeInfo) (z : Value) (bytes : Nat) (ht : P.underlying t = some (.slice e)) (hi : P.info? e = some i) (hz : i.zero = some z)
    (hsize : i.size = 1) (hby : i.bytes = bytes) (hzs : z.cells.size = 1)
    (v : Value) (n : Nat) (xs : List Value) (hs : a.eval s = v) (hown : OwnM w base e v n xs)
    (ad : Addr) (m c : Nat) (news : List Value) (hx : a.eval x = .slice (some ad) m c) (hl : news.length = m) (hnews : ∀ j u, news[j]? = some u → w.cell? (ad.add j) = some u) (h1 : ∀ u ∈ news, u.oneCell' = true)
    (h63 : n + m ≤ maxLen) (hbytes : (n + m) * bytes ≤ 140737488355328) (hbase : base ≤ w.heap.size)
    (h : ∀ v' w', OwnM w' base e v' (n + m) (xs ++ news) → w.grownBy w' v.ownBlock → (v'.ownBlock = v.ownBlock ∨ v'.ownBlock = some w.heap.size) → wpList P ops Q rest (a.put o.dst v') w') :
    wpList P ops Q (o :: rest) a w := by
  refine wpList_plain hgd fun K hK => ?_
  obtain ⟨v', w', hr, h2, h3, h5⟩ := run_append_M (P := P) w base t o.type e i z bytes ht hi hz hsize hby hzs v n xs hown ad m c news hl hnews h1 h63 hbytes hbase
  unfold Oper.wp execOp
  simp only [ho, resolve, invoke, builtin, Sem.run_bind, Sem.run_pure, Result.andThen_ok, List.map_toArray, List.map_cons, List.map_nil, hs, hx, hr]
  exact hK _ _ (h v' w' h2 h3 h5)
theorem RM_append_rows {w0 W : World} (base : Nat) (hgd : o.guard = none) (s x : Operand) (t e : TypeId) (z : Value) (bytes : Nat)
    (ho : o.op = .call { callee := .builtin .append, args := #[s, x], argTypes := #[t, t] })
    (ht : P.underlying t = some (.slice e)) (hinfo : (P.info? e).map (fun i => (i.zero, i.size, i.bytes)) = some (some z, 1, bytes)) (hz : z.cells.size = 1) (hb0 : 0 < bytes)
    (v : Value) (xs ys : List Int) (A : Option Addr) (m c : Nat) (ok okp : Nat → Prop) (hs : a.eval s = v) (hx : a.eval x = .slice A m c)
    (HO : RM e W base ok v xs) (HR : Kd.C (Kd.int .u8) W A m ys) (hfresh : ∀ k, W.heap.size ≤ k → ok k)
    (HB : Below base w0 W) (hbase : base ≤ W.heap.size) (hl : (xs.length + m) * bytes ≤ 140737488355328)
    (h : ∀ v1 w1, RM e w1 base ok v1 (xs ++ ys) → Below base w0 w1 → W.grownBy w1 v.ownBlock → (v1.ownBlock = v.ownBlock ∨ ∃ b, v1.ownBlock = some b ∧ W.heap.size ≤ b) → wpList P ops Q rest (a.put o.dst v1) w1) :
    wpList P ops Q (o :: rest) a W := by
  obtain ⟨i0, hi, hzz⟩ := Option.map_eq_some_iff.1 hinfo
  simp only [Prod.mk.injEq] at hzz
  obtain ⟨hz0, hz1, hz2⟩ := hzz
  have hlen : xs.length + m ≤ 140737488355328 := Nat.le_trans (Nat.le_mul_of_pos_right _ hb0) hl
  have hm : ys.length = m := HR.1
  rcases A with _ | ad
  · have h0 : m = 0 := by
      rcases Nat.eq_zero_or_pos m with h0 | h0
      · exact h0
      · obtain ⟨ad, h, _⟩ := HR.2.2 h0
        cases h
    subst h0
    obtain rfl : ys = [] := List.eq_nil_of_length_eq_zero hm
    refine wpList_plain hgd fun K hK => ?_
    have hr : (Builtin.append_ #[t, t] o.type #[v, .slice none 0 c]).run P W = .ok v W := by
      rcases HO.2.2 with ⟨rfl, hn⟩ | ⟨g, cap, cur, fz, rfl, _, _, _, hnc, _⟩
      · simp [Builtin.append_, run_underlying ht, sizeOf, typeInfo, hi, Builtin.lenOf, Builtin.firstCells]
      · simp [Builtin.append_, run_underlying ht, sizeOf, typeInfo, hi, Builtin.lenOf, Builtin.firstCells, hnc, storeCells]
    unfold Oper.wp execOp
    simp only [ho, resolve, invoke, builtin, Sem.run_bind, Sem.run_pure, Result.andThen_ok, List.map_toArray, List.map_cons, List.map_nil, hs, hx, hr]
    exact hK _ _ (h v W (by rw [List.append_nil]; exact HO) HB (World.grownBy.refl W _) (.inl rfl))
  · refine wpList_append_M W hgd s x t ho base e i0 z bytes ht hi hz0 hz1 hz2 hz v xs.length (nums .u8 xs) hs HO.2 ad m c (nums .u8 ys) hx (by rw [nums_length]; exact hm) ?_ (by simp [nums, Value.oneCell']) (by simp only [maxLen]; omega) hl hbase ?_
    · intro j u hu
      have hj : j < ys.length := by
        have := (List.getElem?_eq_some_iff.1 hu).1
        rw [nums_length] at this; exact this
      obtain ⟨ad', he, hc⟩ := HR.2.2 (by omega)
      injection he with he
      subst he
      obtain ⟨cs, _, hcs, hcell⟩ := hc j _ (List.getElem?_eq_getElem hj)
      have hcs' : cs = [Value.int .u8 ys[j]] := hcs
      subst hcs'
      have hu' : u = .int .u8 ys[j] := by
        simp only [nums, List.getElem?_map, List.getElem?_eq_getElem hj, Option.map_some, Option.some.injEq] at hu
        exact hu.symm
      have := hcell 0 u (by rw [hu']; rfl)
      simpa [Kd.int, Kd.scalar] using this
    · intro v1 w1 hown hg hat
      have hat' : v1.ownBlock = v.ownBlock ∨ ∃ b, v1.ownBlock = some b ∧ W.heap.size ≤ b := by
        rcases hat with hat | hat
        · exact .inl hat
        · exact .inr ⟨_, hat, Nat.le_refl _⟩
      exact h v1 w1 (RM_appended HO.1 hfresh (by rw [hm]; exact hown) hat') (HB.grown hg hbase (RM_base HO)) hg hat'
end
end Go.Proofs.YtjfbkgkpjkickaaGreatDoor.PAll
-- YtjfbkgkpjkickaaGreatDoorRn
namespace Go.Proofs.YtjfbkgkpjkickaaGreatDoor.PAll
open Go.RowKit Go.Proofs.YtjfbkgkpjkickaaGreatDoorW.PrintWords Go.Proofs.YtjfbkgkpjkickaaGreatDoorW.PrintLast Go.Proofs.YtjfbkgkpjkickaaGreatDoorW.PrintMore
open Go.Builtin Go.Lib
set_option linter.unusedVariables false
theorem strCells_nums (s : ByteArray) : strCells s = nums .u8 (bytesOf s) := by simp [nums, bytesOf, strCells]
section
variable {w w1 W : World} {e base b : Nat} {ok : Nat → Prop} {v u : Value} {xs ys : List Int}
theorem RM_block {g n cap : Nat} (h : RM e W base ok (.slice (some ⟨g, 0, none⟩) n cap) xs) : ∃ cur fz, base ≤ g ∧ W.heap[g]? = some (.cells cur e fz) ∧ FreeM fz cur.size ∧ xs.length ≤ cap ∧ cap ≤ maxLen ∧ cur.size = cap ∧ cur.toList.take xs.length = nums .u8 xs ∧ n = xs.length := by
  rcases h.2.2 with ⟨h1, h2⟩ | ⟨g', cap', cur, fz, h1, hb, hg, hfz, h3, h4, h5, h6⟩
  · simp at h1
  · injection h1 with q1 q2 q3
    injection q1 with q1
    injection q1 with q1
    subst q1 q3
    exact ⟨cur, fz, hb, hg, hfz, h3, h4, h5, h6, q2⟩
/-- the row of a conversion of a string -/
theorem RM_bytes (w : World) (e : TypeId) (s : ByteArray) (hs : s.size ≤ 140737488355328) (hb : base ≤ w.heap.size) (hok : ok w.heap.size) : RM e (bytesWorld w e s) base ok (.slice (some ⟨w.heap.size, 0, none⟩) s.size (grownCap w s.size 0 e)) (bytesOf s) := by
  have hge := grownCap_ge w s.size 0 e
  have hcm : grownCap w s.size 0 e ≤ maxLen := grownCap_le_maxLen w s.size 0 e (by simp only [maxLen]; omega)
  have hsz : (bytesCells w e s).size = grownCap w s.size 0 e := by
    have : s.data.size = s.size := rfl
    simp only [bytesCells, Array.size_append, Array.size_map, Array.size_replicate, this]; omega
  refine ⟨fun k hk => by simp [Value.ownBlock] at hk; rw [← hk]; exact hok, by rw [nums_length], .inr ⟨w.heap.size, grownCap w s.size 0 e, bytesCells w e s, _, by rw [bytesOf_length], hb, bytesWorld_at_new w e s, ?_, by rw [bytesOf_length]; exact hge, hcm, hsz, ?_⟩⟩
  · intro k hk h
    simp only at h
    omega
  · rw [bytesOf_length, ← strCells_nums]
    simp only [bytesCells, Array.toList_append]
    have : (s.data.map fun b => Value.int IntKind.u8 b.toNat).toList = strCells s := by simp [strCells]
    rw [this, ← strCells_length s]
    exact List.take_left
end
end Go.Proofs.YtjfbkgkpjkickaaGreatDoor.PAll
-- YtjfbkgkpjkickaaGreatDoorEa
set_option linter.unusedVariables false
set_option linter.unusedSimpArgs false
namespace Go.Proofs.YtjfbkgkpjkickaaGreatDoor.PAll
open Go.RowKit Go.Proofs.YtjfbkgkpjkickaaGreatDoorW.PrintWords Go.Proofs.YtjfbkgkpjkickaaGreatDoorW.PrintLast Go.Proofs.YtjfbkgkpjkickaaGreatDoorW.PrintMore

/-- a row under way, and a text that stays -/
structure US (w0 w : World) (B o : Nat) (l : List Int) (v : Value) (ys : List Int) : Prop where
  bel : Below w0.heap.size w0 w
  rm : RM 5 w w0.heap.size (fun k => k ≠ B) v ys
  rb : RB w B o l
  hB : B < w.heap.size
section
variable {w0 w w1 W : World} {B o : Nat} {l ys zs : List Int} {v v1 : Value}
theorem US.next (h : US w0 w B o l v ys) (hb : Below w.heap.size w w1) : US w0 w1 B o l v ys :=
  ⟨h.bel.trans (hb.mono h.bel.size), RM_below h.rm hb, h.rb.mono hb, Nat.lt_of_lt_of_le h.hB hb.size⟩
theorem US.drewN (h : US w0 w B o l v ys) (m : Nat) : US w0 (w.drewN m) B o l v ys := h.next (pw_below_drewN (Below.refl _ _) m)
theorem US.grown (h : US w0 W B o l v ys) (hg : W.grownBy w1 v.ownBlock) (hB : Below w0.heap.size w0 w1) (hr : RM 5 w1 w0.heap.size (fun k => k ≠ B) v1 zs) : US w0 w1 B o l v1 zs :=
  ⟨hB, hr, fun j hj => by
    have h1 := h.rb j hj
    have hne : some B ≠ v.ownBlock := fun e => h.rm.1 B e.symm rfl
    simp only [World.cell?] at h1 ⊢
    rw [hg.block B h.hB hne]
    exact h1, Nat.lt_of_lt_of_le h.hB hg.size⟩
end
section
variable {ops : Array Oper} {rest : List Oper} {o : Oper} {a : Act} {Q : Exit → Act → World → Prop}
theorem US_put {w0 W : World} {B oo : Nat} {l : List Int} (hgd : o.guard = none) (s x : Operand)
    (ho : o.op = .call { callee := .builtin .append, args := #[s, x], argTypes := #[22, 22] })
    (v : Value) (ys ps : List Int) (cs : List Value) (m : Nat) (hs : a.eval s = v) (hx : a.eval x = .slice (some ⟨W.heap.size, 0, none⟩) m m) (hp : cs = nums .u8 ps) (hm : m = ps.length)
    (H : US w0 W B oo l v ys) (hl : ys.length + ps.length ≤ 1000000)
    (h : ∀ v1 w1, US w0 w1 B oo l v1 (ys ++ ps) → wpList Tryz.prog ops Q rest (a.put o.dst v1) w1) :
    wpList Tryz.prog ops Q (o :: rest) a (W.alloc (.cells cs.toArray 5)) := by
  subst hp hm
  obtain ⟨i0, hi, hzz⟩ := Option.map_eq_some_iff.1 info5
  simp only [Prod.mk.injEq] at hzz
  obtain ⟨hz0, hz1, hz2⟩ := hzz
  have hbase := H.bel.size
  refine wpList_append_M (W.alloc (.cells (nums .u8 ps).toArray 5)) hgd s x 22 ho w0.heap.size 5 i0 (.int .u8 0) 1 Tryz.underlying22 hi hz0 hz1 hz2 rfl v ys.length (nums .u8 ys) hs (RM_alloc H.rm _).2 ⟨W.heap.size, 0, none⟩ ps.length ps.length (nums .u8 ps) hx (by rw [nums_length]) ?_ (by simp [nums, Value.oneCell']) (by simp only [maxLen]; omega) (by omega) (by simp; omega) ?_
  · intro j u hu
    have hadd : (⟨W.heap.size, 0, none⟩ : Addr).add j = ⟨W.heap.size, j, none⟩ := by unfold Addr.add; split <;> simp_all
    rw [hadd, cell_of_row _ W.heap.size j (nums .u8 ps).toArray 5 (0, 0) (heap_alloc_new W _)]
    simpa using hu
  · intro v1 w1 hown hg hat
    have hat' : v1.ownBlock = v.ownBlock ∨ ∃ b, v1.ownBlock = some b ∧ W.heap.size ≤ b := by
      rcases hat with hat | hat
      · exact .inl hat
      · exact .inr ⟨_, hat, by simp⟩
    exact h v1 w1 ((H.next (below_alloc (Below.refl _ _) _)).grown hg ((H.bel.alloc hbase _).grown hg (by simp; omega) (RM_base H.rm)) (RM_appended (W := W) H.rm.1 (fun k hk => by have := H.hB; omega) hown hat'))
theorem US_none {w0 W : World} {B oo : Nat} {l : List Int} (hgd : o.guard = none) (s x : Operand)
    (ho : o.op = .call { callee := .builtin .append, args := #[s, x], argTypes := #[22, 22] })
    (v : Value) (ys : List Int) (A : Option Addr) (m c : Nat) (hs : a.eval s = v) (hx : a.eval x = .slice A m c) (hm : m = 0)
    (H : US w0 W B oo l v ys) (hl : ys.length ≤ 1000000)
    (h : ∀ v1 w1, US w0 w1 B oo l v1 ys → wpList Tryz.prog ops Q rest (a.put o.dst v1) w1) :
    wpList Tryz.prog ops Q (o :: rest) a W := by
  subst hm
  refine RM_append_rows (w0 := w0) w0.heap.size hgd s x 22 5 (.int .u8 0) 1 ho Tryz.underlying22 info5 rfl (by decide) v ys [] A 0 c (fun k => k ≠ B) (fun _ => False) hs hx H.rm (Kd.C_of_reads (enc := Value.int .u8) (d := (0 : Int)) (h1 := fun _ => rfl) ⟨rfl, by omega, fun h => by omega⟩) (fun k hk => by have := H.hB; omega) H.bel H.bel.size (by omega) ?_
  intro v1 w1 hr hb hg _
  rw [List.append_nil] at hr
  exact h v1 w1 (H.grown hg hb hr)
theorem run_append_zeros (w : World) (g cap m : Nat) (cur : Array Value) (fz : Nat × Nat) (hg : w.heap[g]? = some (.cells cur 5 fz)) (hcs : cur.size = cap) (h0 : 0 < m) (hN : cap + m ≤ 1000000) :
    (Builtin.append_ #[22, 3] 22 #[.slice (some ⟨g, 0, none⟩) cap cap, .int .i64 m]).run Tryz.prog w =
      .ok (.slice (some ⟨w.heap.size, 0, none⟩) (cap + m) (grownCap w (cap + m) cap 5))
        (w.drew.alloc (.cells (cur ++ Builtin.zeroCells (Value.int .u8 0).cells m ++ Builtin.zeroCells (Value.int .u8 0).cells (grownCap w (cap + m) cap 5 - (cap + m))) 5)) := by
  obtain ⟨i, hi, hzz⟩ := Option.map_eq_some_iff.1 info5
  simp only [Prod.mk.injEq] at hzz
  obtain ⟨hz, hz1, hz2⟩ := hzz
  have hn : ¬ (cap + m ≤ cap) := by omega
  have h63' : ¬ (9223372036854775807 < ((cap : Int) + (m : Int))) := by omega
  have h48 : Builtin.nextslicecap (cap + m) cap * 1 ≤ 281474976710656 := growslice_fits (by omega) (by omega)
  have h48' : ¬ (281474976710656 < Builtin.nextslicecap (cap + m) cap) := by omega
  have hw : IntKind.i64.wrap (m : Int) = (m : Int) := by rw [IntKind.wrap_i64]; omega
  have hneg : ¬ ((m : Int) < 0) := by omega
  have hbig : ¬ (281474976710656 < (m : Int)) := by omega
  have holds : ∀ j v, cur.toList[j]? = some v → w.drew.cell? ((⟨g, 0, none⟩ : Addr).add j) = some v := fun j v hv => by
    have hadd : (⟨g, 0, none⟩ : Addr).add j = ⟨g, j, none⟩ := by unfold Addr.add; split <;> simp_all
    rw [hadd, cell_of_row w.drew g j cur 5 fz hg]
    simpa using hv
  have hfo := run_firstCells_some (P := Tryz.prog) w.drew i.size cap ⟨g, 0, none⟩ cap cap cur.toList (by rw [hz1, Array.length_toList, hcs, Nat.mul_one]) holds
  rw [hz1] at hfo
  have hm0 : ¬ (m = 0) := by omega
  simp [Builtin.append_, run_underlying Tryz.underlying22, run_underlying Tryz.underlying3, sizeOf, typeInfo, zeroValue, hi, hz, hz1, hz2, Builtin.lenOf, hn, h63', h48', Question.forced, hfo, newRow, grownCap, asInt, asIntOf, hw, hneg, hbig, hm0]
end
end Go.Proofs.YtjfbkgkpjkickaaGreatDoor.PAll
-- YtjfbkgkpjkickaaGreatDoorEb
set_option linter.unusedVariables false
set_option linter.unusedSimpArgs false
namespace Go.Proofs.YtjfbkgkpjkickaaGreatDoor.PAll
open Go.RowKit Go.Proofs.YtjfbkgkpjkickaaGreatDoorW.PrintWords Go.Proofs.YtjfbkgkpjkickaaGreatDoorW.PrintLast Go.Proofs.YtjfbkgkpjkickaaGreatDoorW.PrintMore

section
variable {ops : Array Oper} {rest : List Oper} {o : Oper} {a : Act} {Q : Exit → Act → World → Prop}
theorem wp_append_zeros (w : World) (hgd : o.guard = none) (s x : Operand) (ho : o.op = .call { callee := .builtin .append, args := #[s, x], argTypes := #[22, 3] }) (hty : o.type = 22)
    (g cap m : Nat) (z : Int) (cur : Array Value) (fz : Nat × Nat) (hs : a.eval s = .slice (some ⟨g, 0, none⟩) cap cap) (hx : a.eval x = .int .i64 z) (hz : z = (m : Int)) (hg : w.heap[g]? = some (.cells cur 5 fz)) (hcs : cur.size = cap) (h0 : 0 < m) (hN : cap + m ≤ 1000000)
    (h : ∀ w' (n' : Nat) (c' : Nat) (cur' : Array Value), n' = cap + m → Below w.heap.size w w' → w'.heap[w.heap.size]? = some (.cells cur' 5 (0, 0)) → cur'.size = c' → n' ≤ c' → c' ≤ maxLen → w'.heap.size = w.heap.size + 1 → wpList Tryz.prog ops Q rest (a.put o.dst (.slice (some ⟨w.heap.size, 0, none⟩) n' c')) w') :
    wpList Tryz.prog ops Q (o :: rest) a w := by
  subst hz
  refine wpList_plain hgd fun K hK => ?_
  have hr := run_append_zeros w g cap m cur fz hg hcs h0 hN
  unfold Oper.wp execOp
  simp only [ho, resolve, invoke, builtin, Sem.run_bind, Sem.run_pure, Result.andThen_ok, List.map_toArray, List.map_cons, List.map_nil, hs, hx, hty, hr]
  have hge := grownCap_ge w (cap + m) cap 5
  have hcm := grownCap_le_maxLen w (cap + m) cap 5 (by simp only [maxLen]; omega)
  refine hK _ _ (h _ _ _ _ rfl ?_ (heap_alloc_new w.drew _) ?_ hge hcm (by simp))
  · exact below_alloc (below_drew (Below.refl _ _)) _
  · have hz1 : (Value.int IntKind.u8 0).cells.size = 1 := rfl
    simp only [Array.size_append, size_zeroCells, hz1, hcs]
    omega
end
set_option maxRecDepth 100000 in
set_option maxHeartbeats 4000000 in
theorem f59 {w0 w : World} {ok : Nat → Prop} (g cap N : Nat) (H : RM 5 w w0.heap.size ok (.slice (some ⟨g, 0, none⟩) 0 cap) []) (HB : w0.heap.size ≤ w.heap.size) (hN : N ≤ 1000000) (hfresh : ∀ k, w.heap.size ≤ k → ok k) :
    Calls Tryz.prog 59 #[.slice (some ⟨g, 0, none⟩) 0 cap, .int .i64 N] w fun e w' => ∃ v, e = .returned v ∧ RM 5 w' w0.heap.size ok v [] ∧ Below w.heap.size w w' := by
  obtain ⟨cur, fz, hbg, hg, hfz, hnc, hcm, hcs, htake, h00⟩ := RM_block H
  clear h00 hnc
  have hcap : cap ≤ 9223372036854775807 := by simpa only [maxLen] using hcm
  have d0 : decide ((N : Int) < 0) = false := decide_eq_false (by omega)
  by_cases hle : N ≤ cap
  · have d1 : decide (0 < (N : Int) - (cap : Int)) = false := decide_eq_false (by omega)
    have HR := Lib.hid H
    clear H hg hfz hcm htake
    go_enter Tryz.func59, Tryz.ntmps59
    go_wp2_with (fail)
    go_returns
    exact ⟨_, rfl, HR.out, Below.refl _ _⟩
  · have d1 : decide (0 < (N : Int) - (cap : Int)) = true := decide_eq_true (by omega)
    have HG := Lib.hid hg
    have HOK := Lib.hid hfresh
    clear H hg hfz hcm htake hfresh
    go_enter Tryz.func59, Tryz.ntmps59
    go_wp2_with ((with_reducible refine gate_builtin (b := .append) (xs := #[.tmp 20, .tmp 21]) rfl ?_); at_builtin; refine wp_append_zeros _ rfl (.tmp 20) (.tmp 21) rfl rfl g cap (N - cap) ((N : Int) - (cap : Int)) cur fz rfl rfl (by omega) HG.out hcs (by omega) (by omega) ?_; intro w1 n1 c1 cur1 hn1 hb1 hg1 hs1 hnc1 hcm1 hsz1; have HB1 := Lib.hid hb1; have HG1 := Lib.hid hg1; clear hb1 hg1)
    go_returns
    refine ⟨_, rfl, ⟨fun k hk => by simp [Value.ownBlock] at hk; exact HOK.out k (by omega), rfl, .inr ⟨w.heap.size, c1, cur1, (0, 0), rfl, HB, HG1.out, fun k _ h => by have := h.2; simp at this, by simp, hcm1, hs1, rfl⟩⟩, HB1.out⟩
set_option maxRecDepth 100000 in
theorem f61 (b : Int) (w : World) : Calls Tryz.prog 61 #[.int .u8 b] w fun e w' => e = .returned (.bool (decide (noEsc b))) ∧ w' = w := by
  by_cases h1 : b < 128
  · by_cases h2 : 32 ≤ b
    · by_cases h3 : b = 92
      · have d1 : decide (b < 128) = true := decide_eq_true h1
        have d2 : decide (32 ≤ b) = true := decide_eq_true h2
        have d3 : (b != 92) = false := by rw [bne_eq_false_iff_eq]; exact h3
        have hd : decide (noEsc b) = false := decide_eq_false (fun h => h.2.2.1 h3)
        rw [hd]
        clear hd
        go_enter Tryz.func61, Tryz.ntmps61
        go_wp2_with (fail)
        go_returns
        exact ⟨rfl, rfl⟩
      · by_cases h4 : b = 34
        · have d1 : decide (b < 128) = true := decide_eq_true h1
          have d2 : decide (32 ≤ b) = true := decide_eq_true h2
          have d3 : (b != 92) = true := by rw [bne_iff_ne]; exact h3
          have d4 : (b != 34) = false := by rw [bne_eq_false_iff_eq]; exact h4
          have hd : decide (noEsc b) = false := decide_eq_false (fun h => h.2.2.2 h4)
          rw [hd]
          clear hd
          go_enter Tryz.func61, Tryz.ntmps61
          go_wp2_with (fail)
          go_returns
          exact ⟨rfl, rfl⟩
        · have d1 : decide (b < 128) = true := decide_eq_true h1
          have d2 : decide (32 ≤ b) = true := decide_eq_true h2
          have d3 : (b != 92) = true := by rw [bne_iff_ne]; exact h3
          have d4 : (b != 34) = true := by rw [bne_iff_ne]; exact h4
          have hd : decide (noEsc b) = true := decide_eq_true ⟨h2, h1, h3, h4⟩
          rw [hd]
          clear hd
          go_enter Tryz.func61, Tryz.ntmps61
          go_wp2_with (fail)
          go_returns
          exact ⟨rfl, rfl⟩
    · have d1 : decide (b < 128) = true := decide_eq_true h1
      have d2 : decide (32 ≤ b) = false := decide_eq_false h2
      have hd : decide (noEsc b) = false := decide_eq_false (fun h => h2 h.1)
      rw [hd]
      clear hd
      go_enter Tryz.func61, Tryz.ntmps61
      go_wp2_with (fail)
      go_returns
      exact ⟨rfl, rfl⟩
  · have d1 : decide (b < 128) = false := decide_eq_false h1
    have hd : decide (noEsc b) = false := decide_eq_false (fun h => h1 h.2.1)
    rw [hd]
    clear hd
    go_enter Tryz.func61, Tryz.ntmps61
    go_wp2_with (fail)
    go_returns
    exact ⟨rfl, rfl⟩
/-- a character in UTF-8 -/
def encR (r : Int) : List Int :=
  if r < 128 then [r]
  else if r < 2048 then [192 + r / 64, 128 + r % 64]
  else if r < 65536 then [224 + r / 4096, 128 + r / 64 % 64, 128 + r % 64]
  else [240 + r / 262144, 128 + r / 4096 % 64, 128 + r / 64 % 64, 128 + r % 64]
section
variable {w0 w : World} {B o : Nat} {l ys : List Int} {v : Value}
def AddR (w0 : World) (B o : Nat) (l ys : List Int) (r : Int) (e : Ending) (w' : World) : Prop := ∃ v', e = .returned v' ∧ US w0 w' B o l v' (ys ++ encR r)
set_option maxRecDepth 100000 in
set_option maxHeartbeats 4000000 in
theorem f82 (r : Int) (h0 : 128 ≤ r) (h1 : r ≤ 1114111) (hns : ¬ (55296 ≤ r ∧ r ≤ 57343)) (H : US w0 w B o l v ys) (hl : ys.length ≤ 900000) :
    Calls Tryz.prog 82 #[v, .int .i32 r] w (AddR w0 B o l ys r) := by
  have hm : r % 4294967296 = r := by omega
  have HU := Lib.hid H
  clear H
  have hE : encR r = if r < 2048 then [192 + r / 64, 128 + r % 64] else if r < 65536 then [224 + r / 4096, 128 + r / 64 % 64, 128 + r % 64] else [240 + r / 262144, 128 + r / 4096 % 64, 128 + r / 64 % 64, 128 + r % 64] := by
    unfold encR; rw [if_neg (by omega)]
  have HE := Lib.hid hE
  clear hE
  by_cases a1 : r ≤ 2047
  · have e1 : decide (r ≤ 2047) = true := decide_eq_true a1
    go_enter Tryz.func82, Tryz.ntmps82
    go_wp2_with ((with_reducible refine gate_builtin (b := .append) (xs := #[.tmp 14, .tmp 23]) rfl ?_); at_builtin; refine US_put (w0 := w0) rfl (.tmp 14) (.tmp 23) rfl v ys [_, _] _ _ rfl rfl rfl rfl HU.out (by simp; omega) ?_; intro v1 w1 hU1; have HU1 := Lib.hid hU1; clear hU1)
    go_returns
    refine ⟨_, rfl, ?_⟩
    have := HU1.out
    rw [HE.out, if_pos (by omega)]
    exact this
  · have e1 : decide (r ≤ 2047) = false := decide_eq_false a1
    by_cases a2 : r ≤ 65535
    · have a3 : 57343 < r ∨ r < 55296 := by omega
      have e3 : decide (r ≤ 65535) = true := decide_eq_true a2
      rcases a3 with a3 | a3
      · have e4 : decide (r < 55296) = false := decide_eq_false (by omega)
        have e5 : decide (57343 < r) = true := decide_eq_true a3
        go_enter Tryz.func82, Tryz.ntmps82
        go_wp2_with ((with_reducible refine gate_builtin (b := .append) (xs := #[.tmp 34, .tmp 48]) rfl ?_); at_builtin; refine US_put (w0 := w0) rfl (.tmp 34) (.tmp 48) rfl v ys [_, _, _] _ _ rfl rfl rfl rfl HU.out (by simp; omega) ?_; intro v1 w1 hU1; have HU1 := Lib.hid hU1; clear hU1)
        go_returns
        refine ⟨_, rfl, ?_⟩
        have := HU1.out
        rw [HE.out, if_neg (by omega), if_pos (by omega)]
        exact this
      · have e4 : decide (r < 55296) = true := decide_eq_true a3
        go_enter Tryz.func82, Tryz.ntmps82
        go_wp2_with ((with_reducible refine gate_builtin (b := .append) (xs := #[.tmp 34, .tmp 48]) rfl ?_); at_builtin; refine US_put (w0 := w0) rfl (.tmp 34) (.tmp 48) rfl v ys [_, _, _] _ _ rfl rfl rfl rfl HU.out (by simp; omega) ?_; intro v1 w1 hU1; have HU1 := Lib.hid hU1; clear hU1)
        go_returns
        refine ⟨_, rfl, ?_⟩
        have := HU1.out
        rw [HE.out, if_neg (by omega), if_pos (by omega)]
        exact this
    · have e3 : decide (r ≤ 65535) = false := decide_eq_false a2
      have e4 : decide (r < 55296) = false := decide_eq_false (by omega)
      have e5 : decide (57343 < r) = true := decide_eq_true (by omega)
      have e6 : decide (65535 < r) = true := decide_eq_true (by omega)
      have e7 : decide (r ≤ 1114111) = true := decide_eq_true h1
      go_enter Tryz.func82, Tryz.ntmps82
      go_wp2_with ((with_reducible refine gate_builtin (b := .append) (xs := #[.tmp 57, .tmp 76]) rfl ?_); at_builtin; refine US_put (w0 := w0) rfl (.tmp 57) (.tmp 76) rfl v ys [_, _, _, _] _ _ rfl rfl rfl rfl HU.out (by simp; omega) ?_; intro v1 w1 hU1; have HU1 := Lib.hid hU1; clear hU1)
      go_returns
      refine ⟨_, rfl, ?_⟩
      have := HU1.out
      rw [HE.out, if_neg (by omega), if_neg (by omega)]
      exact this
set_option maxRecDepth 100000 in
set_option maxHeartbeats 4000000 in
theorem f67 (r : Int) (h0 : 0 ≤ r) (h1 : r ≤ 1114111) (hns : ¬ (55296 ≤ r ∧ r ≤ 57343)) (H : US w0 w B o l v ys) (hl : ys.length ≤ 900000) :
    Calls Tryz.prog 67 #[v, .int .i32 r] w (AddR w0 B o l ys r) := by
  have hm : r % 4294967296 = r := by omega
  by_cases a1 : r ≤ 127
  · have e1 : decide (r ≤ 127) = true := decide_eq_true a1
    have hm2 : r % 256 = r := by omega
    have HU := Lib.hid H
    clear H
    go_enter Tryz.func67, Tryz.ntmps67
    go_wp2_with ((with_reducible refine gate_builtin (b := .append) (xs := #[.tmp 8, .tmp 11]) rfl ?_); at_builtin; refine US_put (w0 := w0) rfl (.tmp 8) (.tmp 11) rfl v ys [_] _ _ rfl rfl rfl rfl HU.out (by simp; omega) ?_; intro v1 w1 hU1; have HU1 := Lib.hid hU1; clear hU1)
    go_returns
    refine ⟨_, rfl, ?_⟩
    unfold encR
    rw [if_pos (by omega)]
    exact HU1.out
  · have e1 : decide (r ≤ 127) = false := decide_eq_false a1
    have C := Lib.hid (f82 r (by omega) h1 hns H hl)
    clear H
    go_enter Tryz.func67, Tryz.ntmps67
    go_wp2_with (fail)
    refine C.out.mono ?_
    rintro e w1 ⟨v', rfl, hU⟩
    have HU := Lib.hid hU
    clear hU
    go_wp2_with (fail)
    go_returns
    exact ⟨_, rfl, HU.out⟩
end
end Go.Proofs.YtjfbkgkpjkickaaGreatDoor.PAll
