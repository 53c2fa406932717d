/- The texts of a proof, its declarations alone: part 1. -/
import Derived.Below
import Derived.Deep.Draws
import Derived.Deep.AppendLies
import Derived.Maps.AppendAt
import Derived.OwnWalk
import Derived.Laws.BytesArg
import Derived.Laws.MakeOwn
import Derived.Laws.OwnMore
import Derived.Deep.OwnRows
import Derived.Tactics
import Derived.Lib.ConvBytes
import Derived.Laws.Slices
import Derived.WalkKit
import Derived.KernelRfl
import Derived.RowKit3
import Derived.Deep.LoopGhost
import Derived.Deep.QuietTactic
import Derived.BigQuiet
import Derived.WideLaws
import Derived.Deep.DeepCutAuto
import Derived.Deep.CutBlock
import Derived.Deep.RegionHeld3
import Derived.Laws.Rows
import Derived.Lib.AppendStr
import Derived.ArgAppend
import Derived.Laws.IdiomCopy
import Derived.RowKit
import Derived.Test.YtjfbkgkpjkickaaGreatDoorVU1
set_option linter.unusedVariables false
set_option linter.unusedSimpArgs false
-- YtjfbkgkpjkickaaGreatDoorWWords
set_option linter.unusedVariables false
set_option linter.unusedSimpArgs false
namespace Go.Proofs.YtjfbkgkpjkickaaGreatDoorW.PrintWords
open Go.RowKit

theorem Drawn0.grown {w w' : World} (h : Drawn0 w w') : Grown w w' := by
  obtain ⟨n, rfl⟩ := h
  induction n with
  | zero => exact Grown.refl _
  | succ n ih => rw [← World.drew_drewN]; exact Grown.drew ih
def nums (k : IntKind) (xs : List Int) : List Value := xs.map fun x => .int k x
theorem nums_length (k : IntKind) (xs : List Int) : (nums k xs).length = xs.length := by simp [nums]
theorem nums_append (k : IntKind) (xs ys : List Int) : nums k (xs ++ ys) = nums k xs ++ nums k ys := by simp [nums]

section
variable {P : Program} {ops : Array Oper} {rest : List Oper} {o : Oper} {a : Act} {Q : Exit → Act → World → Prop}
/-- append(v, x), x of several cells; behind 'at_builtin'; the goal's world is 'W.alloc' of the variadic's box. -/
theorem print_append_cells {w0 W : World} (base : Nat) (hgd : o.guard = none) (s x : Operand) (t e : TypeId) (z : Value) (size bytes : Nat)
    (ho : o.op = .call { callee := .builtin .append, args := #[s, x], argTypes := #[t, t] })
    (ht : P.underlying t = some (.slice e)) (hinfo : (P.info? e).map (fun i => (i.zero, i.size, i.bytes)) = some (some z, size, bytes)) (hz : z.cells.size = size) (hs0 : 0 < size) (hb0 : 0 < bytes)
    (v : Value) (n : Nat) (xs ys : List Value) (hs : a.eval s = v) (hx : a.eval x = .slice (some ⟨W.heap.size, 0, none⟩) 1 1) (hys : ys.length = size) (h1 : ∀ u ∈ ys, u.oneCell' = true)
    (HO : W.ownsRow base e size v n xs) (HB : Below base w0 W) (hbase : base ≤ W.heap.size) (hl : (n + 1) * bytes ≤ 140737488355328)
    (h : ∀ v1 w1, w1.ownsRow base e size v1 (n + 1) (xs ++ ys) → Below base w0 w1 → W.grownBy w1 v.ownBlock → (v1.ownBlock = v.ownBlock ∨ ∃ b, v1.ownBlock = some b ∧ W.heap.size ≤ b) → wpList P ops Q rest (a.put o.dst v1) w1) :
    wpList P ops Q (o :: rest) a (W.alloc (.cells ys.toArray e)) := by
  obtain ⟨i0, hi, hzz⟩ := Option.map_eq_some_iff.1 hinfo
  simp only [Prod.mk.injEq] at hzz
  obtain ⟨hz0, hz1, hz2⟩ := hzz
  have hlen : n + 1 ≤ 140737488355328 := Nat.le_trans (Nat.le_mul_of_pos_right _ hb0) hl
  refine wpList_append_own_at (W.alloc (.cells ys.toArray e)) hgd s x t ho base e i0 z size bytes ht hi hz0 hz1 hz2 hz hs0 v n xs hs (HO.alloc _) ⟨W.heap.size, 0, none⟩ 1 1 ys hx (by rw [hys]; simp)
    (by simpa using World.news_of_block (cs := ys.toArray) (t := e) (fr := (0, 0)) (heap_alloc_new W (.cells ys.toArray e))) h1 (by simp only [maxLen]; omega) hl (by simp; omega) ?_
  intro v1 w1 hown hg _ hat
  refine h v1 w1 hown ((HB.alloc hbase _).grown hg (by simp; omega) (own_base HO)) (World.grownBy.trans (World.grownBy_alloc W _ _) hg) ?_
  rcases hat with hat | hat
  · exact .inl hat
  · exact .inr ⟨_, hat, by simp⟩
end

section
variable {α : Type} {R R' : α → List Value → Prop} {e : TypeId} {size : Nat} {w w1 : World} {base : Nat} {v : Value} {ps : List α}
theorem OwnRow.lower (h : OwnRow R e size w base v ps) {base' : Nat} (hb : base' ≤ base) : OwnRow R e size w base' v ps := by
  obtain ⟨inner, ho, hr⟩ := h
  exact ⟨inner, own_weaken ho hb, hr⟩
end
section
variable {P : Program} {ops : Array Oper} {rest : List Oper} {o : Oper} {a : Act} {Q : Exit → Act → World → Prop} {α : Type} {R : α → List Value → Prop}
/-- append(v, x): x's cells are cs. R is that of the world AHEAD; move it over hg ('OwnRow.imp_'). -/
theorem OwnRow.append {w0 W : World} (base : Nat) (hgd : o.guard = none) (s x : Operand) (t e : TypeId) (z : Value) (size bytes : Nat)
    (ho : o.op = .call { callee := .builtin .append, args := #[s, x], argTypes := #[t, t] })
    (ht : P.underlying t = some (.slice e)) (hinfo : (P.info? e).map (fun i => (i.zero, i.size, i.bytes)) = some (some z, size, bytes)) (hz : z.cells.size = size) (hs0 : 0 < size) (hb0 : 0 < bytes)
    (v : Value) (ps : List α) (p : α) (cs : List Value) (hs : a.eval s = v) (hx : a.eval x = .slice (some ⟨W.heap.size, 0, none⟩) 1 1) (hp : R p cs) (hcs : cs.length = size) (h1 : ∀ u ∈ cs, u.oneCell' = true)
    (HO : OwnRow R e size W base v ps) (HB : Below base w0 W) (hbase : base ≤ W.heap.size) (hl : (ps.length + 1) * bytes ≤ 140737488355328)
    (h : ∀ v1 w1, OwnRow R e size w1 base v1 (ps ++ [p]) → Below base w0 w1 → W.grownBy w1 v.ownBlock → (v1.ownBlock = v.ownBlock ∨ ∃ b, v1.ownBlock = some b ∧ W.heap.size ≤ b) → wpList P ops Q rest (a.put o.dst v1) w1) :
    wpList P ops Q (o :: rest) a (W.alloc (.cells cs.toArray e)) := by
  obtain ⟨inner, hown, hr⟩ := HO
  refine print_append_cells base hgd s x t e z size bytes ho ht hinfo hz hs0 hb0 v ps.length inner cs hs hx hcs h1 hown HB hbase hl ?_
  intro v1 w1 hown1 hb1 hg1 hat1
  exact h v1 w1 ⟨inner ++ cs, by rw [List.length_append, List.length_singleton]; exact hown1, hr.snoc hp hcs⟩ hb1 hg1 hat1
end
namespace Kd
section
variable {α β : Type} {d : Kd α} {d' : Kd β} {e e' : Nat} {w w1 W : World} {base b b' : Nat} {ok ok' okv oku : Nat → Prop} {v u : Value} {xs : List α} {ys : List β}
theorem C_alloc {A : Option Addr} {n : Nat} (h : d.C w A n xs) (o : Obj) : d.C (w.alloc o) A n xs := C_below h (below_alloc (Below.refl _ _) o)
theorem C_drew {A : Option Addr} {n : Nat} (h : d.C w A n xs) : d.C w.drew A n xs := C_below h (below_drew (Below.refl _ _))
theorem C_drewN {A : Option Addr} {n : Nat} (h : d.C w A n xs) (m : Nat) : d.C (w.drewN m) A n xs := C_below h (pw_below_drewN (Below.refl _ _) m)
end
end Kd
end Go.Proofs.YtjfbkgkpjkickaaGreatDoorW.PrintWords
-- YtjfbkgkpjkickaaGreatDoorWArr
namespace Go.Proofs.YtjfbkgkpjkickaaGreatDoorW.PrintWords
open Go.RowKit
namespace Kd
theorem reps_one {α : Type} {R : α → List Value → Prop} {size : Nat} {ps : List α} {cs : List Value} (h : Reps R size ps cs) (hs0 : 0 < size) (hR : ∀ p c, R p c → ∀ u ∈ c, u.oneCell' = true) : ∀ u ∈ cs, u.oneCell' = true := by
  intro u hu
  obtain ⟨q, hq, rfl⟩ := List.mem_iff_getElem.1 hu
  have hql : q / size < ps.length := by
    rw [Nat.div_lt_iff_lt_mul hs0, ← h.1]
    exact hq
  refine hR _ _ (h.2 (q / size) _ (List.getElem?_eq_getElem hql)) _ ?_
  rw [List.mem_iff_getElem?]
  refine ⟨q % size, ?_⟩
  rw [List.getElem?_take, if_pos (Nat.mod_lt _ hs0), List.getElem?_drop, Nat.mul_comm, Nat.div_add_mod, List.getElem?_eq_getElem hq]
/-- An array of n elements of kind d. -/
def arr {α : Type} (n : Nat) (d : Kd α) (hs : 0 < d.sz) : Kd (List α) where
  sz := n * d.sz
  E := d.E
  K := fun w xs cs => xs.length = n ∧ Reps (d.K w) d.sz xs cs
  M := fun w base ok xs cs => xs.length = n ∧ Reps (d.M w base ok) d.sz xs cs
  K_len := fun h => by rw [← h.1]; exact h.2.1
  K_one := fun h => reps_one h.2 hs (fun _ _ hk => d.K_one hk)
  K_below := fun hb h => ⟨h.1, h.2.imp_ (fun _ _ hk => d.K_below hb hk)⟩
  K_of_M := fun h => ⟨h.1, h.2.imp_ (fun _ _ hk => d.K_of_M hk)⟩
  M_mono := fun hok h => ⟨h.1, h.2.imp_ (fun _ _ hk => d.M_mono hok hk)⟩
  M_bound := fun h => ⟨h.1, h.2.imp_ (fun _ _ hk => d.M_bound hk)⟩
  M_move := fun hm h => ⟨h.1, h.2.imp_ (fun _ _ hk => d.M_move hm hk)⟩
  M_lower := fun hb h => ⟨h.1, h.2.imp_ (fun _ _ hk => d.M_lower hb hk)⟩
end Kd
end Go.Proofs.YtjfbkgkpjkickaaGreatDoorW.PrintWords
-- YtjfbkgkpjkickaaGreatDoorWMore
namespace Go.Proofs.YtjfbkgkpjkickaaGreatDoorW.PrintWords
open Go.RowKit
section
variable {P : Program} {ops : Array Oper} {rest : List Oper} {o : Oper} {a : Act} {Q : Exit → Act → World → Prop} {W : World}
/-- The operation is a builtin over these places. -/
theorem gate_builtin {b : Builtin} {xs : Array Operand} {ts : Array TypeId} (_ho : o.op = .call { callee := .builtin b, args := xs, argTypes := ts }) (h : wpList P ops Q (o :: rest) a W) : wpList P ops Q (o :: rest) a W := h
end
end Go.Proofs.YtjfbkgkpjkickaaGreatDoorW.PrintWords
