/- The texts of a proof, its declarations alone: part 1. -/
import Derived.Below
import Derived.Deep.Draws
import Derived.Deep.AppendLies
import Derived.Maps.AppendAt
import Derived.OwnWalk
import Derived.Laws.BytesArg
import Derived.Laws.MakeOwn
import Derived.Laws.OwnMore
import Derived.Deep.OwnRows
import Derived.Tactics
import Derived.Lib.ConvBytes
import Derived.Laws.Slices
import Derived.WalkKit
import Derived.KernelRfl
import Derived.RowKit3
import Derived.Deep.LoopGhost
import Derived.Deep.QuietTactic
import Derived.BigQuiet
import Derived.WideLaws
import Derived.Deep.DeepCutAuto
import Derived.Deep.CutBlock
import Derived.Deep.RegionHeld3
import Derived.Laws.Rows
import Derived.Lib.AppendStr
import Derived.ArgAppend
import Derived.Laws.IdiomCopy
import Derived.RowKit
import Derived.Test.YtjfbkgkpjkickaaGreatDoorVU1
set_option linter.unusedVariables false
set_option linter.unusedSimpArgs false
-- YtjfbkgkpjkickaaGreatDoorWWords
set_option linter.unusedVariables false
set_option linter.unusedSimpArgs false
namespace Go.Proofs.YtjfbkgkpjkickaaGreatDoorW.PrintWords
open Go.RowKit

theorem Drawn0.grown {w w' : World} (h : Drawn0 w w') : Grown w w' := by
  obtain ⟨n, rfl⟩ := h
  induction n with
  | zero => exact Grown.refl _
  | succ n ih => rw [← World.drew_drewN]; exact Grown.drew ih
def nums (k : IntKind) (xs : List Int) : List Value := xs.map fun x => .int k x
theorem nums_length (k : IntKind) (xs : List Int) : (nums k xs).length = xs.length := by simp [nums]
theorem nums_append (k : IntKind) (xs ys : List Int) : nums k (xs ++ ys) = nums k xs ++ nums k ys := by simp [nums]

theorem own_string {P : Program} {w : World} {base n : Nat} {e' src dst e : TypeId} {v : Value} {xs : List Int} (hs : P.underlying src = some (.slice e)) (he : P.underlying e = some (.int .u8)) (hd : P.underlying dst = some .string)
    (h : w.ownsRow base e' 1 v n (nums .u8 xs)) : (convert src dst v).run P w = .ok (.string (strOfNums xs)) w := by
  have hl : xs.length = n := by have := h.1; simp [nums] at this; exact this
  rcases h.2 with ⟨rfl, rfl⟩ | ⟨g, cap, cur, rfl, _⟩
  · obtain rfl : xs = [] := List.eq_nil_of_length_eq_zero hl
    exact run_convert_bytes_nil w src e hs he 0 0 dst hd
  · refine run_convert_bytes_arg w src e hs he g 0 n cap xs hl (fun i hi => ?_) dst hd
    have hc := h.cells (g := g) rfl i (.int .u8 (xs.getD i 0)) (by simp [nums, List.getElem?_eq_getElem (show i < xs.length by omega), List.getD_eq_getElem?_getD])
    have ha : (⟨g, 0, none⟩ : Addr).add i = ⟨g, 0 + i, none⟩ := by unfold Addr.add; split <;> simp_all
    rwa [ha] at hc

section
variable {P : Program} {ops : Array Oper} {rest : List Oper} {o : Oper} {a : Act} {Q : Exit → Act → World → Prop}
/-- append(v, x), x of several cells; behind 'at_builtin'; the goal's world is 'W.alloc' of the variadic's box. -/
theorem print_append_cells {w0 W : World} (base : Nat) (hgd : o.guard = none) (s x : Operand) (t e : TypeId) (z : Value) (size bytes : Nat)
    (ho : o.op = .call { callee := .builtin .append, args := #[s, x], argTypes := #[t, t] })
    (ht : P.underlying t = some (.slice e)) (hinfo : (P.info? e).map (fun i => (i.zero, i.size, i.bytes)) = some (some z, size, bytes)) (hz : z.cells.size = size) (hs0 : 0 < size) (hb0 : 0 < bytes)
    (v : Value) (n : Nat) (xs ys : List Value) (hs : a.eval s = v) (hx : a.eval x = .slice (some ⟨W.heap.size, 0, none⟩) 1 1) (hys : ys.length = size) (h1 : ∀ u ∈ ys, u.oneCell' = true)
    (HO : W.ownsRow base e size v n xs) (HB : Below base w0 W) (hbase : base ≤ W.heap.size) (hl : (n + 1) * bytes ≤ 140737488355328)
    (h : ∀ v1 w1, w1.ownsRow base e size v1 (n + 1) (xs ++ ys) → Below base w0 w1 → W.grownBy w1 v.ownBlock → (v1.ownBlock = v.ownBlock ∨ ∃ b, v1.ownBlock = some b ∧ W.heap.size ≤ b) → wpList P ops Q rest (a.put o.dst v1) w1) :
    wpList P ops Q (o :: rest) a (W.alloc (.cells ys.toArray e)) := by
  obtain ⟨i0, hi, hzz⟩ := Option.map_eq_some_iff.1 hinfo
  simp only [Prod.mk.injEq] at hzz
  obtain ⟨hz0, hz1, hz2⟩ := hzz
  have hlen : n + 1 ≤ 140737488355328 := Nat.le_trans (Nat.le_mul_of_pos_right _ hb0) hl
  refine wpList_append_own_at (W.alloc (.cells ys.toArray e)) hgd s x t ho base e i0 z size bytes ht hi hz0 hz1 hz2 hz hs0 v n xs hs (HO.alloc _) ⟨W.heap.size, 0, none⟩ 1 1 ys hx (by rw [hys]; simp)
    (by simpa using World.news_of_block (cs := ys.toArray) (t := e) (fr := (0, 0)) (heap_alloc_new W (.cells ys.toArray e))) h1 (by simp only [maxLen]; omega) hl (by simp; omega) ?_
  intro v1 w1 hown hg _ hat
  refine h v1 w1 hown ((HB.alloc hbase _).grown hg (by simp; omega) (own_base HO)) (World.grownBy.trans (World.grownBy_alloc W _ _) hg) ?_
  rcases hat with hat | hat
  · exact .inl hat
  · exact .inr ⟨_, hat, by simp⟩
end

theorem blk_set {w : World} {g : Nat} {t : TypeId} {cs : Array Value} (h : w.heap[g]? = some (.cells cs t (0, 0))) (i : Nat) (u : Value) : (w.setCell ⟨g, i, none⟩ u).heap[g]? = some (.cells (cs.setIfInBounds i u) t (0, 0)) := by
  simp [World.setCell, Array.getElem?_modify, h]
section
variable {α : Type} {enc : α → Value} {d : α}
def encs (enc : α → Value) (xs : List α) : List Value := xs.map enc
theorem encs_length (xs : List α) : (encs enc xs).length = xs.length := by simp [encs]
end
section
variable {P : Program} {ops : Array Oper} {rest : List Oper} {o : Oper} {a : Act} {Q : Exit → Act → World → Prop} {α : Type} {R : α → List Value → Prop}
/-- append(v, x): x's cells are cs. R is that of the world AHEAD; move it over hg ('OwnRow.imp_'). -/
theorem OwnRow.append {w0 W : World} (base : Nat) (hgd : o.guard = none) (s x : Operand) (t e : TypeId) (z : Value) (size bytes : Nat)
    (ho : o.op = .call { callee := .builtin .append, args := #[s, x], argTypes := #[t, t] })
    (ht : P.underlying t = some (.slice e)) (hinfo : (P.info? e).map (fun i => (i.zero, i.size, i.bytes)) = some (some z, size, bytes)) (hz : z.cells.size = size) (hs0 : 0 < size) (hb0 : 0 < bytes)
    (v : Value) (ps : List α) (p : α) (cs : List Value) (hs : a.eval s = v) (hx : a.eval x = .slice (some ⟨W.heap.size, 0, none⟩) 1 1) (hp : R p cs) (hcs : cs.length = size) (h1 : ∀ u ∈ cs, u.oneCell' = true)
    (HO : OwnRow R e size W base v ps) (HB : Below base w0 W) (hbase : base ≤ W.heap.size) (hl : (ps.length + 1) * bytes ≤ 140737488355328)
    (h : ∀ v1 w1, OwnRow R e size w1 base v1 (ps ++ [p]) → Below base w0 w1 → W.grownBy w1 v.ownBlock → (v1.ownBlock = v.ownBlock ∨ ∃ b, v1.ownBlock = some b ∧ W.heap.size ≤ b) → wpList P ops Q rest (a.put o.dst v1) w1) :
    wpList P ops Q (o :: rest) a (W.alloc (.cells cs.toArray e)) := by
  obtain ⟨inner, hown, hr⟩ := HO
  refine print_append_cells base hgd s x t e z size bytes ho ht hinfo hz hs0 hb0 v ps.length inner cs hs hx hcs h1 hown HB hbase hl ?_
  intro v1 w1 hown1 hb1 hg1 hat1
  exact h v1 w1 ⟨inner ++ cs, by rw [List.length_append, List.length_singleton]; exact hown1, hr.snoc hp hcs⟩ hb1 hg1 hat1
end
namespace Kd
section
variable {α : Type} {d : Kd α} {e : Nat} {w w1 : World} {base : Nat} {ok ok' : Nat → Prop} {v : Value} {xs : List α}
theorem M_step {x : α} {cs : List Value} (h : d.M w base ok x cs) (hm : ∀ k, ok k → k < w.heap.size → w1.heap[k]? = w.heap[k]?) : d.M w1 base ok x cs :=
  d.M_mono (fun _ hk => hk.1) (d.M_move (fun k hk => hm k hk.1 hk.2.2.1) (d.M_bound h))
theorem M_below {x : α} {cs : List Value} (h : d.M w base ok x cs) (hb : Below w.heap.size w w1) : d.M w1 base ok x cs := M_step h (fun k _ hk => hb.block k hk)
end

theorem own_of_R {α : Type} {enc : α → Value} {h1 : ∀ x, (enc x).oneCell' = true} {e : Nat} {w : World} {base : Nat} {ok : Nat → Prop} {v : Value} {xs : List α} (h : (scalar enc h1).R e w base ok v xs) : w.ownsRow base e 1 v xs.length (encs enc xs) := by
  obtain ⟨_, inner, ho, hr⟩ := h
  have : inner = encs enc xs := by
    apply List.ext_getElem?
    intro j
    rcases Nat.lt_or_ge j xs.length with hj | hj
    · have h2 := hr.2 j _ (List.getElem?_eq_getElem hj)
      have hl : j < inner.length := by have := hr.1; simp [scalar] at this; omega
      have h3 : (inner.drop (j * 1)).take 1 = [enc xs[j]] := h2
      rw [Nat.mul_one, List.drop_eq_getElem_cons hl] at h3
      have h4 : inner[j] = enc xs[j] := by
        have h5 := congrArg List.head? h3
        rw [List.take_succ_cons] at h5
        exact Option.some.inj h5
      rw [List.getElem?_eq_getElem hl, h4]
      simp [encs, List.getElem?_eq_getElem hj]
    · have h3 : inner.length = xs.length := by have := hr.1; simp [scalar] at this; omega
      rw [List.getElem?_eq_none (by omega), List.getElem?_eq_none (by rw [encs_length]; omega)]
  rw [← this]
  exact ho
end Kd
namespace Kd
section
variable {P : Program} {ops : Array Oper} {rest : List Oper} {o : Oper} {a : Act} {Q : Exit → Act → World → Prop}
variable {α : Type}
/-- A literal '[]T{..}': inner its cells. 'hd' picks the operation; 'hrun' by '(by go_simp; rfl)'. -/
theorem R_lit (d : Kd α) {w0 W : World} (base e : Nat) (hgd : o.guard = none) {N : Tmp} (_hd : o.dst = some N) {xs : List α} {inner : List Value} {ok okp : Nat → Prop}
    (hrun : (execOp a.eval o).run P W = .ok (.value (.slice (some ⟨W.heap.size, 0, none⟩) xs.length xs.length)) (W.alloc (.cells inner.toArray e)))
    (hrep : Reps (d.M W base okp) d.sz xs inner) (hok : ∀ k, okp k → ok k) (hfresh : ok W.heap.size) (HB : Below base w0 W) (hbase : base ≤ W.heap.size) (hm : xs.length ≤ 9223372036854775807)
    (h : ∀ v1 w1, d.R e w1 base ok v1 xs → Below base w0 w1 → W.grownBy w1 none → (∃ b, v1.ownBlock = some b ∧ W.heap.size ≤ b) → wpList P ops Q rest (a.put o.dst v1) w1) : wpList P ops Q (o :: rest) a W := by
  refine event_run hgd hrun (h _ _ ⟨fun k hk => ?_, inner, ?_, ?_⟩ (HB.alloc hbase _) (World.grownBy_alloc W _ none) ⟨W.heap.size, by simp [Value.ownBlock], Nat.le_refl _⟩)
  · have : W.heap.size = k := by simpa [Value.ownBlock] using hk
    subst this
    exact hfresh
  · have h2 := World.ownsRow_lit (base := base) (e := e) (size := d.sz) W inner.toArray xs.length hbase (by simpa [maxLen] using hm) (by simpa using hrep.1)
    simpa using h2
  · refine hrep.imp_ (fun p c hp => d.M_mono (fun k hk => ⟨hok k hk.1, fun he => ?_⟩) (M_below (d.M_bound hp) (below_alloc (Below.refl _ _) _)))
    have h3 : k = W.heap.size := by simpa [Value.ownBlock] using he
    have := hk.2.2.1
    omega
end
end Kd
section
variable {w w1 : World} {base n size : Nat} {e : TypeId} {v : Value} {xs : List Value}
/-- What a run of cells written leaves. -/
theorem setCells_far {g : Nat} : ∀ (vs : List Value) (o : Nat) {w : World} (k : Nat), k ≠ g → (w.setCells g o vs).heap[k]? = w.heap[k]?
  | [], _, _, _, _ => rfl
  | v :: r, o, w, k, hk => by
    rw [World.setCells, setCells_far r (o + 1) k hk]
    exact Below.heap_setCell w ⟨g, o, none⟩ v k hk
theorem setCells_same (g : Nat) : ∀ (vs : List Value) (o : Nat) (w : World), (w.setCells g o vs).os = w.os ∧ (w.setCells g o vs).tape = w.tape ∧ (w.setCells g o vs).output = w.output ∧ (w.setCells g o vs).heap.size = w.heap.size
  | [], _, _ => ⟨rfl, rfl, rfl, rfl⟩
  | v :: r, o, w => by
    obtain ⟨h1, h2, h3, h4⟩ := setCells_same g r (o + 1) (w.setCell ⟨g, o, none⟩ v)
    rw [World.setCells]
    exact ⟨h1, h2, h3, by rw [h4]; simp [World.setCell]⟩
theorem setCells_row {g : Nat} {e : TypeId} : ∀ (vs : List Value) (o : Nat) (w : World) (cur : Array Value), w.heap[g]? = some (.cells cur e (0, 0)) → o + vs.length ≤ cur.size →
    ∃ cur', (w.setCells g o vs).heap[g]? = some (.cells cur' e (0, 0)) ∧ cur'.size = cur.size ∧ cur'.toList = cur.toList.take o ++ vs ++ cur.toList.drop (o + vs.length)
  | [], o, w, cur, h, _ => ⟨cur, h, rfl, by simp⟩
  | v :: r, o, w, cur, h, hl => by
    have h2 := blk_set h o v
    simp only [List.length_cons] at hl
    obtain ⟨cur', h3, h4, h5⟩ := setCells_row r (o + 1) (w.setCell ⟨g, o, none⟩ v) _ h2 (by simp; omega)
    refine ⟨cur', h3, by rw [h4]; simp, ?_⟩
    rw [h5, Array.toList_setIfInBounds]
    have ho : o < cur.toList.length := by rw [Array.length_toList]; omega
    rw [List.take_set, List.drop_set_of_lt (by omega)]
    simp only [List.length_cons]
    rw [show o + 1 + r.length = o + (r.length + 1) by omega]
    congr 1
    rw [List.take_succ_eq_append_getElem ho, List.set_append_right _ _ (by rw [List.length_take]; omega)]
    have ho' : o < cur.size := by omega
    simp [Nat.min_eq_left (Nat.le_of_lt ho')]
end
end Go.Proofs.YtjfbkgkpjkickaaGreatDoorW.PrintWords
-- YtjfbkgkpjkickaaGreatDoorWZeros
namespace Go.Proofs.YtjfbkgkpjkickaaGreatDoorW.PrintWords
open Go.RowKit
section
variable {P : Program}
theorem run_append_zeros (w : World) (base : Nat) (t ti ty e : TypeId) (i : TypeInfo) (z : Value) (size bytes : Nat) (ht : P.underlying t = some (.slice e)) {k : IntKind} (hti : P.underlying ti = some (.int k)) (hi : P.info? e = some i) (hz : i.zero = some z)
    (hsize : i.size = size) (hby : i.bytes = bytes) (hzs : z.cells.size = size) (hsz : 0 < size) (hb0 : 0 < bytes)
    (v : Value) (n : Nat) (xs : List Value) (hown : w.ownsRow base e size v n xs) (kx : IntKind) (m : Nat) (h1 : ∀ u ∈ (Builtin.zeroCells z.cells m).toList, u.oneCell' = true)
    (hbytes : (n + m) * bytes ≤ 140737488355328) (hbase : base ≤ w.heap.size) :
    ∃ v' w', (Builtin.append_ #[t, ti] ty #[v, .int kx m]).run P w = .ok v' w' ∧ w'.ownsRow base e size v' (n + m) (xs ++ (Builtin.zeroCells z.cells m).toList) ∧ w.grownBy w' v.ownBlock ∧
      (v'.ownBlock = v.ownBlock ∨ v'.ownBlock = some w.heap.size) := by
  subst hsize
  subst hby
  have hle : n + m ≤ 140737488355328 := Nat.le_trans (Nat.le_mul_of_pos_right _ hb0) hbytes
  have h63 : n + m ≤ maxLen := by simp only [maxLen]; omega
  have hw : IntKind.i64.wrap (m : Int) = m := by rw [IntKind.wrap_i64]; omega
  have hw0 : IntKind.i64.wrap 0 = 0 := by rw [IntKind.wrap_i64]; rfl
  have hneg : ¬ ((m : Int) < 0) := by omega
  have hmb : m * i.bytes ≤ 140737488355328 := Nat.le_trans (Nat.mul_le_mul_right _ (Nat.le_add_left m n)) hbytes
  have hbig : ¬ (281474976710656 < (m : Int) * (i.bytes : Int)) := by
    rw [← Int.natCast_mul]
    omega
  have hsn : i.size ≠ 0 := by omega
  obtain ⟨news, hnews⟩ : ∃ news, news = (Builtin.zeroCells z.cells m).toList := ⟨_, rfl⟩
  rw [← hnews] at h1 ⊢
  have hl : news.length = m * i.size := by rw [hnews, Array.length_toList, size_zeroCells, hzs]
  have hna : Builtin.zeroCells z.cells m = news.toArray := by rw [hnews]
  have hlen : (xs ++ news).length = (n + m) * i.size := by rw [List.length_append, hown.1, hl, Nat.add_mul]
  have hnil : m = 0 → news = [] := fun h => List.eq_nil_of_length_eq_zero (by rw [hl, h, Nat.zero_mul])
  have grown : ∀ (old : Nat), old < n + m → ∀ (row : Option Nat),
      (w.drew.alloc (.cells (xs.toArray ++ news.toArray ++ Builtin.zeroCells z.cells (grownCap w (n + m) old e - (n + m))) e)).ownsRow base e i.size
        (.slice (some ⟨w.heap.size, 0, none⟩) (n + m) (grownCap w (n + m) old e)) (n + m) (xs ++ news) ∧
      w.grownBy (w.drew.alloc (.cells (xs.toArray ++ news.toArray ++ Builtin.zeroCells z.cells (grownCap w (n + m) old e - (n + m))) e)) row := by
    intro old ho row
    have hge := grownCap_ge w (n + m) old e
    have hcm : grownCap w (n + m) old e ≤ maxLen := grownCap_le_maxLen w (n + m) old e h63
    refine ⟨⟨hlen, .inr ⟨w.heap.size, _, _, rfl, hbase, heap_alloc_new w.drew _, hge, hcm, ?_, ?_⟩⟩, ⟨rfl, rfl, rfl, by simp, fun k hk _ => heap_alloc_old w.drew _ hk⟩⟩
    · simp only [Array.size_append, List.size_toArray, size_zeroCells, hzs, hown.1, hl, ← Nat.add_mul]
      congr 1
      omega
    · simp only [Array.toList_append, List.append_assoc]
      rw [← List.append_assoc, ← hlen]
      exact List.take_left
  have runs : ∀ (A : Option Addr) (cap : Nat), cap < n + m → (Builtin.firstCells i.size n (.slice A n cap)).run P w.drew = .ok xs.toArray w.drew → (Builtin.append_ #[t, ti] ty #[.slice A n cap, .int kx m]).run P w =
      .ok (.slice (some ⟨w.heap.size, 0, none⟩) (n + m) (grownCap w (n + m) cap e)) (w.drew.alloc (.cells (xs.toArray ++ news.toArray ++ Builtin.zeroCells z.cells (grownCap w (n + m) cap e - (n + m))) e)) := by
    intro A cap hcap hfo
    have hn : ¬ (n + m ≤ cap) := by omega
    have h63' : ¬ (9223372036854775807 < ((n : Int) + (m : Int))) := by omega
    have hfit := growslice_fits hcap hbytes
    have h48' : ¬ (281474976710656 < Builtin.nextslicecap (n + m) cap * i.bytes) := by omega
    by_cases hm : m = 0
    · have hnl := hnil hm
      subst hm
      rw [hnl]
      simp only [Nat.add_zero] at hn h63' h48' ⊢
      have h63'' : ¬ (9223372036854775807 < (n : Int)) := by omega
      simp [Builtin.append_, run_underlying ht, run_underlying hti, sizeOf, typeInfo, zeroValue, hi, hz, asInt, asIntOf, hw0, hn, h63'', h48', Question.forced, hfo, newRow, grownCap]
    · have hmz : ¬ (m * i.size = 0) := Nat.mul_ne_zero hm hsn
      simp [Builtin.append_, run_underlying ht, run_underlying hti, sizeOf, typeInfo, zeroValue, hi, hz, asInt, asIntOf, hw, hneg, hbig, hn, h63', h48', Question.forced, hfo, newRow, grownCap, hmz, hna]
      congr 2
      apply Array.ext'
      simp [List.append_assoc]
  rcases hown.2 with ⟨rfl, rfl⟩ | ⟨g, cap, cur, rfl, hbg, hg, hnc, hcm, hcs, htake⟩
  · have hx : xs = [] := List.eq_nil_of_length_eq_zero (by simpa using hown.1)
    subst hx
    by_cases hm : m = 0
    · have hnl := hnil hm
      subst hm
      rw [hnl]
      refine ⟨.slice none 0 0, w, ?_, World.ownsRow_nil w base e i.size, ⟨rfl, rfl, rfl, Nat.le_refl _, fun _ _ _ => rfl⟩, Or.inl rfl⟩
      simp [Builtin.append_, run_underlying ht, run_underlying hti, sizeOf, typeInfo, hi, asInt, asIntOf, hw0]
    · have hgr := grown 0 (by omega) (Value.ownBlock (.slice none 0 0))
      exact ⟨_, _, runs none 0 (by omega) (by simp [Builtin.firstCells]), hgr.1, hgr.2, Or.inr rfl⟩
  · by_cases hroom : n + m ≤ cap
    · have hfit : n * i.size + news.length ≤ cur.size := by rw [hl, hcs, ← Nat.add_mul]; exact Nat.mul_le_mul_right _ hroom
      obtain ⟨cur', h3, h4, h5⟩ := setCells_row news (n * i.size) w cur hg hfit
      obtain ⟨s1, s2, s3, s4⟩ := setCells_same g news (n * i.size) w
      have hst := run_storeCells_cells (P := P) g (n * i.size) news 0 w (fun j hj => by rw [cell_of_row w g _ cur e (0, 0) hg]; simp; omega) (fun j _ => blk_frozen hg _) h1
      simp only [Nat.add_zero] at hst
      refine ⟨.slice (some ⟨g, 0, none⟩) (n + m) cap, w.setCells g (n * i.size) news, ?_, ⟨hlen, .inr ⟨g, cap, cur', rfl, hbg, h3, hroom, hcm, by rw [h4, hcs], ?_⟩⟩, ⟨s1, s2, s3, by rw [s4]; exact Nat.le_refl _, fun k _ hk => setCells_far news _ k (fun e => hk (by simp [Value.ownBlock, e]))⟩, Or.inl rfl⟩
      · by_cases hm : m = 0
        · have hnl := hnil hm
          subst hm
          rw [hnl] at hst ⊢
          simp [Builtin.append_, run_underlying ht, run_underlying hti, sizeOf, typeInfo, hi, asInt, asIntOf, hw0, hnc, add_plain, hst]
        · have hmz : ¬ (m * i.size = 0) := Nat.mul_ne_zero hm hsn
          simp [Builtin.append_, run_underlying ht, run_underlying hti, sizeOf, typeInfo, zeroValue, hi, hz, asInt, asIntOf, hw, hneg, hbig, hroom, hmz, hna, add_plain, hst]
      · rw [h5]
        have h6 : cur.toList.take (n * i.size) = xs := htake
        rw [h6, ← hlen]
        exact List.take_left
    · have holds : ∀ j u, xs[j]? = some u → w.cell? ((⟨g, 0, none⟩ : Addr).add j) = some u := hown.cells (g := g) rfl
      have hgr := grown cap (by omega) (Value.ownBlock (.slice (some ⟨g, 0, none⟩) n cap))
      exact ⟨_, _, runs (some ⟨g, 0, none⟩) cap (by omega) (run_firstCells_some (P := P) w.drew i.size n _ n cap xs hown.1 (by simpa using holds)), hgr.1, hgr.2, Or.inr rfl⟩
end
end Go.Proofs.YtjfbkgkpjkickaaGreatDoorW.PrintWords
-- YtjfbkgkpjkickaaGreatDoorWShare
namespace Go.Proofs.YtjfbkgkpjkickaaGreatDoorW.PrintWords
open Go.RowKit
namespace Foot
variable {P Q : World → Prop} {W W1 : World} {ok ok' : Nat → Prop}
theorem bound (h : Foot P W ok) : Foot P W (fun k => ok k ∧ k < W.heap.size) := fun W' hW => h W' (fun k hk hlt => hW k ⟨hk, hlt⟩ hlt)
theorem imp (h : Foot P W ok) (hi : ∀ W', P W' → Q W') : Foot Q W ok := fun W' hW => hi W' (h W' hW)
/-- Moved, and still elder than what is new since W. -/
theorem old (h : Foot P W ok) (hb : Below W.heap.size W W1) : Foot P W1 (fun k => ok k ∧ k < W.heap.size) := (h.bound).step (fun k _ hlt => hb.block k hlt)
end Foot
end Go.Proofs.YtjfbkgkpjkickaaGreatDoorW.PrintWords
-- YtjfbkgkpjkickaaGreatDoorWMore
namespace Go.Proofs.YtjfbkgkpjkickaaGreatDoorW.PrintWords
open Go.RowKit
section
variable {P : Program} {ops : Array Oper} {rest : List Oper} {o : Oper} {a : Act} {Q : Exit → Act → World → Prop} {W : World}
/-- The operation is a builtin over these places. -/
theorem gate_builtin {b : Builtin} {xs : Array Operand} {ts : Array TypeId} (_ho : o.op = .call { callee := .builtin b, args := xs, argTypes := ts }) (h : wpList P ops Q (o :: rest) a W) : wpList P ops Q (o :: rest) a W := h
end
end Go.Proofs.YtjfbkgkpjkickaaGreatDoorW.PrintWords
