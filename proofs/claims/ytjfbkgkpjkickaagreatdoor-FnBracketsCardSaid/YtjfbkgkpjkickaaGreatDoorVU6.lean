/- The texts of a proof, its declarations alone: part 6. -/
import Derived.Test.YtjfbkgkpjkickaaGreatDoorVU5
set_option linter.unusedVariables false
set_option linter.unusedSimpArgs false
-- YtjfbkgkpjkickaaGreatDoorBm
set_option linter.unusedVariables false
set_option linter.unusedSimpArgs false
namespace Go.Proofs.YtjfbkgkpjkickaaGreatDoor.PAll
open Go.RowKit Go.Proofs.YtjfbkgkpjkickaaGreatDoorW.PrintWords Go.Proofs.YtjfbkgkpjkickaaGreatDoorW.PrintLast Go.Proofs.YtjfbkgkpjkickaaGreatDoorW.PrintMore

/-- all that was there is as it was, but for one block -/
structure BB (F : Nat) (w w' : World) : Prop where
  os : w'.os = w.os
  tape : w'.tape = w.tape
  output : w'.output = w.output
  size : w.heap.size ≤ w'.heap.size
  block : ∀ k, k < w.heap.size → k ≠ F → w'.heap[k]? = w.heap[k]?
theorem BB.refl (F : Nat) (w : World) : BB F w w := ⟨rfl, rfl, rfl, Nat.le_refl _, fun _ _ _ => rfl⟩
theorem BB.trans {F : Nat} {a b c : World} (h : BB F a b) (k : BB F b c) : BB F a c :=
  ⟨k.os.trans h.os, k.tape.trans h.tape, k.output.trans h.output, Nat.le_trans h.size k.size, fun i hi hn => (k.block i (Nat.lt_of_lt_of_le hi h.size) hn).trans (h.block i hi hn)⟩
theorem BB.of {F : Nat} {w w' : World} (h : Below w.heap.size w w') : BB F w w' := ⟨h.os, h.tape, h.output, h.size, fun k hk _ => h.block k hk⟩
theorem BB.next {F : Nat} {w a b : World} (h : BB F w a) (k : Below a.heap.size a b) : BB F w b := h.trans (BB.of k)
theorem BB.set {F : Nat} {w a : World} (h : BB F w a) (j : Nat) (u : Value) : BB F w (a.setCell ⟨F, j, none⟩ u) :=
  ⟨h.os, h.tape, h.output, by rw [World.size_setCell]; exact h.size, fun k hk hn => (Below.heap_setCell a ⟨F, j, none⟩ u k hn).trans (h.block k hk hn)⟩
theorem cell_same {w w' : World} {a : Addr} (h : w'.heap[a.block]? = w.heap[a.block]?) : w'.cell? a = w.cell? a := by
  unfold World.cell?
  rw [h]
theorem BB.cell {F : Nat} {w w' : World} (h : BB F w w') {a : Addr} {v : Value} (hc : w.cell? a = some v) (hn : a.block ≠ F) : w'.cell? a = some v :=
  (cell_same (h.block a.block (World.block_lt_of_cell? w a hc) hn)).trans hc
/-- below a bound that the block is not below, nothing turns -/
theorem BB.below {F N : Nat} {w w' : World} (h : BB F w w') (hN : N ≤ F) (hw : N ≤ w.heap.size) : Below N w w' :=
  ⟨h.os, h.tape, h.output, h.size, fun k hk => h.block k (by omega) (by omega)⟩
theorem Env.lt {w : World} {G : GV} (h : Env w G) : 13 ≤ w.heap.size := by
  have := World.block_lt_of_cell? w _ (h.esc 0 (by decide))
  exact this
theorem Env.bb {F : Nat} {w w' : World} {G : GV} (h : Env w G) (hk : BB F w w') (hF : 13 ≤ F) : Env w' G :=
  ⟨hk.cell h.h0 (by show 0 ≠ F; omega), hk.cell h.h1 (by show 1 ≠ F; omega), hk.cell h.h2 (by show 2 ≠ F; omega), hk.cell h.h5 (by show 5 ≠ F; omega), hk.cell h.h6 (by show 6 ≠ F; omega), hk.cell h.h8 (by show 8 ≠ F; omega), hk.cell h.h9 (by show 9 ≠ F; omega), hk.cell h.h10 (by show 10 ≠ F; omega), hk.cell h.h11 (by show 11 ≠ F; omega),
    fun c hc => hk.cell (h.norm c hc) (by show 7 ≠ F; omega), fun c hc => hk.cell (h.esc c hc) (by show 12 ≠ F; omega), fun c hc => hk.cell (h.first c hc) (by show 3 ≠ F; omega), fun i hi => ⟨hk.cell (h.acc i hi).1 (by show 4 ≠ F; omega), hk.cell (h.acc i hi).2 (by show 4 ≠ F; omega)⟩, h.ne, h.neu, h.nem⟩
theorem RB.bb {F : Nat} {w w' : World} {B o : Nat} {l : List Int} (h : RB w B o l) (hk : BB F w w') (hn : B ≠ F) : RB w' B o l := fun j hj => hk.cell (h j hj) hn

/-- a value's flags -/
def FlAt (w : World) (F : Nat) (f : Int) : Prop := w.heap[F]? = some (.cells #[.int .u64 f] 140 (0, 0))
theorem FlAt.lt {w : World} {F : Nat} {f : Int} (h : FlAt w F f) : F < w.heap.size := (Array.getElem?_eq_some_iff.1 h).1
theorem FlAt.mono {w w' : World} {F : Nat} {f : Int} (h : FlAt w F f) (hb : Below w.heap.size w w') : FlAt w' F f := by unfold FlAt; rw [hb.block F h.lt]; exact h
theorem FlAt.cell {w : World} {F : Nat} {f : Int} (h : FlAt w F f) : w.cell? ⟨F, 0, none⟩ = some (.int .u64 f) := by unfold FlAt at h; simp [World.cell?, h]
theorem FlAt.fz {w : World} {F : Nat} {f : Int} (h : FlAt w F f) : w.frozen? ⟨F, 0, none⟩ = false := by unfold FlAt at h; simp [World.frozen?, h]
theorem FlAt.set {w : World} {F : Nat} {f : Int} (h : FlAt w F f) (g : Int) : FlAt (w.setCell ⟨F, 0, none⟩ (.int .u64 g)) F g := by
  unfold FlAt at *
  rw [setCell_eq_setRow w F 0 _ 140 (0, 0) _ h]
  exact setRow_heap w F _ _ 140 (0, 0) h
/-- the flag that a string cannot be taken as it stands -/
def nv (f : Int) : Prop := f = 1 ∨ f = 3
instance (f : Int) : Decidable (nv f) := by unfold nv; infer_instance
def f03 (f : Int) : Prop := f = 0 ∨ f = 1 ∨ f = 2 ∨ f = 3
instance (f : Int) : Decidable (f03 f) := by unfold f03; infer_instance
/-- where a string's walk stands: text, tables, flags -/
structure StF (w wc : World) (G : GV) (F B o : Nat) (l : List Int) (f : Int) : Prop where
  bb : BB F w wc
  env : Env wc G
  rb : RB wc B o l
  fl : FlAt wc F f
  f4 : f03 f
  hF : 13 ≤ F
  hB : B ≠ F
section
variable {w wc w1 : World} {G : GV} {F B o : Nat} {l : List Int} {f : Int}
theorem StF.start (hE : Env w G) (hr : RB w B o l) (hf : FlAt w F f) (h4 : f03 f) (hF : 13 ≤ F) (hB : B ≠ F) : StF w w G F B o l f := ⟨BB.refl _ _, hE, hr, hf, h4, hF, hB⟩
theorem StF.next (h : StF w wc G F B o l f) (hb : Below wc.heap.size wc w1) : StF w w1 G F B o l f := ⟨h.bb.next hb, h.env.mono hb, h.rb.mono hb, h.fl.mono hb, h.f4, h.hF, h.hB⟩
theorem StF.drewN (h : StF w wc G F B o l f) (m : Nat) : StF w (wc.drewN m) G F B o l f := h.next (pw_below_drewN (Below.refl _ _) m)
theorem StF.join (h : StF w wc G F B o l f) (g : Int) (hg : f03 g) : StF w (wc.setCell ⟨F, 0, none⟩ (.int .u64 g)) G F B o l g := by
  have hb : BB F wc (wc.setCell ⟨F, 0, none⟩ (.int .u64 g)) := (BB.refl _ _).set 0 _
  exact ⟨h.bb.trans hb, h.env.bb hb h.hF, h.rb.bb hb h.hB, h.fl.set g, hg, h.hF, h.hB⟩
end
theorem f177 (F : Nat) (f x : Int) (w : World) (h : FlAt w F f) : Calls Tryz.prog 177 #[.pointer (some ⟨F, 0, none⟩), .int .u64 x] w fun e w' => e = .returned (.tuple #[]) ∧ w' = w.setCell ⟨F, 0, none⟩ (.int .u64 (Go.bits .or .u64 f x)) := by
  have hc := h.cell
  have hz := h.fz
  clear h
  go_enter Tryz.func177, Tryz.ntmps177
  go_wp2_with (fail)
  go_returns
  exact ⟨rfl, rfl⟩
theorem or_flags : ∀ f ∈ [0, 1, 2, 3], ∀ x ∈ [1, 2, 3], f03 (Go.bits .or .u64 f x) ∧ (x ≠ 2 → nv (Go.bits .or .u64 f x)) ∧ (nv f → nv (Go.bits .or .u64 f x)) ∧ (x = 2 → nv (Go.bits .or .u64 f x) → nv f) := by decide +kernel
theorem f177s {w wc : World} {G : GV} {F B o : Nat} {l : List Int} {f : Int} (hS : StF w wc G F B o l f) (x : Int) (hx : x = 1 ∨ x = 2 ∨ x = 3) :
    Calls Tryz.prog 177 #[.pointer (some ⟨F, 0, none⟩), .int .u64 x] wc fun e w1 => e = .returned (.tuple #[]) ∧ ∃ g, StF w w1 G F B o l g ∧ (x ≠ 2 → nv g) ∧ (nv f → nv g) := by
  have hf : f ∈ [0, 1, 2, 3] := by have := hS.f4; unfold f03 at this; simpa using this
  have hx' : x ∈ [1, 2, 3] := by simpa using hx
  obtain ⟨h1, h2, h3, _⟩ := or_flags f hf x hx'
  exact (f177 F f x wc hS.fl).mono fun e w1 ⟨he, hw⟩ => ⟨he, _, by rw [hw]; exact hS.join _ h1, h2, h3⟩
end Go.Proofs.YtjfbkgkpjkickaaGreatDoor.PAll
