/- The texts of a proof, its declarations alone: part 4. -/
import Derived.Test.YtjfbkgkpjkickaaGreatDoorVU2
import Derived.Test.YtjfbkgkpjkickaaGreatDoorVU3
import Derived.Test.YtjfbkgkpjkickaaGreatDoorVU4
import Derived.Test.YtjfbkgkpjkickaaGreatDoorVU5
import Derived.Test.YtjfbkgkpjkickaaGreatDoorVU6
import Derived.Test.YtjfbkgkpjkickaaGreatDoorVU7
import Derived.Test.YtjfbkgkpjkickaaGreatDoorVU8
import Derived.Test.YtjfbkgkpjkickaaGreatDoorVU9
import Derived.Test.YtjfbkgkpjkickaaGreatDoorVU10
import Derived.Test.YtjfbkgkpjkickaaGreatDoorVU11
import Derived.Test.YtjfbkgkpjkickaaGreatDoorVU12
import Derived.Test.YtjfbkgkpjkickaaGreatDoorVU13
import Derived.Test.YtjfbkgkpjkickaaGreatDoorVU14
import Derived.Test.YtjfbkgkpjkickaaGreatDoorVU15
import Derived.Test.YtjfbkgkpjkickaaGreatDoorVU16
import Derived.Test.YtjfbkgkpjkickaaGreatDoorVU17
import Derived.Test.YtjfbkgkpjkickaaGreatDoorVU18
import Derived.Test.YtjfbkgkpjkickaaGreatDoorVU19
import Derived.Test.YtjfbkgkpjkickaaGreatDoorVU20
import Derived.Test.YtjfbkgkpjkickaaGreatDoorVU21
import Derived.Test.YtjfbkgkpjkickaaGreatDoorVU29
import Derived.Test.YtjfbkgkpjkickaaGreatDoorVU31
import Derived.Test.YtjfbkgkpjkickaaGreatDoorVE2
import Derived.Test.YtjfbkgkpjkickaaGreatDoorVE3
set_option linter.unusedVariables false
set_option linter.unusedSimpArgs false
-- YtjfbkgkpjkickaaGreatDoorEd
set_option linter.unusedVariables false
set_option linter.unusedSimpArgs false
namespace Go.Proofs.YtjfbkgkpjkickaaGreatDoor.PAll
open Go.RowKit Go.Proofs.YtjfbkgkpjkickaaGreatDoorW.PrintWords Go.Proofs.YtjfbkgkpjkickaaGreatDoorW.PrintLast Go.Proofs.YtjfbkgkpjkickaaGreatDoorW.PrintMore

/-- a text of escapes alone: what its rounds reach -/
structure UText (l : List Int) (P : Nat → List Int → Bool → Prop) : Prop where
  pos : 0 < l.length
  len : l.length ≤ 1000
  bs : Bs l
  h0 : rd l 0 = 34
  step : ∀ n ys er, P n ys er → URound l P n ys er ∧ n < l.length ∧ 1 ≤ n ∧ ys.length ≤ 10000
  bys : ∀ n ys er, P n ys er → Bs ys
  start : P 1 [] false
def Bad (l : List Int) (P : Nat → List Int → Bool → Prop) : Prop := ∃ n ys' er, P n ys' er ∧ rd l (n : Int) = 92 ∧ ¬ isEsc (rd l ((n + 1 : Nat) : Int)) ∧ rd l ((n + 1 : Nat) : Int) ≠ 117
def VPost (w0 : World) (l : List Int) (P : Nat → List Int → Bool → Prop) (e : Ending) (w' : World) : Prop :=
  ∃ v x ys, e = .returned (.tuple #[v, x]) ∧ RM 5 w' w0.heap.size (fun _ => True) v ys ∧ Below w0.heap.size w0 w' ∧ ((x = .nilIface ∧ P (l.length - 1) ys false) ∨ ((∃ gg, x = .iface 67 (.pointer (some gg))) ∧ (P (l.length - 1) ys true ∨ Bad l P)))
set_option maxRecDepth 100000 in
set_option maxHeartbeats 8000000 in
theorem f26 (s : ByteArray) (P : Nat → List Int → Bool → Prop) (g cap : Nat) (w0 w : World) (G : GV) (hT : UText (bytesOf s) P) (hE : Env w0 G) (hb : Below w0.heap.size w0 w) (hr : RM 5 w w0.heap.size (fun k => k < w.heap.size) (.slice (some ⟨g, 0, none⟩) 0 cap) []) :
    Calls Tryz.prog 26 #[.slice (some ⟨g, 0, none⟩) 0 cap, .string s] w (VPost w0 (bytesOf s) P) := by
  have hlen := hT.len
  rw [bytesOf_length] at hlen
  have q := conv s w
  obtain ⟨w1, hw1⟩ : ∃ x, x = Lib.bytesWorld w 5 s := ⟨_, rfl⟩
  have hb1 : Below w.heap.size w w1 := by rw [hw1]; exact Joins.below_bytesWorld _ _ 5 s (Nat.le_refl _)
  have hrb : RB w1 w.heap.size 0 (bytesOf s) := by rw [hw1]; exact rb_bytes w s
  have hsz : w1.heap.size = w.heap.size + 1 := by rw [hw1, Lib.bytesWorld_size]
  have hge := grownCap_ge w s.size 0 5
  have hcm := grownCap_le_maxLen w s.size 0 5 (by simp only [maxLen]; omega)
  rw [← hw1] at q
  have hU : US w0 w1 w.heap.size 0 (bytesOf s) (.slice (some ⟨g, 0, none⟩) 0 cap) [] := ⟨hb.trans (hb1.mono hb.size), RM_below (RM_mono hr (fun k hk => Nat.ne_of_lt hk)) hb1, hrb, by omega⟩
  have C := f34 (bytesOf s) P G w.heap.size 0 (grownCap w s.size 0 5) g cap w0 w1 hE hU hT.pos hT.len hT.bs (by rw [bytesOf_length]; exact hge) (by simpa only [maxLen] using hcm) hT.h0 hT.step hT.start
  rw [bytesOf_length] at C
  generalize grownCap w s.size 0 5 = cc at *
  have H34 := Lib.hid C
  clear C hU hrb hb1 hr hb hw1 hE hT hge hcm
  go_enter Tryz.func26, Tryz.ntmps26
  go_wp2_with (fail)
  refine H34.out.mono ?_
  rintro e w2 ⟨v, x, ys, rfl, hU2, hx⟩
  rcases hx with ⟨rfl, hp⟩ | ⟨hx, hp⟩
  · have HH := Lib.hid (show RM 5 w2 w0.heap.size (fun _ => True) v ys ∧ Below w0.heap.size w0 w2 from ⟨RM_mono hU2.rm (fun _ _ => trivial), hU2.bel⟩)
    have HP := Lib.hid hp
    clear hU2 hp
    go_wp2_with (fail)
    go_returns
    exact ⟨_, _, ys, rfl, HH.out.1, HH.out.2, .inl ⟨rfl, HP.out⟩⟩
  · have HH := Lib.hid (show RM 5 w2 w0.heap.size (fun _ => True) v ys ∧ Below w0.heap.size w0 w2 from ⟨RM_mono hU2.rm (fun _ _ => trivial), hU2.bel⟩)
    have HP := Lib.hid hp
    clear hU2 hp
    rcases hx with ⟨a, rfl, _⟩ | ⟨gg, rfl⟩
    · go_wp2_with (fail)
      go_returns
      exact ⟨_, _, ys, rfl, RM_alloc HH.out.1 _, HH.out.2.alloc HH.out.2.size _, .inr ⟨⟨_, rfl⟩, HP.out⟩⟩
    · go_wp2_with (fail)
      go_returns
      exact ⟨_, _, ys, rfl, RM_alloc HH.out.1 _, HH.out.2.alloc HH.out.2.size _, .inr ⟨⟨_, rfl⟩, HP.out⟩⟩
theorem conv_nil9 (w : World) : (convert 22 9 (.slice none 0 0)).run Tryz.prog w = .ok (.string ⟨#[]⟩) w := by kernel_rfl
theorem rm_conv {w w0 : World} {ok : Nat → Prop} {v : Value} {ys : List Int} (h : RM 5 w w0.heap.size ok v ys) : (convert 22 9 v).run Tryz.prog w = .ok (.string (strOfNums ys)) w := by
  rcases h.2.2 with ⟨rfl, h0⟩ | ⟨g, cap, cur, fz, rfl, hb, hg, hfz, h3, h4, h5, h6⟩
  · have : ys = [] := List.eq_nil_of_length_eq_zero h0
    subst this
    exact conv_nil9 w
  · have hrb : RB w g 0 ys := fun j hj => by
      have := h.2.cells (g := g) rfl j _ (nums_get ys j hj)
      rw [rd_getD, Nat.zero_add]
      have hadd : (⟨g, 0, none⟩ : Addr).add j = ⟨g, j, none⟩ := by unfold Addr.add; split <;> simp_all
      rw [hadd] at this
      exact this
    have := take_conv ys.length g 0 cap ys w hrb (Nat.le_refl _)
    rw [List.take_length] at this
    exact this
/-- what Unquote answers -/
def UnqPost (w : World) (l : List Int) (P : Nat → List Int → Bool → Prop) (e : Ending) (w' : World) : Prop :=
  ∃ (str : ByteArray) (ok : Bool), e = .returned (.tuple #[.string str, .bool ok]) ∧ Below w.heap.size w w' ∧ ((ok = true ∧ P (l.length - 1) (bytesOf str) false) ∨ (ok = false ∧ (P (l.length - 1) (bytesOf str) true ∨ Bad l P)))
set_option maxRecDepth 100000 in
set_option maxHeartbeats 8000000 in
theorem f15 (s : ByteArray) (P : Nat → List Int → Bool → Prop) (w : World) (G : GV) (hT : UText (bytesOf s) P) (hE : Env w G) :
    Calls Tryz.prog 15 #[.string ⟨#[]⟩, .string s] w (UnqPost w (bytesOf s) P) := by
  have q0 := conv ⟨#[]⟩ w
  obtain ⟨w1, hw1⟩ : ∃ x, x = Lib.bytesWorld w 5 ⟨#[]⟩ := ⟨_, rfl⟩
  have hb1 : Below w.heap.size w w1 := by rw [hw1]; exact Joins.below_bytesWorld _ _ 5 _ (Nat.le_refl _)
  have hsz : w1.heap.size = w.heap.size + 1 := by rw [hw1, Lib.bytesWorld_size]
  have hr : RM 5 w1 w.heap.size (fun k => k < w1.heap.size) (.slice (some ⟨w.heap.size, 0, none⟩) 0 (grownCap w 0 0 5)) [] := by
    have := RM_bytes (base := w.heap.size) (ok := fun k => k < w1.heap.size) w 5 ⟨#[]⟩ (by decide) (Nat.le_refl _) (by omega)
    rw [← hw1] at this
    exact this
  rw [← hw1] at q0
  have q : (convert 9 22 (.string ⟨#[]⟩)).run Tryz.prog w = .ok (.slice (some ⟨w.heap.size, 0, none⟩) 0 (grownCap w 0 0 5)) w1 := q0
  have H26 := Lib.hid (f26 s P w.heap.size (grownCap w 0 0 5) w w1 G hT hE hb1 hr)
  have HBY := Lib.hid hT.bys
  generalize grownCap w 0 0 5 = cc at *
  clear hr hb1 hw1 hT hE q0
  go_enter Tryz.func15, Tryz.ntmps15
  go_wp2_with (fail)
  refine H26.out.mono ?_
  rintro e w2 ⟨v, x, ys, rfl, hr2, hb2, hx⟩
  have qc := rm_conv (RM_drew hr2)
  have HB2 := Lib.hid (below_drew hb2)
  have hv : v = .slice none 0 0 ∨ ∃ g n cap, v = .slice (some ⟨g, 0, none⟩) n cap := by
    rcases hr2.2.2 with ⟨h, _⟩ | ⟨g, cap, cur, fz, h, _⟩
    · exact .inl h
    · exact .inr ⟨g, _, cap, h⟩
  clear hr2 hb2
  rcases hx with ⟨rfl, hp⟩ | ⟨⟨gg, rfl⟩, hp⟩
  · have HP := Lib.hid (show P ((bytesOf s).length - 1) (bytesOf (strOfNums ys)) false by rw [bytesOf_nums _ (HBY.out _ _ _ hp)]; exact hp)
    clear hp
    generalize strOfNums ys = rs at *
    rcases hv with rfl | ⟨g2, n2, cap2, rfl⟩
    all_goals
      go_wp2_with (fail)
      go_region_with (fail)
      all_goals (go_wp2_with (fail))
      all_goals go_returns
      all_goals exact ⟨_, true, rfl, HB2.out, .inl ⟨rfl, HP.out⟩⟩
  · have HP := Lib.hid (show P ((bytesOf s).length - 1) (bytesOf (strOfNums ys)) true ∨ Bad (bytesOf s) P from hp.imp (fun hp => by rw [bytesOf_nums _ (HBY.out _ _ _ hp)]; exact hp) id)
    clear hp
    generalize strOfNums ys = rs at *
    rcases hv with rfl | ⟨g2, n2, cap2, rfl⟩
    all_goals
      go_wp2_with (fail)
      go_region_with (fail)
      all_goals (go_wp2_with (fail))
      all_goals go_returns
      all_goals exact ⟨_, false, rfl, HB2.out, .inr ⟨rfl, HP.out⟩⟩
end Go.Proofs.YtjfbkgkpjkickaaGreatDoor.PAll
-- YtjfbkgkpjkickaaGreatDoorPAllx142
namespace Go.Proofs.YtjfbkgkpjkickaaGreatDoor.PAll
open Go.RowKit Go.Proofs.YtjfbkgkpjkickaaGreatDoorW.PrintWords Go.Proofs.YtjfbkgkpjkickaaGreatDoorW.PrintLast Go.Proofs.YtjfbkgkpjkickaaGreatDoorW.PrintMore
attribute [local go_sem] max2_int min2_int max_two min_two max_three min_three max_four min_four   -- for this text's walks alone
set_option linter.unusedVariables false
set_option linter.unusedSimpArgs false

def spec_Encoded.j0 : Nat → Int → Bool → Option (ByteArray)
  | 0, _, _ => none
  | k + 1, x0, x23 => if x23 = true then (some (⟨#[239, 191, 189]⟩ : ByteArray)) else (if x0 < 65536 then (some (strOfNums (([(224 + ((x0 / 4096) % 256)) % 256, (128 + ((Go.bits .and .i64 (x0 / 64) 63) % 256)) % 256, (128 + ((Go.bits .and .i64 x0 63) % 256)) % 256] : List Int)))) else (some (strOfNums (([(240 + ((x0 / 262144) % 256)) % 256, (128 + ((Go.bits .and .i64 (x0 / 4096) 63) % 256)) % 256, (128 + ((Go.bits .and .i64 (x0 / 64) 63) % 256)) % 256, (128 + ((Go.bits .and .i64 x0 63) % 256)) % 256] : List Int)))))
def spec_Encoded.f (k : Nat) (a0 : Int) : Option (ByteArray) := if a0 < 128 then (some (strOfNums (([(a0) % 256] : List Int)))) else (if a0 < 2048 then (some (strOfNums (([(192 + ((a0 / 64) % 256)) % 256, (128 + ((Go.bits .and .i64 a0 63) % 256)) % 256] : List Int)))) else (if a0 ≥ 55296 then (spec_Encoded.j0 k a0 (decide (a0 ≤ 57343))) else (spec_Encoded.j0 k a0 false)))
set_option maxHeartbeats 8000000 in
set_option maxRecDepth 100000 in
theorem spec_Encoded.calls (k : Nat) (a0 : Int) (r : ByteArray) (w : World) (h : spec_Encoded.f k a0 = some r) :
    Calls Tryz.prog 17 #[.int .i64 a0] w fun e w' => e = .returned (.string r) ∧ Below w.heap.size w w' := by
  have HB := Aside0.mk (Below.refl w.heap.size w)
  have H : (if a0 < 128 then (some (strOfNums (([(a0) % 256] : List Int)))) else (if a0 < 2048 then (some (strOfNums (([(192 + ((a0 / 64) % 256)) % 256, (128 + ((Go.bits .and .i64 a0 63) % 256)) % 256] : List Int)))) else (if a0 ≥ 55296 then (spec_Encoded.j0 k a0 (decide (a0 ≤ 57343))) else (spec_Encoded.j0 k a0 false)))) = some r := h
  clear h
  by_cases c2 : a0 < 128
  · rw [if_pos c2] at H
    have c2b0 : decide (a0 < 128) = true := decide_eq_true c2
    clear c2
    obtain ⟨y232, hy232⟩ : ∃ y_ : List Int, y_ = (([(a0) % 256] : List Int)) := ⟨_, rfl⟩
    replace H : (some (strOfNums y232)) = some r := by first | (rw [hy232]; with_reducible exact H) | (have H2_ := (Option.bind_some _ _).symm.trans H; rw [hy232]; with_reducible exact H2_) | (have H2_ := (Option.bind_some _ _).symm.trans H; with_reducible exact H2_) | with_reducible exact H | (rw [hy232]; exact H) | exact H
    have Ny232 := Aside0.mk hy232
    clear hy232
    obtain rfl := Option.some.inj H
    go_enter Tryz.func17, Tryz.ntmps17
    go_wp2_with (first | ((with_reducible refine gate_dst (N := 8) rfl ?_); refine Kd.R_lit (Kd.int .u8) _ 5 ?hg (N := 8) ?hd (xs := ([(a0) % 256] : List Int)) (inner := [.int .u8 ((a0) % 256)]) (ok := fun _ => True) (okp := fun _ => True) ?hr ?hp (fun _ hk => hk) trivial (Below.refl _ _) (Nat.le_refl _) (by simp) ?_; (case hd => rfl); (case hg => rfl); (case hr => first | (go_simp; done) | (go_simp; rfl)); (case hp => exact (Reps.one (show Kd.M (Kd.int .u8) _ _ _ ((a0) % 256) [.int .u8 ((a0) % 256)] from rfl) (Reps.none _ _))); intro v233 w3 ho4 hb hg_ hnew_; clear hg_ hnew_; (first | rw [← Ny232.out] at ho4 | (simp only [Int.reduceToNat] at ho4; rw [← Ny232.out] at ho4)); have n0_ := Aside0.mk (Kd.R_lower ho4 (below_size (by repeat (first | (with_reducible first | exact HB.out | apply below_alloc | apply pw_below_drewN | apply below_drew1) | exact HB.out)))); have n1_ := Aside0.mk (below_step (by repeat (first | (with_reducible first | exact HB.out | apply below_alloc | apply pw_below_drewN | apply below_drew1) | exact HB.out)) hb); clear HB; have HO234 := n0_; have HB := n1_; clear n0_ n1_; clear hb ho4; have hcv5 := own_string (P := Tryz.prog) Tryz.underlying22 Tryz.underlying5 Tryz.underlying9 (Kd.own_of_R HO234.out)))
    go_ret
    exact ⟨by first | rfl | (simp [errW_none, errW_some] <;> rfl) | (simp [*, errW_none, errW_some] <;> rfl), by repeat (first | (with_reducible first | exact HB.out | apply below_alloc | apply pw_below_drewN | apply below_drew1) | exact HB.out)⟩
  · rw [if_neg c2] at H
    have c2b0 : decide (a0 < 128) = false := decide_eq_false c2
    clear c2
    by_cases c6 : a0 < 2048
    · rw [if_pos c6] at H
      have c6b0 : decide (a0 < 2048) = true := decide_eq_true c6
      clear c6
      obtain ⟨y235, hy235⟩ : ∃ y_ : List Int, y_ = (([(192 + ((a0 / 64) % 256)) % 256, (128 + ((Go.bits .and .i64 a0 63) % 256)) % 256] : List Int)) := ⟨_, rfl⟩
      replace H : (some (strOfNums y235)) = some r := by first | (rw [hy235]; with_reducible exact H) | (have H2_ := (Option.bind_some _ _).symm.trans H; rw [hy235]; with_reducible exact H2_) | (have H2_ := (Option.bind_some _ _).symm.trans H; with_reducible exact H2_) | with_reducible exact H | (rw [hy235]; exact H) | exact H
      have Ny235 := Aside0.mk hy235
      clear hy235
      obtain rfl := Option.some.inj H
      go_enter Tryz.func17, Tryz.ntmps17
      go_wp2_with (first | ((with_reducible refine gate_dst (N := 21) rfl ?_); refine Kd.R_lit (Kd.int .u8) _ 5 ?hg (N := 21) ?hd (xs := ([(192 + ((a0 / 64) % 256)) % 256, (128 + ((Go.bits .and .i64 a0 63) % 256)) % 256] : List Int)) (inner := [.int .u8 ((192 + ((a0 / 64) % 256)) % 256), .int .u8 ((128 + ((Go.bits .and .i64 a0 63) % 256)) % 256)]) (ok := fun _ => True) (okp := fun _ => True) ?hr ?hp (fun _ hk => hk) trivial (Below.refl _ _) (Nat.le_refl _) (by simp) ?_; (case hd => rfl); (case hg => rfl); (case hr => first | (go_simp; done) | (go_simp; rfl)); (case hp => exact (Reps.one (show Kd.M (Kd.int .u8) _ _ _ ((192 + ((a0 / 64) % 256)) % 256) [.int .u8 ((192 + ((a0 / 64) % 256)) % 256)] from rfl) (Reps.one (show Kd.M (Kd.int .u8) _ _ _ ((128 + ((Go.bits .and .i64 a0 63) % 256)) % 256) [.int .u8 ((128 + ((Go.bits .and .i64 a0 63) % 256)) % 256)] from rfl) (Reps.none _ _)))); intro v236 w7 ho8 hb hg_ hnew_; clear hg_ hnew_; (first | rw [← Ny235.out] at ho8 | (simp only [Int.reduceToNat] at ho8; rw [← Ny235.out] at ho8)); have n0_ := Aside0.mk (Kd.R_lower ho8 (below_size (by repeat (first | (with_reducible first | exact HB.out | apply below_alloc | apply pw_below_drewN | apply below_drew1) | exact HB.out)))); have n1_ := Aside0.mk (below_step (by repeat (first | (with_reducible first | exact HB.out | apply below_alloc | apply pw_below_drewN | apply below_drew1) | exact HB.out)) hb); clear HB; have HO237 := n0_; have HB := n1_; clear n0_ n1_; clear hb ho8; have hcv9 := own_string (P := Tryz.prog) Tryz.underlying22 Tryz.underlying5 Tryz.underlying9 (Kd.own_of_R HO237.out)))
      go_ret
      exact ⟨by first | rfl | (simp [errW_none, errW_some] <;> rfl) | (simp [*, errW_none, errW_some] <;> rfl), by repeat (first | (with_reducible first | exact HB.out | apply below_alloc | apply pw_below_drewN | apply below_drew1) | exact HB.out)⟩
    · rw [if_neg c6] at H
      have c6b0 : decide (a0 < 2048) = false := decide_eq_false c6
      clear c6
      have HC10 := Aside0.mk H
      clear H
      go_enter Tryz.func17, Tryz.ntmps17
      go_upto_region 5 with (fail)
      go_cut [23] (fun v23 wc => ∃ (kq : Nat) (x23_9 : Bool), v23 = .bool x23_9 ∧ Aside0 (spec_Encoded.j0 kq a0 x23_9 = some r) ∧ Aside0 (kq ≤ k) ∧ Aside0 (Below w.heap.size w wc))
      case first =>
        have H := HC10.out
        clear HC10
        by_cases c11 : a0 ≥ 55296
        · rw [if_pos c11] at H
          have c11b0 : decide (55296 ≤ a0) = true := decide_eq_true c11
          clear c11
          (first | rw [c11b0] | (simp only [i64_w, i32_w]; rw [c11b0]) | skip)
          have H' := Aside0.mk H
          clear H
          go_wp2
          go_meet
          case rel => exact ⟨_, (decide (a0 ≤ 57343)), (by first | rfl | (simp; done) | (simp [*]; done)), H', ⟨by first | omega | exact Nat.le_refl _⟩, ⟨by repeat (first | (with_reducible first | exact HB.out | apply below_alloc | apply pw_below_drewN | apply below_drew1) | exact HB.out)⟩⟩
        · rw [if_neg c11] at H
          have c11b0 : decide (55296 ≤ a0) = false := decide_eq_false c11
          clear c11
          (first | rw [c11b0] | (simp only [i64_w, i32_w]; rw [c11b0]) | skip)
          have H' := Aside0.mk H
          clear H
          go_wp2
          go_meet
          case rel => exact ⟨_, (false), (by first | rfl | (simp; done) | (simp [*]; done)), H', ⟨by first | omega | exact Nat.le_refl _⟩, ⟨by repeat (first | (with_reducible first | exact HB.out | apply below_alloc | apply pw_below_drewN | apply below_drew1) | exact HB.out)⟩⟩
      case rest =>
        clear HC10
        try clear c1
        try clear c2
        try clear c2b0
        try clear p2
        try clear hcv5
        try clear c6
        try clear c6b0
        try clear hcv9
        try clear c11
        try clear c11b0
        obtain ⟨kq, x23_9, rfl, HA, HJ9, HB⟩ := hcut
        cases kq with
        | zero => exact absurd HA.out (by simp [spec_Encoded.j0])
        | succ kj9 =>
          have H := HA.out
          clear HA
          simp only [spec_Encoded.j0] at H
          by_cases c12 : x23_9 = true
          · subst c12
            have H1 : (some (⟨#[239, 191, 189]⟩ : ByteArray)) = some r := by rw [if_pos rfl] at H; exact H
            clear H
            have H := H1
            clear H1
            obtain rfl := Option.some.inj H
            go_wp2
            go_ret
            exact ⟨by first | rfl | (simp [errW_none, errW_some] <;> rfl) | (simp [*, errW_none, errW_some] <;> rfl), by repeat (first | (with_reducible first | exact HB.out | apply below_alloc | apply pw_below_drewN | apply below_drew1) | exact HB.out)⟩
          · replace c12 := Bool.eq_false_iff.mpr c12
            subst c12
            have H1 : (if a0 < 65536 then (some (strOfNums (([(224 + ((a0 / 4096) % 256)) % 256, (128 + ((Go.bits .and .i64 (a0 / 64) 63) % 256)) % 256, (128 + ((Go.bits .and .i64 a0 63) % 256)) % 256] : List Int)))) else (some (strOfNums (([(240 + ((a0 / 262144) % 256)) % 256, (128 + ((Go.bits .and .i64 (a0 / 4096) 63) % 256)) % 256, (128 + ((Go.bits .and .i64 (a0 / 64) 63) % 256)) % 256, (128 + ((Go.bits .and .i64 a0 63) % 256)) % 256] : List Int))))) = some r := by rw [if_neg (show ¬ (false = true) by decide)] at H; exact H
            clear H
            have H := H1
            clear H1
            by_cases c13 : a0 < 65536
            · rw [if_pos c13] at H
              have c13b0 : decide (a0 < 65536) = true := decide_eq_true c13
              clear c13
              obtain ⟨y238, hy238⟩ : ∃ y_ : List Int, y_ = (([(224 + ((a0 / 4096) % 256)) % 256, (128 + ((Go.bits .and .i64 (a0 / 64) 63) % 256)) % 256, (128 + ((Go.bits .and .i64 a0 63) % 256)) % 256] : List Int)) := ⟨_, rfl⟩
              replace H : (some (strOfNums y238)) = some r := by first | (rw [hy238]; with_reducible exact H) | (have H2_ := (Option.bind_some _ _).symm.trans H; rw [hy238]; with_reducible exact H2_) | (have H2_ := (Option.bind_some _ _).symm.trans H; with_reducible exact H2_) | with_reducible exact H | (rw [hy238]; exact H) | exact H
              have Ny238 := Aside0.mk hy238
              clear hy238
              obtain rfl := Option.some.inj H
              go_wp2_with (first | ((with_reducible refine gate_dst (N := 46) rfl ?_); refine Kd.R_lit (Kd.int .u8) _ 5 ?hg (N := 46) ?hd (xs := ([(224 + ((a0 / 4096) % 256)) % 256, (128 + ((Go.bits .and .i64 (a0 / 64) 63) % 256)) % 256, (128 + ((Go.bits .and .i64 a0 63) % 256)) % 256] : List Int)) (inner := [.int .u8 ((224 + ((a0 / 4096) % 256)) % 256), .int .u8 ((128 + ((Go.bits .and .i64 (a0 / 64) 63) % 256)) % 256), .int .u8 ((128 + ((Go.bits .and .i64 a0 63) % 256)) % 256)]) (ok := fun _ => True) (okp := fun _ => True) ?hr ?hp (fun _ hk => hk) trivial (Below.refl _ _) (Nat.le_refl _) (by simp) ?_; (case hd => rfl); (case hg => rfl); (case hr => first | (go_simp; done) | (go_simp; rfl)); (case hp => exact (Reps.one (show Kd.M (Kd.int .u8) _ _ _ ((224 + ((a0 / 4096) % 256)) % 256) [.int .u8 ((224 + ((a0 / 4096) % 256)) % 256)] from rfl) (Reps.one (show Kd.M (Kd.int .u8) _ _ _ ((128 + ((Go.bits .and .i64 (a0 / 64) 63) % 256)) % 256) [.int .u8 ((128 + ((Go.bits .and .i64 (a0 / 64) 63) % 256)) % 256)] from rfl) (Reps.one (show Kd.M (Kd.int .u8) _ _ _ ((128 + ((Go.bits .and .i64 a0 63) % 256)) % 256) [.int .u8 ((128 + ((Go.bits .and .i64 a0 63) % 256)) % 256)] from rfl) (Reps.none _ _))))); intro v239 w14 ho15 hb hg_ hnew_; clear hg_ hnew_; (first | rw [← Ny238.out] at ho15 | (simp only [Int.reduceToNat] at ho15; rw [← Ny238.out] at ho15)); have n0_ := Aside0.mk (Kd.R_lower ho15 (below_size (by repeat (first | (with_reducible first | exact HB.out | apply below_alloc | apply pw_below_drewN | apply below_drew1) | exact HB.out)))); have n1_ := Aside0.mk (below_step (by repeat (first | (with_reducible first | exact HB.out | apply below_alloc | apply pw_below_drewN | apply below_drew1) | exact HB.out)) hb); clear HB; have HO240 := n0_; have HB := n1_; clear n0_ n1_; clear hb ho15; have hcv16 := own_string (P := Tryz.prog) Tryz.underlying22 Tryz.underlying5 Tryz.underlying9 (Kd.own_of_R HO240.out)))
              go_ret
              exact ⟨by first | rfl | (simp [errW_none, errW_some] <;> rfl) | (simp [*, errW_none, errW_some] <;> rfl), by repeat (first | (with_reducible first | exact HB.out | apply below_alloc | apply pw_below_drewN | apply below_drew1) | exact HB.out)⟩
            · rw [if_neg c13] at H
              have c13b0 : decide (a0 < 65536) = false := decide_eq_false c13
              clear c13
              obtain ⟨y241, hy241⟩ : ∃ y_ : List Int, y_ = (([(240 + ((a0 / 262144) % 256)) % 256, (128 + ((Go.bits .and .i64 (a0 / 4096) 63) % 256)) % 256, (128 + ((Go.bits .and .i64 (a0 / 64) 63) % 256)) % 256, (128 + ((Go.bits .and .i64 a0 63) % 256)) % 256] : List Int)) := ⟨_, rfl⟩
              replace H : (some (strOfNums y241)) = some r := by first | (rw [hy241]; with_reducible exact H) | (have H2_ := (Option.bind_some _ _).symm.trans H; rw [hy241]; with_reducible exact H2_) | (have H2_ := (Option.bind_some _ _).symm.trans H; with_reducible exact H2_) | with_reducible exact H | (rw [hy241]; exact H) | exact H
              have Ny241 := Aside0.mk hy241
              clear hy241
              obtain rfl := Option.some.inj H
              go_wp2_with (first | ((with_reducible refine gate_dst (N := 66) rfl ?_); refine Kd.R_lit (Kd.int .u8) _ 5 ?hg (N := 66) ?hd (xs := ([(240 + ((a0 / 262144) % 256)) % 256, (128 + ((Go.bits .and .i64 (a0 / 4096) 63) % 256)) % 256, (128 + ((Go.bits .and .i64 (a0 / 64) 63) % 256)) % 256, (128 + ((Go.bits .and .i64 a0 63) % 256)) % 256] : List Int)) (inner := [.int .u8 ((240 + ((a0 / 262144) % 256)) % 256), .int .u8 ((128 + ((Go.bits .and .i64 (a0 / 4096) 63) % 256)) % 256), .int .u8 ((128 + ((Go.bits .and .i64 (a0 / 64) 63) % 256)) % 256), .int .u8 ((128 + ((Go.bits .and .i64 a0 63) % 256)) % 256)]) (ok := fun _ => True) (okp := fun _ => True) ?hr ?hp (fun _ hk => hk) trivial (Below.refl _ _) (Nat.le_refl _) (by simp) ?_; (case hd => rfl); (case hg => rfl); (case hr => first | (go_simp; done) | (go_simp; rfl)); (case hp => exact (Reps.one (show Kd.M (Kd.int .u8) _ _ _ ((240 + ((a0 / 262144) % 256)) % 256) [.int .u8 ((240 + ((a0 / 262144) % 256)) % 256)] from rfl) (Reps.one (show Kd.M (Kd.int .u8) _ _ _ ((128 + ((Go.bits .and .i64 (a0 / 4096) 63) % 256)) % 256) [.int .u8 ((128 + ((Go.bits .and .i64 (a0 / 4096) 63) % 256)) % 256)] from rfl) (Reps.one (show Kd.M (Kd.int .u8) _ _ _ ((128 + ((Go.bits .and .i64 (a0 / 64) 63) % 256)) % 256) [.int .u8 ((128 + ((Go.bits .and .i64 (a0 / 64) 63) % 256)) % 256)] from rfl) (Reps.one (show Kd.M (Kd.int .u8) _ _ _ ((128 + ((Go.bits .and .i64 a0 63) % 256)) % 256) [.int .u8 ((128 + ((Go.bits .and .i64 a0 63) % 256)) % 256)] from rfl) (Reps.none _ _)))))); intro v242 w17 ho18 hb hg_ hnew_; clear hg_ hnew_; (first | rw [← Ny241.out] at ho18 | (simp only [Int.reduceToNat] at ho18; rw [← Ny241.out] at ho18)); have n0_ := Aside0.mk (Kd.R_lower ho18 (below_size (by repeat (first | (with_reducible first | exact HB.out | apply below_alloc | apply pw_below_drewN | apply below_drew1) | exact HB.out)))); have n1_ := Aside0.mk (below_step (by repeat (first | (with_reducible first | exact HB.out | apply below_alloc | apply pw_below_drewN | apply below_drew1) | exact HB.out)) hb); clear HB; have HO243 := n0_; have HB := n1_; clear n0_ n1_; clear hb ho18; have hcv19 := own_string (P := Tryz.prog) Tryz.underlying22 Tryz.underlying5 Tryz.underlying9 (Kd.own_of_R HO243.out)))
              go_ret
              exact ⟨by first | rfl | (simp [errW_none, errW_some] <;> rfl) | (simp [*, errW_none, errW_some] <;> rfl), by repeat (first | (with_reducible first | exact HB.out | apply below_alloc | apply pw_below_drewN | apply below_drew1) | exact HB.out)⟩

end Go.Proofs.YtjfbkgkpjkickaaGreatDoor.PAll
-- YtjfbkgkpjkickaaGreatDoorEe
set_option linter.unusedVariables false
set_option linter.unusedSimpArgs false
namespace Go.Proofs.YtjfbkgkpjkickaaGreatDoor.PAll
open Go.RowKit Go.Proofs.YtjfbkgkpjkickaaGreatDoorW.PrintWords Go.Proofs.YtjfbkgkpjkickaaGreatDoorW.PrintLast Go.Proofs.YtjfbkgkpjkickaaGreatDoorW.PrintMore

theorem str_bytes (s : ByteArray) : strOfNums (bytesOf s) = s := by
  apply ByteArray.ext
  unfold strOfNums bytesOf
  simp only [List.map_map]
  have : ((fun x : Int => UInt8.ofNat x.toNat) ∘ fun b : UInt8 => (b.toNat : Int)) = id := by
    funext b
    simp
  first
    | (rw [this]; simp)
    | simp [Function.comp_def]
theorem and63 (x : Int) (h0 : 0 ≤ x) (h : x < 1099511627776) : Go.bits .and .i64 x 63 = x % 64 := by
  obtain ⟨n, rfl⟩ := Int.eq_ofNat_of_zero_le h0
  have h1 : (BitVec.ofInt 64 (n : Int)).toNat = n := by
    rw [BitVec.ofInt_natCast, BitVec.toNat_ofNat]; exact Nat.mod_eq_of_lt (by omega)
  have h2 : (BitVec.ofInt 64 (63 : Int)).toNat = 2 ^ 6 - 1 := by decide
  show IntKind.i64.wrap ((BitVec.ofInt 64 (n : Int) &&& BitVec.ofInt 64 63).toNat : Int) = _
  rw [BitVec.toNat_and, h1, h2, Nat.and_two_pow_sub_one_eq_mod, IntKind.wrap_i64]
  omega
/-- a character in UTF-8, as the reference says it -/
def encS (c : Int) : List Int := if 55296 ≤ c ∧ c ≤ 57343 then [239, 191, 189] else encR c
theorem enc_ev (k : Nat) (c : Int) (h0 : 0 ≤ c) (h1 : c ≤ 1114111) : spec_Encoded.f (k + 1) c = some (strOfNums (encS c)) := by
  unfold spec_Encoded.f encS encR
  by_cases a1 : c < 128
  · rw [if_pos a1, if_neg (by omega), if_pos a1, show c % 256 = c by omega]
  · rw [if_neg a1]
    by_cases a2 : c < 2048
    · rw [if_pos a2, if_neg (by omega), if_neg a1, if_pos a2, and63 _ (by omega) (by omega), show (192 + c / 64 % 256) % 256 = 192 + c / 64 by omega, show (128 + c % 64 % 256) % 256 = 128 + c % 64 by omega]
    · rw [if_neg a2]
      have J : ∀ b, b = decide (55296 ≤ c ∧ c ≤ 57343) → spec_Encoded.j0 (k + 1) c b = some (strOfNums (if 55296 ≤ c ∧ c ≤ 57343 then [239, 191, 189] else if c < 128 then [c] else if c < 2048 then [192 + c / 64, 128 + c % 64] else if c < 65536 then [224 + c / 4096, 128 + c / 64 % 64, 128 + c % 64] else [240 + c / 262144, 128 + c / 4096 % 64, 128 + c / 64 % 64, 128 + c % 64])) := by
        intro b hb
        subst hb
        rw [spec_Encoded.j0]
        by_cases a3 : 55296 ≤ c ∧ c ≤ 57343
        · rw [if_pos (decide_eq_true a3), if_pos a3]
          rfl
        · rw [if_neg (by rw [decide_eq_false a3]; decide), if_neg a3, if_neg a1, if_neg a2]
          by_cases a4 : c < 65536
          · rw [if_pos a4, if_pos a4, and63 _ (by omega) (by omega), and63 _ (by omega) (by omega), show (224 + c / 4096 % 256) % 256 = 224 + c / 4096 by omega, show (128 + c / 64 % 64 % 256) % 256 = 128 + c / 64 % 64 by omega, show (128 + c % 64 % 256) % 256 = 128 + c % 64 by omega]
          · rw [if_neg a4, if_neg a4, and63 _ (by omega) (by omega), and63 _ (by omega) (by omega), and63 _ (by omega) (by omega), show (240 + c / 262144 % 256) % 256 = 240 + c / 262144 by omega, show (128 + c / 4096 % 64 % 256) % 256 = 128 + c / 4096 % 64 by omega, show (128 + c / 64 % 64 % 256) % 256 = 128 + c / 64 % 64 by omega, show (128 + c % 64 % 256) % 256 = 128 + c % 64 by omega]
      by_cases a3 : c ≥ 55296
      · rw [if_pos a3]
        refine J _ ?_
        by_cases a4 : c ≤ 57343
        · rw [decide_eq_true a4, decide_eq_true ⟨a3, a4⟩]
        · rw [decide_eq_false a4, decide_eq_false (fun h => a4 h.2)]
      · rw [if_neg a3]
        exact J _ (by rw [decide_eq_false (fun h => a3 h.1)])
theorem bs_encR (r : Int) (h0 : 0 ≤ r) (h1 : r ≤ 1114111) : Bs (encR r) := by
  unfold encR
  intro b hb
  split at hb
  · simp at hb; omega
  · split at hb
    · simp at hb; omega
    · split at hb
      · simp at hb; omega
      · simp at hb; omega
theorem len_encR (r : Int) : (encR r).length ≤ 4 := by
  unfold encR
  split
  · simp
  · split
    · simp
    · split <;> simp
/-- one escape between quotation marks -/
theorem esc_iff (v : Bool) (c : Int) (hu : c ≠ 117) : strS v 0 ([92, c] ++ [34]) = some (([92, c] : List Int).length + 1) ↔ isEsc c := by
  have es : stepN v (92 :: [c, 34]) = if isEsc c then 2 else 0 := by
    rw [stepN_esc _ _ rfl]
    unfold escN
    rw [if_neg (by simp), rd_cons1, if_neg hu]
  rw [show ([92, c] ++ [34] : List Int) = 92 :: [c, 34] from rfl]
  by_cases h : isEsc c
  · rw [if_pos h] at es
    rw [strS0s v 92 _ 1 (by decide) es]
    exact ⟨fun _ => h, fun _ => rfl⟩
  · rw [if_neg h] at es
    rw [strS0n v 92 _ (by decide) es]
    exact ⟨(fun h => by cases h), fun hh => absurd hh h⟩
theorem bs_list {l : List Int} (h : l.all (fun b => decide (0 ≤ b ∧ b < 256)) = true) : Bs l := fun b hb => of_decide_eq_true (List.all_eq_true.1 h b hb)
def PE (c : Int) (n : Nat) (ys : List Int) (er : Bool) : Prop := (n = 1 ∧ ys = [] ∧ er = false) ∨ (n = 3 ∧ isEsc c ∧ ys = [trE c] ∧ er = false)
theorem trE_bd (c : Int) (h0 : 0 ≤ c) (h1 : c < 256) : 0 ≤ trE c ∧ trE c < 256 := by
  unfold trE
  repeat' split
  all_goals omega
theorem utext_esc (c : Int) (h0 : 0 ≤ c) (h1 : c < 256) (hu : c ≠ 117) : UText [34, 92, c, 34] (PE c) where
  pos := by simp
  len := by simp
  bs := by intro b hb; simp at hb; omega
  h0 := rfl
  start := .inl ⟨rfl, rfl, rfl⟩
  bys := by
    rintro n ys er (⟨_, rfl, _⟩ | ⟨_, _, rfl, _⟩)
    · intro b hb; simp at hb
    · intro b hb; simp at hb; subst hb; exact trE_bd c h0 h1
  step := by
    rintro n ys er (⟨rfl, rfl, rfl⟩ | ⟨rfl, hc, rfl, rfl⟩)
    · refine ⟨?_, by simp, by omega, by simp⟩
      by_cases h : isEsc c
      · exact .esc rfl (by simp) h (.inr ⟨rfl, h, rfl, rfl⟩)
      · exact .bad rfl (by simp) h hu
    · exact ⟨.fin rfl rfl, by simp, by omega, by simp⟩
theorem unq_esc {c : Int} {ok : Bool} {str : ByteArray} (hu : c ≠ 117) (h : (ok = true ∧ PE c (([34, 92, c, 34] : List Int).length - 1) (bytesOf str) false) ∨ (ok = false ∧ (PE c (([34, 92, c, 34] : List Int).length - 1) (bytesOf str) true ∨ Bad [34, 92, c, 34] (PE c)))) :
    (isEsc c ∧ ok = true ∧ str = strOfNums [trE c]) ∨ (¬ isEsc c ∧ ok = false) := by
  rcases h with ⟨rfl, h⟩ | ⟨rfl, h⟩
  · rcases h with ⟨h, _⟩ | ⟨_, hc, h, _⟩
    · simp at h
    · exact .inl ⟨hc, rfl, by rw [← h, str_bytes]⟩
  · refine .inr ⟨?_, rfl⟩
    rcases h with (⟨_, _, h⟩ | ⟨_, _, _, h⟩) | ⟨n, ys, er, (⟨rfl, _, _⟩ | ⟨rfl, _, _⟩), h1, h2, h3⟩
    · cases h
    · cases h
    · exact h2
    · exact absurd (show (34 : Int) = 92 from h1) (by decide)
/-- an escape of four digits between quotation marks -/
theorem uni_iff (v : Bool) (a b c d x : Int) (hx : hex4 [92, 117, a, b, c, d, 34] 2 = some x) : strS v 0 ([92, 117, a, b, c, d] ++ [34]) = some (([92, 117, a, b, c, d] : List Int).length + 1) ↔ ¬ (v = true ∧ 55296 ≤ x ∧ x ≤ 57343) := by
  by_cases h : v = true ∧ 55296 ≤ x ∧ x ≤ 57343
  · obtain ⟨rfl, h⟩ := h
    have es : stepN true (92 :: [117, a, b, c, d, 34]) = 0 := by
      have := st_pair [92, 117, a, b, c, d, 34] 0 rfl rfl hx ⟨rfl, h⟩ (fun h => absurd h.2.1 (by simp))
      rwa [List.drop_zero] at this
    rw [show ([92, 117, a, b, c, d] ++ [34] : List Int) = 92 :: [117, a, b, c, d, 34] from rfl, strS0n true 92 _ (by decide) es]
    exact ⟨(fun h => by cases h), fun hh => absurd ⟨rfl, h⟩ hh⟩
  · have es : stepN v (92 :: [117, a, b, c, d, 34]) = 6 := by
      have := st_uPlain v [92, 117, a, b, c, d, 34] 0 rfl rfl hx h
      rwa [List.drop_zero] at this
    rw [show ([92, 117, a, b, c, d] ++ [34] : List Int) = 92 :: [117, a, b, c, d, 34] from rfl, strS0s v 92 _ 5 (by decide) es]
    exact ⟨fun _ => h, fun _ => rfl⟩
def PU (x : Int) (n : Nat) (ys : List Int) (er : Bool) : Prop := (n = 1 ∧ ys = [] ∧ er = false) ∨ (n = 7 ∧ ys = encS x ∧ er = decide (55296 ≤ x ∧ x ≤ 57343))
theorem hex4_at (l : List Int) (i : Nat) (a b c d : Int) (ha : rd l (i : Int) = a) (hb : rd l ((i + 1 : Nat) : Int) = b) (hc : rd l ((i + 2 : Nat) : Int) = c) (hd : rd l ((i + 3 : Nat) : Int) = d) (hl : i + 4 ≤ l.length) (a' b' c' d' : Int) (qa : hexV a = some a') (qb : hexV b = some b') (qc : hexV c = some c') (qd : hexV d = some d') : hex4 l i = some (4096 * a' + 256 * b' + 16 * c' + d') := by
  unfold hex4
  rw [if_pos hl, ha, hb, hc, hd, qa, qb, qc, qd]
theorem bs_encS (x : Int) (h0 : 0 ≤ x) (h1 : x ≤ 1114111) : Bs (encS x) := by
  unfold encS
  split
  · exact bs_list rfl
  · exact bs_encR x h0 h1
theorem len_encS (x : Int) : (encS x).length ≤ 4 := by
  unfold encS
  split
  · simp
  · exact len_encR x
theorem encS_hi {x : Int} (h : 55296 ≤ x ∧ x ≤ 57343) : encS x = encR 65533 := by unfold encS; rw [if_pos h]; rfl
theorem encS_lo {x : Int} (h : ¬ (55296 ≤ x ∧ x ≤ 57343)) : encS x = encR x := by unfold encS; rw [if_neg h]
theorem utext_uni (a b c d x : Int) (hb : Bs [a, b, c, d]) (hx : hex4 [34, 92, 117, a, b, c, d, 34] 3 = some x) : UText [34, 92, 117, a, b, c, d, 34] (PU x) where
  pos := by simp
  len := by simp
  bs := by
    have q1 := hb a (by simp); have q2 := hb b (by simp); have q3 := hb c (by simp); have q4 := hb d (by simp)
    intro b hb; simp at hb; omega
  h0 := rfl
  start := .inl ⟨rfl, rfl, rfl⟩
  bys := by
    have := hex4_bd hx
    rintro n ys er (⟨_, rfl, _⟩ | ⟨_, rfl, _⟩)
    · intro b hb; simp at hb
    · exact bs_encS x (by omega) (by omega)
  step := by
    rintro n ys er (⟨rfl, rfl, rfl⟩ | ⟨rfl, rfl, rfl⟩)
    · refine ⟨?_, by simp, by omega, by simp⟩
      by_cases h : 55296 ≤ x ∧ x ≤ 57343
      · exact .lone rfl rfl x hx h rfl rfl (.inr ⟨rfl, (encS_hi h).symm, by rw [decide_eq_true h]⟩)
      · exact .uni rfl rfl x hx h (.inr ⟨rfl, (encS_lo h).symm, by rw [decide_eq_false h]⟩)
    · exact ⟨.fin rfl rfl, by simp, by omega, by have := len_encS x; omega⟩
theorem unq_uni {a b c d x : Int} {ok : Bool} {str : ByteArray} (h : (ok = true ∧ PU x (([34, 92, 117, a, b, c, d, 34] : List Int).length - 1) (bytesOf str) false) ∨ (ok = false ∧ (PU x (([34, 92, 117, a, b, c, d, 34] : List Int).length - 1) (bytesOf str) true ∨ Bad [34, 92, 117, a, b, c, d, 34] (PU x)))) :
    str = strOfNums (encS x) ∧ ok = !decide (55296 ≤ x ∧ x ≤ 57343) := by
  rcases h with ⟨rfl, h⟩ | ⟨rfl, h⟩
  · rcases h with ⟨h, _⟩ | ⟨_, h, he⟩
    · simp at h
    · exact ⟨by rw [← h, str_bytes], by rw [← he]; rfl⟩
  · rcases h with (⟨_, _, h⟩ | ⟨_, h, he⟩) | ⟨n, ys, er, (⟨rfl, _, _⟩ | ⟨rfl, _, _⟩), h1, h2, h3⟩
    · cases h
    · exact ⟨by rw [← h, str_bytes], by rw [← he]; rfl⟩
    · exact absurd rfl h3
    · exact absurd (show (34 : Int) = 92 from h1) (by decide)
/-- two escapes of four digits between quotation marks -/
theorem pair_iff (a b c d a' b' c' d' x y : Int) (hx : hex4 [92, 117, a, b, c, d, 92, 117, a', b', c', d', 34] 2 = some x) (hy : hex4 [92, 117, a, b, c, d, 92, 117, a', b', c', d', 34] 8 = some y) (hsx : 55296 ≤ x ∧ x ≤ 57343) (hsy : 55296 ≤ y ∧ y ≤ 57343) :
    strS true 0 ([92, 117, a, b, c, d, 92, 117, a', b', c', d'] ++ [34]) = some (([92, 117, a, b, c, d, 92, 117, a', b', c', d'] : List Int).length + 1) ↔ x < 56320 ∧ 56320 ≤ y := by
  rw [show ([92, 117, a, b, c, d, 92, 117, a', b', c', d'] ++ [34] : List Int) = 92 :: [117, a, b, c, d, 92, 117, a', b', c', d', 34] from rfl]
  by_cases h : x < 56320 ∧ 56320 ≤ y
  · have es : stepN true (92 :: [117, a, b, c, d, 92, 117, a', b', c', d', 34]) = 12 := by
      have := st_pairY [92, 117, a, b, c, d, 92, 117, a', b', c', d', 34] 0 rfl rfl hx ⟨rfl, hsx⟩ ⟨h.1, by simp, rfl, rfl, y, hy, h.2, hsy.2⟩
      rwa [List.drop_zero] at this
    rw [strS0s true 92 _ 11 (by decide) es]
    exact ⟨fun _ => h, fun _ => rfl⟩
  · have es : stepN true (92 :: [117, a, b, c, d, 92, 117, a', b', c', d', 34]) = 0 := by
      have := st_pair [92, 117, a, b, c, d, 92, 117, a', b', c', d', 34] 0 rfl rfl hx ⟨rfl, hsx⟩ (fun ⟨h1, _, _, _, v2, h2, h3, _⟩ => h ⟨h1, by
        rw [show (0 + 8 : Nat) = 8 from rfl, hy] at h2
        injection h2 with h2
        omega⟩)
      rwa [List.drop_zero] at this
    rw [strS0n true 92 _ (by decide) es]
    exact ⟨(fun h => by cases h), fun hh => absurd hh h⟩
def PP (x y : Int) (n : Nat) (ys : List Int) (er : Bool) : Prop :=
  (n = 1 ∧ ys = [] ∧ er = false) ∨ (pairR x y ≠ 65533 ∧ n = 13 ∧ ys = encR (pairR x y) ∧ er = false) ∨ (pairR x y = 65533 ∧ n = 7 ∧ ys = encR 65533 ∧ er = true) ∨ (pairR x y = 65533 ∧ n = 13 ∧ ys = encR 65533 ++ encR 65533 ∧ er = true)
theorem pairR_bd (x y : Int) : 0 ≤ pairR x y ∧ pairR x y ≤ 1114111 := by
  unfold pairR
  split <;> omega
theorem utext_pair (a b c d a' b' c' d' x y : Int) (hb : Bs [a, b, c, d, a', b', c', d']) (hx : hex4 [34, 92, 117, a, b, c, d, 92, 117, a', b', c', d', 34] 3 = some x) (hy : hex4 [34, 92, 117, a, b, c, d, 92, 117, a', b', c', d', 34] 9 = some y) (hsx : 55296 ≤ x ∧ x ≤ 57343) (hsy : 55296 ≤ y ∧ y ≤ 57343) :
    UText [34, 92, 117, a, b, c, d, 92, 117, a', b', c', d', 34] (PP x y) where
  pos := by simp
  len := by simp
  bs := by
    have q1 := hb a (by simp); have q2 := hb b (by simp); have q3 := hb c (by simp); have q4 := hb d (by simp)
    have q5 := hb a' (by simp); have q6 := hb b' (by simp); have q7 := hb c' (by simp); have q8 := hb d' (by simp)
    intro b hb; simp at hb; omega
  h0 := rfl
  start := .inl ⟨rfl, rfl, rfl⟩
  bys := by
    have := pairR_bd x y
    rintro n ys er (⟨_, rfl, _⟩ | ⟨_, _, rfl, _⟩ | ⟨_, _, rfl, _⟩ | ⟨_, _, rfl, _⟩)
    · intro b hb; simp at hb
    · exact bs_encR _ (by omega) (by omega)
    · exact bs_list rfl
    · exact bs_list rfl
  step := by
    rintro n ys er (⟨rfl, rfl, rfl⟩ | ⟨_, rfl, rfl, rfl⟩ | ⟨hp, rfl, rfl, rfl⟩ | ⟨_, rfl, rfl, rfl⟩)
    · refine ⟨?_, by simp, by omega, by simp⟩
      refine .two rfl rfl x hx hsx (by simp) rfl rfl y hy ?_
      by_cases h : pairR x y = 65533
      · rw [if_pos h]
        exact .inr (.inr (.inl ⟨h, rfl, rfl, rfl⟩))
      · rw [if_neg h]
        exact .inr (.inl ⟨h, rfl, rfl, rfl⟩)
    · exact ⟨.fin rfl rfl, by simp, by omega, by have := len_encR (pairR x y); omega⟩
    · exact ⟨.lone rfl rfl y hy hsy rfl rfl (.inr (.inr (.inr ⟨hp, rfl, rfl, rfl⟩))), by simp, by omega, by have := len_encR 65533; omega⟩
    · exact ⟨.fin rfl rfl, by simp, by omega, by decide⟩
theorem unq_pair {a b c d a' b' c' d' x y : Int} {ok : Bool} {str : ByteArray} (h : (ok = true ∧ PP x y (([34, 92, 117, a, b, c, d, 92, 117, a', b', c', d', 34] : List Int).length - 1) (bytesOf str) false) ∨ (ok = false ∧ (PP x y (([34, 92, 117, a, b, c, d, 92, 117, a', b', c', d', 34] : List Int).length - 1) (bytesOf str) true ∨ Bad [34, 92, 117, a, b, c, d, 92, 117, a', b', c', d', 34] (PP x y)))) :
    (pairR x y ≠ 65533 ∧ ok = true ∧ str = strOfNums (encR (pairR x y))) ∨ (pairR x y = 65533 ∧ ok = false ∧ str = ⟨#[239, 191, 189, 239, 191, 189]⟩) := by
  rcases h with ⟨rfl, h⟩ | ⟨rfl, h⟩
  · rcases h with ⟨h, _⟩ | ⟨hp, _, h, _⟩ | ⟨_, h, _⟩ | ⟨_, _, _, h⟩
    · simp at h
    · exact .inl ⟨hp, rfl, by rw [← h, str_bytes]⟩
    · simp at h
    · cases h
  · rcases h with (⟨_, _, h⟩ | ⟨_, _, _, h⟩ | ⟨_, h, _⟩ | ⟨hp, _, h, _⟩) | ⟨n, ys, er, (⟨rfl, _⟩ | ⟨_, rfl, _⟩ | ⟨_, rfl, _⟩ | ⟨_, rfl, _⟩), h1, h2, h3⟩
    · cases h
    · cases h
    · simp at h
    · exact .inr ⟨hp, rfl, by rw [← str_bytes str, h]; rfl⟩
    · exact absurd rfl h3
    · exact absurd (show (34 : Int) = 92 from h1) (by decide)
    · exact absurd rfl h3
    · exact absurd (show (34 : Int) = 92 from h1) (by decide)
end Go.Proofs.YtjfbkgkpjkickaaGreatDoor.PAll
