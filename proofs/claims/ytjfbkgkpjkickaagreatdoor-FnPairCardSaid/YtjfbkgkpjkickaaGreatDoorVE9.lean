/- The texts of a proof, its declarations alone: part 9. -/
import Derived.Deep.RegionHeld
import Derived.Test.YtjfbkgkpjkickaaGreatDoorVE7
set_option linter.unusedVariables false
set_option linter.unusedSimpArgs false
-- YtjfbkgkpjkickaaGreatDoorEh
set_option linter.unusedVariables false
set_option linter.unusedSimpArgs false
namespace Go.Proofs.YtjfbkgkpjkickaaGreatDoor.PAll
open Go.RowKit Go.Proofs.YtjfbkgkpjkickaaGreatDoorW.PrintWords Go.Proofs.YtjfbkgkpjkickaaGreatDoorW.PrintLast Go.Proofs.YtjfbkgkpjkickaaGreatDoorW.PrintMore

/-- the cells of a row of four bytes -/
abbrev cells4 (a b c d : Int) : Obj := .cells #[.int .u8 a, .int .u8 b, .int .u8 c, .int .u8 d] 5
theorem conv4o (a b c d : Int) (W : World) (o : Obj) : (convert 22 9 (.slice (some ⟨W.heap.size, 0, none⟩) 4 4)).run Tryz.prog ((W.alloc (cells4 a b c d)).alloc o) = .ok (.string (strOfNums [a, b, c, d])) ((W.alloc (cells4 a b c d)).alloc o) := by
  have hrb : RB ((W.alloc (cells4 a b c d)).alloc o) W.heap.size 0 [a, b, c, d] := by
    have h0 : RB (W.alloc (cells4 a b c d)) W.heap.size 0 [a, b, c, d] := by
      intro j hj
      rw [Nat.zero_add, cell_of_row _ W.heap.size j #[.int .u8 a, .int .u8 b, .int .u8 c, .int .u8 d] 5 (0, 0) (heap_alloc_new W _)]
      match j, hj with
      | 0, _ => rfl
      | 1, _ => rfl
      | 2, _ => rfl
      | 3, _ => rfl
      | j + 4, hj => simp at hj; omega
    exact h0.mono (below_alloc (Below.refl _ _) _)
  exact take_conv 4 W.heap.size 0 4 [a, b, c, d] _ hrb (by simp)
set_option maxRecDepth 100000 in
set_option maxHeartbeats 16000000 in
theorem w4 (a b : Int) (w : World) (V : Bool → Bool → List Int → Prop) (G : GV) (hE : Env w G) (hV : ∀ d l, V d false (34 :: (l ++ [34])) ↔ strS true 0 (l ++ [34]) = some (l.length + 1)) (HI : Isv V w) :
    Calls Tryz.prog 4 #[.int .i64 a, .int .i64 b] w (Law w) := by
  by_cases h0 : a < 55296
  · have d0 : decide (a < 55296) = true := decide_eq_true h0
    clear hV HI hE
    go_enter Tryz.func4, Tryz.ntmps4
    go_wp2_with (fail)
    go_returns
    exact ⟨rfl, Below.refl _ _⟩
  have d0 : decide (a < 55296) = false := decide_eq_false h0
  by_cases h1 : 57343 < a
  · have d1 : decide (57343 < a) = true := decide_eq_true h1
    clear hV HI hE
    go_enter Tryz.func4, Tryz.ntmps4
    go_wp2_with (fail)
    go_returns
    exact ⟨rfl, Below.refl _ _⟩
  have d1 : decide (57343 < a) = false := decide_eq_false h1
  by_cases h2 : b < 55296
  · have d2 : decide (b < 55296) = true := decide_eq_true h2
    clear hV HI hE
    go_enter Tryz.func4, Tryz.ntmps4
    go_wp2_with (fail)
    go_returns
    exact ⟨rfl, Below.refl _ _⟩
  have d2 : decide (b < 55296) = false := decide_eq_false h2
  by_cases h3 : 57343 < b
  · have d3 : decide (57343 < b) = true := decide_eq_true h3
    clear hV HI hE
    go_enter Tryz.func4, Tryz.ntmps4
    go_wp2_with (fail)
    go_returns
    exact ⟨rfl, Below.refl _ _⟩
  have d3 : decide (57343 < b) = false := decide_eq_false h3
  obtain ⟨x3, x2, x1, x0, e3, e2, e1, e0, b3, b2, b1, b0, hsum⟩ := digits4 a (by omega) (by omega)
  obtain ⟨y3, y2, y1, y0, f3, f2, f1, f0, c3, c2, c1, c0, hsum2⟩ := digits4 b (by omega) (by omega)
  have H16 := Lib.hid (fun (W : World) (x : ByteArray) (l : List Int) (hW : Below w.heap.size w W) (hl : l.length ≤ 100) (hx : bytesOf x = 34 :: (l ++ [34])) => (show Calls Tryz.prog 16 #[.string x, optsV false false] W (IsV (V false false (34 :: (l ++ [34]))) W) from hx ▸ HI false false x W hW (by have := congrArg List.length hx; rw [bytesOf_length] at this; simp at this; omega) (by rw [hx]; intro b hb; simp at hb; subst hb; decide)))
  have HE := Lib.hid hE
  have HV := Lib.hid (fun l => hV false l)
  have HS := Lib.hid hsum
  have HS2 := Lib.hid hsum2
  have hh : HexRow ⟨#[48, 49, 50, 51, 52, 53, 54, 55, 56, 57, 97, 98, 99, 100, 101, 102]⟩ := hexLo_ok
  clear hV HI hE hsum hsum2
  go_enter Tryz.func4, Tryz.ntmps4
  go_upto_region 4 with (fail)
  generalize ({ data := #[48, 49, 50, 51, 52, 53, 54, 55, 56, 57, 97, 98, 99, 100, 101, 102] } : ByteArray) = hs at *
  have hsz := hh.size
  have lx3 : x3 < hs.size := by omega
  have jx3 : (x3 : Int) < 16 := by omega
  obtain ⟨a3, ix3⟩ : ∃ a, ((hs[x3]'lx3).toNat : Int) = a := ⟨_, rfl⟩
  have px3 := hh.dig x3 lx3; rw [ix3] at px3
  have gx3 : 0 ≤ a3 ∧ a3 < 256 := by have := (hs[x3]'lx3).toNat_lt; omega
  have lx2 : x2 < hs.size := by omega
  have jx2 : (x2 : Int) < 16 := by omega
  obtain ⟨a2, ix2⟩ : ∃ a, ((hs[x2]'lx2).toNat : Int) = a := ⟨_, rfl⟩
  have px2 := hh.dig x2 lx2; rw [ix2] at px2
  have gx2 : 0 ≤ a2 ∧ a2 < 256 := by have := (hs[x2]'lx2).toNat_lt; omega
  have lx1 : x1 < hs.size := by omega
  have jx1 : (x1 : Int) < 16 := by omega
  obtain ⟨a1, ix1⟩ : ∃ a, ((hs[x1]'lx1).toNat : Int) = a := ⟨_, rfl⟩
  have px1 := hh.dig x1 lx1; rw [ix1] at px1
  have gx1 : 0 ≤ a1 ∧ a1 < 256 := by have := (hs[x1]'lx1).toNat_lt; omega
  have lx0 : x0 < hs.size := by omega
  have jx0 : (x0 : Int) < 16 := by omega
  obtain ⟨a0, ix0⟩ : ∃ a, ((hs[x0]'lx0).toNat : Int) = a := ⟨_, rfl⟩
  have px0 := hh.dig x0 lx0; rw [ix0] at px0
  have gx0 : 0 ≤ a0 ∧ a0 < 256 := by have := (hs[x0]'lx0).toNat_lt; omega
  have ly3 : y3 < hs.size := by omega
  have jy3 : (y3 : Int) < 16 := by omega
  obtain ⟨z3, iy3⟩ : ∃ a, ((hs[y3]'ly3).toNat : Int) = a := ⟨_, rfl⟩
  have py3 := hh.dig y3 ly3; rw [iy3] at py3
  have gy3 : 0 ≤ z3 ∧ z3 < 256 := by have := (hs[y3]'ly3).toNat_lt; omega
  have ly2 : y2 < hs.size := by omega
  have jy2 : (y2 : Int) < 16 := by omega
  obtain ⟨z2, iy2⟩ : ∃ a, ((hs[y2]'ly2).toNat : Int) = a := ⟨_, rfl⟩
  have py2 := hh.dig y2 ly2; rw [iy2] at py2
  have gy2 : 0 ≤ z2 ∧ z2 < 256 := by have := (hs[y2]'ly2).toNat_lt; omega
  have ly1 : y1 < hs.size := by omega
  have jy1 : (y1 : Int) < 16 := by omega
  obtain ⟨z1, iy1⟩ : ∃ a, ((hs[y1]'ly1).toNat : Int) = a := ⟨_, rfl⟩
  have py1 := hh.dig y1 ly1; rw [iy1] at py1
  have gy1 : 0 ≤ z1 ∧ z1 < 256 := by have := (hs[y1]'ly1).toNat_lt; omega
  have ly0 : y0 < hs.size := by omega
  have jy0 : (y0 : Int) < 16 := by omega
  obtain ⟨z0, iy0⟩ : ∃ a, ((hs[y0]'ly0).toNat : Int) = a := ⟨_, rfl⟩
  have py0 := hh.dig y0 ly0; rw [iy0] at py0
  have gy0 : 0 ≤ z0 ∧ z0 < 256 := by have := (hs[y0]'ly0).toNat_lt; omega
  have hxa : hex4 [34, 92, 117, a3, a2, a1, a0, 92, 117, z3, z2, z1, z0, 34] 3 = some a := by rw [← HS.out]; exact hex4_at _ 3 a3 a2 a1 a0 rfl rfl rfl rfl (by simp) _ _ _ _ px3 px2 px1 px0
  have hxb : hex4 [34, 92, 117, a3, a2, a1, a0, 92, 117, z3, z2, z1, z0, 34] 9 = some b := by rw [← HS2.out]; exact hex4_at _ 9 z3 z2 z1 z0 rfl rfl rfl rfl (by simp) _ _ _ _ py3 py2 py1 py0
  have hya : hex4 [92, 117, a3, a2, a1, a0, 92, 117, z3, z2, z1, z0, 34] 2 = some a := by rw [← HS.out]; exact hex4_at _ 2 a3 a2 a1 a0 rfl rfl rfl rfl (by simp) _ _ _ _ px3 px2 px1 px0
  have hyb : hex4 [92, 117, a3, a2, a1, a0, 92, 117, z3, z2, z1, z0, 34] 8 = some b := by rw [← HS2.out]; exact hex4_at _ 8 z3 z2 z1 z0 rfl rfl rfl rfl (by simp) _ _ _ _ py3 py2 py1 py0
  have hba : Bs [a3, a2, a1, a0, z3, z2, z1, z0] := by intro b hb; simp at hb; omega
  have hba1 : Bs [a3, a2, a1, a0] := by intro b hb; simp at hb; omega
  have hba2 : Bs [z3, z2, z1, z0] := by intro b hb; simp at hb; omega
  have H15 := Lib.hid (fun (W : World) (x : ByteArray) (hW : Below w.heap.size w W) (hx : bytesOf x = [34, 92, 117, a3, a2, a1, a0, 92, 117, z3, z2, z1, z0, 34]) => (show Calls Tryz.prog 15 #[.string ⟨#[]⟩, .string x] W (UnqPost W [34, 92, 117, a3, a2, a1, a0, 92, 117, z3, z2, z1, z0, 34] (PP a b)) from hx ▸ f15 x (PP a b) W G (hx ▸ utext_pair a3 a2 a1 a0 z3 z2 z1 z0 a b hba hxa hxb (by omega) (by omega)) (HE.out.mono hW)))
  have HV2 := Lib.hid ((HV.out [92, 117, a3, a2, a1, a0, 92, 117, z3, z2, z1, z0]).trans (pair_iff a3 a2 a1 a0 z3 z2 z1 z0 a b hya hyb (by omega) (by omega)))
  have F1 := conv4 a3 a2 a1 a0 w.drew
  have F2 := conv4o a3 a2 a1 a0 w.drew (cells4 z3 z2 z1 z0)
  have F3 := conv4 z3 z2 z1 z0 (w.drew.alloc (cells4 a3 a2 a1 a0))
  have G1 := conv4 z3 z2 z1 z0 w.drew
  have G2 := conv4o z3 z2 z1 z0 w.drew (cells4 a3 a2 a1 a0)
  have G3 := conv4 a3 a2 a1 a0 (w.drew.alloc (cells4 z3 z2 z1 z0))
  have HST1 := Lib.hid (bytesOf_nums [a3, a2, a1, a0] hba1)
  have HST2 := Lib.hid (bytesOf_nums [z3, z2, z1, z0] hba2)
  generalize strOfNums [a3, a2, a1, a0] = ds1 at *
  generalize strOfNums [z3, z2, z1, z0] = ds2 at *
  have hsd1 : ds1.size = 4 := by have := congrArg List.length HST1.out; rw [bytesOf_length] at this; exact this
  have hsd2 : ds2.size = 4 := by have := congrArg List.length HST2.out; rw [bytesOf_length] at this; exact this
  have F1b : (convert 22 9 (.slice (some ⟨w.heap.size, 0, none⟩) 4 4)).run Tryz.prog ((w.alloc (.cells #[.int .u8 a3, .int .u8 a2, .int .u8 a1, .int .u8 a0] 5)).drew) = .ok (.string ds1) ((w.alloc (.cells #[.int .u8 a3, .int .u8 a2, .int .u8 a1, .int .u8 a0] 5)).drew) := by
    first
      | exact F1
      | (rw [show (w.drew.alloc (.cells #[.int .u8 a3, .int .u8 a2, .int .u8 a1, .int .u8 a0] 5)).heap.size = w.heap.size + 1 by simp] at F1; exact F1)
      | (rw [show (w.drew.alloc (.cells #[.int .u8 z3, .int .u8 z2, .int .u8 z1, .int .u8 z0] 5)).heap.size = w.heap.size + 1 by simp] at F1; exact F1)
  have F2b : (convert 22 9 (.slice (some ⟨w.heap.size, 0, none⟩) 4 4)).run Tryz.prog (((w.alloc (.cells #[.int .u8 a3, .int .u8 a2, .int .u8 a1, .int .u8 a0] 5)).alloc (.cells #[.int .u8 z3, .int .u8 z2, .int .u8 z1, .int .u8 z0] 5)).drew) = .ok (.string ds1) (((w.alloc (.cells #[.int .u8 a3, .int .u8 a2, .int .u8 a1, .int .u8 a0] 5)).alloc (.cells #[.int .u8 z3, .int .u8 z2, .int .u8 z1, .int .u8 z0] 5)).drew) := by
    first
      | exact F2
      | (rw [show (w.drew.alloc (.cells #[.int .u8 a3, .int .u8 a2, .int .u8 a1, .int .u8 a0] 5)).heap.size = w.heap.size + 1 by simp] at F2; exact F2)
      | (rw [show (w.drew.alloc (.cells #[.int .u8 z3, .int .u8 z2, .int .u8 z1, .int .u8 z0] 5)).heap.size = w.heap.size + 1 by simp] at F2; exact F2)
  have F3b : (convert 22 9 (.slice (some ⟨w.heap.size + 1, 0, none⟩) 4 4)).run Tryz.prog (((w.alloc (.cells #[.int .u8 a3, .int .u8 a2, .int .u8 a1, .int .u8 a0] 5)).alloc (.cells #[.int .u8 z3, .int .u8 z2, .int .u8 z1, .int .u8 z0] 5)).drew) = .ok (.string ds2) (((w.alloc (.cells #[.int .u8 a3, .int .u8 a2, .int .u8 a1, .int .u8 a0] 5)).alloc (.cells #[.int .u8 z3, .int .u8 z2, .int .u8 z1, .int .u8 z0] 5)).drew) := by
    first
      | exact F3
      | (rw [show (w.drew.alloc (.cells #[.int .u8 a3, .int .u8 a2, .int .u8 a1, .int .u8 a0] 5)).heap.size = w.heap.size + 1 by simp] at F3; exact F3)
      | (rw [show (w.drew.alloc (.cells #[.int .u8 z3, .int .u8 z2, .int .u8 z1, .int .u8 z0] 5)).heap.size = w.heap.size + 1 by simp] at F3; exact F3)
  have G1b : (convert 22 9 (.slice (some ⟨w.heap.size, 0, none⟩) 4 4)).run Tryz.prog ((w.alloc (.cells #[.int .u8 z3, .int .u8 z2, .int .u8 z1, .int .u8 z0] 5)).drew) = .ok (.string ds2) ((w.alloc (.cells #[.int .u8 z3, .int .u8 z2, .int .u8 z1, .int .u8 z0] 5)).drew) := by
    first
      | exact G1
      | (rw [show (w.drew.alloc (.cells #[.int .u8 a3, .int .u8 a2, .int .u8 a1, .int .u8 a0] 5)).heap.size = w.heap.size + 1 by simp] at G1; exact G1)
      | (rw [show (w.drew.alloc (.cells #[.int .u8 z3, .int .u8 z2, .int .u8 z1, .int .u8 z0] 5)).heap.size = w.heap.size + 1 by simp] at G1; exact G1)
  have G2b : (convert 22 9 (.slice (some ⟨w.heap.size, 0, none⟩) 4 4)).run Tryz.prog (((w.alloc (.cells #[.int .u8 z3, .int .u8 z2, .int .u8 z1, .int .u8 z0] 5)).alloc (.cells #[.int .u8 a3, .int .u8 a2, .int .u8 a1, .int .u8 a0] 5)).drew) = .ok (.string ds2) (((w.alloc (.cells #[.int .u8 z3, .int .u8 z2, .int .u8 z1, .int .u8 z0] 5)).alloc (.cells #[.int .u8 a3, .int .u8 a2, .int .u8 a1, .int .u8 a0] 5)).drew) := by
    first
      | exact G2
      | (rw [show (w.drew.alloc (.cells #[.int .u8 a3, .int .u8 a2, .int .u8 a1, .int .u8 a0] 5)).heap.size = w.heap.size + 1 by simp] at G2; exact G2)
      | (rw [show (w.drew.alloc (.cells #[.int .u8 z3, .int .u8 z2, .int .u8 z1, .int .u8 z0] 5)).heap.size = w.heap.size + 1 by simp] at G2; exact G2)
  have G3b : (convert 22 9 (.slice (some ⟨w.heap.size + 1, 0, none⟩) 4 4)).run Tryz.prog (((w.alloc (.cells #[.int .u8 z3, .int .u8 z2, .int .u8 z1, .int .u8 z0] 5)).alloc (.cells #[.int .u8 a3, .int .u8 a2, .int .u8 a1, .int .u8 a0] 5)).drew) = .ok (.string ds1) (((w.alloc (.cells #[.int .u8 z3, .int .u8 z2, .int .u8 z1, .int .u8 z0] 5)).alloc (.cells #[.int .u8 a3, .int .u8 a2, .int .u8 a1, .int .u8 a0] 5)).drew) := by
    first
      | exact G3
      | (rw [show (w.drew.alloc (.cells #[.int .u8 a3, .int .u8 a2, .int .u8 a1, .int .u8 a0] 5)).heap.size = w.heap.size + 1 by simp] at G3; exact G3)
      | (rw [show (w.drew.alloc (.cells #[.int .u8 z3, .int .u8 z2, .int .u8 z1, .int .u8 z0] 5)).heap.size = w.heap.size + 1 by simp] at G3; exact G3)
  have HBA := Lib.hid (below_drew (below_alloc (below_alloc (Below.refl w.heap.size w) (.cells #[.int .u8 a3, .int .u8 a2, .int .u8 a1, .int .u8 a0] 5)) (.cells #[.int .u8 z3, .int .u8 z2, .int .u8 z1, .int .u8 z0] 5)))
  have HBB := Lib.hid (below_drew (below_alloc (below_alloc (Below.refl w.heap.size w) (.cells #[.int .u8 z3, .int .u8 z2, .int .u8 z1, .int .u8 z0] 5)) (.cells #[.int .u8 a3, .int .u8 a2, .int .u8 a1, .int .u8 a0] 5)))
  clear F1 F2 F3 G1 G2 G3 hh hxa hxb hya hyb hba hba1 hba2 HS HS2 HV HE px3 px2 px1 px0 py3 py2 py1 py0 gx3 gx2 gx1 gx0 gy3 gy2 gy1 gy0
  go_cut [6] (fun s6 wx => ∃ x : ByteArray, s6 = .string x ∧ Hid (bytesOf x = 34 :: ([92, 117, a3, a2, a1, a0, 92, 117, z3, z2, z1, z0] ++ [34])) ∧ Hid (Below w.heap.size w wx))
  case first =>
    refine wp_region_held_drew (S := fun _ => True) (by kernel_rfl) True.intro (fun hHeld => ?_)
    refine wpAnyH_take (i := 0) (oi := _) (v := ?v1) rfl (by kernel_rfl) (by kernel_rfl) (by kernel_rfl) (fun _ _ _ h => h) (Or.inl ⟨by rfl, ?hy1⟩) True.intro ?rest1
    case hy1 => intro w hSw; go_simp <;> with_reducible rfl
    try simp only [Act.put, List.setIfInBounds_toArray, List.set_cons_zero, List.set_cons_succ]
    refine wpAnyH_take (i := 1) (oi := _) (v := ?v2) rfl (by kernel_rfl) (by kernel_rfl) (by kernel_rfl) (fun _ _ _ h => h) (Or.inl ⟨by rfl, ?hy2⟩) True.intro ?rest2
    case hy2 => intro w hSw; go_simp <;> with_reducible rfl
    try simp only [Act.put, List.setIfInBounds_toArray, List.set_cons_zero, List.set_cons_succ]
    refine wpAnyH_take (i := 2) (oi := _) (v := ?v3) rfl (by kernel_rfl) (by kernel_rfl) (by kernel_rfl) (fun _ _ _ h => h) (Or.inl ⟨by rfl, ?hy3⟩) True.intro ?rest3
    case hy3 => intro w hSw; go_simp <;> with_reducible rfl
    try simp only [Act.put, List.setIfInBounds_toArray, List.set_cons_zero, List.set_cons_succ]
    refine wpAnyH_take (i := 3) (oi := _) (v := ?v4) rfl (by kernel_rfl) (by kernel_rfl) (by kernel_rfl) (fun _ _ _ h => h) (Or.inl ⟨by rfl, ?hy4⟩) True.intro ?rest4
    case hy4 => intro w hSw; go_simp <;> with_reducible rfl
    try simp only [Act.put, List.setIfInBounds_toArray, List.set_cons_zero, List.set_cons_succ]
    refine wpAnyH_take (i := 4) (oi := _) (v := ?v5) rfl (by kernel_rfl) (by kernel_rfl) (by kernel_rfl) (fun _ _ _ h => h) (Or.inl ⟨by rfl, ?hy5⟩) True.intro ?rest5
    case hy5 => intro w hSw; go_simp <;> with_reducible rfl
    try simp only [Act.put, List.setIfInBounds_toArray, List.set_cons_zero, List.set_cons_succ]
    refine wpAnyH_take (i := 5) (oi := _) (v := ?v6) rfl (by kernel_rfl) (by kernel_rfl) (by kernel_rfl) (fun _ _ _ h => h) (Or.inl ⟨by rfl, ?hy6⟩) True.intro ?rest6
    case hy6 => intro w hSw; go_simp <;> with_reducible rfl
    try simp only [Act.put, List.setIfInBounds_toArray, List.set_cons_zero, List.set_cons_succ]
    refine wpAnyH_take (i := 6) (oi := _) (v := ?v7) rfl (by kernel_rfl) (by kernel_rfl) (by kernel_rfl) (fun _ _ _ h => h) (Or.inl ⟨by rfl, ?hy7⟩) True.intro ?rest7
    case hy7 => intro w hSw; go_simp <;> with_reducible rfl
    try simp only [Act.put, List.setIfInBounds_toArray, List.set_cons_zero, List.set_cons_succ]
    refine wpAnyH_take (i := 7) (oi := _) (v := ?v8) rfl (by kernel_rfl) (by kernel_rfl) (by kernel_rfl) (fun _ _ _ h => h) (Or.inl ⟨by rfl, ?hy8⟩) True.intro ?rest8
    case hy8 => intro w hSw; go_simp <;> with_reducible rfl
    try simp only [Act.put, List.setIfInBounds_toArray, List.set_cons_zero, List.set_cons_succ]
    refine wpAnyH_take (i := 8) (oi := _) (v := ?v9) rfl (by kernel_rfl) (by kernel_rfl) (by kernel_rfl) (fun _ _ _ h => h) (Or.inl ⟨by rfl, ?hy9⟩) True.intro ?rest9
    case hy9 => intro w hSw; go_simp <;> with_reducible rfl
    try simp only [Act.put, List.setIfInBounds_toArray, List.set_cons_zero, List.set_cons_succ]
    refine wpAnyH_take (i := 9) (oi := _) (v := ?v10) rfl (by kernel_rfl) (by kernel_rfl) (by kernel_rfl) (fun _ _ _ h => h) (Or.inl ⟨by rfl, ?hy10⟩) True.intro ?rest10
    case hy10 => intro w hSw; go_simp <;> with_reducible rfl
    try simp only [Act.put, List.setIfInBounds_toArray, List.set_cons_zero, List.set_cons_succ]
    refine wpAnyH_take (i := 10) (oi := _) (v := ?v11) rfl (by kernel_rfl) (by kernel_rfl) (by kernel_rfl) (fun _ _ _ h => h) (Or.inl ⟨by rfl, ?hy11⟩) True.intro ?rest11
    case hy11 => intro w hSw; go_simp <;> with_reducible rfl
    try simp only [Act.put, List.setIfInBounds_toArray, List.set_cons_zero, List.set_cons_succ]
    refine wpAnyH_take (i := 11) (oi := _) (v := ?v12) rfl (by kernel_rfl) (by kernel_rfl) (by kernel_rfl) (fun _ _ _ h => h) (Or.inl ⟨by rfl, ?hy12⟩) True.intro ?rest12
    case hy12 => intro w hSw; go_simp <;> with_reducible rfl
    try simp only [Act.put, List.setIfInBounds_toArray, List.set_cons_zero, List.set_cons_succ]
    refine wpAnyH_take (i := 12) (oi := _) (v := ?v13) rfl (by kernel_rfl) (by kernel_rfl) (by kernel_rfl) (fun _ _ _ h => h) (Or.inl ⟨by rfl, ?hy13⟩) True.intro ?rest13
    case hy13 => intro w hSw; go_simp <;> with_reducible rfl
    try simp only [Act.put, List.setIfInBounds_toArray, List.set_cons_zero, List.set_cons_succ]
    refine wpAnyH_take (i := 13) (oi := _) (v := ?v14) rfl (by kernel_rfl) (by kernel_rfl) (by kernel_rfl) (fun _ _ _ h => h) (Or.inl ⟨by rfl, ?hy14⟩) True.intro ?rest14
    case hy14 => intro w hSw; go_simp <;> with_reducible rfl
    try simp only [Act.put, List.setIfInBounds_toArray, List.set_cons_zero, List.set_cons_succ]
    refine wpAnyH_take (i := 14) (oi := _) (v := ?v15) rfl (by kernel_rfl) (by kernel_rfl) (by kernel_rfl) (fun _ _ _ h => h) (Or.inl ⟨by rfl, ?hy15⟩) True.intro ?rest15
    case hy15 => intro w hSw; go_simp <;> with_reducible rfl
    try simp only [Act.put, List.setIfInBounds_toArray, List.set_cons_zero, List.set_cons_succ]
    refine wpAnyH_take (i := 15) (oi := _) (v := ?v16) rfl (by kernel_rfl) (by kernel_rfl) (by kernel_rfl) (fun _ _ _ h => h) (Or.inl ⟨by rfl, ?hy16⟩) True.intro ?rest16
    case hy16 => intro w hSw; go_simp <;> with_reducible rfl
    try simp only [Act.put, List.setIfInBounds_toArray, List.set_cons_zero, List.set_cons_succ]
    refine wpAnyH_take (i := 16) (oi := _) (v := ?v17) rfl (by kernel_rfl) (by kernel_rfl) (by kernel_rfl) (fun _ _ _ h => h) (Or.inl ⟨by rfl, ?hy17⟩) True.intro ?rest17
    case hy17 => intro w hSw; go_simp <;> with_reducible rfl
    try simp only [Act.put, List.setIfInBounds_toArray, List.set_cons_zero, List.set_cons_succ]
    refine wpAnyH_take (i := 17) (oi := _) (v := ?v18) rfl (by kernel_rfl) (by kernel_rfl) (by kernel_rfl) (fun _ _ _ h => h) (Or.inl ⟨by rfl, ?hy18⟩) True.intro ?rest18
    case hy18 => intro w hSw; go_simp <;> with_reducible rfl
    try simp only [Act.put, List.setIfInBounds_toArray, List.set_cons_zero, List.set_cons_succ]
    refine wpAnyH_take (i := 22) (oi := _) (v := ?v19) rfl (by kernel_rfl) (by kernel_rfl) (by kernel_rfl) (fun _ _ _ h => h) (Or.inl ⟨by rfl, ?hy19⟩) True.intro ?rest19
    case hy19 => intro w hSw; go_simp <;> with_reducible rfl
    try simp only [Act.put, List.setIfInBounds_toArray, List.set_cons_zero, List.set_cons_succ]
    refine wpAnyH_take (i := 23) (oi := _) (v := ?v20) rfl (by kernel_rfl) (by kernel_rfl) (by kernel_rfl) (fun _ _ _ h => h) (Or.inl ⟨by rfl, ?hy20⟩) True.intro ?rest20
    case hy20 => intro w hSw; go_simp <;> with_reducible rfl
    try simp only [Act.put, List.setIfInBounds_toArray, List.set_cons_zero, List.set_cons_succ]
    refine wpAnyH_take (i := 24) (oi := _) (v := ?v21) rfl (by kernel_rfl) (by kernel_rfl) (by kernel_rfl) (fun _ _ _ h => h) (Or.inl ⟨by rfl, ?hy21⟩) True.intro ?rest21
    case hy21 => intro w hSw; go_simp <;> with_reducible rfl
    try simp only [Act.put, List.setIfInBounds_toArray, List.set_cons_zero, List.set_cons_succ]
    refine wpAnyH_take (i := 25) (oi := _) (v := ?v22) rfl (by kernel_rfl) (by kernel_rfl) (by kernel_rfl) (fun _ _ _ h => h) (Or.inl ⟨by rfl, ?hy22⟩) True.intro ?rest22
    case hy22 => intro w hSw; go_simp <;> with_reducible rfl
    try simp only [Act.put, List.setIfInBounds_toArray, List.set_cons_zero, List.set_cons_succ]
    refine wpAnyH_take (i := 26) (oi := _) (v := ?v23) rfl (by kernel_rfl) (by kernel_rfl) (by kernel_rfl) (fun _ _ _ h => h) (Or.inl ⟨by rfl, ?hy23⟩) True.intro ?rest23
    case hy23 => intro w hSw; go_simp <;> with_reducible rfl
    try simp only [Act.put, List.setIfInBounds_toArray, List.set_cons_zero, List.set_cons_succ]
    refine wpAnyH_take (i := 27) (oi := _) (v := ?v24) rfl (by kernel_rfl) (by kernel_rfl) (by kernel_rfl) (fun _ _ _ h => h) (Or.inl ⟨by rfl, ?hy24⟩) True.intro ?rest24
    case hy24 => intro w hSw; go_simp <;> with_reducible rfl
    try simp only [Act.put, List.setIfInBounds_toArray, List.set_cons_zero, List.set_cons_succ]
    refine wpAnyH_take (i := 28) (oi := _) (v := ?v25) rfl (by kernel_rfl) (by kernel_rfl) (by kernel_rfl) (fun _ _ _ h => h) (Or.inl ⟨by rfl, ?hy25⟩) True.intro ?rest25
    case hy25 => intro w hSw; go_simp <;> with_reducible rfl
    try simp only [Act.put, List.setIfInBounds_toArray, List.set_cons_zero, List.set_cons_succ]
    refine wpAnyH_take (i := 29) (oi := _) (v := ?v26) rfl (by kernel_rfl) (by kernel_rfl) (by kernel_rfl) (fun _ _ _ h => h) (Or.inl ⟨by rfl, ?hy26⟩) True.intro ?rest26
    case hy26 => intro w hSw; go_simp <;> with_reducible rfl
    try simp only [Act.put, List.setIfInBounds_toArray, List.set_cons_zero, List.set_cons_succ]
    refine wpAnyH_take (i := 30) (oi := _) (v := ?v27) rfl (by kernel_rfl) (by kernel_rfl) (by kernel_rfl) (fun _ _ _ h => h) (Or.inl ⟨by rfl, ?hy27⟩) True.intro ?rest27
    case hy27 => intro w hSw; go_simp <;> with_reducible rfl
    try simp only [Act.put, List.setIfInBounds_toArray, List.set_cons_zero, List.set_cons_succ]
    refine wpAnyH_take (i := 31) (oi := _) (v := ?v28) rfl (by kernel_rfl) (by kernel_rfl) (by kernel_rfl) (fun _ _ _ h => h) (Or.inl ⟨by rfl, ?hy28⟩) True.intro ?rest28
    case hy28 => intro w hSw; go_simp <;> with_reducible rfl
    try simp only [Act.put, List.setIfInBounds_toArray, List.set_cons_zero, List.set_cons_succ]
    refine wpAnyH_take (i := 32) (oi := _) (v := ?v29) rfl (by kernel_rfl) (by kernel_rfl) (by kernel_rfl) (fun _ _ _ h => h) (Or.inl ⟨by rfl, ?hy29⟩) True.intro ?rest29
    case hy29 => intro w hSw; go_simp <;> with_reducible rfl
    try simp only [Act.put, List.setIfInBounds_toArray, List.set_cons_zero, List.set_cons_succ]
    refine wpAnyH_take (i := 33) (oi := _) (v := ?v30) rfl (by kernel_rfl) (by kernel_rfl) (by kernel_rfl) (fun _ _ _ h => h) (Or.inl ⟨by rfl, ?hy30⟩) True.intro ?rest30
    case hy30 => intro w hSw; go_simp <;> with_reducible rfl
    try simp only [Act.put, List.setIfInBounds_toArray, List.set_cons_zero, List.set_cons_succ]
    refine wpAnyH_take (i := 34) (oi := _) (v := ?v31) rfl (by kernel_rfl) (by kernel_rfl) (by kernel_rfl) (fun _ _ _ h => h) (Or.inl ⟨by rfl, ?hy31⟩) True.intro ?rest31
    case hy31 => intro w hSw; go_simp <;> with_reducible rfl
    try simp only [Act.put, List.setIfInBounds_toArray, List.set_cons_zero, List.set_cons_succ]
    refine wpAnyH_take (i := 35) (oi := _) (v := ?v32) rfl (by kernel_rfl) (by kernel_rfl) (by kernel_rfl) (fun _ _ _ h => h) (Or.inl ⟨by rfl, ?hy32⟩) True.intro ?rest32
    case hy32 => intro w hSw; go_simp <;> with_reducible rfl
    try simp only [Act.put, List.setIfInBounds_toArray, List.set_cons_zero, List.set_cons_succ]
    refine wpAnyH_take (i := 36) (oi := _) (v := ?v33) rfl (by kernel_rfl) (by kernel_rfl) (by kernel_rfl) (fun _ _ _ h => h) (Or.inl ⟨by rfl, ?hy33⟩) True.intro ?rest33
    case hy33 => intro w hSw; go_simp <;> with_reducible rfl
    try simp only [Act.put, List.setIfInBounds_toArray, List.set_cons_zero, List.set_cons_succ]
    refine wpAnyH_take (i := 37) (oi := _) (v := ?v34) rfl (by kernel_rfl) (by kernel_rfl) (by kernel_rfl) (fun _ _ _ h => h) (Or.inl ⟨by rfl, ?hy34⟩) True.intro ?rest34
    case hy34 => intro w hSw; go_simp <;> with_reducible rfl
    try simp only [Act.put, List.setIfInBounds_toArray, List.set_cons_zero, List.set_cons_succ]
    refine wpAnyH_take (i := 38) (oi := _) (v := ?v35) rfl (by kernel_rfl) (by kernel_rfl) (by kernel_rfl) (fun _ _ _ h => h) (Or.inl ⟨by rfl, ?hy35⟩) True.intro ?rest35
    case hy35 => intro w hSw; go_simp <;> with_reducible rfl
    try simp only [Act.put, List.setIfInBounds_toArray, List.set_cons_zero, List.set_cons_succ]
    refine wpAnyH_take (i := 39) (oi := _) (v := ?v36) rfl (by kernel_rfl) (by kernel_rfl) (by kernel_rfl) (fun _ _ _ h => h) (Or.inl ⟨by rfl, ?hy36⟩) True.intro ?rest36
    case hy36 => intro w hSw; go_simp <;> with_reducible rfl
    try simp only [Act.put, List.setIfInBounds_toArray, List.set_cons_zero, List.set_cons_succ]
    refine wpAnyH_ready (rs := [18, 40]) (by kernel_rfl) (by simp) ?_
    refine AllReadyH.cons rfl (fun K hK => ?_) ?_
    · go_simp
      refine hK.out _ _ True.intro (fun hHeld2 => ?_)
      clear hK K
      refine wpAnyH_ready (rs := [19, 40]) (by kernel_rfl) (by simp) ?_
      refine AllReadyH.cons rfl (fun K hK => ?_) ?_
      · go_simp
        refine hK.out _ _ True.intro (fun hHeld2 => ?_)
        clear hK K
        refine wpAnyH_take (i := 20) (oi := _) (v := ?v37) rfl (by kernel_rfl) (by kernel_rfl) (by kernel_rfl) (fun _ _ _ h => h) (Or.inl ⟨by rfl, ?hy37⟩) True.intro ?rest37
        case hy37 => intro w hSw; go_simp <;> with_reducible rfl
        try simp only [Act.put, List.setIfInBounds_toArray, List.set_cons_zero, List.set_cons_succ]
        refine wpAnyH_take (i := 21) (oi := _) (v := ?v38) rfl (by kernel_rfl) (by kernel_rfl) (by kernel_rfl) (fun _ _ _ h => h) (Or.inl ⟨by rfl, ?hy38⟩) True.intro ?rest38
        case hy38 => intro w hSw; go_simp <;> with_reducible rfl
        try simp only [Act.put, List.setIfInBounds_toArray, List.set_cons_zero, List.set_cons_succ]
        refine wpAnyH_ready (rs := [40]) (by kernel_rfl) (by simp) ?_
        refine AllReadyH.cons rfl (fun K hK => ?_) ?_
        · go_simp
          refine hK.out _ _ True.intro (fun hHeld2 => ?_)
          clear hK K
          refine wpAnyH_ready (rs := [41]) (by kernel_rfl) (by simp) ?_
          refine AllReadyH.cons rfl (fun K hK => ?_) ?_
          · go_simp
            refine hK.out _ _ True.intro (fun hHeld2 => ?_)
            clear hK K
            refine wpAnyH_take (i := 42) (oi := _) (v := ?v39) rfl (by kernel_rfl) (by kernel_rfl) (by kernel_rfl) (fun _ _ _ h => h) (Or.inl ⟨by rfl, ?hy39⟩) True.intro ?rest39
            case hy39 => intro w hSw; go_simp <;> with_reducible rfl
            try simp only [Act.put, List.setIfInBounds_toArray, List.set_cons_zero, List.set_cons_succ]
            refine wpAnyH_take (i := 43) (oi := _) (v := ?v40) rfl (by kernel_rfl) (by kernel_rfl) (by kernel_rfl) (fun _ _ _ h => h) (Or.inl ⟨by rfl, ?hy40⟩) True.intro ?rest40
            case hy40 => intro w hSw; go_simp <;> with_reducible rfl
            try simp only [Act.put, List.setIfInBounds_toArray, List.set_cons_zero, List.set_cons_succ]
            refine wpAnyH_take (i := 44) (oi := _) (v := ?v41) rfl (by kernel_rfl) (by kernel_rfl) (by kernel_rfl) (fun _ _ _ h => h) (Or.inl ⟨by rfl, ?hy41⟩) True.intro ?rest41
            case hy41 => intro w hSw; go_simp <;> with_reducible rfl
            try simp only [Act.put, List.setIfInBounds_toArray, List.set_cons_zero, List.set_cons_succ]
            refine wpAnyH_done (by kernel_rfl) ?_ _
            go_wp2_with (fail)
            go_meet
            exact ⟨_, rfl, Lib.hid (by simp only [bytesOf_append, HST1.out, HST2.out]; rfl), by first | exact HBA | exact HBB⟩
          exact AllReadyH.nil
        exact AllReadyH.nil
      refine AllReadyH.cons rfl (fun K hK => ?_) ?_
      · go_simp
        refine hK.out _ _ True.intro (fun hHeld2 => ?_)
        clear hK K
        refine wpAnyH_ready (rs := [19, 41]) (by kernel_rfl) (by simp) ?_
        refine AllReadyH.cons rfl (fun K hK => ?_) ?_
        · go_simp
          refine hK.out _ _ True.intro (fun hHeld2 => ?_)
          clear hK K
          refine wpAnyH_take (i := 20) (oi := _) (v := ?v42) rfl (by kernel_rfl) (by kernel_rfl) (by kernel_rfl) (fun _ _ _ h => h) (Or.inl ⟨by rfl, ?hy42⟩) True.intro ?rest42
          case hy42 => intro w hSw; go_simp <;> with_reducible rfl
          try simp only [Act.put, List.setIfInBounds_toArray, List.set_cons_zero, List.set_cons_succ]
          refine wpAnyH_take (i := 21) (oi := _) (v := ?v43) rfl (by kernel_rfl) (by kernel_rfl) (by kernel_rfl) (fun _ _ _ h => h) (Or.inl ⟨by rfl, ?hy43⟩) True.intro ?rest43
          case hy43 => intro w hSw; go_simp <;> with_reducible rfl
          try simp only [Act.put, List.setIfInBounds_toArray, List.set_cons_zero, List.set_cons_succ]
          refine wpAnyH_ready (rs := [41]) (by kernel_rfl) (by simp) ?_
          refine AllReadyH.cons rfl (fun K hK => ?_) ?_
          · go_simp
            refine hK.out _ _ True.intro (fun hHeld2 => ?_)
            clear hK K
            refine wpAnyH_take (i := 42) (oi := _) (v := ?v44) rfl (by kernel_rfl) (by kernel_rfl) (by kernel_rfl) (fun _ _ _ h => h) (Or.inl ⟨by rfl, ?hy44⟩) True.intro ?rest44
            case hy44 => intro w hSw; go_simp <;> with_reducible rfl
            try simp only [Act.put, List.setIfInBounds_toArray, List.set_cons_zero, List.set_cons_succ]
            refine wpAnyH_take (i := 43) (oi := _) (v := ?v45) rfl (by kernel_rfl) (by kernel_rfl) (by kernel_rfl) (fun _ _ _ h => h) (Or.inl ⟨by rfl, ?hy45⟩) True.intro ?rest45
            case hy45 => intro w hSw; go_simp <;> with_reducible rfl
            try simp only [Act.put, List.setIfInBounds_toArray, List.set_cons_zero, List.set_cons_succ]
            refine wpAnyH_take (i := 44) (oi := _) (v := ?v46) rfl (by kernel_rfl) (by kernel_rfl) (by kernel_rfl) (fun _ _ _ h => h) (Or.inl ⟨by rfl, ?hy46⟩) True.intro ?rest46
            case hy46 => intro w hSw; go_simp <;> with_reducible rfl
            try simp only [Act.put, List.setIfInBounds_toArray, List.set_cons_zero, List.set_cons_succ]
            refine wpAnyH_done (by kernel_rfl) ?_ _
            go_wp2_with (fail)
            go_meet
            exact ⟨_, rfl, Lib.hid (by simp only [bytesOf_append, HST1.out, HST2.out]; rfl), by first | exact HBA | exact HBB⟩
          exact AllReadyH.nil
        refine AllReadyH.cons rfl (fun K hK => ?_) ?_
        · go_simp
          refine hK.out _ _ True.intro (fun hHeld2 => ?_)
          clear hK K
          refine wpAnyH_ready (rs := [19]) (by kernel_rfl) (by simp) ?_
          refine AllReadyH.cons rfl (fun K hK => ?_) ?_
          · go_simp
            refine hK.out _ _ True.intro (fun hHeld2 => ?_)
            clear hK K
            refine wpAnyH_take (i := 20) (oi := _) (v := ?v47) rfl (by kernel_rfl) (by kernel_rfl) (by kernel_rfl) (fun _ _ _ h => h) (Or.inl ⟨by rfl, ?hy47⟩) True.intro ?rest47
            case hy47 => intro w hSw; go_simp <;> with_reducible rfl
            try simp only [Act.put, List.setIfInBounds_toArray, List.set_cons_zero, List.set_cons_succ]
            refine wpAnyH_take (i := 21) (oi := _) (v := ?v48) rfl (by kernel_rfl) (by kernel_rfl) (by kernel_rfl) (fun _ _ _ h => h) (Or.inl ⟨by rfl, ?hy48⟩) True.intro ?rest48
            case hy48 => intro w hSw; go_simp <;> with_reducible rfl
            try simp only [Act.put, List.setIfInBounds_toArray, List.set_cons_zero, List.set_cons_succ]
            refine wpAnyH_take (i := 42) (oi := _) (v := ?v49) rfl (by kernel_rfl) (by kernel_rfl) (by kernel_rfl) (fun _ _ _ h => h) (Or.inl ⟨by rfl, ?hy49⟩) True.intro ?rest49
            case hy49 => intro w hSw; go_simp <;> with_reducible rfl
            try simp only [Act.put, List.setIfInBounds_toArray, List.set_cons_zero, List.set_cons_succ]
            refine wpAnyH_take (i := 43) (oi := _) (v := ?v50) rfl (by kernel_rfl) (by kernel_rfl) (by kernel_rfl) (fun _ _ _ h => h) (Or.inl ⟨by rfl, ?hy50⟩) True.intro ?rest50
            case hy50 => intro w hSw; go_simp <;> with_reducible rfl
            try simp only [Act.put, List.setIfInBounds_toArray, List.set_cons_zero, List.set_cons_succ]
            refine wpAnyH_take (i := 44) (oi := _) (v := ?v51) rfl (by kernel_rfl) (by kernel_rfl) (by kernel_rfl) (fun _ _ _ h => h) (Or.inl ⟨by rfl, ?hy51⟩) True.intro ?rest51
            case hy51 => intro w hSw; go_simp <;> with_reducible rfl
            try simp only [Act.put, List.setIfInBounds_toArray, List.set_cons_zero, List.set_cons_succ]
            refine wpAnyH_done (by kernel_rfl) ?_ _
            go_wp2_with (fail)
            go_meet
            exact ⟨_, rfl, Lib.hid (by simp only [bytesOf_append, HST1.out, HST2.out]; rfl), by first | exact HBA | exact HBB⟩
          exact AllReadyH.nil
        exact AllReadyH.nil
      exact AllReadyH.nil
    refine AllReadyH.cons rfl (fun K hK => ?_) ?_
    · go_simp
      refine hK.out _ _ True.intro (fun hHeld2 => ?_)
      clear hK K
      refine wpAnyH_ready (rs := [18, 41]) (by kernel_rfl) (by simp) ?_
      refine AllReadyH.cons rfl (fun K hK => ?_) ?_
      · go_simp
        refine hK.out _ _ True.intro (fun hHeld2 => ?_)
        clear hK K
        refine wpAnyH_ready (rs := [19, 41]) (by kernel_rfl) (by simp) ?_
        refine AllReadyH.cons rfl (fun K hK => ?_) ?_
        · go_simp
          refine hK.out _ _ True.intro (fun hHeld2 => ?_)
          clear hK K
          refine wpAnyH_take (i := 20) (oi := _) (v := ?v52) rfl (by kernel_rfl) (by kernel_rfl) (by kernel_rfl) (fun _ _ _ h => h) (Or.inl ⟨by rfl, ?hy52⟩) True.intro ?rest52
          case hy52 => intro w hSw; go_simp <;> with_reducible rfl
          try simp only [Act.put, List.setIfInBounds_toArray, List.set_cons_zero, List.set_cons_succ]
          refine wpAnyH_take (i := 21) (oi := _) (v := ?v53) rfl (by kernel_rfl) (by kernel_rfl) (by kernel_rfl) (fun _ _ _ h => h) (Or.inl ⟨by rfl, ?hy53⟩) True.intro ?rest53
          case hy53 => intro w hSw; go_simp <;> with_reducible rfl
          try simp only [Act.put, List.setIfInBounds_toArray, List.set_cons_zero, List.set_cons_succ]
          refine wpAnyH_ready (rs := [41]) (by kernel_rfl) (by simp) ?_
          refine AllReadyH.cons rfl (fun K hK => ?_) ?_
          · go_simp
            refine hK.out _ _ True.intro (fun hHeld2 => ?_)
            clear hK K
            refine wpAnyH_take (i := 42) (oi := _) (v := ?v54) rfl (by kernel_rfl) (by kernel_rfl) (by kernel_rfl) (fun _ _ _ h => h) (Or.inl ⟨by rfl, ?hy54⟩) True.intro ?rest54
            case hy54 => intro w hSw; go_simp <;> with_reducible rfl
            try simp only [Act.put, List.setIfInBounds_toArray, List.set_cons_zero, List.set_cons_succ]
            refine wpAnyH_take (i := 43) (oi := _) (v := ?v55) rfl (by kernel_rfl) (by kernel_rfl) (by kernel_rfl) (fun _ _ _ h => h) (Or.inl ⟨by rfl, ?hy55⟩) True.intro ?rest55
            case hy55 => intro w hSw; go_simp <;> with_reducible rfl
            try simp only [Act.put, List.setIfInBounds_toArray, List.set_cons_zero, List.set_cons_succ]
            refine wpAnyH_take (i := 44) (oi := _) (v := ?v56) rfl (by kernel_rfl) (by kernel_rfl) (by kernel_rfl) (fun _ _ _ h => h) (Or.inl ⟨by rfl, ?hy56⟩) True.intro ?rest56
            case hy56 => intro w hSw; go_simp <;> with_reducible rfl
            try simp only [Act.put, List.setIfInBounds_toArray, List.set_cons_zero, List.set_cons_succ]
            refine wpAnyH_done (by kernel_rfl) ?_ _
            go_wp2_with (fail)
            go_meet
            exact ⟨_, rfl, Lib.hid (by simp only [bytesOf_append, HST1.out, HST2.out]; rfl), by first | exact HBA | exact HBB⟩
          exact AllReadyH.nil
        refine AllReadyH.cons rfl (fun K hK => ?_) ?_
        · go_simp
          refine hK.out _ _ True.intro (fun hHeld2 => ?_)
          clear hK K
          refine wpAnyH_ready (rs := [19]) (by kernel_rfl) (by simp) ?_
          refine AllReadyH.cons rfl (fun K hK => ?_) ?_
          · go_simp
            refine hK.out _ _ True.intro (fun hHeld2 => ?_)
            clear hK K
            refine wpAnyH_take (i := 20) (oi := _) (v := ?v57) rfl (by kernel_rfl) (by kernel_rfl) (by kernel_rfl) (fun _ _ _ h => h) (Or.inl ⟨by rfl, ?hy57⟩) True.intro ?rest57
            case hy57 => intro w hSw; go_simp <;> with_reducible rfl
            try simp only [Act.put, List.setIfInBounds_toArray, List.set_cons_zero, List.set_cons_succ]
            refine wpAnyH_take (i := 21) (oi := _) (v := ?v58) rfl (by kernel_rfl) (by kernel_rfl) (by kernel_rfl) (fun _ _ _ h => h) (Or.inl ⟨by rfl, ?hy58⟩) True.intro ?rest58
            case hy58 => intro w hSw; go_simp <;> with_reducible rfl
            try simp only [Act.put, List.setIfInBounds_toArray, List.set_cons_zero, List.set_cons_succ]
            refine wpAnyH_take (i := 42) (oi := _) (v := ?v59) rfl (by kernel_rfl) (by kernel_rfl) (by kernel_rfl) (fun _ _ _ h => h) (Or.inl ⟨by rfl, ?hy59⟩) True.intro ?rest59
            case hy59 => intro w hSw; go_simp <;> with_reducible rfl
            try simp only [Act.put, List.setIfInBounds_toArray, List.set_cons_zero, List.set_cons_succ]
            refine wpAnyH_take (i := 43) (oi := _) (v := ?v60) rfl (by kernel_rfl) (by kernel_rfl) (by kernel_rfl) (fun _ _ _ h => h) (Or.inl ⟨by rfl, ?hy60⟩) True.intro ?rest60
            case hy60 => intro w hSw; go_simp <;> with_reducible rfl
            try simp only [Act.put, List.setIfInBounds_toArray, List.set_cons_zero, List.set_cons_succ]
            refine wpAnyH_take (i := 44) (oi := _) (v := ?v61) rfl (by kernel_rfl) (by kernel_rfl) (by kernel_rfl) (fun _ _ _ h => h) (Or.inl ⟨by rfl, ?hy61⟩) True.intro ?rest61
            case hy61 => intro w hSw; go_simp <;> with_reducible rfl
            try simp only [Act.put, List.setIfInBounds_toArray, List.set_cons_zero, List.set_cons_succ]
            refine wpAnyH_done (by kernel_rfl) ?_ _
            go_wp2_with (fail)
            go_meet
            exact ⟨_, rfl, Lib.hid (by simp only [bytesOf_append, HST1.out, HST2.out]; rfl), by first | exact HBA | exact HBB⟩
          exact AllReadyH.nil
        exact AllReadyH.nil
      refine AllReadyH.cons rfl (fun K hK => ?_) ?_
      · go_simp
        refine hK.out _ _ True.intro (fun hHeld2 => ?_)
        clear hK K
        refine wpAnyH_ready (rs := [18]) (by kernel_rfl) (by simp) ?_
        refine AllReadyH.cons rfl (fun K hK => ?_) ?_
        · go_simp
          refine hK.out _ _ True.intro (fun hHeld2 => ?_)
          clear hK K
          refine wpAnyH_ready (rs := [19]) (by kernel_rfl) (by simp) ?_
          refine AllReadyH.cons rfl (fun K hK => ?_) ?_
          · go_simp
            refine hK.out _ _ True.intro (fun hHeld2 => ?_)
            clear hK K
            refine wpAnyH_take (i := 20) (oi := _) (v := ?v62) rfl (by kernel_rfl) (by kernel_rfl) (by kernel_rfl) (fun _ _ _ h => h) (Or.inl ⟨by rfl, ?hy62⟩) True.intro ?rest62
            case hy62 => intro w hSw; go_simp <;> with_reducible rfl
            try simp only [Act.put, List.setIfInBounds_toArray, List.set_cons_zero, List.set_cons_succ]
            refine wpAnyH_take (i := 21) (oi := _) (v := ?v63) rfl (by kernel_rfl) (by kernel_rfl) (by kernel_rfl) (fun _ _ _ h => h) (Or.inl ⟨by rfl, ?hy63⟩) True.intro ?rest63
            case hy63 => intro w hSw; go_simp <;> with_reducible rfl
            try simp only [Act.put, List.setIfInBounds_toArray, List.set_cons_zero, List.set_cons_succ]
            refine wpAnyH_take (i := 42) (oi := _) (v := ?v64) rfl (by kernel_rfl) (by kernel_rfl) (by kernel_rfl) (fun _ _ _ h => h) (Or.inl ⟨by rfl, ?hy64⟩) True.intro ?rest64
            case hy64 => intro w hSw; go_simp <;> with_reducible rfl
            try simp only [Act.put, List.setIfInBounds_toArray, List.set_cons_zero, List.set_cons_succ]
            refine wpAnyH_take (i := 43) (oi := _) (v := ?v65) rfl (by kernel_rfl) (by kernel_rfl) (by kernel_rfl) (fun _ _ _ h => h) (Or.inl ⟨by rfl, ?hy65⟩) True.intro ?rest65
            case hy65 => intro w hSw; go_simp <;> with_reducible rfl
            try simp only [Act.put, List.setIfInBounds_toArray, List.set_cons_zero, List.set_cons_succ]
            refine wpAnyH_take (i := 44) (oi := _) (v := ?v66) rfl (by kernel_rfl) (by kernel_rfl) (by kernel_rfl) (fun _ _ _ h => h) (Or.inl ⟨by rfl, ?hy66⟩) True.intro ?rest66
            case hy66 => intro w hSw; go_simp <;> with_reducible rfl
            try simp only [Act.put, List.setIfInBounds_toArray, List.set_cons_zero, List.set_cons_succ]
            refine wpAnyH_done (by kernel_rfl) ?_ _
            go_wp2_with (fail)
            go_meet
            exact ⟨_, rfl, Lib.hid (by simp only [bytesOf_append, HST1.out, HST2.out]; rfl), by first | exact HBA | exact HBB⟩
          exact AllReadyH.nil
        exact AllReadyH.nil
      exact AllReadyH.nil
    exact AllReadyH.nil
  obtain ⟨x, rfl, HTX, HB0⟩ := hcut
  clear e3 e2 e1 e0 f3 f2 f1 f0 ix3 ix2 ix1 ix0 iy3 iy2 iy1 iy0 lx3 lx2 lx1 lx0 ly3 ly2 ly1 ly0 b3 b2 b1 b0 c3 c2 c1 c0 hsz F1b F2b F3b G1b G2b G3b HST1 HST2 hsd1 hsd2 HBA HBB
  go_wp2_with (fail)
  refine (H15.out _ _ HB0.out HTX.out).mono ?_
  rintro e w1 ⟨str, ok, rfl, hb1, hr⟩
  have HB1 := Lib.hid (HB0.out.trans (hb1.mono HB0.out.size))
  have hr2 := unq_pair hr
  clear hr hb1
  have hpn := pairR_ne a b
  by_cases hv : a < 56320 ∧ 56320 ≤ b
  · have t1 : decide (a < 56320) = true := decide_eq_true hv.1
    have t2 : decide (56320 ≤ b) = true := decide_eq_true hv.2
    have hne : pairR a b ≠ 65533 := fun h => hpn.1 h ⟨by omega, hv.1, hv.2, by omega⟩
    rcases hr2 with ⟨_, rfl, rfl⟩ | ⟨h, _⟩
    · have hz : 65536 + 1024 * (a - 55296) + b - 56320 = pairR a b := by unfold pairR; rw [if_pos ⟨by omega, hv.1, hv.2, by omega⟩]; omega
      have ENC := Lib.hid (fun W => spec_Encoded.calls 1 (65536 + 1024 * (a - 55296) + b - 56320) (strOfNums (encR (pairR a b))) W (by rw [enc_ev 0 _ (by omega) (by omega), encS_lo (by omega), hz]))
      have HV3 := Lib.hid (show ∀ r : Bool, (r = true ↔ V false false (34 :: ([92, 117, a3, a2, a1, a0, 92, 117, z3, z2, z1, z0] ++ [34]))) → r = true from fun r h => h.2 (HV2.out.2 hv))
      generalize strOfNums (encR (pairR a b)) = es at *
      clear hz hne hpn hv
      go_wp2_with (fail)
      refine (ENC.out _).mono ?_
      rintro e w2 ⟨rfl, hb2⟩
      have HB2 := Lib.hid (HB1.out.trans (hb2.mono HB1.out.size))
      clear hb2
      go_wp2_with (fail)
      refine (H16.out _ _ _ HB2.out (by simp) HTX.out).mono ?_
      rintro e w3 ⟨r, rfl, hr, hb3⟩
      obtain rfl := HV3.out r hr
      have HB3 := Lib.hid (HB2.out.trans (hb3.mono HB2.out.size))
      clear hr hb3
      go_wp2_with (fail)
      go_returns
      exact ⟨rfl, HB3.out⟩
    · exact absurd h hne
  · have heq : pairR a b = 65533 := hpn.2 (fun h => hv ⟨h.2.1, h.2.2.1⟩)
    rcases hr2 with ⟨h, _⟩ | ⟨_, rfl, rfl⟩
    · exact absurd heq h
    · have HV3 := Lib.hid (show ∀ r : Bool, (r = true ↔ V false false (34 :: ([92, 117, a3, a2, a1, a0, 92, 117, z3, z2, z1, z0] ++ [34]))) → r = false from fun r h => by
        cases r with
        | false => rfl
        | true => exact absurd (HV2.out.1 (h.1 rfl)) hv)
      have hvv : ¬ a < 56320 ∨ ¬ 56320 ≤ b := by omega
      clear heq hpn hv
      by_cases ha : a < 56320
      · have t1 : decide (a < 56320) = true := decide_eq_true ha
        have t2 : decide (56320 ≤ b) = false := decide_eq_false (by omega)
        clear hvv
        go_wp2_with (fail)
        refine (H16.out _ _ _ HB1.out (by simp) HTX.out).mono ?_
        rintro e w3 ⟨r, rfl, hr, hb3⟩
        obtain rfl := HV3.out r hr
        have HB3 := Lib.hid (HB1.out.trans (hb3.mono HB1.out.size))
        clear hr hb3
        go_wp2_with (fail)
        go_returns
        exact ⟨rfl, HB3.out⟩
      · have t1 : decide (a < 56320) = false := decide_eq_false ha
        clear hvv
        go_wp2_with (fail)
        refine (H16.out _ _ _ HB1.out (by simp) HTX.out).mono ?_
        rintro e w3 ⟨r, rfl, hr, hb3⟩
        obtain rfl := HV3.out r hr
        have HB3 := Lib.hid (HB1.out.trans (hb3.mono HB1.out.size))
        clear hr hb3
        go_wp2_with (fail)
        go_returns
        exact ⟨rfl, HB3.out⟩
end Go.Proofs.YtjfbkgkpjkickaaGreatDoor.PAll
