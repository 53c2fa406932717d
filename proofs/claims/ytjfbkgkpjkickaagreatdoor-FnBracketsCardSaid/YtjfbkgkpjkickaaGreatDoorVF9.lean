/- The texts of a proof, its declarations alone: part 9. -/
import Derived.Test.YtjfbkgkpjkickaaGreatDoorVF8
set_option linter.unusedVariables false
set_option linter.unusedSimpArgs false
-- YtjfbkgkpjkickaaGreatDoorFj
set_option linter.unusedVariables false
set_option linter.unusedSimpArgs false
namespace Go.Proofs.YtjfbkgkpjkickaaGreatDoor.PAll
open Go.RowKit Go.Proofs.YtjfbkgkpjkickaaGreatDoorW.PrintWords Go.Proofs.YtjfbkgkpjkickaaGreatDoorW.PrintLast Go.Proofs.YtjfbkgkpjkickaaGreatDoorW.PrintMore

set_option maxRecDepth 100000 in
set_option maxHeartbeats 8000000 in
theorem f16b (d i : Bool) (s : ByteArray) (a b k : Nat) (w : World) (G : GV) (loose dup : Bool)
    (hO : Opt (flagsOf d i) loose dup) (hE0 : Env w G) (hsent : Sent w G w.heap.size) (hlen : s.size ≤ 4000000000)
    (hbk : Brk (bytesOf s) a b) (ha : a ≤ 900) (hak : k + 1 = a) :
    Calls Tryz.prog 16 #[.string s, optsV d i] w (IsV (a = b) w) := by
  obtain ⟨w1, hw1⟩ : ∃ x, x = w.alloc (.cells #[.int .i64 (if d then 1 else 0), .int .i64 (if i then 1 else 0), .int .i64 0, .int .i64 0, .int .i64 0, .int .i64 0, .int .i64 0, .int .i64 0, .int .i64 0, .int .i64 0, .int .i64 0, .bool false, .string ⟨#[]⟩, .bool false, .string ⟨#[]⟩] 27) := ⟨_, rfl⟩
  have hs1 : w1.heap.size = w.heap.size + 1 := by rw [hw1]; simp
  have hb1 : Below w.heap.size w w1 := by rw [hw1]; exact below_alloc (Below.refl _ _) _
  obtain ⟨w2, hw2⟩ : ∃ x, x = Lib.bytesWorld w1 5 s := ⟨_, rfl⟩
  have hs2 : w2.heap.size = w.heap.size + 2 := by rw [hw2, Lib.bytesWorld_size, hs1]
  have hb2 : Below w1.heap.size w1 w2 := by rw [hw2]; exact Joins.below_bytesWorld _ _ 5 s (Nat.le_refl _)
  have hblk : w2.heap[w.heap.size]? = some (.cells #[.int .i64 (if d then 1 else 0), .int .i64 (if i then 1 else 0), .int .i64 0, .int .i64 0, .int .i64 0, .int .i64 0, .int .i64 0, .int .i64 0, .int .i64 0, .int .i64 0, .int .i64 0, .bool false, .string ⟨#[]⟩, .bool false, .string ⟨#[]⟩] 27 (0, 0)) := by
    rw [hb2.block _ (by omega), hw1]; exact heap_alloc_new w _
  have hrb : RB w2 (w.heap.size + 1) 0 (bytesOf s) := by rw [hw2, ← hs1]; exact rb_bytes w1 s
  have hcv := conv50 s w1
  rw [← hw2, hs1] at hcv
  obtain ⟨c, hcc⟩ : ∃ c, c = grownCap w1 s.size 0 5 := ⟨_, rfl⟩
  have hc1 : (bytesOf s).length ≤ c := by rw [hcc, bytesOf_length]; exact grownCap_ge w1 s.size 0 5
  have hc2 : c ≤ 9223372036854775807 := by
    rw [hcc]
    have := grownCap_le_maxLen w1 s.size 0 5 (by simp only [maxLen]; omega)
    simpa only [maxLen] using this
  rw [← hcc] at hcv
  have HRB := Lib.hid hrb
  have HB2 := Lib.hid (show Below w.heap.size w w2 from hb1.trans (hb2.mono (by omega)))
  have H28 := Lib.hid (f28 d i w2)
  have HE2 := Lib.hid (hE0.mono HB2.out)
  have HS2 := Lib.hid (show Sent w2 G (w.heap.size + 1) from ⟨fun a ha => Nat.lt_succ_of_lt (hsent.lt a ha), (hsent.mono HB2.out).blk⟩)
  have h13 := hE0.lt
  have C27 := fun (v : Value) (base : Nat) (W : World) (hW : Below w2.heap.size w2 W) hl hb => f27b d i (w.heap.size + 1) c base a b k (bytesOf s) v W G loose dup hO (HE2.out.mono hW) (HRB.out.mono hW) (bs_bytes s) hc1 hc2 (by rw [bytesOf_length]; exact hlen) (by have := hW.size; omega) (by omega) (HS2.out.mono hW) hl hb hbk ha hak
  rw [bytesOf_length] at C27
  have H27 := Lib.hid C27
  have l0 := (blk_cell hblk 0).trans (show _ = some (.int .i64 (if d then 1 else 0)) from rfl)
  have l1 := (blk_cell hblk 1).trans (show _ = some (.int .i64 (if i then 1 else 0)) from rfl)
  have l2 := (blk_cell hblk 2).trans (show _ = some (.int .i64 0) from rfl)
  have l3 := (blk_cell hblk 3).trans (show _ = some (.int .i64 0) from rfl)
  have l4 := (blk_cell hblk 4).trans (show _ = some (.int .i64 0) from rfl)
  have l5 := (blk_cell hblk 5).trans (show _ = some (.int .i64 0) from rfl)
  have l6 := (blk_cell hblk 6).trans (show _ = some (.int .i64 0) from rfl)
  have l7 := (blk_cell hblk 7).trans (show _ = some (.int .i64 0) from rfl)
  have l8 := (blk_cell hblk 8).trans (show _ = some (.int .i64 0) from rfl)
  have l9 := (blk_cell hblk 9).trans (show _ = some (.int .i64 0) from rfl)
  have l10 := (blk_cell hblk 10).trans (show _ = some (.int .i64 0) from rfl)
  have l11 := (blk_cell hblk 11).trans (show _ = some (.bool false) from rfl)
  have l12 := (blk_cell hblk 12).trans (show _ = some (.string ⟨#[]⟩) from rfl)
  have l13 := (blk_cell hblk 13).trans (show _ = some (.bool false) from rfl)
  have l14 := (blk_cell hblk 14).trans (show _ = some (.string ⟨#[]⟩) from rfl)
  rw [hw1] at hcv
  clear hO hE0 hsent hbk hak C27 hb1 hb2 hblk hrb hs1 hw2 hw1
  have HCC := Lib.hid hcc
  clear hcc
  unfold optsV at *
  generalize (if d = true then (1 : Int) else 0) = dv at *
  generalize (if i = true then (1 : Int) else 0) = iv at *
  go_enter Tryz.func16, Tryz.ntmps16
  go_wp2_with (fail)
  refine H28.out.mono ?_
  rintro e w3 ⟨v, rfl, hown, hb3⟩
  have HOW := Lib.hid hown
  have HB3 := Lib.hid hb3
  have C := Lib.hid (H27.out v (w2.heap.size + 1) w3 hb3 (LsAt.of hown) (fun E' A' c' e => by
    rcases hown.2 with ⟨rfl, _⟩ | ⟨g, cap, cur, rfl, _, hg, _⟩
    · cases e
    · injection e with e _ _
      injection e with e
      injection e with e _
      subst e
      exact (Array.getElem?_eq_some_iff.1 hg).1))
  clear hown hb3
  go_wp2_with (fail)
  refine C.out.mono ?_
  rintro e w4 ⟨r, rfl, hr, hb4⟩
  have HR := Lib.hid hr
  have HB4 := Lib.hid ((HB2.out.trans (HB3.out.mono HB2.out.size)).trans (hb4.mono (Nat.le_trans HB2.out.size HB3.out.size)))
  clear hr hb4
  go_wp2_with (fail)
  go_returns
  exact ⟨r, rfl, HR.out, HB4.out⟩
end Go.Proofs.YtjfbkgkpjkickaaGreatDoor.PAll
