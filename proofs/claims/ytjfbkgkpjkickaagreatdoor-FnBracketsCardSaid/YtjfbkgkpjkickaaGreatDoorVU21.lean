/- The texts of a proof, its declarations alone: part 21. -/
import Derived.Defers
import Derived.Test.YtjfbkgkpjkickaaGreatDoorVU9
import Derived.Test.YtjfbkgkpjkickaaGreatDoorVU19
import Derived.Test.YtjfbkgkpjkickaaGreatDoorVU20
set_option linter.unusedVariables false
set_option linter.unusedSimpArgs false
-- YtjfbkgkpjkickaaGreatDoorCi
set_option linter.unusedVariables false
set_option linter.unusedSimpArgs false
namespace Go.Proofs.YtjfbkgkpjkickaaGreatDoor.PAll
open Go.RowKit Go.Proofs.YtjfbkgkpjkickaaGreatDoorW.PrintWords Go.Proofs.YtjfbkgkpjkickaaGreatDoorW.PrintLast Go.Proofs.YtjfbkgkpjkickaaGreatDoorW.PrintMore

def stCells (p v : Int) : Array Value := #[.int .u64 p, .int .u64 v, .string ⟨#[]⟩, .string ⟨#[]⟩, .int .i64 0, .int .i64 0, .nilIface, .nilIface, .string ⟨#[]⟩]
set_option maxRecDepth 100000 in
set_option maxHeartbeats 4000000 in
theorem f70 (d i : Bool) (D B n c base : Nat) (v : Value) (w : World) (hD : DecAt w D (Z (.slice none 0 0) 0 0)) (hl : LsAt w v base (optsL d i)) (hb : ∀ E A c, v = .slice (some ⟨E, A, none⟩) (optsL d i).length c → E < D) :
    Calls Tryz.prog 70 #[.pointer (some ⟨D, 0, none⟩), .slice (some ⟨B, 0, none⟩) n c, .nilIface, v] w fun e w' => e = .returned (.tuple #[]) ∧ BB D w w' ∧ DecAt w' D (Z (.slice (some ⟨B, 0, none⟩) n c) (flagsOf d i) (flagsOf d i)) := by
  have C83 := Lib.hid (f83 D (.slice none 0 0) 0 0 w hD)
  have HL := Lib.hid hl
  have HBD := Lib.hid hb
  have HD0 := Lib.hid hD
  clear hl hb hD
  go_enter Tryz.func70, Tryz.ntmps70
  go_wp2_with (fail)
  refine C83.out.mono ?_
  rintro e w1 ⟨rfl, hb1, hd1⟩
  have HB1 := Lib.hid hb1
  have HD1 := Lib.hid hd1
  have m5 : w1.cell? ⟨D, 5, none⟩ = some (.int .i64 0) := hd1.cell 5 _ rfl
  have m6 : w1.cell? ⟨D, 6, none⟩ = some .nilIface := hd1.cell 6 _ rfl
  have m7 : w1.cell? ⟨D, 7, none⟩ = some (.slice none 0 0) := hd1.cell 7 _ rfl
  have m8 : w1.cell? ⟨D, 8, none⟩ = some (.int .i64 0) := hd1.cell 8 _ rfl
  have m9 : w1.cell? ⟨D, 9, none⟩ = some (.int .i64 0) := hd1.cell 9 _ rfl
  have m10 : w1.cell? ⟨D, 10, none⟩ = some (.int .i64 0) := hd1.cell 10 _ rfl
  have m11 : w1.cell? ⟨D, 11, none⟩ = some .nilIface := hd1.cell 11 _ rfl
  have m12 : w1.cell? ⟨D, 12, none⟩ = some (.string ⟨#[]⟩) := hd1.cell 12 _ rfl
  have z5 := hd1.fz 5
  have z6 := hd1.fz 6
  have z7 := hd1.fz 7
  have z8 := hd1.fz 8
  have z9 := hd1.fz 9
  have z10 := hd1.fz 10
  have z11 := hd1.fz 11
  have z12 := hd1.fz 12
  clear hb1 hd1
  go_upto_region 2 with (fail)
  obtain ⟨w2, hw2⟩ : ∃ x, x = ((((((((w1.setCell ⟨D, 5, none⟩ (Value.int IntKind.i64 0)).setCell ⟨D, 6, none⟩ (Value.nilIface)).setCell ⟨D, 7, none⟩ (Value.slice (some { block := B, off := 0 }) n c)).setCell ⟨D, 8, none⟩ (Value.int IntKind.i64 0)).setCell ⟨D, 9, none⟩ (Value.int IntKind.i64 0)).setCell ⟨D, 10, none⟩ (Value.int IntKind.i64 0)).setCell ⟨D, 11, none⟩ (Value.nilIface)).setCell ⟨D, 12, none⟩ (Value.string { data := #[] })) := ⟨_, rfl⟩
  have HB2 := Lib.hid (show BB D w w2 by rw [hw2]; exact ((((((((HB1.out.set 5 _).set 6 _).set 7 _).set 8 _).set 9 _).set 10 _).set 11 _).set 12 _))
  have HD2 := Lib.hid (show DecAt w2 D (Z (.slice (some ⟨B, 0, none⟩) n c) 0 0) by rw [hw2]; exact ((((((((((((((((HD1.out).set 5 _ (Z (.slice none 0 0) 0 0) rfl)).set 6 _ (Z (.slice none 0 0) 0 0) rfl)).set 7 _ (Z (.slice (some ⟨B, 0, none⟩) n c) 0 0) rfl)).set 8 _ (Z (.slice (some ⟨B, 0, none⟩) n c) 0 0) rfl)).set 9 _ (Z (.slice (some ⟨B, 0, none⟩) n c) 0 0) rfl)).set 10 _ (Z (.slice (some ⟨B, 0, none⟩) n c) 0 0) rfl)).set 11 _ (Z (.slice (some ⟨B, 0, none⟩) n c) 0 0) rfl)).set 12 _ (Z (.slice (some ⟨B, 0, none⟩) n c) 0 0) rfl))
  rw [← hw2]
  clear hw2 m5 m6 m7 m8 m9 m10 m11 m12 z5 z6 z7 z8 z9 z10 z11 z12
  go_upto_region 3 with (fail)
  obtain ⟨w3, hw3⟩ : ∃ x, x = w2.alloc (.cells (stCells 0 0) 133) := ⟨_, rfl⟩
  have HST := Lib.hid (show StAt w3 w2.heap.size 0 0 by rw [hw3]; exact heap_alloc_new w2 _)
  have HB3 := Lib.hid (show Below w2.heap.size w2 w3 by rw [hw3]; exact below_alloc (Below.refl _ _) _)
  unfold stCells at hw3
  rw [← hw3]
  clear hw3
  have hDS : D < w2.heap.size := HD2.out.lt
  have hSw : w.heap.size ≤ w2.heap.size := HB2.out.size
  have HBB3 := Lib.hid (HB2.out.next HB3.out)
  have HD3 := Lib.hid (HD2.out.mono HB3.out)
  generalize w2.heap.size = S at *
  have HL3 := Lib.hid (HL.out.bb HBB3.out (fun A c e => Nat.lt_irrefl D (HBD.out D A c e)))
  have C84 := Lib.hid (f84 d i S base v w3 HST.out HL3.out (fun A c e => by have := HBD.out S A c e; omega))
  go_wp2_with (fail)
  refine C84.out.mono ?_
  rintro e w4 ⟨rfl, hb4, hs4⟩
  have HB4 := Lib.hid (show Below D w w4 from (HBB3.out.below (Nat.le_refl _) (Nat.le_of_lt HD0.out.lt)).trans (hb4.below (Nat.le_of_lt hDS) (Nat.le_of_lt HD3.out.lt)))
  have HBBX := Lib.hid (show BB D w w4 from ⟨hb4.os.trans HBB3.out.os, hb4.tape.trans HBB3.out.tape, hb4.output.trans HBB3.out.output, Nat.le_trans HBB3.out.size hb4.size, fun k hk hn => by rw [hb4.block k (Nat.lt_of_lt_of_le hk HBB3.out.size) (by omega)]; exact HBB3.out.block k hk hn⟩)
  have HD4 := Lib.hid (show DecAt w4 D _ from HD3.out.bb hb4 (by omega))
  have b0 : w4.cell? ⟨S, 0, none⟩ = some (.int .u64 (flagsOf d i)) := (blk_cell hs4 0).trans rfl
  have b1 : w4.cell? ⟨S, 1, none⟩ = some (.int .u64 (flagsOf d i)) := (blk_cell hs4 1).trans rfl
  have b2 : w4.cell? ⟨S, 2, none⟩ = some (.string ⟨#[]⟩) := (blk_cell hs4 2).trans rfl
  have b3 : w4.cell? ⟨S, 3, none⟩ = some (.string ⟨#[]⟩) := (blk_cell hs4 3).trans rfl
  have b4 : w4.cell? ⟨S, 4, none⟩ = some (.int .i64 0) := (blk_cell hs4 4).trans rfl
  have b5 : w4.cell? ⟨S, 5, none⟩ = some (.int .i64 0) := (blk_cell hs4 5).trans rfl
  have b6 : w4.cell? ⟨S, 6, none⟩ = some (.nilIface) := (blk_cell hs4 6).trans rfl
  have b7 : w4.cell? ⟨S, 7, none⟩ = some (.nilIface) := (blk_cell hs4 7).trans rfl
  have b8 : w4.cell? ⟨S, 8, none⟩ = some (.string ⟨#[]⟩) := (blk_cell hs4 8).trans rfl
  have m0 : w4.cell? ⟨D, 13, none⟩ = some (.int .u64 0) := HD4.out.cell 13 _ rfl
  have z0 := HD4.out.fz 13
  have m1 : w4.cell? ⟨D, 14, none⟩ = some (.int .u64 0) := HD4.out.cell 14 _ rfl
  have z1 := HD4.out.fz 14
  have m2 : w4.cell? ⟨D, 15, none⟩ = some (.string ⟨#[]⟩) := HD4.out.cell 15 _ rfl
  have z2 := HD4.out.fz 15
  have m3 : w4.cell? ⟨D, 16, none⟩ = some (.string ⟨#[]⟩) := HD4.out.cell 16 _ rfl
  have z3 := HD4.out.fz 16
  have m4 : w4.cell? ⟨D, 17, none⟩ = some (.int .i64 0) := HD4.out.cell 17 _ rfl
  have z4 := HD4.out.fz 17
  have m5 : w4.cell? ⟨D, 18, none⟩ = some (.int .i64 0) := HD4.out.cell 18 _ rfl
  have z5 := HD4.out.fz 18
  have m6 : w4.cell? ⟨D, 19, none⟩ = some (.nilIface) := HD4.out.cell 19 _ rfl
  have z6 := HD4.out.fz 19
  have m7 : w4.cell? ⟨D, 20, none⟩ = some (.nilIface) := HD4.out.cell 20 _ rfl
  have z7 := HD4.out.fz 20
  have m8 : w4.cell? ⟨D, 21, none⟩ = some (.string ⟨#[]⟩) := HD4.out.cell 21 _ rfl
  have z8 := HD4.out.fz 21
  have m23 : w4.cell? ⟨D, 23, none⟩ = some (.bool false) := HD4.out.cell 23 _ rfl
  have z23 := HD4.out.fz 23
  clear hb4 hs4
  go_wp2_with (fail)
  go_end0
  exact ⟨rfl, ((((((((((HBBX.out.set 13 _).set 14 _).set 15 _).set 16 _).set 17 _).set 18 _).set 19 _).set 20 _).set 21 _).set 23 _), ((((((((((((((((((((HD4.out).set 13 (.int .u64 (flagsOf d i)) (Z (.slice (some ⟨B, 0, none⟩) n c) (flagsOf d i) 0) rfl)).set 14 (.int .u64 (flagsOf d i)) (Z (.slice (some ⟨B, 0, none⟩) n c) (flagsOf d i) (flagsOf d i)) rfl)).set 15 _ (Z (.slice (some ⟨B, 0, none⟩) n c) (flagsOf d i) (flagsOf d i)) rfl)).set 16 _ (Z (.slice (some ⟨B, 0, none⟩) n c) (flagsOf d i) (flagsOf d i)) rfl)).set 17 _ (Z (.slice (some ⟨B, 0, none⟩) n c) (flagsOf d i) (flagsOf d i)) rfl)).set 18 _ (Z (.slice (some ⟨B, 0, none⟩) n c) (flagsOf d i) (flagsOf d i)) rfl)).set 19 _ (Z (.slice (some ⟨B, 0, none⟩) n c) (flagsOf d i) (flagsOf d i)) rfl)).set 20 _ (Z (.slice (some ⟨B, 0, none⟩) n c) (flagsOf d i) (flagsOf d i)) rfl)).set 21 _ (Z (.slice (some ⟨B, 0, none⟩) n c) (flagsOf d i) (flagsOf d i)) rfl)).set 23 _ (Z (.slice (some ⟨B, 0, none⟩) n c) (flagsOf d i) (flagsOf d i)) rfl)⟩
set_option maxRecDepth 100000 in
set_option maxHeartbeats 4000000 in
theorem f35 (d i : Bool) (B n c base : Nat) (v : Value) (w : World) (hl : LsAt w v base (optsL d i)) (hb : ∀ E A c, v = .slice (some ⟨E, A, none⟩) (optsL d i).length c → E < w.heap.size) :
    Calls Tryz.prog 35 #[.slice (some ⟨B, 0, none⟩) n c, v] w fun e w' => e = .returned (.pointer (some ⟨w.heap.size, 0, none⟩)) ∧ Below w.heap.size w w' ∧ DecAt w' w.heap.size (Z (.slice (some ⟨B, 0, none⟩) n c) (flagsOf d i) (flagsOf d i)) := by
  obtain ⟨w1, hw1⟩ : ∃ x, x = w.alloc (.cells (Z (.slice none 0 0) 0 0).cells 138) := ⟨_, rfl⟩
  have hd : DecAt w1 w.heap.size (Z (.slice none 0 0) 0 0) := by rw [hw1]; exact heap_alloc_new w _
  have hb1 : Below w.heap.size w w1 := by rw [hw1]; exact below_alloc (Below.refl _ _) _
  have C70 := Lib.hid (f70 d i w.heap.size B n c base v w1 hd (hl.mono (N := 0) hb1) hb)
  have HB1 := Lib.hid hb1
  have hlt := hd.lt
  simp only [DS.cells, Z] at hw1
  clear hl hb hd hb1
  go_enter Tryz.func35, Tryz.ntmps35
  go_wp2_with (fail)
  rw [← hw1]
  clear hw1
  refine C70.out.mono ?_
  rintro e w2 ⟨rfl, hb2, hd2⟩
  have HB2 := Lib.hid (HB1.out.trans (hb2.below (Nat.le_refl _) (Nat.le_of_lt hlt)))
  have HD2 := Lib.hid hd2
  clear hb2 hd2
  go_wp2_with (fail)
  go_returns
  exact ⟨rfl, HB2.out, HD2.out⟩
end Go.Proofs.YtjfbkgkpjkickaaGreatDoor.PAll
-- YtjfbkgkpjkickaaGreatDoorCj
set_option linter.unusedVariables false
set_option linter.unusedSimpArgs false
namespace Go.Proofs.YtjfbkgkpjkickaaGreatDoor.PAll
open Go.RowKit Go.Proofs.YtjfbkgkpjkickaaGreatDoorW.PrintWords Go.Proofs.YtjfbkgkpjkickaaGreatDoorW.PrintLast Go.Proofs.YtjfbkgkpjkickaaGreatDoorW.PrintMore

set_option maxRecDepth 100000 in
theorem f38 (t : List Int) (q : Nat) (G : GV) (D : Nat) (wz : World) (hD : D < wz.heap.size)
    (C72 : ∀ W, Below wz.heap.size wz W → Calls Tryz.prog 72 #[.pointer (some ⟨D, 0, none⟩)] W (RT t q G D W)) :
    Calls Tryz.prog 38 #[.pointer (some ⟨D, 0, none⟩)] wz (RT t q G D wz) := by
  obtain ⟨w, hw⟩ : ∃ x, x = wz.alloc (.cells #[.pointer none, .string ⟨#[]⟩, .int .u64 0] 83) := ⟨_, rfl⟩
  obtain ⟨T, hTT⟩ : ∃ x, x = wz.heap.size := ⟨_, rfl⟩
  have hbz : Below wz.heap.size wz w := by rw [hw]; exact below_alloc (Below.refl _ _) _
  have htb : w.heap[T]? = some (.cells #[.pointer none, .string ⟨#[]⟩, .int .u64 0] 83 (0, 0)) := by rw [hw, hTT]; exact heap_alloc_new wz _
  have HTB := Lib.hid htb
  have HBZ := Lib.hid hbz
  have HDT := Lib.hid (show D < T by rw [hTT]; exact hD)
  have HTN := Lib.hid (show wz.heap.size ≤ T by rw [hTT]; exact Nat.le_refl _)
  have C := Lib.hid (C72 w hbz)
  clear htb hbz C72
  go_enter Tryz.func38, Tryz.ntmps38
  go_wp2_with (fail)
  rw [← hw, ← hTT]
  clear hw hTT
  refine C.out.mono ?_
  rintro e w1 ⟨v, x, rfl, hb1, ⟨s1, hd1⟩, ⟨a, k, rfl⟩, hr⟩
  have HB1 := Lib.hid hb1
  have HD1 := Lib.hid hd1
  have HR := Lib.hid hr
  have HT1 := Lib.hid (BB.blk hb1 HTB.out (Nat.ne_of_gt HDT.out))
  clear hb1 hd1 hr
  have t0 := (blk_cell HT1.out 0).trans (show _ = some (.pointer none) from rfl)
  have t1 := (blk_cell HT1.out 1).trans (show _ = some (.string ⟨#[]⟩) from rfl)
  have t2 := (blk_cell HT1.out 2).trans (show _ = some (.int .u64 0) from rfl)
  have z0 := blk_frozen HT1.out 0
  have z1 := blk_frozen HT1.out 1
  have z2 := blk_frozen HT1.out 2
  go_wp2_with (fail)
  clear t0 t1 t2 z0 z1 z2
  obtain ⟨wy, hwy, d0, oth, zy⟩ := slot3 w1 T 83 _ _ _ (.pointer a) (.string ⟨#[]⟩) (.int .u64 k) HT1.out
  rw [← hwy]
  have y0 : wy.cell? ⟨T, 0, none⟩ = some (.pointer a) := by simp [World.cell?, d0]
  have y1 : wy.cell? ⟨T, 1, none⟩ = some (.string ⟨#[]⟩) := by simp [World.cell?, d0]
  have y2 : wy.cell? ⟨T, 2, none⟩ = some (.int .u64 k) := by simp [World.cell?, d0]
  have HDEC := Lib.hid (show DecAt wy D _ by unfold DecAt; rw [oth D (Nat.ne_of_lt HDT.out)]; exact HD1.out)
  have HBY := Lib.hid (show BB D wz wy by rw [hwy]; exact (((((BB.of (F := D) HBZ.out).trans HB1.out).setNew HTN.out 0 _).setNew HTN.out 1 _).setNew HTN.out 2 _))
  refine bodyPost_ret (v := .tuple #[.agg #[.pointer a, .string ⟨#[]⟩, .int .u64 k], x]) (by simp [results, Tryz.results38, go_sem, y0, y1, y2]) rfl ?_
  exact ⟨_, _, rfl, HBY.out, ⟨_, HDEC.out⟩, ⟨_, _, rfl⟩, HR.out⟩
end Go.Proofs.YtjfbkgkpjkickaaGreatDoor.PAll
-- YtjfbkgkpjkickaaGreatDoorCk
set_option linter.unusedVariables false
set_option linter.unusedSimpArgs false
namespace Go.Proofs.YtjfbkgkpjkickaaGreatDoor.PAll
open Go.RowKit Go.Proofs.YtjfbkgkpjkickaaGreatDoorW.PrintWords Go.Proofs.YtjfbkgkpjkickaaGreatDoorW.PrintLast Go.Proofs.YtjfbkgkpjkickaaGreatDoorW.PrintMore

theorem f36d (D : Nat) (s : DS) (u : FrameMode) (w : World) (hD : DecAt w D s) : CallsD Tryz.prog 36 #[.pointer (some ⟨D, 0, none⟩)] u w fun e u' w' => u' = u ∧ (e = .returned (.tuple #[]) ∧ w' = w.setCell ⟨D, 7, none⟩ (.slice none 0 0)) := by
  have c7 : w.cell? ⟨D, 7, none⟩ = some s.buf := hD.cell 7 _ rfl
  have z7 := hD.fz 7
  clear hD
  go_enter_d Tryz.func36, Tryz.ntmps36
  go_wp2_with (fail)
  go_end0
  exact ⟨rfl, rfl⟩
set_option maxRecDepth 100000 in
set_option maxHeartbeats 8000000 in
theorem f27 (d i : Bool) (B c base : Nat) (t : List Int) (v : Value) (w : World) (G : GV) (E : List Int → Option Nat) (loose dup : Bool)
    (hO : Opt (flagsOf d i) loose dup)
    (hE0 : Env w G) (hrb : RB w B 0 t) (hbs : Bs t) (hc : t.length ≤ c) (hc2 : c ≤ 9223372036854775807) (hlen : t.length ≤ 4000000000) (hB : B < w.heap.size) (h13 : 13 ≤ B) (hsent : Sent w G B)
    (hl : LsAt w v base (optsL d i)) (hb : ∀ E A c, v = .slice (some ⟨E, A, none⟩) (optsL d i).length c → E < w.heap.size)
    (hK : ∀ l n, E l = some n → rd l 0 = 110 ∨ rd l 0 = 102 ∨ rd l 0 = 116 ∨ rd l 0 = 34 ∨ rd l 0 = 45 ∨ isD (rd l 0))
    (hE : ∀ l, rd l 0 = 58 ∨ rd l 0 = 44 → E l = none)
    (hEl : ∀ l n, E l = some n → n ≤ l.length)
    (C95 : ∀ D s F W p, D < F → p = wsN t → p < t.length → Inv W G D B c t s loose dup → Top s → FlAt W F 0 → Calls Tryz.prog 95 #[.pointer (some ⟨D, 0, none⟩), .pointer (some ⟨F, 0, none⟩), .int .i64 p, .int .i64 1] W (ValAt (E (t.drop p)) t p G F W))
    (H72 : ∀ (D q' : Nat) (s' : DS) (W : World), Inv W G D B c t s' loose dup → Top s' → s'.pe = (q' : Int) → q' ≤ t.length → s'.nss = .slice none 0 0 → s'.offs = .slice none 0 0 → s'.stack = .slice none 0 0 → Calls Tryz.prog 72 #[.pointer (some ⟨D, 0, none⟩)] W (RT t q' G D W)) :
    Calls Tryz.prog 27 #[.slice (some ⟨B, 0, none⟩) t.length c, v] w (IsV (Valid E t) w) := by
  have C35 := Lib.hid (f35 d i B t.length c base v w hl hb)
  have HI := fun (W : World) (hW : Below w.heap.size w W) (D : Nat) (hD : w.heap.size ≤ D) (s : DS) (hs : s.vals = flagsOf d i) (hbuf : s.buf = .slice (some ⟨B, 0, none⟩) t.length c) (hdec : DecAt W D s) =>
    (⟨hE0.mono hW, hdec, hbuf, hrb.mono hW, hbs, hc, hc2, hlen, by omega, h13, by rw [hs]; exact hO, hsent.mono hW⟩ : Inv W G D B c t s loose dup)
  have HI := Lib.hid HI
  have HC95 := Lib.hid C95
  have HH72 := Lib.hid H72
  have HE0 := Lib.hid hE0
  have HSE := Lib.hid hsent
  have HKK := Lib.hid hK
  have HEE := Lib.hid hE
  have HEL := Lib.hid hEl
  clear hl hb hO hE0 hrb hbs hsent C95 H72 hK hE hEl
  obtain ⟨D, hD⟩ : ∃ D, D = w.heap.size := ⟨_, rfl⟩
  rw [← hD] at C35
  have hBD : B < D := by omega
  have HDD := Lib.hid hD
  clear hD
  go_enter_defers Tryz.func27, Tryz.ntmps27
  go_wp2_with (fail)
  refine C35.out.mono ?_
  rintro e w1 ⟨rfl, hb1, hd1⟩
  have HB1 := Lib.hid (show Below D w w1 from hb1)
  have HI1 := Lib.hid (HI.out w1 (HDD.out ▸ hb1) D (Nat.le_of_eq HDD.out.symm) _ rfl rfl hd1)
  clear hb1 hd1
  have C37 := f37 D B c 0 t (Z (.slice (some ⟨B, 0, none⟩) t.length c) (flagsOf d i) (flagsOf d i)) loose dup E w1 G HI1.out ⟨⟨_, _, rfl⟩, ⟨_, _, rfl⟩, .inl rfl⟩ rfl (Nat.zero_le _) HKK.out HEE.out (fun F W p h1 h2 h3 h4 h5 => HC95.out D _ F W p h1 (by rw [h2, List.drop_zero, Nat.zero_add]) h3 h4 ⟨⟨_, _, rfl⟩, ⟨_, _, rfl⟩, .inl rfl⟩ h5)
  have H37 := Lib.hid C37
  clear C37
  go_wp2_with (fail)
  refine H37.out.mono ?_
  rintro e w2 ⟨v2, x2, rfl, hb2, hr⟩
  have HB2 := Lib.hid (show Below D w w2 from HB1.out.trans hb2)
  clear hb2
  rcases hr with ⟨rfl, n, hlt, hEn, ⟨A, m, k, rfl⟩, hd2⟩ | ⟨hx, rfl, hEn, hd2⟩
  · rw [List.drop_zero, Nat.zero_add] at hlt hEn hd2
    have hle := HEL.out _ _ hEn
    rw [List.length_drop] at hle
    have HI2 := Lib.hid (HI.out w2 (HDD.out ▸ HB2.out) D (Nat.le_of_eq HDD.out.symm) _ rfl rfl hd2)
    have C38 := Lib.hid (f38 t (wsN t + n) G D w2 hd2.lt (fun W hW => HH72.out D (wsN t + n) _ W (HI2.out.mono hW) ⟨⟨_, _, rfl⟩, ⟨_, _, rfl⟩, .inr rfl⟩ rfl (by omega) rfl rfl rfl))
    have HEN := Lib.hid hEn
    clear hd2 hEn
    go_wp2_with (fail)
    refine C38.out.mono ?_
    rintro e w3 ⟨v3, x3, rfl, hb3, ⟨s3, hd3⟩, ⟨p, k, rfl⟩, hr3⟩
    have HB3 := Lib.hid (show Below D w w3 from HB2.out.trans (hb3.below (Nat.le_refl _) (Nat.le_of_lt HI2.out.ltD)))
    have HD3 := Lib.hid hd3
    have HR3 := Lib.hid hr3
    clear hb3 hd3 hr3
    have HEW := Lib.hid (HE0.out.mono (show Below w.heap.size w w3 from HDD.out ▸ HB3.out))
    have h0 := HEW.out.h0
    have hpos : 0 < w3.heap.size := Nat.lt_of_lt_of_le (by decide) HEW.out.lt
    rcases HR3.out with ⟨he, rfl⟩ | ⟨hne, hx3⟩
    · have HE3 := Lib.hid he
      clear he
      have q1 : (binOp .eql 47 (.iface 265 (.pointer (some G.eof))) (.iface 265 (.pointer (some G.eof)))).run Tryz.prog (w3.alloc (.cells #[.pointer p, .string ⟨#[]⟩, .int .u64 k] 83)) = .ok (.bool true) (w3.alloc (.cells #[.pointer p, .string ⟨#[]⟩, .int .u64 k] 83)) := by
        have := eqSent (w := (w3.alloc (.cells #[.pointer p, .string ⟨#[]⟩, .int .u64 k] 83))) (N := B) ((HSE.out.mono (show Below w.heap.size w w3 from HDD.out ▸ HB3.out)).mono (below_alloc (Below.refl _ _) _)) (a := G.eof) (b := G.eof) (.inl rfl) (.inl rfl)
        rw [decide_eq_true rfl] at this
        exact this
      go_wp2_with (fail)
      refine leaves_cons (f := 36) (args := #[.pointer (some ⟨D, 0, none⟩)]) (by simp) (by simp [go_sem]) ?_
      refine (f36d D s3 .returning _ (HD3.out.alloc _)).mono ?_
      rintro e u' w'' ⟨rfl, rfl, rfl⟩
      exact ⟨_, results_tmp rfl _ _ _, true, rfl, ⟨fun _ => ⟨n, hlt, HEN.out, HE3.out⟩, fun _ => rfl⟩, (below_alloc (show Below w.heap.size w w3 from HDD.out ▸ HB3.out) _).setCell (Nat.le_of_eq HDD.out.symm) _⟩
    · have HNE := Lib.hid hne
      have hno : ¬ Valid E t := fun ⟨m, a1, a2, a3⟩ => by
        rw [HEN.out] at a2
        injection a2 with a2
        subst a2
        have := HNE.out
        omega
      have HNO := Lib.hid hno
      clear hne hno
      rcases hx3 with rfl | ⟨g3, rfl⟩
      · have q1 : (binOp .eql 47 .nilIface (.iface 265 (.pointer (some G.eof)))).run Tryz.prog (w3.alloc (.cells #[.pointer p, .string ⟨#[]⟩, .int .u64 k] 83)) = .ok (.bool false) (w3.alloc (.cells #[.pointer p, .string ⟨#[]⟩, .int .u64 k] 83)) := eqNil _ _
        go_wp2_with (fail)
        refine leaves_cons (f := 36) (args := #[.pointer (some ⟨D, 0, none⟩)]) (by simp) (by simp [go_sem]) ?_
        refine (f36d D s3 .returning _ (HD3.out.alloc _)).mono ?_
        rintro e u' w'' ⟨rfl, rfl, rfl⟩
        exact ⟨_, results_tmp rfl _ _ _, false, rfl, ⟨(fun h => by cases h), fun h => absurd h HNO.out⟩, (below_alloc (show Below w.heap.size w w3 from HDD.out ▸ HB3.out) _).setCell (Nat.le_of_eq HDD.out.symm) _⟩
      · have q1 : (binOp .eql 47 (.iface 67 (.pointer (some ⟨g3, 0, none⟩))) (.iface 265 (.pointer (some G.eof)))).run Tryz.prog (w3.alloc (.cells #[.pointer p, .string ⟨#[]⟩, .int .u64 k] 83)) = .ok (.bool false) (w3.alloc (.cells #[.pointer p, .string ⟨#[]⟩, .int .u64 k] 83)) := eq67 _ _ _
        go_wp2_with (fail)
        refine leaves_cons (f := 36) (args := #[.pointer (some ⟨D, 0, none⟩)]) (by simp) (by simp [go_sem]) ?_
        refine (f36d D s3 .returning _ (HD3.out.alloc _)).mono ?_
        rintro e u' w'' ⟨rfl, rfl, rfl⟩
        exact ⟨_, results_tmp rfl _ _ _, false, rfl, ⟨(fun h => by cases h), fun h => absurd h HNO.out⟩, (below_alloc (show Below w.heap.size w w3 from HDD.out ▸ HB3.out) _).setCell (Nat.le_of_eq HDD.out.symm) _⟩
  · rw [List.drop_zero, Nat.zero_add] at hEn
    have HI2 := Lib.hid (HI.out w2 (HDD.out ▸ HB2.out) D (Nat.le_of_eq HDD.out.symm) _ rfl rfl hd2)
    have C38 := Lib.hid (f38 t 0 G D w2 hd2.lt (fun W hW => HH72.out D 0 _ W (HI2.out.mono hW) ⟨⟨_, _, rfl⟩, ⟨_, _, rfl⟩, .inl rfl⟩ rfl (Nat.zero_le _) rfl rfl rfl))
    have hno : ¬ Valid E t := fun ⟨m, a1, a2, a3⟩ => by
      rw [hEn a1] at a2
      cases a2
    have HNO := Lib.hid hno
    clear hd2 hEn hno
    rcases hx with ⟨g2, rfl⟩ | rfl
    · go_wp2_with (fail)
      refine C38.out.mono ?_
      rintro e w3 ⟨v3, x3, rfl, hb3, ⟨s3, hd3⟩, ⟨p, k, rfl⟩, hr3⟩
      have HB3 := Lib.hid (show Below D w w3 from HB2.out.trans (hb3.below (Nat.le_refl _) (Nat.le_of_lt HI2.out.ltD)))
      have HD3 := Lib.hid hd3
      clear hb3 hd3 hr3
      go_wp2_with (fail)
      refine leaves_cons (f := 36) (args := #[.pointer (some ⟨D, 0, none⟩)]) (by simp) (by simp [go_sem]) ?_
      refine (f36d D s3 .returning _ (HD3.out.alloc _)).mono ?_
      rintro e u' w'' ⟨rfl, rfl, rfl⟩
      exact ⟨_, results_tmp rfl _ _ _, false, rfl, ⟨(fun h => by cases h), fun h => absurd h HNO.out⟩, (below_alloc (show Below w.heap.size w w3 from HDD.out ▸ HB3.out) _).setCell (Nat.le_of_eq HDD.out.symm) _⟩
    · go_wp2_with (fail)
      refine C38.out.mono ?_
      rintro e w3 ⟨v3, x3, rfl, hb3, ⟨s3, hd3⟩, ⟨p, k, rfl⟩, hr3⟩
      have HB3 := Lib.hid (show Below D w w3 from HB2.out.trans (hb3.below (Nat.le_refl _) (Nat.le_of_lt HI2.out.ltD)))
      have HD3 := Lib.hid hd3
      clear hb3 hd3 hr3
      go_wp2_with (fail)
      refine leaves_cons (f := 36) (args := #[.pointer (some ⟨D, 0, none⟩)]) (by simp) (by simp [go_sem]) ?_
      refine (f36d D s3 .returning _ (HD3.out.alloc _)).mono ?_
      rintro e u' w'' ⟨rfl, rfl, rfl⟩
      exact ⟨_, results_tmp rfl _ _ _, false, rfl, ⟨(fun h => by cases h), fun h => absurd h HNO.out⟩, (below_alloc (show Below w.heap.size w w3 from HDD.out ▸ HB3.out) _).setCell (Nat.le_of_eq HDD.out.symm) _⟩
theorem conv50 (s : ByteArray) (w : World) : (convert 9 50 (.string s)).run Tryz.prog w = .ok (.slice (some ⟨w.heap.size, 0, none⟩) s.size (grownCap w s.size 0 5)) (Lib.bytesWorld w 5 s) :=
  Lib.run_convert_string_bytes w 9 50 5 s Tryz.underlying9 Tryz.underlying50 Tryz.underlying5
theorem rb_bytes (w : World) (s : ByteArray) : RB (Lib.bytesWorld w 5 s) w.heap.size 0 (bytesOf s) := by
  intro j hj
  rw [bytesOf_length] at hj
  rw [Nat.zero_add, Lib.bytesWorld_cell w 5 s j hj, rd_getD]
  have hl : j < s.data.toList.length := by rw [Array.length_toList]; exact hj
  simp only [bytesOf, List.getD_eq_getElem?_getD, List.getElem?_map, List.getElem?_eq_getElem hl, Option.map_some, Option.getD_some]
theorem bs_bytes (s : ByteArray) : Bs (bytesOf s) := by
  intro b hb
  simp [bytesOf] at hb
  obtain ⟨x, _, rfl⟩ := hb
  exact ⟨by omega, by have := x.toNat_lt; omega⟩
set_option maxRecDepth 100000 in
set_option maxHeartbeats 8000000 in
theorem f16 (d i : Bool) (s : ByteArray) (w : World) (G : GV) (E : List Int → Option Nat) (loose dup : Bool)
    (hO : Opt (flagsOf d i) loose dup) (hE0 : Env w G) (hsent : Sent w G w.heap.size) (hlen : s.size ≤ 4000000000)
    (hK : ∀ l n, E l = some n → rd l 0 = 110 ∨ rd l 0 = 102 ∨ rd l 0 = 116 ∨ rd l 0 = 34 ∨ rd l 0 = 45 ∨ isD (rd l 0))
    (hE : ∀ l, rd l 0 = 58 ∨ rd l 0 = 44 → E l = none)
    (hEl : ∀ l n, E l = some n → n ≤ l.length)
    (C95 : ∀ B c D s' F W p, D < F → p = wsN (bytesOf s) → p < (bytesOf s).length → Inv W G D B c (bytesOf s) s' loose dup → Top s' → FlAt W F 0 → Calls Tryz.prog 95 #[.pointer (some ⟨D, 0, none⟩), .pointer (some ⟨F, 0, none⟩), .int .i64 p, .int .i64 1] W (ValAt (E ((bytesOf s).drop p)) (bytesOf s) p G F W))
    (H72 : ∀ (B c D q' : Nat) (s' : DS) (W : World), Inv W G D B c (bytesOf s) s' loose dup → Top s' → s'.pe = (q' : Int) → q' ≤ (bytesOf s).length → s'.nss = .slice none 0 0 → s'.offs = .slice none 0 0 → s'.stack = .slice none 0 0 → Calls Tryz.prog 72 #[.pointer (some ⟨D, 0, none⟩)] W (RT (bytesOf s) q' G D W)) :
    Calls Tryz.prog 16 #[.string s, optsV d i] w (IsV (Valid E (bytesOf s)) w) := by
  obtain ⟨w1, hw1⟩ : ∃ x, x = w.alloc (.cells #[.int .i64 (if d then 1 else 0), .int .i64 (if i then 1 else 0), .int .i64 0, .int .i64 0, .int .i64 0, .int .i64 0, .int .i64 0, .int .i64 0, .int .i64 0, .int .i64 0, .int .i64 0, .bool false, .string ⟨#[]⟩, .bool false, .string ⟨#[]⟩] 27) := ⟨_, rfl⟩
  have hs1 : w1.heap.size = w.heap.size + 1 := by rw [hw1]; simp
  have hb1 : Below w.heap.size w w1 := by rw [hw1]; exact below_alloc (Below.refl _ _) _
  obtain ⟨w2, hw2⟩ : ∃ x, x = Lib.bytesWorld w1 5 s := ⟨_, rfl⟩
  have hs2 : w2.heap.size = w.heap.size + 2 := by rw [hw2, Lib.bytesWorld_size, hs1]
  have hb2 : Below w1.heap.size w1 w2 := by rw [hw2]; exact Joins.below_bytesWorld _ _ 5 s (Nat.le_refl _)
  have hblk : w2.heap[w.heap.size]? = some (.cells #[.int .i64 (if d then 1 else 0), .int .i64 (if i then 1 else 0), .int .i64 0, .int .i64 0, .int .i64 0, .int .i64 0, .int .i64 0, .int .i64 0, .int .i64 0, .int .i64 0, .int .i64 0, .bool false, .string ⟨#[]⟩, .bool false, .string ⟨#[]⟩] 27 (0, 0)) := by
    rw [hb2.block _ (by omega), hw1]; exact heap_alloc_new w _
  have hrb : RB w2 (w.heap.size + 1) 0 (bytesOf s) := by rw [hw2, ← hs1]; exact rb_bytes w1 s
  have hcv := conv50 s w1
  rw [← hw2, hs1] at hcv
  obtain ⟨c, hcc⟩ : ∃ c, c = grownCap w1 s.size 0 5 := ⟨_, rfl⟩
  have hc1 : (bytesOf s).length ≤ c := by rw [hcc, bytesOf_length]; exact grownCap_ge w1 s.size 0 5
  have hc2 : c ≤ 9223372036854775807 := by
    rw [hcc]
    have := grownCap_le_maxLen w1 s.size 0 5 (by simp only [maxLen]; omega)
    simpa only [maxLen] using this
  rw [← hcc] at hcv
  have HRB := Lib.hid hrb
  have HB2 := Lib.hid (show Below w.heap.size w w2 from hb1.trans (hb2.mono (by omega)))
  have H28 := Lib.hid (f28 d i w2)
  have HE2 := Lib.hid (hE0.mono HB2.out)
  have HS2 := Lib.hid (show Sent w2 G (w.heap.size + 1) from ⟨fun a ha => Nat.lt_succ_of_lt (hsent.lt a ha), (hsent.mono HB2.out).blk⟩)
  have h13 := hE0.lt
  have C27 := fun (v : Value) (base : Nat) (W : World) (hW : Below w2.heap.size w2 W) => f27 d i (w.heap.size + 1) c base (bytesOf s) v W G E loose dup hO (HE2.out.mono hW) (HRB.out.mono hW) (bs_bytes s) hc1 hc2 (by rw [bytesOf_length]; exact hlen) (by have := hW.size; omega) (by omega) (HS2.out.mono hW)
  have C27 := fun (v : Value) (base : Nat) (W : World) (hW : Below w2.heap.size w2 W) hl hb => C27 v base W hW hl hb hK hE hEl (fun D s' F W p => C95 (w.heap.size + 1) c D s' F W p) (fun D q' s' W => H72 (w.heap.size + 1) c D q' s' W)
  rw [bytesOf_length] at C27
  have H27 := Lib.hid C27
  have l0 := (blk_cell hblk 0).trans (show _ = some (.int .i64 (if d then 1 else 0)) from rfl)
  have l1 := (blk_cell hblk 1).trans (show _ = some (.int .i64 (if i then 1 else 0)) from rfl)
  have l2 := (blk_cell hblk 2).trans (show _ = some (.int .i64 0) from rfl)
  have l3 := (blk_cell hblk 3).trans (show _ = some (.int .i64 0) from rfl)
  have l4 := (blk_cell hblk 4).trans (show _ = some (.int .i64 0) from rfl)
  have l5 := (blk_cell hblk 5).trans (show _ = some (.int .i64 0) from rfl)
  have l6 := (blk_cell hblk 6).trans (show _ = some (.int .i64 0) from rfl)
  have l7 := (blk_cell hblk 7).trans (show _ = some (.int .i64 0) from rfl)
  have l8 := (blk_cell hblk 8).trans (show _ = some (.int .i64 0) from rfl)
  have l9 := (blk_cell hblk 9).trans (show _ = some (.int .i64 0) from rfl)
  have l10 := (blk_cell hblk 10).trans (show _ = some (.int .i64 0) from rfl)
  have l11 := (blk_cell hblk 11).trans (show _ = some (.bool false) from rfl)
  have l12 := (blk_cell hblk 12).trans (show _ = some (.string ⟨#[]⟩) from rfl)
  have l13 := (blk_cell hblk 13).trans (show _ = some (.bool false) from rfl)
  have l14 := (blk_cell hblk 14).trans (show _ = some (.string ⟨#[]⟩) from rfl)
  rw [hw1] at hcv
  clear hO hE0 hsent hK hE hEl C95 H72 C27 hb1 hb2 hblk hrb hs1 hw2 hw1
  have HCC := Lib.hid hcc
  clear hcc
  unfold optsV at *
  generalize (if d = true then (1 : Int) else 0) = dv at *
  generalize (if i = true then (1 : Int) else 0) = iv at *
  go_enter Tryz.func16, Tryz.ntmps16
  go_wp2_with (fail)
  refine H28.out.mono ?_
  rintro e w3 ⟨v, rfl, hown, hb3⟩
  have HOW := Lib.hid hown
  have HB3 := Lib.hid hb3
  have C := Lib.hid (H27.out v (w2.heap.size + 1) w3 hb3 (LsAt.of hown) (fun E' A' c' e => by
    rcases hown.2 with ⟨rfl, _⟩ | ⟨g, cap, cur, rfl, _, hg, _⟩
    · cases e
    · injection e with e _ _
      injection e with e
      injection e with e _
      subst e
      exact (Array.getElem?_eq_some_iff.1 hg).1))
  clear hown hb3
  go_wp2_with (fail)
  refine C.out.mono ?_
  rintro e w4 ⟨r, rfl, hr, hb4⟩
  have HR := Lib.hid hr
  have HB4 := Lib.hid ((HB2.out.trans (HB3.out.mono HB2.out.size)).trans (hb4.mono (Nat.le_trans HB2.out.size HB3.out.size)))
  clear hr hb4
  go_wp2_with (fail)
  go_returns
  exact ⟨r, rfl, HR.out, HB4.out⟩
end Go.Proofs.YtjfbkgkpjkickaaGreatDoor.PAll
-- YtjfbkgkpjkickaaGreatDoorCd1
set_option linter.unusedVariables false
set_option linter.unusedSimpArgs false
namespace Go.Proofs.YtjfbkgkpjkickaaGreatDoor.PAll
open Go.RowKit Go.Proofs.YtjfbkgkpjkickaaGreatDoorW.PrintWords Go.Proofs.YtjfbkgkpjkickaaGreatDoorW.PrintLast Go.Proofs.YtjfbkgkpjkickaaGreatDoorW.PrintMore

theorem vi {a b : Int} (h : a = b) : Value.int .i64 a = Value.int .i64 b := by rw [h]
theorem BB.next2 {D : Nat} {w a b : World} (h : BB D w a) {j k : Nat} {u v : Value} (hb : Below ((a.setCell ⟨D, j, none⟩ u).setCell ⟨D, k, none⟩ v).heap.size ((a.setCell ⟨D, j, none⟩ u).setCell ⟨D, k, none⟩ v) b) : BB D w b := ((h.set j _).set k _).next hb
theorem DecAt.next2 {D : Nat} {w b : World} {s : DS} (h : DecAt w D s) {j k : Nat} {x y : Int} (hb : Below ((w.setCell ⟨D, j, none⟩ (.int .i64 x)).setCell ⟨D, k, none⟩ (.int .i64 y)).heap.size ((w.setCell ⟨D, j, none⟩ (.int .i64 x)).setCell ⟨D, k, none⟩ (.int .i64 y)) b)
    (hjk : (j = 9 ∧ k = 8) ∨ (j = 8 ∧ k = 9)) : ∃ s' : DS, DecAt b D s' := by
  rcases hjk with ⟨rfl, rfl⟩ | ⟨rfl, rfl⟩
  · exact ⟨_, ((h.setPe _).setPs _).mono hb⟩
  · exact ⟨_, ((h.setPs _).setPe _).mono hb⟩
end Go.Proofs.YtjfbkgkpjkickaaGreatDoor.PAll
