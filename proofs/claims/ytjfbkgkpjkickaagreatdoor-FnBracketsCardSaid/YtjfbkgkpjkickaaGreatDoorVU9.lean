/- The texts of a proof, its declarations alone: part 9. -/
import Derived.Lib.ConvBytes
import Derived.Lib.SmallJoins
import Derived.Deep.DeepCutAuto
import Derived.Laws.AppendOwn
import Derived.Test.YtjfbkgkpjkickaaGreatDoorVU2
import Derived.Test.YtjfbkgkpjkickaaGreatDoorVU4
import Derived.Test.YtjfbkgkpjkickaaGreatDoorVU8
set_option linter.unusedVariables false
set_option linter.unusedSimpArgs false
-- YtjfbkgkpjkickaaGreatDoorBu
set_option linter.unusedVariables false
set_option linter.unusedSimpArgs false
namespace Go.Proofs.YtjfbkgkpjkickaaGreatDoor.PAll
open Go.RowKit Go.Proofs.YtjfbkgkpjkickaaGreatDoorW.PrintWords Go.Proofs.YtjfbkgkpjkickaaGreatDoorW.PrintLast Go.Proofs.YtjfbkgkpjkickaaGreatDoorW.PrintMore

section
variable {x : Int} (hx : x = 0 ∨ x = 1) (w : World)
include hx
theorem f97 : Calls Tryz.prog 97 #[.int .u64 x] w fun e w' => e = .returned (.bool false) ∧ Drawn0 w w' :=
  jsontext_stateEntry_NeedObjectName.calls x false w (by unfold jsontext_stateEntry_NeedObjectName.f; rcases hx with rfl | rfl <;> exact congrArg some (by decide +kernel))
theorem f99 : Calls Tryz.prog 99 #[.int .u64 x] w fun e w' => e = .returned (.bool true) ∧ Drawn0 w w' :=
  jsontext_stateEntry_isValidNamespace.calls x true w (by unfold jsontext_stateEntry_isValidNamespace.f; rcases hx with rfl | rfl <;> exact congrArg some (by decide +kernel))
theorem f150 : Calls Tryz.prog 150 #[.int .u64 x] w fun e w' => e = .returned (.bool true) ∧ Drawn0 w w' :=
  jsontext_stateEntry_isArray.calls x true w (by unfold jsontext_stateEntry_isArray.f; rcases hx with rfl | rfl <;> exact congrArg some (by decide +kernel))
theorem f152 : Calls Tryz.prog 152 #[.int .u64 x] w fun e w' => e = .returned (.bool false) ∧ Drawn0 w w' :=
  jsontext_stateEntry_isObject.calls x false w (by unfold jsontext_stateEntry_isObject.f; rcases hx with rfl | rfl <;> exact congrArg some (by decide +kernel))
theorem f93 (A : Option Addr) (c : Nat) (k : Int) : Calls Tryz.prog 93 #[.agg #[.slice A 0 c, .int .u64 x], .int .u8 k] w fun e w' => e = .returned (.int .u8 0) ∧ Below w.heap.size w w' := by
  have hf : jsontext_stateMachine_needDelim.f [] x k = some 0 := by
    have h1 : jsontext_stateEntry_needObjectValue.f x = some false := by unfold jsontext_stateEntry_needObjectValue.f; rcases hx with rfl | rfl <;> exact congrArg some (by decide +kernel)
    obtain ⟨b, hb⟩ : ∃ b, jsontext_stateEntry_needImplicitComma.f x k = some b := by
      unfold jsontext_stateEntry_needImplicitComma.f
      rw [h1, Option.bind_some, if_neg (by decide)]
      unfold jsontext_stateEntry_Length.f
      rw [Option.bind_some]
      split
      · split
        · exact ⟨_, rfl⟩
        · exact ⟨_, rfl⟩
      · exact ⟨_, rfl⟩
    unfold jsontext_stateMachine_needDelim.f jsontext_stateEntry_needImplicitColon.f
    rw [h1, Option.bind_some, Option.bind_some, if_neg (by decide), hb, Option.bind_some]
    split
    · exact if_pos rfl
    · rfl
  exact jsontext_stateMachine_needDelim.calls A c [] x k 0 w (Kd.C_of_reads (enc := Value.int .u64) (d := (0 : Int)) (h1 := fun _ => rfl) ⟨rfl, by decide, fun h => absurd h (by decide)⟩) (Nat.zero_le _) hf
end
theorem DecAt.set {w : World} {D : Nat} {s : DS} (h : DecAt w D s) (i : Nat) (v : Value) (s' : DS) (hs : s.cells.setIfInBounds i v = s'.cells) : DecAt (w.setCell ⟨D, i, none⟩ v) D s' := by
  unfold DecAt at *
  rw [setCell_eq_setRow w D i _ 138 (0, 0) _ h, ← hs]
  exact setRow_heap w D _ _ 138 (0, 0) h
theorem DecAt.fz {w : World} {D : Nat} {s : DS} (h : DecAt w D s) (i : Nat) : w.frozen? ⟨D, i, none⟩ = false := by unfold DecAt at h; simp [World.frozen?, h]
theorem f158 (D : Nat) (s : DS) (w : World) (hD : DecAt w D s) (hx : s.last = 0 ∨ s.last = 1) : Calls Tryz.prog 158 #[.pointer (some ⟨D, 1, none⟩)] w fun e w' => e = .returned (.tuple #[]) ∧ w' = w.setCell ⟨D, 1, none⟩ (.int .u64 (s.last + 1)) := by
  have c1 : w.cell? ⟨D, 1, none⟩ = some (.int .u64 s.last) := hD.cell 1 _ rfl
  have z1 := hD.fz 1
  have hw : IntKind.u64.wrap (s.last + 1) = s.last + 1 := by rw [IntKind.wrap_u64]; omega
  clear hD
  generalize s.last = x at *
  clear hx
  go_enter Tryz.func158, Tryz.ntmps158
  go_wp2_with (fail)
  go_returns
  exact ⟨rfl, rfl⟩
/-- one more has been read -/
def Incd (D : Nat) (s : DS) (w : World) (e : Ending) (w' : World) : Prop := e = .returned .nilIface ∧ BB D w w' ∧ DecAt w' D { s with last := s.last + 1 }
theorem f96 (D : Nat) (s : DS) (w : World) (hD : DecAt w D s) (hx : s.last = 0 ∨ s.last = 1) : Calls Tryz.prog 96 #[.pointer (some ⟨D, 0, none⟩)] w (Incd D s w) := by
  have c1 : w.cell? ⟨D, 1, none⟩ = some (.int .u64 s.last) := hD.cell 1 _ rfl
  have C97 := Lib.hid (fun W => f97 hx W)
  have C99 := Lib.hid (fun W => f99 hx W)
  have C158 := Lib.hid (fun W (hb : Below w.heap.size w W) => f158 D s W (hD.mono hb) hx)
  have HD := Lib.hid hD
  clear hD hx
  go_enter Tryz.func96, Tryz.ntmps96
  go_wp2_with (fail)
  refine (C97.out _).mono ?_
  rintro e w1 ⟨rfl, m1, rfl⟩
  go_wp2_with (fail)
  refine (C99.out _).mono ?_
  rintro e w2 ⟨rfl, m2, rfl⟩
  go_wp2_with (fail)
  have hb := Lib.hid (show Below w.heap.size w (w.drewN (m1 + m2)) from pw_below_drewN (Below.refl _ _) _)
  refine (C158.out _ hb.out).mono ?_
  rintro e w3 ⟨rfl, hw3⟩
  have HW := Lib.hid hw3
  clear hw3
  go_wp2_with (fail)
  go_returns
  exact ⟨rfl, by rw [HW.out]; exact (BB.of hb.out).set 1 _, by rw [HW.out]; exact (HD.out.mono hb.out).set 1 _ _ rfl⟩
theorem f106 (D : Nat) (s : DS) (w : World) (hD : DecAt w D s) (hx : s.last = 0 ∨ s.last = 1) : Calls Tryz.prog 106 #[.pointer (some ⟨D, 0, none⟩)] w (Incd D s w) := by
  have c1 : w.cell? ⟨D, 1, none⟩ = some (.int .u64 s.last) := hD.cell 1 _ rfl
  have C99 := Lib.hid (fun W => f99 hx W)
  have C158 := Lib.hid (fun W (hb : Below w.heap.size w W) => f158 D s W (hD.mono hb) hx)
  have HD := Lib.hid hD
  clear hD hx
  go_enter Tryz.func106, Tryz.ntmps106
  go_wp2_with (fail)
  refine (C99.out _).mono ?_
  rintro e w2 ⟨rfl, m2, rfl⟩
  go_wp2_with (fail)
  have hb := Lib.hid (show Below w.heap.size w (w.drewN m2) from (pw_below_drewN (Below.refl _ _) _))
  refine (C158.out _ hb.out).mono ?_
  rintro e w3 ⟨rfl, hw3⟩
  have HW := Lib.hid hw3
  clear hw3
  go_wp2_with (fail)
  go_returns
  exact ⟨rfl, by rw [HW.out]; exact (BB.of hb.out).set 1 _, by rw [HW.out]; exact (HD.out.mono hb.out).set 1 _ _ rfl⟩
theorem f107 (D : Nat) (s : DS) (w : World) (hD : DecAt w D s) (hx : s.last = 0 ∨ s.last = 1) : Calls Tryz.prog 107 #[.pointer (some ⟨D, 0, none⟩)] w (Incd D s w) := by
  have C96 := Lib.hid (f96 D s w hD hx)
  clear hD hx
  go_enter Tryz.func107, Tryz.ntmps107
  go_wp2_with (fail)
  refine C96.out.mono ?_
  rintro e w1 ⟨rfl, hb, hd⟩
  have H1 := Lib.hid hb
  have H2 := Lib.hid hd
  clear hb hd
  go_wp2_with (fail)
  go_returns
  exact ⟨rfl, H1.out, H2.out⟩
set_option maxRecDepth 100000 in
set_option maxHeartbeats 4000000 in
theorem f94 (D B c q : Nat) (t : List Int) (s : DS) (loose dup : Bool) (d k : Int) (w : World) (G : GV) (hI : Inv w G D B c t s loose dup) (hT : Top s) (hd : d = 58 ∨ d = 44) (hq : s.pe = q) (hlt : q + wsN (t.drop q) < t.length) :
    Calls Tryz.prog 94 #[.pointer (some ⟨D, 0, none⟩), .int .u8 d, .int .u8 k] w (SynPost w) := by
  obtain ⟨sA, sc, hs⟩ := hT.stack
  have c0 : w.cell? ⟨D, 0, none⟩ = some (.slice sA 0 sc) := hI.dec.cell 0 _ (by rw [← hs]; rfl)
  have c1 : w.cell? ⟨D, 1, none⟩ = some (.int .u64 s.last) := hI.dec.cell 1 _ rfl
  have hl := hI.hl
  have hc := hI.hc
  have hc2 := hI.hc2
  obtain ⟨n, hn⟩ : ∃ n, wsN (t.drop q) = n := ⟨_, rfl⟩
  rw [hn] at hlt
  have C93 := Lib.hid (fun W => f93 hT.last W sA sc k)
  have HI := Lib.hid hI
  have HT := Lib.hid hT
  have d1 : ((0 : Int) == d) = false := by rw [beq_eq_false_iff_ne]; omega
  have C87 := Lib.hid (fun W (hb : Below w.heap.size w W) => f87 (some ⟨B, q, none⟩) (c - q) (t.drop q) W (((hI.rb.sub q q (fun _ => by omega)).mono hb).C (by rw [List.length_drop]; omega)) (by rw [List.length_drop]; omega) (by rw [List.length_drop]; omega))
  have C60 := Lib.hid (fun W s' (hb : Below w.heap.size w W) => f60 B (q + n) (c - (q + n)) (t.drop (q + n)) s' W G (hI.env.mono hb) ((hI.rb.sub (q + n) (q + n) (fun _ => by omega)).mono hb) (by rw [List.length_drop]; omega) (by rw [List.length_drop]; omega) (hI.bs.drop (q + n)) (by rw [List.length_drop]; omega) (by omega))
  have C91 := fun W gg (hb : Below w.heap.size w W) => f91a D B c (q + n) t s loose dup 0 gg W G (hI.mono hb) hT (by omega)
  simp only [Int.natCast_add] at C91
  have H91 := Lib.hid C91
  have HQ := Lib.hid hq
  have hql : q ≤ t.length := by omega
  have hpl : q + n < t.length := by omega
  clear hI hT hd hs hq hlt C91
  rw [List.length_drop] at C87 C60
  rw [hn] at C87
  clear hn
  go_enter Tryz.func94, Tryz.ntmps94
  go_wp2_with (fail)
  refine (C93.out _).mono ?_
  rintro e w1 ⟨rfl, hb1⟩
  have HB1 := Lib.hid hb1
  have HI1 := Lib.hid (HI.out.mono hb1)
  have c7 := HI1.out.c7
  have c9 : w1.cell? ⟨D, 9, none⟩ = some (.int .i64 q) := HI1.out.dec.cell 9 _ (by rw [← HQ.out]; rfl)
  clear hb1 c0 c1
  go_wp2_with (fail)
  refine (C87.out _ HB1.out).mono ?_
  rintro e w2 ⟨rfl, m2, rfl⟩
  have HB2 := Lib.hid (show Below w.heap.size w (w1.drewN m2) from pw_below_drewN HB1.out _)
  go_wp2_with (fail)
  refine (C60.out _ _ HB2.out).mono ?_
  rintro e w3 ⟨gg, rfl, hb3⟩
  have HB3 := Lib.hid (HB2.out.trans (hb3.mono HB2.out.size))
  clear hb3
  go_wp2_with (fail)
  refine (H91.out _ _ HB3.out).mono ?_
  rintro e w4 ⟨g4, rfl, hb4⟩
  have HB4 := Lib.hid (HB3.out.trans (hb4.mono HB3.out.size))
  clear hb4
  go_wp2_with (fail)
  go_returns
  exact ⟨g4, rfl, HB4.out⟩
theorem f92 (D B c q : Nat) (t : List Int) (s : DS) (loose dup : Bool) (d : Int) (x : Value) (w : World) (G : GV) (hI : Inv w G D B c t s loose dup) (hT : Top s) (hd : d = 58 ∨ d = 44) (hq : s.pe = q) (hlt : q + wsN (t.drop q) < t.length) :
    Calls Tryz.prog 92 #[.pointer (some ⟨D, 0, none⟩), .int .u8 d, x] w (SynPost w) := by
  obtain ⟨sA, sc, hs⟩ := hT.stack
  have c0 : w.cell? ⟨D, 0, none⟩ = some (.slice sA 0 sc) := hI.dec.cell 0 _ (by rw [← hs]; rfl)
  have c1 : w.cell? ⟨D, 1, none⟩ = some (.int .u64 s.last) := hI.dec.cell 1 _ rfl
  have C93 := Lib.hid (fun W => f93 hT.last W sA sc 34)
  have C94 := Lib.hid (fun W (hb : Below w.heap.size w W) => f94 D B c q t s loose dup d 34 W G (hI.mono hb) hT hd hq hlt)
  have d1 : ((0 : Int) != d) = true := by rw [bne_iff_ne]; omega
  clear hI hT hd hs hq hlt
  go_enter Tryz.func92, Tryz.ntmps92
  go_wp2_with (fail)
  refine (C93.out _).mono ?_
  rintro e w1 ⟨rfl, hb1⟩
  have HB1 := Lib.hid hb1
  clear hb1
  go_wp2_with (fail)
  refine (C94.out _ HB1.out).mono ?_
  rintro e w2 ⟨g, rfl, hb2⟩
  have HB2 := Lib.hid (HB1.out.trans (hb2.mono HB1.out.size))
  clear hb2
  go_wp2_with (fail)
  go_returns
  exact ⟨g, rfl, HB2.out⟩
end Go.Proofs.YtjfbkgkpjkickaaGreatDoor.PAll
-- YtjfbkgkpjkickaaGreatDoorCa
set_option linter.unusedVariables false
set_option linter.unusedSimpArgs false
namespace Go.Proofs.YtjfbkgkpjkickaaGreatDoor.PAll
open Go.RowKit Go.Proofs.YtjfbkgkpjkickaaGreatDoorW.PrintWords Go.Proofs.YtjfbkgkpjkickaaGreatDoorW.PrintLast Go.Proofs.YtjfbkgkpjkickaaGreatDoorW.PrintMore

theorem info3 : (Tryz.prog.info? 3).map (fun i => (i.zero, i.size, i.bytes)) = some (some (.int .i64 0), 1, 8) := by kernel_rfl
theorem u115 : Tryz.prog.underlying 115 = some (.slice 3) := by kernel_rfl
section
variable {w a : World} {F D : Nat} {s : DS}
theorem BB.alloc (h : BB F w a) (o : Obj) : BB F w (a.alloc o) := h.next (below_alloc (Below.refl _ _) _)
theorem BB.drew (h : BB F w a) : BB F w a.drew := h.next (below_drew (Below.refl _ _))
theorem BB.drewN (h : BB F w a) (m : Nat) : BB F w (a.drewN m) := h.next (pw_below_drewN (Below.refl _ _) _)
theorem DecAt.alloc (h : DecAt a D s) (o : Obj) : DecAt (a.alloc o) D s := h.mono (below_alloc (Below.refl _ _) _)
theorem DecAt.drew (h : DecAt a D s) : DecAt a.drew D s := h.mono (below_drew (Below.refl _ _))
theorem DecAt.drewN (h : DecAt a D s) (m : Nat) : DecAt (a.drewN m) D s := h.mono (pw_below_drewN (Below.refl _ _) _)
end
section
variable {w : World} {D : Nat} {s : DS}
theorem DecAt.setStack (h : DecAt w D s) (v : Value) : DecAt (w.setCell ⟨D, 0, none⟩ v) D { s with stack := v } := h.set 0 v _ rfl
theorem DecAt.setLast (h : DecAt w D s) (x : Int) : DecAt (w.setCell ⟨D, 1, none⟩ (.int .u64 x)) D { s with last := x } := h.set 1 _ _ rfl
theorem DecAt.setOffs (h : DecAt w D s) (v : Value) : DecAt (w.setCell ⟨D, 2, none⟩ v) D { s with offs := v } := h.set 2 v _ rfl
theorem DecAt.setNss (h : DecAt w D s) (v : Value) : DecAt (w.setCell ⟨D, 4, none⟩ v) D { s with nss := v } := h.set 4 v _ rfl
theorem DecAt.setPs (h : DecAt w D s) (x : Int) : DecAt (w.setCell ⟨D, 8, none⟩ (.int .i64 x)) D { s with ps := x } := h.set 8 _ _ rfl
theorem DecAt.setPe (h : DecAt w D s) (x : Int) : DecAt (w.setCell ⟨D, 9, none⟩ (.int .i64 x)) D { s with pe := x } := h.set 9 _ _ rfl
theorem DecAt.setPres (h : DecAt w D s) (x : Int) : DecAt (w.setCell ⟨D, 13, none⟩ (.int .u64 x)) D { s with pres := x } := h.set 13 _ _ rfl
theorem DecAt.setVals (h : DecAt w D s) (x : Int) : DecAt (w.setCell ⟨D, 14, none⟩ (.int .u64 x)) D { s with vals := x } := h.set 14 _ _ rfl
end
/-- append of one element to a slice that is nil -/
theorem app_nil (T e : TypeId) (z v : Value) (n : Nat) (hT : Tryz.prog.underlying T = some (.slice e)) (hi : (Tryz.prog.info? e).map (fun i => (i.zero, i.size, i.bytes)) = some (some z, 1, n)) (hn : n ≤ 1000) (w : World) :
    (Builtin.append_ #[T, T] T #[.slice none 0 0, .slice (some ⟨w.heap.size, 0, none⟩) 1 1]).run Tryz.prog (w.alloc (.cells #[v] e)) =
      .ok (.slice (some ⟨w.heap.size + 1, 0, none⟩) 1 (grownCap (w.alloc (.cells #[v] e)) 1 0 e)) ((w.alloc (.cells #[v] e)).drew.alloc (.cells (#[v] ++ Builtin.zeroCells z.cells (grownCap (w.alloc (.cells #[v] e)) 1 0 e - 1)) e)) := by
  obtain ⟨i, hi, hzz⟩ := Option.map_eq_some_iff.1 hi
  simp only [Prod.mk.injEq] at hzz
  obtain ⟨hz, hs, hb⟩ := hzz
  have := run_append_nil (P := Tryz.prog) (w.alloc (.cells #[v] e)) T T e i z hT hi hz ⟨w.heap.size, 0, none⟩ 1 1 [v] (by rw [hs]; rfl) (cell_one_new w v e) (by decide) (by decide) (by rw [hb]; omega)
  rw [World.size_alloc] at this
  exact this
set_option maxRecDepth 100000 in
theorem f124 (D : Nat) (s : DS) (w : World) (hD : DecAt w D s) (ho : s.offs = .slice none 0 0) : Calls Tryz.prog 124 #[.pointer (some ⟨D, 2, none⟩)] w fun e w' => e = .returned (.tuple #[]) ∧ BB D w w' ∧ ∃ v, DecAt w' D { s with offs := v } := by
  have c2 : w.cell? ⟨D, 2, none⟩ = some (.slice none 0 0) := hD.cell 2 _ (by rw [← ho]; rfl)
  have z2 := hD.fz 2
  have happ := app_nil 115 3 (.int .i64 0) (.int .i64 (-9223372036854775808)) 8 u115 info3 (by decide) w
  have HD := Lib.hid hD
  have hlt := hD.lt
  clear hD ho
  go_enter Tryz.func124, Tryz.ntmps124
  go_wp2_with (fail)
  go_returns
  exact ⟨rfl, BB.drew (BB.alloc (BB.alloc ((BB.refl D w).set 2 _) _) _), _, DecAt.drew (DecAt.alloc (DecAt.alloc (HD.out.setOffs _) _) _)⟩
theorem info216 : (Tryz.prog.info? 216).map (fun i => (i.zero, i.size, i.bytes)) = some (some (.agg #[.slice none 0 0, .slice none 0 0, .map none]), 3, 56) := by kernel_rfl
theorem u119 : Tryz.prog.underlying 119 = some (.slice 216) := by kernel_rfl
theorem app_ns (w : World) : ∃ n : Nat, ∃ o : Obj, 
    (Builtin.append_ #[119, 119] 119 #[.slice none 0 0, .slice (some ⟨w.heap.size, 0, none⟩) 1 1]).run Tryz.prog (w.alloc (.cells #[.slice none 0 0, .slice none 0 0, .map none] 216)) =
      .ok (.slice (some ⟨w.heap.size + 1, 0, none⟩) 1 n) ((w.alloc (.cells #[.slice none 0 0, .slice none 0 0, .map none] 216)).drew.alloc o) := by
  obtain ⟨i, hi, hzz⟩ := Option.map_eq_some_iff.1 info216
  simp only [Prod.mk.injEq] at hzz
  obtain ⟨hz, hs, hb⟩ := hzz
  have := run_append_nil (P := Tryz.prog) (w.alloc (.cells #[.slice none 0 0, .slice none 0 0, .map none] 216)) 119 119 216 i _ u119 hi hz ⟨w.heap.size, 0, none⟩ 1 1 [.slice none 0 0, .slice none 0 0, .map none] (by rw [hs]; rfl) (by
    intro j u hj
    rw [show (⟨w.heap.size, 0, none⟩ : Addr).add j = ⟨w.heap.size, j, none⟩ from add_plain _ _]
    have hb := heap_alloc_new w (.cells #[.slice none 0 0, .slice none 0 0, .map none] 216)
    rw [cell_of_row _ _ _ _ _ _ hb]
    simpa using hj) (by decide) (by decide) (by rw [hb]; decide)
  rw [World.size_alloc] at this
  exact ⟨_, _, this⟩
theorem app_nsN (w : World) (m : Nat) : ∃ n : Nat, ∃ o : Obj, 
    (Builtin.append_ #[119, 119] 119 #[.slice none 0 0, .slice (some ⟨w.heap.size, 0, none⟩) 1 1]).run Tryz.prog ((w.alloc (.cells #[.slice none 0 0, .slice none 0 0, .map none] 216)).drewN m) =
      .ok (.slice (some ⟨w.heap.size + 1, 0, none⟩) 1 n) (((w.alloc (.cells #[.slice none 0 0, .slice none 0 0, .map none] 216)).drewN m).drew.alloc o) := app_ns (w.drewN m)
set_option maxRecDepth 100000 in
theorem f125 (D : Nat) (s : DS) (w : World) (hD : DecAt w D s) (ho : s.nss = .slice none 0 0) : Calls Tryz.prog 125 #[.pointer (some ⟨D, 4, none⟩)] w fun e w' => e = .returned (.tuple #[]) ∧ BB D w w' ∧ ∃ v, DecAt w' D { s with nss := v } := by
  have c4 : w.cell? ⟨D, 4, none⟩ = some (.slice none 0 0) := hD.cell 4 _ (by rw [← ho]; rfl)
  have z4 := hD.fz 4
  have HD := Lib.hid hD
  have hlt := hD.lt
  have happ := fun (n : Nat) => app_nsN w n
  have HA := Lib.hid happ
  clear happ
  go_enter Tryz.func125, Tryz.ntmps125
  go_wp2_with (fail)
  go_quiet (fail)
  have hfit : ¬ (281474976710656 < Builtin.nextslicecap 1 0 * Tryz.t216.bytes) := by decide +kernel
  have kb : ((w.drewN nq).alloc (.cells #[.slice none 0 0, .slice none 0 0, .map none] 216)).drew.heap[w.heap.size]? = some (.cells #[.slice none 0 0, .slice none 0 0, .map none] 216 (0, 0)) := heap_alloc_new (w.drewN nq) _
  have k0 := (blk_cell kb 0).trans (show _ = some (.slice none 0 0) from rfl)
  have k1 := (blk_cell kb 1).trans (show _ = some (.slice none 0 0) from rfl)
  have k2 := (blk_cell kb 2).trans (show _ = some (.map none) from rfl)
  have D4 := fun (o2 : Obj) => ((hD.drewN nq).alloc (.cells #[.slice none 0 0, .slice none 0 0, .map none] 216) |>.alloc o2).drew
  have k4 : ∀ o2, ((((w.drewN nq).alloc (.cells #[.slice none 0 0, .slice none 0 0, .map none] 216)).alloc o2).drew).cell? ⟨D, 4, none⟩ = some (.slice none 0 0) := fun o2 => (D4 o2).cell 4 _ (by rw [← ho]; rfl)
  have z5 : ∀ o2, ((((w.drewN nq).alloc (.cells #[.slice none 0 0, .slice none 0 0, .map none] 216)).alloc o2).drew).frozen? ⟨D, 4, none⟩ = false := fun o2 => (D4 o2).fz 4
  clear kb D4 hD ho
  go_wp2_with (fail)
  go_returns
  exact ⟨rfl, by repeat (first | exact BB.refl _ _ | apply BB.drew | apply BB.alloc | apply BB.drewN | apply BB.set), _, by repeat (first | exact HD.out | apply DecAt.drew | apply DecAt.alloc | apply DecAt.drewN | (refine DecAt.setNss ?_ _))⟩
set_option maxRecDepth 100000 in
theorem f126 (D : Nat) (s : DS) (m : Int) (w : World) (hD : DecAt w D s) : Calls Tryz.prog 126 #[.pointer (some ⟨D, 13, none⟩), .int .u64 m] w fun e w' => e = .returned (.tuple #[]) ∧ BB D w w' ∧ ∃ a b, DecAt w' D { s with pres := a, vals := b } := by
  have c13 : w.cell? ⟨D, 13, none⟩ = some (.int .u64 s.pres) := hD.cell 13 _ rfl
  have c14 : w.cell? ⟨D, 14, none⟩ = some (.int .u64 s.vals) := hD.cell 14 _ rfl
  have z13 := hD.fz 13
  have z14 := hD.fz 14
  have HD := Lib.hid hD
  clear hD
  go_enter Tryz.func126, Tryz.ntmps126
  go_wp2_with (fail)
  go_returns
  exact ⟨rfl, ((BB.refl D w).set 13 _).set 14 _, _, _, (HD.out.setPres _).setVals _⟩
/-- what a push leaves -/
def Pushd (D : Nat) (s : DS) (w : World) (e : Ending) (w' : World) : Prop := e = .returned .nilIface ∧ BB D w w' ∧ ∃ v x, DecAt w' D { s with stack := v, last := x }
set_option maxRecDepth 100000 in
set_option maxHeartbeats 4000000 in
theorem f110 (D : Nat) (s : DS) (w : World) (hD : DecAt w D s) (hx : s.last = 0 ∨ s.last = 1) (ho : s.stack = .slice none 0 0) : Calls Tryz.prog 110 #[.pointer (some ⟨D, 0, none⟩)] w (Pushd D s w) := by
  have c0 : w.cell? ⟨D, 0, none⟩ = some (.slice none 0 0) := hD.cell 0 _ (by rw [← ho]; rfl)
  have c1 : w.cell? ⟨D, 1, none⟩ = some (.int .u64 s.last) := hD.cell 1 _ rfl
  have C97 := Lib.hid (fun W => f97 hx W)
  have C99 := Lib.hid (fun W => f99 hx W)
  have C158 := Lib.hid (fun W (hb : Below w.heap.size w W) => f158 D s W (hD.mono hb) hx)
  have HD := Lib.hid hD
  clear hD hx
  go_enter Tryz.func110, Tryz.ntmps110
  go_wp2_with (fail)
  refine (C97.out _).mono ?_
  rintro e w1 ⟨rfl, m1, rfl⟩
  go_wp2_with (fail)
  refine (C99.out _).mono ?_
  rintro e w2 ⟨rfl, m2, rfl⟩
  go_wp2_with (fail)
  have hb := Lib.hid (show Below w.heap.size w (w.drewN (m1 + m2)) from pw_below_drewN (Below.refl _ _) _)
  refine (C158.out _ hb.out).mono ?_
  rintro e w3 ⟨rfl, hw3⟩
  have HD3 := Lib.hid (show DecAt w3 D { s with last := s.last + 1 } by rw [hw3]; exact (HD.out.mono hb.out).set 1 _ _ rfl)
  have HB3 := Lib.hid (show BB D w w3 by rw [hw3]; exact (BB.of hb.out).set 1 _)
  have d0 : w3.cell? ⟨D, 0, none⟩ = some (.slice none 0 0) := HD3.out.cell 0 _ (by rw [← ho]; rfl)
  have d1 : w3.cell? ⟨D, 1, none⟩ = some (.int .u64 (s.last + 1)) := HD3.out.cell 1 _ rfl
  have y0 := HD3.out.fz 0
  have y1 := HD3.out.fz 1
  have hlt := HD3.out.lt
  have hfit : ¬ (281474976710656 < Builtin.nextslicecap 1 0 * Tryz.t112.bytes) := by decide +kernel
  clear hw3 c0 c1 ho
  generalize s.last + 1 = x at *
  go_upto_region 2 with (fail)
  go_region
  go_wp2_with (fail)
  go_returns
  exact ⟨rfl, BB.drew (BB.drew (BB.alloc (BB.alloc ((HB3.out.set 0 _).set 1 _) _) _)), _, _, DecAt.drew (DecAt.drew (DecAt.alloc (DecAt.alloc ((HD3.out.setStack _).setLast _) _) _))⟩
set_option maxRecDepth 100000 in
set_option maxHeartbeats 4000000 in
theorem f108 (D : Nat) (s : DS) (w : World) (hD : DecAt w D s) (hx : s.last = 0 ∨ s.last = 1) (ho : s.stack = .slice none 0 0) : Calls Tryz.prog 108 #[.pointer (some ⟨D, 0, none⟩)] w (Pushd D s w) := by
  have c0 : w.cell? ⟨D, 0, none⟩ = some (.slice none 0 0) := hD.cell 0 _ (by rw [← ho]; rfl)
  have c1 : w.cell? ⟨D, 1, none⟩ = some (.int .u64 s.last) := hD.cell 1 _ rfl
  have C97 := Lib.hid (fun W => f97 hx W)
  have C99 := Lib.hid (fun W => f99 hx W)
  have C158 := Lib.hid (fun W (hb : Below w.heap.size w W) => f158 D s W (hD.mono hb) hx)
  have HD := Lib.hid hD
  clear hD hx
  go_enter Tryz.func108, Tryz.ntmps108
  go_wp2_with (fail)
  refine (C97.out _).mono ?_
  rintro e w1 ⟨rfl, m1, rfl⟩
  go_wp2_with (fail)
  refine (C99.out _).mono ?_
  rintro e w2 ⟨rfl, m2, rfl⟩
  go_wp2_with (fail)
  have hb := Lib.hid (show Below w.heap.size w (w.drewN (m1 + m2)) from pw_below_drewN (Below.refl _ _) _)
  refine (C158.out _ hb.out).mono ?_
  rintro e w3 ⟨rfl, hw3⟩
  have HD3 := Lib.hid (show DecAt w3 D { s with last := s.last + 1 } by rw [hw3]; exact (HD.out.mono hb.out).set 1 _ _ rfl)
  have HB3 := Lib.hid (show BB D w w3 by rw [hw3]; exact (BB.of hb.out).set 1 _)
  have d0 : w3.cell? ⟨D, 0, none⟩ = some (.slice none 0 0) := HD3.out.cell 0 _ (by rw [← ho]; rfl)
  have d1 : w3.cell? ⟨D, 1, none⟩ = some (.int .u64 (s.last + 1)) := HD3.out.cell 1 _ rfl
  have y0 := HD3.out.fz 0
  have y1 := HD3.out.fz 1
  have hlt := HD3.out.lt
  have hfit : ¬ (281474976710656 < Builtin.nextslicecap 1 0 * Tryz.t112.bytes) := by decide +kernel
  clear hw3 c0 c1 ho
  generalize s.last + 1 = x at *
  go_upto_region 2 with (fail)
  go_region
  go_wp2_with (fail)
  go_returns
  exact ⟨rfl, BB.drew (BB.drew (BB.alloc (BB.alloc ((HB3.out.set 0 _).set 1 _) _) _)), _, _, DecAt.drew (DecAt.drew (DecAt.alloc (DecAt.alloc ((HD3.out.setStack _).setLast _) _) _))⟩
/-- nothing can be popped -/
theorem f109 (D : Nat) (s : DS) (G : GV) (w : World) (hE : Env w G) (hD : DecAt w D s) (hx : s.last = 0 ∨ s.last = 1) : Calls Tryz.prog 109 #[.pointer (some ⟨D, 0, none⟩)] w fun e w' => e = .returned (.iface 265 (.pointer (some G.mism))) ∧ Drawn0 w w' := by
  have c1 : w.cell? ⟨D, 1, none⟩ = some (.int .u64 s.last) := hD.cell 1 _ rfl
  have h8 := hE.h8
  have C152 := Lib.hid (fun W => f152 hx W)
  clear hD hx hE
  go_enter Tryz.func109, Tryz.ntmps109
  go_wp2_with (fail)
  refine (C152.out _).mono ?_
  rintro e w1 ⟨rfl, m1, rfl⟩
  go_wp2_with (fail)
  go_returns
  exact ⟨rfl, m1, rfl⟩
theorem f111 (D : Nat) (s : DS) (G : GV) (w : World) (hE : Env w G) (hD : DecAt w D s) (hT : Top s) : Calls Tryz.prog 111 #[.pointer (some ⟨D, 0, none⟩)] w fun e w' => e = .returned (.iface 265 (.pointer (some G.mism))) ∧ Drawn0 w w' := by
  obtain ⟨A, c, hs⟩ := hT.stack
  have c0 : w.cell? ⟨D, 0, none⟩ = some (.slice A 0 c) := hD.cell 0 _ (by rw [← hs]; rfl)
  have c1 : w.cell? ⟨D, 1, none⟩ = some (.int .u64 s.last) := hD.cell 1 _ rfl
  have h8 := hE.h8
  have C150 := Lib.hid (fun W => f150 hT.last W)
  clear hD hT hE hs
  go_enter Tryz.func111, Tryz.ntmps111
  go_wp2_with (fail)
  refine (C150.out _).mono ?_
  rintro e w1 ⟨rfl, m1, rfl⟩
  go_wp2_with (fail)
  go_returns
  exact ⟨rfl, m1, rfl⟩
end Go.Proofs.YtjfbkgkpjkickaaGreatDoor.PAll
-- YtjfbkgkpjkickaaGreatDoorCf
set_option linter.unusedVariables false
set_option linter.unusedSimpArgs false
namespace Go.Proofs.YtjfbkgkpjkickaaGreatDoor.PAll
open Go.RowKit Go.Proofs.YtjfbkgkpjkickaaGreatDoorW.PrintWords Go.Proofs.YtjfbkgkpjkickaaGreatDoorW.PrintLast Go.Proofs.YtjfbkgkpjkickaaGreatDoorW.PrintMore

/-- a decoder over a buffer, and nothing else -/
def Z (buf : Value) (a b : Int) : DS := ⟨.slice none 0 0, 0, .slice none 0 0, .slice none 0 0, .slice none 0 0, buf, 0, 0, a, b⟩
/-- a call that leaves it as it was -/
def Same (D : Nat) (s : DS) (w : World) (e : Ending) (w' : World) : Prop := e = .returned (.tuple #[]) ∧ BB D w w' ∧ DecAt w' D s
set_option maxRecDepth 100000 in
theorem f139 (D : Nat) (buf : Value) (a b : Int) (w : World) (hD : DecAt w D (Z buf a b)) : Calls Tryz.prog 139 #[.pointer (some ⟨D, 0, none⟩)] w (Same D (Z buf a b) w) := by
  have c0 : w.cell? ⟨D, 0, none⟩ = some (.slice none 0 0) := hD.cell 0 _ rfl
  have c1 : w.cell? ⟨D, 1, none⟩ = some (.int .u64 0) := hD.cell 1 _ rfl
  have z0 := hD.fz 0
  have z1 := hD.fz 1
  have HD := Lib.hid hD
  clear hD
  go_enter Tryz.func139, Tryz.ntmps139
  go_wp2_with (fail)
  go_returns
  exact ⟨rfl, ((BB.refl D w).set 0 _).set 1 _, (HD.out.setStack _).setLast _⟩
set_option maxRecDepth 100000 in
theorem f140 (D : Nat) (buf : Value) (a b : Int) (w : World) (hD : DecAt w D (Z buf a b)) : Calls Tryz.prog 140 #[.pointer (some ⟨D, 2, none⟩)] w (Same D (Z buf a b) w) := by
  have c0 : w.cell? ⟨D, 2, none⟩ = some (.slice none 0 0) := hD.cell 2 _ rfl
  have c1 : w.cell? ⟨D, 3, none⟩ = some (.slice none 0 0) := hD.cell 3 _ rfl
  have z0 := hD.fz 2
  have z1 := hD.fz 3
  have HD := Lib.hid hD
  clear hD
  go_enter Tryz.func140, Tryz.ntmps140
  go_wp2_with (fail)
  go_returns
  exact ⟨rfl, ((BB.refl D w).set 2 _).set 3 _, (HD.out.setOffs _).set 3 _ _ rfl⟩
set_option maxRecDepth 100000 in
theorem f141 (D : Nat) (buf : Value) (a b : Int) (w : World) (hD : DecAt w D (Z buf a b)) : Calls Tryz.prog 141 #[.pointer (some ⟨D, 4, none⟩)] w (Same D (Z buf a b) w) := by
  have c0 : w.cell? ⟨D, 4, none⟩ = some (.slice none 0 0) := hD.cell 4 _ rfl
  have z0 := hD.fz 4
  have HD := Lib.hid hD
  clear hD
  go_enter Tryz.func141, Tryz.ntmps141
  go_wp2_with (fail)
  go_returns
  exact ⟨rfl, (BB.refl D w).set 4 _, HD.out.setNss _⟩
set_option maxRecDepth 100000 in
theorem f83 (D : Nat) (buf : Value) (a b : Int) (w : World) (hD : DecAt w D (Z buf a b)) : Calls Tryz.prog 83 #[.pointer (some ⟨D, 0, none⟩)] w (Same D (Z buf a b) w) := by
  have C139 := Lib.hid (f139 D buf a b w hD)
  clear hD
  go_enter Tryz.func83, Tryz.ntmps83
  go_wp2_with (fail)
  refine C139.out.mono ?_
  rintro e w1 ⟨rfl, hb1, hd1⟩
  have C140 := Lib.hid (f140 D buf a b w1 hd1)
  have HB1 := Lib.hid hb1
  clear hb1 hd1
  go_wp2_with (fail)
  refine C140.out.mono ?_
  rintro e w2 ⟨rfl, hb2, hd2⟩
  have C141 := Lib.hid (f141 D buf a b w2 hd2)
  have HB2 := Lib.hid (HB1.out.trans hb2)
  clear hb2 hd2
  go_wp2_with (fail)
  refine C141.out.mono ?_
  rintro e w3 ⟨rfl, hb3, hd3⟩
  have HB3 := Lib.hid (HB2.out.trans hb3)
  have HD3 := Lib.hid hd3
  clear hb3 hd3
  go_wp2_with (fail)
  go_returns
  exact ⟨rfl, HB3.out, HD3.out⟩
end Go.Proofs.YtjfbkgkpjkickaaGreatDoor.PAll
-- YtjfbkgkpjkickaaGreatDoorCg
set_option linter.unusedVariables false
set_option linter.unusedSimpArgs false
namespace Go.Proofs.YtjfbkgkpjkickaaGreatDoor.PAll
open Go.RowKit Go.Proofs.YtjfbkgkpjkickaaGreatDoorW.PrintWords Go.Proofs.YtjfbkgkpjkickaaGreatDoorW.PrintLast Go.Proofs.YtjfbkgkpjkickaaGreatDoorW.PrintMore

theorem info89 : (Tryz.prog.info? 89).map (fun i => (i.zero, i.size, i.bytes)) = some (some .nilIface, 1, 16) := by kernel_rfl
theorem u52 : Tryz.prog.underlying 52 = some (.slice 89) := by kernel_rfl
/-- options, one by one -/
def optV (K : Int) : Value := .iface 143 (.int .u64 K)
set_option maxRecDepth 100000 in
theorem f40 (w : World) : Calls Tryz.prog 40 #[.bool true] w fun e w' => e = .returned (optV 3) ∧ w = w' := by
  go_enter Tryz.func40, Tryz.ntmps40
  go_wp2_with (fail)
  go_returns
  exact ⟨rfl, rfl⟩
set_option maxRecDepth 100000 in
theorem f41 (w : World) : Calls Tryz.prog 41 #[.bool true] w fun e w' => e = .returned (optV 5) ∧ w = w' := by
  go_enter Tryz.func41, Tryz.ntmps41
  go_wp2_with (fail)
  go_returns
  exact ⟨rfl, rfl⟩
set_option maxRecDepth 100000 in
theorem f39n (v : Value) (k : FuncId) (w : World) : Calls Tryz.prog 39 #[v, .int .i64 0, .func (.func k) #[] #[]] w fun e w' => e = .returned v ∧ w = w' := by
  go_enter Tryz.func39, Tryz.ntmps39
  go_wp2_with (fail)
  go_returns
  exact ⟨rfl, rfl⟩

theorem grown_below {base n : Nat} {v : Value} {xs : List Value} {w w' : World} {o : Obj} (hown : w.ownsRow base 89 1 v n xs) (hb : base ≤ w.heap.size) (h3 : (w.alloc o).grownBy w' v.ownBlock) : Below base w w' := by
  refine ⟨h3.os, h3.tape, h3.output, Nat.le_trans (by simp) h3.size, fun k hk => ?_⟩
  rw [h3.block k (by simp; omega) ?_, heap_alloc_old w _ (by omega)]
  intro e
  rcases hown.2 with ⟨rfl, _⟩ | ⟨g, cap, cur, rfl, hbg, _⟩
  · simp [Value.ownBlock] at e
  · simp [Value.ownBlock] at e
    omega
set_option maxRecDepth 100000 in
theorem f39d (base : Nat) (v : Value) (n : Nat) (xs : List Value) (w : World) (hown : w.ownsRow base 89 1 v n xs) (hb : base ≤ w.heap.size) (hn : n ≤ 100) : Calls Tryz.prog 39 #[v, .int .i64 1, .func (.func 40) #[] #[]] w fun e w' => ∃ v', e = .returned v' ∧ w'.ownsRow base 89 1 v' (n + 1) (xs ++ [optV 3]) ∧ Below base w w' := by
  obtain ⟨i, hi, hzz⟩ := Option.map_eq_some_iff.1 info89
  simp only [Prod.mk.injEq] at hzz
  obtain ⟨hz, hs, hby⟩ := hzz
  have HO := Lib.hid hown
  have C40 := Lib.hid (f40 w)
  clear hown
  go_enter Tryz.func39, Tryz.ntmps39
  go_wp2_with (fail)
  refine C40.out.mono ?_
  rintro e w1 ⟨rfl, rfl⟩
  go_wp2_with (at_builtin; refine wpList_append_own _ rfl _ _ 52 rfl base 89 i .nilIface 1 16 u52 hi hz hs hby rfl (by decide) _ _ _ rfl (HO.out.alloc _) ⟨w.heap.size, 0, none⟩ 1 1 [optV 3] rfl rfl (cell_one_new _ _ _) (by intro u hu; simp at hu; subst hu; rfl) (by simp only [maxLen]; omega) (by omega) (by simp; omega) ?_; intro v' w' h2 h3 h4)
  have H2 := Lib.hid h2
  have H3 := Lib.hid (grown_below HO.out hb h3)
  clear h2 h3 h4
  go_returns
  exact ⟨v', rfl, H2.out, H3.out⟩
set_option maxRecDepth 100000 in
theorem f39i (base : Nat) (v : Value) (n : Nat) (xs : List Value) (w : World) (hown : w.ownsRow base 89 1 v n xs) (hb : base ≤ w.heap.size) (hn : n ≤ 100) : Calls Tryz.prog 39 #[v, .int .i64 1, .func (.func 41) #[] #[]] w fun e w' => ∃ v', e = .returned v' ∧ w'.ownsRow base 89 1 v' (n + 1) (xs ++ [optV 5]) ∧ Below base w w' := by
  obtain ⟨i, hi, hzz⟩ := Option.map_eq_some_iff.1 info89
  simp only [Prod.mk.injEq] at hzz
  obtain ⟨hz, hs, hby⟩ := hzz
  have HO := Lib.hid hown
  have C40 := Lib.hid (f41 w)
  clear hown
  go_enter Tryz.func39, Tryz.ntmps39
  go_wp2_with (fail)
  refine C40.out.mono ?_
  rintro e w1 ⟨rfl, rfl⟩
  go_wp2_with (at_builtin; refine wpList_append_own _ rfl _ _ 52 rfl base 89 i .nilIface 1 16 u52 hi hz hs hby rfl (by decide) _ _ _ rfl (HO.out.alloc _) ⟨w.heap.size, 0, none⟩ 1 1 [optV 5] rfl rfl (cell_one_new _ _ _) (by intro u hu; simp at hu; subst hu; rfl) (by simp only [maxLen]; omega) (by omega) (by simp; omega) ?_; intro v' w' h2 h3 h4)
  have H2 := Lib.hid h2
  have H3 := Lib.hid (grown_below HO.out hb h3)
  clear h2 h3 h4
  go_returns
  exact ⟨v', rfl, H2.out, H3.out⟩
/-- what a text's options are -/
def optsV (d i : Bool) : Value := .agg #[.int .i64 (if d then 1 else 0), .int .i64 (if i then 1 else 0), .int .i64 0, .int .i64 0, .int .i64 0, .int .i64 0, .int .i64 0, .int .i64 0, .int .i64 0, .int .i64 0, .int .i64 0, .bool false, .string ⟨#[]⟩, .bool false, .string ⟨#[]⟩]
def optsL (d i : Bool) : List Value := (if d then [optV 3] else []) ++ (if i then [optV 5] else [])
set_option maxRecDepth 100000 in
set_option maxHeartbeats 4000000 in
theorem f28ff (w : World) : Calls Tryz.prog 28 #[optsV false false] w fun e w' => ∃ v, e = .returned v ∧ w'.ownsRow (w.heap.size + 1) 89 1 v (optsL false false).length (optsL false false) ∧ Below (w.heap.size) w w' := by
  obtain ⟨w1, hw1⟩ : ∃ x, x = (w.alloc (.cells #[.int .i64 0, .int .i64 0, .int .i64 0, .int .i64 0, .int .i64 0, .int .i64 0, .int .i64 0, .int .i64 0, .int .i64 0, .int .i64 0, .int .i64 0, .bool false, .string ⟨#[]⟩, .bool false, .string ⟨#[]⟩] 27)).alloc (.cells #[] 89) := ⟨_, rfl⟩
  have hb0 : w1.heap[w.heap.size]? = some (.cells #[.int .i64 0, .int .i64 0, .int .i64 0, .int .i64 0, .int .i64 0, .int .i64 0, .int .i64 0, .int .i64 0, .int .i64 0, .int .i64 0, .int .i64 0, .bool false, .string ⟨#[]⟩, .bool false, .string ⟨#[]⟩] 27 (0, 0)) := by rw [hw1, heap_alloc_old _ _ (by simp)]; exact heap_alloc_new w _
  have hs1 : w1.heap.size = w.heap.size + 2 := by rw [hw1]; simp
  have HB1 := Lib.hid (show Below w.heap.size w w1 by rw [hw1]; exact below_alloc (below_alloc (Below.refl _ _) _) _)
  have HO1 := Lib.hid (show w1.ownsRow (w.heap.size + 1) 89 1 (.slice (some ⟨w.heap.size + 1, 0, none⟩) 0 0) 0 [] from ⟨rfl, .inr ⟨w.heap.size + 1, 0, #[], rfl, Nat.le_refl _, by rw [hw1]; have := heap_alloc_new (w.alloc (.cells #[.int .i64 0, .int .i64 0, .int .i64 0, .int .i64 0, .int .i64 0, .int .i64 0, .int .i64 0, .int .i64 0, .int .i64 0, .int .i64 0, .int .i64 0, .bool false, .string ⟨#[]⟩, .bool false, .string ⟨#[]⟩] 27)) (.cells #[] 89); rw [World.size_alloc] at this; exact this, Nat.le_refl _, by simp only [maxLen]; omega, rfl, rfl⟩⟩)
  have HK := Lib.hid hb0
  clear hb0
  unfold optsV
  go_enter Tryz.func28, Tryz.ntmps28
  go_wp2_with (fail)
  rw [← hw1]
  clear hw1
  refine (f39n _ _ w1).mono ?_
  rintro e w2 ⟨rfl, rfl⟩
  have HO2 := HO1
  have HK2 := HK
  have HB2 := HB1
  have a1 := (blk_cell HK2.out 1).trans (show _ = some (.int .i64 0) from rfl)
  go_wp2_with (fail)
  clear a1
  refine (f39n _ _ w1).mono ?_
  rintro e w3 ⟨rfl, rfl⟩
  have HO3 := HO2
  have HK3 := HK2
  have HB3 := HB2
  have a2 := (blk_cell HK3.out 2).trans (show _ = some (.int .i64 0) from rfl)
  have a3 := (blk_cell HK3.out 3).trans (show _ = some (.int .i64 0) from rfl)
  have a4 := (blk_cell HK3.out 4).trans (show _ = some (.int .i64 0) from rfl)
  have a5 := (blk_cell HK3.out 5).trans (show _ = some (.int .i64 0) from rfl)
  have a6 := (blk_cell HK3.out 6).trans (show _ = some (.int .i64 0) from rfl)
  have a7 := (blk_cell HK3.out 7).trans (show _ = some (.int .i64 0) from rfl)
  have a8 := (blk_cell HK3.out 8).trans (show _ = some (.int .i64 0) from rfl)
  have a9 := (blk_cell HK3.out 9).trans (show _ = some (.int .i64 0) from rfl)
  have a10 := (blk_cell HK3.out 10).trans (show _ = some (.int .i64 0) from rfl)
  have a11 := (blk_cell HK3.out 11).trans (show _ = some (.bool false) from rfl)
  have a13 := (blk_cell HK3.out 13).trans (show _ = some (.bool false) from rfl)
  go_wp2_with (fail)
  refine (f39n _ _ _).mono ?_
  rintro e wx ⟨rfl, rfl⟩
  go_wp2_with (fail)
  refine (f39n _ _ _).mono ?_
  rintro e wx ⟨rfl, rfl⟩
  go_wp2_with (fail)
  refine (f39n _ _ _).mono ?_
  rintro e wx ⟨rfl, rfl⟩
  go_wp2_with (fail)
  refine (f39n _ _ _).mono ?_
  rintro e wx ⟨rfl, rfl⟩
  go_wp2_with (fail)
  refine (f39n _ _ _).mono ?_
  rintro e wx ⟨rfl, rfl⟩
  go_wp2_with (fail)
  refine (f39n _ _ _).mono ?_
  rintro e wx ⟨rfl, rfl⟩
  go_wp2_with (fail)
  refine (f39n _ _ _).mono ?_
  rintro e wx ⟨rfl, rfl⟩
  go_wp2_with (fail)
  refine (f39n _ _ _).mono ?_
  rintro e wx ⟨rfl, rfl⟩
  go_wp2_with (fail)
  refine (f39n _ _ _).mono ?_
  rintro e wx ⟨rfl, rfl⟩
  go_wp2_with (fail)
  go_returns
  exact ⟨_, rfl, HO3.out, HB3.out⟩
set_option maxRecDepth 100000 in
set_option maxHeartbeats 4000000 in
theorem f28ft (w : World) : Calls Tryz.prog 28 #[optsV false true] w fun e w' => ∃ v, e = .returned v ∧ w'.ownsRow (w.heap.size + 1) 89 1 v (optsL false true).length (optsL false true) ∧ Below (w.heap.size) w w' := by
  obtain ⟨w1, hw1⟩ : ∃ x, x = (w.alloc (.cells #[.int .i64 0, .int .i64 1, .int .i64 0, .int .i64 0, .int .i64 0, .int .i64 0, .int .i64 0, .int .i64 0, .int .i64 0, .int .i64 0, .int .i64 0, .bool false, .string ⟨#[]⟩, .bool false, .string ⟨#[]⟩] 27)).alloc (.cells #[] 89) := ⟨_, rfl⟩
  have hb0 : w1.heap[w.heap.size]? = some (.cells #[.int .i64 0, .int .i64 1, .int .i64 0, .int .i64 0, .int .i64 0, .int .i64 0, .int .i64 0, .int .i64 0, .int .i64 0, .int .i64 0, .int .i64 0, .bool false, .string ⟨#[]⟩, .bool false, .string ⟨#[]⟩] 27 (0, 0)) := by rw [hw1, heap_alloc_old _ _ (by simp)]; exact heap_alloc_new w _
  have hs1 : w1.heap.size = w.heap.size + 2 := by rw [hw1]; simp
  have HB1 := Lib.hid (show Below w.heap.size w w1 by rw [hw1]; exact below_alloc (below_alloc (Below.refl _ _) _) _)
  have HO1 := Lib.hid (show w1.ownsRow (w.heap.size + 1) 89 1 (.slice (some ⟨w.heap.size + 1, 0, none⟩) 0 0) 0 [] from ⟨rfl, .inr ⟨w.heap.size + 1, 0, #[], rfl, Nat.le_refl _, by rw [hw1]; have := heap_alloc_new (w.alloc (.cells #[.int .i64 0, .int .i64 1, .int .i64 0, .int .i64 0, .int .i64 0, .int .i64 0, .int .i64 0, .int .i64 0, .int .i64 0, .int .i64 0, .int .i64 0, .bool false, .string ⟨#[]⟩, .bool false, .string ⟨#[]⟩] 27)) (.cells #[] 89); rw [World.size_alloc] at this; exact this, Nat.le_refl _, by simp only [maxLen]; omega, rfl, rfl⟩⟩)
  have HK := Lib.hid hb0
  clear hb0
  unfold optsV
  go_enter Tryz.func28, Tryz.ntmps28
  go_wp2_with (fail)
  rw [← hw1]
  clear hw1
  refine (f39n _ _ w1).mono ?_
  rintro e w2 ⟨rfl, rfl⟩
  have HO2 := HO1
  have HK2 := HK
  have HB2 := HB1
  have a1 := (blk_cell HK2.out 1).trans (show _ = some (.int .i64 1) from rfl)
  go_wp2_with (fail)
  clear a1
  refine (f39i (w.heap.size + 1) _ _ _ w1 HO2.out (by omega) (by decide)).mono ?_
  rintro e w3 ⟨v3, rfl, ho3, hb3⟩
  have HO3 := Lib.hid ho3
  have HK3 := Lib.hid ((hb3.block w.heap.size (by omega)).trans HK2.out)
  have HB3 := Lib.hid (HB2.out.trans (hb3.mono (Nat.le_succ _)))
  clear ho3 hb3
  have a2 := (blk_cell HK3.out 2).trans (show _ = some (.int .i64 0) from rfl)
  have a3 := (blk_cell HK3.out 3).trans (show _ = some (.int .i64 0) from rfl)
  have a4 := (blk_cell HK3.out 4).trans (show _ = some (.int .i64 0) from rfl)
  have a5 := (blk_cell HK3.out 5).trans (show _ = some (.int .i64 0) from rfl)
  have a6 := (blk_cell HK3.out 6).trans (show _ = some (.int .i64 0) from rfl)
  have a7 := (blk_cell HK3.out 7).trans (show _ = some (.int .i64 0) from rfl)
  have a8 := (blk_cell HK3.out 8).trans (show _ = some (.int .i64 0) from rfl)
  have a9 := (blk_cell HK3.out 9).trans (show _ = some (.int .i64 0) from rfl)
  have a10 := (blk_cell HK3.out 10).trans (show _ = some (.int .i64 0) from rfl)
  have a11 := (blk_cell HK3.out 11).trans (show _ = some (.bool false) from rfl)
  have a13 := (blk_cell HK3.out 13).trans (show _ = some (.bool false) from rfl)
  go_wp2_with (fail)
  refine (f39n _ _ _).mono ?_
  rintro e wx ⟨rfl, rfl⟩
  go_wp2_with (fail)
  refine (f39n _ _ _).mono ?_
  rintro e wx ⟨rfl, rfl⟩
  go_wp2_with (fail)
  refine (f39n _ _ _).mono ?_
  rintro e wx ⟨rfl, rfl⟩
  go_wp2_with (fail)
  refine (f39n _ _ _).mono ?_
  rintro e wx ⟨rfl, rfl⟩
  go_wp2_with (fail)
  refine (f39n _ _ _).mono ?_
  rintro e wx ⟨rfl, rfl⟩
  go_wp2_with (fail)
  refine (f39n _ _ _).mono ?_
  rintro e wx ⟨rfl, rfl⟩
  go_wp2_with (fail)
  refine (f39n _ _ _).mono ?_
  rintro e wx ⟨rfl, rfl⟩
  go_wp2_with (fail)
  refine (f39n _ _ _).mono ?_
  rintro e wx ⟨rfl, rfl⟩
  go_wp2_with (fail)
  refine (f39n _ _ _).mono ?_
  rintro e wx ⟨rfl, rfl⟩
  go_wp2_with (fail)
  go_returns
  exact ⟨_, rfl, HO3.out, HB3.out⟩
set_option maxRecDepth 100000 in
set_option maxHeartbeats 4000000 in
theorem f28tf (w : World) : Calls Tryz.prog 28 #[optsV true false] w fun e w' => ∃ v, e = .returned v ∧ w'.ownsRow (w.heap.size + 1) 89 1 v (optsL true false).length (optsL true false) ∧ Below (w.heap.size) w w' := by
  obtain ⟨w1, hw1⟩ : ∃ x, x = (w.alloc (.cells #[.int .i64 1, .int .i64 0, .int .i64 0, .int .i64 0, .int .i64 0, .int .i64 0, .int .i64 0, .int .i64 0, .int .i64 0, .int .i64 0, .int .i64 0, .bool false, .string ⟨#[]⟩, .bool false, .string ⟨#[]⟩] 27)).alloc (.cells #[] 89) := ⟨_, rfl⟩
  have hb0 : w1.heap[w.heap.size]? = some (.cells #[.int .i64 1, .int .i64 0, .int .i64 0, .int .i64 0, .int .i64 0, .int .i64 0, .int .i64 0, .int .i64 0, .int .i64 0, .int .i64 0, .int .i64 0, .bool false, .string ⟨#[]⟩, .bool false, .string ⟨#[]⟩] 27 (0, 0)) := by rw [hw1, heap_alloc_old _ _ (by simp)]; exact heap_alloc_new w _
  have hs1 : w1.heap.size = w.heap.size + 2 := by rw [hw1]; simp
  have HB1 := Lib.hid (show Below w.heap.size w w1 by rw [hw1]; exact below_alloc (below_alloc (Below.refl _ _) _) _)
  have HO1 := Lib.hid (show w1.ownsRow (w.heap.size + 1) 89 1 (.slice (some ⟨w.heap.size + 1, 0, none⟩) 0 0) 0 [] from ⟨rfl, .inr ⟨w.heap.size + 1, 0, #[], rfl, Nat.le_refl _, by rw [hw1]; have := heap_alloc_new (w.alloc (.cells #[.int .i64 1, .int .i64 0, .int .i64 0, .int .i64 0, .int .i64 0, .int .i64 0, .int .i64 0, .int .i64 0, .int .i64 0, .int .i64 0, .int .i64 0, .bool false, .string ⟨#[]⟩, .bool false, .string ⟨#[]⟩] 27)) (.cells #[] 89); rw [World.size_alloc] at this; exact this, Nat.le_refl _, by simp only [maxLen]; omega, rfl, rfl⟩⟩)
  have HK := Lib.hid hb0
  clear hb0
  unfold optsV
  go_enter Tryz.func28, Tryz.ntmps28
  go_wp2_with (fail)
  rw [← hw1]
  clear hw1
  refine (f39d (w.heap.size + 1) _ _ _ w1 HO1.out (by omega) (by omega)).mono ?_
  rintro e w2 ⟨v2, rfl, ho2, hb2⟩
  have HO2 := Lib.hid ho2
  have HK2 := Lib.hid ((hb2.block w.heap.size (by omega)).trans HK.out)
  have hs2 : w1.heap.size ≤ w2.heap.size := hb2.size
  have HB2 := Lib.hid (HB1.out.trans (hb2.mono (Nat.le_succ _)))
  clear ho2 hb2
  have a1 := (blk_cell HK2.out 1).trans (show _ = some (.int .i64 0) from rfl)
  go_wp2_with (fail)
  clear a1
  refine (f39n _ _ w2).mono ?_
  rintro e w3 ⟨rfl, rfl⟩
  have HO3 := HO2
  have HK3 := HK2
  have HB3 := HB2
  have a2 := (blk_cell HK3.out 2).trans (show _ = some (.int .i64 0) from rfl)
  have a3 := (blk_cell HK3.out 3).trans (show _ = some (.int .i64 0) from rfl)
  have a4 := (blk_cell HK3.out 4).trans (show _ = some (.int .i64 0) from rfl)
  have a5 := (blk_cell HK3.out 5).trans (show _ = some (.int .i64 0) from rfl)
  have a6 := (blk_cell HK3.out 6).trans (show _ = some (.int .i64 0) from rfl)
  have a7 := (blk_cell HK3.out 7).trans (show _ = some (.int .i64 0) from rfl)
  have a8 := (blk_cell HK3.out 8).trans (show _ = some (.int .i64 0) from rfl)
  have a9 := (blk_cell HK3.out 9).trans (show _ = some (.int .i64 0) from rfl)
  have a10 := (blk_cell HK3.out 10).trans (show _ = some (.int .i64 0) from rfl)
  have a11 := (blk_cell HK3.out 11).trans (show _ = some (.bool false) from rfl)
  have a13 := (blk_cell HK3.out 13).trans (show _ = some (.bool false) from rfl)
  go_wp2_with (fail)
  refine (f39n _ _ _).mono ?_
  rintro e wx ⟨rfl, rfl⟩
  go_wp2_with (fail)
  refine (f39n _ _ _).mono ?_
  rintro e wx ⟨rfl, rfl⟩
  go_wp2_with (fail)
  refine (f39n _ _ _).mono ?_
  rintro e wx ⟨rfl, rfl⟩
  go_wp2_with (fail)
  refine (f39n _ _ _).mono ?_
  rintro e wx ⟨rfl, rfl⟩
  go_wp2_with (fail)
  refine (f39n _ _ _).mono ?_
  rintro e wx ⟨rfl, rfl⟩
  go_wp2_with (fail)
  refine (f39n _ _ _).mono ?_
  rintro e wx ⟨rfl, rfl⟩
  go_wp2_with (fail)
  refine (f39n _ _ _).mono ?_
  rintro e wx ⟨rfl, rfl⟩
  go_wp2_with (fail)
  refine (f39n _ _ _).mono ?_
  rintro e wx ⟨rfl, rfl⟩
  go_wp2_with (fail)
  refine (f39n _ _ _).mono ?_
  rintro e wx ⟨rfl, rfl⟩
  go_wp2_with (fail)
  go_returns
  exact ⟨_, rfl, HO3.out, HB3.out⟩
set_option maxRecDepth 100000 in
set_option maxHeartbeats 4000000 in
theorem f28tt (w : World) : Calls Tryz.prog 28 #[optsV true true] w fun e w' => ∃ v, e = .returned v ∧ w'.ownsRow (w.heap.size + 1) 89 1 v (optsL true true).length (optsL true true) ∧ Below (w.heap.size) w w' := by
  obtain ⟨w1, hw1⟩ : ∃ x, x = (w.alloc (.cells #[.int .i64 1, .int .i64 1, .int .i64 0, .int .i64 0, .int .i64 0, .int .i64 0, .int .i64 0, .int .i64 0, .int .i64 0, .int .i64 0, .int .i64 0, .bool false, .string ⟨#[]⟩, .bool false, .string ⟨#[]⟩] 27)).alloc (.cells #[] 89) := ⟨_, rfl⟩
  have hb0 : w1.heap[w.heap.size]? = some (.cells #[.int .i64 1, .int .i64 1, .int .i64 0, .int .i64 0, .int .i64 0, .int .i64 0, .int .i64 0, .int .i64 0, .int .i64 0, .int .i64 0, .int .i64 0, .bool false, .string ⟨#[]⟩, .bool false, .string ⟨#[]⟩] 27 (0, 0)) := by rw [hw1, heap_alloc_old _ _ (by simp)]; exact heap_alloc_new w _
  have hs1 : w1.heap.size = w.heap.size + 2 := by rw [hw1]; simp
  have HB1 := Lib.hid (show Below w.heap.size w w1 by rw [hw1]; exact below_alloc (below_alloc (Below.refl _ _) _) _)
  have HO1 := Lib.hid (show w1.ownsRow (w.heap.size + 1) 89 1 (.slice (some ⟨w.heap.size + 1, 0, none⟩) 0 0) 0 [] from ⟨rfl, .inr ⟨w.heap.size + 1, 0, #[], rfl, Nat.le_refl _, by rw [hw1]; have := heap_alloc_new (w.alloc (.cells #[.int .i64 1, .int .i64 1, .int .i64 0, .int .i64 0, .int .i64 0, .int .i64 0, .int .i64 0, .int .i64 0, .int .i64 0, .int .i64 0, .int .i64 0, .bool false, .string ⟨#[]⟩, .bool false, .string ⟨#[]⟩] 27)) (.cells #[] 89); rw [World.size_alloc] at this; exact this, Nat.le_refl _, by simp only [maxLen]; omega, rfl, rfl⟩⟩)
  have HK := Lib.hid hb0
  clear hb0
  unfold optsV
  go_enter Tryz.func28, Tryz.ntmps28
  go_wp2_with (fail)
  rw [← hw1]
  clear hw1
  refine (f39d (w.heap.size + 1) _ _ _ w1 HO1.out (by omega) (by omega)).mono ?_
  rintro e w2 ⟨v2, rfl, ho2, hb2⟩
  have HO2 := Lib.hid ho2
  have HK2 := Lib.hid ((hb2.block w.heap.size (by omega)).trans HK.out)
  have hs2 : w1.heap.size ≤ w2.heap.size := hb2.size
  have HB2 := Lib.hid (HB1.out.trans (hb2.mono (Nat.le_succ _)))
  clear ho2 hb2
  have a1 := (blk_cell HK2.out 1).trans (show _ = some (.int .i64 1) from rfl)
  go_wp2_with (fail)
  clear a1
  refine (f39i (w.heap.size + 1) _ _ _ w2 HO2.out (by omega) (by decide)).mono ?_
  rintro e w3 ⟨v3, rfl, ho3, hb3⟩
  have HO3 := Lib.hid ho3
  have HK3 := Lib.hid ((hb3.block w.heap.size (by omega)).trans HK2.out)
  have HB3 := Lib.hid (HB2.out.trans (hb3.mono (Nat.le_succ _)))
  clear ho3 hb3
  have a2 := (blk_cell HK3.out 2).trans (show _ = some (.int .i64 0) from rfl)
  have a3 := (blk_cell HK3.out 3).trans (show _ = some (.int .i64 0) from rfl)
  have a4 := (blk_cell HK3.out 4).trans (show _ = some (.int .i64 0) from rfl)
  have a5 := (blk_cell HK3.out 5).trans (show _ = some (.int .i64 0) from rfl)
  have a6 := (blk_cell HK3.out 6).trans (show _ = some (.int .i64 0) from rfl)
  have a7 := (blk_cell HK3.out 7).trans (show _ = some (.int .i64 0) from rfl)
  have a8 := (blk_cell HK3.out 8).trans (show _ = some (.int .i64 0) from rfl)
  have a9 := (blk_cell HK3.out 9).trans (show _ = some (.int .i64 0) from rfl)
  have a10 := (blk_cell HK3.out 10).trans (show _ = some (.int .i64 0) from rfl)
  have a11 := (blk_cell HK3.out 11).trans (show _ = some (.bool false) from rfl)
  have a13 := (blk_cell HK3.out 13).trans (show _ = some (.bool false) from rfl)
  go_wp2_with (fail)
  refine (f39n _ _ _).mono ?_
  rintro e wx ⟨rfl, rfl⟩
  go_wp2_with (fail)
  refine (f39n _ _ _).mono ?_
  rintro e wx ⟨rfl, rfl⟩
  go_wp2_with (fail)
  refine (f39n _ _ _).mono ?_
  rintro e wx ⟨rfl, rfl⟩
  go_wp2_with (fail)
  refine (f39n _ _ _).mono ?_
  rintro e wx ⟨rfl, rfl⟩
  go_wp2_with (fail)
  refine (f39n _ _ _).mono ?_
  rintro e wx ⟨rfl, rfl⟩
  go_wp2_with (fail)
  refine (f39n _ _ _).mono ?_
  rintro e wx ⟨rfl, rfl⟩
  go_wp2_with (fail)
  refine (f39n _ _ _).mono ?_
  rintro e wx ⟨rfl, rfl⟩
  go_wp2_with (fail)
  refine (f39n _ _ _).mono ?_
  rintro e wx ⟨rfl, rfl⟩
  go_wp2_with (fail)
  refine (f39n _ _ _).mono ?_
  rintro e wx ⟨rfl, rfl⟩
  go_wp2_with (fail)
  go_returns
  exact ⟨_, rfl, HO3.out, HB3.out⟩
theorem f28 (d i : Bool) (w : World) : Calls Tryz.prog 28 #[optsV d i] w fun e w' => ∃ v, e = .returned v ∧ w'.ownsRow (w.heap.size + 1) 89 1 v (optsL d i).length (optsL d i) ∧ Below (w.heap.size) w w' := by
  cases d <;> cases i
  · exact f28ff w
  · exact f28ft w
  · exact f28tf w
  · exact f28tt w
end Go.Proofs.YtjfbkgkpjkickaaGreatDoor.PAll
-- YtjfbkgkpjkickaaGreatDoorPb
set_option linter.unusedVariables false
set_option linter.unusedSimpArgs false
namespace Go.Proofs.YtjfbkgkpjkickaaGreatDoor.PAll
open Go.RowKit Go.Proofs.YtjfbkgkpjkickaaGreatDoorW.PrintWords Go.Proofs.YtjfbkgkpjkickaaGreatDoorW.PrintLast Go.Proofs.YtjfbkgkpjkickaaGreatDoorW.PrintMore

theorem strS0 (v : Bool) (b : Int) (t : List Int) : strS v 0 (b :: t) = if b = 34 then some 1 else if stepN v (b :: t) = 0 then none else (strS v (stepN v (b :: t) - 1) t).map (· + 1) := rfl
theorem strS0s (v : Bool) (b : Int) (t : List Int) (n : Nat) (hb : b ≠ 34) (hn : stepN v (b :: t) = n + 1) : strS v 0 (b :: t) = (strS v 0 (t.drop n)).map (· + (n + 1)) := by
  rw [strS0, if_neg hb, hn, if_neg (by omega), Nat.add_sub_cancel, strS_skip]
  cases strS v 0 (t.drop n) with
  | none => rfl
  | some x => simp only [Option.map_some]; congr 1
theorem strS0n (v : Bool) (b : Int) (t : List Int) (hb : b ≠ 34) (hn : stepN v (b :: t) = 0) : strS v 0 (b :: t) = none := by
  rw [strS0, if_neg hb, hn, if_pos rfl]
theorem rd_cons0 (b : Int) (t : List Int) : rd (b :: t) 0 = b := rfl
theorem rd_cons1 (b c : Int) (t : List Int) : rd (b :: c :: t) 1 = c := rfl
/-- a text between quotation marks -/
theorem strEnd_quoted (v : Bool) (l : List Int) : strEnd v (34 :: l) = (strS v 0 l).map (· + 1) := by
  unfold strEnd
  rw [if_pos ⟨by simp, rd_cons0 _ _⟩]
  rfl
/-- the walk of the law: printed ASCII alone -/
def lw : Bool → List Int → Option Bool
  | f, [] => some f
  | f, [c] => if c < 32 ∨ 126 < c then none else if c = 92 then some false else some (f && decide (c ≠ 34))
  | f, c :: d :: t => if c < 32 ∨ 126 < c ∨ (c = 92 ∧ d = 117) then none else if c = 92 then lw (f && decide (isEsc d)) t else lw (f && decide (c ≠ 34)) (d :: t)
/-- where the text ends -/
theorem lw_iff : ∀ (m : Nat) (l : List Int) (f r : Bool), l.length ≤ m → lw f l = some r → (r = true ↔ f = true ∧ strS true 0 (l ++ [34]) = some (l.length + 1))
  | _, [], f, r, _, h => by
    injection h with h
    rw [← h]
    have : strS true 0 ([] ++ [34]) = some ([] : List Int).length.succ := rfl
    rw [this]
    simp
  | 0, c :: t, f, r, hl, h => absurd hl (by simp)
  | m + 1, [c], f, r, hl, h => by
    unfold lw at h
    split at h
    · cases h
    · rename_i hc
      by_cases h92 : c = 92
      · rw [if_pos h92] at h
        injection h with h
        rw [← h]
        refine ⟨fun h => absurd h (by decide), fun ⟨_, h⟩ => ?_⟩
        subst h92
        have hs : stepN true ([92] ++ [34] : List Int) = 1 + 1 := by
          rw [stepN_esc _ _ rfl]
          unfold escN
          rw [if_neg (by decide), if_pos (by decide)]
        have := strS0s true 92 [34] 1 (by decide) hs
        rw [show ([92] ++ [34] : List Int) = 92 :: [34] from rfl, this] at h
        cases h
      · rw [if_neg h92] at h
        injection h with h
        by_cases h34 : c = 34
        · rw [← h, h34]
          refine ⟨fun h => absurd h (by simp), fun ⟨_, h⟩ => ?_⟩
          rw [show ([34] ++ [34] : List Int) = 34 :: [34] from rfl, strS0, if_pos rfl] at h
          cases h
        · have hs : stepN true (c :: [34]) = 0 + 1 := stepN_ascii _ _ h92 (by rw [rd_cons0]; omega) (by rw [rd_cons0]; omega)
          rw [← h, show ([c] ++ [34] : List Int) = c :: [34] from rfl, strS0s true c [34] 0 h34 hs, decide_eq_true h34]
          have : strS true 0 (List.drop 0 ([34] : List Int)) = some 1 := rfl
          rw [this]
          simp
  | m + 1, c :: d :: t, f, r, hl, h => by
    have hl' : t.length + 1 ≤ m := by simpa using hl
    unfold lw at h
    split at h
    · cases h
    · rename_i hc
      by_cases h92 : c = 92
      · rw [if_pos h92] at h
        subst h92
        by_cases he : isEsc d
        · rw [decide_eq_true he, Bool.and_true] at h
          have ih := lw_iff m t f r (by omega) h
          have hs : stepN true (92 :: d :: (t ++ [34])) = 1 + 1 := by
            rw [stepN_esc _ _ rfl]
            unfold escN
            rw [if_neg (by simp), rd_cons1, if_pos he]
          rw [show ((92 :: d :: t) ++ [34] : List Int) = 92 :: d :: (t ++ [34]) from rfl, strS0s true 92 _ 1 (by decide) hs, ih]
          rw [show (d :: (t ++ [34])).drop 1 = t ++ [34] from rfl]
          cases hx : strS true 0 (t ++ [34]) with
          | none => simp
          | some x => simp
        · rw [decide_eq_false he, Bool.and_false] at h
          have ih := lw_iff m t false r (by omega) h
          have hs : stepN true (92 :: d :: (t ++ [34])) = 0 := by
            rw [stepN_esc _ _ rfl]
            unfold escN
            rw [if_neg (by simp), rd_cons1, if_neg he, if_neg (by omega)]
          rw [show ((92 :: d :: t) ++ [34] : List Int) = 92 :: d :: (t ++ [34]) from rfl, strS0n true 92 _ (by decide) hs, ih]
          simp
      · rw [if_neg h92] at h
        by_cases h34 : c = 34
        · rw [decide_eq_false (by simp [h34]), Bool.and_false] at h
          have ih := lw_iff m (d :: t) false r (by simpa using hl') h
          rw [ih, h34, show ((34 :: d :: t) ++ [34] : List Int) = 34 :: (d :: t ++ [34]) from rfl, strS0, if_pos rfl]
          simp
        · rw [decide_eq_true h34, Bool.and_true] at h
          have ih := lw_iff m (d :: t) f r (by simpa using hl') h
          have hs : stepN true (c :: (d :: t ++ [34])) = 0 + 1 := stepN_ascii _ _ h92 (by rw [rd_cons0]; omega) (by rw [rd_cons0]; omega)
          rw [ih, show ((c :: d :: t) ++ [34] : List Int) = c :: (d :: t ++ [34]) from rfl, strS0s true c _ 0 h34 hs, List.drop_zero]
          cases hx : strS true 0 (d :: t ++ [34]) with
          | none => simp
          | some x => simp
/-- an end lies within the text -/
theorem strS_le (v : Bool) : ∀ (k : Nat) (l : List Int) (n : Nat), strS v k l = some n → n ≤ l.length := by
  intro k l
  induction l generalizing k with
  | nil => intro n h; cases k <;> cases h
  | cons b t ih =>
    intro n h
    cases k with
    | succ k =>
      have h : (strS v k t).map (· + 1) = some n := h
      obtain ⟨x, hx, rfl⟩ := Option.map_eq_some_iff.1 h
      have := ih k x hx
      simp
      omega
    | zero =>
      rw [strS0] at h
      split at h
      · injection h with h; simp; omega
      · split at h
        · cases h
        · obtain ⟨x, hx, rfl⟩ := Option.map_eq_some_iff.1 h
          have := ih _ x hx
          simp
          omega
/-- white space to the end -/
theorem wsN_all (l : List Int) (h : wsN l = l.length) : ∀ b ∈ l, isW b = true := by
  induction l with
  | nil => intro b hb; cases hb
  | cons c t ih =>
    unfold wsN at h
    split at h
    · rename_i hc
      intro b hb
      rcases List.mem_cons.1 hb with rfl | hb
      · exact hc
      · exact ih (by simpa using h) b hb
    · simp at h
theorem wsN_none (l : List Int) (h : ∀ b ∈ l, isW b = false) : wsN l = 0 := by
  cases l with
  | nil => rfl
  | cons c t => unfold wsN; rw [h c (List.mem_cons_self ..)]; rfl
/-- what a text must be to be a value: a scalar between white space -/
def Valid (E : List Int → Option Nat) (t : List Int) : Prop := ∃ n, wsN t < t.length ∧ E (t.drop (wsN t)) = some n ∧ wsN t + n + wsN (t.drop (wsN t + n)) = t.length
/-- without white space -/
theorem valid_nows (E : List Int → Option Nat) (t : List Int) (hw : ∀ b ∈ t, isW b = false) (h0 : t ≠ []) (hle : ∀ n, E t = some n → n ≤ t.length) : Valid E t ↔ E t = some t.length := by
  have e0 := wsN_none t hw
  unfold Valid
  rw [e0, List.drop_zero]
  simp only [Nat.zero_add]
  have hp : 0 < t.length := List.length_pos_iff.2 h0
  constructor
  · rintro ⟨n, _, h1, h2⟩
    rw [wsN_none (t.drop n) (fun b hb => hw b (List.mem_of_mem_drop hb))] at h2
    rw [h1]
    congr 1
  · intro h
    exact ⟨_, hp, h, by rw [List.drop_length]; rfl⟩
/-- a text between quotation marks -/
theorem valid_quoted (v : Bool) (E : List Int → Option Nat) (l : List Int) (hE : E (34 :: (l ++ [34])) = strEnd v (34 :: (l ++ [34]))) :
    Valid E (34 :: (l ++ [34])) ↔ strS v 0 (l ++ [34]) = some (l.length + 1) := by
  have e0 : wsN (34 :: (l ++ [34])) = 0 := by unfold wsN; rw [if_neg (by decide)]
  unfold Valid
  rw [e0, List.drop_zero, hE, strEnd_quoted]
  simp only [Nat.zero_add]
  constructor
  · rintro ⟨n, _, h1, h2⟩
    obtain ⟨x, hx, rfl⟩ := Option.map_eq_some_iff.1 h1
    have hle := strS_le v 0 _ x hx
    rw [List.length_append, List.length_singleton] at hle
    by_cases he : x = l.length + 1
    · rw [hx, he]
    · exfalso
      have hr : (34 :: (l ++ [34])).drop (x + 1) = l.drop x ++ [34] := by
        rw [List.drop_succ_cons, List.drop_append_of_le_length (by omega)]
      rw [hr] at h2
      have := wsN_all (l.drop x ++ [34]) (by simp at h2 ⊢; omega) 34 (by simp)
      cases this
  · intro h
    refine ⟨l.length + 1 + 1, by simp, by rw [h]; rfl, ?_⟩
    rw [List.drop_of_length_le (by simp)]
    simp [wsN]
/-- true exactly if the text is a value -/
def IsV (P : Prop) (w : World) (e : Ending) (w' : World) : Prop := ∃ r : Bool, e = .returned (.bool r) ∧ (r = true ↔ P) ∧ Below w.heap.size w w'
end Go.Proofs.YtjfbkgkpjkickaaGreatDoor.PAll
-- YtjfbkgkpjkickaaGreatDoorPAllx151
namespace Go.Proofs.YtjfbkgkpjkickaaGreatDoor.PAll
open Go.RowKit Go.Proofs.YtjfbkgkpjkickaaGreatDoorW.PrintWords Go.Proofs.YtjfbkgkpjkickaaGreatDoorW.PrintLast Go.Proofs.YtjfbkgkpjkickaaGreatDoorW.PrintMore
attribute [local go_sem] max2_int min2_int max_two min_two max_three min_three max_four min_four   -- for this text's walks alone
set_option linter.unusedVariables false
set_option linter.unusedSimpArgs false

def laws_fits8.l0 : Nat → List ByteArray → Int → Int → Option (Bool)
  | 0, _, _, _ => none
  | k + 1, x5, x6, x7 => if x7 < x6 then (if 0 ≤ x7 then (if x7 < (x5.length : Int) then (if ((rdOf ByteArray.empty x5 x7).size : Int) > 1000 then (some false) else (laws_fits8.l0 k x5 x6 (wrap64 (x7 + 1)))) else (none)) else (none)) else (some true)
def laws_fits8.f (k : Nat) (l0 : List ByteArray) : Option (Bool) := laws_fits8.l0 k l0 (l0.length : Int) 0
set_option maxHeartbeats 8000000 in
set_option maxRecDepth 100000 in
theorem laws_fits8.calls (k : Nat) (A0 : Option Addr) (c0 : Nat) (l0 : List ByteArray) (r : Bool) (w : World) (hr0 : Kd.C Kd.string w A0 l0.length l0) (hc0 : l0.length ≤ c0) (h : laws_fits8.f k l0 = some r) :
    Calls Tryz.prog 20 #[.slice A0 l0.length c0] w fun e w' => e = .returned (.bool r) ∧ Drawn0 w w' := by
  have HR0 := Aside0.mk hr0
  have HC0 := Aside0.mk hc0
  clear hr0 hc0
  have H : (laws_fits8.l0 k l0 (l0.length : Int) 0) = some r := h
  clear h
  have H' := Aside0.mk H
  clear H
  go_enter Tryz.func20, Tryz.ntmps20
  go_wp2
  go_loopg [7] k (fun kq v7 w' => ∃ (x7_1 : Int), v7 = .int .i64 x7_1 ∧ Aside0 (laws_fits8.l0 kq l0 (l0.length : Int) x7_1 = some r) ∧ Aside0 (kq ≤ k) ∧ Drawn0 w w')
  case atStart => exact ⟨(0), (by first | rfl | (simp; done) | (simp [*]; done)), H', ⟨Nat.le_refl _⟩, by repeat (first | exact Drawn0.refl _ | apply Drawn0.step)⟩
  case round =>
    clear H'
    obtain ⟨x7_1, rfl, HA, HK1, ⟨m1, rfl⟩⟩ := hrel
    cases gk with
    | zero => exact absurd HA.out (by simp [laws_fits8.l0])
    | succ k1 =>
      have H := HA.out
      clear HA
      simp only [laws_fits8.l0] at H
      by_cases c2 : x7_1 < (l0.length : Int)
      · rw [if_pos c2] at H
        have c2b0 : decide (x7_1 < (l0.length : Int)) = true := decide_eq_true c2
        clear c2
        by_cases c3 : 0 ≤ x7_1
        · rw [if_pos c3] at H
          have c3b0 : decide (0 ≤ x7_1) = true := decide_eq_true c3
          clear c3
          by_cases c4 : x7_1 < (l0.length : Int)
          · rw [if_pos c4] at H
            have c4b0 : decide (x7_1 < (l0.length : Int)) = true := decide_eq_true c4
            clear c4
            by_cases c5 : ((rdOf ByteArray.empty l0 x7_1).size : Int) > 1000
            · rw [if_pos c5] at H
              have c5b0 : decide (1000 < ((rdOf ByteArray.empty l0 x7_1).size : Int)) = true := decide_eq_true c5
              have c5b1 : decide (1000 < (rdOf ByteArray.empty l0 x7_1).size) = true := decide_eq_true (by omega)
              clear c5
              obtain rfl := Option.some.inj H
              have p259 : 0 ≤ (x7_1 : Int) := of_decide_eq_true (by first | (with_reducible assumption) | assumption)
              have q259 : x7_1 < (l0.length : Int) := of_decide_eq_true (by first | (with_reducible assumption) | assumption)
              obtain ⟨ad259, e259, hx259_0⟩ := Kd.at_string HR0.out x7_1 p259 q259
              cases e259
              replace p259 := eq_true p259
              replace q259 := eq_true q259
              go_wp2
              go_ret
              exact ⟨by first | rfl | (simp; done) | (simp [*]; done), by repeat (first | exact Drawn0.refl _ | apply Drawn0.step)⟩
            · rw [if_neg c5] at H
              have c5b0 : decide (1000 < ((rdOf ByteArray.empty l0 x7_1).size : Int)) = false := decide_eq_false c5
              have c5b1 : decide (1000 < (rdOf ByteArray.empty l0 x7_1).size) = false := decide_eq_false (by omega)
              clear c5
              have H' := Aside0.mk H
              clear H
              have p259 : 0 ≤ (x7_1 : Int) := of_decide_eq_true (by first | (with_reducible assumption) | assumption)
              have q259 : x7_1 < (l0.length : Int) := of_decide_eq_true (by first | (with_reducible assumption) | assumption)
              obtain ⟨ad259, e259, hx259_0⟩ := Kd.at_string HR0.out x7_1 p259 q259
              cases e259
              replace p259 := eq_true p259
              replace q259 := eq_true q259
              go_wp2
              go_roundg k1
              case measure => have := HK1.out; omega
              case rel => exact ⟨(wrap64 (x7_1 + 1)), (by first | rfl | (simp; done) | (simp [*]; done)), H', ⟨by have := HK1.out; omega⟩, by repeat (first | exact Drawn0.refl _ | apply Drawn0.step)⟩
          · rw [if_neg c4] at H
            exact absurd H (by simp)
        · rw [if_neg c3] at H
          exact absurd H (by simp)
      · rw [if_neg c2] at H
        have c2b0 : decide (x7_1 < (l0.length : Int)) = false := decide_eq_false c2
        clear c2
        obtain rfl := Option.some.inj H
        go_wp2
        go_ret
        exact ⟨by first | rfl | (simp; done) | (simp [*]; done), by repeat (first | exact Drawn0.refl _ | apply Drawn0.step)⟩

end Go.Proofs.YtjfbkgkpjkickaaGreatDoor.PAll
-- YtjfbkgkpjkickaaGreatDoorPAllx164
namespace Go.Proofs.YtjfbkgkpjkickaaGreatDoor.PAll
open Go.RowKit Go.Proofs.YtjfbkgkpjkickaaGreatDoorW.PrintWords Go.Proofs.YtjfbkgkpjkickaaGreatDoorW.PrintLast Go.Proofs.YtjfbkgkpjkickaaGreatDoorW.PrintMore
attribute [local go_sem] max2_int min2_int max_two min_two max_three min_three max_four min_four   -- for this text's walks alone
set_option linter.unusedVariables false
set_option linter.unusedSimpArgs false

mutual
def laws_every8.l0 : Nat → ByteArray → ByteArray → Int → Int → Option (Bool)
  | 0, _, _, _, _ => none
  | k + 1, x0, x1, x9, x10 => if x10 < x9 then (laws_every8.l1 k x0 x1 x10 false x9 x10 (x1.size : Int) 0) else (some true)
def laws_every8.l1 : Nat → ByteArray → ByteArray → Int → Bool → Int → Int → Int → Int → Option (Bool)
  | 0, _, _, _, _, _, _, _, _ => none
  | k + 1, x0, x1, x5, x6, x9, x10, x14, x15 => if x15 < x14 then (if x6 = true then (laws_every8.l1 k x0 x1 x5 true x9 x10 x14 (wrap64 (x15 + 1))) else (if 0 ≤ x5 then (if x5 < (x0.size : Int) then (if 0 ≤ x15 then (if x15 < (x1.size : Int) then (laws_every8.l1 k x0 x1 x5 ((bt x0 x5) == (bt x1 x15)) x9 x10 x14 (wrap64 (x15 + 1))) else (none)) else (none)) else (none)) else (none))) else (if x6 = true then (laws_every8.l0 k x0 x1 x9 (wrap64 (x10 + 1))) else (some false))
end
def laws_every8.f (k : Nat) (a0 : ByteArray) (a1 : ByteArray) : Option (Bool) := laws_every8.l0 k a0 a1 (a0.size : Int) 0
set_option maxHeartbeats 8000000 in
set_option maxRecDepth 100000 in
theorem laws_every8.calls (k : Nat) (a0 : ByteArray) (a1 : ByteArray) (r : Bool) (w : World) (h : laws_every8.f k a0 a1 = some r) :
    Calls Tryz.prog 22 #[.string a0, .string a1] w fun e w' => e = .returned (.bool r) ∧ Drawn0 w w' := by
  have H : (laws_every8.l0 k a0 a1 (a0.size : Int) 0) = some r := h
  clear h
  have H' := Aside0.mk H
  clear H
  go_enter Tryz.func22, Tryz.ntmps22
  go_wp2
  repeat (go_quiet (fail); try go_wp2)
  go_loopg [10] k (fun kq v10 w' => ∃ (x10_1 : Int), v10 = .int .i64 x10_1 ∧ Aside0 (laws_every8.l0 kq a0 a1 (a0.size : Int) x10_1 = some r) ∧ Aside0 (kq ≤ k) ∧ Drawn0 w w')
  case atStart => exact ⟨(0), (by first | rfl | (simp; done) | (simp [*]; done)), H', ⟨Nat.le_refl _⟩, by repeat (first | exact Drawn0.refl _ | apply Drawn0.step)⟩
  case round =>
    clear H'
    try clear c2
    try clear p2
    obtain ⟨x10_1, rfl, HA, HK1, ⟨m1, rfl⟩⟩ := hrel
    cases gk with
    | zero => exact absurd HA.out (by simp [laws_every8.l0])
    | succ k1 =>
      have H := HA.out
      clear HA
      simp only [laws_every8.l0] at H
      by_cases c3 : x10_1 < (a0.size : Int)
      · rw [if_pos c3] at H
        have c3b0 : decide (x10_1 < (a0.size : Int)) = true := decide_eq_true c3
        clear c3
        have H' := Aside0.mk H
        clear H
        go_wp2
        repeat (go_quiet (fail); try go_wp2)
        go_loopg [6, 15] k1 (fun kq v6 v15 w' => ∃ (x6_2 : Bool) (x15_2 : Int), v6 = .bool x6_2 ∧ v15 = .int .i64 x15_2 ∧ Aside0 (laws_every8.l1 kq a0 a1 x10_1 x6_2 (a0.size : Int) x10_1 (a1.size : Int) x15_2 = some r) ∧ Aside0 (kq ≤ k1) ∧ Drawn0 w w')
        case atStart => exact ⟨(false), (0), (by first | rfl | (simp; done) | (simp [*]; done)), (by first | rfl | (simp; done) | (simp [*]; done)), H', ⟨Nat.le_refl _⟩, by repeat (first | exact Drawn0.refl _ | apply Drawn0.step)⟩
        case round =>
          clear H'
          try clear c2
          try clear p2
          try clear c3
          try clear c3b0
          try clear p2
          obtain ⟨x6_2, x15_2, rfl, rfl, HA, HK2, ⟨m2, rfl⟩⟩ := hrel
          cases gk with
          | zero => exact absurd HA.out (by simp [laws_every8.l1])
          | succ k2 =>
            have H := HA.out
            clear HA
            simp only [laws_every8.l1] at H
            by_cases c4 : x15_2 < (a1.size : Int)
            · rw [if_pos c4] at H
              have c4b0 : decide (x15_2 < (a1.size : Int)) = true := decide_eq_true c4
              clear c4
              by_cases c5 : x6_2 = true
              · subst c5
                have H1 : (laws_every8.l1 k2 a0 a1 x10_1 true (a0.size : Int) x10_1 (a1.size : Int) (wrap64 (x15_2 + 1))) = some r := by rw [if_pos rfl] at H; exact H
                clear H
                have H := H1
                clear H1
                have H' := Aside0.mk H
                clear H
                go_wp2
                repeat (go_quiet (fail); try go_wp2)
                go_roundg k2
                case measure => have := HK1.out; have := HK2.out; omega
                case rel => exact ⟨(true), (wrap64 (x15_2 + 1)), (by first | rfl | (simp; done) | (simp [*]; done)), (by first | rfl | (simp; done) | (simp [*]; done)), H', ⟨by have := HK1.out; have := HK2.out; omega⟩, by repeat (first | exact Drawn0.refl _ | apply Drawn0.step)⟩
              · replace c5 := Bool.eq_false_iff.mpr c5
                subst c5
                have H1 : (if 0 ≤ x10_1 then (if x10_1 < (a0.size : Int) then (if 0 ≤ x15_2 then (if x15_2 < (a1.size : Int) then (laws_every8.l1 k2 a0 a1 x10_1 ((bt a0 x10_1) == (bt a1 x15_2)) (a0.size : Int) x10_1 (a1.size : Int) (wrap64 (x15_2 + 1))) else (none)) else (none)) else (none)) else (none)) = some r := by rw [if_neg (show ¬ (false = true) by decide)] at H; exact H
                clear H
                have H := H1
                clear H1
                by_cases c6 : 0 ≤ x10_1
                · rw [if_pos c6] at H
                  have c6b0 : decide (0 ≤ x10_1) = true := decide_eq_true c6
                  clear c6
                  by_cases c7 : x10_1 < (a0.size : Int)
                  · rw [if_pos c7] at H
                    have c7b0 : decide (x10_1 < (a0.size : Int)) = true := decide_eq_true c7
                    clear c7
                    by_cases c9 : 0 ≤ x15_2
                    · rw [if_pos c9] at H
                      have c9b0 : decide (0 ≤ x15_2) = true := decide_eq_true c9
                      clear c9
                      by_cases c10 : x15_2 < (a1.size : Int)
                      · rw [if_pos c10] at H
                        have c10b0 : decide (x15_2 < (a1.size : Int)) = true := decide_eq_true c10
                        clear c10
                        have H' := Aside0.mk H
                        clear H
                        have p8 : 0 ≤ (x10_1 : Int) := of_decide_eq_true (by first | (with_reducible assumption) | assumption)
                        have q8 : x10_1 < (a0.size : Int) := of_decide_eq_true (by first | (with_reducible assumption) | assumption)
                        have hx8 := bt_at a0 x10_1
                        replace p8 := eq_true p8
                        replace q8 := eq_true q8
                        have p11 : 0 ≤ (x15_2 : Int) := of_decide_eq_true (by first | (with_reducible assumption) | assumption)
                        have q11 : x15_2 < (a1.size : Int) := of_decide_eq_true (by first | (with_reducible assumption) | assumption)
                        have hx11 := bt_at a1 x15_2
                        replace p11 := eq_true p11
                        replace q11 := eq_true q11
                        go_wp2
                        repeat (go_quiet (fail); try go_wp2)
                        go_roundg k2
                        case measure => have := HK1.out; have := HK2.out; omega
                        case rel => exact ⟨(((bt a0 x10_1) == (bt a1 x15_2))), (wrap64 (x15_2 + 1)), (by first | rfl | (simp; done) | (simp [*]; done)), (by first | rfl | (simp; done) | (simp [*]; done)), H', ⟨by have := HK1.out; have := HK2.out; omega⟩, by repeat (first | exact Drawn0.refl _ | apply Drawn0.step)⟩
                      · rw [if_neg c10] at H
                        exact absurd H (by simp)
                    · rw [if_neg c9] at H
                      exact absurd H (by simp)
                  · rw [if_neg c7] at H
                    exact absurd H (by simp)
                · rw [if_neg c6] at H
                  exact absurd H (by simp)
            · rw [if_neg c4] at H
              have c4b0 : decide (x15_2 < (a1.size : Int)) = false := decide_eq_false c4
              clear c4
              by_cases c12 : x6_2 = true
              · subst c12
                have H1 : (laws_every8.l0 k2 a0 a1 (a0.size : Int) (wrap64 (x10_1 + 1))) = some r := by rw [if_pos rfl] at H; exact H
                clear H
                have H := H1
                clear H1
                have H' := Aside0.mk H
                clear H
                go_wp2
                repeat (go_quiet (fail); try go_wp2)
                go_roundg k2
                case measure => have := HK1.out; have := HK2.out; omega
                case rel => exact ⟨(wrap64 (x10_1 + 1)), (by first | rfl | (simp; done) | (simp [*]; done)), H', ⟨by have := HK1.out; have := HK2.out; omega⟩, by repeat (first | exact Drawn0.refl _ | apply Drawn0.step)⟩
              · replace c12 := Bool.eq_false_iff.mpr c12
                subst c12
                have H1 : (some false) = some r := by rw [if_neg (show ¬ (false = true) by decide)] at H; exact H
                clear H
                have H := H1
                clear H1
                obtain rfl := Option.some.inj H
                go_wp2
                repeat (go_quiet (fail); try go_wp2)
                go_ret
                exact ⟨by first | rfl | (simp; done) | (simp [*]; done), by repeat (first | exact Drawn0.refl _ | apply Drawn0.step)⟩
      · rw [if_neg c3] at H
        have c3b0 : decide (x10_1 < (a0.size : Int)) = false := decide_eq_false c3
        clear c3
        obtain rfl := Option.some.inj H
        go_wp2
        repeat (go_quiet (fail); try go_wp2)
        go_ret
        exact ⟨by first | rfl | (simp; done) | (simp [*]; done), by repeat (first | exact Drawn0.refl _ | apply Drawn0.step)⟩

end Go.Proofs.YtjfbkgkpjkickaaGreatDoor.PAll
