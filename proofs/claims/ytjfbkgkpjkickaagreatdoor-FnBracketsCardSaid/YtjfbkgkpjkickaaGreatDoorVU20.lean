/- The texts of a proof, its declarations alone: part 20. -/
import Derived.Test.YtjfbkgkpjkickaaGreatDoorVU9
set_option linter.unusedVariables false
set_option linter.unusedSimpArgs false
-- YtjfbkgkpjkickaaGreatDoorCh
set_option linter.unusedVariables false
set_option linter.unusedSimpArgs false
namespace Go.Proofs.YtjfbkgkpjkickaaGreatDoor.PAll
open Go.RowKit Go.Proofs.YtjfbkgkpjkickaaGreatDoorW.PrintWords Go.Proofs.YtjfbkgkpjkickaaGreatDoorW.PrintLast Go.Proofs.YtjfbkgkpjkickaaGreatDoorW.PrintMore

/-- a row of options -/
def StAt (w : World) (S : Nat) (p v : Int) : Prop := w.heap[S]? = some (.cells #[.int .u64 p, .int .u64 v, .string ⟨#[]⟩, .string ⟨#[]⟩, .int .i64 0, .int .i64 0, .nilIface, .nilIface, .string ⟨#[]⟩] 133 (0, 0))
theorem StAt.set0 {w : World} {S : Nat} {p v : Int} (h : StAt w S p v) (x : Int) : StAt (w.setCell ⟨S, 0, none⟩ (.int .u64 x)) S x v := by
  unfold StAt at *
  rw [setCell_eq_setRow w S 0 _ 133 (0, 0) _ h]
  exact setRow_heap w S _ _ 133 (0, 0) h
theorem StAt.set1 {w : World} {S : Nat} {p v : Int} (h : StAt w S p v) (x : Int) : StAt (w.setCell ⟨S, 1, none⟩ (.int .u64 x)) S p x := by
  unfold StAt at *
  rw [setCell_eq_setRow w S 1 _ 133 (0, 0) _ h]
  exact setRow_heap w S _ _ 133 (0, 0) h
theorem StAt.cast {w : World} {S : Nat} {a b a' b' : Int} (h : StAt w S a b) (ha : a = a') (hb : b = b') : StAt w S a' b' := by subst ha hb; exact h
theorem StAt.bb {w w' : World} {S F : Nat} {p v : Int} (h : StAt w S p v) (hb : BB F w w') (hn : S ≠ F) : StAt w' S p v := by unfold StAt at *; rw [hb.block S (Array.getElem?_eq_some_iff.1 h).1 hn]; exact h
set_option maxRecDepth 100000 in
theorem f142 (S : Nat) (p v K p' v' : Int) (w : World) (hD : StAt w S p v) (h : (p, v, K, p', v') = (0, 0, 3, 2, 2) ∨ (p, v, K, p', v') = (0, 0, 5, 4, 4) ∨ (p, v, K, p', v') = (2, 2, 5, 6, 6)) : Calls Tryz.prog 142 #[.pointer (some ⟨S, 0, none⟩), .int .u64 K] w fun e w' => e = .returned (.tuple #[]) ∧ BB S w w' ∧ StAt w' S p' v' := by
  have c0 := (blk_cell hD 0).trans (show _ = some (.int .u64 p) from rfl)
  have c1 := (blk_cell hD 1).trans (show _ = some (.int .u64 v) from rfl)
  have z0 := blk_frozen hD 0
  have z1 := blk_frozen hD 1
  have HD := Lib.hid hD
  clear hD
  rcases h with h | h | h
  all_goals
    injection h with h1 h
    injection h with h2 h
    injection h with h3 h
    injection h with h4 h5
    subst h1 h2 h3 h4 h5
    go_enter Tryz.func142, Tryz.ntmps142
    go_wp2_with (fail)
    go_end0
    refine ⟨rfl, by repeat (first | (with_reducible exact BB.refl _ _) | (with_reducible refine BB.set ?_ _ _)), ?_⟩
    exact StAt.cast (((HD.out.set0 _).set1 _).set1 _) (by decide +kernel) (by decide +kernel)
/-- the flags of a row of options -/
def flagsOf (d i : Bool) : Int := (if d then 2 else 0) + (if i then 4 else 0)
theorem ta89 (K : Int) (w : World) : (Instr.typeAssert (optV K) 89 143 true).run Tryz.prog w = .ok (.tuple #[.int .u64 K, .bool true]) w := by kernel_rfl
/-- a list of options in memory -/
structure LsAt (w : World) (v : Value) (base : Nat) (xs : List Value) : Prop where
  val : ∃ A c, v = .slice A xs.length c ∧ ∀ j u, xs[j]? = some u → ∃ B, A = some ⟨B, 0, none⟩ ∧ base ≤ B ∧ w.cell? ⟨B, j, none⟩ = some u
theorem LsAt.of {w : World} {v : Value} {base : Nat} {xs : List Value} (h : w.ownsRow base 89 1 v xs.length xs) : LsAt w v base xs := by
  rcases h.2 with ⟨rfl, h0⟩ | ⟨g, cap, cur, rfl, hbg, hg, hnc, hcm, hcs, htake⟩
  · have : xs = [] := List.eq_nil_of_length_eq_zero (by simpa using h0)
    subst this
    exact ⟨none, 0, rfl, fun j u h => by simp at h⟩
  · refine ⟨some ⟨g, 0, none⟩, cap, rfl, fun j u hu => ⟨g, rfl, hbg, ?_⟩⟩
    rw [cell_of_row w g j cur 89 (0, 0) hg]
    rw [← htake, List.getElem?_take] at hu
    split at hu
    · simpa using hu
    · cases hu
theorem LsAt.mono {w w' : World} {v : Value} {base N : Nat} {xs : List Value} (h : LsAt w v base xs) (hb : Below w.heap.size w w') : LsAt w' v base xs := by
  obtain ⟨A, c, hv, hc⟩ := h.val
  exact ⟨A, c, hv, fun j u hu => by obtain ⟨B, h1, h2, h3⟩ := hc j u hu; exact ⟨B, h1, h2, pw_cell_below hb h3⟩⟩
theorem LsAt.bb {w w' : World} {v : Value} {base F : Nat} {xs : List Value} (h : LsAt w v base xs) (hb : BB F w w') (hF : ∀ A c, v = .slice (some ⟨F, A, none⟩) xs.length c → False) : LsAt w' v base xs := by
  obtain ⟨A, c, hv, hc⟩ := h.val
  exact ⟨A, c, hv, fun j u hu => by
    obtain ⟨B, h1, h2, h3⟩ := hc j u hu
    refine ⟨B, h1, h2, hb.cell h3 (fun e => ?_)⟩
    subst h1
    have e : B = F := e
    subst e
    exact hF 0 c hv⟩
set_option maxRecDepth 100000 in
set_option maxHeartbeats 4000000 in
theorem f84ff (S base : Nat) (v : Value) (w : World) (hS : StAt w S 0 0) (hl : LsAt w v base (optsL false false)) (hF : ∀ A c, v = .slice (some ⟨S, A, none⟩) (optsL false false).length c → False) : Calls Tryz.prog 84 #[.pointer (some ⟨S, 0, none⟩), v] w fun e w' => e = .returned (.tuple #[]) ∧ BB S w w' ∧ StAt w' S 0 0 := by
  obtain ⟨A, c, rfl, hc⟩ := hl.val
  have HS := Lib.hid hS
  clear hS hF hc hl
  simp only [optsL, List.length_nil, List.append_nil, Bool.false_eq_true, if_false]
  go_enter Tryz.func84, Tryz.ntmps84
  go_wp2_with (fail)
  go_loopg [17] 1 (fun kq v17 w' => v17 = .int .i64 0 ∧ w = w')
  case atStart => exact ⟨rfl, rfl⟩
  case round =>
    obtain ⟨rfl, rfl⟩ := hrel
    go_wp2_with (fail)
    go_end0
    exact ⟨rfl, BB.refl _ _, HS.out⟩
set_option maxRecDepth 100000 in
set_option maxHeartbeats 4000000 in
theorem f84ft (S base : Nat) (v : Value) (w : World) (hS : StAt w S 0 0) (hl : LsAt w v base (optsL false true)) (hF : ∀ A c, v = .slice (some ⟨S, A, none⟩) (optsL false true).length c → False) : Calls Tryz.prog 84 #[.pointer (some ⟨S, 0, none⟩), v] w fun e w' => e = .returned (.tuple #[]) ∧ BB S w w' ∧ StAt w' S 4 4 := by
  obtain ⟨A, c, rfl, hc⟩ := hl.val
  obtain ⟨B, rfl, _, c0⟩ := hc 0 (optV 5) rfl
  have hBS : B ≠ S := fun e => by subst e; exact hF 0 c rfl
  have HS := Lib.hid hS
  clear hS hF hc hl
  have tA : ∀ W, (Instr.typeAssert (.iface 143 (.int .u64 5)) 89 143 true).run Tryz.prog W = .ok (.tuple #[.int .u64 5, .bool true]) W := ta89 5
  replace c0 : w.cell? ⟨B, 0, none⟩ = some (.iface 143 (.int .u64 5)) := c0
  have hlen : (optsL false true).length = 1 := rfl
  rw [hlen]
  go_enter Tryz.func84, Tryz.ntmps84
  go_wp2_with (fail)
  go_loopg [17] 1 (fun kq v17 w' => (v17 = .int .i64 0 ∧ 1 ≤ kq + 0 ∧ Hid (BB S w w' ∧ StAt w' S 0 0)) ∨ (v17 = .int .i64 1 ∧ 1 ≤ kq + 1 ∧ Hid (BB S w w' ∧ StAt w' S 4 4)))
  case atStart => exact .inl ⟨rfl, by omega, Lib.hid ⟨BB.refl _ _, HS.out⟩⟩
  case round =>
    rcases hrel with ⟨rfl, hk, HB⟩ | ⟨rfl, hk, HB⟩
    · have d0 := HB.out.1.cell c0 (show B ≠ S from hBS)
      have C := Lib.hid (f142 S 0 0 5 4 4 wr HB.out.2 (by decide))
      go_wp2_with (fail)
      refine C.out.mono ?_
      rintro e w2 ⟨rfl, hb2, hs2⟩
      go_wp2_with (fail)
      go_roundg (gk - 1)
      case measure => omega
      case rel => exact .inr ⟨rfl, by omega, Lib.hid ⟨HB.out.1.trans hb2, hs2⟩⟩
    · go_wp2_with (fail)
      go_end0
      exact ⟨rfl, HB.out.1, HB.out.2⟩
set_option maxRecDepth 100000 in
set_option maxHeartbeats 4000000 in
theorem f84tf (S base : Nat) (v : Value) (w : World) (hS : StAt w S 0 0) (hl : LsAt w v base (optsL true false)) (hF : ∀ A c, v = .slice (some ⟨S, A, none⟩) (optsL true false).length c → False) : Calls Tryz.prog 84 #[.pointer (some ⟨S, 0, none⟩), v] w fun e w' => e = .returned (.tuple #[]) ∧ BB S w w' ∧ StAt w' S 2 2 := by
  obtain ⟨A, c, rfl, hc⟩ := hl.val
  obtain ⟨B, rfl, _, c0⟩ := hc 0 (optV 3) rfl
  have hBS : B ≠ S := fun e => by subst e; exact hF 0 c rfl
  have HS := Lib.hid hS
  clear hS hF hc hl
  have tA : ∀ W, (Instr.typeAssert (.iface 143 (.int .u64 3)) 89 143 true).run Tryz.prog W = .ok (.tuple #[.int .u64 3, .bool true]) W := ta89 3
  replace c0 : w.cell? ⟨B, 0, none⟩ = some (.iface 143 (.int .u64 3)) := c0
  have hlen : (optsL true false).length = 1 := rfl
  rw [hlen]
  go_enter Tryz.func84, Tryz.ntmps84
  go_wp2_with (fail)
  go_loopg [17] 1 (fun kq v17 w' => (v17 = .int .i64 0 ∧ 1 ≤ kq + 0 ∧ Hid (BB S w w' ∧ StAt w' S 0 0)) ∨ (v17 = .int .i64 1 ∧ 1 ≤ kq + 1 ∧ Hid (BB S w w' ∧ StAt w' S 2 2)))
  case atStart => exact .inl ⟨rfl, by omega, Lib.hid ⟨BB.refl _ _, HS.out⟩⟩
  case round =>
    rcases hrel with ⟨rfl, hk, HB⟩ | ⟨rfl, hk, HB⟩
    · have d0 := HB.out.1.cell c0 (show B ≠ S from hBS)
      have C := Lib.hid (f142 S 0 0 3 2 2 wr HB.out.2 (by decide))
      go_wp2_with (fail)
      refine C.out.mono ?_
      rintro e w2 ⟨rfl, hb2, hs2⟩
      go_wp2_with (fail)
      go_roundg (gk - 1)
      case measure => omega
      case rel => exact .inr ⟨rfl, by omega, Lib.hid ⟨HB.out.1.trans hb2, hs2⟩⟩
    · go_wp2_with (fail)
      go_end0
      exact ⟨rfl, HB.out.1, HB.out.2⟩
set_option maxRecDepth 100000 in
set_option maxHeartbeats 4000000 in
theorem f84tt (S base : Nat) (v : Value) (w : World) (hS : StAt w S 0 0) (hl : LsAt w v base (optsL true true)) (hF : ∀ A c, v = .slice (some ⟨S, A, none⟩) (optsL true true).length c → False) : Calls Tryz.prog 84 #[.pointer (some ⟨S, 0, none⟩), v] w fun e w' => e = .returned (.tuple #[]) ∧ BB S w w' ∧ StAt w' S 6 6 := by
  obtain ⟨A, c, rfl, hc⟩ := hl.val
  obtain ⟨B, rfl, _, c0⟩ := hc 0 (optV 3) rfl
  have hBS : B ≠ S := fun e => by subst e; exact hF 0 c rfl
  obtain ⟨B', hB', _, c1⟩ := hc 1 (optV 5) rfl
  obtain rfl : B = B' := by injection hB' with h; injection h
  have HS := Lib.hid hS
  clear hS hF hc hl
  have tA : ∀ W, (Instr.typeAssert (.iface 143 (.int .u64 3)) 89 143 true).run Tryz.prog W = .ok (.tuple #[.int .u64 3, .bool true]) W := ta89 3
  replace c0 : w.cell? ⟨B, 0, none⟩ = some (.iface 143 (.int .u64 3)) := c0
  have tA1 : ∀ W, (Instr.typeAssert (.iface 143 (.int .u64 5)) 89 143 true).run Tryz.prog W = .ok (.tuple #[.int .u64 5, .bool true]) W := ta89 5
  replace c1 : w.cell? ⟨B, 1, none⟩ = some (.iface 143 (.int .u64 5)) := c1
  have hlen : (optsL true true).length = 2 := rfl
  rw [hlen]
  go_enter Tryz.func84, Tryz.ntmps84
  go_wp2_with (fail)
  go_loopg [17] 2 (fun kq v17 w' => (v17 = .int .i64 0 ∧ 2 ≤ kq + 0 ∧ Hid (BB S w w' ∧ StAt w' S 0 0)) ∨ (v17 = .int .i64 1 ∧ 2 ≤ kq + 1 ∧ Hid (BB S w w' ∧ StAt w' S 2 2)) ∨ (v17 = .int .i64 2 ∧ 2 ≤ kq + 2 ∧ Hid (BB S w w' ∧ StAt w' S 6 6)))
  case atStart => exact .inl ⟨rfl, by omega, Lib.hid ⟨BB.refl _ _, HS.out⟩⟩
  case round =>
    rcases hrel with ⟨rfl, hk, HB⟩ | ⟨rfl, hk, HB⟩ | ⟨rfl, hk, HB⟩
    · have d0 := HB.out.1.cell c0 (show B ≠ S from hBS)
      have C := Lib.hid (f142 S 0 0 3 2 2 wr HB.out.2 (by decide))
      go_wp2_with (fail)
      refine C.out.mono ?_
      rintro e w2 ⟨rfl, hb2, hs2⟩
      go_wp2_with (fail)
      go_roundg (gk - 1)
      case measure => omega
      case rel => exact .inr (.inl ⟨rfl, by omega, Lib.hid ⟨HB.out.1.trans hb2, hs2⟩⟩)
    · have d1 := HB.out.1.cell c1 (show B ≠ S from hBS)
      have C := Lib.hid (f142 S 2 2 5 6 6 wr HB.out.2 (by decide))
      go_wp2_with (fail)
      refine C.out.mono ?_
      rintro e w2 ⟨rfl, hb2, hs2⟩
      go_wp2_with (fail)
      go_roundg (gk - 1)
      case measure => omega
      case rel => exact .inr (.inr ⟨rfl, by omega, Lib.hid ⟨HB.out.1.trans hb2, hs2⟩⟩)
    · go_wp2_with (fail)
      go_end0
      exact ⟨rfl, HB.out.1, HB.out.2⟩
theorem f84 (d i : Bool) (S base : Nat) (v : Value) (w : World) (hS : StAt w S 0 0) (hl : LsAt w v base (optsL d i)) (hF : ∀ A c, v = .slice (some ⟨S, A, none⟩) (optsL d i).length c → False) : Calls Tryz.prog 84 #[.pointer (some ⟨S, 0, none⟩), v] w fun e w' => e = .returned (.tuple #[]) ∧ BB S w w' ∧ StAt w' S (flagsOf d i) (flagsOf d i) := by
  cases d <;> cases i
  · exact f84ff S base v w hS hl hF
  · exact f84ft S base v w hS hl hF
  · exact f84tf S base v w hS hl hF
  · exact f84tt S base v w hS hl hF
end Go.Proofs.YtjfbkgkpjkickaaGreatDoor.PAll
