/- FnStringToken: the law's walk. -/
import Derived.Test.YtokkjljncoiajaaDoorTy
import Derived.Test.YtokkjljncoiajaaDoorTza
set_option linter.unusedVariables false
set_option linter.unusedSimpArgs false
namespace Go.Proofs.YtokkjljncoiajaaDoor
open Go.RowKit
open PFnStringToken (laws_short10.calls spec_IsText.calls it_f sh_f)
open Go.Proofs.YtokkjljncoiajaaDoorW.PrintWords
theorem w11 (s : ByteArray) (w : World) (hk : w.cell? ⟨0, 34, none⟩ = some (.int .u8 34)) (he : w.cell? ⟨1, 34, none⟩ = some (.int .u8 1)) (h0 : 2 ≤ w.heap.size) :
    Calls Tryd.prog 11 #[.string s] w fun e w' => e = .returned (.tuple #[.int .i64 34, .string s]) ∧ Below w.heap.size w w' := by
  rcases Nat.eq_zero_or_pos s.size with h | h
  · have e : s = ⟨#[]⟩ := by
      obtain ⟨d⟩ := s
      rw [show d = #[] from Array.eq_empty_of_size_eq_zero h]
    rw [e]
    exact w11z w hk he h0
  · exact w11s s w h
theorem keep0 {w W : World} {b i : Nat} {v : Value} (h : w.cell? ⟨b, i, none⟩ = some v) (hb : Below w.heap.size w W) (hl : b < w.heap.size) : W.cell? ⟨b, i, none⟩ = some v := by
  have e1 : W.heap[b]? = w.heap[b]? := hb.block b hl
  simp only [World.cell?, e1] at h ⊢
  exact h
theorem row1 (s : ByteArray) (w : World) : Kd.C Kd.string (w.alloc (.cells #[.string s] 9)) (some ⟨w.heap.size, 0, none⟩) ([s] : List ByteArray).length [s] := by
  refine ⟨rfl, by simp, fun _ => ⟨_, rfl, fun j p hj => ?_⟩⟩
  obtain ⟨rfl, rfl⟩ : j = 0 ∧ p = s := by
    rcases j with _ | j
    · simp at hj; exact ⟨rfl, hj.symm⟩
    · simp at hj
  refine ⟨[.string p], rfl, rfl, fun i u hu => ?_⟩
  obtain ⟨rfl, rfl⟩ : i = 0 ∧ u = .string p := by
    rcases i with _ | i
    · simp at hu; exact ⟨rfl, hu.symm⟩
    · simp at hu
  have e : ((⟨w.heap.size, 0, none⟩ : Addr).add (0 * Kd.string.sz + 0)) = ⟨w.heap.size, 0, none⟩ := by
    show (⟨w.heap.size, 0, none⟩ : Addr).add (0 * 1 + 0) = _
    unfold Addr.add
    rfl
  rw [e]
  have hh : (w.alloc (.cells #[.string p] 9)).heap[w.heap.size]? = some (.cells #[.string p] 9 (0, 0)) := heap_alloc_new w _
  generalize w.alloc (.cells #[.string p] 9) = W at hh ⊢
  simp [World.cell?, hh]
set_option maxHeartbeats 1600000 in
set_option maxRecDepth 100000 in
theorem w4S (s : ByteArray) (w : World) (hk : w.cell? ⟨0, 34, none⟩ = some (.int .u8 34)) (he : w.cell? ⟨1, 34, none⟩ = some (.int .u8 1)) (h0 : 2 ≤ w.heap.size) :
    Calls Tryd.prog 4 #[.string s] w fun e w' => e = .returned (.bool true) ∧ Below w.heap.size w w' := by
  obtain ⟨k1, r1, hs⟩ := sh_f s
  obtain ⟨k2, r2, ht⟩ := it_f s
  have C11 : ∀ W, Below w.heap.size w W → Calls Tryd.prog 11 #[.string s] W fun e w' => e = .returned (.tuple #[.int .i64 34, .string s]) ∧ Below w.heap.size w w' := fun W hb =>
    (w11 s W (keep0 hk hb (by omega)) (keep0 he hb (by omega)) (Nat.le_trans h0 hb.size)).mono fun e w' ⟨q1, q2⟩ => ⟨q1, hb.trans (q2.mono hb.size)⟩
  have C10 := fun W => spec_IsText.calls k2 s r2 W ht
  have C9 := fun c W (hr : Kd.C Kd.string W (some ⟨w.heap.size, 0, none⟩) ([s] : List ByteArray).length [s]) (hc : ([s] : List ByteArray).length ≤ c) => laws_short10.calls k1 (some ⟨w.heap.size, 0, none⟩) c [s] r1 W hr hc hs
  have H11 := Lib.hid C11
  have H10 := Lib.hid C10
  have H9 := Lib.hid C9
  clear C11 C10 C9 hs ht hk he h0
  by_cases hz : (2147483647 : Int) < (s.size : Int)
  · have t0 : decide ((s.size : Int) > 2147483647) = true := decide_eq_true hz
    have t1 : decide ((2147483647 : Int) < (s.size : Int)) = true := decide_eq_true hz
    clear hz
    go_enter Tryd.func4, Tryd.ntmps4
    go_wp2_with (fail)
    go_ret
    exact ⟨rfl, Below.refl _ _⟩
  · have t0 : decide ((s.size : Int) > 2147483647) = false := decide_eq_false hz
    have t1 : decide ((2147483647 : Int) < (s.size : Int)) = false := decide_eq_false hz
    clear hz
    go_enter Tryd.func4, Tryd.ntmps4
    go_wp2_with (fail)
    have BA : Below w.heap.size w (w.alloc (.cells #[.string s] 9)) := (Below.refl w.heap.size w).alloc (Nat.le_refl _) _
    have HBA := Lib.hid BA
    refine (H9.out 1 _ (row1 s w) (by simp)).mono ?_
    rintro e w' ⟨rfl, ⟨n1, rfl⟩⟩
    cases r1 with
    | false =>
      go_wp2_with (fail)
      go_ret
      exact ⟨rfl, bdn HBA.out _⟩
    | true =>
      go_wp2_with (fail)
      refine (H10.out _).mono ?_
      rintro e w' ⟨rfl, ⟨n2, rfl⟩⟩
      cases r2 with
      | false =>
        go_wp2_with (fail)
        go_ret
        exact ⟨rfl, by first | exact bdn HBA.out _ | exact bdn (bdn HBA.out _) _⟩
      | true =>
        go_wp2_with (fail)
        refine (H11.out _ (by first | exact bdn HBA.out _ | exact bdn (bdn HBA.out _) _)).mono ?_
        rintro e w3 ⟨rfl, q⟩
        have Q := Lib.hid q
        clear q
        go_wp2_with (fail)
        go_ret
        exact ⟨rfl, Q.out⟩
end Go.Proofs.YtokkjljncoiajaaDoor
