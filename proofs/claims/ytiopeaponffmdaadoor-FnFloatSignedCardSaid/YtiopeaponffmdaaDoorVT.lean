/- FnFloatSigned, the tied card: the law returns true, whatever the input. Conditions: the listed package-level variables hold what the program's text lays in them (the card ties them). -/
import Derived.Laws.BitsAllLaws
import Derived.Lib.Strings
import Derived.WalkLawsBesides
import Derived.Handy
import Derived.Test.YtiopeaponffmdaaDoorRows
import Derived.ProofKit
import Derived.Lay
import Derived.OpenVars
import Derived.LaidHandle
import Derived.MakeChecks
import Derived.Lib.LaidU8
import Derived.Lib.LaidTab
import Derived.Stop.Joined
import Derived.Test.YtiopeaponffmdaaDoorCards
import Derived.Test.YtiopeaponffmdaaDoorTie
import Derived.SevenTiedAt
import Derived.Test.YtiopeaponffmdaaDoorVT2
set_option linter.unusedVariables false
set_option linter.unusedSimpArgs false
-- YtiopeaponffmdaaDoorNa
namespace Go.Proofs.YtiopeaponffmdaaDoor.PAll
open Go.RowKit Go.Proofs.YtiopeaponffmdaaDoorW.PrintWords Go.Proofs.YtiopeaponffmdaaDoorW.PrintLast Go.Proofs.YtiopeaponffmdaaDoorW.PrintMore

/-- answers r, whenever the fuel is great enough -/
def Ev {α : Type} (g : Nat → Option α) (r : α) : Prop := ∃ K, ∀ k, K ≤ k → g k = some r
theorem Ev.bind {α β : Type} {g : Nat → Option α} {h : Nat → α → Option β} {a : α} {b : β} (h1 : Ev g a) (h2 : Ev (fun k => h k a) b) : Ev (fun k => (g k).bind fun t => h k t) b := by
  obtain ⟨K1, h1⟩ := h1
  obtain ⟨K2, h2⟩ := h2
  refine ⟨K1 + K2, fun k hk => ?_⟩
  have e1 := h1 k (by omega)
  have e2 := h2 k (by omega)
  simp only [e1, Option.bind_some]
  exact e2
theorem Ev.congr {α : Type} {g f : Nat → Option α} {r : α} (h : Ev g r) (e : ∀ k, f k = g k) : Ev f r := by
  obtain ⟨K, h⟩ := h
  exact ⟨K, fun k hk => by rw [e]; exact h k hk⟩

end Go.Proofs.YtiopeaponffmdaaDoor.PAll
-- YtiopeaponffmdaaDoorNb2
namespace Go.Proofs.YtiopeaponffmdaaDoor.PAll
open Go.RowKit Go.Proofs.YtiopeaponffmdaaDoorW.PrintWords Go.Proofs.YtiopeaponffmdaaDoorW.PrintLast Go.Proofs.YtiopeaponffmdaaDoorW.PrintMore

theorem strOfNums_bytesOf (s : ByteArray) : strOfNums (bytesOf s) = s := by
  have e : (strOfNums (bytesOf s)).data.toList = s.data.toList := by
    rw [strOfNums_data, bytesOf, List.map_map]
    conv => rhs; rw [← List.map_id s.data.toList]
    refine List.map_congr_left fun x _ => ?_
    simp
  cases s with
  | mk a =>
    simp only at e
    have := Array.toList_inj.1 e
    exact congrArg ByteArray.mk this
end Go.Proofs.YtiopeaponffmdaaDoor.PAll
-- YtiopeaponffmdaaDoorNd
namespace Go.Proofs.YtiopeaponffmdaaDoor.PAll
open Go.RowKit Go.Proofs.YtiopeaponffmdaaDoorW.PrintWords Go.Proofs.YtiopeaponffmdaaDoorW.PrintLast Go.Proofs.YtiopeaponffmdaaDoorW.PrintMore

theorem w64 (x : Int) (h0 : -1000000000 ≤ x) (h1 : x ≤ 1000000000) : wrap64 x = x := by unfold wrap64; omega
end Go.Proofs.YtiopeaponffmdaaDoor.PAll
-- YtiopeaponffmdaaDoorNe
namespace Go.Proofs.YtiopeaponffmdaaDoor.PAll
open Go.RowKit Go.Proofs.YtiopeaponffmdaaDoorW.PrintWords Go.Proofs.YtiopeaponffmdaaDoorW.PrintLast Go.Proofs.YtiopeaponffmdaaDoorW.PrintMore

theorem bytes_eq {a b : ByteArray} (h : a.data.toList = b.data.toList) : a = b := by
  cases a with
  | mk x => cases b with
    | mk y => exact congrArg ByteArray.mk (Array.toList_inj.1 h)
theorem str_append (l r : List Int) : strOfNums l ++ strOfNums r = strOfNums (l ++ r) := by
  refine bytes_eq ?_
  rw [ByteArray.data_append, Array.toList_append, strOfNums_data, strOfNums_data, strOfNums_data, List.map_append]
end Go.Proofs.YtiopeaponffmdaaDoor.PAll
-- YtiopeaponffmdaaDoorFl
namespace Go.Proofs.YtiopeaponffmdaaDoor.PAll
open Go.RowKit Go.Proofs.YtiopeaponffmdaaDoorW.PrintWords Go.Proofs.YtiopeaponffmdaaDoorW.PrintLast Go.Proofs.YtiopeaponffmdaaDoorW.PrintMore

/-- the table of powers of ten lies in its block -/
def Tab3 (w : World) : Prop := 3 < w.heap.size ∧ ∀ i, i < 696 → w.cell? ⟨3, i * 2, none⟩ = some (.int .u64 ((Go.Pinned.pow10Rows.getD i (0, 0)).1 : Int)) ∧ w.cell? ⟨3, i * 2 + 1, none⟩ = some (.int .u64 ((Go.Pinned.pow10Rows.getD i (0, 0)).2 : Int))
theorem i64_and (n k : Nat) (h : n < 9223372036854775808) (hk : 2 ^ k ≤ 9223372036854775808) : bits .and .i64 (n : Int) ((2 ^ k - 1 : Nat) : Int) = ((n % 2 ^ k : Nat) : Int) := by
  have hp : 0 < 2 ^ k := Nat.two_pow_pos k
  have hm : n % 2 ^ k < 2 ^ k := Nat.mod_lt _ hp
  show IntKind.i64.wrap ((BitVec.ofInt 64 (n : Int) &&& BitVec.ofInt 64 ((2 ^ k - 1 : Nat) : Int)).toNat : Int) = _
  rw [BitVec.toNat_and, ofInt_u64 n (by omega), ofInt_u64 (2 ^ k - 1) (by omega), Nat.and_two_pow_sub_one_eq_mod]
  exact Go.Lib.wrap_i64_small _ (by omega)

end Go.Proofs.YtiopeaponffmdaaDoor.PAll
-- YtiopeaponffmdaaDoorFo
namespace Go.Proofs.YtiopeaponffmdaaDoor.PAll
open Go.RowKit Go.Proofs.YtiopeaponffmdaaDoorW.PrintWords Go.Proofs.YtiopeaponffmdaaDoorW.PrintLast Go.Proofs.YtiopeaponffmdaaDoorW.PrintMore

/-- the tables lie, now and later -/
def Rdy (w : World) : Prop := ∀ W, Below w.heap.size w W → Tab3 W ∧ Lib.TabIs Tryd.prog W "internal/strconv.uint64pow10" .u64 Lib.pow10Tab
theorem Rdy.mono {w W : World} (h : Rdy w) (hb : Below w.heap.size w W) : Rdy W := fun V hV => h V (hb.trans (hV.mono hb.size))

/-- the parts of a word -/
theorem parts64 (x c q m P : Nat) (hx : x < 18446744073709551616) (hP : P = 2 ^ 52) (hc : c = x % 9223372036854775808) (hcq : c = q * P + m) (hm : m < P) :
    bits .and .i64 ((x : Int) / 4503599627370496) 2047 = (q : Int) ∧ bits .and .u64 (x : Int) 4503599627370495 = (m : Int) ∧ bits .or .u64 (m : Int) 4503599627370496 = ((m + P : Nat) : Int) ∧ q < 2048 ∧
      bits .andNot .u64 (x : Int) 9223372036854775808 = (c : Int) := by
  have hPe : P = 4503599627370496 := by rw [hP]
  have hcq' : c = q * 4503599627370496 + m := by rw [← hPe]; exact hcq
  have e1 := i64_and (x / 4503599627370496) 11 (by omega) (by decide)
  have e2 := u64_and_nat x (2 ^ 52 - 1) hx (by decide)
  rw [Nat.and_two_pow_sub_one_eq_mod] at e2
  have e3 := u64_or_nat m (2 ^ 52) (by omega) (by decide)
  have e4 : m ||| 2 ^ 52 = m + P := by
    have := Nat.two_pow_add_eq_or_of_lt (b := m) (i := 52) (by rw [← hP]; exact hm) 1
    rw [Nat.mul_one] at this
    rw [Nat.or_comm, ← this, hP, Nat.add_comm]
  have e5 := u64_andNot_nat x 9223372036854775808 hx (by decide)
  have e6 : x &&& (18446744073709551615 - 9223372036854775808) = x % 2 ^ 63 := Nat.and_two_pow_sub_one_eq_mod x 63
  rw [e4] at e3
  rw [e6] at e5
  have q1 : x / 4503599627370496 % 2 ^ 11 = q := by omega
  have q2 : x % 2 ^ 52 = m := by omega
  have q3 : x % 2 ^ 63 = c := by omega
  rw [q1] at e1
  rw [q2] at e2
  rw [q3] at e5
  refine ⟨?_, e2, e3, by omega, e5⟩
  have : ((x / 4503599627370496 : Nat) : Int) = (x : Int) / 4503599627370496 := by omega
  rw [← this]
  exact e1

end Go.Proofs.YtiopeaponffmdaaDoor.PAll
-- YtiopeaponffmdaaDoorPAllx1
namespace Go.Proofs.YtiopeaponffmdaaDoor.PAll
open Go.RowKit Go.Proofs.YtiopeaponffmdaaDoorW.PrintWords Go.Proofs.YtiopeaponffmdaaDoorW.PrintLast Go.Proofs.YtiopeaponffmdaaDoorW.PrintMore
set_option linter.unusedVariables false
set_option linter.unusedSimpArgs false

def laws_fits8.l0 : Nat → List ByteArray → Int → Int → Option (Bool)
  | 0, _, _, _ => none
  | k + 1, x5, x6, x7 => if x7 < x6 then (if 0 ≤ x7 then (if x7 < (x5.length : Int) then (if ((rdOf ByteArray.empty x5 x7).size : Int) > 1000 then (some false) else (laws_fits8.l0 k x5 x6 (wrap64 (x7 + 1)))) else (none)) else (none)) else (some true)
def laws_fits8.f (k : Nat) (l0 : List ByteArray) : Option (Bool) := laws_fits8.l0 k l0 (l0.length : Int) 0
theorem laws_fits8.mono_l : ∀ k, (∀ y0 y1 y2, LeO (laws_fits8.l0 k y0 y1 y2) (laws_fits8.l0 (k + 1) y0 y1 y2))
  | 0 => fun _ _ _ r h => by simp [laws_fits8.l0] at h
  | k + 1 => by
    have ih0 := laws_fits8.mono_l k
    · intro y0 y1 y2
      unfold laws_fits8.l0
      repeat' first
      | (with_reducible exact ih0 _ _ _)
      | (with_reducible exact LeO.refl _)
      | (with_reducible exact LeO.none _)
      | (with_reducible refine LeO.ite ?_ ?_)
      | (with_reducible refine LeO.bind ?_ (fun _ => ?_))
      | exact ih0 _ _ _
      | exact LeO.none _
      | refine LeO.ite ?_ ?_
      | refine LeO.bind ?_ (fun _ => ?_)
theorem laws_fits8.mono : ∀ a0 k, LeO (laws_fits8.f k a0) (laws_fits8.f (k + 1) a0) := by
  intro a0 k
  have ih0 := laws_fits8.mono_l k
  unfold laws_fits8.f
  repeat' first
      | (with_reducible exact ih0 _ _ _)
      | (with_reducible exact LeO.refl _)
      | (with_reducible exact LeO.none _)
      | (with_reducible refine LeO.ite ?_ ?_)
      | (with_reducible refine LeO.bind ?_ (fun _ => ?_))
      | exact ih0 _ _ _
      | exact LeO.none _
      | refine LeO.ite ?_ ?_
      | refine LeO.bind ?_ (fun _ => ?_)
set_option maxHeartbeats 8000000 in
set_option maxRecDepth 100000 in
theorem laws_fits8.calls (k : Nat) (A0 : Option Addr) (c0 : Nat) (l0 : List ByteArray) (r : Bool) (w : World) (hr0 : Kd.C Kd.string w A0 l0.length l0) (hc0 : l0.length ≤ c0) (h : laws_fits8.f k l0 = some r) :
    Calls Tryd.prog 11 #[.slice A0 l0.length c0] w fun e w' => e = .returned (.bool r) ∧ Drawn0 w w' := by
  have HR0 := Aside0.mk hr0
  have HC0 := Aside0.mk hc0
  clear hr0 hc0
  have H : (laws_fits8.l0 k l0 (l0.length : Int) 0) = some r := h
  clear h
  have H' := Aside0.mk H
  clear H
  go_enter Tryd.func11, Tryd.ntmps11
  go_wp2
  go_loopg [7] k (fun kq v7 w' => ∃ (x7_1 : Int), v7 = .int .i64 x7_1 ∧ Aside0 (laws_fits8.l0 kq l0 (l0.length : Int) x7_1 = some r) ∧ Aside0 (kq ≤ k) ∧ Drawn0 w w')
  case atStart => exact ⟨(0), (by first | rfl | (simp; done) | (simp [*]; done)), H', ⟨Nat.le_refl _⟩, by repeat (first | exact Drawn0.refl _ | apply Drawn0.step)⟩
  case round =>
    clear H'
    try clear c1
    obtain ⟨x7_1, rfl, HA, HK1, ⟨m1, rfl⟩⟩ := hrel
    cases gk with
    | zero => exact absurd HA.out (by simp [laws_fits8.l0])
    | succ k1 =>
      have H := HA.out
      clear HA
      simp only [laws_fits8.l0] at H
      by_cases c2 : x7_1 < (l0.length : Int)
      · rw [if_pos c2] at H
        have c2b0 : decide (x7_1 < (l0.length : Int)) = true := decide_eq_true c2
        clear c2
        by_cases c3 : 0 ≤ x7_1
        · rw [if_pos c3] at H
          have c3b0 : decide (0 ≤ x7_1) = true := decide_eq_true c3
          clear c3
          by_cases c4 : x7_1 < (l0.length : Int)
          · rw [if_pos c4] at H
            have c4b0 : decide (x7_1 < (l0.length : Int)) = true := decide_eq_true c4
            clear c4
            by_cases c5 : ((rdOf ByteArray.empty l0 x7_1).size : Int) > 1000
            · rw [if_pos c5] at H
              have c5b0 : decide (1000 < ((rdOf ByteArray.empty l0 x7_1).size : Int)) = true := decide_eq_true c5
              have c5b1 : decide (1000 < (rdOf ByteArray.empty l0 x7_1).size) = true := decide_eq_true (by omega)
              clear c5
              obtain rfl := Option.some.inj H
              have p101 : 0 ≤ (x7_1 : Int) := of_decide_eq_true (by first | (with_reducible assumption) | assumption)
              have q101 : x7_1 < (l0.length : Int) := of_decide_eq_true (by first | (with_reducible assumption) | assumption)
              obtain ⟨ad101, e101, hx101_0⟩ := Kd.at_string HR0.out x7_1 p101 q101
              cases e101
              replace p101 := eq_true p101
              replace q101 := eq_true q101
              go_wp2
              go_ret
              exact ⟨by first | rfl | (simp; done) | (simp [*]; done), by repeat (first | exact Drawn0.refl _ | apply Drawn0.step)⟩
            · rw [if_neg c5] at H
              have c5b0 : decide (1000 < ((rdOf ByteArray.empty l0 x7_1).size : Int)) = false := decide_eq_false c5
              have c5b1 : decide (1000 < (rdOf ByteArray.empty l0 x7_1).size) = false := decide_eq_false (by omega)
              clear c5
              have H' := Aside0.mk H
              clear H
              have p101 : 0 ≤ (x7_1 : Int) := of_decide_eq_true (by first | (with_reducible assumption) | assumption)
              have q101 : x7_1 < (l0.length : Int) := of_decide_eq_true (by first | (with_reducible assumption) | assumption)
              obtain ⟨ad101, e101, hx101_0⟩ := Kd.at_string HR0.out x7_1 p101 q101
              cases e101
              replace p101 := eq_true p101
              replace q101 := eq_true q101
              go_wp2
              go_roundg k1
              case measure => have := HK1.out; omega
              case rel => exact ⟨(wrap64 (x7_1 + 1)), (by first | rfl | (simp; done) | (simp [*]; done)), H', ⟨by have := HK1.out; omega⟩, by repeat (first | exact Drawn0.refl _ | apply Drawn0.step)⟩
          · rw [if_neg c4] at H
            exact absurd H (by simp)
        · rw [if_neg c3] at H
          exact absurd H (by simp)
      · rw [if_neg c2] at H
        have c2b0 : decide (x7_1 < (l0.length : Int)) = false := decide_eq_false c2
        clear c2
        obtain rfl := Option.some.inj H
        go_wp2
        go_ret
        exact ⟨by first | rfl | (simp; done) | (simp [*]; done), by repeat (first | exact Drawn0.refl _ | apply Drawn0.step)⟩

end Go.Proofs.YtiopeaponffmdaaDoor.PAll
-- YtiopeaponffmdaaDoorFp
namespace Go.Proofs.YtiopeaponffmdaaDoor.PAll
open Go.RowKit Go.Proofs.YtiopeaponffmdaaDoorW.PrintWords Go.Proofs.YtiopeaponffmdaaDoorW.PrintLast Go.Proofs.YtiopeaponffmdaaDoorW.PrintMore

theorem read_nonfin (F : Ieee.Format) (x : Nat) (h : F.infRung ≤ x % F.signWeight) (hb : F.binade ≤ F.infRung) : (∃ s, F.read x = .infinity s) ∨ ∃ s t, F.read x = .nan s t := by
  unfold Ieee.Format.read
  dsimp only
  rw [if_neg (by omega), if_neg (by omega)]
  split
  · exact .inl ⟨_, rfl⟩
  · exact .inr ⟨_, _, rfl⟩
theorem read_nan (F : Ieee.Format) (x : Nat) (h : F.infRung < x % F.signWeight) (hb : F.binade ≤ F.infRung) : ∃ s t, F.read x = .nan s t := by
  unfold Ieee.Format.read
  dsimp only
  rw [if_neg (by omega), if_neg (by omega), if_neg (by omega)]
  exact ⟨_, _, rfl⟩
theorem sub_self_none (F : Ieee.Format) (x : Nat) (h : F.infRung ≤ x % F.signWeight) (hb : F.binade ≤ F.infRung) : F.sub x x = none := by
  unfold Ieee.Format.sub
  rcases read_nonfin F x h hb with ⟨s, e⟩ | ⟨s, t, e⟩
  · rw [e]
    unfold Ieee.Datum.opposite Ieee.Datum.sum
    cases s <;> rfl
  · rw [e]; rfl

theorem nan_cut (x y t : Nat) : 9218868437227405312 < (Question.nanBits FloatKind.f64 x y).cut t % 9223372036854775808 := by
  unfold Question.cut
  have : t / 2 % (2 ^ 52 - 1) < 2 ^ 52 - 1 := Nat.mod_lt _ (by decide)
  have e : (2 : Nat) ^ 52 - 1 = 4503599627370495 := by decide
  have e2 : (2 : Nat) ^ 63 = 9223372036854775808 := by decide
  rw [e] at this
  dsimp only
  rw [e, e2]
  generalize t / 2 % 4503599627370495 = r at *
  have : t % 2 < 2 := Nat.mod_lt _ (by decide)
  omega

theorem fits8_ev (s : ByteArray) : ∃ k, laws_fits8.f k [s] = some (decide (s.size ≤ 1000)) := by
  have h1 : (0 : Int) < (([s] : List ByteArray).length : Int) := by simp
  have h2 : (rdOf ByteArray.empty [s] 0) = s := rfl
  by_cases h : s.size ≤ 1000
  · refine ⟨2, ?_⟩
    rw [decide_eq_true h]
    show laws_fits8.l0 2 [s] 1 0 = _
    rw [laws_fits8.l0, if_pos (by decide), if_pos (by decide), if_pos h1, h2, if_neg (by omega), w64 _ (by decide) (by decide), laws_fits8.l0, if_neg (by decide)]
  · refine ⟨1, ?_⟩
    rw [decide_eq_false h]
    show laws_fits8.l0 1 [s] 1 0 = _
    rw [laws_fits8.l0, if_pos (by decide), if_pos (by decide), if_pos h1, h2, if_pos (by omega)]
end Go.Proofs.YtiopeaponffmdaaDoor.PAll
-- YtiopeaponffmdaaDoorFq
namespace Go.Proofs.YtiopeaponffmdaaDoor.PAll
open Go.RowKit Go.Proofs.YtiopeaponffmdaaDoorW.PrintWords Go.Proofs.YtiopeaponffmdaaDoorW.PrintLast Go.Proofs.YtiopeaponffmdaaDoorW.PrintMore
theorem one_string (W : World) (g : Nat) (T : TypeId) (s : ByteArray) (hb : W.heap[g]? = some (.cells #[.string s] T (0, 0))) : Kd.C Kd.string W (some ⟨g, 0, none⟩) ([s] : List ByteArray).length [s] := by
  refine Kd.C_of_reads (enc := Value.string) (d := ByteArray.empty) (h1 := fun _ => rfl) ?_
  refine ⟨rfl, by simp, fun _ => ⟨_, rfl, fun j hj => ?_⟩⟩
  have hj0 : j = 0 := by simp at hj; exact hj
  subst hj0
  simp [World.cell?, Addr.add, hb]
theorem fits8_calls (s : ByteArray) (w : World) (T : TypeId) : Calls Tryd.prog 11 #[.slice (some ⟨w.heap.size, 0, none⟩) 1 1] (w.alloc (.cells #[.string s] T)) fun e w' => e = .returned (.bool (decide (s.size ≤ 1000))) ∧ Below w.heap.size w w' := by
  obtain ⟨k, hk⟩ := fits8_ev s
  have h := laws_fits8.calls k (some ⟨w.heap.size, 0, none⟩) 1 [s] _ (w.alloc (.cells #[.string s] T)) (one_string _ _ T s (heap_alloc_new w _)) (Nat.le_refl _) hk
  refine h.mono fun e w' ⟨h1, h2⟩ => ⟨h1, ?_⟩
  obtain ⟨n, rfl⟩ := h2
  exact pw_below_drewN ((Below.refl w.heap.size w).alloc (Nat.le_refl _) _) _
end Go.Proofs.YtiopeaponffmdaaDoor.PAll
-- YtiopeaponffmdaaDoorFsi
namespace Go.Proofs.YtiopeaponffmdaaDoor.PAll
open Go.RowKit Go.Proofs.YtiopeaponffmdaaDoorW.PrintWords Go.Proofs.YtiopeaponffmdaaDoorW.PrintLast Go.Proofs.YtiopeaponffmdaaDoorW.PrintMore
set_option maxHeartbeats 1600000 in
set_option maxRecDepth 100000 in
theorem af49s (v0 : Value) (x z : Nat) (fc : Int) (w0 w : World) (R : List Int → Prop) (cv1 : ∀ W, (convert 22 46 (Value.float FloatKind.f64 x)).run Tryd.prog W = .ok (.float .f32 z) W)
    (h : Calls Tryd.prog 50 #[v0, .float .f32 z, .int .u8 fc, .int .i64 (-1)] w (FtPost w0 R)) :
    Calls Tryd.prog 49 #[v0, .float .f64 x, .int .u8 fc, .int .i64 (-1), .int .i64 32] w (FtPost w0 R) := by
  have H := Lib.hid h
  clear h
  go_enter Tryd.func49, Tryd.ntmps49
  go_wp2_with (fail)
  refine H.out.mono ?_
  rintro e w' ⟨v, r, rfl, q1, q2, q3⟩
  go_wp2_with (fail)
  go_ret
  exact ⟨v, r, rfl, q1, q2, q3⟩
set_option maxHeartbeats 1600000 in
set_option maxRecDepth 100000 in
theorem af42s (v0 : Value) (x z : Nat) (fc : Int) (w0 w : World) (R : List Int → Prop) (cv1 : ∀ W, (convert 22 46 (Value.float FloatKind.f64 x)).run Tryd.prog W = .ok (.float .f32 z) W)
    (h : Calls Tryd.prog 50 #[v0, .float .f32 z, .int .u8 fc, .int .i64 (-1)] w (FtPost w0 R)) :
    Calls Tryd.prog 42 #[v0, .float .f64 x, .int .u8 fc, .int .i64 (-1), .int .i64 32] w (FtPost w0 R) := by
  have H := Lib.hid (af49s v0 x z fc w0 w R cv1 h)
  clear h cv1
  go_enter Tryd.func42, Tryd.ntmps42
  go_wp2_with (fail)
  refine H.out.mono ?_
  rintro e w' ⟨v, r, rfl, q1, q2, q3⟩
  go_wp2_with (fail)
  go_ret
  exact ⟨v, r, rfl, q1, q2, q3⟩
set_option maxHeartbeats 1600000 in
set_option maxRecDepth 100000 in
theorem as33E2 (v0 : Value) (x z y zy : Nat) (w0 w : World) (R : List Int → Prop) (cv1 : ∀ W, (convert 22 46 (Value.float FloatKind.f64 x)).run Tryd.prog W = .ok (.float .f32 z) W) (cv2 : ∀ W, (convert 46 22 (Value.float FloatKind.f32 z)).run Tryd.prog W = .ok (.float .f64 x) W) (cv3 : ∀ W, (convert 22 46 (Value.float FloatKind.f64 y)).run Tryd.prog W = .ok (.float .f32 zy) W) (hy : bits .andNot .u64 (x : Int) 9223372036854775808 = (y : Int))
    (t0 : FloatKind.f64.format.order y 0 = some .gt) (t1 : FloatKind.f32.format.order zy 897988541 = some .gt) (t2 : FloatKind.f32.format.order zy 1649989415 = some .gt)
    (h : Calls Tryd.prog 50 #[v0, .float .f32 z, .int .u8 101, .int .i64 (-1)] w (FtPost w0 R)) (hshape : ∀ r, R r → ∃ q a b c d, r = q ++ [a, b, c, d] ∧ q.length ≤ 140737488355328) :
    Calls Tryd.prog 33 #[v0, .float .f64 x, .int .i64 32] w (FtPost w0 (fun r => ∃ r', R r' ∧ r = fixE r')) := by
  have A := fun w => abs_calls x y w hy
  have HA := Lib.hid A
  have H := Lib.hid (af42s v0 x z 101 w0 w R cv1 h)
  have HS := Lib.hid hshape
  clear A hy h hshape
  go_enter Tryd.func33, Tryd.ntmps33
  go_wp2_with (fail)
  refine (HA.out _).mono ?_
  rintro e w' ⟨rfl, rfl⟩
  go_wp2_with (fail)
  refine H.out.mono ?_
  rintro e w' ⟨v, r, rfl, q1, q2, q3⟩
  obtain ⟨q, a, b, c, d, rfl, lq⟩ := HS.out r q1
  have Q1 := Lib.hid q1
  have Q2 := Lib.hid q2
  have Q3 := Lib.hid q3
  obtain ⟨g, cap, rfl, l1, l2, l3, lf, c0, c1, c2, c3⟩ := last_four q2
  clear q1 q3 q2
  clear l3
  by_cases ha : a = 101
  · by_cases hb : b = 45
    · by_cases hc : c = 48
      · subst ha hb hc
        go_wp2_with (fail)
        go_ret
        have T := RM_take (m := q.length + 3) (RM_put Q2.out (q.length + 2) (by simp) d) (by simp)
        have e : ((q ++ [101, 45, 48, d]).set (q.length + 2) d).take (q.length + 3) = fixE (q ++ [101, 45, 48, d]) := by
          rw [fixE_app, if_pos ⟨rfl, rfl, rfl⟩, List.set_append_right _ _ (by omega), List.take_append, List.take_of_length_le (by omega)]
          simp
        refine ⟨_, _, rfl, ⟨_, Q1.out, rfl⟩, by rw [← e]; exact T, Q3.out.setCell (p := ⟨g, q.length + 2, none⟩) l2 _⟩
      · have tc : (c == 48) = false := by rw [beq_eq_false_iff_ne]; omega
        have HN := Lib.hid (show fixE (q ++ [a, b, c, d]) = q ++ [a, b, c, d] by rw [fixE_app, if_neg (by omega)])
        clear hc
        subst ha hb
        go_wp2_with (fail)
        go_ret
        exact ⟨_, _, rfl, ⟨_, Q1.out, rfl⟩, by rw [HN.out]; exact Q2.out, Q3.out⟩
    · have tb : (b == 45) = false := by rw [beq_eq_false_iff_ne]; omega
      have HN := Lib.hid (show fixE (q ++ [a, b, c, d]) = q ++ [a, b, c, d] by rw [fixE_app, if_neg (by omega)])
      clear hb
      subst ha
      go_wp2_with (fail)
      go_ret
      exact ⟨_, _, rfl, ⟨_, Q1.out, rfl⟩, by rw [HN.out]; exact Q2.out, Q3.out⟩
  · have ta : (a == 101) = false := by rw [beq_eq_false_iff_ne]; omega
    have HN := Lib.hid (show fixE (q ++ [a, b, c, d]) = q ++ [a, b, c, d] by rw [fixE_app, if_neg (by omega)])
    clear ha
    go_wp2_with (fail)
    go_ret
    exact ⟨_, _, rfl, ⟨_, Q1.out, rfl⟩, by rw [HN.out]; exact Q2.out, Q3.out⟩
end Go.Proofs.YtiopeaponffmdaaDoor.PAll
-- YtiopeaponffmdaaDoorFos
namespace Go.Proofs.YtiopeaponffmdaaDoor.PAll
open Go.RowKit Go.Proofs.YtiopeaponffmdaaDoorW.PrintWords Go.Proofs.YtiopeaponffmdaaDoorW.PrintLast Go.Proofs.YtiopeaponffmdaaDoorW.PrintMore

/-- the parts of a word -/
theorem parts32 (x c q m P : Nat) (hx : x < 4294967296) (hP : P = 2 ^ 23) (hc : c = x % 2147483648) (hcq : c = q * P + m) (hm : m < P) :
    bits .and .i64 ((x : Int) / 8388608) 255 = (q : Int) ∧ bits .and .u64 (x : Int) 8388607 = (m : Int) ∧ bits .or .u64 (m : Int) 8388608 = ((m + P : Nat) : Int) ∧ q < 256 := by
  have hPe : P = 8388608 := by rw [hP]
  have hcq' : c = q * 8388608 + m := by rw [← hPe]; exact hcq
  have e1 := i64_and (x / 8388608) 8 (by omega) (by decide)
  have e2 := u64_and_nat x (2 ^ 23 - 1) (by omega) (by decide)
  rw [Nat.and_two_pow_sub_one_eq_mod] at e2
  have e3 := u64_or_nat m (2 ^ 23) (by omega) (by decide)
  have e4 : m ||| 2 ^ 23 = m + P := by
    have := Nat.two_pow_add_eq_or_of_lt (b := m) (i := 23) (by rw [← hP]; exact hm) 1
    rw [Nat.mul_one] at this
    rw [Nat.or_comm, ← this, hP, Nat.add_comm]
  rw [e4] at e3
  have q1 : x / 8388608 % 2 ^ 8 = q := by omega
  have q2 : x % 2 ^ 23 = m := by omega
  rw [q1] at e1
  rw [q2] at e2
  refine ⟨?_, e2, e3, by omega⟩
  have : ((x / 8388608 : Nat) : Int) = (x : Int) / 8388608 := by omega
  rw [← this]
  exact e1

/-- the conversions of a number of single precision, there and back -/
structure Conv32 (z X : Nat) : Prop where
  there : ∀ W, (convert 46 22 (Value.float FloatKind.f32 z)).run Tryd.prog W = .ok (.float .f64 X) W
  back : ∀ W, (convert 22 46 (Value.float FloatKind.f64 X)).run Tryd.prog W = .ok (.float .f32 z) W

end Go.Proofs.YtiopeaponffmdaaDoor.PAll
-- YtiopeaponffmdaaDoorFv
set_option linter.unusedVariables false
set_option linter.unusedSimpArgs false
namespace Go.Proofs.YtiopeaponffmdaaDoor.PAll
open Go.RowKit Go.Proofs.YtiopeaponffmdaaDoorW.PrintWords Go.Proofs.YtiopeaponffmdaaDoorW.PrintLast Go.Proofs.YtiopeaponffmdaaDoorW.PrintMore

theorem nan_order (F : Ieee.Format) (x y : Nat) (h : F.infRung < x % F.signWeight) (hb : F.binade ≤ F.infRung) : F.order x y = none := by
  obtain ⟨s, t, hr⟩ := read_nan F x h hb
  unfold Ieee.Format.order
  rw [hr]
  cases F.read y <;> rfl
theorem textNaN (tt : ByteArray) (x : Nat) (w : World) (hto : tt.size ≤ 4000000000) (hx : x < 18446744073709551616) (hn : 9218868437227405312 < x % 9223372036854775808) :
    Calls Tryd.prog 14 #[.string tt, .float .f64 x, .int .i64 64] w fun e w' => e = .returned (.string (strOfNums (bytesOf tt ++ [78, 97, 78]))) ∧ Below w.heap.size w w' := by
  obtain ⟨y, hy⟩ : ∃ y, y = x % 9223372036854775808 := ⟨_, rfl⟩
  have e52 : (2 : Nat) ^ 52 = 4503599627370496 := by decide
  obtain ⟨b1, b2, b3, b4, b5⟩ := parts64 x y 2047 (x % 4503599627370496) (2 ^ 52) hx rfl hy (by rw [e52]; omega) (by rw [e52]; omega)
  have ny : FloatKind.f64.format.infRung < y % FloatKind.f64.format.signWeight := by
    have e1 : FloatKind.f64.format.infRung = 9218868437227405312 := by decide +kernel
    have e2 : FloatKind.f64.format.signWeight = 9223372036854775808 := by decide +kernel
    rw [e1, e2]; omega
  have no : ∀ z, FloatKind.f64.format.order y z = none := fun z => nan_order _ y z ny (by decide +kernel)
  refine (floatText tt x w (fun r => r = bytesOf tt ++ [78, 97, 78]) (by omega) (fun W v hB ho => ?_)).mono ?_
  · refine af25 v _ w W _ ?_
    exact af33X v x y w W _ b5 (no _) (no _) (no _) (ftoa64XN (fun _ => True) v (bytesOf tt) x (x % 4503599627370496) _ 102 w W hx (by rw [bytesOf_length]; omega) hB ho rfl b1 b2 (by omega))
  · rintro e w' ⟨r, rfl, h2, h3⟩
    exact ⟨h2, h3⟩
theorem inf_conv : Conv32 2139095040 9218868437227405312 := ⟨fun W => run_convert_float_float W 46 22 .f32 .f64 _ _ (by rw [Tryd.underlying46]; rfl) Tryd.underlying22 (by decide +kernel), fun W => run_convert_float_float W 22 46 .f64 .f32 _ _ (by rw [Tryd.underlying22]; rfl) Tryd.underlying46 (by decide +kernel)⟩
theorem ninf_conv : Conv32 4286578688 18442240474082181120 := ⟨fun W => run_convert_float_float W 46 22 .f32 .f64 _ _ (by rw [Tryd.underlying46]; rfl) Tryd.underlying22 (by decide +kernel), fun W => run_convert_float_float W 22 46 .f64 .f32 _ _ (by rw [Tryd.underlying22]; rfl) Tryd.underlying46 (by decide +kernel)⟩
theorem textPosInf32 (tt : ByteArray) (w : World) (hto : tt.size ≤ 4000000000) : Calls Tryd.prog 14 #[.string tt, .float .f64 9218868437227405312, .int .i64 32] w fun e w' => e = .returned (.string (strOfNums (bytesOf tt ++ [43, 73, 110, 102]))) ∧ Below w.heap.size w w' := by
  refine (floatText32 tt 9218868437227405312 w (fun r => r = bytesOf tt ++ [43, 73, 110, 102]) (by omega) (fun W v hB ho => ?_)).mono ?_
  · refine af25s v _ w W _ ?_
    have F := ftoa32XP (fun _ => True) v (bytesOf tt) 2139095040 101 w W (by decide) (by rw [bytesOf_length]; omega) hB ho (by decide) (by decide +kernel) (by decide +kernel)
    refine Calls.mono (as33E2 v 9218868437227405312 2139095040 9218868437227405312 2139095040 w W _ inf_conv.back inf_conv.there inf_conv.back (by decide +kernel) (by decide +kernel) (by decide +kernel) (by decide +kernel) F ?_) ?_
    · rintro r rfl
      exact ⟨_, _, _, _, _, rfl, by rw [bytesOf_length]; omega⟩
    · rintro e w' ⟨v', r, h1, ⟨r', rfl, rfl⟩, h3, h4⟩
      exact ⟨v', _, h1, rfl, by rw [fixE_app, if_neg (by decide)] at h3; exact h3, h4⟩
  · rintro e w' ⟨r, rfl, h2, h3⟩
    exact ⟨h2, h3⟩
theorem textNegInf32 (tt : ByteArray) (w : World) (hto : tt.size ≤ 4000000000) : Calls Tryd.prog 14 #[.string tt, .float .f64 18442240474082181120, .int .i64 32] w fun e w' => e = .returned (.string (strOfNums (bytesOf tt ++ [45, 73, 110, 102]))) ∧ Below w.heap.size w w' := by
  refine (floatText32 tt 18442240474082181120 w (fun r => r = bytesOf tt ++ [45, 73, 110, 102]) (by omega) (fun W v hB ho => ?_)).mono ?_
  · refine af25s v _ w W _ ?_
    have F := ftoa32XM (fun _ => True) v (bytesOf tt) 4286578688 101 w W (by decide) (by rw [bytesOf_length]; omega) hB ho (by decide) (by decide +kernel) (by decide +kernel)
    refine Calls.mono (as33E2 v 18442240474082181120 4286578688 9218868437227405312 2139095040 w W _ ninf_conv.back ninf_conv.there inf_conv.back (by decide +kernel) (by decide +kernel) (by decide +kernel) (by decide +kernel) F ?_) ?_
    · rintro r rfl
      exact ⟨_, _, _, _, _, rfl, by rw [bytesOf_length]; omega⟩
    · rintro e w' ⟨v', r, h1, ⟨r', rfl, rfl⟩, h3, h4⟩
      exact ⟨v', _, h1, rfl, by rw [fixE_app, if_neg (by decide)] at h3; exact h3, h4⟩
  · rintro e w' ⟨r, rfl, h2, h3⟩
    exact ⟨h2, h3⟩
end Go.Proofs.YtiopeaponffmdaaDoor.PAll
-- YtiopeaponffmdaaDoorFw
set_option linter.unusedVariables false
set_option linter.unusedSimpArgs false
namespace Go.Proofs.YtiopeaponffmdaaDoor.PAll
open Go.RowKit Go.Proofs.YtiopeaponffmdaaDoorW.PrintWords Go.Proofs.YtiopeaponffmdaaDoorW.PrintLast Go.Proofs.YtiopeaponffmdaaDoorW.PrintMore

def nanA (W : World) (x : Nat) : Nat := (Question.nanConv FloatKind.f32 x).cut (W.tape W.drawn (Question.nanConv FloatKind.f32 x))
def nanB (W : World) (x : Nat) : Nat := (Question.nanConv FloatKind.f64 x).cut (W.tape W.drawn (Question.nanConv FloatKind.f64 x))
theorem nanA_nan (W : World) (x : Nat) : 2139095040 < nanA W x % 2147483648 ∧ nanA W x < 4294967296 := by
  unfold nanA Question.cut
  generalize W.tape W.drawn (Question.nanConv FloatKind.f32 x) = t
  have : t / 2 % (2 ^ 23 - 1) < 2 ^ 23 - 1 := Nat.mod_lt _ (by decide)
  have e : (2 : Nat) ^ 23 - 1 = 8388607 := by decide
  have e2 : (2 : Nat) ^ 31 = 2147483648 := by decide
  rw [e] at this
  dsimp only
  rw [e, e2]
  generalize t / 2 % 8388607 = r at *
  have : t % 2 < 2 := Nat.mod_lt _ (by decide)
  omega
theorem nanB_nan (W : World) (x : Nat) : 9218868437227405312 < nanB W x % 9223372036854775808 ∧ nanB W x < 18446744073709551616 := by
  unfold nanB Question.cut
  generalize W.tape W.drawn (Question.nanConv FloatKind.f64 x) = t
  have : t / 2 % (2 ^ 52 - 1) < 2 ^ 52 - 1 := Nat.mod_lt _ (by decide)
  have e : (2 : Nat) ^ 52 - 1 = 4503599627370495 := by decide
  have e2 : (2 : Nat) ^ 63 = 9223372036854775808 := by decide
  rw [e] at this
  dsimp only
  rw [e, e2]
  generalize t / 2 % 4503599627370495 = r at *
  have : t % 2 < 2 := Nat.mod_lt _ (by decide)
  omega
theorem isnan32 {x : Nat} (h : 2139095040 < x % 2147483648) : FloatKind.f32.format.infRung < x % FloatKind.f32.format.signWeight := by
  have e1 : FloatKind.f32.format.infRung = 2139095040 := by decide +kernel
  have e2 : FloatKind.f32.format.signWeight = 2147483648 := by decide +kernel
  rw [e1, e2]; exact h
theorem isnan64 {x : Nat} (h : 9218868437227405312 < x % 9223372036854775808) : FloatKind.f64.format.infRung < x % FloatKind.f64.format.signWeight := by
  have e1 : FloatKind.f64.format.infRung = 9218868437227405312 := by decide +kernel
  have e2 : FloatKind.f64.format.signWeight = 9223372036854775808 := by decide +kernel
  rw [e1, e2]; exact h
theorem nanA_order (W : World) (x c : Nat) : FloatKind.f32.format.order (nanA W x) c = none := nan_order _ _ _ (isnan32 (nanA_nan W x).1) (by decide +kernel)
theorem conv_nan32 (x : Nat) (W : World) (h : 9218868437227405312 < x % 9223372036854775808) : (convert 22 46 (Value.float FloatKind.f64 x)).run Tryd.prog W = .ok (.float .f32 (nanA W x)) W.drew := by
  obtain ⟨s, t, hr⟩ := read_nan FloatKind.f64.format x (isnan64 h) (by decide +kernel)
  have hd : FloatKind.f64.decode x = .nan s t := hr
  have u22 := run_underlying (P := Tryd.prog) Tryd.underlying22
  have u46 := run_underlying (P := Tryd.prog) Tryd.underlying46
  simp [convert, u22, u46, Conv.floatToFloat, hd, nanA, Question.forced]
theorem conv_nan64 (x : Nat) (W : World) (h : 2139095040 < x % 2147483648) : (convert 46 22 (Value.float FloatKind.f32 x)).run Tryd.prog W = .ok (.float .f64 (nanB W x)) W.drew := by
  obtain ⟨s, t, hr⟩ := read_nan FloatKind.f32.format x (isnan32 h) (by decide +kernel)
  have hd : FloatKind.f32.decode x = .nan s t := hr
  have u22 := run_underlying (P := Tryd.prog) Tryd.underlying22
  have u46 := run_underlying (P := Tryd.prog) Tryd.underlying46
  simp [convert, u22, u46, Conv.floatToFloat, hd, nanB, Question.forced]
set_option maxHeartbeats 1600000 in
set_option maxRecDepth 100000 in
theorem af49n (v0 : Value) (x : Nat) (fc : Int) (w0 w : World) (R : List Int → Prop) (hx : 9218868437227405312 < x % 9223372036854775808)
    (h : ∀ z, 2139095040 < z % 2147483648 → z < 4294967296 → Calls Tryd.prog 50 #[v0, .float .f32 z, .int .u8 fc, .int .i64 (-1)] w.drew (FtPost w0 R)) :
    Calls Tryd.prog 49 #[v0, .float .f64 x, .int .u8 fc, .int .i64 (-1), .int .i64 32] w (FtPost w0 R) := by
  have cv1 := fun W => conv_nan32 x W hx
  have H := Lib.hid (h (nanA w x) (nanA_nan w x).1 (nanA_nan w x).2)
  clear h
  go_enter Tryd.func49, Tryd.ntmps49
  go_wp2_with (fail)
  refine H.out.mono ?_
  rintro e w' ⟨v, r, rfl, q1, q2, q3⟩
  go_wp2_with (fail)
  go_ret
  exact ⟨v, r, rfl, q1, q2, q3⟩
set_option maxHeartbeats 1600000 in
set_option maxRecDepth 100000 in
theorem af42n (v0 : Value) (x : Nat) (fc : Int) (w0 w : World) (R : List Int → Prop) (hx : 9218868437227405312 < x % 9223372036854775808)
    (h : ∀ z, 2139095040 < z % 2147483648 → z < 4294967296 → Calls Tryd.prog 50 #[v0, .float .f32 z, .int .u8 fc, .int .i64 (-1)] w.drew (FtPost w0 R)) :
    Calls Tryd.prog 42 #[v0, .float .f64 x, .int .u8 fc, .int .i64 (-1), .int .i64 32] w (FtPost w0 R) := by
  have H := Lib.hid (af49n v0 x fc w0 w R hx h)
  clear h
  go_enter Tryd.func42, Tryd.ntmps42
  go_wp2_with (fail)
  refine H.out.mono ?_
  rintro e w' ⟨v, r, rfl, q1, q2, q3⟩
  go_wp2_with (fail)
  go_ret
  exact ⟨v, r, rfl, q1, q2, q3⟩
theorem nanB_order (W : World) (x y c : Nat) (hy : y = nanB W x % 9223372036854775808) : FloatKind.f64.format.order y c = none := by
  refine nan_order _ _ _ (isnan64 ?_) (by decide +kernel)
  have := (nanB_nan W x).1
  omega
theorem nanB_abs (W : World) (x : Nat) : bits .andNot .u64 ((nanB W x : Nat) : Int) 9223372036854775808 = ((nanB W x % 9223372036854775808 : Nat) : Int) := by
  have e5 := u64_andNot_nat (nanB W x) 9223372036854775808 (nanB_nan W x).2 (by decide)
  have e6 : nanB W x &&& (18446744073709551615 - 9223372036854775808) = nanB W x % 2 ^ 63 := Nat.and_two_pow_sub_one_eq_mod _ 63
  rw [e6] at e5
  exact e5
set_option maxHeartbeats 3200000 in
set_option maxRecDepth 100000 in
theorem as33N (v0 : Value) (x : Nat) (w0 w : World) (R : List Int → Prop) (hx : 9218868437227405312 < x % 9223372036854775808)
    (h : ∀ z W, 2139095040 < z % 2147483648 → z < 4294967296 → (∃ n, W = w.drewN n) → Calls Tryd.prog 50 #[v0, .float .f32 z, .int .u8 102, .int .i64 (-1)] W (FtPost w0 R)) :
    Calls Tryd.prog 33 #[v0, .float .f64 x, .int .i64 32] w (FtPost w0 R) := by
  have cv1 := fun W => conv_nan32 x W hx
  have cv2 := fun W V => conv_nan64 (nanA V x) W (nanA_nan V x).1
  have HA := Lib.hid (fun z V W => abs_calls (nanB V z) (nanB V z % 9223372036854775808) W (nanB_abs V z))
  have ho := fun V z c => nanB_order V z _ c rfl
  have cv3 := fun W V z => conv_nan32 (nanB V z % 9223372036854775808) W (by have := (nanB_nan V z).1; omega)
  have ho2 := nanA_order
  have H := Lib.hid (fun z V W (hW : ∃ n, W = w.drewN n) => af42n v0 (nanB V z) 102 w0 W R (nanB_nan V z).1 (fun y h1 h2 => h y W.drew h1 h2 (by obtain ⟨n, rfl⟩ := hW; exact ⟨n + 1, by rw [← World.drewN_drewN]; rfl⟩)))
  clear h hx
  go_enter Tryd.func33, Tryd.ntmps33
  go_wp2_with (fail)
  refine (HA.out _ _ _).mono ?_
  rintro e w' ⟨rfl, rfl⟩
  go_wp2_with (fail)
  refine (H.out _ _ _ ?hw).mono ?_
  case hw => exact ⟨4, by first | rfl | simp [World.drewN]⟩
  rintro e w' ⟨v, r, rfl, q1, q2, q3⟩
  have Q1 := Lib.hid q1
  have Q2 := Lib.hid q2
  have Q3 := Lib.hid q3
  clear q1 q2 q3
  go_wp2_with (fail)
  go_ret
  exact ⟨v, r, rfl, Q1.out, Q2.out, Q3.out⟩
theorem textNaN32 (tt : ByteArray) (x : Nat) (w : World) (hto : tt.size ≤ 4000000000) (hn : 9218868437227405312 < x % 9223372036854775808) :
    Calls Tryd.prog 14 #[.string tt, .float .f64 x, .int .i64 32] w fun e w' => e = .returned (.string (strOfNums (bytesOf tt ++ [78, 97, 78]))) ∧ Below w.heap.size w w' := by
  refine (floatText32 tt x w (fun r => r = bytesOf tt ++ [78, 97, 78]) (by omega) (fun W v hB ho => ?_)).mono ?_
  · refine af25s v _ w W _ ?_
    refine as33N v x w W _ hn (fun z V h1 h2 hV => ?_)
    obtain ⟨n, rfl⟩ := hV
    have e23 : (2 : Nat) ^ 23 = 8388608 := by decide
    obtain ⟨b1, b2, b3, b4⟩ := parts32 z (z % 2147483648) 255 (z % 8388608) (2 ^ 23) h2 rfl rfl (by rw [e23]; omega) (by rw [e23]; omega)
    exact ftoa32XN (fun _ => True) v (bytesOf tt) z (z % 8388608) _ 102 w _ h2 (by rw [bytesOf_length]; omega) (pw_below_drewN hB _) (RM_drewN ho _) rfl b1 b2 (by omega)
  · rintro e w' ⟨r, rfl, h2, h3⟩
    exact ⟨h2, h3⟩
end Go.Proofs.YtiopeaponffmdaaDoor.PAll
-- YtiopeaponffmdaaDoorFx
set_option linter.unusedVariables false
set_option linter.unusedSimpArgs false
namespace Go.Proofs.YtiopeaponffmdaaDoor.PAll
open Go.RowKit Go.Proofs.YtiopeaponffmdaaDoorW.PrintWords Go.Proofs.YtiopeaponffmdaaDoorW.PrintLast Go.Proofs.YtiopeaponffmdaaDoorW.PrintMore

theorem str3 (tt : ByteArray) (l : List Int) : strOfNums (bytesOf tt ++ l) = tt ++ strOfNums l := by
  rw [← str_append, strOfNums_bytesOf]
def bitsOf (b : Bool) : Int := if b = true then 32 else 64
theorem endsP (tt : ByteArray) (b : Bool) (w : World) (hto : tt.size ≤ 4000000000) : Calls Tryd.prog 14 #[.string tt, .float .f64 9218868437227405312, .int .i64 (bitsOf b)] w fun e w' => e = .returned (.string (tt ++ ⟨#[43, 73, 110, 102]⟩)) ∧ Below w.heap.size w w' := by
  have e : (⟨#[43, 73, 110, 102]⟩ : ByteArray) = strOfNums [43, 73, 110, 102] := rfl
  rw [e, ← str3]
  cases b with
  | true => exact textPosInf32 tt w hto
  | false => exact textPosInf tt w hto
theorem endsM (tt : ByteArray) (b : Bool) (w : World) (hto : tt.size ≤ 4000000000) : Calls Tryd.prog 14 #[.string tt, .float .f64 18442240474082181120, .int .i64 (bitsOf b)] w fun e w' => e = .returned (.string (tt ++ ⟨#[45, 73, 110, 102]⟩)) ∧ Below w.heap.size w w' := by
  have e : (⟨#[45, 73, 110, 102]⟩ : ByteArray) = strOfNums [45, 73, 110, 102] := rfl
  rw [e, ← str3]
  cases b with
  | true => exact textNegInf32 tt w hto
  | false => exact textNegInf tt w hto
theorem endsN (tt : ByteArray) (b : Bool) (x : Nat) (w : World) (hto : tt.size ≤ 4000000000) (hx : x < 18446744073709551616) (hn : 9218868437227405312 < x % 9223372036854775808) : Calls Tryd.prog 14 #[.string tt, .float .f64 x, .int .i64 (bitsOf b)] w fun e w' => e = .returned (.string (tt ++ ⟨#[78, 97, 78]⟩)) ∧ Below w.heap.size w w' := by
  have e : (⟨#[78, 97, 78]⟩ : ByteArray) = strOfNums [78, 97, 78] := rfl
  rw [e, ← str3]
  cases b with
  | true => exact textNaN32 tt x w hto hn
  | false => exact textNaN tt x w hto hx hn
set_option maxRecDepth 100000 in
theorem w32 (w : World) : Calls Tryd.prog 32 #[.int .i64 1] w fun e w' => e = .returned (.float .f64 9218868437227405312) ∧ ∃ n, w' = w.drewN n := by
  have r31 : ∀ w, (callFunc 31 #[.int .u64 9218868437227405312]).run Tryd.prog w = .ok (.value (.float .f64 9218868437227405312)) w := fun w => by kernel_rfl
  go_enter Tryd.func32, Tryd.ntmps32
  go_wp2_with (fail)
  go_ret
  exact ⟨rfl, 0, by simp [World.drewN_zero]⟩
def nanS (W : World) : Nat := (Question.nanBits FloatKind.f64 9218868437227405312 9218868437227405312).cut (W.tape W.drawn (Question.nanBits FloatKind.f64 9218868437227405312 9218868437227405312))
theorem nanS_nan (W : World) : 9218868437227405312 < nanS W % 9223372036854775808 := nan_cut _ _ _
theorem nanS_lt (W : World) : nanS W < 18446744073709551616 := by
  unfold nanS Question.cut
  generalize W.tape W.drawn (Question.nanBits FloatKind.f64 9218868437227405312 9218868437227405312) = t
  have : t / 2 % (2 ^ 52 - 1) < 2 ^ 52 - 1 := Nat.mod_lt _ (by decide)
  have e : (2 : Nat) ^ 52 - 1 = 4503599627370495 := by decide
  have e2 : (2 : Nat) ^ 63 = 9223372036854775808 := by decide
  rw [e] at this
  dsimp only
  rw [e, e2]
  generalize t / 2 % 4503599627370495 = r at *
  have : t % 2 < 2 := Nat.mod_lt _ (by decide)
  omega
theorem sub_inf (w : World) : (binOp BinOp.sub 22 (Value.float FloatKind.f64 9218868437227405312) (Value.float FloatKind.f64 9218868437227405312)).run Tryd.prog w = .ok (.float .f64 (nanS w)) w.drew := by
  have hs := sub_self_none FloatKind.f64.format 9218868437227405312 (by decide +kernel) (by decide +kernel)
  unfold nanS
  simp [binOp, Op.floatArith, hs, Question.forced]
set_option maxHeartbeats 1600000 in
set_option maxRecDepth 100000 in
theorem w24 (tt : ByteArray) (b : Bool) (w : World) (hto : tt.size ≤ 4000000000) : Calls Tryd.prog 24 #[.string tt, .bool b] w fun e w' => e = .returned (.tuple #[.string (tt ++ ⟨#[43, 73, 110, 102]⟩), .string (tt ++ ⟨#[45, 73, 110, 102]⟩), .string (tt ++ ⟨#[78, 97, 78]⟩)]) ∧ Below w.heap.size w w' := by
  have HP := Lib.hid (fun w => endsP tt b w hto)
  have HM := Lib.hid (fun w => endsM tt b w hto)
  have HN := Lib.hid (fun V w => endsN tt b (nanS V) w hto (nanS_lt V) (nanS_nan V))
  have HI := Lib.hid w32
  have hsub := sub_inf
  have hneg : ∀ W, (Op.unary UnOp.neg (Value.float FloatKind.f64 9218868437227405312)).run Tryd.prog W = .ok (.float .f64 18442240474082181120) W := fun W => by kernel_rfl
  clear hto
  generalize (tt ++ ⟨#[43, 73, 110, 102]⟩ : ByteArray) = s1 at *
  generalize (tt ++ ⟨#[45, 73, 110, 102]⟩ : ByteArray) = s2 at *
  generalize (tt ++ ⟨#[78, 97, 78]⟩ : ByteArray) = s3 at *
  cases b with
  | true =>
    go_enter Tryd.func24, Tryd.ntmps24
    go_wp2_with (fail)
    refine (HI.out _).mono ?_
    rintro e w' ⟨rfl, n1, rfl⟩
    go_wp2_with (fail)
    refine (HP.out _).mono ?_
    rintro e w1 ⟨rfl, b1⟩
    have B1 := Lib.hid b1
    clear b1
    go_wp2_with (fail)
    refine (HM.out _).mono ?_
    rintro e w2 ⟨rfl, b2⟩
    have B2 := Lib.hid b2
    clear b2
    go_wp2_with (fail)
    refine (HN.out _ _).mono ?_
    rintro e w3 ⟨rfl, b3⟩
    have B3 := Lib.hid b3
    clear b3
    go_wp2_with (fail)
    go_returns
    refine ⟨rfl, ?_⟩
    have q0 : Below w.heap.size w (w.drewN n1) := pw_below_drewN (Below.refl _ _) _
    have q1 := q0.trans (B1.out.mono q0.size)
    have q2 := q1.trans (B2.out.mono q1.size)
    have q3 := q2.drew
    exact q3.trans (B3.out.mono q3.size)
  | false =>
    go_enter Tryd.func24, Tryd.ntmps24
    go_wp2_with (fail)
    refine (HI.out _).mono ?_
    rintro e w' ⟨rfl, n1, rfl⟩
    go_wp2_with (fail)
    refine (HP.out _).mono ?_
    rintro e w1 ⟨rfl, b1⟩
    have B1 := Lib.hid b1
    clear b1
    go_wp2_with (fail)
    refine (HM.out _).mono ?_
    rintro e w2 ⟨rfl, b2⟩
    have B2 := Lib.hid b2
    clear b2
    go_wp2_with (fail)
    refine (HN.out _ _).mono ?_
    rintro e w3 ⟨rfl, b3⟩
    have B3 := Lib.hid b3
    clear b3
    go_wp2_with (fail)
    go_returns
    refine ⟨rfl, ?_⟩
    have q0 : Below w.heap.size w (w.drewN n1) := pw_below_drewN (Below.refl _ _) _
    have q1 := q0.trans (B1.out.mono q0.size)
    have q2 := q1.trans (B2.out.mono q1.size)
    have q3 := q2.drew
    exact q3.trans (B3.out.mono q3.size)
set_option maxHeartbeats 1600000 in
set_option maxRecDepth 100000 in
theorem w10A (tt : ByteArray) (b : Bool) (w : World) (hs : 2147483647 < tt.size) : Calls Tryd.prog 10 #[.string tt, .bool b] w fun e w' => e = .returned (.bool true) ∧ Below w.heap.size w w' := by
  go_enter Tryd.func10, Tryd.ntmps10
  go_wp2_with (fail)
  go_ret
  exact ⟨rfl, Below.refl _ _⟩
set_option maxHeartbeats 1600000 in
set_option maxRecDepth 100000 in
theorem w10B (tt : ByteArray) (b : Bool) (w : World) (hs2 : tt.size ≤ 2147483647) : Calls Tryd.prog 10 #[.string tt, .bool b] w fun e w' => e = .returned (.bool true) ∧ Below w.heap.size w w' := by
  have H24 := Lib.hid (w24 tt b w (by omega))
  have HK := Lib.hid (fun w => fits8_calls tt w 9)
  generalize hd : decide (tt.size ≤ 1000) = d at HK
  clear hd
  go_enter Tryd.func10, Tryd.ntmps10
  go_wp2_with (fail)
  refine H24.out.mono ?_
  rintro e w1 ⟨rfl, b1⟩
  have B1 := Lib.hid b1
  clear b1
  go_wp2_with (fail)
  refine (HK.out _).mono ?_
  rintro e w2 ⟨rfl, b2⟩
  have B2 := Lib.hid b2
  clear b2
  cases d with
  | false =>
    go_wp2_with (fail)
    go_ret
    exact ⟨rfl, B1.out.trans (B2.out.mono B1.out.size)⟩
  | true =>
    go_wp2_with (fail)
    go_ret
    exact ⟨rfl, B1.out.trans (B2.out.mono B1.out.size)⟩
theorem w10 (tt : ByteArray) (b : Bool) (w : World) : Calls Tryd.prog 10 #[.string tt, .bool b] w fun e w' => e = .returned (.bool true) ∧ Below w.heap.size w w' := by
  by_cases h1 : 2147483647 < tt.size
  · exact w10A tt b w h1
  · exact w10B tt b w (by omega)
end Go.Proofs.YtiopeaponffmdaaDoor.PAll
-- YtiopeaponffmdaaDoorRa
namespace Go.Proofs.YtiopeaponffmdaaDoor
open Go.ChangeShapes Go.WideShapes Go.ChangeAt Go.RowKit

/-- AN ARRAY OF PAIRS -/
theorem cells_of_pairs {H : Type} {enc : TypeId × Value → H} {P : Program} {w : World} {base : Nat} {sp : Nat → Bool} {held : Bool} {fuel : Nat} {t e : TypeId} {n : Nat} {k : IntKind} {cs : List Value} {zs : List (Int × Int)} {p : List MemPlace}
    (ht : P.underlying t = some (.array n e)) {fs : Array Field} (he : P.underlying e = some (.struct fs)) (hf : ∀ (i : Nat) (f : Field), fs[i]? = some f → P.underlying f.type = some (.int k) ∧ f.offset = i ∧ P.cellsOf f.type = 1) (hfs : fs.size = 2) (hce : P.cellsOf e = 2)
    (h : DataW.trod enc P w base sp held fuel t cs = some (.agg (zs.map fun z => .agg [.lit (.int k z.1), .lit (.int k z.2)]), p)) :
    ∀ i z, zs[i]? = some z → cs[i * 2]? = some (.int k z.1) ∧ cs[i * 2 + 1]? = some (.int k z.2) := by
  cases fuel with
  | zero => simp [DataW.trod] at h
  | succ fuel =>
    simp only [DataW.trod, ht, hce] at h
    split at h
    · rename_i hl
      obtain ⟨xs, hm, hx⟩ := Option.map_eq_some_iff.1 h
      have hxs : xs.map (·.1) = zs.map fun z => (DataW.agg [.lit (.int k z.1), .lit (.int k z.2)] : DataW H) := by
        have := congrArg Prod.fst hx
        simpa using this
      have hxl : xs.length = n := by simpa using Lib.mapM_length hm
      have hzl : zs.length = n := by
        have := congrArg List.length hxs
        simp at this
        omega
      intro i z hz
      have hi : i < n := by
        have := (List.getElem?_eq_some_iff.1 hz).1
        omega
      obtain ⟨b, hb, hfb⟩ := Lib.mapM_at hm i i (by simp [hi])
      have h2 : (xs.map (·.1))[i]? = some b.1 := by simp [hb]
      rw [hxs, List.getElem?_map, hz] at h2
      simp only [Option.map_some, Option.some.injEq] at h2
      obtain ⟨b1, b2⟩ := b
      simp only at h2
      subst h2
      have hc := Lib.ints_of_struct (zs := [z.1, z.2]) he hf (by rw [hce, hfs]) hfb
      constructor
      · have := congrArg (·[0]?) hc
        simpa [List.getElem?_take, List.getElem?_drop] using this
      · have := congrArg (·[1]?) hc
        simpa [List.getElem?_take, List.getElem?_drop] using this
    · cases h

theorem own : ownKnob Tryd.prog.godebug = none := by kernel_rfl
theorem laidOut : laidOutB Tryd.prog = true := by kernel_rfl
theorem p10Ok : Tryd.prog.globalNamed "internal/strconv.pow10Tab" = some 3 := by kernel_rfl
theorem p10Ty : (Tryd.prog.globals[3]?).map (·.type) = some 118 := by kernel_rfl
theorem u10Ok : Tryd.prog.globalNamed "internal/strconv.uint64pow10" = some 2 := by kernel_rfl
theorem u10Ty : (Tryd.prog.globals[2]?).map (·.type) = some 109 := by kernel_rfl
theorem cells25 : Tryd.prog.cellsOf 25 = 1 := by kernel_rfl
theorem cells117 : Tryd.prog.cellsOf 117 = 2 := by kernel_rfl
theorem cells109 : Tryd.prog.cellsOf 109 = 20 := by kernel_rfl
theorem und118 : Tryd.prog.underlying 118 = some (.array 696 117) := by kernel_rfl
theorem fields117 : ∀ (i : Nat) (f : Field), (#[{ name := "hi", type := 25, offset := 0, embedded := false, tag := "", pkgPath := "internal/strconv", byteOffset := 0 }, { name := "lo", type := 25, offset := 1, embedded := false, tag := "", pkgPath := "internal/strconv", byteOffset := 8 }] : Array Field)[i]? = some f → Tryd.prog.underlying f.type = some (.int .u64) ∧ f.offset = i ∧ Tryd.prog.cellsOf f.type = 1 := by
  intro i f h
  match i, h with
  | 0, h => cases h; exact ⟨Tryd.underlying25, rfl, cells25⟩
  | 1, h => cases h; exact ⟨Tryd.underlying25, rfl, cells25⟩
  | i + 2, h => simp at h
theorem und109 : Tryd.prog.underlying 109 = some (.array 20 25) := by kernel_rfl

/-- the tables, out of the row's condition -/
theorem rdy_of {W : World} {l : List (String × DataW Unit)} (hd : laidMet Tryd.prog l W) (h1 : ("internal/strconv.uint64pow10", (Rows.laid_internal_strconv_uint64pow10 : DataW Unit)) ∈ l) (h2 : ("internal/strconv.pow10Tab", Rows.laid_internal_strconv_pow10Tab) ∈ l) : PAll.Rdy W := by
  obtain ⟨g, t, cs, fuel, p, a1, a2, a3, a4⟩ := Lib.laidMet.reads hd h1
  obtain rfl := Option.some.inj (u10Ok.symm.trans a1)
  obtain rfl := Option.some.inj (u10Ty.symm.trans a2)
  have e1 : (Rows.laid_internal_strconv_uint64pow10 : DataW Unit) = Lib.tabData .u64 Lib.pow10Tab := by kernel_rfl
  rw [e1] at a4
  have hc1 := Lib.cells_of_tab und109 Tryd.underlying25 cells25 cells109 a4
  obtain ⟨g, t, cs', fuel', p', b1, b2, b3, b4⟩ := Lib.laidMet.reads hd h2
  obtain rfl := Option.some.inj (p10Ok.symm.trans b1)
  obtain rfl := Option.some.inj (p10Ty.symm.trans b2)
  have e2 : Rows.laid_internal_strconv_pow10Tab = .agg ((Go.Pinned.pow10Rows.map fun x => (((x.1 : Int), (x.2 : Int)) : Int × Int)).map fun z => .agg [.lit (.int .u64 z.1), .lit (.int .u64 z.2)]) := by
    show Go.Pinned.pow10Tab = _
    unfold Go.Pinned.pow10Tab
    rw [List.map_map]
    rfl
  rw [e2] at b4
  have hc2 := cells_of_pairs und118 Tryd.underlying117 fields117 rfl cells117 b4
  have tab1 : Lib.TabIs Tryd.prog W "internal/strconv.uint64pow10" .u64 Lib.pow10Tab := by
    unfold Lib.TabIs
    rw [a3, ← hc1]
  have len : Go.Pinned.pow10Rows.length = 696 := by kernel_rfl
  have s3 : 3 < W.heap.size := by
    refine Nat.not_le.1 fun hle => ?_
    have : W.heap[3]? = none := Array.getElem?_eq_none hle
    simp [World.var?, p10Ok, this] at b3
  have cell : ∀ i, i < 696 → W.cell? ⟨3, i * 2, none⟩ = some (.int .u64 ((Go.Pinned.pow10Rows.getD i (0, 0)).1 : Int)) ∧ W.cell? ⟨3, i * 2 + 1, none⟩ = some (.int .u64 ((Go.Pinned.pow10Rows.getD i (0, 0)).2 : Int)) := by
    intro i hi
    have hz : (Go.Pinned.pow10Rows.map fun x => (((x.1 : Int), (x.2 : Int)) : Int × Int))[i]? = some (((Go.Pinned.pow10Rows.getD i (0, 0)).1 : Int), ((Go.Pinned.pow10Rows.getD i (0, 0)).2 : Int)) := by
      rw [List.getElem?_map, List.getD_eq_getElem?_getD, List.getElem?_eq_getElem (by rw [len]; exact hi)]
      rfl
    obtain ⟨c1, c2⟩ := hc2 i _ hz
    rw [World.var?_cell p10Ok b3, World.var?_cell p10Ok b3]
    exact ⟨by simpa using c1, by simpa using c2⟩
  intro V hV
  have k3 : V.heap[3]? = W.heap[3]? := hV.block 3 s3
  have k2 : V.heap[2]? = W.heap[2]? := hV.block 2 (by omega)
  refine ⟨⟨Nat.lt_of_lt_of_le s3 hV.size, fun i hi => ?_⟩, ?_⟩
  · have := cell i hi
    simp only [World.cell?, k3] at this ⊢
    exact this
  · unfold Lib.TabIs at tab1 ⊢
    rw [← tab1]
    simp only [World.var?, u10Ok, Option.bind_some, k2]
end Go.Proofs.YtiopeaponffmdaaDoor
-- YtiopeaponffmdaaDoorLFnFloatSigned
namespace Go.Proofs.YtiopeaponffmdaaDoor
open Go Go.ChangeShapes Go.WideShapes Go.ChangeAt Go.RowKit Go.ChangeMaps

theorem varsOkFnFloatSigned : varsRowed Tryd.prog Rows.fnFloatSignedSpec.vars = true := by kernel_rfl
set_option maxRecDepth 100000 in
theorem liftedFnFloatSigned (os : Os) (started : os.Started) (H : Type) (enc : TypeId × Value → H) :
    ReturnsInHanded {} Tryd.checked os 10 .any (fun w args => (Rows.fnFloatSignedSpec.pre enc Tryd.prog Tryd.f10 Rows.fnFloatSignedRow.domain false w args ∧ laidMetH Tryd.prog Rows.fnFloatSignedRow.laid w) ∧ sizedMet enc Tryd.prog Tryd.f10 (OpenSpec.ofChange Rows.fnFloatSignedSpec) false w args)
      (Rows.fnFloatSignedSpec.post enc Tryd.prog Tryd.f10 false true false false) := by
  refine returnsInHanded_of_change_and (C := Tryd.checked) (X := fun w _ => laidMetH Tryd.prog Rows.fnFloatSignedRow.laid w) (fun _ _ _ hh h => h.of_heap hh) own started (by kernel_rfl) Tryd.func10
    (ChangeSpec.witness_shaped (enc := enc) (C := Tryd.checked) (os := os) (X := fun w _ => laidMetH Tryd.prog Rows.fnFloatSignedRow.laid w) false (World.laidAll Tryd.prog os Rows.fnFloatSignedRow.laid) #[.string ⟨#[]⟩, .bool false] 8 (World.laidAll_os _ _ _)
      (World.shaped_of_ZipB (by kernel_rfl) (by kernel_rfl)) (by kernel_rfl) (by kernel_rfl) (by kernel_rfl)
      (by rw [MakeChecks.laidMetH_plain _ _ _ (by kernel_rfl)]; exact laidMet_laidAll _ (by kernel_rfl) (by kernel_rfl))) ?_
  intro W base args ds gs before hval0 hW hc _ hL _
  have hval : ∀ (j : Nat) t v, Tryd.f10.params[j]? = some t → args[j]? = some v → Value.okWide Tryd.prog W .any base t v := hval0
  have hW' := hW
  obtain ⟨p, q, hA0, hV, rfl, _, _⟩ := hW
  have hA : DataW.TrodAll enc Tryd.prog W 0 (fun _ => true) true Tryd.f10.params.toList args.toList ds p := hA0
  rw [Tryd.params10] at hA hval
  obtain ⟨v0, v1, d0, d1, p0, p1, rfl, rfl, rfl, h0, h1⟩ := trodAll_two hA
  obtain ⟨x0, rfl, rfl, rfl, wx0⟩ := open_string Tryd.underlying9 (hval 0 9 v0 rfl rfl) h0
  obtain ⟨x1, rfl, rfl, rfl⟩ := open_bool Tryd.underlying4 (hval 1 4 v1 rfl rfl) h1
  obtain ⟨rfl, rfl⟩ := trodVars_none hV
  rw [MakeChecks.laidMetH_plain _ _ _ (by kernel_rfl)] at hL
  have hR : PAll.Rdy W := rdy_of hL (by simp [Rows.fnFloatSignedRow]) (by simp [Rows.fnFloatSignedRow])
  have fin : Calls Tryd.prog 10 #[.string x0, .bool x1] W fun e w' => e = .returned (.bool true) ∧ Below W.heap.size W w' := by
    exact PAll.w10 x0 x1 W
  refine fin.mono fun e W' ⟨he, hb⟩ => ?_
  subst he
  exact ⟨_, rfl, _, _, _, [], [], _, hW', trodAll_mk1 (shut_bool Tryd.underlying4 true), trodAll_mk2 (shut_string Tryd.underlying9 wx0) (shut_bool Tryd.underlying4 x1), Below.trodVars laidOut hb varsOkFnFloatSigned hV, hb.frame _, fun h => by cases h⟩

theorem fnFloatSigned_holds : Rows.FnFloatSignedSaid :=
  OpenClaim.holds_of_wide 10 Tryd.f10 rfl rfl rfl rfl rfl rfl rfl ⟨rfl, rfl, rfl, rfl, rfl⟩ rfl rfl rfl rfl rfl (by kernel_rfl) Tryd.func10 (by kernel_rfl)
    (of_decide_eq_true (by kernel_rfl)) (by unfold Func.isWrapper; first | (rw [if_pos (by decide +kernel)]; kernel_rfl) | (rw [if_neg (by decide +kernel)]; exact ⟨rfl, rfl⟩))
    (fun os started H enc _ => liftedFnFloatSigned os started H enc)
theorem fnFloatSigned_card : Rows.FnFloatSignedCardSaid :=
  Claim7.holds_tied_plain_at .later [] [.data, .data, .data, .data, .pinned, .pinned] true (true, "de90ebed450df59327ce393381191af0e1580690049105112f683f9df6acb66c") false
    fnFloatSigned_holds (fun _ h => by cases h) (by kernel_rfl) (fun _ h => by cases h) fnFloatSigned_row_tie rfl ⟨rfl, rfl⟩ (by kernel_rfl) rfl
    (fun f fn hf hfn => by
      obtain rfl : f = 10 := Option.some.inj ((show Tryd.prog.funcNamed "loop.example/pub-g01450/laws.FnFloatSigned" = some 10 by kernel_rfl).symm.trans hf) |>.symm
      obtain rfl : fn = Tryd.f10 := (Option.some.inj (Tryd.func10.symm.trans hfn)).symm
      exact ⟨by kernel_rfl, fun j t ht => by
        rw [Tryd.params10] at ht
        have h4 : t = 9 ∨ t = 4 := by
          rcases j with _ | j
          · simp at ht; subst ht; simp
          rcases j with _ | j
          · simp at ht; subst ht; simp
          · simp at ht
        rcases h4 with rfl | rfl
        · exact (show Tryd.prog.wantsStandIn 9 = false by kernel_rfl)
        · exact (show Tryd.prog.wantsStandIn 4 = false by kernel_rfl)⟩)
    (by kernel_rfl)
end Go.Proofs.YtiopeaponffmdaaDoor
