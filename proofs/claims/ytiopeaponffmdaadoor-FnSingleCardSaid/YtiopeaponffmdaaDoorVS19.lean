/- The texts of a proof, its declarations alone: part 19. -/
import Derived.Lib.AppendStr
import Derived.Lib.ConvBytes
import Derived.Lib.SmallJoins
import Derived.Test.YtiopeaponffmdaaDoorVS12
import Derived.Test.YtiopeaponffmdaaDoorVS15
import Derived.Test.YtiopeaponffmdaaDoorVS17
import Derived.Test.YtiopeaponffmdaaDoorVS18
set_option linter.unusedVariables false
set_option linter.unusedSimpArgs false
-- YtiopeaponffmdaaDoorRn
namespace Go.Proofs.YtiopeaponffmdaaDoor.PAll
open Go.RowKit Go.Proofs.YtiopeaponffmdaaDoorW.PrintWords Go.Proofs.YtiopeaponffmdaaDoorW.PrintLast Go.Proofs.YtiopeaponffmdaaDoorW.PrintMore
open Go.Builtin Go.Lib
set_option linter.unusedVariables false
theorem strCells_nums (s : ByteArray) : strCells s = nums .u8 (bytesOf s) := by simp [nums, bytesOf, strCells]
section
variable {w w1 W : World} {e base b : Nat} {ok : Nat → Prop} {v u : Value} {xs ys : List Int}
theorem RM_block {g n cap : Nat} (h : RM e W base ok (.slice (some ⟨g, 0, none⟩) n cap) xs) : ∃ cur fz, base ≤ g ∧ W.heap[g]? = some (.cells cur e fz) ∧ FreeM fz cur.size ∧ xs.length ≤ cap ∧ cap ≤ maxLen ∧ cur.size = cap ∧ cur.toList.take xs.length = nums .u8 xs ∧ n = xs.length := by
  rcases h.2.2 with ⟨h1, h2⟩ | ⟨g', cap', cur, fz, h1, hb, hg, hfz, h3, h4, h5, h6⟩
  · simp at h1
  · injection h1 with q1 q2 q3
    injection q1 with q1
    injection q1 with q1
    subst q1 q3
    exact ⟨cur, fz, hb, hg, hfz, h3, h4, h5, h6, q2⟩
theorem RM_put {g n cap : Nat} (h : RM e W base ok (.slice (some ⟨g, 0, none⟩) n cap) xs) (i : Nat) (hi : i < xs.length) (x : Int) :
    RM e (W.setCell ⟨g, i, none⟩ (.int .u8 x)) base ok (.slice (some ⟨g, 0, none⟩) n cap) (xs.set i x) := by
  obtain ⟨cur, fz, h1, h2, h3, h4, h5, h6, h7, h8⟩ := RM_block h
  refine ⟨h.1, by simp [nums], .inr ⟨g, cap, cur.setIfInBounds i (.int .u8 x), fz, by rw [List.length_set, h8], h1, ?_, by simpa using h3, by rw [List.length_set]; exact h4, h5, by simpa using h6, ?_⟩⟩
  · rw [setCell_eq_setRow W g i cur e fz _ h2]
    exact setRow_heap W g cur _ e _ h2
  · rw [List.length_set, Array.toList_setIfInBounds, List.take_set, h7]
    simp [nums]
theorem RM_take {n m cap : Nat} {A : Option Addr} (h : RM e W base ok (.slice A n cap) xs) (hm : m ≤ xs.length) : RM e W base ok (.slice A m cap) (xs.take m) := by
  have hl : (xs.take m).length = m := by rw [List.length_take]; omega
  rcases h.2.2 with ⟨h1, h2⟩ | ⟨g', cap', cur, fz, h1, hb, hg, hfz, h3, h4, h5, h6⟩
  · injection h1 with q1 q2 q3
    subst q1 q3
    obtain rfl : m = 0 := by omega
    exact ⟨fun k hk => by simp [Value.ownBlock] at hk, by simp [nums], .inl ⟨rfl, by simp⟩⟩
  · injection h1 with q1 q2 q3
    subst q1 q3
    refine ⟨fun k hk => h.1 k (by simpa [Value.ownBlock] using hk), by simp [nums], .inr ⟨g', cap, cur, fz, by rw [hl], hb, hg, hfz, by omega, h4, h5, ?_⟩⟩
    rw [hl]
    have := congrArg (List.take m) h6
    rw [List.take_take, Nat.min_eq_left hm] at this
    rw [this]
    simp [nums, List.map_take]
theorem RM_cell {g n cap : Nat} (h : RM e W base ok (.slice (some ⟨g, 0, none⟩) n cap) xs) (i : Nat) (hi : i < xs.length) :
    W.cell? ⟨g, i, none⟩ = some (.int .u8 (xs.getD i 0)) ∧ W.frozen? ⟨g, i, none⟩ = false := by
  obtain ⟨cur, fz, h1, h2, h3, h4, h5, h6, h7, h8⟩ := RM_block h
  constructor
  · rw [cell_of_row W g i cur e fz h2]
    have := nums_get xs i hi
    rw [← h7, List.getElem?_take] at this
    rw [if_pos hi] at this
    simpa using this
  · have := h3 i (by omega)
    obtain ⟨lo, hi'⟩ := fz
    simp only [World.frozen?, h2, Bool.and_eq_false_iff, decide_eq_false_iff_not]
    simp only at this
    omega
/-- the row of a conversion of a string -/
theorem RM_bytes (w : World) (e : TypeId) (s : ByteArray) (hs : s.size ≤ 140737488355328) (hb : base ≤ w.heap.size) (hok : ok w.heap.size) : RM e (bytesWorld w e s) base ok (.slice (some ⟨w.heap.size, 0, none⟩) s.size (grownCap w s.size 0 e)) (bytesOf s) := by
  have hge := grownCap_ge w s.size 0 e
  have hcm : grownCap w s.size 0 e ≤ maxLen := grownCap_le_maxLen w s.size 0 e (by simp only [maxLen]; omega)
  have hsz : (bytesCells w e s).size = grownCap w s.size 0 e := by
    have : s.data.size = s.size := rfl
    simp only [bytesCells, Array.size_append, Array.size_map, Array.size_replicate, this]; omega
  refine ⟨fun k hk => by simp [Value.ownBlock] at hk; rw [← hk]; exact hok, by rw [nums_length], .inr ⟨w.heap.size, grownCap w s.size 0 e, bytesCells w e s, _, by rw [bytesOf_length], hb, bytesWorld_at_new w e s, ?_, by rw [bytesOf_length]; exact hge, hcm, hsz, ?_⟩⟩
  · intro k hk h
    simp only at h
    omega
  · rw [bytesOf_length, ← strCells_nums]
    simp only [bytesCells, Array.toList_append]
    have : (s.data.map fun b => Value.int IntKind.u8 b.toNat).toList = strCells s := by simp [strCells]
    rw [this, ← strCells_length s]
    exact List.take_left
end
end Go.Proofs.YtiopeaponffmdaaDoor.PAll
-- YtiopeaponffmdaaDoorFd
namespace Go.Proofs.YtiopeaponffmdaaDoor.PAll
open Go.RowKit Go.Proofs.YtiopeaponffmdaaDoorW.PrintWords Go.Proofs.YtiopeaponffmdaaDoorW.PrintLast Go.Proofs.YtiopeaponffmdaaDoorW.PrintMore
attribute [local go_sem] max2_int min2_int max_two min_two max_three min_three max_four min_four
/-- the buffer's numbers: nd digits of D, zeros behind -/
def bufL (D nd : Nat) : List Int := (List.range 32).map fun j => if j < nd then ((48 + D / 10 ^ (nd - 1 - j) % 10 : Nat) : Int) else 0
theorem bufL_length (D nd : Nat) : (bufL D nd).length = 32 := by simp [bufL]
theorem bufL_at (D nd j : Nat) (hj : j < 32) : (bufL D nd).getD j 0 = if j < nd then ((48 + D / 10 ^ (nd - 1 - j) % 10 : Nat) : Int) else 0 := by
  simp [bufL, List.getD_eq_getElem?_getD, hj]

theorem buf_reads (W : World) (b D nd : Nat) (c' : Array Value) (T : TypeId) (hb : W.heap[b]? = some (.cells c' T (0, 0)))
    (h1 : ∀ j, j < nd → c'[j]? = some (.int .u8 ((48 + D / 10 ^ (nd - 1 - j) % 10 : Nat) : Int))) (h2 : ∀ j, nd ≤ j → c'[j]? = (Array.replicate 32 (Value.int .u8 0))[j]?) :
    Kd.C (Kd.int .u8) W (some ⟨b, 0, none⟩) (bufL D nd).length (bufL D nd) := by
  refine Kd.C_of_reads (enc := Value.int .u8) (d := (0 : Int)) (h1 := fun _ => rfl) ?_
  refine ⟨rfl, by rw [bufL_length]; omega, fun _ => ⟨_, rfl, fun j hj => ?_⟩⟩
  rw [bufL_length] at hj
  rw [add_plain, blk_cell hb]
  rw [bufL_at D nd j hj]
  by_cases h : j < nd
  · rw [h1 j h, if_pos h]
  · rw [h2 j (by omega), if_neg h, Array.getElem?_replicate, if_pos hj]

/-- what is known of the number of digits left -/
def Left (D nd k : Nat) : Prop := 1 ≤ k ∧ k ≤ nd ∧ (∀ j, k ≤ j → j < nd → D / 10 ^ (nd - 1 - j) % 10 = 0) ∧ D / 10 ^ (nd - k) % 10 ≠ 0

def FtPost (w0 : World) (R : List Int → Prop) (e : Ending) (w' : World) : Prop :=
  ∃ (v : Value) (r : List Int), e = .returned v ∧ R r ∧ RM 5 w' w0.heap.size (fun _ => True) v r ∧ Below w0.heap.size w0 w'

/-- what stands ready at the call of fmtEFG -/
theorem efg_ready {P0_ : Nat → Prop} {v0 : Value} {l0 : List Int} {D nd : Nat} {w0 w W2 W3 : World} {c' : Array Value} (hB : Below w0.heap.size w0 w) (ho : RM 5 w w0.heap.size P0_ v0 l0)
    (b2 : Below w.heap.size w W2) (g1 : W3.heap[w.heap.size]? = some (.cells c' 82 (0, 0)))
    (g3 : ∀ j, j < nd → c'[j]? = some (.int .u8 ((48 + D / 10 ^ (nd - 1 - j) % 10 : Nat) : Int))) (g4 : ∀ j, nd ≤ j → c'[j]? = (Array.replicate 32 (Value.int .u8 0))[j]?)
    (g5 : KeepBut W2.drew W3 w.heap.size none) (g6 : ∀ B w0, B ≤ w.heap.size → Below B w0 W2.drew → Below B w0 W3) :
    Below w0.heap.size w0 W3 ∧ RM 5 W3 w0.heap.size (fun q => P0_ q ∧ q < w.heap.size) v0 l0 ∧
      (∀ W_, Kept W3 W_ (fun q => P0_ q ∧ q < w.heap.size) → Kd.C (Kd.int .u8) W_ (some ⟨w.heap.size, 0, none⟩) (bufL D nd).length (bufL D nd)) := by
  refine ⟨g6 _ _ hB.size (below_drew (below_then hB hB.size b2)), ?_, ?_⟩
  · refine RM_step (RM_mono (RM_bound ho) (fun k hk => ⟨hk.1, hk.2.2⟩)) (fun k hk _ => ?_)
    have h1 := g5.2 k (Nat.lt_of_lt_of_le hk.2 b2.size) (by have := hk.2; omega) (by simp)
    exact h1.trans (b2.block k hk.2)
  · intro W_ hk
    refine buf_reads W_ w.heap.size D nd c' 82 ?_ g3 g4
    rw [hk.2 w.heap.size (blk_lt g1) (fun h => by have := h.2; omega)]
    exact g1

end Go.Proofs.YtiopeaponffmdaaDoor.PAll
-- YtiopeaponffmdaaDoorMj
namespace Go.Proofs.YtiopeaponffmdaaDoor.PAll
open Go.RowKit Go.Proofs.YtiopeaponffmdaaDoorW.PrintWords Go.Proofs.YtiopeaponffmdaaDoorW.PrintLast Go.Proofs.YtiopeaponffmdaaDoorW.PrintMore
open Fm

theorem dec_eq_map (D : Nat) : dec D = (List.range (dec D).length).map fun j => ((48 + D / 10 ^ ((dec D).length - 1 - j) % 10 : Nat) : Int) := by
  induction D using Nat.strongRecOn with
  | ind D ih =>
    by_cases h : D < 10
    · rw [dec_lt h]
      simp only [List.length_cons, List.length_nil, List.range_succ, List.range_zero, List.nil_append, List.map_cons, List.map_nil]
      rw [show 0 + 1 - 1 - 0 = 0 by decide, Nat.pow_zero, Nat.div_one, Nat.mod_eq_of_lt h]
    · have e := ih (D / 10) (by omega)
      have hl : (dec D).length = (dec (D / 10)).length + 1 := by rw [dec_ge (n := D) (by omega)]; simp
      rw [hl, List.range_succ, List.map_append, dec_ge (n := D) (by omega)]
      congr 1
      · conv => lhs; rw [e]
        refine List.map_congr_left fun j hj => ?_
        have hj' := List.mem_range.1 hj
        rw [show (dec (D / 10)).length + 1 - 1 - j = (dec (D / 10)).length - 1 - j + 1 by omega, Nat.pow_succ, Nat.mul_comm, ← Nat.div_div_eq_div_mul]
      · simp only [List.map_cons, List.map_nil]
        rw [show (dec (D / 10)).length + 1 - 1 - (dec (D / 10)).length = 0 by omega, Nat.pow_zero, Nat.div_one]

theorem dec_div_len (D : Nat) : ∀ m, m < (dec D).length → (dec (D / 10 ^ m)).length = (dec D).length - m := by
  intro m
  induction m with
  | zero => intro _; rw [Nat.pow_zero, Nat.div_one]; rfl
  | succ m ih =>
    intro hm
    have h := ih (by omega)
    have h10 : 10 ≤ D / 10 ^ m := by
      refine Nat.not_lt.1 fun hlt => ?_
      rw [dec_lt hlt] at h
      simp only [List.length_cons, List.length_nil] at h
      omega
    rw [Nat.pow_succ, ← Nat.div_div_eq_div_mul]
    rw [dec_ge h10, List.length_append] at h
    simp only [List.length_cons, List.length_nil] at h
    omega

theorem cutz_div : ∀ (m D : Nat), (∀ i, i < m → D / 10 ^ i % 10 = 0) → D / 10 ^ m % 10 ≠ 0 → cutz D = D / 10 ^ m := by
  intro m
  induction m with
  | zero =>
    intro D _ h
    rw [Nat.pow_zero, Nat.div_one] at h ⊢
    exact cutz_neg (by omega)
  | succ m ih =>
    intro D h0 h
    have z := h0 0 (by omega)
    rw [Nat.pow_zero, Nat.div_one] at z
    rw [Nat.pow_succ, Nat.mul_comm, ← Nat.div_div_eq_div_mul] at h ⊢
    have h10 : 10 ≤ D := by
      refine Nat.not_lt.1 fun hlt => h ?_
      rw [show D / 10 = 0 by omega, Nat.zero_div]
    rw [cutz_pos h10 z]
    refine ih (D / 10) (fun i hi => ?_) h
    have := h0 (i + 1) (by omega)
    rwa [Nat.pow_succ, Nat.mul_comm, ← Nat.div_div_eq_div_mul] at this

theorem buf_take (D nd k : Nat) (hnd : nd = (dec D).length) (hk : Left D nd k) (h32 : nd ≤ 32) : (bufL D nd).take k = dec (cutz D) := by
  obtain ⟨k1, k2, k3, k4⟩ := hk
  have hc : cutz D = D / 10 ^ (nd - k) := by
    refine cutz_div (nd - k) D (fun i hi => ?_) k4
    have := k3 (nd - 1 - i) (by omega) (by omega)
    rwa [show nd - 1 - (nd - 1 - i) = i by omega] at this
  have hl := dec_div_len D (nd - k) (by omega)
  rw [hc, dec_eq_map (D / 10 ^ (nd - k)), hl, ← hnd, show nd - (nd - k) = k by omega]
  unfold bufL
  rw [← List.map_take, List.take_range, Nat.min_eq_left (by omega)]
  refine List.map_congr_left fun j hj => ?_
  have hj' := List.mem_range.1 hj
  rw [if_pos (by omega), Nat.div_div_eq_div_mul, ← Nat.pow_add, show nd - k + (k - 1 - j) = nd - 1 - j by omega]

theorem nDigits_dec (u : Nat) : Lib.nDigits u = (dec u).length := by
  induction u using Nat.strongRecOn with
  | ind u ih =>
    by_cases h : u < 10
    · rw [Lib.nDigits_small h, dec_lt h]; rfl
    · rw [Lib.nDigits_big h, dec_ge (by omega), List.length_append, ih _ (by omega)]; rfl

theorem T2_lt_succ (f c : Nat) : T2 f c < T2 f (c + 1) := by
  have hP : 0 < 2 ^ f := Nat.two_pow_pos f
  have e : c = c / 2 ^ f * 2 ^ f + c % 2 ^ f := by rw [Nat.mul_comm]; exact (Nat.div_add_mod _ _).symm
  have hm : c % 2 ^ f < 2 ^ f := Nat.mod_lt _ hP
  generalize c / 2 ^ f = q at e
  generalize c % 2 ^ f = m at e hm
  subst e
  rw [T2_at f q m hm, T2_up f q m hm]
  by_cases hq : q = 0
  · rw [if_pos hq, if_pos hq]; omega
  · rw [if_neg hq, if_neg hq]
    exact Nat.mul_lt_mul_of_pos_right (by omega) (Nat.two_pow_pos _)
theorem T2_mono (f : Nat) {x y : Nat} (h : x ≤ y) : T2 f x ≤ T2 f y := by
  induction y with
  | zero => obtain rfl : x = 0 := by omega
            exact Nat.le_refl _
  | succ y ih =>
    by_cases e : x = y + 1
    · rw [e]; exact Nat.le_refl _
    · exact Nat.le_trans (ih (by omega)) (Nat.le_of_lt (T2_lt_succ f y))
theorem T2_strict (f : Nat) {x y : Nat} (h : x < y) : T2 f x < T2 f y := Nat.lt_of_lt_of_le (T2_lt_succ f x) (T2_mono f h)
/-- the mantissa and the place of a code -/
def mgP (f x : Nat) : Nat × Nat := if x < 2 ^ f then (x, 0) else (2 ^ f + x % 2 ^ f, x / 2 ^ f - 1)
theorem mgP_T2 (f x : Nat) : T2 f x = (mgP f x).1 * 2 ^ (mgP f x).2 := by
  have hP : 0 < 2 ^ f := Nat.two_pow_pos f
  unfold T2 mgP
  by_cases h : x < 2 ^ f
  · rw [if_pos (Nat.div_eq_of_lt h), if_pos h, Nat.mod_eq_of_lt h, Nat.pow_zero, Nat.mul_one]
  · have : 1 ≤ x / 2 ^ f := (Nat.le_div_iff_mul_le hP).2 (by omega)
    rw [if_neg (by omega), if_neg h, Nat.add_comm]

theorem read_pos (F : Ieee.Format) (x : Nat) (h1 : F.infRung ≤ F.signWeight) (h2 : x < F.infRung) :
    F.read x = .number false (mgP F.fractionBits x).1 (F.leastPlace + ((mgP F.fractionBits x).2 : Nat)) := by
  have hs : x < F.signWeight := Nat.lt_of_lt_of_le h2 h1
  unfold Ieee.Format.read
  simp only [Nat.div_eq_of_lt hs, Nat.mod_eq_of_lt hs]
  unfold mgP Ieee.Format.binade
  by_cases h : x < 2 ^ F.fractionBits
  · rw [if_pos h, if_pos h]
    simp
  · rw [if_neg h, if_neg h, if_pos h2]
    rfl

theorem order_pos (F : Ieee.Format) (x y : Nat) (h1 : F.infRung ≤ F.signWeight) (hx : x < F.infRung) (hy : y < F.infRung) :
    F.order x y = some (if T2 F.fractionBits x < T2 F.fractionBits y then .lt else if T2 F.fractionBits x = T2 F.fractionBits y then .eq else .gt) := by
  unfold Ieee.Format.order
  rw [read_pos F x h1 hx, read_pos F y h1 hy, mgP_T2, mgP_T2]
  generalize (mgP F.fractionBits x).1 = m
  generalize (mgP F.fractionBits x).2 = i
  generalize (mgP F.fractionBits y).1 = n
  generalize (mgP F.fractionBits y).2 = j
  generalize F.leastPlace = L
  unfold Ieee.Datum.order Ieee.signed
  simp only [Nat.shiftLeft_eq]
  congr 1
  obtain ⟨b, hb⟩ : ∃ b, b = min i j := ⟨_, rfl⟩
  have e1 : (L + (i : Int) - min (L + (i : Int)) (L + (j : Int))).toNat = i - b := by omega
  have e2 : (L + (j : Int) - min (L + (i : Int)) (L + (j : Int))).toNat = j - b := by omega
  rw [e1, e2]
  have g1 : m * 2 ^ i = m * 2 ^ (i - b) * 2 ^ b := by rw [Nat.mul_assoc, ← Nat.pow_add]; congr 2; omega
  have g2 : n * 2 ^ j = n * 2 ^ (j - b) * 2 ^ b := by rw [Nat.mul_assoc, ← Nat.pow_add]; congr 2; omega
  have hp : 0 < 2 ^ b := Nat.two_pow_pos b
  rw [g1, g2]
  generalize m * 2 ^ (i - b) = A
  generalize n * 2 ^ (j - b) = B
  rw [if_neg (by decide), if_neg (by decide)]
  show compareOfLessAndEq ((A : Nat) : Int) ((B : Nat) : Int) = _
  unfold compareOfLessAndEq
  rcases Nat.lt_trichotomy A B with h | h | h
  · rw [if_pos (by omega), if_pos (Nat.mul_lt_mul_of_pos_right h hp)]
  · subst h
    rw [if_neg (by omega), if_pos rfl, if_neg (by omega), if_pos rfl]
  · have := Nat.mul_lt_mul_of_pos_right h hp
    rw [if_neg (by omega), if_neg (by omega), if_neg (by omega), if_neg (by omega)]

theorem ShAt.inn {f c a : Nat} {n : Int} {k x : Nat} (h : ShAt f c a n k x) : Inn ((T2 f (c - 1) + T2 f c) * 10 ^ a) ((T2 f c + T2 f (c + 1)) * 10 ^ a) (decide (c % 2 = 0)) (x * Ug f n a k) := refStep_some h.some

theorem thr (f c0 a : Nat) (i : Int) (ha : 400 ≤ a) (hi : -100 ≤ i) (hc0 : 1 ≤ c0) (hlow : (T2 f (c0 - 1) + T2 f c0) * 10 ^ a < 2 ^ (lst f + 1) * 10 ^ (i + (a : Int)).toNat) (hhigh : 2 ^ (lst f + 1) * 10 ^ (i + (a : Int)).toNat < (T2 f c0 + T2 f (c0 + 1)) * 10 ^ a)
    (hat : ∀ n k x, ShAt f c0 a n k x → n + ((dec x).length : Int) - (k : Int) = i + 1) {c : Nat} {n : Int} {k x : Nat} (h : ShAt f c a n k x) (hx : 0 < x) :
    n + ((dec x).length : Int) - (k : Int) ≤ i ↔ c < c0 := by
  have hL0 : 0 < 2 ^ (lst f + 1) := Nat.two_pow_pos _
  have n0 := h.n0
  have k2 := h.k2
  rcases Nat.lt_trichotomy c c0 with hlt | heq | hgt
  · refine ⟨fun _ => hlt, fun _ => ?_⟩
    have h1 : x * Ug f n a k ≤ (T2 f c + T2 f (c + 1)) * 10 ^ a := by
      rcases h.inn.2 with h | h <;> omega
    have h2 : (T2 f c + T2 f (c + 1)) * 10 ^ a ≤ (T2 f (c0 - 1) + T2 f c0) * 10 ^ a := Nat.mul_le_mul_right _ (Nat.add_le_add (T2_mono f (by omega)) (T2_mono f (by omega)))
    have h3 : x * Ug f n a k < 2 ^ (lst f + 1) * 10 ^ (i + (a : Int)).toNat := by omega
    unfold Ug at h3
    rw [Nat.mul_left_comm] at h3
    have h4 := Nat.lt_of_mul_lt_mul_left h3
    have h5 := dec_lower x hx
    have h6 := dec_length_pos x
    have h7 : 10 ^ ((dec x).length - 1 + (n - (k : Int) + (a : Int)).toNat) < 10 ^ (i + (a : Int)).toNat := by
      rw [Nat.pow_add]
      exact Nat.lt_of_le_of_lt (Nat.mul_le_mul_right _ h5) h4
    have h8 := pow10_lt h7
    omega
  · subst heq
    have := hat n k x h
    exact ⟨fun h => by omega, fun h => by omega⟩
  · refine ⟨fun hle => ?_, fun h => by omega⟩
    exfalso
    have h1 : (T2 f (c - 1) + T2 f c) * 10 ^ a ≤ x * Ug f n a k := by
      rcases h.inn.1 with h | h <;> omega
    have h2 : (T2 f c0 + T2 f (c0 + 1)) * 10 ^ a ≤ (T2 f (c - 1) + T2 f c) * 10 ^ a := Nat.mul_le_mul_right _ (Nat.add_le_add (T2_mono f (by omega)) (T2_mono f (by omega)))
    have h3 : 2 ^ (lst f + 1) * 10 ^ (i + (a : Int)).toNat < x * Ug f n a k := by omega
    unfold Ug at h3
    rw [Nat.mul_left_comm] at h3
    have h4 := Nat.lt_of_mul_lt_mul_left h3
    have h5 := dec_upper x
    have h7 : 10 ^ (i + (a : Int)).toNat < 10 ^ ((dec x).length + (n - (k : Int) + (a : Int)).toNat) := by
      rw [Nat.pow_add]
      exact Nat.lt_of_lt_of_le h4 (Nat.mul_le_mul_right _ (Nat.le_of_lt h5))
    have h8 := pow10_lt h7
    omega
end Go.Proofs.YtiopeaponffmdaaDoor.PAll
-- YtiopeaponffmdaaDoorMk
namespace Go.Proofs.YtiopeaponffmdaaDoor.PAll
open Go.RowKit Go.Proofs.YtiopeaponffmdaaDoorW.PrintWords Go.Proofs.YtiopeaponffmdaaDoorW.PrintLast Go.Proofs.YtiopeaponffmdaaDoorW.PrintMore
open Fm

theorem Ug_anti (f : Nat) (n m : Int) (a k l : Nat) (h : n - (k : Int) ≤ m - (l : Int)) : Ug f n a k ≤ Ug f m a l := Nat.mul_le_mul_left _ (Nat.pow_le_pow_right (by decide) (by omega))

theorem hat_of (f c0 a x0 : Nat) (n0 i : Int) (hb1 : Ug f n0 a 1 ≤ T2 f c0 * 2 ^ 1 * 10 ^ a) (hb2 : T2 f c0 * 2 ^ 1 * 10 ^ a < Ug f n0 a 0)
    (hs : refStep (T2 f c0 * 2 ^ 1 * 10 ^ a) ((T2 f (c0 - 1) + T2 f c0) * 10 ^ a) ((T2 f c0 + T2 f (c0 + 1)) * 10 ^ a) (decide (c0 % 2 = 0)) (Ug f n0 a 1) = some x0)
    (hi : n0 + ((dec x0).length : Int) - 1 = i + 1) : ∀ n k x, ShAt f c0 a n k x → n + ((dec x).length : Int) - (k : Int) = i + 1 := by
  intro n k x h
  have h1 := h.low
  have h2 := h.high
  have hn : n = n0 := by
    rcases Int.lt_trichotomy n n0 with hl | he | hg
    · have := Ug_anti f n n0 a 0 1 (by omega)
      omega
    · exact he
    · have := Ug_anti f n0 n a 0 1 (by omega)
      omega
  subst hn
  have hk1 := h.k1
  have hk : k = 1 := by
    refine Nat.le_antisymm (Nat.not_lt.1 fun hlt => ?_) hk1
    have := h.none 1 (Nat.le_refl _) hlt
    rw [hs] at this
    cases this
  subst hk
  have := h.some
  rw [hs] at this
  obtain rfl : x0 = x := Option.some.inj this
  omega

def thrB (f c0 a x0 : Nat) (n0 i : Int) : Bool :=
  decide ((T2 f (c0 - 1) + T2 f c0) * 10 ^ a < 2 ^ (lst f + 1) * 10 ^ (i + (a : Int)).toNat) && decide (2 ^ (lst f + 1) * 10 ^ (i + (a : Int)).toNat < (T2 f c0 + T2 f (c0 + 1)) * 10 ^ a) &&
  decide (Ug f n0 a 1 ≤ T2 f c0 * 2 ^ 1 * 10 ^ a) && decide (T2 f c0 * 2 ^ 1 * 10 ^ a < Ug f n0 a 0) &&
  decide (refStep (T2 f c0 * 2 ^ 1 * 10 ^ a) ((T2 f (c0 - 1) + T2 f c0) * 10 ^ a) ((T2 f c0 + T2 f (c0 + 1)) * 10 ^ a) (decide (c0 % 2 = 0)) (Ug f n0 a 1) = some x0)
theorem thr_of {f c0 a x0 : Nat} {n0 i : Int} (h : thrB f c0 a x0 n0 i = true) (ha : 400 ≤ a) (hi : -100 ≤ i) (hc0 : 1 ≤ c0) (hi2 : n0 + ((dec x0).length : Int) - 1 = i + 1) {c : Nat} {n : Int} {k x : Nat} (hs : ShAt f c a n k x) (hx : 0 < x) :
    n + ((dec x).length : Int) - (k : Int) ≤ i ↔ c < c0 := by
  unfold thrB at h
  simp only [Bool.and_eq_true, decide_eq_true_eq, and_assoc] at h
  obtain ⟨h1, h2, h3, h4, h5⟩ := h
  exact thr f c0 a i ha hi hc0 h1 h2 (hat_of f c0 a x0 n0 i h3 h4 h5 hi2) hs hx
theorem thr3 : thrB 23 897988541 400 10 (-6) (-6) = true := by kernel_rfl
theorem thr4 : thrB 23 1649989415 400 1 22 21 = true := by kernel_rfl
theorem dec10 : (dec 10).length = 2 := by rw [dec_ge (by decide), dec_lt (by decide)]; rfl
theorem dec1 : (dec 1).length = 1 := by rw [dec_lt (by decide)]; rfl
theorem place32 {c a : Nat} {n : Int} {k x : Nat} (ha : a = 400) (hs : ShAt 23 c a n k x) (hx : 0 < x) :
    (n + ((dec x).length : Int) - (k : Int) ≤ -6 ↔ c < 897988541) ∧ (n + ((dec x).length : Int) - (k : Int) ≤ 21 ↔ c < 1649989415) := by
  subst ha
  exact ⟨thr_of thr3 (by decide) (by decide) (by decide) (by rw [dec10]; rfl) hs hx, thr_of thr4 (by decide) (by decide) (by decide) (by rw [dec1]; rfl) hs hx⟩
end Go.Proofs.YtiopeaponffmdaaDoor.PAll
