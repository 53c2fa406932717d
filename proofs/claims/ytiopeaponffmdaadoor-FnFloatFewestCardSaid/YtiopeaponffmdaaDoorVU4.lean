/- The texts of a proof, its declarations alone: part 4. -/
import Derived.Test.YtiopeaponffmdaaDoorVU3
set_option linter.unusedVariables false
set_option linter.unusedSimpArgs false
-- YtiopeaponffmdaaDoorNa
namespace Go.Proofs.YtiopeaponffmdaaDoor.PAll
open Go.RowKit Go.Proofs.YtiopeaponffmdaaDoorW.PrintWords Go.Proofs.YtiopeaponffmdaaDoorW.PrintLast Go.Proofs.YtiopeaponffmdaaDoorW.PrintMore

/-- answers r, whenever the fuel is great enough -/
def Ev {α : Type} (g : Nat → Option α) (r : α) : Prop := ∃ K, ∀ k, K ≤ k → g k = some r
theorem Ev.bind {α β : Type} {g : Nat → Option α} {h : Nat → α → Option β} {a : α} {b : β} (h1 : Ev g a) (h2 : Ev (fun k => h k a) b) : Ev (fun k => (g k).bind fun t => h k t) b := by
  obtain ⟨K1, h1⟩ := h1
  obtain ⟨K2, h2⟩ := h2
  refine ⟨K1 + K2, fun k hk => ?_⟩
  have e1 := h1 k (by omega)
  have e2 := h2 k (by omega)
  simp only [e1, Option.bind_some]
  exact e2
theorem Ev.pure {α : Type} (a : α) : Ev (fun _ => some a) a := ⟨0, fun _ _ => rfl⟩
theorem Ev.succ {α : Type} {g f : Nat → Option α} {r : α} (hf : ∀ k, f (k + 1) = g k) (h : Ev g r) : Ev f r := by
  obtain ⟨K, h⟩ := h
  refine ⟨K + 1, fun k hk => ?_⟩
  obtain ⟨j, rfl⟩ : ∃ j, k = j + 1 := ⟨k - 1, by omega⟩
  rw [hf]
  exact h j (by omega)
theorem Ev.congr {α : Type} {g f : Nat → Option α} {r : α} (h : Ev g r) (e : ∀ k, f k = g k) : Ev f r := by
  obtain ⟨K, h⟩ := h
  exact ⟨K, fun k hk => by rw [e]; exact h k hk⟩

/-- the digits of a number -/
def dg (n : Nat) : List Int := if h : n = 0 then [] else ((n % 4294967296 : Nat) : Int) :: dg (n / 4294967296)
termination_by n
decreasing_by omega
theorem dg_zero : dg 0 = [] := by rw [dg]; simp
theorem dg_pos {n : Nat} (h : 0 < n) : dg n = ((n % 4294967296 : Nat) : Int) :: dg (n / 4294967296) := by
  rw [dg, dif_neg (by omega)]
def nv : List Int → Nat
  | [] => 0
  | d :: r => d.toNat + 4294967296 * nv r
def Dg (l : List Int) : Prop := ∀ d ∈ l, 0 ≤ d ∧ d < 4294967296
theorem Dg.nil : Dg [] := fun _ h => by cases h
theorem Dg.cons {d : Int} {l : List Int} (h0 : 0 ≤ d) (h1 : d < 4294967296) (h : Dg l) : Dg (d :: l) := fun x hx => by
  rcases List.mem_cons.1 hx with rfl | hx
  · exact ⟨h0, h1⟩
  · exact h x hx
theorem Dg.tail {d : Int} {l : List Int} (h : Dg (d :: l)) : Dg l := fun x hx => h x (List.mem_cons_of_mem _ hx)
theorem Dg.head {d : Int} {l : List Int} (h : Dg (d :: l)) : 0 ≤ d ∧ d < 4294967296 := h d List.mem_cons_self
theorem Dg.append {l r : List Int} (h : Dg l) (h2 : Dg r) : Dg (l ++ r) := fun x hx => by
  rcases List.mem_append.1 hx with hx | hx
  · exact h x hx
  · exact h2 x hx
theorem Dg.take {l : List Int} (h : Dg l) (n : Nat) : Dg (l.take n) := fun x hx => h x (List.mem_of_mem_take hx)
theorem nv_dg (n : Nat) : nv (dg n) = n := by
  induction n using Nat.strongRecOn with
  | ind n ih =>
    by_cases h : n = 0
    · subst h; rw [dg_zero]; rfl
    · rw [dg_pos (by omega), nv, ih _ (by omega), Int.toNat_natCast]
      omega
theorem Dg_dg (n : Nat) : Dg (dg n) := by
  induction n using Nat.strongRecOn with
  | ind n ih =>
    by_cases h : n = 0
    · subst h; rw [dg_zero]; exact Dg.nil
    · rw [dg_pos (by omega)]
      exact Dg.cons (by omega) (by omega) (ih _ (by omega))
theorem nv_append (l r : List Int) : nv (l ++ r) = nv l + 4294967296 ^ l.length * nv r := by
  induction l with
  | nil => simp [nv]
  | cons d l ih =>
    simp only [List.cons_append, nv, ih, List.length_cons, Nat.pow_succ]
    grind
theorem nv_lt {l : List Int} (h : Dg l) : nv l < 4294967296 ^ l.length := by
  induction l with
  | nil => simp [nv]
  | cons d l ih =>
    have h1 := ih h.tail
    have h2 := h.head
    simp only [nv, List.length_cons, Nat.pow_succ]
    omega
theorem dg_nv {l : List Int} (h : Dg l) (hl : ∀ q d, l = q ++ [d] → d ≠ 0) : dg (nv l) = l := by
  induction l with
  | nil => exact dg_zero
  | cons d l ih =>
    have h2 := h.head
    have ht : dg (nv l) = l := ih h.tail (fun q e hq => hl (d :: q) e (by rw [hq]; rfl))
    have hp : 0 < nv (d :: l) := by
      rcases l with _ | ⟨x, l⟩
      · have := hl [] d rfl
        simp only [nv]; omega
      · have : nv (x :: l) ≠ 0 := fun h0 => by rw [h0, dg_zero] at ht; cases ht
        rw [nv]; omega
    rw [dg_pos hp]
    have e1 : nv (d :: l) % 4294967296 = d.toNat := by rw [nv]; omega
    have e2 : nv (d :: l) / 4294967296 = nv l := by rw [nv]; omega
    rw [e1, e2, ht]
    congr 1
    omega
theorem dg_length {n m : Nat} (h : n < 4294967296 ^ m) : (dg n).length ≤ m := by
  induction n using Nat.strongRecOn generalizing m with
  | ind n ih =>
    by_cases h0 : n = 0
    · subst h0; rw [dg_zero]; simp
    · rcases m with _ | m
      · simp at h; omega
      · rw [dg_pos (by omega), List.length_cons]
        have : n / 4294967296 < 4294967296 ^ m := by
          rw [Nat.pow_succ] at h; omega
        have := ih _ (by omega) this
        omega
theorem lt_dg_length (n : Nat) : n < 4294967296 ^ (dg n).length := by
  have := nv_lt (Dg_dg n)
  rwa [nv_dg] at this

theorem trim_ev {l : List Int} (h : Dg l) (hl : l.length < 4611686018427387904) : Ev (fun k => spec_trim.f k l) (dg (nv l)) := by
  have main : ∀ i : Nat, i ≤ l.length → Ev (fun k => spec_trim.l0 k l (i : Int)) (dg (nv (l.take i))) := by
    intro i
    induction i with
    | zero =>
      intro _
      refine Ev.succ (g := fun _ => some []) (fun k => ?_) (by rw [List.take_zero]; simp only [nv, dg_zero]; exact Ev.pure _)
      rw [spec_trim.l0]
      simp
    | succ i ih =>
      intro hi
      have hw : wrap64 (((i + 1 : Nat) : Int) - 1) = (i : Int) := by unfold wrap64; omega
      have e1 : l.take (i + 1) = l.take i ++ [rd l (i : Int)] := by
        rw [List.take_add_one, List.getElem?_eq_getElem (by omega)]
        simp [rd, List.getD, List.getElem?_eq_getElem (show i < l.length by omega)]
      have hr := (h.take (i + 1)) (rd l (i : Int)) (by rw [e1]; simp)
      by_cases hz : rd l (i : Int) = 0
      · have e2 : nv (l.take (i + 1)) = nv (l.take i) := by rw [e1, nv_append, hz]; simp [nv]
        rw [e2]
        refine Ev.succ (fun k => ?_) (ih (by omega))
        rw [spec_trim.l0, hw, if_pos (by omega), if_pos (by omega), if_pos (by omega), if_pos hz]
      · have e3 : dg (nv (l.take (i + 1))) = l.take (i + 1) := by
          refine dg_nv (h.take _) (fun q d hq => ?_)
          rw [e1] at hq
          have := List.append_inj' hq rfl
          have h2 := this.2
          simp only [List.cons.injEq, and_true] at h2
          rw [← h2]; exact hz
        rw [e3]
        refine Ev.succ (g := fun _ => some (l.take (i + 1))) (fun k => ?_) (Ev.pure _)
        rw [spec_trim.l0, hw, if_pos (by omega), if_pos (by omega), if_pos (by omega), if_neg hz, if_pos (by omega), if_pos (by omega)]
        rfl
  have := main l.length (Nat.le_refl _)
  rw [List.take_length] at this
  exact this

/-- Times: the rounds -/
theorem Times_ev (x0 : List Int) (b m : Nat) (h : Dg x0) (hl : x0.length ≤ 1000000) (hb : b < 4294967296) (hm : m < 4294967296) :
    Ev (fun k => spec_Times.f k x0 (b : Int) (m : Int)) (dg (nv x0 * b + m)) := by
  have hu : ∀ x : Int, 0 ≤ x → x < 18446744073709551616 → IntKind.u64.wrap x = x := fun x h0 h1 => by rw [IntKind.wrap_u64]; omega
  -- the end: out is there, the carry spent
  have fin : ∀ (out : List Int) (i : Nat), x0.length ≤ i → i ≤ 1000010 → Dg out → out.length = i →
      Ev (fun k => spec_Times.l0 k x0 (b : Int) out 0 (i : Int)) (dg (nv out)) := by
    intro out i hi hi2 ho hlo
    refine Ev.succ (g := fun k => spec_Times.j1 k x0 (b : Int) out 0 (i : Int) false) (fun k => ?_) ?_
    · rw [spec_Times.l0, if_neg (by omega)]; rfl
    · refine Ev.succ (g := fun k => (spec_trim.f k out).bind fun t => some t) (fun k => ?_) ?_
      · rw [spec_Times.j1, if_neg (by decide)]
      · exact Ev.bind (trim_ev ho (by omega)) (Ev.pure _)
  have main : ∀ (n : Nat) (i c : Nat) (out : List Int), x0.length = i + n → i ≤ 1000000 → Dg out → out.length = i → c < 4294967296 →
      Ev (fun k => spec_Times.l0 k x0 (b : Int) out (c : Int) (i : Int)) (dg (nv out + 4294967296 ^ i * (nv (x0.drop i) * b + c))) := by
    intro n
    induction n with
    | zero =>
      intro i c out hn hi ho hlo hc
      have hd : x0.drop i = [] := List.drop_eq_nil_of_le (by omega)
      rw [hd]
      by_cases hc0 : c = 0
      · subst hc0
        have := fin out i (by omega) (by omega) ho hlo
        simpa [nv] using this
      · refine Ev.succ (g := fun k => spec_Times.j1 k x0 (b : Int) out (c : Int) (i : Int) true) (fun k => ?_) ?_
        · rw [spec_Times.l0, if_neg (by omega)]
          rw [show decide ((c : Int) > 0) = true by rw [decide_eq_true_iff]; omega]
        · have f := fin (out ++ [(c : Int)]) (i + 1) (by omega) (by omega) (ho.append (Dg.cons (by omega) (by omega) Dg.nil)) (by simp [hlo])
          rw [nv_append, hlo] at f
          refine Ev.succ (fun k => ?_) (show Ev _ (dg (nv out + 4294967296 ^ i * (nv [] * b + c))) from (by simpa [nv] using f))
          rw [spec_Times.j1, if_pos rfl, if_neg (by omega), if_pos (by omega)]
          have e1 : (c : Int) % 4294967296 = (c : Int) := by omega
          have e2 : (c : Int) / 4294967296 = 0 := by omega
          have e3 : wrap64 ((i : Int) + 1) = ((i + 1 : Nat) : Int) := by unfold wrap64; omega
          rw [e1, e2, e3]
          rfl
    | succ n ih =>
      intro i c out hn hi ho hlo hc
      have hil : i < x0.length := by omega
      obtain ⟨d, hd⟩ : ∃ d : Nat, rd x0 (i : Int) = (d : Int) ∧ d < 4294967296 := by
        have := h (rd x0 (i : Int)) (by simp [rd, List.getD, List.getElem?_eq_getElem hil])
        exact ⟨(rd x0 (i : Int)).toNat, by omega, by omega⟩
      obtain ⟨hd, hd2⟩ := hd
      have hdrop : x0.drop i = (d : Int) :: x0.drop (i + 1) := by
        rw [List.drop_eq_getElem_cons hil]
        congr 1
        rw [← hd]; simp [rd, List.getD, List.getElem?_eq_getElem hil]
      have hdb : d * b ≤ 4294967295 * 4294967295 := Nat.mul_le_mul (by omega) (by omega)
      obtain ⟨t, ht⟩ : ∃ t, t = c + d * b := ⟨_, rfl⟩
      have ht2 : t < 18446744073709551616 := by omega
      have ew : IntKind.u64.wrap ((c : Int) + (IntKind.u64.wrap ((IntKind.u64.wrap (rd x0 (i : Int))) * (IntKind.u64.wrap ((b : Int)))))) = (t : Int) := by
        rw [hd, hu (d : Int) (by omega) (by omega), hu (b : Int) (by omega) (by omega), ← Int.natCast_mul, hu ((d * b : Nat) : Int) (by omega) (by omega), ← Int.natCast_add, ← ht, hu _ (by omega) (by omega)]
      have f := ih (i + 1) (t / 4294967296) (out ++ [((t % 4294967296 : Nat) : Int)]) (by omega) (by omega) (ho.append (Dg.cons (by omega) (by omega) Dg.nil)) (by simp [hlo]) (by omega)
      have ev : nv (out ++ [((t % 4294967296 : Nat) : Int)]) + 4294967296 ^ (i + 1) * (nv (x0.drop (i + 1)) * b + t / 4294967296) = nv out + 4294967296 ^ i * (nv (x0.drop i) * b + c) := by
        rw [nv_append, hlo, hdrop, Nat.pow_succ]
        simp only [nv, Int.toNat_natCast]
        have e := Nat.div_add_mod t 4294967296
        generalize 4294967296 ^ i = P
        have : t % 4294967296 + 4294967296 * (t / 4294967296) = c + d * b := by omega
        grind
      rw [ev] at f
      refine Ev.succ (g := fun k => spec_Times.j1 k x0 (b : Int) out (c : Int) (i : Int) true) (fun k => ?_) ?_
      · rw [spec_Times.l0, if_pos (by omega)]
      · refine Ev.succ (fun k => ?_) f
        rw [spec_Times.j1, if_pos rfl, if_pos (by omega), if_pos (by omega), if_pos (by omega), ew]
        have e3 : wrap64 ((i : Int) + 1) = ((i + 1 : Nat) : Int) := by unfold wrap64; omega
        rw [e3]
        rfl
  have := main x0.length 0 m [] (by omega) (by omega) Dg.nil rfl hm
  refine Ev.congr (by simpa [nv] using this) (fun k => ?_)
  show spec_Times.l0 k x0 (b : Int) [] (IntKind.u64.wrap (m : Int)) 0 = _
  rw [hu (m : Int) (by omega) (by omega)]

theorem Tens_ev (x0 : List Int) (by' : Nat) (h : Dg x0) (hl : x0.length + by' ≤ 1000000) :
    Ev (fun k => spec_Tens.f k x0 (by' : Int)) (if by' = 0 then x0 else dg (nv x0 * 10 ^ by')) := by
  have main : ∀ (n i : Nat) (x : List Int), by' = i + n → Dg x → x.length + n ≤ 1000000 →
      Ev (fun k => spec_Tens.l0 k x (by' : Int) (i : Int)) (if n = 0 then x else dg (nv x * 10 ^ n)) := by
    intro n
    induction n with
    | zero =>
      intro i x hn hx hl
      refine Ev.succ (g := fun _ => some x) (fun k => ?_) (by simpa using Ev.pure x)
      rw [spec_Tens.l0, if_neg (by omega)]
    | succ n ih =>
      intro i x hn hx hl
      have hlen : (dg (nv x * 10 + 0)).length ≤ x.length + 1 := by
        refine dg_length ?_
        have := nv_lt hx
        rw [Nat.pow_succ]
        omega
      have f := ih (i + 1) (dg (nv x * 10 + 0)) (by omega) (Dg_dg _) (by omega)
      have e : (if n = 0 then dg (nv x * 10 + 0) else dg (nv (dg (nv x * 10 + 0)) * 10 ^ n)) = dg (nv x * 10 ^ (n + 1)) := by
        rw [nv_dg]
        split
        · rename_i h0; subst h0; simp
        · rw [Nat.pow_succ]; congr 1; simp only [Nat.add_zero]; grind
      rw [e] at f
      rw [if_neg (by omega)]
      refine Ev.succ (g := fun k => (spec_Times.f k x ((10 : Nat) : Int) ((0 : Nat) : Int)).bind fun t => spec_Tens.l0 k t (by' : Int) (wrap64 ((i : Int) + 1))) (fun k => ?_) ?_
      · rw [spec_Tens.l0, if_pos (by omega)]; rfl
      · have e3 : wrap64 ((i : Int) + 1) = ((i + 1 : Nat) : Int) := by unfold wrap64; omega
        rw [e3]
        exact Ev.bind (Times_ev x 10 0 hx (by omega) (by decide) (by decide)) f
  exact main by' 0 x0 (by omega) h (by omega)

theorem shl32 (j : Nat) (hj : j < 32) : shl .u32 1 (j : Int) = ((2 ^ j : Nat) : Int) := by
  have : ∀ j : Fin 32, shl .u32 1 (j.val : Int) = ((2 ^ j.val : Nat) : Int) := by decide +kernel
  exact this ⟨j, hj⟩

theorem nv_replicate (n : Nat) : nv (List.replicate n 0) = 0 := by
  induction n with
  | zero => rfl
  | succ n ih => rw [List.replicate_succ, nv, ih]; rfl

theorem Shifted_ev (x0 : List Int) (s : Nat) (h : Dg x0) (hl : x0.length ≤ 100000) (hs : s ≤ 100000) :
    Ev (fun k => spec_Shifted.f k x0 (s : Int)) (dg (nv x0 * 2 ^ s)) := by
  have loop : ∀ (n i : Nat) (out x : List Int), x.length = i + n → Dg out → Dg x → out.length + n ≤ 1000000 → x.length ≤ 1000000 →
      Ev (fun k => spec_Shifted.l0 k out x (x.length : Int) (i : Int)) (dg (nv (out ++ x.drop i))) := by
    intro n
    induction n with
    | zero =>
      intro i out x hn ho hx hl hl2
      rw [List.drop_eq_nil_of_le (by omega), List.append_nil]
      refine Ev.succ (g := fun k => (spec_trim.f k out).bind fun t => some t) (fun k => ?_) ?_
      · rw [spec_Shifted.l0, if_neg (by omega)]
      · exact Ev.bind (trim_ev ho (by omega)) (Ev.pure _)
    | succ n ih =>
      intro i out x hn ho hx hl hl2
      have hil : i < x.length := by omega
      have hdrop : x.drop i = rd x (i : Int) :: x.drop (i + 1) := by
        rw [List.drop_eq_getElem_cons hil]
        congr 1
        simp [rd, List.getD, List.getElem?_eq_getElem hil]
      have hr := hx (rd x (i : Int)) (by simp [rd, List.getD, List.getElem?_eq_getElem hil])
      have f := ih (i + 1) (out ++ [rd x (i : Int)]) x (by omega) (ho.append (Dg.cons hr.1 hr.2 Dg.nil)) hx (by simp; omega) hl2
      rw [List.append_assoc, List.singleton_append, ← hdrop] at f
      refine Ev.succ (fun k => ?_) f
      have e3 : wrap64 ((i : Int) + 1) = ((i + 1 : Nat) : Int) := by unfold wrap64; omega
      rw [spec_Shifted.l0, if_pos (by omega), if_pos (by omega), if_pos (by omega), if_pos (by omega), e3]
  have e1 : wrap64 (Int.tdiv (s : Int) 32) = ((s / 32 : Nat) : Int) := by
    rw [show Int.tdiv (s : Int) 32 = ((s / 32 : Nat) : Int) from rfl]
    unfold wrap64; omega
  have e2 : Int.tmod (s : Int) 32 = ((s % 32 : Nat) : Int) := rfl
  have hT := Times_ev x0 (2 ^ (s % 32)) 0 h (by omega) (Nat.lt_of_le_of_lt (Nat.pow_le_pow_right (by decide) (show s % 32 ≤ 31 by omega)) (by decide)) (by decide)
  rw [Nat.add_zero] at hT
  have hlen : (dg (nv x0 * 2 ^ (s % 32))).length ≤ x0.length + 1 := by
    refine dg_length ?_
    have h1 := nv_lt h
    have h2 : 2 ^ (s % 32) ≤ 2 ^ 32 := Nat.pow_le_pow_right (by decide) (by omega)
    rw [Nat.pow_succ]
    calc nv x0 * 2 ^ (s % 32) ≤ nv x0 * 2 ^ 32 := Nat.mul_le_mul_left _ h2
      _ < 4294967296 ^ x0.length * 4294967296 := by
        rw [show (2 : Nat) ^ 32 = 4294967296 by decide]; omega
  have f := loop (dg (nv x0 * 2 ^ (s % 32))).length 0 (List.replicate (s / 32) 0) (dg (nv x0 * 2 ^ (s % 32))) (by omega) (fun d hd => by have := (List.mem_replicate.1 hd).2; omega) (Dg_dg _) (by simp; omega) (by omega)
  have ev : nv (List.replicate (s / 32) 0 ++ List.drop 0 (dg (nv x0 * 2 ^ (s % 32)))) = nv x0 * 2 ^ s := by
    rw [nv_append, nv_replicate, List.drop_zero, nv_dg, List.length_replicate]
    rw [show 4294967296 = 2 ^ 32 by decide, ← Nat.pow_mul, Nat.zero_add, Nat.mul_left_comm, ← Nat.pow_add]
    congr 2
    omega
  rw [ev] at f
  refine Ev.congr (Ev.bind (h := fun k t => spec_Shifted.l0 k (List.replicate (s / 32) 0) t (t.length : Int) ((0 : Nat) : Int)) hT f) (fun k => ?_)
  rw [spec_Shifted.f, e1, e2, if_pos (by omega), if_pos (by rw [Int.toNat_natCast]; omega), if_pos (by omega), shl32 _ (by omega), Int.toNat_natCast]
  rfl

end Go.Proofs.YtiopeaponffmdaaDoor.PAll
-- YtiopeaponffmdaaDoorPAllx14
namespace Go.Proofs.YtiopeaponffmdaaDoor.PAll
open Go.RowKit Go.Proofs.YtiopeaponffmdaaDoorW.PrintWords Go.Proofs.YtiopeaponffmdaaDoorW.PrintLast Go.Proofs.YtiopeaponffmdaaDoorW.PrintMore
attribute [local go_sem] max2_int min2_int max_two min_two max_three min_three max_four min_four   -- for this text's walks alone
set_option linter.unusedVariables false
set_option linter.unusedSimpArgs false

def spec_Form_least.f (a0_0 : Int) (a0_1 : Int) : Option (Int) := if a0_0 = 52 then (some 1074) else (some 149)
set_option maxHeartbeats 8000000 in
set_option maxRecDepth 100000 in
theorem spec_Form_least.calls (a0_0 : Int) (a0_1 : Int) (r : Int) (w : World) (h : spec_Form_least.f a0_0 a0_1 = some r) :
    Calls Tryd.prog 37 #[.agg #[.int .i64 a0_0, .int .u64 a0_1]] w fun e w' => e = .returned (.int .i64 r) ∧ Below w.heap.size w w' := by
  have hu31 := Tryd.underlying31
  have HB := Aside0.mk (Below.refl w.heap.size w)
  have H : (if a0_0 = 52 then (some 1074) else (some 149)) = some r := h
  clear h
  by_cases c2 : a0_0 = 52
  · rw [if_pos c2] at H
    have c2b0 : (a0_0 == 52) = true := beq_iff_eq.mpr c2
    have c2b1 : (a0_0 != 52) = false := bne_eq_false_iff_eq.mpr c2
    clear c2
    obtain rfl := Option.some.inj H
    go_enter Tryd.func37, Tryd.ntmps37
    go_wp2_with (first | ((with_reducible refine gate_dst (N := 1) rfl ?_); refine box_event ?hg (N := 1) ?hd (cs := #[.int .i64 a0_0, .int .u64 a0_1]) (t := 31) ?hr ?_; (case hd => rfl); (case hg => rfl); (case hr => first | (go_simp; done) | (go_simp; rfl)); intro gb312 hg w3 hbox hb; have n0_ := Aside0.mk (below_step (by repeat (first | (with_reducible first | exact HB.out | apply below_alloc | apply pw_below_drewN | apply below_drew1) | exact HB.out)) hb); have n1_ := Aside0.mk (hbox); have n2_ := Aside0.mk ((by rw [hg]; exact (below_size (by repeat (first | (with_reducible first | exact HB.out | apply below_alloc | apply pw_below_drewN | apply below_drew1) | exact HB.out))) : w.heap.size ≤ gb312)); have n3_ := Aside0.mk ((by rw [hg]; exact (below_size (by repeat (first | (with_reducible first | exact HB.out | apply below_alloc | apply pw_below_drewN | apply below_drew1) | exact HB.out))) : w.heap.size ≤ gb312)); clear HB; have HB := n0_; have BK312 := n1_; have GW312 := n2_; have GE312 := n3_; clear n0_ n1_ n2_ n3_; clear hb hbox hg; have hcz4_0 : w3.cell? ⟨gb312, 0, none⟩ = some (.int .i64 a0_0) := (blk_cell BK312.out 0).trans rfl; have hcz4_1 : w3.cell? ⟨gb312, 1, none⟩ = some (.int .u64 a0_1) := (blk_cell BK312.out 1).trans rfl; have hfz4_0 := blk_frozen BK312.out 0; have hfz4_1 := blk_frozen BK312.out 1))
    go_ret
    exact ⟨by first | rfl | (simp [errW_none, errW_some] <;> rfl) | (simp [*, errW_none, errW_some] <;> rfl), by repeat (first | (with_reducible first | exact HB.out | apply below_alloc | apply pw_below_drewN | apply below_drew1 | refine below_set ?_ GE312.out) | exact HB.out)⟩
  · rw [if_neg c2] at H
    have c2b0 : (a0_0 == 52) = false := beq_eq_false_iff_ne.mpr c2
    have c2b1 : (a0_0 != 52) = true := bne_iff_ne.mpr c2
    obtain rfl := Option.some.inj H
    go_enter Tryd.func37, Tryd.ntmps37
    go_wp2_with (first | ((with_reducible refine gate_dst (N := 1) rfl ?_); refine box_event ?hg (N := 1) ?hd (cs := #[.int .i64 a0_0, .int .u64 a0_1]) (t := 31) ?hr ?_; (case hd => rfl); (case hg => rfl); (case hr => first | (go_simp; done) | (go_simp; rfl)); intro gb312 hg w5 hbox hb; have n0_ := Aside0.mk (below_step (by repeat (first | (with_reducible first | exact HB.out | apply below_alloc | apply pw_below_drewN | apply below_drew1) | exact HB.out)) hb); have n1_ := Aside0.mk (hbox); have n2_ := Aside0.mk ((by rw [hg]; exact (below_size (by repeat (first | (with_reducible first | exact HB.out | apply below_alloc | apply pw_below_drewN | apply below_drew1) | exact HB.out))) : w.heap.size ≤ gb312)); have n3_ := Aside0.mk ((by rw [hg]; exact (below_size (by repeat (first | (with_reducible first | exact HB.out | apply below_alloc | apply pw_below_drewN | apply below_drew1) | exact HB.out))) : w.heap.size ≤ gb312)); clear HB; have HB := n0_; have BK312 := n1_; have GW312 := n2_; have GE312 := n3_; clear n0_ n1_ n2_ n3_; clear hb hbox hg; have hcz6_0 : w5.cell? ⟨gb312, 0, none⟩ = some (.int .i64 a0_0) := (blk_cell BK312.out 0).trans rfl; have hcz6_1 : w5.cell? ⟨gb312, 1, none⟩ = some (.int .u64 a0_1) := (blk_cell BK312.out 1).trans rfl; have hfz6_0 := blk_frozen BK312.out 0; have hfz6_1 := blk_frozen BK312.out 1))
    go_ret
    exact ⟨by first | rfl | (simp [errW_none, errW_some] <;> rfl) | (simp [*, errW_none, errW_some] <;> rfl), by repeat (first | (with_reducible first | exact HB.out | apply below_alloc | apply pw_below_drewN | apply below_drew1 | refine below_set ?_ GE312.out) | exact HB.out)⟩

end Go.Proofs.YtiopeaponffmdaaDoor.PAll
-- YtiopeaponffmdaaDoorPAllx17
namespace Go.Proofs.YtiopeaponffmdaaDoor.PAll
open Go.RowKit Go.Proofs.YtiopeaponffmdaaDoorW.PrintWords Go.Proofs.YtiopeaponffmdaaDoorW.PrintLast Go.Proofs.YtiopeaponffmdaaDoorW.PrintMore
attribute [local go_sem] max2_int min2_int max_two min_two max_three min_three max_four min_four   -- for this text's walks alone
set_option linter.unusedVariables false
set_option linter.unusedSimpArgs false

def spec_Form_against.l0 : Nat → List Int → List Int → Int → Int → Int → Int → ByteArray → Int → Option (Int)
  | 0, _, _, _, _, _, _, _, _ => none
  | k + 1, x2, x7, x12, x13, x321000, x321001, x322000, x322001 => if x13 < x12 then (if 0 ≤ x13 then (if x13 < (x322000.size : Int) then ((spec_Times.f k x7 10 (((bt x322000 x13) - 48) % 256)).bind fun t325 => (spec_Form_against.l0 k x2 t325 x12 (wrap64 (x13 + 1)) x321000 x321001 x322000 x322001)) else (none)) else (none)) else ((spec_Form_least.f x321000 x321001).bind fun t328 => ((spec_Shifted.f k x7 (wrap64 (t328 + 1))).bind fun t329 => (if x322001 ≥ 0 then ((spec_Tens.f k t329 x322001).bind fun t332 => ((spec_Compare.f k t332 x2).bind fun t335 => (some t335))) else ((spec_Tens.f k x2 (wrap64 (-x322001))).bind fun t336 => ((spec_Compare.f k t329 t336).bind fun t339 => (some t339))))))
def spec_Form_against.f (k : Nat) (a0_0 : Int) (a0_1 : Int) (a1_0 : ByteArray) (a1_1 : Int) (l2 : List Int) : Option (Int) := spec_Form_against.l0 k l2 (([] : List Int)) (a1_0.size : Int) 0 a0_0 a0_1 a1_0 a1_1
set_option maxHeartbeats 8000000 in
set_option maxRecDepth 100000 in
theorem spec_Form_against.calls (k : Nat) (a0_0 : Int) (a0_1 : Int) (a1_0 : ByteArray) (a1_1 : Int) (A2 : Option Addr) (c2 : Nat) (l2 : List Int) (r : Int) (w : World) (hr2 : Kd.C (Kd.int .u32) w A2 l2.length l2) (hc2 : l2.length ≤ c2) (h : spec_Form_against.f k a0_0 a0_1 a1_0 a1_1 l2 = some r) :
    Calls Tryd.prog 27 #[.agg #[.int .i64 a0_0, .int .u64 a0_1], .agg #[.string a1_0, .int .i64 a1_1], .slice A2 l2.length c2] w fun e w' => e = .returned (.int .i64 r) ∧ Below w.heap.size w w' := by
  have hu31 := Tryd.underlying31
  have hu35 := Tryd.underlying35
  have HR2 := Aside0.mk hr2
  have HC2 := Aside0.mk hc2
  clear hr2 hc2
  have HB := Aside0.mk (Below.refl w.heap.size w)
  have H : (spec_Form_against.l0 k l2 (([] : List Int)) (a1_0.size : Int) 0 a0_0 a0_1 a1_0 a1_1) = some r := h
  clear h
  obtain ⟨y322, hy322⟩ : ∃ y_ : List Int, y_ = (([] : List Int)) := ⟨_, rfl⟩
  replace H : (spec_Form_against.l0 k l2 y322 (a1_0.size : Int) 0 a0_0 a0_1 a1_0 a1_1) = some r := by first | (rw [hy322]; with_reducible exact H) | (have H2_ := (Option.bind_some _ _).symm.trans H; rw [hy322]; with_reducible exact H2_) | (have H2_ := (Option.bind_some _ _).symm.trans H; with_reducible exact H2_) | with_reducible exact H | (rw [hy322]; exact H) | exact H
  have Ny322 := Aside0.mk hy322
  clear hy322
  have H' := Aside0.mk H
  clear H
  go_enter Tryd.func27, Tryd.ntmps27
  go_wp2_with (first | ((with_reducible refine gate_dst (N := 3) rfl ?_); refine box_event ?hg (N := 3) ?hd (cs := #[.int .i64 a0_0, .int .u64 a0_1]) (t := 31) ?hr ?_; (case hd => rfl); (case hg => rfl); (case hr => first | (go_simp; done) | (go_simp; rfl)); intro gb320 hg w4 hbox hb; have n0_ := Aside0.mk (below_step (by repeat (first | (with_reducible first | exact HB.out | apply below_alloc | apply pw_below_drewN | apply below_drew1) | exact HB.out)) hb); have n1_ := Aside0.mk (hbox); have n2_ := Aside0.mk ((by rw [hg]; exact (below_size (by repeat (first | (with_reducible first | exact HB.out | apply below_alloc | apply pw_below_drewN | apply below_drew1) | exact HB.out))) : w.heap.size ≤ gb320)); have n3_ := Aside0.mk ((by rw [hg]; exact (below_size (by repeat (first | (with_reducible first | exact HB.out | apply below_alloc | apply pw_below_drewN | apply below_drew1) | exact HB.out))) : w.heap.size ≤ gb320)); clear HB; have HB := n0_; have BK320 := n1_; have GW320 := n2_; have GE320 := n3_; clear n0_ n1_ n2_ n3_; clear hb hbox hg) | ((with_reducible refine gate_dst (N := 4) rfl ?_); refine box_event ?hg (N := 4) ?hd (cs := #[.string a1_0, .int .i64 a1_1]) (t := 35) ?hr ?_; (case hd => rfl); (case hg => rfl); (case hr => first | (go_simp; done) | (go_simp; rfl)); intro gb321 hg w5 hbox hb; have n0_ := Aside0.mk (blk_below (g := gb320) (o := .cells #[.int .i64 a0_0, .int .u64 a0_1] 31 (0, 0)) (by (with_reducible repeat (first | refine blk_drewN ?_ _ | refine blk_drew ?_ | refine blk_alloc ?_ _)); exact BK320.out) hb); have n1_ := Aside0.mk (below_step (by repeat (first | (with_reducible first | exact HB.out | apply below_alloc | apply pw_below_drewN | apply below_drew1 | refine below_set ?_ GE320.out) | exact HB.out)) hb); have n2_ := Aside0.mk (hbox); have n3_ := Aside0.mk ((by rw [hg]; exact (below_size (by repeat (first | (with_reducible first | exact HB.out | apply below_alloc | apply pw_below_drewN | apply below_drew1 | refine below_set ?_ GE320.out) | exact HB.out))) : w.heap.size ≤ gb321)); have n4_ := Aside0.mk ((by rw [hg]; exact (below_size (by repeat (first | (with_reducible first | exact HB.out | apply below_alloc | apply pw_below_drewN | apply below_drew1 | refine below_set ?_ GE320.out) | exact HB.out))) : w.heap.size ≤ gb321)); have n5_ := Aside0.mk ((by rw [hg]; exact Nat.ne_of_lt (blk_lt (g := gb320) (o := .cells #[.int .i64 a0_0, .int .u64 a0_1] 31 (0, 0)) (by (with_reducible repeat (first | refine blk_drewN ?_ _ | refine blk_drew ?_ | refine blk_alloc ?_ _)); exact BK320.out)) : gb320 ≠ gb321)); have n6_ := Aside0.mk ((by rw [hg]; exact Nat.ne_of_gt (blk_lt (g := gb320) (o := .cells #[.int .i64 a0_0, .int .u64 a0_1] 31 (0, 0)) (by (with_reducible repeat (first | refine blk_drewN ?_ _ | refine blk_drew ?_ | refine blk_alloc ?_ _)); exact BK320.out)) : gb321 ≠ gb320)); clear BK320; clear HB; have BK320 := n0_; have HB := n1_; have BK321 := n2_; have GW321 := n3_; have GE321 := n4_; have NB320_321 := n5_; have NB321_320 := n6_; clear n0_ n1_ n2_ n3_ n4_ n5_ n6_; clear hb hbox hg) | ((with_reducible refine gate_dst (N := 9) rfl ?_); refine Kd.R_lit (Kd.int .u32) _ 47 ?hg (N := 9) ?hd (xs := ([] : List Int)) (inner := []) (ok := fun _ => True) (okp := fun _ => True) ?hr ?hp (fun _ hk => hk) trivial (Below.refl _ _) (Nat.le_refl _) (by simp) ?_; (case hd => rfl); (case hg => rfl); (case hr => first | (go_simp; done) | (go_simp; rfl)); (case hp => exact (Reps.none _ _)); intro v323 w6 ho7 hb hg_ hnew_; clear hg_ hnew_; (first | rw [← Ny322.out] at ho7 | (simp only [Int.reduceToNat] at ho7; rw [← Ny322.out] at ho7)); have n0_ := Aside0.mk (Kd.R_lower ho7 (below_size (by repeat (first | (with_reducible first | exact HB.out | apply below_alloc | apply pw_below_drewN | apply below_drew1 | refine below_set ?_ GE320.out | refine below_set ?_ GE321.out) | exact HB.out)))); have n1_ := Aside0.mk (blk_below (g := gb320) (o := .cells #[.int .i64 a0_0, .int .u64 a0_1] 31 (0, 0)) (by (with_reducible repeat (first | refine blk_drewN ?_ _ | refine blk_drew ?_ | refine blk_alloc ?_ _)); exact BK320.out) hb); have n2_ := Aside0.mk (blk_below (g := gb321) (o := .cells #[.string a1_0, .int .i64 a1_1] 35 (0, 0)) (by (with_reducible repeat (first | refine blk_drewN ?_ _ | refine blk_drew ?_ | refine blk_alloc ?_ _)); exact BK321.out) hb); have n3_ := Aside0.mk (below_step (by repeat (first | (with_reducible first | exact HB.out | apply below_alloc | apply pw_below_drewN | apply below_drew1 | refine below_set ?_ GE320.out | refine below_set ?_ GE321.out) | exact HB.out)) hb); clear BK320; clear BK321; clear HB; have HO324 := n0_; have BK320 := n1_; have BK321 := n2_; have HB := n3_; clear n0_ n1_ n2_ n3_; clear hb ho7; have hnb8 := NB321_320.out; have hnc8 := NB320_321.out; have hcz9_0 : w6.cell? ⟨gb321, 0, none⟩ = some (.string a1_0) := (blk_cell BK321.out 0).trans rfl; have hcz9_1 : w6.cell? ⟨gb321, 1, none⟩ = some (.int .i64 a1_1) := (blk_cell BK321.out 1).trans rfl; have hfz9_0 := blk_frozen BK321.out 0; have hfz9_1 := blk_frozen BK321.out 1))
  go_loopg [7, 13] k (fun kq v7 v13 w' => ∃ (x7_1 : List Int) (x13_1 : Int), v13 = .int .i64 x13_1 ∧ Aside0 (spec_Form_against.l0 kq l2 x7_1 (a1_0.size : Int) x13_1 a0_0 a0_1 a1_0 a1_1 = some r) ∧ Aside0 (kq ≤ k) ∧ Aside0 (Kd.R (Kd.int .u32) 47 w' w.heap.size (fun _ => True) v7 x7_1) ∧ Aside0 (w'.heap[gb320]? = some (.cells #[.int .i64 a0_0, .int .u64 a0_1] 31 (0, 0))) ∧ Aside0 (w'.heap[gb321]? = some (.cells #[.string a1_0, .int .i64 a1_1] 35 (0, 0))) ∧ Aside0 (Below w.heap.size w w'))
  case atStart => exact ⟨(y322), (0), (by first | rfl | (simp; done) | (simp [*]; done)), H', ⟨Nat.le_refl _⟩, ⟨by (with_reducible repeat (first | apply Kd.R_alloc | apply Kd.R_drewN | apply Kd.R_drew)); exact HO324.out⟩, ⟨by (with_reducible repeat (first | refine blk_drewN ?_ _ | refine blk_drew ?_ | refine blk_alloc ?_ _)); exact BK320.out⟩, ⟨by (with_reducible repeat (first | refine blk_drewN ?_ _ | refine blk_drew ?_ | refine blk_alloc ?_ _)); exact BK321.out⟩, ⟨by repeat (first | (with_reducible first | exact HB.out | apply below_alloc | apply pw_below_drewN | apply below_drew1 | refine below_set ?_ GE320.out | refine below_set ?_ GE321.out) | exact HB.out)⟩⟩
  case round =>
    clear H'
    try clear c2
    try clear p2
    try clear c8
    try clear hcz9_0
    try clear hcz9_1
    try clear hfz9_0
    try clear hfz9_1
    obtain ⟨x7_1, x13_1, rfl, HA, HK1, HO_7, BK320, BK321, HB⟩ := hrel
    cases gk with
    | zero => exact absurd HA.out (by simp [spec_Form_against.l0])
    | succ k1 =>
      have H := HA.out
      clear HA
      simp only [spec_Form_against.l0] at H
      by_cases c10 : x13_1 < (a1_0.size : Int)
      · rw [if_pos c10] at H
        have c10b0 : decide (x13_1 < (a1_0.size : Int)) = true := decide_eq_true c10
        clear c10
        by_cases c11 : 0 ≤ x13_1
        · rw [if_pos c11] at H
          have c11b0 : decide (0 ≤ x13_1) = true := decide_eq_true c11
          clear c11
          by_cases c12 : x13_1 < (a1_0.size : Int)
          · rw [if_pos c12] at H
            have c12b0 : decide (x13_1 < (a1_0.size : Int)) = true := decide_eq_true c12
            clear c12
            replace H := Option.bind_eq_some_iff.mp H
            obtain ⟨t325, A140, H⟩ := H
            replace H : (spec_Form_against.l0 k1 l2 t325 (a1_0.size : Int) (wrap64 (x13_1 + 1)) a0_0 a0_1 a1_0 a1_1) = some r := H
            have A14 := Aside0.mk A140
            clear A140
            have H' := Aside0.mk H
            clear H
            have hnb15 := NB321_320.out
            have hnc15 := NB320_321.out
            have hcz16_0 : wr.cell? ⟨gb321, 0, none⟩ = some (.string a1_0) := (blk_cell BK321.out 0).trans rfl
            have hcz16_1 : wr.cell? ⟨gb321, 1, none⟩ = some (.int .i64 a1_1) := (blk_cell BK321.out 1).trans rfl
            have hfz16_0 := blk_frozen BK321.out 0
            have hfz16_1 := blk_frozen BK321.out 1
            have p13 : 0 ≤ (x13_1 : Int) := of_decide_eq_true (by first | (with_reducible assumption) | assumption)
            have q13 : x13_1 < (a1_0.size : Int) := of_decide_eq_true (by first | (with_reducible assumption) | assumption)
            have hx13 := bt_at a1_0 x13_1
            replace p13 := eq_true p13
            replace q13 := eq_true q13
            obtain ⟨Ao17, co17, eo17⟩ := Kd.R_slice HO_7.out
            subst eo17
            go_wp2_with (first | ((with_reducible refine gate_callee (f := 36) rfl ?_); refine goesL_ (some 23) rfl rfl Tryd.func36 (by kernel_rfl) rfl #[.slice Ao17 x7_1.length co17, .int .u32 10, .int .u32 (((bt a1_0 x13_1) - 48) % 256)] rfl (by (try simp only [List.map_toArray, List.map_cons, List.map_nil]); first | done | rfl | (simp only [List.length_drop, List.length_take]; rfl)) ?_; (with_reducible refine (spec_Times.calls k1 _ _ x7_1 10 (((bt a1_0 x13_1) - 48) % 256) t325 _ ?side1 ?side2 A14.out).mono ?_); (case side1 => repeat (first | exact (Kd.R_reads' HO_7.out).2.2 | (with_reducible refine Kd.C_alloc ?_ _) | (with_reducible refine Kd.C_drewN ?_ _) | (with_reducible refine Kd.C_drew ?_))); (case side2 => exact (Kd.R_reads' HO_7.out).2.1); rintro e w18 ⟨v326, rfl, ho0, hb⟩; refine ⟨_, rfl, ?_⟩; have n0_ := Aside0.mk (Kd.R_elder' (by (with_reducible repeat (first | apply Kd.R_alloc | apply Kd.R_drewN | apply Kd.R_drew)); exact HO_7.out) (Kd.R_base ho0) hb); have n1_ := Aside0.mk (Kd.R_lower (Kd.R_new' ho0 (Kd.R_lt (by (with_reducible repeat (first | apply Kd.R_alloc | apply Kd.R_drewN | apply Kd.R_drew)); exact HO_7.out))) (below_size (by repeat (first | (with_reducible first | exact HB.out | apply below_alloc | apply pw_below_drewN | apply below_drew1 | refine below_set ?_ GE320.out | refine below_set ?_ GE321.out) | exact HB.out)))); have n2_ := Aside0.mk (blk_below (g := gb320) (o := .cells #[.int .i64 a0_0, .int .u64 a0_1] 31 (0, 0)) (by (with_reducible repeat (first | refine blk_drewN ?_ _ | refine blk_drew ?_ | refine blk_alloc ?_ _)); exact BK320.out) hb); have n3_ := Aside0.mk (blk_below (g := gb321) (o := .cells #[.string a1_0, .int .i64 a1_1] 35 (0, 0)) (by (with_reducible repeat (first | refine blk_drewN ?_ _ | refine blk_drew ?_ | refine blk_alloc ?_ _)); exact BK321.out) hb); have n4_ := Aside0.mk (below_step (by repeat (first | (with_reducible first | exact HB.out | apply below_alloc | apply pw_below_drewN | apply below_drew1 | refine below_set ?_ GE320.out | refine below_set ?_ GE321.out) | exact HB.out)) hb); clear HO_7; clear BK320; clear BK321; clear HB; have HO_7 := n0_; have HO327 := n1_; have BK320 := n2_; have BK321 := n3_; have HB := n4_; clear n0_ n1_ n2_ n3_ n4_; (try clear hb); (try clear hb2); (try clear hk); (try clear hi); (try clear ho0)))
            go_roundg k1
            case measure => have := HK1.out; omega
            case rel => exact ⟨(t325), (wrap64 (x13_1 + 1)), (by first | rfl | (simp; done) | (simp [*]; done)), H', ⟨by have := HK1.out; omega⟩, ⟨by (with_reducible repeat (first | apply Kd.R_alloc | apply Kd.R_drewN | apply Kd.R_drew)); exact Kd.R_mono HO327.out (fun _ hk => trivial)⟩, ⟨by (with_reducible repeat (first | refine blk_drewN ?_ _ | refine blk_drew ?_ | refine blk_alloc ?_ _)); exact BK320.out⟩, ⟨by (with_reducible repeat (first | refine blk_drewN ?_ _ | refine blk_drew ?_ | refine blk_alloc ?_ _)); exact BK321.out⟩, ⟨by repeat (first | (with_reducible first | exact HB.out | apply below_alloc | apply pw_below_drewN | apply below_drew1 | refine below_set ?_ GE320.out | refine below_set ?_ GE321.out) | exact HB.out)⟩⟩
          · rw [if_neg c12] at H
            exact absurd H (by simp)
        · rw [if_neg c11] at H
          exact absurd H (by simp)
      · rw [if_neg c10] at H
        have c10b0 : decide (x13_1 < (a1_0.size : Int)) = false := decide_eq_false c10
        clear c10
        replace H := Option.bind_eq_some_iff.mp H
        obtain ⟨t328, A190, H⟩ := H
        replace H : ((spec_Shifted.f k1 x7_1 (wrap64 (t328 + 1))).bind fun t329 => (if a1_1 ≥ 0 then ((spec_Tens.f k1 t329 a1_1).bind fun t332 => ((spec_Compare.f k1 t332 l2).bind fun t335 => (some t335))) else ((spec_Tens.f k1 l2 (wrap64 (-a1_1))).bind fun t336 => ((spec_Compare.f k1 t329 t336).bind fun t339 => (some t339))))) = some r := H
        have A19 := Aside0.mk A190
        clear A190
        replace H := Option.bind_eq_some_iff.mp H
        obtain ⟨t329, A200, H⟩ := H
        replace H : (if a1_1 ≥ 0 then ((spec_Tens.f k1 t329 a1_1).bind fun t332 => ((spec_Compare.f k1 t332 l2).bind fun t335 => (some t335))) else ((spec_Tens.f k1 l2 (wrap64 (-a1_1))).bind fun t336 => ((spec_Compare.f k1 t329 t336).bind fun t339 => (some t339)))) = some r := H
        have A20 := Aside0.mk A200
        clear A200
        by_cases c21 : a1_1 ≥ 0
        · rw [if_pos c21] at H
          have c21b0 : decide (0 ≤ a1_1) = true := decide_eq_true c21
          clear c21
          replace H := Option.bind_eq_some_iff.mp H
          obtain ⟨t332, A220, H⟩ := H
          replace H : ((spec_Compare.f k1 t332 l2).bind fun t335 => (some t335)) = some r := H
          have A22 := Aside0.mk A220
          clear A220
          replace H := Option.bind_eq_some_iff.mp H
          obtain ⟨t335, A230, H⟩ := H
          replace H : (some t335) = some r := H
          have A23 := Aside0.mk A230
          clear A230
          obtain rfl := Option.some.inj H
          have hnb24 := NB320_321.out
          have hnc24 := NB321_320.out
          have hcz25_0 : wr.cell? ⟨gb320, 0, none⟩ = some (.int .i64 a0_0) := (blk_cell BK320.out 0).trans rfl
          have hcz25_1 : wr.cell? ⟨gb320, 1, none⟩ = some (.int .u64 a0_1) := (blk_cell BK320.out 1).trans rfl
          have hfz25_0 := blk_frozen BK320.out 0
          have hfz25_1 := blk_frozen BK320.out 1
          go_wp2_with (first | ((with_reducible refine gate_callee (f := 37) rfl ?_); refine goesL_ (some 27) rfl rfl Tryd.func37 (by kernel_rfl) rfl #[.agg #[.int .i64 a0_0, .int .u64 a0_1]] rfl (by (try simp only [List.map_toArray, List.map_cons, List.map_nil]); first | done | rfl | (simp only [List.length_drop, List.length_take]; rfl)) ?_; (with_reducible refine (spec_Form_least.calls a0_0 a0_1 t328 _ A19.out).mono ?_); rintro e w26 ⟨rfl, hb⟩; refine ⟨_, rfl, ?_⟩; have n0_ := Aside0.mk (Kd.R_below (by (with_reducible repeat (first | apply Kd.R_alloc | apply Kd.R_drewN | apply Kd.R_drew)); exact HO_7.out) hb); have n1_ := Aside0.mk (blk_below (g := gb320) (o := .cells #[.int .i64 a0_0, .int .u64 a0_1] 31 (0, 0)) (by (with_reducible repeat (first | refine blk_drewN ?_ _ | refine blk_drew ?_ | refine blk_alloc ?_ _)); exact BK320.out) hb); have n2_ := Aside0.mk (blk_below (g := gb321) (o := .cells #[.string a1_0, .int .i64 a1_1] 35 (0, 0)) (by (with_reducible repeat (first | refine blk_drewN ?_ _ | refine blk_drew ?_ | refine blk_alloc ?_ _)); exact BK321.out) hb); have n3_ := Aside0.mk (below_step (by repeat (first | (with_reducible first | exact HB.out | apply below_alloc | apply pw_below_drewN | apply below_drew1 | refine below_set ?_ GE320.out | refine below_set ?_ GE321.out) | exact HB.out)) hb); clear HO_7; clear BK320; clear BK321; clear HB; have HO_7 := n0_; have BK320 := n1_; have BK321 := n2_; have HB := n3_; clear n0_ n1_ n2_ n3_; (try clear hb); (try clear hb2); (try clear hk); (try clear hi); obtain ⟨Ao27, co27, eo27⟩ := Kd.R_slice HO_7.out; subst eo27) | ((with_reducible refine gate_callee (f := 28) rfl ?_); refine goesL_ (some 29) rfl rfl Tryd.func28 (by kernel_rfl) rfl #[.slice Ao27 x7_1.length co27, .int .i64 (wrap64 (t328 + 1))] rfl (by (try simp only [List.map_toArray, List.map_cons, List.map_nil]); first | done | rfl | (simp only [List.length_drop, List.length_take]; rfl)) ?_; (with_reducible refine (spec_Shifted.calls k1 _ _ x7_1 (wrap64 (t328 + 1)) t329 _ ?side1 ?side2 A20.out).mono ?_); (case side1 => repeat (first | exact (Kd.R_reads' HO_7.out).2.2 | (with_reducible refine Kd.C_alloc ?_ _) | (with_reducible refine Kd.C_drewN ?_ _) | (with_reducible refine Kd.C_drew ?_))); (case side2 => exact (Kd.R_reads' HO_7.out).2.1); rintro e w28 ⟨v330, rfl, ho0, hb⟩; refine ⟨_, rfl, ?_⟩; have n0_ := Aside0.mk (Kd.R_elder' (by (with_reducible repeat (first | apply Kd.R_alloc | apply Kd.R_drewN | apply Kd.R_drew)); exact HO_7.out) (Kd.R_base ho0) hb); have n1_ := Aside0.mk (Kd.R_lower (Kd.R_new' ho0 (Kd.R_lt (by (with_reducible repeat (first | apply Kd.R_alloc | apply Kd.R_drewN | apply Kd.R_drew)); exact HO_7.out))) (below_size (by repeat (first | (with_reducible first | exact HB.out | apply below_alloc | apply pw_below_drewN | apply below_drew1 | refine below_set ?_ GE320.out | refine below_set ?_ GE321.out) | exact HB.out)))); have n2_ := Aside0.mk (blk_below (g := gb320) (o := .cells #[.int .i64 a0_0, .int .u64 a0_1] 31 (0, 0)) (by (with_reducible repeat (first | refine blk_drewN ?_ _ | refine blk_drew ?_ | refine blk_alloc ?_ _)); exact BK320.out) hb); have n3_ := Aside0.mk (blk_below (g := gb321) (o := .cells #[.string a1_0, .int .i64 a1_1] 35 (0, 0)) (by (with_reducible repeat (first | refine blk_drewN ?_ _ | refine blk_drew ?_ | refine blk_alloc ?_ _)); exact BK321.out) hb); have n4_ := Aside0.mk (below_step (by repeat (first | (with_reducible first | exact HB.out | apply below_alloc | apply pw_below_drewN | apply below_drew1 | refine below_set ?_ GE320.out | refine below_set ?_ GE321.out) | exact HB.out)) hb); clear HO_7; clear BK320; clear BK321; clear HB; have HO_7 := n0_; have HO331 := n1_; have BK320 := n2_; have BK321 := n3_; have HB := n4_; clear n0_ n1_ n2_ n3_ n4_; (try clear hb); (try clear hb2); (try clear hk); (try clear hi); (try clear ho0); have hcz29_0 : w28.cell? ⟨gb321, 0, none⟩ = some (.string a1_0) := (blk_cell BK321.out 0).trans rfl; have hcz29_1 : w28.cell? ⟨gb321, 1, none⟩ = some (.int .i64 a1_1) := (blk_cell BK321.out 1).trans rfl; have hfz29_0 := blk_frozen BK321.out 0; have hfz29_1 := blk_frozen BK321.out 1; obtain ⟨Ao30, co30, eo30⟩ := Kd.R_slice HO331.out; subst eo30) | ((with_reducible refine gate_callee (f := 39) rfl ?_); refine goesL_ (some 36) rfl rfl Tryd.func39 (by kernel_rfl) rfl #[.slice Ao30 t329.length co30, .int .i64 a1_1] rfl (by (try simp only [List.map_toArray, List.map_cons, List.map_nil]); first | done | rfl | (simp only [List.length_drop, List.length_take]; rfl)) ?_; (with_reducible refine (spec_Tens.calls k1 (fun k_ => some k_ = (.slice Ao30 t329.length co30 : Value).ownBlock) _ _ t329 a1_1 t332 _ ?side1 A22.out).mono ?_); (case side1 => exact Kd.R_V (Kd.R_tight rfl (Kd.R_types (Kd.R_types (HO331.out) BK320.out (by decide)) BK321.out (by decide)))); rintro e w31 ⟨v333, rfl, ho0, hb⟩; refine ⟨_, rfl, ?_⟩; have n0_ := Aside0.mk (Kd.R_below (by (with_reducible repeat (first | apply Kd.R_alloc | apply Kd.R_drewN | apply Kd.R_drew)); exact HO_7.out) hb); have n1_ := Aside0.mk (Kd.R_below (by (with_reducible repeat (first | apply Kd.R_alloc | apply Kd.R_drewN | apply Kd.R_drew)); exact HO331.out) hb); have n2_ := Aside0.mk (Kd.V_lower (Kd.V_mono (ok' := fun k_ => some k_ ≠ (.slice Ao27 x7_1.length co27 : Value).ownBlock ∧ k_ ≠ gb320 ∧ k_ ≠ gb321) ho0 (fun k_ hk_ => ⟨Or.elim hk_ (fun hs_ => ((Kd.R_types (Kd.R_types (HO331.out) BK320.out (by decide)) BK321.out (by decide)).1 k_ hs_.symm).1.1.2) (fun hn_ => (Kd.fresh' (Kd.R_lt (by (with_reducible repeat (first | apply Kd.R_alloc | apply Kd.R_drewN | apply Kd.R_drew)); exact HO_7.out)) k_ hn_)), Or.elim hk_ (fun hs_ => ((Kd.R_types (Kd.R_types (HO331.out) BK320.out (by decide)) BK321.out (by decide)).1 k_ hs_.symm).1.2) (fun hn_ => (Kd.freshB (g := gb320) (o := .cells #[.int .i64 a0_0, .int .u64 a0_1] 31 (0, 0)) (by (with_reducible repeat (first | refine blk_drewN ?_ _ | refine blk_drew ?_ | refine blk_alloc ?_ _)); exact BK320.out) k_ hn_)), Or.elim hk_ (fun hs_ => ((Kd.R_types (Kd.R_types (HO331.out) BK320.out (by decide)) BK321.out (by decide)).1 k_ hs_.symm).2) (fun hn_ => (Kd.freshB (g := gb321) (o := .cells #[.string a1_0, .int .i64 a1_1] 35 (0, 0)) (by (with_reducible repeat (first | refine blk_drewN ?_ _ | refine blk_drew ?_ | refine blk_alloc ?_ _)); exact BK321.out) k_ hn_))⟩)) (below_size (by repeat (first | (with_reducible first | exact HB.out | apply below_alloc | apply pw_below_drewN | apply below_drew1 | refine below_set ?_ GE320.out | refine below_set ?_ GE321.out) | exact HB.out)))); have n3_ := Aside0.mk (blk_below (g := gb320) (o := .cells #[.int .i64 a0_0, .int .u64 a0_1] 31 (0, 0)) (by (with_reducible repeat (first | refine blk_drewN ?_ _ | refine blk_drew ?_ | refine blk_alloc ?_ _)); exact BK320.out) hb); have n4_ := Aside0.mk (blk_below (g := gb321) (o := .cells #[.string a1_0, .int .i64 a1_1] 35 (0, 0)) (by (with_reducible repeat (first | refine blk_drewN ?_ _ | refine blk_drew ?_ | refine blk_alloc ?_ _)); exact BK321.out) hb); have n5_ := Aside0.mk (below_step (by repeat (first | (with_reducible first | exact HB.out | apply below_alloc | apply pw_below_drewN | apply below_drew1 | refine below_set ?_ GE320.out | refine below_set ?_ GE321.out) | exact HB.out)) hb); clear HO_7; clear HO331; clear BK320; clear BK321; clear HB; have HO_7 := n0_; have HO331 := n1_; have HO334 := n2_; have BK320 := n3_; have BK321 := n4_; have HB := n5_; clear n0_ n1_ n2_ n3_ n4_ n5_; (try clear hb); (try clear hb2); (try clear hk); (try clear hi); (try clear ho0); obtain ⟨Ao32, co32, eo32⟩ := Kd.V_slice HO334.out; subst eo32) | ((with_reducible refine gate_callee (f := 38) rfl ?_); refine goesL_ (some 38) rfl rfl Tryd.func38 (by kernel_rfl) rfl #[.slice Ao32 t332.length co32, .slice A2 l2.length c2] rfl (by (try simp only [List.map_toArray, List.map_cons, List.map_nil]); first | done | rfl | (simp only [List.length_drop, List.length_take]; rfl)) ?_; (with_reducible refine (spec_Compare.calls k1 _ _ t332 _ _ l2 t335 _ ?side1 ?side2 ?side3 ?side4 A23.out).mono ?_); (case side1 => repeat (first | exact (Kd.V_reads' HO334.out).2.2 | (with_reducible refine Kd.C_alloc ?_ _) | (with_reducible refine Kd.C_drewN ?_ _) | (with_reducible refine Kd.C_drew ?_))); (case side2 => exact (Kd.V_reads' HO334.out).2.1); (case side3 => repeat (first | exact (Kd.C_below HR2.out HB.out) | (with_reducible refine Kd.C_alloc ?_ _) | (with_reducible refine Kd.C_drewN ?_ _) | (with_reducible refine Kd.C_drew ?_))); (case side4 => exact HC2.out); rintro e w' ⟨rfl, ⟨nd, rfl⟩⟩; refine ⟨_, rfl, ?_⟩))
          go_ret
          exact ⟨by first | rfl | (simp [errW_none, errW_some] <;> rfl) | (simp [*, errW_none, errW_some] <;> rfl), by repeat (first | (with_reducible first | exact HB.out | apply below_alloc | apply pw_below_drewN | apply below_drew1 | refine below_set ?_ GE320.out | refine below_set ?_ GE321.out) | exact HB.out)⟩
        · rw [if_neg c21] at H
          have c21b0 : decide (0 ≤ a1_1) = false := decide_eq_false c21
          clear c21
          replace H := Option.bind_eq_some_iff.mp H
          obtain ⟨t336, A330, H⟩ := H
          replace H : ((spec_Compare.f k1 t329 t336).bind fun t339 => (some t339)) = some r := H
          have A33 := Aside0.mk A330
          clear A330
          replace H := Option.bind_eq_some_iff.mp H
          obtain ⟨t339, A340, H⟩ := H
          replace H : (some t339) = some r := H
          have A34 := Aside0.mk A340
          clear A340
          obtain rfl := Option.some.inj H
          have hnb35 := NB320_321.out
          have hnc35 := NB321_320.out
          have hcz36_0 : wr.cell? ⟨gb320, 0, none⟩ = some (.int .i64 a0_0) := (blk_cell BK320.out 0).trans rfl
          have hcz36_1 : wr.cell? ⟨gb320, 1, none⟩ = some (.int .u64 a0_1) := (blk_cell BK320.out 1).trans rfl
          have hfz36_0 := blk_frozen BK320.out 0
          have hfz36_1 := blk_frozen BK320.out 1
          go_wp2_with (first | ((with_reducible refine gate_callee (f := 37) rfl ?_); refine goesL_ (some 27) rfl rfl Tryd.func37 (by kernel_rfl) rfl #[.agg #[.int .i64 a0_0, .int .u64 a0_1]] rfl (by (try simp only [List.map_toArray, List.map_cons, List.map_nil]); first | done | rfl | (simp only [List.length_drop, List.length_take]; rfl)) ?_; (with_reducible refine (spec_Form_least.calls a0_0 a0_1 t328 _ A19.out).mono ?_); rintro e w37 ⟨rfl, hb⟩; refine ⟨_, rfl, ?_⟩; have n0_ := Aside0.mk (Kd.R_below (by (with_reducible repeat (first | apply Kd.R_alloc | apply Kd.R_drewN | apply Kd.R_drew)); exact HO_7.out) hb); have n1_ := Aside0.mk (blk_below (g := gb320) (o := .cells #[.int .i64 a0_0, .int .u64 a0_1] 31 (0, 0)) (by (with_reducible repeat (first | refine blk_drewN ?_ _ | refine blk_drew ?_ | refine blk_alloc ?_ _)); exact BK320.out) hb); have n2_ := Aside0.mk (blk_below (g := gb321) (o := .cells #[.string a1_0, .int .i64 a1_1] 35 (0, 0)) (by (with_reducible repeat (first | refine blk_drewN ?_ _ | refine blk_drew ?_ | refine blk_alloc ?_ _)); exact BK321.out) hb); have n3_ := Aside0.mk (below_step (by repeat (first | (with_reducible first | exact HB.out | apply below_alloc | apply pw_below_drewN | apply below_drew1 | refine below_set ?_ GE320.out | refine below_set ?_ GE321.out) | exact HB.out)) hb); clear HO_7; clear BK320; clear BK321; clear HB; have HO_7 := n0_; have BK320 := n1_; have BK321 := n2_; have HB := n3_; clear n0_ n1_ n2_ n3_; (try clear hb); (try clear hb2); (try clear hk); (try clear hi); obtain ⟨Ao38, co38, eo38⟩ := Kd.R_slice HO_7.out; subst eo38) | ((with_reducible refine gate_callee (f := 28) rfl ?_); refine goesL_ (some 29) rfl rfl Tryd.func28 (by kernel_rfl) rfl #[.slice Ao38 x7_1.length co38, .int .i64 (wrap64 (t328 + 1))] rfl (by (try simp only [List.map_toArray, List.map_cons, List.map_nil]); first | done | rfl | (simp only [List.length_drop, List.length_take]; rfl)) ?_; (with_reducible refine (spec_Shifted.calls k1 _ _ x7_1 (wrap64 (t328 + 1)) t329 _ ?side1 ?side2 A20.out).mono ?_); (case side1 => repeat (first | exact (Kd.R_reads' HO_7.out).2.2 | (with_reducible refine Kd.C_alloc ?_ _) | (with_reducible refine Kd.C_drewN ?_ _) | (with_reducible refine Kd.C_drew ?_))); (case side2 => exact (Kd.R_reads' HO_7.out).2.1); rintro e w39 ⟨v330, rfl, ho0, hb⟩; refine ⟨_, rfl, ?_⟩; have n0_ := Aside0.mk (Kd.R_elder' (by (with_reducible repeat (first | apply Kd.R_alloc | apply Kd.R_drewN | apply Kd.R_drew)); exact HO_7.out) (Kd.R_base ho0) hb); have n1_ := Aside0.mk (Kd.R_lower (Kd.R_new' ho0 (Kd.R_lt (by (with_reducible repeat (first | apply Kd.R_alloc | apply Kd.R_drewN | apply Kd.R_drew)); exact HO_7.out))) (below_size (by repeat (first | (with_reducible first | exact HB.out | apply below_alloc | apply pw_below_drewN | apply below_drew1 | refine below_set ?_ GE320.out | refine below_set ?_ GE321.out) | exact HB.out)))); have n2_ := Aside0.mk (blk_below (g := gb320) (o := .cells #[.int .i64 a0_0, .int .u64 a0_1] 31 (0, 0)) (by (with_reducible repeat (first | refine blk_drewN ?_ _ | refine blk_drew ?_ | refine blk_alloc ?_ _)); exact BK320.out) hb); have n3_ := Aside0.mk (blk_below (g := gb321) (o := .cells #[.string a1_0, .int .i64 a1_1] 35 (0, 0)) (by (with_reducible repeat (first | refine blk_drewN ?_ _ | refine blk_drew ?_ | refine blk_alloc ?_ _)); exact BK321.out) hb); have n4_ := Aside0.mk (below_step (by repeat (first | (with_reducible first | exact HB.out | apply below_alloc | apply pw_below_drewN | apply below_drew1 | refine below_set ?_ GE320.out | refine below_set ?_ GE321.out) | exact HB.out)) hb); clear HO_7; clear BK320; clear BK321; clear HB; have HO_7 := n0_; have HO331 := n1_; have BK320 := n2_; have BK321 := n3_; have HB := n4_; clear n0_ n1_ n2_ n3_ n4_; (try clear hb); (try clear hb2); (try clear hk); (try clear hi); (try clear ho0); have hcz40_0 : w39.cell? ⟨gb321, 0, none⟩ = some (.string a1_0) := (blk_cell BK321.out 0).trans rfl; have hcz40_1 : w39.cell? ⟨gb321, 1, none⟩ = some (.int .i64 a1_1) := (blk_cell BK321.out 1).trans rfl; have hfz40_0 := blk_frozen BK321.out 0; have hfz40_1 := blk_frozen BK321.out 1) | ((with_reducible refine gate_callee (f := 39) rfl ?_); refine goesL_ (some 44) rfl rfl Tryd.func39 (by kernel_rfl) rfl #[.slice A2 l2.length c2, .int .i64 (wrap64 (-a1_1))] rfl (by (try simp only [List.map_toArray, List.map_cons, List.map_nil]); first | done | rfl | (simp only [List.length_drop, List.length_take]; rfl)) ?_; (with_reducible refine (spec_Tens.calls k1 (fun k_ => k_ < w.heap.size) _ _ l2 (wrap64 (-a1_1)) t336 _ ?side1 A33.out).mono ?_); (case side1 => exact Kd.V_mk HC2.out (Kd.F_below (Kd.C_F (Kd.heap_int .u32) HR2.out) (by repeat (first | (with_reducible first | exact HB.out | apply below_alloc | apply pw_below_drewN | apply below_drew1 | refine below_set ?_ GE320.out | refine below_set ?_ GE321.out) | exact HB.out)))); rintro e w41 ⟨v337, rfl, ho0, hb⟩; refine ⟨_, rfl, ?_⟩; have n0_ := Aside0.mk (Kd.R_below (by (with_reducible repeat (first | apply Kd.R_alloc | apply Kd.R_drewN | apply Kd.R_drew)); exact HO_7.out) hb); have n1_ := Aside0.mk (Kd.R_below (by (with_reducible repeat (first | apply Kd.R_alloc | apply Kd.R_drewN | apply Kd.R_drew)); exact HO331.out) hb); have n2_ := Aside0.mk (Kd.V_lower (Kd.V_mono (ok' := fun k_ => some k_ ≠ (.slice Ao38 x7_1.length co38 : Value).ownBlock ∧ some k_ ≠ (v330 : Value).ownBlock ∧ k_ ≠ gb320 ∧ k_ ≠ gb321) ho0 (fun k_ hk_ => ⟨Or.elim hk_ (fun hs_ => fun e_ => Nat.not_le.2 hs_ (Kd.R_base HO_7.out k_ e_.symm)) (fun hn_ => (Kd.fresh' (Kd.R_lt (by (with_reducible repeat (first | apply Kd.R_alloc | apply Kd.R_drewN | apply Kd.R_drew)); exact HO_7.out)) k_ hn_)), Or.elim hk_ (fun hs_ => fun e_ => Nat.not_le.2 hs_ (Kd.R_base HO331.out k_ e_.symm)) (fun hn_ => (Kd.fresh' (Kd.R_lt (by (with_reducible repeat (first | apply Kd.R_alloc | apply Kd.R_drewN | apply Kd.R_drew)); exact HO331.out)) k_ hn_)), Or.elim hk_ (fun hs_ => fun e_ => Nat.not_le.2 hs_ (by rw [e_]; exact GW320.out)) (fun hn_ => (Kd.freshB (g := gb320) (o := .cells #[.int .i64 a0_0, .int .u64 a0_1] 31 (0, 0)) (by (with_reducible repeat (first | refine blk_drewN ?_ _ | refine blk_drew ?_ | refine blk_alloc ?_ _)); exact BK320.out) k_ hn_)), Or.elim hk_ (fun hs_ => fun e_ => Nat.not_le.2 hs_ (by rw [e_]; exact GW321.out)) (fun hn_ => (Kd.freshB (g := gb321) (o := .cells #[.string a1_0, .int .i64 a1_1] 35 (0, 0)) (by (with_reducible repeat (first | refine blk_drewN ?_ _ | refine blk_drew ?_ | refine blk_alloc ?_ _)); exact BK321.out) k_ hn_))⟩)) (below_size (by repeat (first | (with_reducible first | exact HB.out | apply below_alloc | apply pw_below_drewN | apply below_drew1 | refine below_set ?_ GE320.out | refine below_set ?_ GE321.out) | exact HB.out)))); have n3_ := Aside0.mk (blk_below (g := gb320) (o := .cells #[.int .i64 a0_0, .int .u64 a0_1] 31 (0, 0)) (by (with_reducible repeat (first | refine blk_drewN ?_ _ | refine blk_drew ?_ | refine blk_alloc ?_ _)); exact BK320.out) hb); have n4_ := Aside0.mk (blk_below (g := gb321) (o := .cells #[.string a1_0, .int .i64 a1_1] 35 (0, 0)) (by (with_reducible repeat (first | refine blk_drewN ?_ _ | refine blk_drew ?_ | refine blk_alloc ?_ _)); exact BK321.out) hb); have n5_ := Aside0.mk (below_step (by repeat (first | (with_reducible first | exact HB.out | apply below_alloc | apply pw_below_drewN | apply below_drew1 | refine below_set ?_ GE320.out | refine below_set ?_ GE321.out) | exact HB.out)) hb); clear HO_7; clear HO331; clear BK320; clear BK321; clear HB; have HO_7 := n0_; have HO331 := n1_; have HO338 := n2_; have BK320 := n3_; have BK321 := n4_; have HB := n5_; clear n0_ n1_ n2_ n3_ n4_ n5_; (try clear hb); (try clear hb2); (try clear hk); (try clear hi); (try clear ho0); obtain ⟨Ao42, co42, eo42⟩ := Kd.R_slice HO331.out; subst eo42; obtain ⟨Ao43, co43, eo43⟩ := Kd.V_slice HO338.out; subst eo43) | ((with_reducible refine gate_callee (f := 38) rfl ?_); refine goesL_ (some 45) rfl rfl Tryd.func38 (by kernel_rfl) rfl #[.slice Ao42 t329.length co42, .slice Ao43 t336.length co43] rfl (by (try simp only [List.map_toArray, List.map_cons, List.map_nil]); first | done | rfl | (simp only [List.length_drop, List.length_take]; rfl)) ?_; (with_reducible refine (spec_Compare.calls k1 _ _ t329 _ _ t336 t339 _ ?side1 ?side2 ?side3 ?side4 A34.out).mono ?_); (case side1 => repeat (first | exact (Kd.R_reads' HO331.out).2.2 | (with_reducible refine Kd.C_alloc ?_ _) | (with_reducible refine Kd.C_drewN ?_ _) | (with_reducible refine Kd.C_drew ?_))); (case side2 => exact (Kd.R_reads' HO331.out).2.1); (case side3 => repeat (first | exact (Kd.V_reads' HO338.out).2.2 | (with_reducible refine Kd.C_alloc ?_ _) | (with_reducible refine Kd.C_drewN ?_ _) | (with_reducible refine Kd.C_drew ?_))); (case side4 => exact (Kd.V_reads' HO338.out).2.1); rintro e w' ⟨rfl, ⟨nd, rfl⟩⟩; refine ⟨_, rfl, ?_⟩))
          go_ret
          exact ⟨by first | rfl | (simp [errW_none, errW_some] <;> rfl) | (simp [*, errW_none, errW_some] <;> rfl), by repeat (first | (with_reducible first | exact HB.out | apply below_alloc | apply pw_below_drewN | apply below_drew1 | refine below_set ?_ GE320.out | refine below_set ?_ GE321.out) | exact HB.out)⟩

end Go.Proofs.YtiopeaponffmdaaDoor.PAll
-- YtiopeaponffmdaaDoorPAllx18
namespace Go.Proofs.YtiopeaponffmdaaDoor.PAll
open Go.RowKit Go.Proofs.YtiopeaponffmdaaDoorW.PrintWords Go.Proofs.YtiopeaponffmdaaDoorW.PrintLast Go.Proofs.YtiopeaponffmdaaDoorW.PrintMore
attribute [local go_sem] max2_int min2_int max_two min_two max_three min_three max_four min_four   -- for this text's walks alone
set_option linter.unusedVariables false
set_option linter.unusedSimpArgs false

def spec_NatOf.f (k : Nat) (a0 : Int) : Option (List Int) := (spec_trim.f k (([(a0) % 4294967296, (a0 / 4294967296) % 4294967296] : List Int))).bind fun t343 => (some t343)
set_option maxHeartbeats 8000000 in
set_option maxRecDepth 100000 in
theorem spec_NatOf.calls (k : Nat) (a0 : Int) (r : List Int) (w : World) (h : spec_NatOf.f k a0 = some r) :
    Calls Tryd.prog 41 #[.int .u64 a0] w fun e w' => ∃ v0_ : Value, e = .returned (v0_) ∧ Kd.R (Kd.int .u32) 47 w' w.heap.size (fun _ => True) v0_ r ∧ Below w.heap.size w w' := by
  have HB := Aside0.mk (Below.refl w.heap.size w)
  have H : ((spec_trim.f k (([(a0) % 4294967296, (a0 / 4294967296) % 4294967296] : List Int))).bind fun t343 => (some t343)) = some r := h
  clear h
  obtain ⟨y340, hy340⟩ : ∃ y_ : List Int, y_ = (([(a0) % 4294967296, (a0 / 4294967296) % 4294967296] : List Int)) := ⟨_, rfl⟩
  replace H : ((spec_trim.f k y340).bind fun t343 => (some t343)) = some r := by first | (rw [hy340]; with_reducible exact H) | (have H2_ := (Option.bind_some _ _).symm.trans H; rw [hy340]; with_reducible exact H2_) | (have H2_ := (Option.bind_some _ _).symm.trans H; with_reducible exact H2_) | with_reducible exact H | (rw [hy340]; exact H) | exact H
  have Ny340 := Aside0.mk hy340
  clear hy340
  replace H := Option.bind_eq_some_iff.mp H
  obtain ⟨t343, A20, H⟩ := H
  replace H : (some t343) = some r := H
  have A2 := Aside0.mk A20
  clear A20
  obtain rfl := Option.some.inj H
  go_enter Tryd.func41, Tryd.ntmps41
  go_wp2_with (first | ((with_reducible refine gate_dst (N := 8) rfl ?_); refine Kd.R_lit (Kd.int .u32) _ 47 ?hg (N := 8) ?hd (xs := ([(a0) % 4294967296, (a0 / 4294967296) % 4294967296] : List Int)) (inner := [.int .u32 ((a0) % 4294967296), .int .u32 ((a0 / 4294967296) % 4294967296)]) (ok := fun _ => True) (okp := fun _ => True) ?hr ?hp (fun _ hk => hk) trivial (Below.refl _ _) (Nat.le_refl _) (by simp) ?_; (case hd => rfl); (case hg => rfl); (case hr => first | (go_simp; done) | (go_simp; rfl)); (case hp => exact (Reps.one (show Kd.M (Kd.int .u32) _ _ _ ((a0) % 4294967296) [.int .u32 ((a0) % 4294967296)] from rfl) (Reps.one (show Kd.M (Kd.int .u32) _ _ _ ((a0 / 4294967296) % 4294967296) [.int .u32 ((a0 / 4294967296) % 4294967296)] from rfl) (Reps.none _ _)))); intro v341 w3 ho4 hb hg_ hnew_; clear hg_ hnew_; (first | rw [← Ny340.out] at ho4 | (simp only [Int.reduceToNat] at ho4; rw [← Ny340.out] at ho4)); have n0_ := Aside0.mk (Kd.R_lower ho4 (below_size (by repeat (first | (with_reducible first | exact HB.out | apply below_alloc | apply pw_below_drewN | apply below_drew1) | exact HB.out)))); have n1_ := Aside0.mk (below_step (by repeat (first | (with_reducible first | exact HB.out | apply below_alloc | apply pw_below_drewN | apply below_drew1) | exact HB.out)) hb); clear HB; have HO342 := n0_; have HB := n1_; clear n0_ n1_; clear hb ho4; obtain ⟨Ao5, co5, eo5⟩ := Kd.R_slice HO342.out; subst eo5) | ((with_reducible refine gate_callee (f := 40) rfl ?_); refine goesL_ (some 9) rfl rfl Tryd.func40 (by kernel_rfl) rfl #[.slice Ao5 y340.length co5] rfl (by (try simp only [List.map_toArray, List.map_cons, List.map_nil]); first | done | rfl | (simp only [List.length_drop, List.length_take]; rfl)) ?_; (with_reducible refine (spec_trim.calls k (fun k_ => some k_ = (.slice Ao5 y340.length co5 : Value).ownBlock) (.slice Ao5 y340.length co5) y340 t343 w _ ?side1 ?side2 A2.out).mono ?_); (case side1 => repeat (first | (with_reducible first | exact HB.out | apply below_alloc | apply pw_below_drewN | apply below_drew1) | exact HB.out)); (case side2 => exact Kd.R_tight rfl HO342.out); rintro e w6 ⟨v344, rfl, ho0, hb, hkp⟩; refine ⟨_, rfl, ?_⟩; have n0_ := Aside0.mk (Kd.R_mono (ok' := fun k_ => True) ho0 (fun k_ hk_ => trivial)); have n1_ := Aside0.mk (hb); clear HB; clear HO342; have HO345 := n0_; have HB := n1_; clear n0_ n1_; (try clear hb); (try clear hkp); (try clear ho0)))
  go_ret
  exact ⟨_, by first | rfl | (simp [errW_none, errW_some] <;> rfl) | (simp [*, errW_none, errW_some] <;> rfl), by (with_reducible repeat (first | apply Kd.R_alloc | apply Kd.R_drewN | apply Kd.R_drew)); exact HO345.out, by repeat (first | (with_reducible first | exact HB.out | apply below_alloc | apply pw_below_drewN | apply below_drew1) | exact HB.out)⟩

def spec_Form_Times2.f (k : Nat) (a0_0 : Int) (a0_1 : Int) (a1 : Int) : Option (List Int) := if 0 ≤ a0_0 then (if (wrap64 (shr .u64 a1 a0_0)) = 0 then ((spec_NatOf.f k (Go.bits .and .u64 a1 (IntKind.u64.wrap ((shl .u64 1 a0_0) - 1)))).bind fun t347 => (some t347)) else ((spec_NatOf.f k (IntKind.u64.wrap ((Go.bits .and .u64 a1 (IntKind.u64.wrap ((shl .u64 1 a0_0) - 1))) + (shl .u64 1 a0_0)))).bind fun t350 => ((spec_Shifted.f k t350 (wrap64 ((wrap64 (shr .u64 a1 a0_0)) - 1))).bind fun t353 => (some t353)))) else (none)
set_option maxHeartbeats 8000000 in
set_option maxRecDepth 100000 in
theorem spec_Form_Times2.calls (k : Nat) (a0_0 : Int) (a0_1 : Int) (a1 : Int) (r : List Int) (w : World) (h : spec_Form_Times2.f k a0_0 a0_1 a1 = some r) :
    Calls Tryd.prog 29 #[.agg #[.int .i64 a0_0, .int .u64 a0_1], .int .u64 a1] w fun e w' => ∃ v0_ : Value, e = .returned (v0_) ∧ Kd.R (Kd.int .u32) 47 w' w.heap.size (fun _ => True) v0_ r ∧ Below w.heap.size w w' := by
  have hu31 := Tryd.underlying31
  have HB := Aside0.mk (Below.refl w.heap.size w)
  have H : (if 0 ≤ a0_0 then (if (wrap64 (shr .u64 a1 a0_0)) = 0 then ((spec_NatOf.f k (Go.bits .and .u64 a1 (IntKind.u64.wrap ((shl .u64 1 a0_0) - 1)))).bind fun t347 => (some t347)) else ((spec_NatOf.f k (IntKind.u64.wrap ((Go.bits .and .u64 a1 (IntKind.u64.wrap ((shl .u64 1 a0_0) - 1))) + (shl .u64 1 a0_0)))).bind fun t350 => ((spec_Shifted.f k t350 (wrap64 ((wrap64 (shr .u64 a1 a0_0)) - 1))).bind fun t353 => (some t353)))) else (none)) = some r := h
  clear h
  by_cases c3 : 0 ≤ a0_0
  · rw [if_pos c3] at H
    have c3b0 := eq_true c3
    have c3b1 : decide (0 ≤ a0_0) = true := decide_eq_true c3
    clear c3
    obtain ⟨ji4, hji4⟩ : ∃ j_ : Int, (shr .u64 a1 a0_0) = j_ := ⟨_, rfl⟩
    replace H : (if (wrap64 (ji4)) = 0 then ((spec_NatOf.f k (Go.bits .and .u64 a1 (IntKind.u64.wrap ((shl .u64 1 a0_0) - 1)))).bind fun t347 => (some t347)) else ((spec_NatOf.f k (IntKind.u64.wrap ((Go.bits .and .u64 a1 (IntKind.u64.wrap ((shl .u64 1 a0_0) - 1))) + (shl .u64 1 a0_0)))).bind fun t350 => ((spec_Shifted.f k t350 (wrap64 ((wrap64 (ji4)) - 1))).bind fun t353 => (some t353)))) = some r := by first | (rw [hji4] at H; exact H) | (simp only [hji4] at H ⊢; exact H)
    have hji4_ : (a1 / 2 ^ min a0_0.toNat 64) = ji4 := hji4
    have hji4z : a0_0 ≤ 64 → (a1 / 2 ^ a0_0.toNat) = ji4 := shr_small hji4
    have c5b0 := eq_true (of_decide_eq_true (by first | (with_reducible assumption) | assumption) : 0 ≤ a0_0)
    obtain ⟨ji6, hji6⟩ : ∃ j_ : Int, (shl .u64 1 a0_0) = j_ := ⟨_, rfl⟩
    replace H : (if (wrap64 (ji4)) = 0 then ((spec_NatOf.f k (Go.bits .and .u64 a1 (IntKind.u64.wrap ((ji6) - 1)))).bind fun t347 => (some t347)) else ((spec_NatOf.f k (IntKind.u64.wrap ((Go.bits .and .u64 a1 (IntKind.u64.wrap ((ji6) - 1))) + (ji6)))).bind fun t350 => ((spec_Shifted.f k t350 (wrap64 ((wrap64 (ji4)) - 1))).bind fun t353 => (some t353)))) = some r := by first | (rw [hji6] at H; exact H) | (simp only [hji6] at H ⊢; exact H)
    have hji6_ : (IntKind.u64.wrap (1 * 2 ^ min a0_0.toNat 64)) = ji6 := hji6
    have hji6z : a0_0 ≤ 64 → (IntKind.u64.wrap (1 * 2 ^ a0_0.toNat)) = ji6 := shl_small hji6
    have hji6u : (IntKind.u64.wrap (2 ^ min a0_0.toNat 64)) = ji6 := by have h_ := hji6_; rw [Int.one_mul] at h_; exact h_
    have hji6v : a0_0 ≤ 64 → (IntKind.u64.wrap (2 ^ a0_0.toNat)) = ji6 := fun hle_ => by have h_ := hji6z hle_; rw [Int.one_mul] at h_; exact h_
    by_cases c7 : (wrap64 (ji4)) = 0
    · rw [if_pos c7] at H
      have c7b0 : ((wrap64 (ji4)) == 0) = true := beq_iff_eq.mpr c7
      have c7b1 : ((wrap64 (ji4)) != 0) = false := bne_eq_false_iff_eq.mpr c7
      clear c7
      replace H := Option.bind_eq_some_iff.mp H
      obtain ⟨t347, A80, H⟩ := H
      replace H : (some t347) = some r := H
      have A8 := Aside0.mk A80
      clear A80
      obtain rfl := Option.some.inj H
      go_enter Tryd.func29, Tryd.ntmps29
      go_wp2_with (first | ((with_reducible refine gate_dst (N := 2) rfl ?_); refine box_event ?hg (N := 2) ?hd (cs := #[.int .i64 a0_0, .int .u64 a0_1]) (t := 31) ?hr ?_; (case hd => rfl); (case hg => rfl); (case hr => first | (go_simp; done) | (go_simp; rfl)); intro gb346 hg w9 hbox hb; have n0_ := Aside0.mk (below_step (by repeat (first | (with_reducible first | exact HB.out | apply below_alloc | apply pw_below_drewN | apply below_drew1) | exact HB.out)) hb); have n1_ := Aside0.mk (hbox); have n2_ := Aside0.mk ((by rw [hg]; exact (below_size (by repeat (first | (with_reducible first | exact HB.out | apply below_alloc | apply pw_below_drewN | apply below_drew1) | exact HB.out))) : w.heap.size ≤ gb346)); have n3_ := Aside0.mk ((by rw [hg]; exact (below_size (by repeat (first | (with_reducible first | exact HB.out | apply below_alloc | apply pw_below_drewN | apply below_drew1) | exact HB.out))) : w.heap.size ≤ gb346)); clear HB; have HB := n0_; have BK346 := n1_; have GW346 := n2_; have GE346 := n3_; clear n0_ n1_ n2_ n3_; clear hb hbox hg; have hcz10_0 : w9.cell? ⟨gb346, 0, none⟩ = some (.int .i64 a0_0) := (blk_cell BK346.out 0).trans rfl; have hcz10_1 : w9.cell? ⟨gb346, 1, none⟩ = some (.int .u64 a0_1) := (blk_cell BK346.out 1).trans rfl; have hfz10_0 := blk_frozen BK346.out 0; have hfz10_1 := blk_frozen BK346.out 1) | (go_at_call 41; (with_reducible refine (spec_NatOf.calls k (Go.bits .and .u64 a1 (IntKind.u64.wrap ((ji6) - 1))) t347 _ A8.out).mono ?_); rintro e w11 ⟨v348, rfl, ho0, hb⟩; have n0_ := Aside0.mk (Kd.R_lower ho0 (below_size (by repeat (first | (with_reducible first | exact HB.out | apply below_alloc | apply pw_below_drewN | apply below_drew1 | refine below_set ?_ GE346.out) | exact HB.out)))); have n1_ := Aside0.mk (blk_below (g := gb346) (o := .cells #[.int .i64 a0_0, .int .u64 a0_1] 31 (0, 0)) (by (with_reducible repeat (first | refine blk_drewN ?_ _ | refine blk_drew ?_ | refine blk_alloc ?_ _)); exact BK346.out) hb); have n2_ := Aside0.mk (below_step (by repeat (first | (with_reducible first | exact HB.out | apply below_alloc | apply pw_below_drewN | apply below_drew1 | refine below_set ?_ GE346.out) | exact HB.out)) hb); clear BK346; clear HB; have HO349 := n0_; have BK346 := n1_; have HB := n2_; clear n0_ n1_ n2_; (try clear hb); (try clear hb2); (try clear hk); (try clear hi); (try clear ho0)))
      repeat (go_quiet (first | ((with_reducible refine gate_dst (N := 2) rfl ?_); refine box_event ?hg (N := 2) ?hd (cs := #[.int .i64 a0_0, .int .u64 a0_1]) (t := 31) ?hr ?_; (case hd => rfl); (case hg => rfl); (case hr => first | (go_simp; done) | (go_simp; rfl)); intro gb346 hg w9 hbox hb; have n0_ := Aside0.mk (below_step (by repeat (first | (with_reducible first | exact HB.out | apply below_alloc | apply pw_below_drewN | apply below_drew1) | exact HB.out)) hb); have n1_ := Aside0.mk (hbox); have n2_ := Aside0.mk ((by rw [hg]; exact (below_size (by repeat (first | (with_reducible first | exact HB.out | apply below_alloc | apply pw_below_drewN | apply below_drew1) | exact HB.out))) : w.heap.size ≤ gb346)); have n3_ := Aside0.mk ((by rw [hg]; exact (below_size (by repeat (first | (with_reducible first | exact HB.out | apply below_alloc | apply pw_below_drewN | apply below_drew1) | exact HB.out))) : w.heap.size ≤ gb346)); clear HB; have HB := n0_; have BK346 := n1_; have GW346 := n2_; have GE346 := n3_; clear n0_ n1_ n2_ n3_; clear hb hbox hg; have hcz10_0 : w9.cell? ⟨gb346, 0, none⟩ = some (.int .i64 a0_0) := (blk_cell BK346.out 0).trans rfl; have hcz10_1 : w9.cell? ⟨gb346, 1, none⟩ = some (.int .u64 a0_1) := (blk_cell BK346.out 1).trans rfl; have hfz10_0 := blk_frozen BK346.out 0; have hfz10_1 := blk_frozen BK346.out 1) | (go_at_call 41; (with_reducible refine (spec_NatOf.calls k (Go.bits .and .u64 a1 (IntKind.u64.wrap ((ji6) - 1))) t347 _ A8.out).mono ?_); rintro e w11 ⟨v348, rfl, ho0, hb⟩; have n0_ := Aside0.mk (Kd.R_lower ho0 (below_size (by repeat (first | (with_reducible first | exact HB.out | apply below_alloc | apply pw_below_drewN | apply below_drew1 | refine below_set ?_ GE346.out) | exact HB.out)))); have n1_ := Aside0.mk (blk_below (g := gb346) (o := .cells #[.int .i64 a0_0, .int .u64 a0_1] 31 (0, 0)) (by (with_reducible repeat (first | refine blk_drewN ?_ _ | refine blk_drew ?_ | refine blk_alloc ?_ _)); exact BK346.out) hb); have n2_ := Aside0.mk (below_step (by repeat (first | (with_reducible first | exact HB.out | apply below_alloc | apply pw_below_drewN | apply below_drew1 | refine below_set ?_ GE346.out) | exact HB.out)) hb); clear BK346; clear HB; have HO349 := n0_; have BK346 := n1_; have HB := n2_; clear n0_ n1_ n2_; (try clear hb); (try clear hb2); (try clear hk); (try clear hi); (try clear ho0))); try go_wp2_with (first | ((with_reducible refine gate_dst (N := 2) rfl ?_); refine box_event ?hg (N := 2) ?hd (cs := #[.int .i64 a0_0, .int .u64 a0_1]) (t := 31) ?hr ?_; (case hd => rfl); (case hg => rfl); (case hr => first | (go_simp; done) | (go_simp; rfl)); intro gb346 hg w9 hbox hb; have n0_ := Aside0.mk (below_step (by repeat (first | (with_reducible first | exact HB.out | apply below_alloc | apply pw_below_drewN | apply below_drew1) | exact HB.out)) hb); have n1_ := Aside0.mk (hbox); have n2_ := Aside0.mk ((by rw [hg]; exact (below_size (by repeat (first | (with_reducible first | exact HB.out | apply below_alloc | apply pw_below_drewN | apply below_drew1) | exact HB.out))) : w.heap.size ≤ gb346)); have n3_ := Aside0.mk ((by rw [hg]; exact (below_size (by repeat (first | (with_reducible first | exact HB.out | apply below_alloc | apply pw_below_drewN | apply below_drew1) | exact HB.out))) : w.heap.size ≤ gb346)); clear HB; have HB := n0_; have BK346 := n1_; have GW346 := n2_; have GE346 := n3_; clear n0_ n1_ n2_ n3_; clear hb hbox hg; have hcz10_0 : w9.cell? ⟨gb346, 0, none⟩ = some (.int .i64 a0_0) := (blk_cell BK346.out 0).trans rfl; have hcz10_1 : w9.cell? ⟨gb346, 1, none⟩ = some (.int .u64 a0_1) := (blk_cell BK346.out 1).trans rfl; have hfz10_0 := blk_frozen BK346.out 0; have hfz10_1 := blk_frozen BK346.out 1) | (go_at_call 41; (with_reducible refine (spec_NatOf.calls k (Go.bits .and .u64 a1 (IntKind.u64.wrap ((ji6) - 1))) t347 _ A8.out).mono ?_); rintro e w11 ⟨v348, rfl, ho0, hb⟩; have n0_ := Aside0.mk (Kd.R_lower ho0 (below_size (by repeat (first | (with_reducible first | exact HB.out | apply below_alloc | apply pw_below_drewN | apply below_drew1 | refine below_set ?_ GE346.out) | exact HB.out)))); have n1_ := Aside0.mk (blk_below (g := gb346) (o := .cells #[.int .i64 a0_0, .int .u64 a0_1] 31 (0, 0)) (by (with_reducible repeat (first | refine blk_drewN ?_ _ | refine blk_drew ?_ | refine blk_alloc ?_ _)); exact BK346.out) hb); have n2_ := Aside0.mk (below_step (by repeat (first | (with_reducible first | exact HB.out | apply below_alloc | apply pw_below_drewN | apply below_drew1 | refine below_set ?_ GE346.out) | exact HB.out)) hb); clear BK346; clear HB; have HO349 := n0_; have BK346 := n1_; have HB := n2_; clear n0_ n1_ n2_; (try clear hb); (try clear hb2); (try clear hk); (try clear hi); (try clear ho0))))
      go_ret
      exact ⟨_, by first | rfl | (simp [errW_none, errW_some] <;> rfl) | (simp only [← hji4, ← hji6]; first | rfl | (simp [errW_none, errW_some] <;> rfl)) | (simp [*, errW_none, errW_some] <;> rfl), by (with_reducible repeat (first | apply Kd.R_alloc | apply Kd.R_drewN | apply Kd.R_drew)); exact HO349.out, by repeat (first | (with_reducible first | exact HB.out | apply below_alloc | apply pw_below_drewN | apply below_drew1 | refine below_set ?_ GE346.out) | exact HB.out)⟩
    · rw [if_neg c7] at H
      have c7b0 : ((wrap64 (ji4)) == 0) = false := beq_eq_false_iff_ne.mpr c7
      have c7b1 : ((wrap64 (ji4)) != 0) = true := bne_iff_ne.mpr c7
      have c12b0 := eq_true (of_decide_eq_true (by first | (with_reducible assumption) | assumption) : 0 ≤ a0_0)
      replace H := Option.bind_eq_some_iff.mp H
      obtain ⟨t350, A140, H⟩ := H
      replace H : ((spec_Shifted.f k t350 (wrap64 ((wrap64 (ji4)) - 1))).bind fun t353 => (some t353)) = some r := H
      have A14 := Aside0.mk A140
      clear A140
      replace H := Option.bind_eq_some_iff.mp H
      obtain ⟨t353, A150, H⟩ := H
      replace H : (some t353) = some r := H
      have A15 := Aside0.mk A150
      clear A150
      obtain rfl := Option.some.inj H
      go_enter Tryd.func29, Tryd.ntmps29
      go_wp2_with (first | ((with_reducible refine gate_dst (N := 2) rfl ?_); refine box_event ?hg (N := 2) ?hd (cs := #[.int .i64 a0_0, .int .u64 a0_1]) (t := 31) ?hr ?_; (case hd => rfl); (case hg => rfl); (case hr => first | (go_simp; done) | (go_simp; rfl)); intro gb346 hg w16 hbox hb; have n0_ := Aside0.mk (below_step (by repeat (first | (with_reducible first | exact HB.out | apply below_alloc | apply pw_below_drewN | apply below_drew1) | exact HB.out)) hb); have n1_ := Aside0.mk (hbox); have n2_ := Aside0.mk ((by rw [hg]; exact (below_size (by repeat (first | (with_reducible first | exact HB.out | apply below_alloc | apply pw_below_drewN | apply below_drew1) | exact HB.out))) : w.heap.size ≤ gb346)); have n3_ := Aside0.mk ((by rw [hg]; exact (below_size (by repeat (first | (with_reducible first | exact HB.out | apply below_alloc | apply pw_below_drewN | apply below_drew1) | exact HB.out))) : w.heap.size ≤ gb346)); clear HB; have HB := n0_; have BK346 := n1_; have GW346 := n2_; have GE346 := n3_; clear n0_ n1_ n2_ n3_; clear hb hbox hg; have hcz17_0 : w16.cell? ⟨gb346, 0, none⟩ = some (.int .i64 a0_0) := (blk_cell BK346.out 0).trans rfl; have hcz17_1 : w16.cell? ⟨gb346, 1, none⟩ = some (.int .u64 a0_1) := (blk_cell BK346.out 1).trans rfl; have hfz17_0 := blk_frozen BK346.out 0; have hfz17_1 := blk_frozen BK346.out 1) | (go_at_call 41; (with_reducible refine (spec_NatOf.calls k (IntKind.u64.wrap ((Go.bits .and .u64 a1 (IntKind.u64.wrap ((ji6) - 1))) + (ji6))) t350 _ A14.out).mono ?_); rintro e w18 ⟨v351, rfl, ho0, hb⟩; have n0_ := Aside0.mk (Kd.R_lower ho0 (below_size (by repeat (first | (with_reducible first | exact HB.out | apply below_alloc | apply pw_below_drewN | apply below_drew1 | refine below_set ?_ GE346.out) | exact HB.out)))); have n1_ := Aside0.mk (blk_below (g := gb346) (o := .cells #[.int .i64 a0_0, .int .u64 a0_1] 31 (0, 0)) (by (with_reducible repeat (first | refine blk_drewN ?_ _ | refine blk_drew ?_ | refine blk_alloc ?_ _)); exact BK346.out) hb); have n2_ := Aside0.mk (below_step (by repeat (first | (with_reducible first | exact HB.out | apply below_alloc | apply pw_below_drewN | apply below_drew1 | refine below_set ?_ GE346.out) | exact HB.out)) hb); clear BK346; clear HB; have HO352 := n0_; have BK346 := n1_; have HB := n2_; clear n0_ n1_ n2_; (try clear hb); (try clear hb2); (try clear hk); (try clear hi); (try clear ho0); obtain ⟨Ao19, co19, eo19⟩ := Kd.R_slice HO352.out; subst eo19) | (go_at_call 28; (with_reducible refine (spec_Shifted.calls k _ _ t350 (wrap64 ((wrap64 (ji4)) - 1)) t353 _ ?side1 ?side2 A15.out).mono ?_); (case side1 => repeat (first | exact (Kd.R_reads' HO352.out).2.2 | (with_reducible refine Kd.C_alloc ?_ _) | (with_reducible refine Kd.C_drewN ?_ _) | (with_reducible refine Kd.C_drew ?_))); (case side2 => exact (Kd.R_reads' HO352.out).2.1); rintro e w20 ⟨v354, rfl, ho0, hb⟩; have n0_ := Aside0.mk (Kd.R_elder' (by (with_reducible repeat (first | apply Kd.R_alloc | apply Kd.R_drewN | apply Kd.R_drew)); exact HO352.out) (Kd.R_base ho0) hb); have n1_ := Aside0.mk (Kd.R_lower (Kd.R_new' ho0 (Kd.R_lt (by (with_reducible repeat (first | apply Kd.R_alloc | apply Kd.R_drewN | apply Kd.R_drew)); exact HO352.out))) (below_size (by repeat (first | (with_reducible first | exact HB.out | apply below_alloc | apply pw_below_drewN | apply below_drew1 | refine below_set ?_ GE346.out) | exact HB.out)))); have n2_ := Aside0.mk (blk_below (g := gb346) (o := .cells #[.int .i64 a0_0, .int .u64 a0_1] 31 (0, 0)) (by (with_reducible repeat (first | refine blk_drewN ?_ _ | refine blk_drew ?_ | refine blk_alloc ?_ _)); exact BK346.out) hb); have n3_ := Aside0.mk (below_step (by repeat (first | (with_reducible first | exact HB.out | apply below_alloc | apply pw_below_drewN | apply below_drew1 | refine below_set ?_ GE346.out) | exact HB.out)) hb); clear HO352; clear BK346; clear HB; have HO352 := n0_; have HO355 := n1_; have BK346 := n2_; have HB := n3_; clear n0_ n1_ n2_ n3_; (try clear hb); (try clear hb2); (try clear hk); (try clear hi); (try clear ho0)))
      repeat (go_quiet (first | ((with_reducible refine gate_dst (N := 2) rfl ?_); refine box_event ?hg (N := 2) ?hd (cs := #[.int .i64 a0_0, .int .u64 a0_1]) (t := 31) ?hr ?_; (case hd => rfl); (case hg => rfl); (case hr => first | (go_simp; done) | (go_simp; rfl)); intro gb346 hg w16 hbox hb; have n0_ := Aside0.mk (below_step (by repeat (first | (with_reducible first | exact HB.out | apply below_alloc | apply pw_below_drewN | apply below_drew1) | exact HB.out)) hb); have n1_ := Aside0.mk (hbox); have n2_ := Aside0.mk ((by rw [hg]; exact (below_size (by repeat (first | (with_reducible first | exact HB.out | apply below_alloc | apply pw_below_drewN | apply below_drew1) | exact HB.out))) : w.heap.size ≤ gb346)); have n3_ := Aside0.mk ((by rw [hg]; exact (below_size (by repeat (first | (with_reducible first | exact HB.out | apply below_alloc | apply pw_below_drewN | apply below_drew1) | exact HB.out))) : w.heap.size ≤ gb346)); clear HB; have HB := n0_; have BK346 := n1_; have GW346 := n2_; have GE346 := n3_; clear n0_ n1_ n2_ n3_; clear hb hbox hg; have hcz17_0 : w16.cell? ⟨gb346, 0, none⟩ = some (.int .i64 a0_0) := (blk_cell BK346.out 0).trans rfl; have hcz17_1 : w16.cell? ⟨gb346, 1, none⟩ = some (.int .u64 a0_1) := (blk_cell BK346.out 1).trans rfl; have hfz17_0 := blk_frozen BK346.out 0; have hfz17_1 := blk_frozen BK346.out 1) | (go_at_call 41; (with_reducible refine (spec_NatOf.calls k (IntKind.u64.wrap ((Go.bits .and .u64 a1 (IntKind.u64.wrap ((ji6) - 1))) + (ji6))) t350 _ A14.out).mono ?_); rintro e w18 ⟨v351, rfl, ho0, hb⟩; have n0_ := Aside0.mk (Kd.R_lower ho0 (below_size (by repeat (first | (with_reducible first | exact HB.out | apply below_alloc | apply pw_below_drewN | apply below_drew1 | refine below_set ?_ GE346.out) | exact HB.out)))); have n1_ := Aside0.mk (blk_below (g := gb346) (o := .cells #[.int .i64 a0_0, .int .u64 a0_1] 31 (0, 0)) (by (with_reducible repeat (first | refine blk_drewN ?_ _ | refine blk_drew ?_ | refine blk_alloc ?_ _)); exact BK346.out) hb); have n2_ := Aside0.mk (below_step (by repeat (first | (with_reducible first | exact HB.out | apply below_alloc | apply pw_below_drewN | apply below_drew1 | refine below_set ?_ GE346.out) | exact HB.out)) hb); clear BK346; clear HB; have HO352 := n0_; have BK346 := n1_; have HB := n2_; clear n0_ n1_ n2_; (try clear hb); (try clear hb2); (try clear hk); (try clear hi); (try clear ho0); obtain ⟨Ao19, co19, eo19⟩ := Kd.R_slice HO352.out; subst eo19) | (go_at_call 28; (with_reducible refine (spec_Shifted.calls k _ _ t350 (wrap64 ((wrap64 (ji4)) - 1)) t353 _ ?side1 ?side2 A15.out).mono ?_); (case side1 => repeat (first | exact (Kd.R_reads' HO352.out).2.2 | (with_reducible refine Kd.C_alloc ?_ _) | (with_reducible refine Kd.C_drewN ?_ _) | (with_reducible refine Kd.C_drew ?_))); (case side2 => exact (Kd.R_reads' HO352.out).2.1); rintro e w20 ⟨v354, rfl, ho0, hb⟩; have n0_ := Aside0.mk (Kd.R_elder' (by (with_reducible repeat (first | apply Kd.R_alloc | apply Kd.R_drewN | apply Kd.R_drew)); exact HO352.out) (Kd.R_base ho0) hb); have n1_ := Aside0.mk (Kd.R_lower (Kd.R_new' ho0 (Kd.R_lt (by (with_reducible repeat (first | apply Kd.R_alloc | apply Kd.R_drewN | apply Kd.R_drew)); exact HO352.out))) (below_size (by repeat (first | (with_reducible first | exact HB.out | apply below_alloc | apply pw_below_drewN | apply below_drew1 | refine below_set ?_ GE346.out) | exact HB.out)))); have n2_ := Aside0.mk (blk_below (g := gb346) (o := .cells #[.int .i64 a0_0, .int .u64 a0_1] 31 (0, 0)) (by (with_reducible repeat (first | refine blk_drewN ?_ _ | refine blk_drew ?_ | refine blk_alloc ?_ _)); exact BK346.out) hb); have n3_ := Aside0.mk (below_step (by repeat (first | (with_reducible first | exact HB.out | apply below_alloc | apply pw_below_drewN | apply below_drew1 | refine below_set ?_ GE346.out) | exact HB.out)) hb); clear HO352; clear BK346; clear HB; have HO352 := n0_; have HO355 := n1_; have BK346 := n2_; have HB := n3_; clear n0_ n1_ n2_ n3_; (try clear hb); (try clear hb2); (try clear hk); (try clear hi); (try clear ho0))); try go_wp2_with (first | ((with_reducible refine gate_dst (N := 2) rfl ?_); refine box_event ?hg (N := 2) ?hd (cs := #[.int .i64 a0_0, .int .u64 a0_1]) (t := 31) ?hr ?_; (case hd => rfl); (case hg => rfl); (case hr => first | (go_simp; done) | (go_simp; rfl)); intro gb346 hg w16 hbox hb; have n0_ := Aside0.mk (below_step (by repeat (first | (with_reducible first | exact HB.out | apply below_alloc | apply pw_below_drewN | apply below_drew1) | exact HB.out)) hb); have n1_ := Aside0.mk (hbox); have n2_ := Aside0.mk ((by rw [hg]; exact (below_size (by repeat (first | (with_reducible first | exact HB.out | apply below_alloc | apply pw_below_drewN | apply below_drew1) | exact HB.out))) : w.heap.size ≤ gb346)); have n3_ := Aside0.mk ((by rw [hg]; exact (below_size (by repeat (first | (with_reducible first | exact HB.out | apply below_alloc | apply pw_below_drewN | apply below_drew1) | exact HB.out))) : w.heap.size ≤ gb346)); clear HB; have HB := n0_; have BK346 := n1_; have GW346 := n2_; have GE346 := n3_; clear n0_ n1_ n2_ n3_; clear hb hbox hg; have hcz17_0 : w16.cell? ⟨gb346, 0, none⟩ = some (.int .i64 a0_0) := (blk_cell BK346.out 0).trans rfl; have hcz17_1 : w16.cell? ⟨gb346, 1, none⟩ = some (.int .u64 a0_1) := (blk_cell BK346.out 1).trans rfl; have hfz17_0 := blk_frozen BK346.out 0; have hfz17_1 := blk_frozen BK346.out 1) | (go_at_call 41; (with_reducible refine (spec_NatOf.calls k (IntKind.u64.wrap ((Go.bits .and .u64 a1 (IntKind.u64.wrap ((ji6) - 1))) + (ji6))) t350 _ A14.out).mono ?_); rintro e w18 ⟨v351, rfl, ho0, hb⟩; have n0_ := Aside0.mk (Kd.R_lower ho0 (below_size (by repeat (first | (with_reducible first | exact HB.out | apply below_alloc | apply pw_below_drewN | apply below_drew1 | refine below_set ?_ GE346.out) | exact HB.out)))); have n1_ := Aside0.mk (blk_below (g := gb346) (o := .cells #[.int .i64 a0_0, .int .u64 a0_1] 31 (0, 0)) (by (with_reducible repeat (first | refine blk_drewN ?_ _ | refine blk_drew ?_ | refine blk_alloc ?_ _)); exact BK346.out) hb); have n2_ := Aside0.mk (below_step (by repeat (first | (with_reducible first | exact HB.out | apply below_alloc | apply pw_below_drewN | apply below_drew1 | refine below_set ?_ GE346.out) | exact HB.out)) hb); clear BK346; clear HB; have HO352 := n0_; have BK346 := n1_; have HB := n2_; clear n0_ n1_ n2_; (try clear hb); (try clear hb2); (try clear hk); (try clear hi); (try clear ho0); obtain ⟨Ao19, co19, eo19⟩ := Kd.R_slice HO352.out; subst eo19) | (go_at_call 28; (with_reducible refine (spec_Shifted.calls k _ _ t350 (wrap64 ((wrap64 (ji4)) - 1)) t353 _ ?side1 ?side2 A15.out).mono ?_); (case side1 => repeat (first | exact (Kd.R_reads' HO352.out).2.2 | (with_reducible refine Kd.C_alloc ?_ _) | (with_reducible refine Kd.C_drewN ?_ _) | (with_reducible refine Kd.C_drew ?_))); (case side2 => exact (Kd.R_reads' HO352.out).2.1); rintro e w20 ⟨v354, rfl, ho0, hb⟩; have n0_ := Aside0.mk (Kd.R_elder' (by (with_reducible repeat (first | apply Kd.R_alloc | apply Kd.R_drewN | apply Kd.R_drew)); exact HO352.out) (Kd.R_base ho0) hb); have n1_ := Aside0.mk (Kd.R_lower (Kd.R_new' ho0 (Kd.R_lt (by (with_reducible repeat (first | apply Kd.R_alloc | apply Kd.R_drewN | apply Kd.R_drew)); exact HO352.out))) (below_size (by repeat (first | (with_reducible first | exact HB.out | apply below_alloc | apply pw_below_drewN | apply below_drew1 | refine below_set ?_ GE346.out) | exact HB.out)))); have n2_ := Aside0.mk (blk_below (g := gb346) (o := .cells #[.int .i64 a0_0, .int .u64 a0_1] 31 (0, 0)) (by (with_reducible repeat (first | refine blk_drewN ?_ _ | refine blk_drew ?_ | refine blk_alloc ?_ _)); exact BK346.out) hb); have n3_ := Aside0.mk (below_step (by repeat (first | (with_reducible first | exact HB.out | apply below_alloc | apply pw_below_drewN | apply below_drew1 | refine below_set ?_ GE346.out) | exact HB.out)) hb); clear HO352; clear BK346; clear HB; have HO352 := n0_; have HO355 := n1_; have BK346 := n2_; have HB := n3_; clear n0_ n1_ n2_ n3_; (try clear hb); (try clear hb2); (try clear hk); (try clear hi); (try clear ho0))))
      go_ret
      exact ⟨_, by first | rfl | (simp [errW_none, errW_some] <;> rfl) | (simp only [← hji4, ← hji6]; first | rfl | (simp [errW_none, errW_some] <;> rfl)) | (simp [*, errW_none, errW_some] <;> rfl), by (with_reducible repeat (first | apply Kd.R_alloc | apply Kd.R_drewN | apply Kd.R_drew)); exact Kd.R_mono HO355.out (fun _ hk => trivial), by repeat (first | (with_reducible first | exact HB.out | apply below_alloc | apply pw_below_drewN | apply below_drew1 | refine below_set ?_ GE346.out) | exact HB.out)⟩
  · rw [if_neg c3] at H
    exact absurd H (by simp)

end Go.Proofs.YtiopeaponffmdaaDoor.PAll
-- YtiopeaponffmdaaDoorPAllx20
namespace Go.Proofs.YtiopeaponffmdaaDoor.PAll
open Go.RowKit Go.Proofs.YtiopeaponffmdaaDoorW.PrintWords Go.Proofs.YtiopeaponffmdaaDoorW.PrintLast Go.Proofs.YtiopeaponffmdaaDoorW.PrintMore
attribute [local go_sem] max2_int min2_int max_two min_two max_three min_three max_four min_four   -- for this text's walks alone
set_option linter.unusedVariables false
set_option linter.unusedSimpArgs false

def spec_decimals.l0 : Nat → Int → List Int → Option (ByteArray)
  | 0, _, _ => none
  | k + 1, x0, x3 => if x0 > 0 then ((some (([(IntKind.u64.wrap (48 + (Int.tmod x0 10))) % 256] : List Int) : List Int)).bind fun y367 => (if y367.length + x3.length < 140737488355328 then (spec_decimals.l0 k (IntKind.u64.wrap (Int.tdiv x0 10)) (y367 ++ x3)) else (none))) else (if (x3.length : Int) = 0 then ((some (([(IntKind.u64.wrap (48 + (Int.tmod x0 10))) % 256] : List Int) : List Int)).bind fun y373 => (if y373.length + x3.length < 140737488355328 then (spec_decimals.l0 k (IntKind.u64.wrap (Int.tdiv x0 10)) (y373 ++ x3)) else (none))) else (some (strOfNums x3)))
def spec_decimals.f (k : Nat) (a0 : Int) : Option (ByteArray) := spec_decimals.l0 k a0 (([] : List Int))
end Go.Proofs.YtiopeaponffmdaaDoor.PAll
-- YtiopeaponffmdaaDoorNb
namespace Go.Proofs.YtiopeaponffmdaaDoor.PAll
open Go.RowKit Go.Proofs.YtiopeaponffmdaaDoorW.PrintWords Go.Proofs.YtiopeaponffmdaaDoorW.PrintLast Go.Proofs.YtiopeaponffmdaaDoorW.PrintMore

def cmp (a b : Nat) : Int := if a < b then -1 else if a = b then 0 else 1
theorem cmp_lt {a b : Nat} (h : a < b) : cmp a b = -1 := if_pos h
theorem cmp_eq {a b : Nat} (h : a = b) : cmp a b = 0 := by unfold cmp; rw [if_neg (by omega), if_pos h]
theorem cmp_gt {a b : Nat} (h : b < a) : cmp a b = 1 := by unfold cmp; rw [if_neg (by omega), if_neg (by omega)]

theorem dg_mono {a b : Nat} (h : a ≤ b) : (dg a).length ≤ (dg b).length := dg_length (Nat.lt_of_le_of_lt h (lt_dg_length b))
theorem take_snoc (l : List Int) (i : Nat) (h : i < l.length) : l.take (i + 1) = l.take i ++ [rd l (i : Int)] := by
  rw [List.take_add_one, List.getElem?_eq_getElem h]
  simp [rd, List.getD, List.getElem?_eq_getElem h]
theorem rd_mem (l : List Int) (i : Nat) (h : i < l.length) : rd l (i : Int) ∈ l := by
  simp [rd, List.getD, List.getElem?_eq_getElem h]

set_option linter.unusedVariables false in
theorem Compare_ev (a b : Nat) (ha : (dg a).length ≤ 1000000) (hb : (dg b).length ≤ 1000000) : Ev (fun k => spec_Compare.f k (dg a) (dg b)) (cmp a b) := by
  by_cases hl : (dg a).length = (dg b).length
  · obtain ⟨x, hx⟩ : ∃ x, x = dg a := ⟨_, rfl⟩
    obtain ⟨y, hy⟩ : ∃ y, y = dg b := ⟨_, rfl⟩
    have dx : Dg x := hx ▸ Dg_dg a
    have dy : Dg y := hy ▸ Dg_dg b
    have vx : nv x = a := hx ▸ nv_dg a
    have vy : nv y = b := hy ▸ nv_dg b
    rw [← hx, ← hy] at hl ⊢
    rw [← hx] at ha
    have main : ∀ n : Nat, n ≤ x.length → Ev (fun k => spec_Compare.l0 k x y ((n : Int) - 1)) (cmp (nv (x.take n)) (nv (y.take n))) := by
      intro n
      induction n with
      | zero =>
        intro _
        refine Ev.succ (g := fun _ => some 0) (fun k => ?_) (by rw [List.take_zero, List.take_zero, cmp_eq rfl]; exact Ev.pure _)
        rw [spec_Compare.l0, if_neg (by omega)]
      | succ n ih =>
        intro hn
        have rx := dx _ (rd_mem x n (by omega))
        have ry := dy _ (rd_mem y n (by omega))
        have lx := nv_lt (dx.take n)
        have ly := nv_lt (dy.take n)
        rw [List.length_take, Nat.min_eq_left (by omega)] at lx ly
        have ex : nv (x.take (n + 1)) = nv (x.take n) + 4294967296 ^ n * (rd x (n : Int)).toNat := by
          rw [take_snoc x n (by omega), nv_append, List.length_take, Nat.min_eq_left (by omega)]; simp [nv]
        have ey : nv (y.take (n + 1)) = nv (y.take n) + 4294967296 ^ n * (rd y (n : Int)).toNat := by
          rw [take_snoc y n (by omega), nv_append, List.length_take, Nat.min_eq_left (by omega)]; simp [nv]
        have e0 : ((n + 1 : Nat) : Int) - 1 = (n : Int) := by omega
        rw [e0, ex, ey]
        generalize 4294967296 ^ n = P at *
        by_cases h1 : rd x (n : Int) < rd y (n : Int)
        · have hm : P * ((rd x (n : Int)).toNat + 1) ≤ P * (rd y (n : Int)).toNat := Nat.mul_le_mul_left _ (by omega)
          rw [Nat.mul_add, Nat.mul_one] at hm
          rw [cmp_lt (by omega)]
          refine Ev.succ (g := fun _ => some (-1)) (fun k => ?_) (Ev.pure _)
          rw [spec_Compare.l0, if_pos (by omega), if_pos (by omega), if_pos (by omega), if_pos (by omega), if_pos h1]
        · by_cases h2 : rd x (n : Int) > rd y (n : Int)
          · have hm : P * ((rd y (n : Int)).toNat + 1) ≤ P * (rd x (n : Int)).toNat := Nat.mul_le_mul_left _ (by omega)
            rw [Nat.mul_add, Nat.mul_one] at hm
            rw [cmp_gt (by omega)]
            refine Ev.succ (g := fun _ => some 1) (fun k => ?_) (Ev.pure _)
            rw [spec_Compare.l0, if_pos (by omega), if_pos (by omega), if_pos (by omega), if_pos (by omega), if_neg h1, if_pos h2]
          · have he : rd x (n : Int) = rd y (n : Int) := by omega
            rw [he]
            have hc : cmp (nv (x.take n) + P * (rd y (n : Int)).toNat) (nv (y.take n) + P * (rd y (n : Int)).toNat) = cmp (nv (x.take n)) (nv (y.take n)) := by
              generalize P * (rd y (n : Int)).toNat = Q
              unfold cmp
              by_cases g1 : nv (x.take n) < nv (y.take n)
              · rw [if_pos (by omega), if_pos g1]
              · by_cases g2 : nv (x.take n) = nv (y.take n)
                · rw [if_neg (by omega), if_pos (by omega), if_neg g1, if_pos g2]
                · rw [if_neg (by omega), if_neg (by omega), if_neg g1, if_neg g2]
            rw [hc]
            refine Ev.succ (fun k => ?_) (ih (by omega))
            have ew : wrap64 ((n : Int) - 1) = (n : Int) - 1 := by unfold wrap64; omega
            rw [spec_Compare.l0, if_pos (by omega), if_pos (by omega), if_pos (by omega), if_pos (by omega), if_neg h1, if_neg h2, ew]
    have f := main x.length (Nat.le_refl _)
    rw [List.take_length, hl, List.take_length, vx, vy] at f
    refine Ev.congr f (fun k => ?_)
    rw [spec_Compare.f, if_pos (by omega)]
    have ew : wrap64 ((x.length : Int) - 1) = (y.length : Int) - 1 := by unfold wrap64; omega
    rw [ew]
  · by_cases h1 : (dg a).length < (dg b).length
    · rw [cmp_lt (Nat.lt_of_not_le fun h => by have := dg_mono h; omega)]
      refine Ev.congr (Ev.pure _) (fun k => ?_)
      rw [spec_Compare.f, if_neg (by omega), if_pos (by omega)]
    · rw [cmp_gt (Nat.lt_of_not_le fun h => by have := dg_mono h; omega)]
      refine Ev.congr (Ev.pure _) (fun k => ?_)
      rw [spec_Compare.f, if_neg (by omega), if_neg (by omega)]

theorem drop_nv (x : List Int) (i : Nat) (h : Dg x) : (i < x.length → ∃ d : Nat, rd x (i : Int) = (d : Int) ∧ d < 4294967296 ∧ nv (x.drop i) = d + 4294967296 * nv (x.drop (i + 1))) ∧ (x.length ≤ i → nv (x.drop i) = 0 ∧ nv (x.drop (i + 1)) = 0) := by
  constructor
  · intro hi
    have hr := h _ (rd_mem x i hi)
    refine ⟨(rd x (i : Int)).toNat, by omega, by omega, ?_⟩
    have hdrop : x.drop i = rd x (i : Int) :: x.drop (i + 1) := by
      rw [List.drop_eq_getElem_cons hi]
      congr 1
      simp [rd, List.getD, List.getElem?_eq_getElem hi]
    rw [hdrop, nv]
  · intro hi
    rw [List.drop_eq_nil_of_le hi, List.drop_eq_nil_of_le (by omega)]
    exact ⟨rfl, rfl⟩

set_option maxHeartbeats 800000 in
theorem Add_ev (x y : List Int) (hx : Dg x) (hy : Dg y) (lx : x.length ≤ 1000000) (ly : y.length ≤ 1000000) : Ev (fun k => spec_Add.f k x y) (dg (nv x + nv y)) := by
  have hu : ∀ x : Int, 0 ≤ x → x < 18446744073709551616 → IntKind.u64.wrap x = x := fun x h0 h1 => by rw [IntKind.wrap_u64]; omega
  have fin : ∀ (out : List Int) (i : Nat), x.length ≤ i → y.length ≤ i → i ≤ 1000010 → Dg out → out.length = i →
      Ev (fun k => spec_Add.l0 k x y out 0 (i : Int)) (dg (nv out)) := by
    intro out i hi hi' hi2 ho hlo
    refine Ev.succ (g := fun k => spec_Add.j1 k x y out 0 (i : Int) false) (fun k => ?_) ?_
    · rw [spec_Add.l0, if_neg (by omega), if_neg (by omega)]; rfl
    · refine Ev.succ (g := fun k => (spec_trim.f k out).bind fun t => some t) (fun k => ?_) ?_
      · rw [spec_Add.j1, if_neg (by decide)]
      · exact Ev.bind (trim_ev ho (by omega)) (Ev.pure _)
  have main : ∀ (n : Nat) (i c : Nat) (out : List Int), x.length ≤ i + n → y.length ≤ i + n → i + n ≤ 1000000 → Dg out → out.length = i → c ≤ 1 →
      Ev (fun k => spec_Add.l0 k x y out (c : Int) (i : Int)) (dg (nv out + 4294967296 ^ i * (nv (x.drop i) + nv (y.drop i) + c))) := by
    intro n
    induction n with
    | zero =>
      intro i c out hn hn' hi ho hlo hc
      rw [((drop_nv x i hx).2 (by omega)).1, ((drop_nv y i hy).2 (by omega)).1]
      by_cases hc0 : c = 0
      · subst hc0
        have := fin out i (by omega) (by omega) (by omega) ho hlo
        simpa using this
      · have hc1 : c = 1 := by omega
        subst hc1
        refine Ev.succ (g := fun k => spec_Add.j1 k x y out ((1 : Nat) : Int) (i : Int) true) (fun k => ?_) ?_
        · rw [spec_Add.l0, if_neg (by omega), if_neg (by omega)]
          rfl
        · have f := fin (out ++ [1]) (i + 1) (by omega) (by omega) (by omega) (ho.append (Dg.cons (by omega) (by omega) Dg.nil)) (by simp [hlo])
          rw [nv_append, hlo] at f
          refine Ev.succ (fun k => ?_) (show Ev _ (dg (nv out + 4294967296 ^ i * (0 + 0 + 1))) from (by simpa [nv] using f))
          rw [spec_Add.j1, if_pos rfl, if_neg (by omega), if_neg (by omega), if_pos (by omega)]
          have e3 : wrap64 ((i : Int) + 1) = ((i + 1 : Nat) : Int) := by unfold wrap64; omega
          rw [e3]
          rfl
    | succ n ih =>
      intro i c out hn hn' hi ho hlo hc
      have e3 : wrap64 ((i : Int) + 1) = ((i + 1 : Nat) : Int) := by unfold wrap64; omega
      -- one round with the sum t
      have rnd : ∀ (t : Nat) (A B : Nat), t ≤ 8589934591 → nv (x.drop i) + nv (y.drop i) + c = t + 4294967296 * (nv (x.drop (i + 1)) + nv (y.drop (i + 1))) →
          Ev (fun k => spec_Add.l0 k x y (out ++ [(t : Int) % 4294967296]) ((t : Int) / 4294967296) (((i + 1 : Nat) : Int))) (dg (nv out + 4294967296 ^ i * (nv (x.drop i) + nv (y.drop i) + c))) := by
        intro t _ _ ht he
        have f := ih (i + 1) (t / 4294967296) (out ++ [((t % 4294967296 : Nat) : Int)]) (by omega) (by omega) (by omega) (ho.append (Dg.cons (by omega) (by omega) Dg.nil)) (by simp [hlo]) (by omega)
        have ev : nv (out ++ [((t % 4294967296 : Nat) : Int)]) + 4294967296 ^ (i + 1) * (nv (x.drop (i + 1)) + nv (y.drop (i + 1)) + t / 4294967296) = nv out + 4294967296 ^ i * (nv (x.drop i) + nv (y.drop i) + c) := by
          rw [nv_append, hlo, he, Nat.pow_succ]
          simp only [nv, Int.toNat_natCast]
          have e := Nat.div_add_mod t 4294967296
          generalize 4294967296 ^ i = P
          have h2 : P * (t % 4294967296 + 4294967296 * (t / 4294967296)) = P * t := by congr 1; omega
          rw [Nat.mul_add] at h2 ⊢
          grind
        rw [ev] at f
        exact f
      by_cases h1 : i < x.length
      · obtain ⟨d, hd, hd2, hv⟩ := (drop_nv x i hx).1 h1
        by_cases h2 : i < y.length
        · obtain ⟨d', hd', hd2', hv'⟩ := (drop_nv y i hy).1 h2
          refine Ev.succ (g := fun k => spec_Add.j1 k x y out (c : Int) (i : Int) true) (fun k => ?_) (Ev.succ (fun k => ?_) (rnd (c + d + d') 0 0 (by omega) (by omega)))
          · rw [spec_Add.l0, if_pos (by omega)]
          · rw [spec_Add.j1, if_pos rfl, if_pos (by omega), if_pos (by omega), if_pos (by omega), if_pos (by omega), hd, hd', hu (d : Int) (by omega) (by omega), hu (d' : Int) (by omega) (by omega), hu ((c : Int) + (d : Int)) (by omega) (by omega), hu _ (by omega) (by omega), e3]
            rfl
        · obtain ⟨hv', hv2'⟩ := (drop_nv y i hy).2 (by omega)
          refine Ev.succ (g := fun k => spec_Add.j1 k x y out (c : Int) (i : Int) true) (fun k => ?_) (Ev.succ (fun k => ?_) (rnd (c + d) 0 0 (by omega) (by omega)))
          · rw [spec_Add.l0, if_pos (by omega)]
          · rw [spec_Add.j1, if_pos rfl, if_pos (by omega), if_pos (by omega), if_neg (by omega), if_pos (by omega), hd, hu (d : Int) (by omega) (by omega), hu _ (by omega) (by omega), e3]
            rfl
      · obtain ⟨hv, hv2⟩ := (drop_nv x i hx).2 (by omega)
        by_cases h2 : i < y.length
        · obtain ⟨d', hd', hd2', hv'⟩ := (drop_nv y i hy).1 h2
          refine Ev.succ (g := fun k => spec_Add.j1 k x y out (c : Int) (i : Int) true) (fun k => ?_) (Ev.succ (fun k => ?_) (rnd (c + d') 0 0 (by omega) (by omega)))
          · rw [spec_Add.l0, if_neg (by omega), if_pos (by omega)]
          · rw [spec_Add.j1, if_pos rfl, if_neg (by omega), if_pos (by omega), if_pos (by omega), if_pos (by omega), hd', hu (d' : Int) (by omega) (by omega), hu _ (by omega) (by omega), e3]
            rfl
        · obtain ⟨hv', hv2'⟩ := (drop_nv y i hy).2 (by omega)
          by_cases hc0 : c = 0
          · subst hc0
            have := fin out i (by omega) (by omega) (by omega) ho hlo
            simpa [hv, hv'] using this
          · refine Ev.succ (g := fun k => spec_Add.j1 k x y out (c : Int) (i : Int) true) (fun k => ?_) (Ev.succ (fun k => ?_) (rnd c 0 0 (by omega) (by omega)))
            · rw [spec_Add.l0, if_neg (by omega), if_neg (by omega), show decide ((c : Int) > 0) = true by rw [decide_eq_true_iff]; omega]
            · rw [spec_Add.j1, if_pos rfl, if_neg (by omega), if_neg (by omega), if_pos (by omega), e3]
  have f := main (max x.length y.length) 0 0 [] (by omega) (by omega) (by omega) Dg.nil rfl (by omega)
  have f' : Ev (fun k => spec_Add.l0 k x y [] 0 0) (dg (nv x + nv y)) := by simpa [nv] using f
  exact f'

theorem NatOf_ev (n : Nat) (hn : n < 18446744073709551616) : Ev (fun k => spec_NatOf.f k (n : Int)) (dg n) := by
  have e : dg n = dg (nv [((n : Int)) % 4294967296, ((n : Int) / 4294967296) % 4294967296]) := by
    congr 1
    simp only [nv]
    omega
  rw [e]
  exact Ev.bind (trim_ev (Dg.cons (by omega) (by omega) (Dg.cons (by omega) (by omega) Dg.nil)) (by simp)) (Ev.pure _)

end Go.Proofs.YtiopeaponffmdaaDoor.PAll
