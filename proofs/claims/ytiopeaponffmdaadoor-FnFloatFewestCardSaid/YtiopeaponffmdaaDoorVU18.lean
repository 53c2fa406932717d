/- The texts of a proof, its declarations alone: part 18. -/
import Derived.Test.YtiopeaponffmdaaDoorVU17
set_option linter.unusedVariables false
set_option linter.unusedSimpArgs false
-- YtiopeaponffmdaaDoorGd
set_option linter.unusedVariables false
set_option linter.unusedSimpArgs false
namespace Go.Proofs.YtiopeaponffmdaaDoor.PAll
open Go.RowKit Go.Proofs.YtiopeaponffmdaaDoorW.PrintWords Go.Proofs.YtiopeaponffmdaaDoorW.PrintLast Go.Proofs.YtiopeaponffmdaaDoorW.PrintMore
open Fm

/-- DecimalOf at a text: ahead of the exponent, and the exponent -/
theorem dec_of (L A E : List Int) (sg : Bool) (ds : List Int) (p e : Int) (bh dn : Bool) (hL : L = A ++ E) (hb : ∀ x ∈ L, 0 ≤ x ∧ x < 256) (hn : L.length ≤ 1000) (h0 : 0 < L.length)
    (hsg : (rd L 0 == 45) = sg) (hA : ∀ b ∈ A, b ≠ 101 ∧ b ≠ 69) (hE : E = [] ∨ ∃ t, E = 101 :: t) (fA : A.foldl stA ([], 0, false) = (ds, p, bh)) (fE : E.foldl stB (0, false) = (e, dn))
    (hp0 : -1000 ≤ p) (hp1 : p ≤ 0) (he0 : 0 ≤ e) (he1 : e ≤ 100000) :
    Ev (fun k => spec_DecimalOf.f k (strOfNums L)) (strOfNums ds, (if dn = true then p - e else p + e), sg) := by
  obtain ⟨s, hs⟩ : ∃ s, s = strOfNums L := ⟨_, rfl⟩
  have hbs : bytesOf s = L := by rw [hs]; exact bytesOf_strOfNums hb
  have hsz : s.size = L.length := by rw [hs, strOfNums_size]
  rw [← hs]
  have h1 : Ev (fun k => spec_DecimalOf.l1 k s sg ds p ((0 + A.length : Nat) : Int) 0 false) (strOfNums ds, (if dn = true then p - e else p + e), sg) := by
    refine dec_l1_fold s sg ds p _ (by omega) E [] 0 false (0 + A.length) (by rw [hbs, hL]; simp) (by decide) (by decide) e dn fE ?_
    exact dec_l1_end s sg ds p e dn _ (by rw [hsz, hL]; simp) he0 he1 hp0 hp1
  have h2 : Ev (fun k => spec_DecimalOf.l0 k s sg [] 0 false ((0 : Nat) : Int)) (strOfNums ds, (if dn = true then p - e else p + e), sg) := by
    refine dec_l0_fold s sg _ (by omega) A E [] 0 false 0 (by rw [hbs, hL]; simp) hA (by simp) (by decide) (by decide) ds p bh fA ?_
    refine dec_l0_end s sg ds p bh _ _ ?_ h1
    rcases hE with rfl | ⟨t, rfl⟩
    · left; rw [hsz, hL]; simp
    · right
      have hd : (bytesOf s).drop (0 + A.length) = 101 :: t := by rw [hbs, hL]; simp
      obtain ⟨d1, d2, _⟩ := drop_bt hd
      exact ⟨d1, d2⟩
  refine Ev.congr (Ev.succ (f := fun k => spec_DecimalOf.j0 k s sg) (fun k => rfl) h2) (fun k => ?_)
  have hb0 : bt s 0 = rd L 0 := by rw [← rd_bytesOf, hbs]
  rw [spec_DecimalOf.f, if_pos (by omega), if_pos (by omega), hb0, hsg]

theorem foldA_dig : ∀ (seg ds : List Int) (p : Int) (bh : Bool), ds ≠ [] → (∀ b ∈ seg, 48 ≤ b ∧ b ≤ 57) → seg.foldl stA (ds, p, bh) = (ds ++ seg, (if bh = true then p - seg.length else p), bh) := by
  intro seg
  induction seg with
  | nil => intro ds p bh _ _; simp
  | cons b seg ih =>
    intro ds p bh hne hb
    obtain ⟨q1, q2⟩ := hb b (by simp)
    rw [List.foldl_cons, stA_dig ds p bh b q1 q2, if_pos (.inl hne), ih _ _ _ (by simp) (fun x hx => hb x (List.mem_cons_of_mem _ hx))]
    cases bh
    · simp
    · simp; omega
theorem foldA_first (seg : List Int) (b p : Int) (bh : Bool) (h48 : b ≠ 48) (hb : ∀ x ∈ b :: seg, 48 ≤ x ∧ x ≤ 57) : (b :: seg).foldl stA ([], p, bh) = (b :: seg, (if bh = true then p - (b :: seg).length else p), bh) := by
  obtain ⟨q1, q2⟩ := hb b (by simp)
  rw [List.foldl_cons, stA_dig [] p bh b q1 q2, if_pos (.inr h48), foldA_dig seg _ _ _ (by simp) (fun x hx => hb x (List.mem_cons_of_mem _ hx))]
  cases bh
  · simp
  · simp; omega
theorem foldA_zero : ∀ (j : Nat) (p : Int) (bh : Bool), (List.replicate j (48 : Int)).foldl stA ([], p, bh) = ([], (if bh = true then p - (j : Int) else p), bh) := by
  intro j
  induction j with
  | zero => intro p bh; simp
  | succ j ih =>
    intro p bh
    rw [List.replicate_succ, List.foldl_cons, stA_dig [] p bh 48 (by decide) (by decide), if_neg (by simp), ih]
    cases bh
    · simp
    · simp; omega
theorem foldA_sign (sg : Bool) : (if sg = true then [45] else [] : List Int).foldl stA ([], 0, false) = ([], 0, false) := by cases sg <;> rfl

theorem foldl_dvl_le (l : List Int) : ∀ v : Nat, v ≤ l.foldl (fun v b => v * 10 + (b - 48).toNat) v := by
  induction l with
  | nil => intro v; exact Nat.le_refl _
  | cons b l ih => intro v; rw [List.foldl_cons]; have := ih (v * 10 + (b - 48).toNat); omega
theorem foldB_dig : ∀ (l : List Int) (v : Nat) (dn : Bool), (∀ b ∈ l, 48 ≤ b ∧ b ≤ 57) → l.foldl (fun v b => v * 10 + (b - 48).toNat) v ≤ 100000 → l.foldl stB ((v : Int), dn) = (((l.foldl (fun v b => v * 10 + (b - 48).toNat) v : Nat) : Int), dn) := by
  intro l
  induction l with
  | nil => intro v dn _ _; rfl
  | cons b l ih =>
    intro v dn hb hle
    obtain ⟨q1, q2⟩ := hb b (by simp)
    rw [List.foldl_cons] at hle ⊢
    have hm := foldl_dvl_le l (v * 10 + (b - 48).toNat)
    have e : stB ((v : Int), dn) b = (((v * 10 + (b - 48).toNat : Nat) : Int), dn) := by
      unfold stB mn
      rw [if_neg (by omega), if_pos ⟨q1, q2⟩, if_neg (by omega)]
      congr 1
      omega
    rw [e, List.foldl_cons, ih _ _ (fun x hx => hb x (List.mem_cons_of_mem _ hx)) hle]
theorem foldB_dec (x : Nat) (dn : Bool) (hx : x ≤ 100000) : (dec x).foldl stB (0, dn) = ((x : Int), dn) := by
  have h := foldB_dig (dec x) 0 dn (dec_digit x) (by have := dvl_dec x; unfold dvl at this; omega)
  have e := dvl_dec x
  unfold dvl at e
  rw [e] at h
  exact h

theorem dec_laid (ds : List Int) (n : Int) (sg : Bool) (h1 : 1 ≤ ds.length) (h2 : ds.length ≤ 100) (hd : ∀ b ∈ ds, 48 ≤ b ∧ b ≤ 57) (h48 : rd ds 0 ≠ 48) (hn0 : -900 ≤ n) (hn1 : n ≤ 900) :
    ∃ i : Nat, i ≤ 21 ∧ Ev (fun k => spec_DecimalOf.f k (strOfNums ((if sg = true then [45] else []) ++ laidL ds n))) (strOfNums (ds ++ List.replicate i 48), n - (ds.length : Int) - (i : Int), sg) := by
  obtain ⟨b, t, rfl⟩ : ∃ b t, ds = b :: t := by
    cases ds with
    | nil => simp at h1
    | cons b t => exact ⟨b, t, rfl⟩
  have hb48 : b ≠ 48 := h48
  have hbd := hd b (by simp)
  have dne : ∀ x : Int, 48 ≤ x ∧ x ≤ 57 → x ≠ 101 ∧ x ≠ 69 := fun x hx => ⟨by omega, by omega⟩
  have sgl : (if sg = true then [45] else [] : List Int).length ≤ 1 := by cases sg <;> simp
  have sgb : ∀ x ∈ (if sg = true then [45] else [] : List Int), x = 45 := by cases sg <;> simp
  have hdt : ∀ x ∈ t, 48 ≤ x ∧ x ≤ 57 := fun x hx => hd x (List.mem_cons_of_mem _ hx)
  have hsgn : ∀ (q : List Int) (y : Int), 48 ≤ y → (rd ((if sg = true then [45] else []) ++ (y :: q)) 0 == 45) = sg := by
    intro q y hy
    cases sg
    · show (y == 45) = false
      rw [beq_eq_false_iff_ne]; omega
    · rfl
  have rep : ∀ j : Nat, ∀ x ∈ List.replicate j (48 : Int), x = 48 := fun j x hx => List.eq_of_mem_replicate hx
  obtain ⟨S, hS⟩ : ∃ S, S = (if sg = true then [45] else [] : List Int) := ⟨_, rfl⟩
  have fS : S.foldl stA ([], 0, false) = ([], 0, false) := by rw [hS]; exact foldA_sign sg
  rw [← hS] at sgl sgb hsgn ⊢
  unfold laidL
  by_cases c1 : ((b :: t).length : Int) ≤ n ∧ n ≤ 21
  · rw [if_pos c1]
    refine ⟨(n - ((b :: t).length : Int)).toNat, by omega, ?_⟩
    have hh := dec_of (S ++ ((b :: t) ++ List.replicate (n - ((b :: t).length : Int)).toNat 48)) (S ++ ((b :: t) ++ List.replicate (n - ((b :: t).length : Int)).toNat 48)) [] sg ((b :: t) ++ List.replicate (n - ((b :: t).length : Int)).toNat 48) 0 0 false false (by simp) ?_ ?_ ?_ ?_ ?_ (.inl rfl) ?_ rfl (by decide) (by decide) (by decide) (by decide)
    · rw [if_neg (by decide)] at hh
      rw [show n - ((b :: t).length : Int) - ((n - ((b :: t).length : Int)).toNat : Int) = 0 + 0 by omega]
      exact hh
    · intro x hx
      rcases List.mem_append.1 hx with hx | hx
      · have := sgb x hx; omega
      · rcases List.mem_append.1 hx with hx | hx
        · have := hd x hx; omega
        · have := rep _ x hx; omega
    · simp only [List.length_append, List.length_replicate, List.length_cons] at *; omega
    · simp only [List.length_append, List.length_cons]; omega
    · exact hsgn _ _ hbd.1
    · intro x hx
      rcases List.mem_append.1 hx with hx | hx
      · have := sgb x hx; omega
      · rcases List.mem_append.1 hx with hx | hx
        · exact dne x (hd x hx)
        · have := rep _ x hx; omega
    · rw [List.foldl_append, fS, List.foldl_append, foldA_first t b 0 false hb48 hd, foldA_dig _ _ _ _ (by simp) (fun x hx => by have := rep _ x hx; omega)]
      simp
  · rw [if_neg c1]
    refine ⟨0, by decide, ?_⟩
    simp only [List.replicate_zero, List.append_nil]
    rw [show n - ((b :: t).length : Int) - ((0 : Nat) : Int) = n - ((b :: t).length : Int) by omega]
    by_cases c2 : 0 < n ∧ n ≤ 21
    · rw [if_pos c2]
      obtain ⟨m, hm⟩ : ∃ m, n.toNat = m + 1 := ⟨n.toNat - 1, by omega⟩
      rw [hm, List.take_succ_cons, List.drop_succ_cons]
      have htk : ∀ x ∈ t.take m, 48 ≤ x ∧ x ≤ 57 := fun x hx => hdt x (List.mem_of_mem_take hx)
      have hdr : ∀ x ∈ t.drop m, 48 ≤ x ∧ x ≤ 57 := fun x hx => hdt x (List.mem_of_mem_drop hx)
      have hh := dec_of (S ++ ((b :: t.take m) ++ [46] ++ t.drop m)) (S ++ ((b :: t.take m) ++ [46] ++ t.drop m)) [] sg (b :: t) (0 - ((t.drop m).length : Int)) 0 true false (by simp) ?_ ?_ ?_ ?_ ?_ (.inl rfl) ?_ rfl ?_ ?_ (by decide) (by decide)
      · rw [if_neg (by decide)] at hh
        rw [show n - ((b :: t).length : Int) = 0 - ((t.drop m).length : Int) + 0 by simp only [List.length_drop, List.length_cons] at *; omega]
        exact hh
      · intro x hx
        simp only [List.mem_append, List.mem_cons, List.not_mem_nil, or_false] at hx
        rcases hx with hx | (((rfl | hx) | rfl) | hx)
        · have := sgb x hx; omega
        · omega
        · have := htk x hx; omega
        · omega
        · have := hdr x hx; omega
      · simp only [List.length_append, List.length_cons, List.length_take, List.length_drop, List.length_nil] at *; omega
      · simp only [List.length_append, List.length_cons]; omega
      · exact hsgn _ _ hbd.1
      · intro x hx
        simp only [List.mem_append, List.mem_cons, List.not_mem_nil, or_false] at hx
        rcases hx with hx | (((rfl | hx) | rfl) | hx)
        · have := sgb x hx; omega
        · omega
        · have := htk x hx; omega
        · omega
        · have := hdr x hx; omega
      · rw [List.foldl_append, fS, List.foldl_append, List.foldl_append, foldA_first (t.take m) b 0 false hb48 (fun x hx => by
          rcases List.mem_cons.1 hx with rfl | hx
          · exact hbd
          · exact htk x hx)]
        rw [show ([46] : List Int).foldl stA (b :: t.take m, (if false = true then (0 : Int) - ((b :: t.take m).length : Int) else 0), false) = (b :: t.take m, 0, true) from by rw [List.foldl_cons, stA_pt]; rfl]
        rw [foldA_dig _ _ _ _ (by simp) hdr]
        simp
      · simp only [List.length_drop, List.length_cons] at *; omega
      · omega
    · rw [if_neg c2]
      by_cases c3 : -6 < n ∧ n ≤ 0
      · rw [if_pos c3]
        have hh := dec_of (S ++ ([48, 46] ++ List.replicate (-n).toNat 48 ++ (b :: t))) (S ++ ([48, 46] ++ List.replicate (-n).toNat 48 ++ (b :: t))) [] sg (b :: t) (n - ((b :: t).length : Int)) 0 true false (by simp) ?_ ?_ ?_ ?_ ?_ (.inl rfl) ?_ rfl ?_ ?_ (by decide) (by decide)
        · rw [if_neg (by decide)] at hh
          rw [show n - ((b :: t).length : Int) + 0 = n - ((b :: t).length : Int) by omega] at hh
          exact hh
        · intro x hx
          rcases List.mem_append.1 hx with hx | hx
          · have := sgb x hx; omega
          · rcases List.mem_append.1 hx with hx | hx
            · rcases List.mem_append.1 hx with hx | hx
              · simp at hx; omega
              · have := rep _ x hx; omega
            · have := hd x hx; omega
        · simp only [List.length_append, List.length_replicate, List.length_cons, List.length_nil] at *; omega
        · simp only [List.length_append, List.length_cons]; omega
        · exact hsgn _ _ (by decide)
        · intro x hx
          rcases List.mem_append.1 hx with hx | hx
          · have := sgb x hx; omega
          · rcases List.mem_append.1 hx with hx | hx
            · rcases List.mem_append.1 hx with hx | hx
              · simp at hx; omega
              · have := rep _ x hx; omega
            · exact dne x (hd x hx)
        · rw [List.foldl_append, fS, List.foldl_append, List.foldl_append]
          rw [show ([48, 46] : List Int).foldl stA ([], 0, false) = ([], 0, true) from rfl]
          rw [foldA_zero, foldA_first t b _ true hb48 hd]
          simp only [if_pos]
          congr 1
          congr 1
          omega
        · simp only [List.length_cons] at *; omega
        · simp only [List.length_cons] at *; omega
      · rw [if_neg c3]
        -- the digits ahead of the exponent
        obtain ⟨M, hM⟩ : ∃ M, M = (if (b :: t).length = 1 then (b :: t) else (b :: t).take 1 ++ [46] ++ (b :: t).drop 1) := ⟨_, rfl⟩
        rw [← hM]
        have M1 : M.foldl stA ([], 0, false) = (b :: t, -(t.length : Int), decide (t ≠ [])) := by
          rw [hM]
          by_cases ht : t = []
          · subst ht
            rw [if_pos (show ([b] : List Int).length = 1 from rfl), foldA_first [] b 0 false hb48 hd]
            rfl
          · have : 0 < t.length := List.length_pos_iff.2 ht
            rw [if_neg (by simp; exact ht)]
            show ([b] ++ [46] ++ t).foldl stA ([], 0, false) = _
            rw [List.foldl_append, List.foldl_append, foldA_first [] b 0 false hb48 (fun x hx => by
              rcases List.mem_cons.1 hx with rfl | hx
              · exact hbd
              · cases hx)]
            rw [show ([46] : List Int).foldl stA ([b], (if false = true then (0 : Int) - (([b] : List Int).length : Int) else 0), false) = ([b], 0, true) from by rw [List.foldl_cons, stA_pt]; rfl]
            rw [foldA_dig _ _ _ _ (by simp) hdt]
            simp [ht]
        have M2 : ∀ x ∈ M, x = 46 ∨ (48 ≤ x ∧ x ≤ 57) := by
          intro x hx
          rw [hM] at hx
          split at hx
          · exact .inr (hd x hx)
          · rcases List.mem_append.1 hx with hx | hx
            · rcases List.mem_append.1 hx with hx | hx
              · exact .inr (hd x (List.mem_of_mem_take hx))
              · simp at hx; exact .inl hx
            · exact .inr (hd x (List.mem_of_mem_drop hx))
        obtain ⟨M', hM'⟩ : ∃ q, M = b :: q := by
          rw [hM]
          split
          · exact ⟨_, rfl⟩
          · exact ⟨_, rfl⟩
        have M3 : M.length ≤ (b :: t).length + 1 := by
          rw [hM]
          split
          · omega
          · simp only [List.length_append, List.length_take, List.length_drop, List.length_cons, List.length_nil]; omega
        have key : ∀ (sig : Int) (x : Nat) (dn : Bool), x ≤ 1000 → 43 ≤ sig → sig ≤ 45 → stB (0, false) sig = (0, dn) → Ev (fun k => spec_DecimalOf.f k (strOfNums (S ++ (M ++ ([101, sig] ++ dec x))))) (strOfNums (b :: t), (if dn = true then -(t.length : Int) - (x : Int) else -(t.length : Int) + (x : Int)), sg) := by
          intro sig x dn hx s1 s2 s3
          have hlx := dec_length_le 9 x (Nat.lt_of_le_of_lt hx (by decide))
          refine dec_of (S ++ (M ++ ([101, sig] ++ dec x))) (S ++ M) ([101, sig] ++ dec x) sg (b :: t) (-(t.length : Int)) (x : Int) (decide (t ≠ [])) dn (by simp) ?_ ?_ ?_ ?_ ?_ (.inr ⟨_, rfl⟩) ?_ ?_ ?_ ?_ (by omega) (by omega)
          · intro y hy
            rcases List.mem_append.1 hy with hy | hy
            · have := sgb y hy; omega
            · rcases List.mem_append.1 hy with hy | hy
              · have := M2 y hy; omega
              · rcases List.mem_append.1 hy with hy | hy
                · simp at hy; omega
                · have := dec_digit x y hy; omega
          · simp only [List.length_append, List.length_cons, List.length_nil] at *; omega
          · rw [hM']; simp only [List.length_append, List.length_cons]; omega
          · rw [hM']; exact hsgn _ _ hbd.1
          · intro y hy
            rcases List.mem_append.1 hy with hy | hy
            · have := sgb y hy; omega
            · have := M2 y hy; omega
          · rw [List.foldl_append, fS, M1]
          · rw [List.foldl_append]
            rw [show ([101, sig] : List Int).foldl stB (0, false) = (0, dn) from by
              rw [List.foldl_cons, show stB (0, false) 101 = (0, false) from rfl, List.foldl_cons, s3]; rfl]
            exact foldB_dec x dn (by omega)
          · simp only [List.length_cons] at *; omega
          · omega
        by_cases hneg : n - 1 < 0
        · rw [if_pos hneg]
          have hh := key 45 (1 - n).toNat true (by omega) (by decide) (by decide) rfl
          rw [if_pos rfl] at hh
          rw [show n - ((b :: t).length : Int) = -(t.length : Int) - ((1 - n).toNat : Int) by simp only [List.length_cons]; omega]
          exact hh
        · rw [if_neg hneg]
          have hh := key 43 (n - 1).toNat false (by omega) (by decide) (by decide) rfl
          rw [if_neg (by decide)] at hh
          rw [show n - ((b :: t).length : Int) = -(t.length : Int) + ((n - 1).toNat : Int) by simp only [List.length_cons]; omega]
          exact hh
end Go.Proofs.YtiopeaponffmdaaDoor.PAll
