/- The texts of a proof, its declarations alone: part 16. -/
import Derived.Test.YtjfbkgkpjkickaaGreatDoorVU9
import Derived.Test.YtjfbkgkpjkickaaGreatDoorVU14
import Derived.Test.YtjfbkgkpjkickaaGreatDoorVU15
set_option linter.unusedVariables false
set_option linter.unusedSimpArgs false
-- YtjfbkgkpjkickaaGreatDoorBw
set_option linter.unusedVariables false
set_option linter.unusedSimpArgs false
namespace Go.Proofs.YtjfbkgkpjkickaaGreatDoor.PAll
open Go.RowKit Go.Proofs.YtjfbkgkpjkickaaGreatDoorW.PrintWords Go.Proofs.YtjfbkgkpjkickaaGreatDoorW.PrintLast Go.Proofs.YtjfbkgkpjkickaaGreatDoorW.PrintMore

/-- the end is missing, or a character does not fit -/
def ErrU (G : GV) (v : Value) : Prop := v = .iface 265 (.pointer (some G.ueof)) ∨ ∃ g : Nat, v = .iface 153 (.pointer (some ⟨g, 0, none⟩))
def NErr2 (G : GV) (m : Nat) (w : World) (e : Ending) (w' : World) : Prop := ∃ (n : Nat) (v : Value), e = .returned (.tuple #[.int .i64 (n : Int), v]) ∧ n ≤ m ∧ ErrU G v ∧ Below w.heap.size w w'
set_option maxRecDepth 100000 in
set_option maxHeartbeats 4000000 in
theorem f155s (B o c : Nat) (l : List Int) (s : ByteArray) (w : World) (G : GV) (hE : Env w G) (hr : RB w B o l) (hl2 : l.length ≤ 4000000000) (hbs : Bs l) (hc : l.length ≤ c) (hc2 : c ≤ 9223372036854775807) (hs : s.size ≤ 5) (hp : ¬ pre (bytesOf s) l) :
    Calls Tryz.prog 155 #[.slice (some ⟨B, o, none⟩) l.length c, .string s] w (NErr2 G l.length w) := by
  have hu := hE.h1
  go_enter Tryz.func155, Tryz.ntmps155
  go_wp2_with (fail)
  go_loopg [6] l.length (fun kq v6 w' => ∃ i : Nat, v6 = .int .i64 i ∧ i ≤ l.length ∧ i ≤ s.size ∧ l.length ≤ kq + i ∧ (∀ j, j < i → rd l (j : Int) = bt s (j : Int)) ∧ ∃ m, w' = w.drewN m)
  case atStart => exact ⟨0, rfl, by omega, by omega, by omega, fun j hj => by omega, 0, rfl⟩
  case round =>
    obtain ⟨i, rfl, hi1, hi2, hk, hm, m, rfl⟩ := hrel
    have HM := Lib.hid hm
    clear hm
    by_cases h1 : i < l.length
    · by_cases h2 : i < s.size
      · have d1 : decide ((i : Int) < (l.length : Int)) = true := decide_eq_true (by omega)
        have d2 : decide (i < l.length) = true := decide_eq_true h1
        have d3 : decide ((i : Int) < (s.size : Int)) = true := decide_eq_true (by omega)
        have d4 : decide (i < s.size) = true := decide_eq_true h2
        have hci := hr i h1
        generalize hb0 : rd l (i : Int) = b0 at *
        have hsb : ((s[i]'h2).toNat : Int) = bt s (i : Int) := by unfold bt; rw [dif_pos (by simpa using h2)]; simp
        by_cases hq : b0 = bt s (i : Int)
        · have q1 : (b0 != ((s[i]'h2).toNat : Int)) = false := by rw [hsb, bne_eq_false_iff_eq]; exact hq
          clear hsb
          go_wp2_with (fail)
          go_quiet (fail)
          go_wp2_with (fail)
          go_roundg (gk - 1)
          case measure => omega
          case rel => exact ⟨i + 1, by go_num, by omega, by omega, by omega, fun j hj => by
            rcases Nat.lt_or_ge j i with h | h
            · exact HM.out j h
            · obtain rfl : j = i := by omega
              rw [hb0]; exact hq, _, rfl⟩
        · have q1 : (b0 != ((s[i]'h2).toNat : Int)) = true := by rw [hsb, bne_iff_ne]; exact hq
          clear hsb
          have C60 := Lib.hid (fun (W : World) (s' : ByteArray) (hW : Drawn0 w W) => f60 B (o + i) (c - i) (l.drop i) s' W G (hE.mono hW.below) ((hr.sub i (o + i) (fun _ => rfl)).mono hW.below) (by rw [List.length_drop]; omega) (by rw [List.length_drop]; omega) (hbs.drop i) (by rw [List.length_drop]; omega) (by omega))
          rw [List.length_drop] at C60
          go_wp2_with (fail)
          go_quiet (fail)
          go_wp2_with (fail)
          obtain ⟨z, hz, hzs⟩ := enc_byte (s[i]'h2)
          clear hb0 hp hu hci hE hr hbs hc2 d1 d2 d3 d4 q1 hq
          go_region_with (go_at_call 60; (with_reducible refine (C60.out _ _ ?hd).mono ?_); (case hd => repeat (first | exact Drawn0.refl _ | apply Drawn0.step)); rintro e w1 ⟨g, rfl, hb⟩; have HB := Lib.hid hb; clear hb)
          all_goals (go_wp2_with (fail))
          all_goals (go_returns)
          all_goals (exact ⟨i, _, rfl, hi1, .inr ⟨g, rfl⟩, (pw_below_drewN (Below.refl _ _) _).trans (HB.out.mono (Nat.le_refl _))⟩)
      · exact absurd (pre_of (by omega) (fun j hj => HM.out j (by omega))) hp
    · obtain rfl : i = l.length := by omega
      have hlt : l.length < s.size := by
        refine Nat.lt_of_not_le fun h => hp (pre_of (by omega) (fun j hj => HM.out j (by omega)))
      have d1 : decide ((l.length : Int) < (l.length : Int)) = false := decide_eq_false (by omega)
      have d2 : decide (l.length < l.length) = false := decide_eq_false (by omega)
      have d3 : decide ((l.length : Int) < (s.size : Int)) = true := decide_eq_true (by omega)
      have d4 : decide (l.length < s.size) = true := decide_eq_true hlt
      clear hp hE hr hbs
      go_wp2_with (fail)
      go_quiet (fail)
      go_wp2_with (fail)
      go_returns
      exact ⟨l.length, _, rfl, Nat.le_refl _, .inl rfl, by repeat (first | exact Below.refl _ _ | apply pw_below_drewN)⟩
/-- a literal that is not there -/
def LitAt (t : List Int) (p : Nat) (G : GV) (w : World) (e : Ending) (w' : World) : Prop := ∃ (q : Nat) (x : Value), e = .returned (.tuple #[.int .i64 (q : Int), x]) ∧ q ≤ t.length ∧ ErrU G x ∧ Below w.heap.size w w'
set_option maxRecDepth 100000 in
set_option maxHeartbeats 4000000 in
theorem f113 (D B c p : Nat) (t : List Int) (s : DS) (loose dup : Bool) (z : ByteArray) (w : World) (G : GV) (hI : Inv w G D B c t s loose dup) (hp : p < t.length) (hz : z.size ≤ 5) (hn : ¬ pre (bytesOf z) (t.drop p)) :
    Calls Tryz.prog 113 #[.pointer (some ⟨D, 0, none⟩), .int .i64 p, .string z] w (LitAt t p G w) := by
  have hc := hI.hc
  have hl := hI.hl
  have hc2 := hI.hc2
  have c7 := hI.c7
  have C155 := f155s B p (c - p) (t.drop p) z w G hI.env (hI.rb.sub p p (fun _ => by omega)) (by rw [List.length_drop]; omega) (hI.bs.drop p) (by rw [List.length_drop]; omega) (by omega) hz hn
  rw [List.length_drop] at C155
  have H155 := Lib.hid C155
  have HI := Lib.hid hI
  clear C155 hI hn
  go_enter Tryz.func113, Tryz.ntmps113
  go_wp2_with (fail)
  go_loopg [1] 1 (fun kq v1 w' => v1 = .int .i64 p ∧ w = w')
  case atStart => exact ⟨rfl, rfl⟩
  case round =>
    obtain ⟨rfl, rfl⟩ := hrel
    go_wp2_with (fail)
    refine H155.out.mono ?_
    rintro e w2 ⟨n, v, rfl, hn, hv, hb⟩
    have HB := Lib.hid hb
    have HI2 := Lib.hid (HI.out.mono hb)
    have hu := HI2.out.env.h1
    have e10 := HI2.out.c10
    have hnl : p + n ≤ t.length := by omega
    have ec : ((p + n : Nat) : Int) = (p : Int) + (n : Int) := by omega
    have C147 := Lib.hid (f147 D s G w2 HI2.out.env HI2.out.dec)
    clear hb c7 hn
    rcases hv with rfl | ⟨gg, rfl⟩
    · have q1 := eqSent HI2.out.sent (a := G.ueof) (b := G.ueof) (.inr (.inl rfl)) (.inr (.inl rfl))
      rw [decide_eq_true rfl] at q1
      go_wp2_with (fail)
      refine C147.out.mono ?_
      rintro e w3 ⟨rfl, rfl⟩
      go_wp2_with (fail)
      go_returns
      exact ⟨p + n, _, by rw [ec]; rfl, hnl, .inl rfl, HB.out⟩
    · have q0 := eq153 w2 (.pointer (some ⟨gg, 0, none⟩)) (.pointer (some G.ueof))
      go_wp2_with (fail)
      go_returns
      exact ⟨p + n, _, by rw [ec]; rfl, hnl, .inr ⟨gg, rfl⟩, HB.out⟩
/-- a value that is no array and no object: its end -/
noncomputable def scalEnd (v : Bool) (l : List Int) : Option Nat :=
  open Classical in
  if rd l 0 = 110 then (if pre [110, 117, 108, 108] l then some 4 else none)
  else if rd l 0 = 102 then (if pre [102, 97, 108, 115, 101] l then some 5 else none)
  else if rd l 0 = 116 then (if pre [116, 114, 117, 101] l then some 4 else none)
  else if rd l 0 = 34 then strEnd v l
  else if rd l 0 = 45 ∨ isD (rd l 0) then numEnd l else none
/-- what is told of a value -/
def ValAt (E : Option Nat) (t : List Int) (p : Nat) (G : GV) (F : Nat) (w : World) (e : Ending) (w' : World) : Prop :=
  ∃ (q : Nat) (x : Value) (g : Int), e = .returned (.tuple #[.int .i64 (q : Int), x]) ∧ q ≤ t.length ∧ BB F w w' ∧ FlAt w' F g ∧ f03 g ∧
    ((∃ n, E = some n ∧ q = p + n ∧ x = .nilIface) ∨ (E = none ∧ ErrS G x))
theorem ErrU.s {G : GV} {v : Value} (h : ErrU G v) : ErrS G v := by
  rcases h with rfl | ⟨g, rfl⟩
  · exact .inl ⟨_, rfl, .inl rfl⟩
  · exact .inr ⟨g, rfl⟩
theorem ErrU.ne {w : World} {G : GV} {v : Value} (h : ErrU G v) (hE : Env w G) : v ≠ .iface 265 (.pointer (some G.mism)) := by
  rcases h with rfl | ⟨g, rfl⟩
  · intro e
    injection e with _ e
    injection e with e
    injection e with e
    exact hE.nem _ (.inl rfl) e
  · intro e
    injection e with e
    cases e
end Go.Proofs.YtjfbkgkpjkickaaGreatDoor.PAll
-- YtjfbkgkpjkickaaGreatDoorBx
set_option linter.unusedVariables false
set_option linter.unusedSimpArgs false
namespace Go.Proofs.YtjfbkgkpjkickaaGreatDoor.PAll
open Go.RowKit Go.Proofs.YtjfbkgkpjkickaaGreatDoorW.PrintWords Go.Proofs.YtjfbkgkpjkickaaGreatDoorW.PrintLast Go.Proofs.YtjfbkgkpjkickaaGreatDoorW.PrintMore

set_option maxRecDepth 100000 in
theorem f81z (A : Option Addr) (c : Nat) (w : World) : Calls Tryz.prog 81 #[.slice A 0 c] w fun e w' => e = .returned (.tuple #[.int .i32 65533, .int .i64 0]) ∧ w = w' := by
  go_enter Tryz.func81, Tryz.ntmps81
  go_wp2_with (fail)
  go_returns
  exact ⟨rfl, rfl⟩
set_option maxRecDepth 100000 in
theorem f62z (A : Option Addr) (c : Nat) (w : World) : Calls Tryz.prog 62 #[.slice A 0 c] w fun e w' => e = .returned (.tuple #[.int .i32 65533, .int .i64 0]) ∧ w = w' := by
  have C81 := Lib.hid (f81z A c w)
  go_enter Tryz.func62, Tryz.ntmps62
  go_wp2_with (fail)
  go_loopg [5, 8] 1 (fun kq v5 v8 w' => v8 = .int .i64 0 ∧ w = w')
  case atStart => exact ⟨rfl, rfl⟩
  case round =>
    obtain ⟨rfl, rfl⟩ := hrel
    go_wp2_with (fail)
    refine C81.out.mono ?_
    rintro e w1 ⟨rfl, rfl⟩
    go_wp2_with (fail)
    go_returns
    exact ⟨rfl, rfl⟩
set_option maxRecDepth 100000 in
theorem f60z (B o c : Nat) (s : ByteArray) (w : World) : Calls Tryz.prog 60 #[.slice (some ⟨B, o, none⟩) 0 c, .string s] w (ErrPost w) := by
  have C62 := Lib.hid (f62z (some ⟨B, o, none⟩) c w)
  have HV := take_conv 0 B o c [] w (fun j hj => absurd hj (Nat.not_lt_zero _)) (Nat.le_refl _)
  generalize strOfNums (([] : List Int).take 0) = str at *
  go_enter Tryz.func60, Tryz.ntmps60
  go_wp2_with (fail)
  refine C62.out.mono ?_
  rintro e w1 ⟨rfl, rfl⟩
  go_wp2_with (fail)
  go_returns
  exact ⟨_, rfl, by repeat (first | exact Below.refl _ _ | apply below_alloc)⟩
set_option maxRecDepth 100000 in
set_option maxHeartbeats 4000000 in
theorem f91d (D B c p : Nat) (t : List Int) (s : DS) (loose dup : Bool) (k : Int)  (w : World) (G : GV) (hI : Inv w G D B c t s loose dup) (hT : Top s) (hp : p ≤ t.length) (hp2 : p = t.length) :
    Calls Tryz.prog 91 #[.iface 161 (.pointer (some ⟨D, 0, none⟩)), .iface 265 (.pointer (some G.mism)), .int .i64 p, .int .i64 k] w (SynPost w) := by
  subst hp2
  have hl := hI.hl
  have hc := hI.hc
  have hc2 := hI.hc2
  have t3 := ta161 (.pointer (some ⟨D, 0, none⟩))
  have t1 := ta265_198 (.pointer (some G.mism))
  have t2 := ta265_201 (.pointer (some G.mism))
  have q0 := eqSent hI.sent (a := G.mism) (b := G.eof) (.inr (.inr (.inr (.inr (.inr (.inl rfl)))))) (.inl rfl)
  rw [decide_eq_false (hI.env.ne _ (.inr (.inr (.inr (.inr (.inl rfl))))))] at q0
  have h0 := hI.env.h0
  have HI := Lib.hid hI
  have HT := Lib.hid hT
  have C222 := Lib.hid (f222 D s t.length w hI.dec (by omega))
  have C231 := Lib.hid (f231 D s k w hI.dec hT)
  clear hI hT
  go_enter Tryz.func91, Tryz.ntmps91
  go_wp2_with (fail)
  refine C222.out.mono ?_
  rintro e w1 ⟨rfl, rfl⟩
  go_wp2_with (fail)
  refine C231.out.mono ?_
  rintro e w1 ⟨rfl, hb1⟩
  have HB1 := Lib.hid hb1
  have HI1 := Lib.hid (HI.out.mono hb1)
  have h8 := HI1.out.env.h8
  have c13 := HI1.out.c13
  have c14 := HI1.out.c14
  have q8 := eqSent HI1.out.sent (a := G.mism) (b := G.mism) (.inr (.inr (.inr (.inr (.inr (.inl rfl)))))) (.inr (.inr (.inr (.inr (.inr (.inl rfl))))))
  rw [decide_eq_true rfl] at q8
  obtain ⟨sA, sc, hs⟩ := HT.out.stack
  have c0 : w1.cell? ⟨D, 0, none⟩ = some (.slice sA 0 sc) := HI1.out.dec.cell 0 _ (by rw [← hs]; rfl)
  have c7 := HI1.out.c7
  obtain ⟨off, _, _, hsl⟩ := sub22 B 0 t.length t.length c (Nat.le_refl _) hc
  rw [Nat.sub_self] at hsl
  have C60 := fun s' => f60z B off (c - t.length) s' w1
  have H60 := Lib.hid C60
  clear hb1 hs C60
  go_wp2_with (fail)
  refine (H60.out _).mono ?_
  rintro e w2 ⟨gg, rfl, hb2⟩
  have HB2 := Lib.hid (HB1.out.trans (hb2.mono HB1.out.size))
  have HI2 := Lib.hid (HI1.out.mono hb2)
  have d13 := HI2.out.c13
  have d14 := HI2.out.c14
  clear hb2 c13 c14 c0 c7
  have C98 := Lib.hid (fun (W : World) => f98 s.pres s.vals 549755813888 false HI2.out.opt.leg W)
  have C234 := Lib.hid (f234 D w2)
  have cnil := conv_nil
  go_wp2_with (fail)
  refine C234.out.mono ?_
  rintro e w8 ⟨rfl, rfl⟩
  go_wp2_with (fail)
  refine (C98.out _).mono ?_
  rintro e w9 ⟨rfl, hb9⟩
  have HB9 := Lib.hid hb9
  clear hb9
  go_wp2_with (fail)
  go_returns
  exact ⟨_, rfl, below_alloc (HB2.out.trans (HB9.out.mono HB2.out.size)) _⟩
/-- an error of the text, whatever it is and wherever it stands -/
theorem f91w (D B c p : Nat) (t : List Int) (s : DS) (loose dup : Bool) (k : Int) (x : Value) (w : World) (G : GV) (hI : Inv w G D B c t s loose dup) (hT : Top s) (hp : p ≤ t.length) (hx : ErrS G x) :
    Calls Tryz.prog 91 #[.iface 161 (.pointer (some ⟨D, 0, none⟩)), x, .int .i64 p, .int .i64 k] w (SynPost w) := by
  by_cases hlt : p < t.length
  · exact f91 D B c p t s loose dup k x w G hI hT hp hx (fun _ => hlt)
  · by_cases hm : x = .iface 265 (.pointer (some G.mism))
    · subst hm
      exact f91d D B c p t s loose dup k w G hI hT hp (by omega)
    · exact f91 D B c p t s loose dup k x w G hI hT hp hx (fun h => absurd h hm)
end Go.Proofs.YtjfbkgkpjkickaaGreatDoor.PAll
