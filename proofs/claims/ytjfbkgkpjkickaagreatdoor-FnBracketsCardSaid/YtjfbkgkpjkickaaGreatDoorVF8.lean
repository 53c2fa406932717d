/- The texts of a proof, its declarations alone: part 8. -/
import Derived.Test.YtjfbkgkpjkickaaGreatDoorVU2
import Derived.Test.YtjfbkgkpjkickaaGreatDoorVU3
import Derived.Test.YtjfbkgkpjkickaaGreatDoorVU4
import Derived.Test.YtjfbkgkpjkickaaGreatDoorVU5
import Derived.Test.YtjfbkgkpjkickaaGreatDoorVU6
import Derived.Test.YtjfbkgkpjkickaaGreatDoorVU7
import Derived.Test.YtjfbkgkpjkickaaGreatDoorVU8
import Derived.Test.YtjfbkgkpjkickaaGreatDoorVU9
import Derived.Test.YtjfbkgkpjkickaaGreatDoorVU11
import Derived.Test.YtjfbkgkpjkickaaGreatDoorVU14
import Derived.Test.YtjfbkgkpjkickaaGreatDoorVU15
import Derived.Test.YtjfbkgkpjkickaaGreatDoorVU16
import Derived.Test.YtjfbkgkpjkickaaGreatDoorVU17
import Derived.Test.YtjfbkgkpjkickaaGreatDoorVU18
import Derived.Test.YtjfbkgkpjkickaaGreatDoorVU19
import Derived.Test.YtjfbkgkpjkickaaGreatDoorVU20
import Derived.Test.YtjfbkgkpjkickaaGreatDoorVU21
import Derived.Test.YtjfbkgkpjkickaaGreatDoorVU22
import Derived.Test.YtjfbkgkpjkickaaGreatDoorVU23
import Derived.Test.YtjfbkgkpjkickaaGreatDoorVU24
import Derived.Test.YtjfbkgkpjkickaaGreatDoorVU25
import Derived.Test.YtjfbkgkpjkickaaGreatDoorVU26
import Derived.Test.YtjfbkgkpjkickaaGreatDoorVF2
import Derived.Test.YtjfbkgkpjkickaaGreatDoorVF6
import Derived.Test.YtjfbkgkpjkickaaGreatDoorVF7
set_option linter.unusedVariables false
set_option linter.unusedSimpArgs false
-- YtjfbkgkpjkickaaGreatDoorFi
set_option linter.unusedVariables false
set_option linter.unusedSimpArgs false
namespace Go.Proofs.YtjfbkgkpjkickaaGreatDoor.PAll
open Go.RowKit Go.Proofs.YtjfbkgkpjkickaaGreatDoorW.PrintWords Go.Proofs.YtjfbkgkpjkickaaGreatDoorW.PrintLast Go.Proofs.YtjfbkgkpjkickaaGreatDoorW.PrintMore

theorem f37b (D B c q a b k : Nat) (t : List Int) (s : DS) (loose dup : Bool) (w : World) (G : GV) (hI : Inv w G D B c t s loose dup) (hT : Top s) (hb : Brk t a b) (ha : a ≤ 900) (hqa : q + (k + 1) = a) (hs0 : s.stack = .slice none 0 0) (hpe : s.pe = (q : Int)) (hql : q ≤ t.length) :
    Calls Tryz.prog 37 #[.pointer (some ⟨D, 0, none⟩)] w (RVb b q (k + 1) s D w) := by
  obtain ⟨w0, hw0⟩ : ∃ x, x = w.alloc (.cells #[.int .u64 0] 140) := ⟨_, rfl⟩
  have hbl : Below w.heap.size w w0 := by rw [hw0]; exact below_alloc (Below.refl _ _) _
  have C71 := Lib.hid (f71b D B c q a b k (.pointer (some ⟨w.heap.size, 0, none⟩)) t s loose dup w0 G (hI.mono hbl) hT hb ha hqa hs0 hpe hql)
  have HB := Lib.hid (hbl.mono (Nat.le_of_lt hI.ltD))
  clear hI hT hpe hbl hb hqa hs0 hql
  go_enter Tryz.func37, Tryz.ntmps37
  go_wp2_with (fail)
  rw [← hw0]
  clear hw0
  refine C71.out.mono ?_
  rintro e w1 ⟨v, x, rfl, hb1, hr⟩
  have HB1 := Lib.hid hb1
  have HR := Lib.hid hr
  clear hb1 hr
  go_wp2_with (fail)
  go_returns
  exact ⟨v, x, rfl, HB.out.trans HB1.out, HR.out⟩
set_option maxRecDepth 100000 in
set_option maxHeartbeats 8000000 in
theorem f27b (d i : Bool) (B c base a b k : Nat) (t : List Int) (v : Value) (w : World) (G : GV) (loose dup : Bool)
    (hO : Opt (flagsOf d i) loose dup)
    (hE0 : Env w G) (hrb : RB w B 0 t) (hbs : Bs t) (hc : t.length ≤ c) (hc2 : c ≤ 9223372036854775807) (hlen : t.length ≤ 4000000000) (hB : B < w.heap.size) (h13 : 13 ≤ B) (hsent : Sent w G B)
    (hl : LsAt w v base (optsL d i)) (hb : ∀ E A c, v = .slice (some ⟨E, A, none⟩) (optsL d i).length c → E < w.heap.size)
    (hbk : Brk t a b) (ha : a ≤ 900) (hak : k + 1 = a) :
    Calls Tryz.prog 27 #[.slice (some ⟨B, 0, none⟩) t.length c, v] w (IsV (a = b) w) := by
  have C35 := Lib.hid (f35 d i B t.length c base v w hl hb)
  have HI := fun (W : World) (hW : Below w.heap.size w W) (D : Nat) (hD : w.heap.size ≤ D) (s : DS) (hs : s.vals = flagsOf d i) (hbuf : s.buf = .slice (some ⟨B, 0, none⟩) t.length c) (hdec : DecAt W D s) =>
    (⟨hE0.mono hW, hdec, hbuf, hrb.mono hW, hbs, hc, hc2, hlen, by omega, h13, by rw [hs]; exact hO, hsent.mono hW⟩ : Inv W G D B c t s loose dup)
  have HI := Lib.hid HI
  have HE0 := Lib.hid hE0
  have HSE := Lib.hid hsent
  have HBK := Lib.hid hbk
  have HAK := Lib.hid hak
  have HLEN := Lib.hid hbk.len
  clear hl hb hO hE0 hrb hbs hsent hbk hak
  obtain ⟨D, hD⟩ : ∃ D, D = w.heap.size := ⟨_, rfl⟩
  rw [← hD] at C35
  have hBD : B < D := by omega
  have HDD := Lib.hid hD
  clear hD
  go_enter_defers Tryz.func27, Tryz.ntmps27
  go_wp2_with (fail)
  refine C35.out.mono ?_
  rintro e w1 ⟨rfl, hb1, hd1⟩
  have HB1 := Lib.hid (show Below D w w1 from hb1)
  have HI1 := Lib.hid (HI.out w1 (HDD.out ▸ hb1) D (Nat.le_of_eq HDD.out.symm) _ rfl rfl hd1)
  clear hb1 hd1
  have H37 := Lib.hid (f37b D B c 0 a b k t (Z (.slice (some ⟨B, 0, none⟩) t.length c) (flagsOf d i) (flagsOf d i)) loose dup w1 G HI1.out ⟨⟨_, _, rfl⟩, ⟨_, _, rfl⟩, .inl rfl⟩ HBK.out ha (by rw [Nat.zero_add]; exact HAK.out) rfl rfl (Nat.zero_le _))
  go_wp2_with (fail)
  refine H37.out.mono ?_
  rintro e w2 ⟨v2, x2, rfl, hb2, hr⟩
  have HB2 := Lib.hid (show Below D w w2 from HB1.out.trans hb2)
  clear hb2
  rcases hr with ⟨hkb, rfl, ⟨A, m, n, rfl⟩, g, cs, p0, q2, hq2, hd2⟩ | ⟨hkb, ⟨g2, rfl⟩, rfl, hd2⟩
  · have HI2 := Lib.hid (HI.out w2 (HDD.out ▸ HB2.out) D (Nat.le_of_eq HDD.out.symm) _ rfl rfl hd2)
    have hq2l : q2 ≤ t.length := by have h1 := HLEN.out; have h2 := HAK.out; omega
    have hq2a : a ≤ q2 := by have h2 := HAK.out; omega
    have C38 := Lib.hid (f38 t q2 G D w2 hd2.lt (fun W hW => f72d D B c q2 t _ loose dup W G (HI2.out.mono hW) ⟨⟨_, _, rfl⟩, ⟨_, _, rfl⟩, .inr rfl⟩ rfl hq2l (fun hlt => by
      rw [HBK.out.ws, Nat.add_zero] at hlt ⊢
      exact HBK.out.sh q2 hq2a (by have h1 := HLEN.out; omega))))
    have HQ2 := Lib.hid hq2
    have HKB := Lib.hid hkb
    clear hd2 hq2 hkb hq2a hq2l
    go_wp2_with (fail)
    refine C38.out.mono ?_
    rintro e w3 ⟨v3, x3, rfl, hb3, ⟨s3, hd3⟩, ⟨p, kk, rfl⟩, hr3⟩
    have HB3 := Lib.hid (show Below D w w3 from HB2.out.trans (hb3.below (Nat.le_refl _) (Nat.le_of_lt HI2.out.ltD)))
    have HD3 := Lib.hid hd3
    rw [HBK.out.ws, Nat.add_zero] at hr3
    have HR3 := Lib.hid hr3
    clear hb3 hd3 hr3
    have HEW := Lib.hid (HE0.out.mono (show Below w.heap.size w w3 from HDD.out ▸ HB3.out))
    have h0 := HEW.out.h0
    have hpos : 0 < w3.heap.size := Nat.lt_of_lt_of_le (by decide) HEW.out.lt
    rcases HR3.out with ⟨he, rfl⟩ | ⟨hne, hx3⟩
    · have hab : a = b := by have h1 := HLEN.out; have h2 := HAK.out; have h3 := HQ2.out; omega
      have HAB := Lib.hid hab
      clear he hab
      have q1 : (binOp .eql 47 (.iface 265 (.pointer (some G.eof))) (.iface 265 (.pointer (some G.eof)))).run Tryz.prog (w3.alloc (.cells #[.pointer p, .string ⟨#[]⟩, .int .u64 kk] 83)) = .ok (.bool true) (w3.alloc (.cells #[.pointer p, .string ⟨#[]⟩, .int .u64 kk] 83)) := by
        have := eqSent (w := (w3.alloc (.cells #[.pointer p, .string ⟨#[]⟩, .int .u64 kk] 83))) (N := B) ((HSE.out.mono (show Below w.heap.size w w3 from HDD.out ▸ HB3.out)).mono (below_alloc (Below.refl _ _) _)) (a := G.eof) (b := G.eof) (.inl rfl) (.inl rfl)
        rw [decide_eq_true rfl] at this
        exact this
      go_wp2_with (fail)
      refine leaves_cons (f := 36) (args := #[.pointer (some ⟨D, 0, none⟩)]) (by simp) (by simp [go_sem]) ?_
      refine (f36d D s3 .returning _ (HD3.out.alloc _)).mono ?_
      rintro e u' w'' ⟨rfl, rfl, rfl⟩
      exact ⟨_, results_tmp rfl _ _ _, true, rfl, ⟨fun _ => HAB.out, fun _ => rfl⟩, (below_alloc (show Below w.heap.size w w3 from HDD.out ▸ HB3.out) _).setCell (Nat.le_of_eq HDD.out.symm) _⟩
    · have hno : ¬ a = b := by have h1 := HLEN.out; have h2 := HAK.out; have h3 := HQ2.out; omega
      have HNO := Lib.hid hno
      clear hne hno
      rcases hx3 with rfl | ⟨g3, rfl⟩
      · have q1 : (binOp .eql 47 .nilIface (.iface 265 (.pointer (some G.eof)))).run Tryz.prog (w3.alloc (.cells #[.pointer p, .string ⟨#[]⟩, .int .u64 kk] 83)) = .ok (.bool false) (w3.alloc (.cells #[.pointer p, .string ⟨#[]⟩, .int .u64 kk] 83)) := eqNil _ _
        go_wp2_with (fail)
        refine leaves_cons (f := 36) (args := #[.pointer (some ⟨D, 0, none⟩)]) (by simp) (by simp [go_sem]) ?_
        refine (f36d D s3 .returning _ (HD3.out.alloc _)).mono ?_
        rintro e u' w'' ⟨rfl, rfl, rfl⟩
        exact ⟨_, results_tmp rfl _ _ _, false, rfl, ⟨(fun h => by cases h), fun h => absurd h HNO.out⟩, (below_alloc (show Below w.heap.size w w3 from HDD.out ▸ HB3.out) _).setCell (Nat.le_of_eq HDD.out.symm) _⟩
      · have q1 : (binOp .eql 47 (.iface 67 (.pointer (some ⟨g3, 0, none⟩))) (.iface 265 (.pointer (some G.eof)))).run Tryz.prog (w3.alloc (.cells #[.pointer p, .string ⟨#[]⟩, .int .u64 kk] 83)) = .ok (.bool false) (w3.alloc (.cells #[.pointer p, .string ⟨#[]⟩, .int .u64 kk] 83)) := eq67 _ _ _
        go_wp2_with (fail)
        refine leaves_cons (f := 36) (args := #[.pointer (some ⟨D, 0, none⟩)]) (by simp) (by simp [go_sem]) ?_
        refine (f36d D s3 .returning _ (HD3.out.alloc _)).mono ?_
        rintro e u' w'' ⟨rfl, rfl, rfl⟩
        exact ⟨_, results_tmp rfl _ _ _, false, rfl, ⟨(fun h => by cases h), fun h => absurd h HNO.out⟩, (below_alloc (show Below w.heap.size w w3 from HDD.out ▸ HB3.out) _).setCell (Nat.le_of_eq HDD.out.symm) _⟩
  · have HI2 := Lib.hid (HI.out w2 (HDD.out ▸ HB2.out) D (Nat.le_of_eq HDD.out.symm) _ rfl rfl hd2)
    have C38 := Lib.hid (f38 t 0 G D w2 hd2.lt (fun W hW => f72 D B c 0 t _ loose dup W G (HI2.out.mono hW) ⟨⟨_, _, rfl⟩, ⟨_, _, rfl⟩, .inl rfl⟩ rfl (Nat.zero_le _) rfl rfl rfl))
    have hno : ¬ a = b := by have h2 := HAK.out; omega
    have HNO := Lib.hid hno
    clear hd2 hkb hno
    go_wp2_with (fail)
    refine C38.out.mono ?_
    rintro e w3 ⟨v3, x3, rfl, hb3, ⟨s3, hd3⟩, ⟨p, kk, rfl⟩, hr3⟩
    have HB3 := Lib.hid (show Below D w w3 from HB2.out.trans (hb3.below (Nat.le_refl _) (Nat.le_of_lt HI2.out.ltD)))
    have HD3 := Lib.hid hd3
    clear hb3 hd3 hr3
    go_wp2_with (fail)
    refine leaves_cons (f := 36) (args := #[.pointer (some ⟨D, 0, none⟩)]) (by simp) (by simp [go_sem]) ?_
    refine (f36d D s3 .returning _ (HD3.out.alloc _)).mono ?_
    rintro e u' w'' ⟨rfl, rfl, rfl⟩
    exact ⟨_, results_tmp rfl _ _ _, false, rfl, ⟨(fun h => by cases h), fun h => absurd h HNO.out⟩, (below_alloc (show Below w.heap.size w w3 from HDD.out ▸ HB3.out) _).setCell (Nat.le_of_eq HDD.out.symm) _⟩
end Go.Proofs.YtjfbkgkpjkickaaGreatDoor.PAll
