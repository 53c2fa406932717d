/- The texts of a proof, its declarations alone: part 25. -/
import Derived.Test.YtjfbkgkpjkickaaGreatDoorVU18
import Derived.Test.YtjfbkgkpjkickaaGreatDoorVU21
set_option linter.unusedVariables false
set_option linter.unusedSimpArgs false
-- YtjfbkgkpjkickaaGreatDoorCdc
set_option linter.unusedVariables false
set_option linter.unusedSimpArgs false
namespace Go.Proofs.YtjfbkgkpjkickaaGreatDoor.PAll
open Go.RowKit Go.Proofs.YtjfbkgkpjkickaaGreatDoorW.PrintWords Go.Proofs.YtjfbkgkpjkickaaGreatDoorW.PrintLast Go.Proofs.YtjfbkgkpjkickaaGreatDoorW.PrintMore

set_option maxRecDepth 100000 in
set_option maxHeartbeats 400000000 in
theorem f72c (D B c q : Nat) (t : List Int) (s : DS) (loose dup : Bool) (wz : World) (G : GV) (hIz : Inv wz G D B c t s loose dup) (hT : Top s) (hpe : s.pe = (q : Int)) (hql : q ≤ t.length) (hns : s.nss = .slice none 0 0) (hof : s.offs = .slice none 0 0) (hsk : s.stack = .slice none 0 0) (hsel : q + wsN (t.drop q) < t.length → (rd t ((q + wsN (t.drop q) : Nat) : Int) ≠ 34 ∧ rd t ((q + wsN (t.drop q) : Nat) : Int) ≠ 45 ∧ ¬(48 ≤ rd t ((q + wsN (t.drop q) : Nat) : Int) ∧ rd t ((q + wsN (t.drop q) : Nat) : Int) ≤ 57))) :
    Calls Tryz.prog 72 #[.pointer (some ⟨D, 0, none⟩)] wz (RT t q G D wz) := by
  obtain ⟨w, hw⟩ : ∃ x, x = wz.alloc (.cells #[.pointer none, .string ⟨#[]⟩, .int .u64 0] 83) := ⟨_, rfl⟩
  obtain ⟨T, hTT⟩ : ∃ x, x = wz.heap.size := ⟨_, rfl⟩
  have hbz : Below wz.heap.size wz w := by rw [hw]; exact below_alloc (Below.refl _ _) _
  have hI := hIz.mono hbz
  have htb : w.heap[T]? = some (.cells #[.pointer none, .string ⟨#[]⟩, .int .u64 0] 83 (0, 0)) := by rw [hw, hTT]; exact heap_alloc_new wz _
  have HTB := Lib.hid htb
  have HLT := Lib.hid (blk_lt htb)
  have HBZ := Lib.hid hbz
  have HIZ := Lib.hid hIz
  have HDT := Lib.hid (show D < T by rw [hTT]; exact hIz.ltD)
  have HTN := Lib.hid (show wz.heap.size ≤ T by rw [hTT]; exact Nat.le_refl _)
  have c5z : (wz.alloc (.cells #[.pointer none, .string ⟨#[]⟩, .int .u64 0] 83)).cell? ⟨D, 5, none⟩ = some (.int .i64 0) := by rw [← hw]; exact hI.c5
  clear htb hbz hIz
  obtain ⟨E, hE⟩ : ∃ E : List Int → Option Nat, ∀ l, rd l 0 = 58 ∨ rd l 0 = 44 → E l = none := ⟨fun _ => none, fun _ _ => rfl⟩
  have hl := hI.hl
  have hc := hI.hc
  have hc2 := hI.hc2
  obtain ⟨sA, sc, hst⟩ := hT.stack
  obtain ⟨n0, hn0⟩ : ∃ n0, wsN (t.drop q) = n0 := ⟨_, rfl⟩
  have hln0 : q + n0 ≤ t.length := by have := wsN_le (t.drop q); rw [List.length_drop] at this; omega
  have c5 := hI.c5
  have C86 := Lib.hid (f86 D s w hI.dec)
  have HI := Lib.hid hI
  have HT := Lib.hid hT
  have HN0 := Lib.hid hn0
  have HQ := Lib.hid hpe
  have HST := Lib.hid hst
  rw [hn0] at hsel
  have HSEL := Lib.hid hsel
  clear hsel
  clear hI hT hn0 hpe hst
  go_enter Tryz.func72, Tryz.ntmps72
  go_wp2_with (fail)
  rw [← hw, ← hTT]
  clear hw hTT c5z
  refine C86.out.mono ?_
  rintro e w1 ⟨rfl, hd1⟩
  have HB1 := Lib.hid hd1.below
  have HI1 := Lib.hid (HI.out.mono hd1.below)
  have c7 := HI1.out.c7
  have c9 := HI1.out.c9
  rw [HQ.out] at c9
  clear hd1 c5
  obtain ⟨off1, ho1, _, hsl1⟩ := sub22 B 0 q t.length c (by omega) hc
  have C87 := f87 (some ⟨B, off1, none⟩) (c - q) (t.drop q) w1 (HI1.out.rbT.C q (some ⟨B, off1, none⟩) (fun h => by rw [ho1 h, Nat.zero_add]) (by omega)) (by rw [List.length_drop]; omega) (by rw [List.length_drop]; omega)
  rw [List.length_drop, HN0.out] at C87
  have H87 := Lib.hid C87
  clear C87 ho1
  go_wp2_with (fail)
  refine H87.out.mono ?_
  rintro e w2 ⟨rfl, hd2⟩
  have HB2 := Lib.hid (HB1.out.trans (hd2.below.mono HB1.out.size))
  have HI2 := Lib.hid (HI1.out.mono hd2.below)
  have d7 := HI2.out.c7
  clear hd2 c7 c9 H87 hsl1
  have C88 := f88 D (q + n0) s (some ⟨B, 0, none⟩) t.length c w2 HI2.out.dec HI2.out.buf hl (by omega)
  rw [Int.natCast_add] at C88
  by_cases hend : q + n0 = t.length
  · rw [decide_eq_true hend] at C88
    have H88 := Lib.hid C88
    clear C88
    have C89 := f89 D B c t s G w2 HI2.out.env HI2.out.dec HI2.out.buf HI2.out.rbT hl hc
    rw [show ((t.length : Nat) : Int) = (q : Int) + (n0 : Int) by omega] at C89
    have H89 := Lib.hid C89
    clear C89
    have HEND := Lib.hid hend
    clear hend
    go_wp2_with (fail)
    refine H88.out.mono ?_
    rintro e w3 ⟨rfl, rfl⟩
    go_wp2_with (fail)
    refine H89.out.mono ?_
    rintro e w3 ⟨rfl, hd3⟩
    have HB3 := Lib.hid (HB2.out.trans (hd3.below.mono HB2.out.size))
    have HI3 := Lib.hid (HI2.out.mono hd3.below)
    clear hd3 d7
    have q1 := eqSent HI3.out.sent (a := G.ueof) (b := G.ueof) (.inr (.inl rfl)) (.inr (.inl rfl))
    rw [decide_eq_true rfl] at q1
    have hu := HI3.out.env.h1
    have h0 := HI3.out.env.h0
    have e0 := HI3.out.c0
    rw [HST.out] at e0
    have e1 := HI3.out.c1
    have C90 := Lib.hid (fun W => f90 sA sc s.last W)
    go_wp2_with (fail)
    refine (C90.out _).mono ?_
    rintro e w4 ⟨rfl, hb4⟩
    have HB4 := Lib.hid (HB3.out.trans (hb4.mono HB3.out.size))
    have HI4 := Lib.hid (HI3.out.mono hb4)
    have h04 := HI4.out.env.h0
    clear hb4 e0 e1 h0 hu q1
    have C91 := f91e D B c t s loose dup ((q : Int) + (n0 : Int)) 0 w4 G HI4.out
    have H91 := Lib.hid C91
    clear C91
    go_wp2_with (fail)
    refine H91.out.mono ?_
    rintro e w5 ⟨rfl, rfl⟩
    have tbW := (HB4.out.block T HLT.out).trans HTB.out
    have t0 := (blk_cell tbW 0).trans (show _ = some (.pointer none) from rfl)
    have t1 := (blk_cell tbW 1).trans (show _ = some (.string ⟨#[]⟩) from rfl)
    have t2 := (blk_cell tbW 2).trans (show _ = some (.int .u64 0) from rfl)
    have z0 := blk_frozen tbW 0
    have z1 := blk_frozen tbW 1
    have z2 := blk_frozen tbW 2
    have HTW := Lib.hid tbW
    clear tbW
    go_wp2_with (fail)
    clear t0 t1 t2 z0 z1 z2
    obtain ⟨wy, hwy, d0, oth, zy⟩ := slot3 w4 T 83 _ _ _ (.pointer none) (.string ⟨#[]⟩) (.int .u64 0) HTW.out
    rw [← hwy]
    have y0 : wy.cell? ⟨T, 0, none⟩ = some (.pointer none) := by simp [World.cell?, d0]
    have y1 : wy.cell? ⟨T, 1, none⟩ = some (.string ⟨#[]⟩) := by simp [World.cell?, d0]
    have y2 : wy.cell? ⟨T, 2, none⟩ = some (.int .u64 0) := by simp [World.cell?, d0]
    have HDEC := Lib.hid (show DecAt wy D s by unfold DecAt; rw [oth D (Nat.ne_of_lt HDT.out)]; exact HI4.out.dec)
    have HBY := Lib.hid (show BB D wz wy by rw [hwy]; exact (((((BB.of HBZ.out).next HB4.out).setNew HTN.out 0 _).setNew HTN.out 1 _).setNew HTN.out 2 _))
    refine bodyPost_ret (v := .tuple #[.agg #[.pointer none, .string ⟨#[]⟩, .int .u64 0], .iface 265 (.pointer (some G.eof))]) (by simp [results, Tryz.results72, go_sem, y0, y1, y2]) rfl ?_
    exact ⟨_, _, rfl, HBY.out, ⟨_, HDEC.out⟩, ⟨_, _, rfl⟩, .inl ⟨by rw [HN0.out]; exact HEND.out, rfl⟩⟩
  · rw [decide_eq_false hend] at C88
    have H88 := Lib.hid C88
    clear C88
    have hlt0 : q + n0 < t.length := by omega
    have bd := HI2.out.bs.rd (q + n0)
    obtain ⟨cn, hcn⟩ : ∃ cn : Nat, rd t ((q + n0 : Nat) : Int) = (cn : Int) := ⟨(rd t ((q + n0 : Nat) : Int)).toNat, by omega⟩
    have hcn2 : cn < 256 := by omega
    have cb : w2.cell? ⟨B, q + n0, none⟩ = some (.int .u8 (cn : Int)) := by have := HI2.out.rb (q + n0) hlt0; rw [hcn, Nat.zero_add] at this; exact this
    have HCN := Lib.hid hcn
    have e0 := HI2.out.c0
    rw [HST.out] at e0
    have e1 := HI2.out.c1
    clear bd hcn hend
    by_cases hdel : cn = 58 ∨ cn = 44
    · rcases hdel with rfl | rfl
      · as_aux_lemma =>
          obtain ⟨off2, ho2, _, hsl2⟩ := sub22 B 0 (q + n0 + 1) t.length c (by omega) hc
          rw [show ((q + n0 + 1 : Nat) : Int) = (q : Int) + (n0 : Int) + 1 by omega] at hsl2
          obtain ⟨n1, hn1⟩ : ∃ n1, wsN (t.drop (q + n0 + 1)) = n1 := ⟨_, rfl⟩
          have hln1 : q + n0 + 1 + n1 ≤ t.length := by have := wsN_le (t.drop (q + n0 + 1)); rw [List.length_drop] at this; omega
          have C87 := f87 (some ⟨B, off2, none⟩) (c - (q + n0 + 1)) (t.drop (q + n0 + 1)) w2 (HI2.out.rbT.C (q + n0 + 1) (some ⟨B, off2, none⟩) (fun h => by rw [ho2 h, Nat.zero_add]) (by omega)) (by rw [List.length_drop]; omega) (by rw [List.length_drop]; omega)
          rw [List.length_drop, hn1] at C87
          have H87 := Lib.hid C87
          clear C87 ho2 hn1
          have hEN := Lib.hid (show E (t.drop (q + n0)) = none from hE _ (by rw [rd_drop0, HCN.out]; simp))
          have hws := Lib.hid (show q + wsN (t.drop q) < t.length by rw [HN0.out]; exact hlt0)
          go_wp2_with (fail)
          refine H88.out.mono ?_
          rintro e w3 ⟨rfl, rfl⟩
          go_wp2_with (fail)
          refine H87.out.mono ?_
          rintro e w3 ⟨rfl, hd3⟩
          have HB3 := Lib.hid (HB2.out.trans (hd3.below.mono HB2.out.size))
          have HI3 := Lib.hid (HI2.out.mono hd3.below)
          have f7 := HI3.out.c7
          have f0 := HI3.out.c0
          rw [HST.out] at f0
          have f1 := HI3.out.c1
          clear hd3 d7 e0 e1 cb H87 hsl2
          have ec : ((q + n0 + 1 + n1 : Nat) : Int) = (q : Int) + (n0 : Int) + 1 + (n1 : Int) := by omega
          have C88b := f88 D (q + n0 + 1 + n1) s (some ⟨B, 0, none⟩) t.length c w3 HI3.out.dec HI3.out.buf hl (by omega)
          rw [ec] at C88b
          by_cases hend2 : q + n0 + 1 + n1 = t.length
          · rw [decide_eq_true hend2] at C88b
            have H88b := Lib.hid C88b
            have C89 := f89 D B c t s G w3 HI3.out.env HI3.out.dec HI3.out.buf HI3.out.rbT hl hc
            have etl : ((t.length : Nat) : Int) = (q : Int) + (n0 : Int) + 1 + (n1 : Int) := by omega
            rw [etl] at C89
            have H89 := Lib.hid C89
            have C91 := fun W (hI : Inv W G D B c t s loose dup) => f91w D B c t.length t s loose dup 0 (.iface 265 (.pointer (some G.ueof))) W G hI HT.out (Nat.le_refl _) (.inl ⟨_, rfl, .inl rfl⟩)
            rw [etl] at C91
            have H91 := Lib.hid C91
            have C92 := Lib.hid (fun W x (hI : Inv W G D B c t s loose dup) => f92 D B c q t s loose dup 58 x W G hI HT.out (by decide) HQ.out hws.out)
            clear C88b C89 C91 etl ec hend2
            go_wp2_with (fail)
            refine H88b.out.mono ?_
            rintro e w4 ⟨rfl, rfl⟩
            go_wp2_with (fail)
            refine H89.out.mono ?_
            rintro e w4 ⟨rfl, hd4⟩
            have HB4 := Lib.hid (HB3.out.trans (hd4.below.mono HB3.out.size))
            have HI4 := Lib.hid (HI3.out.mono hd4.below)
            clear hd4 f7 f0 f1
            go_wp2_with (fail)
            refine (H91.out _ HI4.out).mono ?_
            rintro e w5 ⟨g5, rfl, hb5⟩
            have HB5 := Lib.hid (HB4.out.trans (hb5.mono HB4.out.size))
            have HI5 := Lib.hid (HI4.out.mono hb5)
            clear hb5
            go_wp2_with (fail)
            refine (C92.out _ _ HI5.out).mono ?_
            rintro e w6 ⟨g6, rfl, hb6⟩
            have HB6 := Lib.hid (HB5.out.trans (hb6.mono HB5.out.size))
            have HI6 := Lib.hid (HI5.out.mono hb6)
            clear hb6
            have tbW := (HB6.out.block T HLT.out).trans HTB.out
            have t0 := (blk_cell tbW 0).trans (show _ = some (.pointer none) from rfl)
            have t1 := (blk_cell tbW 1).trans (show _ = some (.string ⟨#[]⟩) from rfl)
            have t2 := (blk_cell tbW 2).trans (show _ = some (.int .u64 0) from rfl)
            have z0 := blk_frozen tbW 0
            have z1 := blk_frozen tbW 1
            have z2 := blk_frozen tbW 2
            have HTW := Lib.hid tbW
            clear tbW
            go_wp2_with (fail)
            clear t0 t1 t2 z0 z1 z2
            obtain ⟨wy, hwy, d0, oth, zy⟩ := slot3 w6 T 83 _ _ _ (.pointer none) (.string ⟨#[]⟩) (.int .u64 0) HTW.out
            rw [← hwy]
            have y0 : wy.cell? ⟨T, 0, none⟩ = some (.pointer none) := by simp [World.cell?, d0]
            have y1 : wy.cell? ⟨T, 1, none⟩ = some (.string ⟨#[]⟩) := by simp [World.cell?, d0]
            have y2 : wy.cell? ⟨T, 2, none⟩ = some (.int .u64 0) := by simp [World.cell?, d0]
            have HDEC := Lib.hid (show DecAt wy D s by unfold DecAt; rw [oth D (Nat.ne_of_lt HDT.out)]; exact HI6.out.dec)
            have HBY := Lib.hid (show BB D wz wy by rw [hwy]; exact (((((BB.of HBZ.out).next HB6.out).setNew HTN.out 0 _).setNew HTN.out 1 _).setNew HTN.out 2 _))
            refine bodyPost_ret (v := .tuple #[.agg #[.pointer none, .string ⟨#[]⟩, .int .u64 0], .iface 67 (.pointer (some ⟨g6, 0, none⟩))]) (by simp [results, Tryz.results72, go_sem, y0, y1, y2]) rfl ?_
            exact ⟨_, _, rfl, HBY.out, ⟨_, HDEC.out⟩, ⟨_, _, rfl⟩, .inr ⟨by rw [HN0.out]; exact hlt0, .inr ⟨g6, rfl⟩⟩⟩
          · rw [decide_eq_false hend2] at C88b
            have H88b := Lib.hid C88b
            have hlt2 : q + n0 + 1 + n1 < t.length := by omega
            have bd := HI3.out.bs.rd (q + n0 + 1 + n1)
            obtain ⟨cm, hcm⟩ : ∃ cm : Nat, rd t ((q + n0 + 1 + n1 : Nat) : Int) = (cm : Int) := ⟨(rd t ((q + n0 + 1 + n1 : Nat) : Int)).toNat, by omega⟩
            have cbm : w3.cell? ⟨B, q + n0 + 1 + n1, none⟩ = some (.int .u8 (cm : Int)) := by have := HI3.out.rb (q + n0 + 1 + n1) hlt2; rw [hcm, Nat.zero_add] at this; exact this
            have C85 := Lib.hid (f85 cm G w3 HI3.out.env (by omega))
            have C93 := Lib.hid (fun W => f93 HT.out.last W sA sc (normK cm : Nat))
            have C94 := Lib.hid (fun W (hI : Inv W G D B c t s loose dup) => f94 D B c q t s loose dup 58 (normK cm : Nat) W G hI HT.out (by decide) HQ.out hws.out)
            clear C88b bd hcm hend2
            go_wp2_with (fail)
            refine H88b.out.mono ?_
            rintro e w4 ⟨rfl, rfl⟩
            go_wp2_with (fail)
            refine C85.out.mono ?_
            rintro e w4 ⟨rfl, rfl⟩
            go_wp2_with (fail)
            refine (C93.out _).mono ?_
            rintro e w4 ⟨rfl, hb4⟩
            have HB4 := Lib.hid (HB3.out.trans (hb4.mono HB3.out.size))
            have HI4 := Lib.hid (HI3.out.mono hb4)
            clear hb4 f7 f0 f1 cbm
            go_wp2_with (fail)
            refine (C94.out _ HI4.out).mono ?_
            rintro e w5 ⟨g5, rfl, hb5⟩
            have HB5 := Lib.hid (HB4.out.trans (hb5.mono HB4.out.size))
            have HI5 := Lib.hid (HI4.out.mono hb5)
            clear hb5
            have tbW := (HB5.out.block T HLT.out).trans HTB.out
            have t0 := (blk_cell tbW 0).trans (show _ = some (.pointer none) from rfl)
            have t1 := (blk_cell tbW 1).trans (show _ = some (.string ⟨#[]⟩) from rfl)
            have t2 := (blk_cell tbW 2).trans (show _ = some (.int .u64 0) from rfl)
            have z0 := blk_frozen tbW 0
            have z1 := blk_frozen tbW 1
            have z2 := blk_frozen tbW 2
            have HTW := Lib.hid tbW
            clear tbW
            go_wp2_with (fail)
            clear t0 t1 t2 z0 z1 z2
            obtain ⟨wy, hwy, d0, oth, zy⟩ := slot3 w5 T 83 _ _ _ (.pointer none) (.string ⟨#[]⟩) (.int .u64 0) HTW.out
            rw [← hwy]
            have y0 : wy.cell? ⟨T, 0, none⟩ = some (.pointer none) := by simp [World.cell?, d0]
            have y1 : wy.cell? ⟨T, 1, none⟩ = some (.string ⟨#[]⟩) := by simp [World.cell?, d0]
            have y2 : wy.cell? ⟨T, 2, none⟩ = some (.int .u64 0) := by simp [World.cell?, d0]
            have HDEC := Lib.hid (show DecAt wy D s by unfold DecAt; rw [oth D (Nat.ne_of_lt HDT.out)]; exact HI5.out.dec)
            have HBY := Lib.hid (show BB D wz wy by rw [hwy]; exact (((((BB.of HBZ.out).next HB5.out).setNew HTN.out 0 _).setNew HTN.out 1 _).setNew HTN.out 2 _))
            refine bodyPost_ret (v := .tuple #[.agg #[.pointer none, .string ⟨#[]⟩, .int .u64 0], .iface 67 (.pointer (some ⟨g5, 0, none⟩))]) (by simp [results, Tryz.results72, go_sem, y0, y1, y2]) rfl ?_
            exact ⟨_, _, rfl, HBY.out, ⟨_, HDEC.out⟩, ⟨_, _, rfl⟩, .inr ⟨by rw [HN0.out]; exact hlt0, .inr ⟨g5, rfl⟩⟩⟩
      · as_aux_lemma =>
          obtain ⟨off2, ho2, _, hsl2⟩ := sub22 B 0 (q + n0 + 1) t.length c (by omega) hc
          rw [show ((q + n0 + 1 : Nat) : Int) = (q : Int) + (n0 : Int) + 1 by omega] at hsl2
          obtain ⟨n1, hn1⟩ : ∃ n1, wsN (t.drop (q + n0 + 1)) = n1 := ⟨_, rfl⟩
          have hln1 : q + n0 + 1 + n1 ≤ t.length := by have := wsN_le (t.drop (q + n0 + 1)); rw [List.length_drop] at this; omega
          have C87 := f87 (some ⟨B, off2, none⟩) (c - (q + n0 + 1)) (t.drop (q + n0 + 1)) w2 (HI2.out.rbT.C (q + n0 + 1) (some ⟨B, off2, none⟩) (fun h => by rw [ho2 h, Nat.zero_add]) (by omega)) (by rw [List.length_drop]; omega) (by rw [List.length_drop]; omega)
          rw [List.length_drop, hn1] at C87
          have H87 := Lib.hid C87
          clear C87 ho2 hn1
          have hEN := Lib.hid (show E (t.drop (q + n0)) = none from hE _ (by rw [rd_drop0, HCN.out]; simp))
          have hws := Lib.hid (show q + wsN (t.drop q) < t.length by rw [HN0.out]; exact hlt0)
          go_wp2_with (fail)
          refine H88.out.mono ?_
          rintro e w3 ⟨rfl, rfl⟩
          go_wp2_with (fail)
          refine H87.out.mono ?_
          rintro e w3 ⟨rfl, hd3⟩
          have HB3 := Lib.hid (HB2.out.trans (hd3.below.mono HB2.out.size))
          have HI3 := Lib.hid (HI2.out.mono hd3.below)
          have f7 := HI3.out.c7
          have f0 := HI3.out.c0
          rw [HST.out] at f0
          have f1 := HI3.out.c1
          clear hd3 d7 e0 e1 cb H87 hsl2
          have ec : ((q + n0 + 1 + n1 : Nat) : Int) = (q : Int) + (n0 : Int) + 1 + (n1 : Int) := by omega
          have C88b := f88 D (q + n0 + 1 + n1) s (some ⟨B, 0, none⟩) t.length c w3 HI3.out.dec HI3.out.buf hl (by omega)
          rw [ec] at C88b
          by_cases hend2 : q + n0 + 1 + n1 = t.length
          · rw [decide_eq_true hend2] at C88b
            have H88b := Lib.hid C88b
            have C89 := f89 D B c t s G w3 HI3.out.env HI3.out.dec HI3.out.buf HI3.out.rbT hl hc
            have etl : ((t.length : Nat) : Int) = (q : Int) + (n0 : Int) + 1 + (n1 : Int) := by omega
            rw [etl] at C89
            have H89 := Lib.hid C89
            have C91 := fun W (hI : Inv W G D B c t s loose dup) => f91w D B c t.length t s loose dup 0 (.iface 265 (.pointer (some G.ueof))) W G hI HT.out (Nat.le_refl _) (.inl ⟨_, rfl, .inl rfl⟩)
            rw [etl] at C91
            have H91 := Lib.hid C91
            have C92 := Lib.hid (fun W x (hI : Inv W G D B c t s loose dup) => f92 D B c q t s loose dup 44 x W G hI HT.out (by decide) HQ.out hws.out)
            clear C88b C89 C91 etl ec hend2
            go_wp2_with (fail)
            refine H88b.out.mono ?_
            rintro e w4 ⟨rfl, rfl⟩
            go_wp2_with (fail)
            refine H89.out.mono ?_
            rintro e w4 ⟨rfl, hd4⟩
            have HB4 := Lib.hid (HB3.out.trans (hd4.below.mono HB3.out.size))
            have HI4 := Lib.hid (HI3.out.mono hd4.below)
            clear hd4 f7 f0 f1
            go_wp2_with (fail)
            refine (H91.out _ HI4.out).mono ?_
            rintro e w5 ⟨g5, rfl, hb5⟩
            have HB5 := Lib.hid (HB4.out.trans (hb5.mono HB4.out.size))
            have HI5 := Lib.hid (HI4.out.mono hb5)
            clear hb5
            go_wp2_with (fail)
            refine (C92.out _ _ HI5.out).mono ?_
            rintro e w6 ⟨g6, rfl, hb6⟩
            have HB6 := Lib.hid (HB5.out.trans (hb6.mono HB5.out.size))
            have HI6 := Lib.hid (HI5.out.mono hb6)
            clear hb6
            have tbW := (HB6.out.block T HLT.out).trans HTB.out
            have t0 := (blk_cell tbW 0).trans (show _ = some (.pointer none) from rfl)
            have t1 := (blk_cell tbW 1).trans (show _ = some (.string ⟨#[]⟩) from rfl)
            have t2 := (blk_cell tbW 2).trans (show _ = some (.int .u64 0) from rfl)
            have z0 := blk_frozen tbW 0
            have z1 := blk_frozen tbW 1
            have z2 := blk_frozen tbW 2
            have HTW := Lib.hid tbW
            clear tbW
            go_wp2_with (fail)
            clear t0 t1 t2 z0 z1 z2
            obtain ⟨wy, hwy, d0, oth, zy⟩ := slot3 w6 T 83 _ _ _ (.pointer none) (.string ⟨#[]⟩) (.int .u64 0) HTW.out
            rw [← hwy]
            have y0 : wy.cell? ⟨T, 0, none⟩ = some (.pointer none) := by simp [World.cell?, d0]
            have y1 : wy.cell? ⟨T, 1, none⟩ = some (.string ⟨#[]⟩) := by simp [World.cell?, d0]
            have y2 : wy.cell? ⟨T, 2, none⟩ = some (.int .u64 0) := by simp [World.cell?, d0]
            have HDEC := Lib.hid (show DecAt wy D s by unfold DecAt; rw [oth D (Nat.ne_of_lt HDT.out)]; exact HI6.out.dec)
            have HBY := Lib.hid (show BB D wz wy by rw [hwy]; exact (((((BB.of HBZ.out).next HB6.out).setNew HTN.out 0 _).setNew HTN.out 1 _).setNew HTN.out 2 _))
            refine bodyPost_ret (v := .tuple #[.agg #[.pointer none, .string ⟨#[]⟩, .int .u64 0], .iface 67 (.pointer (some ⟨g6, 0, none⟩))]) (by simp [results, Tryz.results72, go_sem, y0, y1, y2]) rfl ?_
            exact ⟨_, _, rfl, HBY.out, ⟨_, HDEC.out⟩, ⟨_, _, rfl⟩, .inr ⟨by rw [HN0.out]; exact hlt0, .inr ⟨g6, rfl⟩⟩⟩
          · rw [decide_eq_false hend2] at C88b
            have H88b := Lib.hid C88b
            have hlt2 : q + n0 + 1 + n1 < t.length := by omega
            have bd := HI3.out.bs.rd (q + n0 + 1 + n1)
            obtain ⟨cm, hcm⟩ : ∃ cm : Nat, rd t ((q + n0 + 1 + n1 : Nat) : Int) = (cm : Int) := ⟨(rd t ((q + n0 + 1 + n1 : Nat) : Int)).toNat, by omega⟩
            have cbm : w3.cell? ⟨B, q + n0 + 1 + n1, none⟩ = some (.int .u8 (cm : Int)) := by have := HI3.out.rb (q + n0 + 1 + n1) hlt2; rw [hcm, Nat.zero_add] at this; exact this
            have C85 := Lib.hid (f85 cm G w3 HI3.out.env (by omega))
            have C93 := Lib.hid (fun W => f93 HT.out.last W sA sc (normK cm : Nat))
            have C94 := Lib.hid (fun W (hI : Inv W G D B c t s loose dup) => f94 D B c q t s loose dup 44 (normK cm : Nat) W G hI HT.out (by decide) HQ.out hws.out)
            clear C88b bd hcm hend2
            go_wp2_with (fail)
            refine H88b.out.mono ?_
            rintro e w4 ⟨rfl, rfl⟩
            go_wp2_with (fail)
            refine C85.out.mono ?_
            rintro e w4 ⟨rfl, rfl⟩
            go_wp2_with (fail)
            refine (C93.out _).mono ?_
            rintro e w4 ⟨rfl, hb4⟩
            have HB4 := Lib.hid (HB3.out.trans (hb4.mono HB3.out.size))
            have HI4 := Lib.hid (HI3.out.mono hb4)
            clear hb4 f7 f0 f1 cbm
            go_wp2_with (fail)
            refine (C94.out _ HI4.out).mono ?_
            rintro e w5 ⟨g5, rfl, hb5⟩
            have HB5 := Lib.hid (HB4.out.trans (hb5.mono HB4.out.size))
            have HI5 := Lib.hid (HI4.out.mono hb5)
            clear hb5
            have tbW := (HB5.out.block T HLT.out).trans HTB.out
            have t0 := (blk_cell tbW 0).trans (show _ = some (.pointer none) from rfl)
            have t1 := (blk_cell tbW 1).trans (show _ = some (.string ⟨#[]⟩) from rfl)
            have t2 := (blk_cell tbW 2).trans (show _ = some (.int .u64 0) from rfl)
            have z0 := blk_frozen tbW 0
            have z1 := blk_frozen tbW 1
            have z2 := blk_frozen tbW 2
            have HTW := Lib.hid tbW
            clear tbW
            go_wp2_with (fail)
            clear t0 t1 t2 z0 z1 z2
            obtain ⟨wy, hwy, d0, oth, zy⟩ := slot3 w5 T 83 _ _ _ (.pointer none) (.string ⟨#[]⟩) (.int .u64 0) HTW.out
            rw [← hwy]
            have y0 : wy.cell? ⟨T, 0, none⟩ = some (.pointer none) := by simp [World.cell?, d0]
            have y1 : wy.cell? ⟨T, 1, none⟩ = some (.string ⟨#[]⟩) := by simp [World.cell?, d0]
            have y2 : wy.cell? ⟨T, 2, none⟩ = some (.int .u64 0) := by simp [World.cell?, d0]
            have HDEC := Lib.hid (show DecAt wy D s by unfold DecAt; rw [oth D (Nat.ne_of_lt HDT.out)]; exact HI5.out.dec)
            have HBY := Lib.hid (show BB D wz wy by rw [hwy]; exact (((((BB.of HBZ.out).next HB5.out).setNew HTN.out 0 _).setNew HTN.out 1 _).setNew HTN.out 2 _))
            refine bodyPost_ret (v := .tuple #[.agg #[.pointer none, .string ⟨#[]⟩, .int .u64 0], .iface 67 (.pointer (some ⟨g5, 0, none⟩))]) (by simp [results, Tryz.results72, go_sem, y0, y1, y2]) rfl ?_
            exact ⟨_, _, rfl, HBY.out, ⟨_, HDEC.out⟩, ⟨_, _, rfl⟩, .inr ⟨by rw [HN0.out]; exact hlt0, .inr ⟨g5, rfl⟩⟩⟩
    · have x58 : ((cn : Int) == 58) = false := by rw [beq_eq_false_iff_ne]; omega
      have x44 : ((cn : Int) == 44) = false := by rw [beq_eq_false_iff_ne]; omega
      have HDEL := Lib.hid hdel
      clear hdel
      obtain ⟨kn, hkn⟩ : ∃ kn, normK cn = kn := ⟨_, rfl⟩
      have C85 := f85 cn G w2 HI2.out.env hcn2
      rw [hkn] at C85
      have H85 := Lib.hid C85
      have HKN := Lib.hid hkn
      have C93 := Lib.hid (fun W => f93 HT.out.last W sA sc (kn : Nat))
      clear C85 hkn
      focus
        go_wp2_with (fail)
        refine H88.out.mono ?_
        rintro e w3 ⟨rfl, rfl⟩
        go_wp2_with (fail)
        refine H85.out.mono ?_
        rintro e w3 ⟨rfl, rfl⟩
        go_wp2_with (fail)
        refine (C93.out _).mono ?_
        rintro e w3 ⟨rfl, hb3⟩
        have HB3 := Lib.hid (HB2.out.trans (hb3.mono HB2.out.size))
        have HI3 := Lib.hid (HI2.out.mono hb3)
        have g0 := HI3.out.c0
        rw [HST.out] at g0
        have g1 := HI3.out.c1
        have g10 := HI3.out.c10
        clear hb3 e0 e1 cb d7 C93 H85 H88
        have HT3 := Lib.hid (Below.blk HB3.out HTB.out)
        have BD3 := Lib.hid ((BB.of (F := D) HBZ.out).next HB3.out)
        have g7 := HI3.out.c7
        obtain ⟨off3, ho3, _, hsl3⟩ := sub22 B 0 (q + n0) t.length c (by omega) hc
        rw [Int.natCast_add, show off3 = q + n0 by rw [ho3 hlt0]; omega] at hsl3
        clear ho3
        by_cases k110 : cn = 110
        · subst k110
          obtain rfl : (110 : Nat) = kn := HKN.out
          as_aux_lemma =>
            by_cases hpre : pre [110, 117, 108, 108] (t.drop (q + n0))
            · have hk : q + n0 + 4 ≤ t.length := by
                have := congrArg List.length hpre
                rw [List.length_take, List.length_drop] at this
                simp at this
                omega
              have C1 := f112y B (q + n0) (c - (q + n0)) (t.drop (q + n0)) w3 (HI3.out.rb.sub (q + n0) (q + n0) (fun _ => by omega)) (HI3.out.bs.drop _) (by rw [List.length_drop]; omega) (by rw [List.length_drop]; omega) hpre
              rw [List.length_drop] at C1
              have H1 := Lib.hid C1
              have C96 := Lib.hid (f96 D s w3 HI3.out.dec HT.out.last)
              clear C1 hpre
              go_wp2_with (fail)
              refine H1.out.mono ?_
              rintro e w4 ⟨rfl, rfl⟩
              go_wp2_with (fail)
              refine C96.out.mono ?_
              rintro e w4 ⟨rfl, hb4, hd4⟩
              have HB4 := Lib.hid hb4
              have HD4 := Lib.hid hd4
              clear hb4 hd4 g0 g1 g7 g10
              have m8 : w4.cell? ⟨D, 8, none⟩ = some (.int .i64 _) := HD4.out.cell 8 _ rfl
              have m9 : w4.cell? ⟨D, 9, none⟩ = some (.int .i64 _) := HD4.out.cell 9 _ rfl
              have z8 := HD4.out.fz 8
              have z9 := HD4.out.fz 9
              go_wp2_with (fail)
              refine (f114 _).mono ?_
              rintro e w8 ⟨g8, o8, n8, rfl, hb8⟩
              clear m8 m9 z8 z9
              have HBB8 := Lib.hid (BB.next2 HB4.out hb8)
              obtain ⟨s8, hd8⟩ := DecAt.next2 HD4.out hb8 (by first | exact .inl ⟨rfl, rfl⟩ | exact .inr ⟨rfl, rfl⟩)
              have HD8 := Lib.hid hd8
              clear hd8
              have HT8 := Lib.hid (BB.blk HBB8.out HT3.out (Nat.ne_of_gt HDT.out))
              have BD8 := Lib.hid (BD3.out.trans HBB8.out)
              clear hb8
              have t0 := (blk_cell HT8.out 0).trans (show _ = some (.pointer none) from rfl)
              have t1 := (blk_cell HT8.out 1).trans (show _ = some (.string ⟨#[]⟩) from rfl)
              have t2 := (blk_cell HT8.out 2).trans (show _ = some (.int .u64 0) from rfl)
              have z0 := blk_frozen HT8.out 0
              have z1 := blk_frozen HT8.out 1
              have z2 := blk_frozen HT8.out 2
              go_wp2_with (fail)
              clear t0 t1 t2 z0 z1 z2
              obtain ⟨wy, hwy, d0, oth, zy⟩ := slot3 w8 T 83 _ _ _ (.pointer (some ⟨g8, o8, none⟩)) (.string ⟨#[]⟩) (.int .u64 n8) HT8.out
              rw [← hwy]
              have y0 : wy.cell? ⟨T, 0, none⟩ = some (.pointer (some ⟨g8, o8, none⟩)) := by simp [World.cell?, d0]
              have y1 : wy.cell? ⟨T, 1, none⟩ = some (.string ⟨#[]⟩) := by simp [World.cell?, d0]
              have y2 : wy.cell? ⟨T, 2, none⟩ = some (.int .u64 n8) := by simp [World.cell?, d0]
              have HDEC := Lib.hid (show DecAt wy D _ by unfold DecAt; rw [oth D (Nat.ne_of_lt HDT.out)]; exact HD8.out)
              have HBY := Lib.hid (show BB D wz wy by rw [hwy]; exact (((BD8.out.setNew HTN.out 0 _).setNew HTN.out 1 _).setNew HTN.out 2 _))
              refine bodyPost_ret (v := .tuple #[.agg #[.pointer (some ⟨g8, o8, none⟩), .string ⟨#[]⟩, .int .u64 n8], .nilIface]) (by simp [results, Tryz.results72, go_sem, y0, y1, y2]) rfl ?_
              exact ⟨_, _, rfl, HBY.out, ⟨_, HDEC.out⟩, ⟨_, _, rfl⟩, .inr ⟨by rw [HN0.out]; exact hlt0, .inl rfl⟩⟩
            · have C1 := f112n B (q + n0) (c - (q + n0)) (t.drop (q + n0)) w3 (HI3.out.rb.sub (q + n0) (q + n0) (fun _ => by omega)) (HI3.out.bs.drop _) (by rw [List.length_drop]; omega) (by rw [List.length_drop]; omega) hpre
              rw [List.length_drop] at C1
              have H1 := Lib.hid C1
              have C2 := f113 D B c (q + n0) t s loose dup ⟨#[110, 117, 108, 108]⟩ w3 G HI3.out hlt0 (by decide) hpre
              rw [Int.natCast_add] at C2
              have H2 := Lib.hid C2
              clear C1 C2 hpre
              go_wp2_with (fail)
              refine H1.out.mono ?_
              rintro e w4 ⟨rfl, rfl⟩
              go_wp2_with (fail)
              refine H2.out.mono ?_
              rintro e w4 ⟨q4, x, rfl, hq4, hx, hb4⟩
              have HI4 := Lib.hid (HI3.out.mono hb4)
              have HT4 := Lib.hid (Below.blk hb4 HT3.out)
              have BD4 := Lib.hid (BD3.out.next hb4)
              clear hb4 g0 g1 g7 g10
              rcases hx with rfl | ⟨gg, rfl⟩
              · have C91 := f91w D B c (q4) t s loose dup 1 (.iface 265 (.pointer (some G.ueof))) w4 G HI4.out HT.out hq4 (.inl ⟨_, rfl, .inl rfl⟩)
                have H91 := Lib.hid C91
                clear C91
                go_wp2_with (fail)
                refine H91.out.mono ?_
                rintro e w9 ⟨g9, rfl, hb9⟩
                have HT9 := Lib.hid (Below.blk hb9 HT4.out)
                have HD9 := Lib.hid (HI4.out.dec.mono hb9)
                have BD9 := Lib.hid (BD4.out.next hb9)
                clear hb9
                have t0 := (blk_cell HT9.out 0).trans (show _ = some (.pointer none) from rfl)
                have t1 := (blk_cell HT9.out 1).trans (show _ = some (.string ⟨#[]⟩) from rfl)
                have t2 := (blk_cell HT9.out 2).trans (show _ = some (.int .u64 0) from rfl)
                have z0 := blk_frozen HT9.out 0
                have z1 := blk_frozen HT9.out 1
                have z2 := blk_frozen HT9.out 2
                go_wp2_with (fail)
                clear t0 t1 t2 z0 z1 z2
                obtain ⟨wy, hwy, d0, oth, zy⟩ := slot3 w9 T 83 _ _ _ (.pointer none) (.string ⟨#[]⟩) (.int .u64 0) HT9.out
                rw [← hwy]
                have y0 : wy.cell? ⟨T, 0, none⟩ = some (.pointer none) := by simp [World.cell?, d0]
                have y1 : wy.cell? ⟨T, 1, none⟩ = some (.string ⟨#[]⟩) := by simp [World.cell?, d0]
                have y2 : wy.cell? ⟨T, 2, none⟩ = some (.int .u64 0) := by simp [World.cell?, d0]
                have HDEC := Lib.hid (show DecAt wy D _ by unfold DecAt; rw [oth D (Nat.ne_of_lt HDT.out)]; exact HD9.out)
                have HBY := Lib.hid (show BB D wz wy by rw [hwy]; exact (((BD9.out.setNew HTN.out 0 _).setNew HTN.out 1 _).setNew HTN.out 2 _))
                refine bodyPost_ret (v := .tuple #[.agg #[.pointer none, .string ⟨#[]⟩, .int .u64 0], .iface 67 (.pointer (some ⟨g9, 0, none⟩))]) (by simp [results, Tryz.results72, go_sem, y0, y1, y2]) rfl ?_
                exact ⟨_, _, rfl, HBY.out, ⟨_, HDEC.out⟩, ⟨_, _, rfl⟩, .inr ⟨by rw [HN0.out]; exact hlt0, .inr ⟨g9, rfl⟩⟩⟩
              · have C91 := f91w D B c (q4) t s loose dup 1 (.iface 153 (.pointer (some ⟨gg, 0, none⟩))) w4 G HI4.out HT.out hq4 (.inr ⟨gg, rfl⟩)
                have H91 := Lib.hid C91
                clear C91
                go_wp2_with (fail)
                refine H91.out.mono ?_
                rintro e w9 ⟨g9, rfl, hb9⟩
                have HT9 := Lib.hid (Below.blk hb9 HT4.out)
                have HD9 := Lib.hid (HI4.out.dec.mono hb9)
                have BD9 := Lib.hid (BD4.out.next hb9)
                clear hb9
                have t0 := (blk_cell HT9.out 0).trans (show _ = some (.pointer none) from rfl)
                have t1 := (blk_cell HT9.out 1).trans (show _ = some (.string ⟨#[]⟩) from rfl)
                have t2 := (blk_cell HT9.out 2).trans (show _ = some (.int .u64 0) from rfl)
                have z0 := blk_frozen HT9.out 0
                have z1 := blk_frozen HT9.out 1
                have z2 := blk_frozen HT9.out 2
                go_wp2_with (fail)
                clear t0 t1 t2 z0 z1 z2
                obtain ⟨wy, hwy, d0, oth, zy⟩ := slot3 w9 T 83 _ _ _ (.pointer none) (.string ⟨#[]⟩) (.int .u64 0) HT9.out
                rw [← hwy]
                have y0 : wy.cell? ⟨T, 0, none⟩ = some (.pointer none) := by simp [World.cell?, d0]
                have y1 : wy.cell? ⟨T, 1, none⟩ = some (.string ⟨#[]⟩) := by simp [World.cell?, d0]
                have y2 : wy.cell? ⟨T, 2, none⟩ = some (.int .u64 0) := by simp [World.cell?, d0]
                have HDEC := Lib.hid (show DecAt wy D _ by unfold DecAt; rw [oth D (Nat.ne_of_lt HDT.out)]; exact HD9.out)
                have HBY := Lib.hid (show BB D wz wy by rw [hwy]; exact (((BD9.out.setNew HTN.out 0 _).setNew HTN.out 1 _).setNew HTN.out 2 _))
                refine bodyPost_ret (v := .tuple #[.agg #[.pointer none, .string ⟨#[]⟩, .int .u64 0], .iface 67 (.pointer (some ⟨g9, 0, none⟩))]) (by simp [results, Tryz.results72, go_sem, y0, y1, y2]) rfl ?_
                exact ⟨_, _, rfl, HBY.out, ⟨_, HDEC.out⟩, ⟨_, _, rfl⟩, .inr ⟨by rw [HN0.out]; exact hlt0, .inr ⟨g9, rfl⟩⟩⟩
        by_cases k102 : cn = 102
        · subst k102
          obtain rfl : (102 : Nat) = kn := HKN.out
          as_aux_lemma =>
            by_cases hpre : pre [102, 97, 108, 115, 101] (t.drop (q + n0))
            · have hk : q + n0 + 5 ≤ t.length := by
                have := congrArg List.length hpre
                rw [List.length_take, List.length_drop] at this
                simp at this
                omega
              have C1 := f115y B (q + n0) (c - (q + n0)) (t.drop (q + n0)) w3 (HI3.out.rb.sub (q + n0) (q + n0) (fun _ => by omega)) (HI3.out.bs.drop _) (by rw [List.length_drop]; omega) (by rw [List.length_drop]; omega) hpre
              rw [List.length_drop] at C1
              have H1 := Lib.hid C1
              have C96 := Lib.hid (f96 D s w3 HI3.out.dec HT.out.last)
              clear C1 hpre
              go_wp2_with (fail)
              refine H1.out.mono ?_
              rintro e w4 ⟨rfl, rfl⟩
              go_wp2_with (fail)
              refine C96.out.mono ?_
              rintro e w4 ⟨rfl, hb4, hd4⟩
              have HB4 := Lib.hid hb4
              have HD4 := Lib.hid hd4
              clear hb4 hd4 g0 g1 g7 g10
              have m8 : w4.cell? ⟨D, 8, none⟩ = some (.int .i64 _) := HD4.out.cell 8 _ rfl
              have m9 : w4.cell? ⟨D, 9, none⟩ = some (.int .i64 _) := HD4.out.cell 9 _ rfl
              have z8 := HD4.out.fz 8
              have z9 := HD4.out.fz 9
              go_wp2_with (fail)
              refine (f116 _).mono ?_
              rintro e w8 ⟨g8, o8, n8, rfl, hb8⟩
              clear m8 m9 z8 z9
              have HBB8 := Lib.hid (BB.next2 HB4.out hb8)
              obtain ⟨s8, hd8⟩ := DecAt.next2 HD4.out hb8 (by first | exact .inl ⟨rfl, rfl⟩ | exact .inr ⟨rfl, rfl⟩)
              have HD8 := Lib.hid hd8
              clear hd8
              have HT8 := Lib.hid (BB.blk HBB8.out HT3.out (Nat.ne_of_gt HDT.out))
              have BD8 := Lib.hid (BD3.out.trans HBB8.out)
              clear hb8
              have t0 := (blk_cell HT8.out 0).trans (show _ = some (.pointer none) from rfl)
              have t1 := (blk_cell HT8.out 1).trans (show _ = some (.string ⟨#[]⟩) from rfl)
              have t2 := (blk_cell HT8.out 2).trans (show _ = some (.int .u64 0) from rfl)
              have z0 := blk_frozen HT8.out 0
              have z1 := blk_frozen HT8.out 1
              have z2 := blk_frozen HT8.out 2
              go_wp2_with (fail)
              clear t0 t1 t2 z0 z1 z2
              obtain ⟨wy, hwy, d0, oth, zy⟩ := slot3 w8 T 83 _ _ _ (.pointer (some ⟨g8, o8, none⟩)) (.string ⟨#[]⟩) (.int .u64 n8) HT8.out
              rw [← hwy]
              have y0 : wy.cell? ⟨T, 0, none⟩ = some (.pointer (some ⟨g8, o8, none⟩)) := by simp [World.cell?, d0]
              have y1 : wy.cell? ⟨T, 1, none⟩ = some (.string ⟨#[]⟩) := by simp [World.cell?, d0]
              have y2 : wy.cell? ⟨T, 2, none⟩ = some (.int .u64 n8) := by simp [World.cell?, d0]
              have HDEC := Lib.hid (show DecAt wy D _ by unfold DecAt; rw [oth D (Nat.ne_of_lt HDT.out)]; exact HD8.out)
              have HBY := Lib.hid (show BB D wz wy by rw [hwy]; exact (((BD8.out.setNew HTN.out 0 _).setNew HTN.out 1 _).setNew HTN.out 2 _))
              refine bodyPost_ret (v := .tuple #[.agg #[.pointer (some ⟨g8, o8, none⟩), .string ⟨#[]⟩, .int .u64 n8], .nilIface]) (by simp [results, Tryz.results72, go_sem, y0, y1, y2]) rfl ?_
              exact ⟨_, _, rfl, HBY.out, ⟨_, HDEC.out⟩, ⟨_, _, rfl⟩, .inr ⟨by rw [HN0.out]; exact hlt0, .inl rfl⟩⟩
            · have C1 := f115n B (q + n0) (c - (q + n0)) (t.drop (q + n0)) w3 (HI3.out.rb.sub (q + n0) (q + n0) (fun _ => by omega)) (HI3.out.bs.drop _) (by rw [List.length_drop]; omega) (by rw [List.length_drop]; omega) hpre
              rw [List.length_drop] at C1
              have H1 := Lib.hid C1
              have C2 := f113 D B c (q + n0) t s loose dup ⟨#[102, 97, 108, 115, 101]⟩ w3 G HI3.out hlt0 (by decide) hpre
              rw [Int.natCast_add] at C2
              have H2 := Lib.hid C2
              clear C1 C2 hpre
              go_wp2_with (fail)
              refine H1.out.mono ?_
              rintro e w4 ⟨rfl, rfl⟩
              go_wp2_with (fail)
              refine H2.out.mono ?_
              rintro e w4 ⟨q4, x, rfl, hq4, hx, hb4⟩
              have HI4 := Lib.hid (HI3.out.mono hb4)
              have HT4 := Lib.hid (Below.blk hb4 HT3.out)
              have BD4 := Lib.hid (BD3.out.next hb4)
              clear hb4 g0 g1 g7 g10
              rcases hx with rfl | ⟨gg, rfl⟩
              · have C91 := f91w D B c (q4) t s loose dup 1 (.iface 265 (.pointer (some G.ueof))) w4 G HI4.out HT.out hq4 (.inl ⟨_, rfl, .inl rfl⟩)
                have H91 := Lib.hid C91
                clear C91
                go_wp2_with (fail)
                refine H91.out.mono ?_
                rintro e w9 ⟨g9, rfl, hb9⟩
                have HT9 := Lib.hid (Below.blk hb9 HT4.out)
                have HD9 := Lib.hid (HI4.out.dec.mono hb9)
                have BD9 := Lib.hid (BD4.out.next hb9)
                clear hb9
                have t0 := (blk_cell HT9.out 0).trans (show _ = some (.pointer none) from rfl)
                have t1 := (blk_cell HT9.out 1).trans (show _ = some (.string ⟨#[]⟩) from rfl)
                have t2 := (blk_cell HT9.out 2).trans (show _ = some (.int .u64 0) from rfl)
                have z0 := blk_frozen HT9.out 0
                have z1 := blk_frozen HT9.out 1
                have z2 := blk_frozen HT9.out 2
                go_wp2_with (fail)
                clear t0 t1 t2 z0 z1 z2
                obtain ⟨wy, hwy, d0, oth, zy⟩ := slot3 w9 T 83 _ _ _ (.pointer none) (.string ⟨#[]⟩) (.int .u64 0) HT9.out
                rw [← hwy]
                have y0 : wy.cell? ⟨T, 0, none⟩ = some (.pointer none) := by simp [World.cell?, d0]
                have y1 : wy.cell? ⟨T, 1, none⟩ = some (.string ⟨#[]⟩) := by simp [World.cell?, d0]
                have y2 : wy.cell? ⟨T, 2, none⟩ = some (.int .u64 0) := by simp [World.cell?, d0]
                have HDEC := Lib.hid (show DecAt wy D _ by unfold DecAt; rw [oth D (Nat.ne_of_lt HDT.out)]; exact HD9.out)
                have HBY := Lib.hid (show BB D wz wy by rw [hwy]; exact (((BD9.out.setNew HTN.out 0 _).setNew HTN.out 1 _).setNew HTN.out 2 _))
                refine bodyPost_ret (v := .tuple #[.agg #[.pointer none, .string ⟨#[]⟩, .int .u64 0], .iface 67 (.pointer (some ⟨g9, 0, none⟩))]) (by simp [results, Tryz.results72, go_sem, y0, y1, y2]) rfl ?_
                exact ⟨_, _, rfl, HBY.out, ⟨_, HDEC.out⟩, ⟨_, _, rfl⟩, .inr ⟨by rw [HN0.out]; exact hlt0, .inr ⟨g9, rfl⟩⟩⟩
              · have C91 := f91w D B c (q4) t s loose dup 1 (.iface 153 (.pointer (some ⟨gg, 0, none⟩))) w4 G HI4.out HT.out hq4 (.inr ⟨gg, rfl⟩)
                have H91 := Lib.hid C91
                clear C91
                go_wp2_with (fail)
                refine H91.out.mono ?_
                rintro e w9 ⟨g9, rfl, hb9⟩
                have HT9 := Lib.hid (Below.blk hb9 HT4.out)
                have HD9 := Lib.hid (HI4.out.dec.mono hb9)
                have BD9 := Lib.hid (BD4.out.next hb9)
                clear hb9
                have t0 := (blk_cell HT9.out 0).trans (show _ = some (.pointer none) from rfl)
                have t1 := (blk_cell HT9.out 1).trans (show _ = some (.string ⟨#[]⟩) from rfl)
                have t2 := (blk_cell HT9.out 2).trans (show _ = some (.int .u64 0) from rfl)
                have z0 := blk_frozen HT9.out 0
                have z1 := blk_frozen HT9.out 1
                have z2 := blk_frozen HT9.out 2
                go_wp2_with (fail)
                clear t0 t1 t2 z0 z1 z2
                obtain ⟨wy, hwy, d0, oth, zy⟩ := slot3 w9 T 83 _ _ _ (.pointer none) (.string ⟨#[]⟩) (.int .u64 0) HT9.out
                rw [← hwy]
                have y0 : wy.cell? ⟨T, 0, none⟩ = some (.pointer none) := by simp [World.cell?, d0]
                have y1 : wy.cell? ⟨T, 1, none⟩ = some (.string ⟨#[]⟩) := by simp [World.cell?, d0]
                have y2 : wy.cell? ⟨T, 2, none⟩ = some (.int .u64 0) := by simp [World.cell?, d0]
                have HDEC := Lib.hid (show DecAt wy D _ by unfold DecAt; rw [oth D (Nat.ne_of_lt HDT.out)]; exact HD9.out)
                have HBY := Lib.hid (show BB D wz wy by rw [hwy]; exact (((BD9.out.setNew HTN.out 0 _).setNew HTN.out 1 _).setNew HTN.out 2 _))
                refine bodyPost_ret (v := .tuple #[.agg #[.pointer none, .string ⟨#[]⟩, .int .u64 0], .iface 67 (.pointer (some ⟨g9, 0, none⟩))]) (by simp [results, Tryz.results72, go_sem, y0, y1, y2]) rfl ?_
                exact ⟨_, _, rfl, HBY.out, ⟨_, HDEC.out⟩, ⟨_, _, rfl⟩, .inr ⟨by rw [HN0.out]; exact hlt0, .inr ⟨g9, rfl⟩⟩⟩
        by_cases k116 : cn = 116
        · subst k116
          obtain rfl : (116 : Nat) = kn := HKN.out
          as_aux_lemma =>
            by_cases hpre : pre [116, 114, 117, 101] (t.drop (q + n0))
            · have hk : q + n0 + 4 ≤ t.length := by
                have := congrArg List.length hpre
                rw [List.length_take, List.length_drop] at this
                simp at this
                omega
              have C1 := f117y B (q + n0) (c - (q + n0)) (t.drop (q + n0)) w3 (HI3.out.rb.sub (q + n0) (q + n0) (fun _ => by omega)) (HI3.out.bs.drop _) (by rw [List.length_drop]; omega) (by rw [List.length_drop]; omega) hpre
              rw [List.length_drop] at C1
              have H1 := Lib.hid C1
              have C96 := Lib.hid (f96 D s w3 HI3.out.dec HT.out.last)
              clear C1 hpre
              go_wp2_with (fail)
              refine H1.out.mono ?_
              rintro e w4 ⟨rfl, rfl⟩
              go_wp2_with (fail)
              refine C96.out.mono ?_
              rintro e w4 ⟨rfl, hb4, hd4⟩
              have HB4 := Lib.hid hb4
              have HD4 := Lib.hid hd4
              clear hb4 hd4 g0 g1 g7 g10
              have m8 : w4.cell? ⟨D, 8, none⟩ = some (.int .i64 _) := HD4.out.cell 8 _ rfl
              have m9 : w4.cell? ⟨D, 9, none⟩ = some (.int .i64 _) := HD4.out.cell 9 _ rfl
              have z8 := HD4.out.fz 8
              have z9 := HD4.out.fz 9
              go_wp2_with (fail)
              refine (f118 _).mono ?_
              rintro e w8 ⟨g8, o8, n8, rfl, hb8⟩
              clear m8 m9 z8 z9
              have HBB8 := Lib.hid (BB.next2 HB4.out hb8)
              obtain ⟨s8, hd8⟩ := DecAt.next2 HD4.out hb8 (by first | exact .inl ⟨rfl, rfl⟩ | exact .inr ⟨rfl, rfl⟩)
              have HD8 := Lib.hid hd8
              clear hd8
              have HT8 := Lib.hid (BB.blk HBB8.out HT3.out (Nat.ne_of_gt HDT.out))
              have BD8 := Lib.hid (BD3.out.trans HBB8.out)
              clear hb8
              have t0 := (blk_cell HT8.out 0).trans (show _ = some (.pointer none) from rfl)
              have t1 := (blk_cell HT8.out 1).trans (show _ = some (.string ⟨#[]⟩) from rfl)
              have t2 := (blk_cell HT8.out 2).trans (show _ = some (.int .u64 0) from rfl)
              have z0 := blk_frozen HT8.out 0
              have z1 := blk_frozen HT8.out 1
              have z2 := blk_frozen HT8.out 2
              go_wp2_with (fail)
              clear t0 t1 t2 z0 z1 z2
              obtain ⟨wy, hwy, d0, oth, zy⟩ := slot3 w8 T 83 _ _ _ (.pointer (some ⟨g8, o8, none⟩)) (.string ⟨#[]⟩) (.int .u64 n8) HT8.out
              rw [← hwy]
              have y0 : wy.cell? ⟨T, 0, none⟩ = some (.pointer (some ⟨g8, o8, none⟩)) := by simp [World.cell?, d0]
              have y1 : wy.cell? ⟨T, 1, none⟩ = some (.string ⟨#[]⟩) := by simp [World.cell?, d0]
              have y2 : wy.cell? ⟨T, 2, none⟩ = some (.int .u64 n8) := by simp [World.cell?, d0]
              have HDEC := Lib.hid (show DecAt wy D _ by unfold DecAt; rw [oth D (Nat.ne_of_lt HDT.out)]; exact HD8.out)
              have HBY := Lib.hid (show BB D wz wy by rw [hwy]; exact (((BD8.out.setNew HTN.out 0 _).setNew HTN.out 1 _).setNew HTN.out 2 _))
              refine bodyPost_ret (v := .tuple #[.agg #[.pointer (some ⟨g8, o8, none⟩), .string ⟨#[]⟩, .int .u64 n8], .nilIface]) (by simp [results, Tryz.results72, go_sem, y0, y1, y2]) rfl ?_
              exact ⟨_, _, rfl, HBY.out, ⟨_, HDEC.out⟩, ⟨_, _, rfl⟩, .inr ⟨by rw [HN0.out]; exact hlt0, .inl rfl⟩⟩
            · have C1 := f117n B (q + n0) (c - (q + n0)) (t.drop (q + n0)) w3 (HI3.out.rb.sub (q + n0) (q + n0) (fun _ => by omega)) (HI3.out.bs.drop _) (by rw [List.length_drop]; omega) (by rw [List.length_drop]; omega) hpre
              rw [List.length_drop] at C1
              have H1 := Lib.hid C1
              have C2 := f113 D B c (q + n0) t s loose dup ⟨#[116, 114, 117, 101]⟩ w3 G HI3.out hlt0 (by decide) hpre
              rw [Int.natCast_add] at C2
              have H2 := Lib.hid C2
              clear C1 C2 hpre
              go_wp2_with (fail)
              refine H1.out.mono ?_
              rintro e w4 ⟨rfl, rfl⟩
              go_wp2_with (fail)
              refine H2.out.mono ?_
              rintro e w4 ⟨q4, x, rfl, hq4, hx, hb4⟩
              have HI4 := Lib.hid (HI3.out.mono hb4)
              have HT4 := Lib.hid (Below.blk hb4 HT3.out)
              have BD4 := Lib.hid (BD3.out.next hb4)
              clear hb4 g0 g1 g7 g10
              rcases hx with rfl | ⟨gg, rfl⟩
              · have C91 := f91w D B c (q4) t s loose dup 1 (.iface 265 (.pointer (some G.ueof))) w4 G HI4.out HT.out hq4 (.inl ⟨_, rfl, .inl rfl⟩)
                have H91 := Lib.hid C91
                clear C91
                go_wp2_with (fail)
                refine H91.out.mono ?_
                rintro e w9 ⟨g9, rfl, hb9⟩
                have HT9 := Lib.hid (Below.blk hb9 HT4.out)
                have HD9 := Lib.hid (HI4.out.dec.mono hb9)
                have BD9 := Lib.hid (BD4.out.next hb9)
                clear hb9
                have t0 := (blk_cell HT9.out 0).trans (show _ = some (.pointer none) from rfl)
                have t1 := (blk_cell HT9.out 1).trans (show _ = some (.string ⟨#[]⟩) from rfl)
                have t2 := (blk_cell HT9.out 2).trans (show _ = some (.int .u64 0) from rfl)
                have z0 := blk_frozen HT9.out 0
                have z1 := blk_frozen HT9.out 1
                have z2 := blk_frozen HT9.out 2
                go_wp2_with (fail)
                clear t0 t1 t2 z0 z1 z2
                obtain ⟨wy, hwy, d0, oth, zy⟩ := slot3 w9 T 83 _ _ _ (.pointer none) (.string ⟨#[]⟩) (.int .u64 0) HT9.out
                rw [← hwy]
                have y0 : wy.cell? ⟨T, 0, none⟩ = some (.pointer none) := by simp [World.cell?, d0]
                have y1 : wy.cell? ⟨T, 1, none⟩ = some (.string ⟨#[]⟩) := by simp [World.cell?, d0]
                have y2 : wy.cell? ⟨T, 2, none⟩ = some (.int .u64 0) := by simp [World.cell?, d0]
                have HDEC := Lib.hid (show DecAt wy D _ by unfold DecAt; rw [oth D (Nat.ne_of_lt HDT.out)]; exact HD9.out)
                have HBY := Lib.hid (show BB D wz wy by rw [hwy]; exact (((BD9.out.setNew HTN.out 0 _).setNew HTN.out 1 _).setNew HTN.out 2 _))
                refine bodyPost_ret (v := .tuple #[.agg #[.pointer none, .string ⟨#[]⟩, .int .u64 0], .iface 67 (.pointer (some ⟨g9, 0, none⟩))]) (by simp [results, Tryz.results72, go_sem, y0, y1, y2]) rfl ?_
                exact ⟨_, _, rfl, HBY.out, ⟨_, HDEC.out⟩, ⟨_, _, rfl⟩, .inr ⟨by rw [HN0.out]; exact hlt0, .inr ⟨g9, rfl⟩⟩⟩
              · have C91 := f91w D B c (q4) t s loose dup 1 (.iface 153 (.pointer (some ⟨gg, 0, none⟩))) w4 G HI4.out HT.out hq4 (.inr ⟨gg, rfl⟩)
                have H91 := Lib.hid C91
                clear C91
                go_wp2_with (fail)
                refine H91.out.mono ?_
                rintro e w9 ⟨g9, rfl, hb9⟩
                have HT9 := Lib.hid (Below.blk hb9 HT4.out)
                have HD9 := Lib.hid (HI4.out.dec.mono hb9)
                have BD9 := Lib.hid (BD4.out.next hb9)
                clear hb9
                have t0 := (blk_cell HT9.out 0).trans (show _ = some (.pointer none) from rfl)
                have t1 := (blk_cell HT9.out 1).trans (show _ = some (.string ⟨#[]⟩) from rfl)
                have t2 := (blk_cell HT9.out 2).trans (show _ = some (.int .u64 0) from rfl)
                have z0 := blk_frozen HT9.out 0
                have z1 := blk_frozen HT9.out 1
                have z2 := blk_frozen HT9.out 2
                go_wp2_with (fail)
                clear t0 t1 t2 z0 z1 z2
                obtain ⟨wy, hwy, d0, oth, zy⟩ := slot3 w9 T 83 _ _ _ (.pointer none) (.string ⟨#[]⟩) (.int .u64 0) HT9.out
                rw [← hwy]
                have y0 : wy.cell? ⟨T, 0, none⟩ = some (.pointer none) := by simp [World.cell?, d0]
                have y1 : wy.cell? ⟨T, 1, none⟩ = some (.string ⟨#[]⟩) := by simp [World.cell?, d0]
                have y2 : wy.cell? ⟨T, 2, none⟩ = some (.int .u64 0) := by simp [World.cell?, d0]
                have HDEC := Lib.hid (show DecAt wy D _ by unfold DecAt; rw [oth D (Nat.ne_of_lt HDT.out)]; exact HD9.out)
                have HBY := Lib.hid (show BB D wz wy by rw [hwy]; exact (((BD9.out.setNew HTN.out 0 _).setNew HTN.out 1 _).setNew HTN.out 2 _))
                refine bodyPost_ret (v := .tuple #[.agg #[.pointer none, .string ⟨#[]⟩, .int .u64 0], .iface 67 (.pointer (some ⟨g9, 0, none⟩))]) (by simp [results, Tryz.results72, go_sem, y0, y1, y2]) rfl ?_
                exact ⟨_, _, rfl, HBY.out, ⟨_, HDEC.out⟩, ⟨_, _, rfl⟩, .inr ⟨by rw [HN0.out]; exact hlt0, .inr ⟨g9, rfl⟩⟩⟩
        by_cases k34 : cn = 34
        · have h9 := HSEL.out hlt0
          rw [HCN.out] at h9
          exfalso
          omega
        by_cases kd : cn = 45 ∨ (48 ≤ cn ∧ cn ≤ 57)
        · have h9 := HSEL.out hlt0
          rw [HCN.out] at h9
          exfalso
          omega
        by_cases k123 : cn = 123
        · subst k123
          obtain rfl : (123 : Nat) = kn := HKN.out
          have C108 := Lib.hid (f108 D s w3 HI3.out.dec HT.out.last hsk)
          have HOF := Lib.hid hof
          have HNS := Lib.hid hns
          as_aux_lemma =>
            go_wp2_with (fail)
            refine C108.out.mono ?_
            rintro e w4 ⟨rfl, hb4, v4, x4, hd4⟩
            have HB4 := Lib.hid hb4
            have HD4 := Lib.hid hd4
            have C124 := Lib.hid (f124 D _ w4 hd4 HOF.out)
            clear hb4 hd4 g0 g1 g7 g10
            go_wp2_with (fail)
            refine C124.out.mono ?_
            rintro e w5 ⟨rfl, hb5, v5, hd5⟩
            have HB5 := Lib.hid (HB4.out.trans hb5)
            have HD5 := Lib.hid hd5
            have e13 : w5.cell? ⟨D, 13, none⟩ = some (.int .u64 s.pres) := hd5.cell 13 _ rfl
            have e14 : w5.cell? ⟨D, 14, none⟩ = some (.int .u64 s.vals) := hd5.cell 14 _ rfl
            have C98 := Lib.hid (fun W => f98 s.pres s.vals 2 dup HI3.out.opt.dup W)
            clear hb5 hd5
            cases dup with
            | true =>
              as_aux_lemma =>
                go_wp2_with (fail)
                refine (C98.out _).mono ?_
                rintro e w6 ⟨rfl, hb6⟩
                have HB6 := Lib.hid (HB5.out.next hb6)
                have HD6 := Lib.hid (HD5.out.mono hb6)
                have C126 := Lib.hid (f126 D _ 402653184 w6 HD6.out)
                clear hb6 e13 e14
                go_wp2_with (fail)
                refine C126.out.mono ?_
                rintro e w7 ⟨rfl, hb7, a7, b7, hd7⟩
                have HB7 := Lib.hid (HB6.out.trans hb7)
                have HD7 := Lib.hid hd7
                clear hb7 hd7
                have m8 : w7.cell? ⟨D, 8, none⟩ = some (.int .i64 _) := HD7.out.cell 8 _ rfl
                have m9 : w7.cell? ⟨D, 9, none⟩ = some (.int .i64 _) := HD7.out.cell 9 _ rfl
                have z8 := HD7.out.fz 8
                have z9 := HD7.out.fz 9
                go_wp2_with (fail)
                refine (f127 _).mono ?_
                rintro e w8 ⟨g8, o8, n8, rfl, hb8⟩
                clear m8 m9 z8 z9
                have HBB8 := Lib.hid (BB.next2 HB7.out hb8)
                obtain ⟨s8, hd8⟩ := DecAt.next2 HD7.out hb8 (by first | exact .inl ⟨rfl, rfl⟩ | exact .inr ⟨rfl, rfl⟩)
                have HD8 := Lib.hid hd8
                clear hd8
                have HT8 := Lib.hid (BB.blk HBB8.out HT3.out (Nat.ne_of_gt HDT.out))
                have BD8 := Lib.hid (BD3.out.trans HBB8.out)
                clear hb8
                have t0 := (blk_cell HT8.out 0).trans (show _ = some (.pointer none) from rfl)
                have t1 := (blk_cell HT8.out 1).trans (show _ = some (.string ⟨#[]⟩) from rfl)
                have t2 := (blk_cell HT8.out 2).trans (show _ = some (.int .u64 0) from rfl)
                have z0 := blk_frozen HT8.out 0
                have z1 := blk_frozen HT8.out 1
                have z2 := blk_frozen HT8.out 2
                go_wp2_with (fail)
                clear t0 t1 t2 z0 z1 z2
                obtain ⟨wy, hwy, d0, oth, zy⟩ := slot3 w8 T 83 _ _ _ (.pointer (some ⟨g8, o8, none⟩)) (.string ⟨#[]⟩) (.int .u64 n8) HT8.out
                rw [← hwy]
                have y0 : wy.cell? ⟨T, 0, none⟩ = some (.pointer (some ⟨g8, o8, none⟩)) := by simp [World.cell?, d0]
                have y1 : wy.cell? ⟨T, 1, none⟩ = some (.string ⟨#[]⟩) := by simp [World.cell?, d0]
                have y2 : wy.cell? ⟨T, 2, none⟩ = some (.int .u64 n8) := by simp [World.cell?, d0]
                have HDEC := Lib.hid (show DecAt wy D _ by unfold DecAt; rw [oth D (Nat.ne_of_lt HDT.out)]; exact HD8.out)
                have HBY := Lib.hid (show BB D wz wy by rw [hwy]; exact (((BD8.out.setNew HTN.out 0 _).setNew HTN.out 1 _).setNew HTN.out 2 _))
                refine bodyPost_ret (v := .tuple #[.agg #[.pointer (some ⟨g8, o8, none⟩), .string ⟨#[]⟩, .int .u64 n8], .nilIface]) (by simp [results, Tryz.results72, go_sem, y0, y1, y2]) rfl ?_
                exact ⟨_, _, rfl, HBY.out, ⟨_, HDEC.out⟩, ⟨_, _, rfl⟩, .inr ⟨by rw [HN0.out]; exact hlt0, .inl rfl⟩⟩
            | false =>
              as_aux_lemma =>
                go_wp2_with (fail)
                refine (C98.out _).mono ?_
                rintro e w6 ⟨rfl, hb6⟩
                have HB6 := Lib.hid (HB5.out.next hb6)
                have HD6 := Lib.hid (HD5.out.mono hb6)
                have C125 := Lib.hid (f125 D _ w6 HD6.out HNS.out)
                clear hb6 e13 e14
                go_wp2_with (fail)
                refine C125.out.mono ?_
                rintro e w6b ⟨rfl, hb7, v7, hd7⟩
                have HB6b := Lib.hid (HB6.out.trans hb7)
                have C126 := Lib.hid (f126 D _ 402653184 w6b hd7)
                clear hb7 hd7
                go_wp2_with (fail)
                refine C126.out.mono ?_
                rintro e w7 ⟨rfl, hb7, a7, b7, hd7⟩
                have HB7 := Lib.hid (HB6b.out.trans hb7)
                have HD7 := Lib.hid hd7
                clear hb7 hd7
                have m8 : w7.cell? ⟨D, 8, none⟩ = some (.int .i64 _) := HD7.out.cell 8 _ rfl
                have m9 : w7.cell? ⟨D, 9, none⟩ = some (.int .i64 _) := HD7.out.cell 9 _ rfl
                have z8 := HD7.out.fz 8
                have z9 := HD7.out.fz 9
                go_wp2_with (fail)
                refine (f127 _).mono ?_
                rintro e w8 ⟨g8, o8, n8, rfl, hb8⟩
                clear m8 m9 z8 z9
                have HBB8 := Lib.hid (BB.next2 HB7.out hb8)
                obtain ⟨s8, hd8⟩ := DecAt.next2 HD7.out hb8 (by first | exact .inl ⟨rfl, rfl⟩ | exact .inr ⟨rfl, rfl⟩)
                have HD8 := Lib.hid hd8
                clear hd8
                have HT8 := Lib.hid (BB.blk HBB8.out HT3.out (Nat.ne_of_gt HDT.out))
                have BD8 := Lib.hid (BD3.out.trans HBB8.out)
                clear hb8
                have t0 := (blk_cell HT8.out 0).trans (show _ = some (.pointer none) from rfl)
                have t1 := (blk_cell HT8.out 1).trans (show _ = some (.string ⟨#[]⟩) from rfl)
                have t2 := (blk_cell HT8.out 2).trans (show _ = some (.int .u64 0) from rfl)
                have z0 := blk_frozen HT8.out 0
                have z1 := blk_frozen HT8.out 1
                have z2 := blk_frozen HT8.out 2
                go_wp2_with (fail)
                clear t0 t1 t2 z0 z1 z2
                obtain ⟨wy, hwy, d0, oth, zy⟩ := slot3 w8 T 83 _ _ _ (.pointer (some ⟨g8, o8, none⟩)) (.string ⟨#[]⟩) (.int .u64 n8) HT8.out
                rw [← hwy]
                have y0 : wy.cell? ⟨T, 0, none⟩ = some (.pointer (some ⟨g8, o8, none⟩)) := by simp [World.cell?, d0]
                have y1 : wy.cell? ⟨T, 1, none⟩ = some (.string ⟨#[]⟩) := by simp [World.cell?, d0]
                have y2 : wy.cell? ⟨T, 2, none⟩ = some (.int .u64 n8) := by simp [World.cell?, d0]
                have HDEC := Lib.hid (show DecAt wy D _ by unfold DecAt; rw [oth D (Nat.ne_of_lt HDT.out)]; exact HD8.out)
                have HBY := Lib.hid (show BB D wz wy by rw [hwy]; exact (((BD8.out.setNew HTN.out 0 _).setNew HTN.out 1 _).setNew HTN.out 2 _))
                refine bodyPost_ret (v := .tuple #[.agg #[.pointer (some ⟨g8, o8, none⟩), .string ⟨#[]⟩, .int .u64 n8], .nilIface]) (by simp [results, Tryz.results72, go_sem, y0, y1, y2]) rfl ?_
                exact ⟨_, _, rfl, HBY.out, ⟨_, HDEC.out⟩, ⟨_, _, rfl⟩, .inr ⟨by rw [HN0.out]; exact hlt0, .inl rfl⟩⟩
        by_cases k91 : cn = 91
        · subst k91
          obtain rfl : (91 : Nat) = kn := HKN.out
          have C110 := Lib.hid (f110 D s w3 HI3.out.dec HT.out.last hsk)
          as_aux_lemma =>
            go_wp2_with (fail)
            refine C110.out.mono ?_
            rintro e w4 ⟨rfl, hb4, v4, x4, hd4⟩
            have HB4 := Lib.hid hb4
            have HD4 := Lib.hid hd4
            have C126 := Lib.hid (f126 D _ 402653184 w4 hd4)
            clear hb4 hd4 g0 g1 g7 g10
            go_wp2_with (fail)
            refine C126.out.mono ?_
            rintro e w5 ⟨rfl, hb5, a5, b5, hd5⟩
            have HB5 := Lib.hid (HB4.out.trans hb5)
            have HD5 := Lib.hid hd5
            clear hb5 hd5
            have m8 : w5.cell? ⟨D, 8, none⟩ = some (.int .i64 _) := HD5.out.cell 8 _ rfl
            have m9 : w5.cell? ⟨D, 9, none⟩ = some (.int .i64 _) := HD5.out.cell 9 _ rfl
            have z8 := HD5.out.fz 8
            have z9 := HD5.out.fz 9
            go_wp2_with (fail)
            refine (f131 _).mono ?_
            rintro e w8 ⟨g8, o8, n8, rfl, hb8⟩
            clear m8 m9 z8 z9
            have HBB8 := Lib.hid (BB.next2 HB5.out hb8)
            obtain ⟨s8, hd8⟩ := DecAt.next2 HD5.out hb8 (by first | exact .inl ⟨rfl, rfl⟩ | exact .inr ⟨rfl, rfl⟩)
            have HD8 := Lib.hid hd8
            clear hd8
            have HT8 := Lib.hid (BB.blk HBB8.out HT3.out (Nat.ne_of_gt HDT.out))
            have BD8 := Lib.hid (BD3.out.trans HBB8.out)
            clear hb8
            have t0 := (blk_cell HT8.out 0).trans (show _ = some (.pointer none) from rfl)
            have t1 := (blk_cell HT8.out 1).trans (show _ = some (.string ⟨#[]⟩) from rfl)
            have t2 := (blk_cell HT8.out 2).trans (show _ = some (.int .u64 0) from rfl)
            have z0 := blk_frozen HT8.out 0
            have z1 := blk_frozen HT8.out 1
            have z2 := blk_frozen HT8.out 2
            go_wp2_with (fail)
            clear t0 t1 t2 z0 z1 z2
            obtain ⟨wy, hwy, d0, oth, zy⟩ := slot3 w8 T 83 _ _ _ (.pointer (some ⟨g8, o8, none⟩)) (.string ⟨#[]⟩) (.int .u64 n8) HT8.out
            rw [← hwy]
            have y0 : wy.cell? ⟨T, 0, none⟩ = some (.pointer (some ⟨g8, o8, none⟩)) := by simp [World.cell?, d0]
            have y1 : wy.cell? ⟨T, 1, none⟩ = some (.string ⟨#[]⟩) := by simp [World.cell?, d0]
            have y2 : wy.cell? ⟨T, 2, none⟩ = some (.int .u64 n8) := by simp [World.cell?, d0]
            have HDEC := Lib.hid (show DecAt wy D _ by unfold DecAt; rw [oth D (Nat.ne_of_lt HDT.out)]; exact HD8.out)
            have HBY := Lib.hid (show BB D wz wy by rw [hwy]; exact (((BD8.out.setNew HTN.out 0 _).setNew HTN.out 1 _).setNew HTN.out 2 _))
            refine bodyPost_ret (v := .tuple #[.agg #[.pointer (some ⟨g8, o8, none⟩), .string ⟨#[]⟩, .int .u64 n8], .nilIface]) (by simp [results, Tryz.results72, go_sem, y0, y1, y2]) rfl ?_
            exact ⟨_, _, rfl, HBY.out, ⟨_, HDEC.out⟩, ⟨_, _, rfl⟩, .inr ⟨by rw [HN0.out]; exact hlt0, .inl rfl⟩⟩
        have hk0 := normK_oth cn k34 kd k91 k102 k110 k116 k123
        rw [HKN.out] at hk0
        by_cases k125 : kn = 125
        · obtain rfl : (125 : Nat) = kn := k125.symm
          have C := Lib.hid (f109 D s G w3 HI3.out.env HI3.out.dec HT.out.last)
          as_aux_lemma =>
            go_wp2_with (fail)
            refine C.out.mono ?_
            rintro e w4 ⟨rfl, m4, rfl⟩
            have HB4 := Lib.hid (show Below w3.heap.size w3 (w3.drewN m4) from pw_below_drewN (Below.refl _ _) _)
            have HI4 := Lib.hid (HI3.out.mono HB4.out)
            have HT4 := Lib.hid (Below.blk HB4.out HT3.out)
            have BD4 := Lib.hid (BD3.out.next HB4.out)
            clear g0 g1 g7 g10
            obtain ⟨w5, hw5⟩ : ∃ x, x = w3.drewN m4 := ⟨_, rfl⟩
            rw [← hw5] at HI4 HT4 BD4 ⊢
            clear hw5
            have C91 := f91w D B c (q + n0) t s loose dup 1 (.iface 265 (.pointer (some G.mism))) w5 G HI4.out HT.out hln0 (.inl ⟨_, rfl, .inr (.inr (.inr (.inr (.inl rfl))))⟩)
            rw [Int.natCast_add] at C91
            have H91 := Lib.hid C91
            clear C91
            go_wp2_with (fail)
            refine H91.out.mono ?_
            rintro e w9 ⟨g9, rfl, hb9⟩
            have HT9 := Lib.hid (Below.blk hb9 HT4.out)
            have HD9 := Lib.hid (HI4.out.dec.mono hb9)
            have BD9 := Lib.hid (BD4.out.next hb9)
            clear hb9
            have t0 := (blk_cell HT9.out 0).trans (show _ = some (.pointer none) from rfl)
            have t1 := (blk_cell HT9.out 1).trans (show _ = some (.string ⟨#[]⟩) from rfl)
            have t2 := (blk_cell HT9.out 2).trans (show _ = some (.int .u64 0) from rfl)
            have z0 := blk_frozen HT9.out 0
            have z1 := blk_frozen HT9.out 1
            have z2 := blk_frozen HT9.out 2
            go_wp2_with (fail)
            clear t0 t1 t2 z0 z1 z2
            obtain ⟨wy, hwy, d0, oth, zy⟩ := slot3 w9 T 83 _ _ _ (.pointer none) (.string ⟨#[]⟩) (.int .u64 0) HT9.out
            rw [← hwy]
            have y0 : wy.cell? ⟨T, 0, none⟩ = some (.pointer none) := by simp [World.cell?, d0]
            have y1 : wy.cell? ⟨T, 1, none⟩ = some (.string ⟨#[]⟩) := by simp [World.cell?, d0]
            have y2 : wy.cell? ⟨T, 2, none⟩ = some (.int .u64 0) := by simp [World.cell?, d0]
            have HDEC := Lib.hid (show DecAt wy D _ by unfold DecAt; rw [oth D (Nat.ne_of_lt HDT.out)]; exact HD9.out)
            have HBY := Lib.hid (show BB D wz wy by rw [hwy]; exact (((BD9.out.setNew HTN.out 0 _).setNew HTN.out 1 _).setNew HTN.out 2 _))
            refine bodyPost_ret (v := .tuple #[.agg #[.pointer none, .string ⟨#[]⟩, .int .u64 0], .iface 67 (.pointer (some ⟨g9, 0, none⟩))]) (by simp [results, Tryz.results72, go_sem, y0, y1, y2]) rfl ?_
            exact ⟨_, _, rfl, HBY.out, ⟨_, HDEC.out⟩, ⟨_, _, rfl⟩, .inr ⟨by rw [HN0.out]; exact hlt0, .inr ⟨g9, rfl⟩⟩⟩
        by_cases k93 : kn = 93
        · obtain rfl : (93 : Nat) = kn := k93.symm
          have C := Lib.hid (f111 D s G w3 HI3.out.env HI3.out.dec HT.out)
          as_aux_lemma =>
            go_wp2_with (fail)
            refine C.out.mono ?_
            rintro e w4 ⟨rfl, m4, rfl⟩
            have HB4 := Lib.hid (show Below w3.heap.size w3 (w3.drewN m4) from pw_below_drewN (Below.refl _ _) _)
            have HI4 := Lib.hid (HI3.out.mono HB4.out)
            have HT4 := Lib.hid (Below.blk HB4.out HT3.out)
            have BD4 := Lib.hid (BD3.out.next HB4.out)
            clear g0 g1 g7 g10
            obtain ⟨w5, hw5⟩ : ∃ x, x = w3.drewN m4 := ⟨_, rfl⟩
            rw [← hw5] at HI4 HT4 BD4 ⊢
            clear hw5
            have C91 := f91w D B c (q + n0) t s loose dup 1 (.iface 265 (.pointer (some G.mism))) w5 G HI4.out HT.out hln0 (.inl ⟨_, rfl, .inr (.inr (.inr (.inr (.inl rfl))))⟩)
            rw [Int.natCast_add] at C91
            have H91 := Lib.hid C91
            clear C91
            go_wp2_with (fail)
            refine H91.out.mono ?_
            rintro e w9 ⟨g9, rfl, hb9⟩
            have HT9 := Lib.hid (Below.blk hb9 HT4.out)
            have HD9 := Lib.hid (HI4.out.dec.mono hb9)
            have BD9 := Lib.hid (BD4.out.next hb9)
            clear hb9
            have t0 := (blk_cell HT9.out 0).trans (show _ = some (.pointer none) from rfl)
            have t1 := (blk_cell HT9.out 1).trans (show _ = some (.string ⟨#[]⟩) from rfl)
            have t2 := (blk_cell HT9.out 2).trans (show _ = some (.int .u64 0) from rfl)
            have z0 := blk_frozen HT9.out 0
            have z1 := blk_frozen HT9.out 1
            have z2 := blk_frozen HT9.out 2
            go_wp2_with (fail)
            clear t0 t1 t2 z0 z1 z2
            obtain ⟨wy, hwy, d0, oth, zy⟩ := slot3 w9 T 83 _ _ _ (.pointer none) (.string ⟨#[]⟩) (.int .u64 0) HT9.out
            rw [← hwy]
            have y0 : wy.cell? ⟨T, 0, none⟩ = some (.pointer none) := by simp [World.cell?, d0]
            have y1 : wy.cell? ⟨T, 1, none⟩ = some (.string ⟨#[]⟩) := by simp [World.cell?, d0]
            have y2 : wy.cell? ⟨T, 2, none⟩ = some (.int .u64 0) := by simp [World.cell?, d0]
            have HDEC := Lib.hid (show DecAt wy D _ by unfold DecAt; rw [oth D (Nat.ne_of_lt HDT.out)]; exact HD9.out)
            have HBY := Lib.hid (show BB D wz wy by rw [hwy]; exact (((BD9.out.setNew HTN.out 0 _).setNew HTN.out 1 _).setNew HTN.out 2 _))
            refine bodyPost_ret (v := .tuple #[.agg #[.pointer none, .string ⟨#[]⟩, .int .u64 0], .iface 67 (.pointer (some ⟨g9, 0, none⟩))]) (by simp [results, Tryz.results72, go_sem, y0, y1, y2]) rfl ?_
            exact ⟨_, _, rfl, HBY.out, ⟨_, HDEC.out⟩, ⟨_, _, rfl⟩, .inr ⟨by rw [HN0.out]; exact hlt0, .inr ⟨g9, rfl⟩⟩⟩
        have x1 : ((kn : Int) == 110) = false := by rw [beq_eq_false_iff_ne]; omega
        have x2 : ((kn : Int) == 102) = false := by rw [beq_eq_false_iff_ne]; omega
        have x3 : ((kn : Int) == 116) = false := by rw [beq_eq_false_iff_ne]; omega
        have x4 : ((kn : Int) == 34) = false := by rw [beq_eq_false_iff_ne]; omega
        have x5 : ((kn : Int) == 48) = false := by rw [beq_eq_false_iff_ne]; omega
        have x6 : ((kn : Int) == 123) = false := by rw [beq_eq_false_iff_ne]; omega
        have x7 : ((kn : Int) == 91) = false := by rw [beq_eq_false_iff_ne]; omega
        have x8 : ((kn : Int) == 125) = false := by rw [beq_eq_false_iff_ne]; omega
        have x9 : ((kn : Int) == 93) = false := by rw [beq_eq_false_iff_ne]; omega
        have C60 := fun s' => f60 B (q + n0) (c - (q + n0)) (t.drop (q + n0)) s' w3 G HI3.out.env (HI3.out.rb.sub (q + n0) (q + n0) (fun _ => by omega)) (by rw [List.length_drop]; omega) (by rw [List.length_drop]; omega) (HI3.out.bs.drop _) (by rw [List.length_drop]; omega) (by omega)
        rw [List.length_drop] at C60
        have H60 := Lib.hid C60
        clear C60 hk0 k110 k102 k116 k34 kd k123 k91 k93 k125 x58 x44
        as_aux_lemma =>
          go_wp2_with (fail)
          refine (H60.out _).mono ?_
          rintro e w4 ⟨gg, rfl, hb4⟩
          have HI4 := Lib.hid (HI3.out.mono hb4)
          have HT4 := Lib.hid (Below.blk hb4 HT3.out)
          have BD4 := Lib.hid (BD3.out.next hb4)
          clear hb4 g0 g1 g7 g10
          have C91 := f91w D B c (q + n0) t s loose dup 1 (.iface 153 (.pointer (some ⟨gg, 0, none⟩))) w4 G HI4.out HT.out hln0 (.inr ⟨gg, rfl⟩)
          rw [Int.natCast_add] at C91
          have H91 := Lib.hid C91
          clear C91
          go_wp2_with (fail)
          refine H91.out.mono ?_
          rintro e w9 ⟨g9, rfl, hb9⟩
          have HT9 := Lib.hid (Below.blk hb9 HT4.out)
          have HD9 := Lib.hid (HI4.out.dec.mono hb9)
          have BD9 := Lib.hid (BD4.out.next hb9)
          clear hb9
          have t0 := (blk_cell HT9.out 0).trans (show _ = some (.pointer none) from rfl)
          have t1 := (blk_cell HT9.out 1).trans (show _ = some (.string ⟨#[]⟩) from rfl)
          have t2 := (blk_cell HT9.out 2).trans (show _ = some (.int .u64 0) from rfl)
          have z0 := blk_frozen HT9.out 0
          have z1 := blk_frozen HT9.out 1
          have z2 := blk_frozen HT9.out 2
          go_wp2_with (fail)
          clear t0 t1 t2 z0 z1 z2
          obtain ⟨wy, hwy, d0, oth, zy⟩ := slot3 w9 T 83 _ _ _ (.pointer none) (.string ⟨#[]⟩) (.int .u64 0) HT9.out
          rw [← hwy]
          have y0 : wy.cell? ⟨T, 0, none⟩ = some (.pointer none) := by simp [World.cell?, d0]
          have y1 : wy.cell? ⟨T, 1, none⟩ = some (.string ⟨#[]⟩) := by simp [World.cell?, d0]
          have y2 : wy.cell? ⟨T, 2, none⟩ = some (.int .u64 0) := by simp [World.cell?, d0]
          have HDEC := Lib.hid (show DecAt wy D _ by unfold DecAt; rw [oth D (Nat.ne_of_lt HDT.out)]; exact HD9.out)
          have HBY := Lib.hid (show BB D wz wy by rw [hwy]; exact (((BD9.out.setNew HTN.out 0 _).setNew HTN.out 1 _).setNew HTN.out 2 _))
          refine bodyPost_ret (v := .tuple #[.agg #[.pointer none, .string ⟨#[]⟩, .int .u64 0], .iface 67 (.pointer (some ⟨g9, 0, none⟩))]) (by simp [results, Tryz.results72, go_sem, y0, y1, y2]) rfl ?_
          exact ⟨_, _, rfl, HBY.out, ⟨_, HDEC.out⟩, ⟨_, _, rfl⟩, .inr ⟨by rw [HN0.out]; exact hlt0, .inr ⟨g9, rfl⟩⟩⟩
end Go.Proofs.YtjfbkgkpjkickaaGreatDoor.PAll
