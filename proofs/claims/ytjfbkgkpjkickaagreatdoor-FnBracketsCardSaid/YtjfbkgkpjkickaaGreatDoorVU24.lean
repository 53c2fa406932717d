/- The texts of a proof, its declarations alone: part 24. -/
import Derived.Test.YtjfbkgkpjkickaaGreatDoorVU18
import Derived.Test.YtjfbkgkpjkickaaGreatDoorVU21
set_option linter.unusedVariables false
set_option linter.unusedSimpArgs false
-- YtjfbkgkpjkickaaGreatDoorCdb
set_option linter.unusedVariables false
set_option linter.unusedSimpArgs false
namespace Go.Proofs.YtjfbkgkpjkickaaGreatDoor.PAll
open Go.RowKit Go.Proofs.YtjfbkgkpjkickaaGreatDoorW.PrintWords Go.Proofs.YtjfbkgkpjkickaaGreatDoorW.PrintLast Go.Proofs.YtjfbkgkpjkickaaGreatDoorW.PrintMore

set_option maxRecDepth 100000 in
set_option maxHeartbeats 400000000 in
theorem f72b (D B c q : Nat) (t : List Int) (s : DS) (loose dup : Bool) (wz : World) (G : GV) (hIz : Inv wz G D B c t s loose dup) (hT : Top s) (hpe : s.pe = (q : Int)) (hql : q ≤ t.length) (hns : s.nss = .slice none 0 0) (hof : s.offs = .slice none 0 0) (hsk : s.stack = .slice none 0 0) (hsel : q + wsN (t.drop q) < t.length → (rd t ((q + wsN (t.drop q) : Nat) : Int) = 45 ∨ (48 ≤ rd t ((q + wsN (t.drop q) : Nat) : Int) ∧ rd t ((q + wsN (t.drop q) : Nat) : Int) ≤ 57))) :
    Calls Tryz.prog 72 #[.pointer (some ⟨D, 0, none⟩)] wz (RT t q G D wz) := by
  obtain ⟨w, hw⟩ : ∃ x, x = wz.alloc (.cells #[.pointer none, .string ⟨#[]⟩, .int .u64 0] 83) := ⟨_, rfl⟩
  obtain ⟨T, hTT⟩ : ∃ x, x = wz.heap.size := ⟨_, rfl⟩
  have hbz : Below wz.heap.size wz w := by rw [hw]; exact below_alloc (Below.refl _ _) _
  have hI := hIz.mono hbz
  have htb : w.heap[T]? = some (.cells #[.pointer none, .string ⟨#[]⟩, .int .u64 0] 83 (0, 0)) := by rw [hw, hTT]; exact heap_alloc_new wz _
  have HTB := Lib.hid htb
  have HLT := Lib.hid (blk_lt htb)
  have HBZ := Lib.hid hbz
  have HIZ := Lib.hid hIz
  have HDT := Lib.hid (show D < T by rw [hTT]; exact hIz.ltD)
  have HTN := Lib.hid (show wz.heap.size ≤ T by rw [hTT]; exact Nat.le_refl _)
  have c5z : (wz.alloc (.cells #[.pointer none, .string ⟨#[]⟩, .int .u64 0] 83)).cell? ⟨D, 5, none⟩ = some (.int .i64 0) := by rw [← hw]; exact hI.c5
  clear htb hbz hIz
  obtain ⟨E, hE⟩ : ∃ E : List Int → Option Nat, ∀ l, rd l 0 = 58 ∨ rd l 0 = 44 → E l = none := ⟨fun _ => none, fun _ _ => rfl⟩
  have hl := hI.hl
  have hc := hI.hc
  have hc2 := hI.hc2
  obtain ⟨sA, sc, hst⟩ := hT.stack
  obtain ⟨n0, hn0⟩ : ∃ n0, wsN (t.drop q) = n0 := ⟨_, rfl⟩
  have hln0 : q + n0 ≤ t.length := by have := wsN_le (t.drop q); rw [List.length_drop] at this; omega
  have c5 := hI.c5
  have C86 := Lib.hid (f86 D s w hI.dec)
  have HI := Lib.hid hI
  have HT := Lib.hid hT
  have HN0 := Lib.hid hn0
  have HQ := Lib.hid hpe
  have HST := Lib.hid hst
  rw [hn0] at hsel
  have HSEL := Lib.hid hsel
  clear hsel
  clear hI hT hn0 hpe hst
  go_enter Tryz.func72, Tryz.ntmps72
  go_wp2_with (fail)
  rw [← hw, ← hTT]
  clear hw hTT c5z
  refine C86.out.mono ?_
  rintro e w1 ⟨rfl, hd1⟩
  have HB1 := Lib.hid hd1.below
  have HI1 := Lib.hid (HI.out.mono hd1.below)
  have c7 := HI1.out.c7
  have c9 := HI1.out.c9
  rw [HQ.out] at c9
  clear hd1 c5
  obtain ⟨off1, ho1, _, hsl1⟩ := sub22 B 0 q t.length c (by omega) hc
  have C87 := f87 (some ⟨B, off1, none⟩) (c - q) (t.drop q) w1 (HI1.out.rbT.C q (some ⟨B, off1, none⟩) (fun h => by rw [ho1 h, Nat.zero_add]) (by omega)) (by rw [List.length_drop]; omega) (by rw [List.length_drop]; omega)
  rw [List.length_drop, HN0.out] at C87
  have H87 := Lib.hid C87
  clear C87 ho1
  go_wp2_with (fail)
  refine H87.out.mono ?_
  rintro e w2 ⟨rfl, hd2⟩
  have HB2 := Lib.hid (HB1.out.trans (hd2.below.mono HB1.out.size))
  have HI2 := Lib.hid (HI1.out.mono hd2.below)
  have d7 := HI2.out.c7
  clear hd2 c7 c9 H87 hsl1
  have C88 := f88 D (q + n0) s (some ⟨B, 0, none⟩) t.length c w2 HI2.out.dec HI2.out.buf hl (by omega)
  rw [Int.natCast_add] at C88
  by_cases hend : q + n0 = t.length
  · rw [decide_eq_true hend] at C88
    have H88 := Lib.hid C88
    clear C88
    have C89 := f89 D B c t s G w2 HI2.out.env HI2.out.dec HI2.out.buf HI2.out.rbT hl hc
    rw [show ((t.length : Nat) : Int) = (q : Int) + (n0 : Int) by omega] at C89
    have H89 := Lib.hid C89
    clear C89
    have HEND := Lib.hid hend
    clear hend
    go_wp2_with (fail)
    refine H88.out.mono ?_
    rintro e w3 ⟨rfl, rfl⟩
    go_wp2_with (fail)
    refine H89.out.mono ?_
    rintro e w3 ⟨rfl, hd3⟩
    have HB3 := Lib.hid (HB2.out.trans (hd3.below.mono HB2.out.size))
    have HI3 := Lib.hid (HI2.out.mono hd3.below)
    clear hd3 d7
    have q1 := eqSent HI3.out.sent (a := G.ueof) (b := G.ueof) (.inr (.inl rfl)) (.inr (.inl rfl))
    rw [decide_eq_true rfl] at q1
    have hu := HI3.out.env.h1
    have h0 := HI3.out.env.h0
    have e0 := HI3.out.c0
    rw [HST.out] at e0
    have e1 := HI3.out.c1
    have C90 := Lib.hid (fun W => f90 sA sc s.last W)
    go_wp2_with (fail)
    refine (C90.out _).mono ?_
    rintro e w4 ⟨rfl, hb4⟩
    have HB4 := Lib.hid (HB3.out.trans (hb4.mono HB3.out.size))
    have HI4 := Lib.hid (HI3.out.mono hb4)
    have h04 := HI4.out.env.h0
    clear hb4 e0 e1 h0 hu q1
    have C91 := f91e D B c t s loose dup ((q : Int) + (n0 : Int)) 0 w4 G HI4.out
    have H91 := Lib.hid C91
    clear C91
    go_wp2_with (fail)
    refine H91.out.mono ?_
    rintro e w5 ⟨rfl, rfl⟩
    have tbW := (HB4.out.block T HLT.out).trans HTB.out
    have t0 := (blk_cell tbW 0).trans (show _ = some (.pointer none) from rfl)
    have t1 := (blk_cell tbW 1).trans (show _ = some (.string ⟨#[]⟩) from rfl)
    have t2 := (blk_cell tbW 2).trans (show _ = some (.int .u64 0) from rfl)
    have z0 := blk_frozen tbW 0
    have z1 := blk_frozen tbW 1
    have z2 := blk_frozen tbW 2
    have HTW := Lib.hid tbW
    clear tbW
    go_wp2_with (fail)
    clear t0 t1 t2 z0 z1 z2
    obtain ⟨wy, hwy, d0, oth, zy⟩ := slot3 w4 T 83 _ _ _ (.pointer none) (.string ⟨#[]⟩) (.int .u64 0) HTW.out
    rw [← hwy]
    have y0 : wy.cell? ⟨T, 0, none⟩ = some (.pointer none) := by simp [World.cell?, d0]
    have y1 : wy.cell? ⟨T, 1, none⟩ = some (.string ⟨#[]⟩) := by simp [World.cell?, d0]
    have y2 : wy.cell? ⟨T, 2, none⟩ = some (.int .u64 0) := by simp [World.cell?, d0]
    have HDEC := Lib.hid (show DecAt wy D s by unfold DecAt; rw [oth D (Nat.ne_of_lt HDT.out)]; exact HI4.out.dec)
    have HBY := Lib.hid (show BB D wz wy by rw [hwy]; exact (((((BB.of HBZ.out).next HB4.out).setNew HTN.out 0 _).setNew HTN.out 1 _).setNew HTN.out 2 _))
    refine bodyPost_ret (v := .tuple #[.agg #[.pointer none, .string ⟨#[]⟩, .int .u64 0], .iface 265 (.pointer (some G.eof))]) (by simp [results, Tryz.results72, go_sem, y0, y1, y2]) rfl ?_
    exact ⟨_, _, rfl, HBY.out, ⟨_, HDEC.out⟩, ⟨_, _, rfl⟩, .inl ⟨by rw [HN0.out]; exact HEND.out, rfl⟩⟩
  · rw [decide_eq_false hend] at C88
    have H88 := Lib.hid C88
    clear C88
    have hlt0 : q + n0 < t.length := by omega
    have bd := HI2.out.bs.rd (q + n0)
    obtain ⟨cn, hcn⟩ : ∃ cn : Nat, rd t ((q + n0 : Nat) : Int) = (cn : Int) := ⟨(rd t ((q + n0 : Nat) : Int)).toNat, by omega⟩
    have hcn2 : cn < 256 := by omega
    have cb : w2.cell? ⟨B, q + n0, none⟩ = some (.int .u8 (cn : Int)) := by have := HI2.out.rb (q + n0) hlt0; rw [hcn, Nat.zero_add] at this; exact this
    have HCN := Lib.hid hcn
    have e0 := HI2.out.c0
    rw [HST.out] at e0
    have e1 := HI2.out.c1
    clear bd hcn hend
    by_cases hdel : cn = 58 ∨ cn = 44
    · rcases hdel with rfl | rfl
      · as_aux_lemma =>
          have h9 := HSEL.out hlt0
          rw [HCN.out] at h9
          exfalso
          omega
      · as_aux_lemma =>
          have h9 := HSEL.out hlt0
          rw [HCN.out] at h9
          exfalso
          omega
    · have x58 : ((cn : Int) == 58) = false := by rw [beq_eq_false_iff_ne]; omega
      have x44 : ((cn : Int) == 44) = false := by rw [beq_eq_false_iff_ne]; omega
      have HDEL := Lib.hid hdel
      clear hdel
      obtain ⟨kn, hkn⟩ : ∃ kn, normK cn = kn := ⟨_, rfl⟩
      have C85 := f85 cn G w2 HI2.out.env hcn2
      rw [hkn] at C85
      have H85 := Lib.hid C85
      have HKN := Lib.hid hkn
      have C93 := Lib.hid (fun W => f93 HT.out.last W sA sc (kn : Nat))
      clear C85 hkn
      focus
        go_wp2_with (fail)
        refine H88.out.mono ?_
        rintro e w3 ⟨rfl, rfl⟩
        go_wp2_with (fail)
        refine H85.out.mono ?_
        rintro e w3 ⟨rfl, rfl⟩
        go_wp2_with (fail)
        refine (C93.out _).mono ?_
        rintro e w3 ⟨rfl, hb3⟩
        have HB3 := Lib.hid (HB2.out.trans (hb3.mono HB2.out.size))
        have HI3 := Lib.hid (HI2.out.mono hb3)
        have g0 := HI3.out.c0
        rw [HST.out] at g0
        have g1 := HI3.out.c1
        have g10 := HI3.out.c10
        clear hb3 e0 e1 cb d7 C93 H85 H88
        have HT3 := Lib.hid (Below.blk HB3.out HTB.out)
        have BD3 := Lib.hid ((BB.of (F := D) HBZ.out).next HB3.out)
        have g7 := HI3.out.c7
        obtain ⟨off3, ho3, _, hsl3⟩ := sub22 B 0 (q + n0) t.length c (by omega) hc
        rw [Int.natCast_add, show off3 = q + n0 by rw [ho3 hlt0]; omega] at hsl3
        clear ho3
        by_cases k110 : cn = 110
        · have h9 := HSEL.out hlt0
          rw [HCN.out] at h9
          exfalso
          omega
        by_cases k102 : cn = 102
        · have h9 := HSEL.out hlt0
          rw [HCN.out] at h9
          exfalso
          omega
        by_cases k116 : cn = 116
        · have h9 := HSEL.out hlt0
          rw [HCN.out] at h9
          exfalso
          omega
        by_cases k34 : cn = 34
        · have h9 := HSEL.out hlt0
          rw [HCN.out] at h9
          exfalso
          omega
        by_cases kd : cn = 45 ∨ (48 ≤ cn ∧ cn ≤ 57)
        · obtain rfl : (48 : Nat) = kn := by
            have := HKN.out
            rw [normK_num cn kd] at this
            exact this
          have C122 := f122 B (q + n0) (c - (q + n0)) (t.drop (q + n0)) w3 (HI3.out.rb.sub (q + n0) (q + n0) (fun _ => by omega)) (by rw [List.length_drop]; omega) (by rw [List.length_drop]; omega) (HI3.out.bs.drop _)
          rw [List.length_drop] at C122
          have H122 := Lib.hid C122
          have C123 := f123 D B c (q + n0) t s loose dup w3 G HI3.out hlt0
          rw [Int.natCast_add] at C123
          have H123 := Lib.hid C123
          have C88 := Lib.hid (fun (n : Nat) (hn : q + n0 + n ≤ t.length) => f88 D (q + n0 + n) s (some ⟨B, 0, none⟩) t.length c w3 HI3.out.dec HI3.out.buf hl (by omega))
          clear C122 C123 kd x58 x44
          focus
            go_wp2_with (fail)
            refine H122.out.mono ?_
            rintro e w4 ⟨n, rfl, hn, hne, rfl⟩
            have hnl : q + n0 + n ≤ t.length := by omega
            clear hne hn H122
            have D88 := C88.out n hnl
            clear C88
            rw [Int.natCast_add, Int.natCast_add] at D88
            by_cases hz : n = 0
            · subst hz
              clear D88 hnl
              focus
                go_wp2_with (fail)
                refine H123.out.mono ?_
                rintro e w5 ⟨q2, x, rfl, hq2, hb6, hr⟩
                have HI5 := Lib.hid (HI3.out.mono hb6)
                have e10 := HI5.out.c10
                have HT5 := Lib.hid (Below.blk hb6 HT3.out)
                have BD5 := Lib.hid (BD3.out.next hb6)
                clear hb6 g0 g1 g7 g10 H123
                rcases hr with ⟨n, hm, hqm, rfl⟩ | ⟨hm, hx⟩
                · focus
                    subst hqm
                    have hn14 : wrap64 (((q + n0 + n : Nat) : Int) - ((q : Int) + (n0 : Int))) = (n : Int) := by unfold wrap64; omega
                    clear hm
                    have C107 := Lib.hid (f107 D s w5 HI5.out.dec HT.out.last)
                    have k1 := HI5.out.c1
                    go_wp2_with (fail)
                    refine C107.out.mono ?_
                    rintro e w6 ⟨rfl, hb6, hd6⟩
                    have HB6 := Lib.hid hb6
                    have HD6 := Lib.hid hd6
                    clear hb6 hd6 k1
                    have m8 : w6.cell? ⟨D, 8, none⟩ = some (.int .i64 s.ps) := HD6.out.cell 8 _ rfl
                    have m9 : w6.cell? ⟨D, 9, none⟩ = some (.int .i64 s.pe) := HD6.out.cell 9 _ rfl
                    have z8 := HD6.out.fz 8
                    have z9 := HD6.out.fz 9
                    go_upto_region 109 with (fail)
                    obtain ⟨p0, hp0⟩ : ∃ p0, p0 = q + n0 := ⟨_, rfl⟩
                    have hpi : (q : Int) + (n0 : Int) = (p0 : Int) := by omega
                    have hp04 : p0 ≤ 4000000000 := by omega
                    have HPI := Lib.hid hpi
                    clear hpi hp0
                    try rw [show (q : Int) + (n0 : Int) + (n : Int) - ((q : Int) + (n0 : Int) + (n : Int) - ((q : Int) + (n0 : Int))) = (q : Int) + (n0 : Int) by omega]
                    obtain ⟨w7, hw7⟩ : ∃ x, x = (w6.setCell ⟨D, 8, none⟩ (.int .i64 ((q : Int) + (n0 : Int)))).setCell ⟨D, 9, none⟩ (.int .i64 ((q : Int) + (n0 : Int) + (n : Int))) := ⟨_, rfl⟩
                    have HB7 := Lib.hid (show BB D w5 w7 by rw [hw7]; exact (HB6.out.set 8 _).set 9 _)
                    have HD7 := Lib.hid (show DecAt w7 D { s with last := s.last + 1, pe := ((q : Int) + (n0 : Int) + (n : Int)), ps := ((q : Int) + (n0 : Int)) } by rw [hw7]; exact (HD6.out.setPs _).setPe _)
                    rw [← hw7]
                    clear hw7 m8 m9 z8 z9
                    have HT7 := Lib.hid (BB.blk HB7.out HT5.out (Nat.ne_of_gt HDT.out))
                    have BD7 := Lib.hid (BD5.out.trans HB7.out)
                    have C121 := Lib.hid (fun W (hb : Below w7.heap.size w7 W) => f121 D _ p0 W (HD7.out.mono hb) HPI.out hp04)
                    have t0 := (blk_cell HT7.out 0).trans (show _ = some (.pointer none) from rfl)
                    have t1 := (blk_cell HT7.out 1).trans (show _ = some (.string ⟨#[]⟩) from rfl)
                    have t2 := (blk_cell HT7.out 2).trans (show _ = some (.int .u64 0) from rfl)
                    have z0 := blk_frozen HT7.out 0
                    have z1 := blk_frozen HT7.out 1
                    have z2 := blk_frozen HT7.out 2
                    have pw0 : IntKind.u64.wrap (p0 : Int) = p0 := by rw [IntKind.wrap_u64]; omega
                    go_region_with (go_at_call 121; refine (C121.out _ ?hb).mono ?_; (case hb => repeat (first | exact Below.refl _ _ | apply below_drew | apply pw_below_drewN)); rintro e w8 ⟨rfl, m8, rfl⟩)
                    clear t0 t1 t2 z0 z1 z2
                    have hbW := Lib.hid (show Below w7.heap.size w7 (w7.drewN (1 + m8)) from pw_below_drewN (Below.refl _ _) _)
                    have HT9 := Lib.hid (Below.blk hbW.out HT7.out)
                    have HD9 := Lib.hid (HD7.out.mono hbW.out)
                    have BD9 := Lib.hid (BD7.out.next hbW.out)
                    obtain ⟨w9, hw9⟩ : ∃ x, x = w7.drewN (1 + m8) := ⟨_, rfl⟩
                    rw [← hw9] at HT9 HD9 BD9 ⊢
                    clear hw9 hbW
                    repeat (first | go_skip | go_guarded | go_step | go_upon | go_back)
                    obtain ⟨wy, hwy, d0, oth, zy⟩ := slot3 w9 T 83 _ _ _ (.pointer (some ⟨D, 5, none⟩)) (.string ⟨#[]⟩) (.int .u64 p0) HT9.out
                    rw [← hwy]
                    have y0 : wy.cell? ⟨T, 0, none⟩ = some (.pointer (some ⟨D, 5, none⟩)) := by simp [World.cell?, d0]
                    have y1 : wy.cell? ⟨T, 1, none⟩ = some (.string ⟨#[]⟩) := by simp [World.cell?, d0]
                    have y2 : wy.cell? ⟨T, 2, none⟩ = some (.int .u64 p0) := by simp [World.cell?, d0]
                    have HDEC := Lib.hid (show DecAt wy D _ by unfold DecAt; rw [oth D (Nat.ne_of_lt HDT.out)]; exact HD9.out)
                    have HBY := Lib.hid (show BB D wz wy by rw [hwy]; exact (((BD9.out.setNew HTN.out 0 _).setNew HTN.out 1 _).setNew HTN.out 2 _))
                    refine bodyPost_ret (v := .tuple #[.agg #[.pointer (some ⟨D, 5, none⟩), .string ⟨#[]⟩, .int .u64 p0], .nilIface]) (by simp [results, Tryz.results72, go_sem, y0, y1, y2]) rfl ?_
                    exact ⟨_, _, rfl, HBY.out, ⟨_, HDEC.out⟩, ⟨_, _, rfl⟩, .inr ⟨by rw [HN0.out]; exact hlt0, .inl rfl⟩⟩
                · clear hm
                  rcases hx with ⟨a, rfl, ha⟩ | ⟨gg, rfl⟩
                  · as_aux_lemma =>
                      have C91 := f91w D B c (q2) t s loose dup 1 (.iface 265 (.pointer (some a))) w5 G HI5.out HT.out hq2 (.inl ⟨_, rfl, ha⟩)
                      have H91 := Lib.hid C91
                      clear C91
                      clear ha
                      go_wp2_with (fail)
                      refine H91.out.mono ?_
                      rintro e w9 ⟨g9, rfl, hb9⟩
                      have HT9 := Lib.hid (Below.blk hb9 HT5.out)
                      have HD9 := Lib.hid (HI5.out.dec.mono hb9)
                      have BD9 := Lib.hid (BD5.out.next hb9)
                      clear hb9
                      have t0 := (blk_cell HT9.out 0).trans (show _ = some (.pointer none) from rfl)
                      have t1 := (blk_cell HT9.out 1).trans (show _ = some (.string ⟨#[]⟩) from rfl)
                      have t2 := (blk_cell HT9.out 2).trans (show _ = some (.int .u64 0) from rfl)
                      have z0 := blk_frozen HT9.out 0
                      have z1 := blk_frozen HT9.out 1
                      have z2 := blk_frozen HT9.out 2
                      go_wp2_with (fail)
                      clear t0 t1 t2 z0 z1 z2
                      obtain ⟨wy, hwy, d0, oth, zy⟩ := slot3 w9 T 83 _ _ _ (.pointer none) (.string ⟨#[]⟩) (.int .u64 0) HT9.out
                      rw [← hwy]
                      have y0 : wy.cell? ⟨T, 0, none⟩ = some (.pointer none) := by simp [World.cell?, d0]
                      have y1 : wy.cell? ⟨T, 1, none⟩ = some (.string ⟨#[]⟩) := by simp [World.cell?, d0]
                      have y2 : wy.cell? ⟨T, 2, none⟩ = some (.int .u64 0) := by simp [World.cell?, d0]
                      have HDEC := Lib.hid (show DecAt wy D _ by unfold DecAt; rw [oth D (Nat.ne_of_lt HDT.out)]; exact HD9.out)
                      have HBY := Lib.hid (show BB D wz wy by rw [hwy]; exact (((BD9.out.setNew HTN.out 0 _).setNew HTN.out 1 _).setNew HTN.out 2 _))
                      refine bodyPost_ret (v := .tuple #[.agg #[.pointer none, .string ⟨#[]⟩, .int .u64 0], .iface 67 (.pointer (some ⟨g9, 0, none⟩))]) (by simp [results, Tryz.results72, go_sem, y0, y1, y2]) rfl ?_
                      exact ⟨_, _, rfl, HBY.out, ⟨_, HDEC.out⟩, ⟨_, _, rfl⟩, .inr ⟨by rw [HN0.out]; exact hlt0, .inr ⟨g9, rfl⟩⟩⟩
                  · as_aux_lemma =>
                      have C91 := f91w D B c (q2) t s loose dup 1 (.iface 153 (.pointer (some ⟨gg, 0, none⟩))) w5 G HI5.out HT.out hq2 (.inr ⟨gg, rfl⟩)
                      have H91 := Lib.hid C91
                      clear C91
                      go_wp2_with (fail)
                      refine H91.out.mono ?_
                      rintro e w9 ⟨g9, rfl, hb9⟩
                      have HT9 := Lib.hid (Below.blk hb9 HT5.out)
                      have HD9 := Lib.hid (HI5.out.dec.mono hb9)
                      have BD9 := Lib.hid (BD5.out.next hb9)
                      clear hb9
                      have t0 := (blk_cell HT9.out 0).trans (show _ = some (.pointer none) from rfl)
                      have t1 := (blk_cell HT9.out 1).trans (show _ = some (.string ⟨#[]⟩) from rfl)
                      have t2 := (blk_cell HT9.out 2).trans (show _ = some (.int .u64 0) from rfl)
                      have z0 := blk_frozen HT9.out 0
                      have z1 := blk_frozen HT9.out 1
                      have z2 := blk_frozen HT9.out 2
                      go_wp2_with (fail)
                      clear t0 t1 t2 z0 z1 z2
                      obtain ⟨wy, hwy, d0, oth, zy⟩ := slot3 w9 T 83 _ _ _ (.pointer none) (.string ⟨#[]⟩) (.int .u64 0) HT9.out
                      rw [← hwy]
                      have y0 : wy.cell? ⟨T, 0, none⟩ = some (.pointer none) := by simp [World.cell?, d0]
                      have y1 : wy.cell? ⟨T, 1, none⟩ = some (.string ⟨#[]⟩) := by simp [World.cell?, d0]
                      have y2 : wy.cell? ⟨T, 2, none⟩ = some (.int .u64 0) := by simp [World.cell?, d0]
                      have HDEC := Lib.hid (show DecAt wy D _ by unfold DecAt; rw [oth D (Nat.ne_of_lt HDT.out)]; exact HD9.out)
                      have HBY := Lib.hid (show BB D wz wy by rw [hwy]; exact (((BD9.out.setNew HTN.out 0 _).setNew HTN.out 1 _).setNew HTN.out 2 _))
                      refine bodyPost_ret (v := .tuple #[.agg #[.pointer none, .string ⟨#[]⟩, .int .u64 0], .iface 67 (.pointer (some ⟨g9, 0, none⟩))]) (by simp [results, Tryz.results72, go_sem, y0, y1, y2]) rfl ?_
                      exact ⟨_, _, rfl, HBY.out, ⟨_, HDEC.out⟩, ⟨_, _, rfl⟩, .inr ⟨by rw [HN0.out]; exact hlt0, .inr ⟨g9, rfl⟩⟩⟩
            · have z1 : ((n : Int) == 0) = false := by rw [beq_eq_false_iff_ne]; omega
              by_cases hbe : q + n0 + n = t.length
              · rw [decide_eq_true hbe] at D88
                have H88 := Lib.hid D88
                clear D88 hz hbe
                focus
                  go_wp2_with (fail)
                  refine H88.out.mono ?_
                  rintro e w5 ⟨rfl, rfl⟩
                  clear z1 H88
                  go_wp2_with (fail)
                  refine H123.out.mono ?_
                  rintro e w5 ⟨q2, x, rfl, hq2, hb6, hr⟩
                  have HI5 := Lib.hid (HI3.out.mono hb6)
                  have e10 := HI5.out.c10
                  have HT5 := Lib.hid (Below.blk hb6 HT3.out)
                  have BD5 := Lib.hid (BD3.out.next hb6)
                  clear hb6 g0 g1 g7 g10 H123
                  rcases hr with ⟨n, hm, hqm, rfl⟩ | ⟨hm, hx⟩
                  · focus
                      subst hqm
                      have hn14 : wrap64 (((q + n0 + n : Nat) : Int) - ((q : Int) + (n0 : Int))) = (n : Int) := by unfold wrap64; omega
                      clear hm
                      have C107 := Lib.hid (f107 D s w5 HI5.out.dec HT.out.last)
                      have k1 := HI5.out.c1
                      go_wp2_with (fail)
                      refine C107.out.mono ?_
                      rintro e w6 ⟨rfl, hb6, hd6⟩
                      have HB6 := Lib.hid hb6
                      have HD6 := Lib.hid hd6
                      clear hb6 hd6 k1
                      have m8 : w6.cell? ⟨D, 8, none⟩ = some (.int .i64 s.ps) := HD6.out.cell 8 _ rfl
                      have m9 : w6.cell? ⟨D, 9, none⟩ = some (.int .i64 s.pe) := HD6.out.cell 9 _ rfl
                      have z8 := HD6.out.fz 8
                      have z9 := HD6.out.fz 9
                      go_upto_region 109 with (fail)
                      obtain ⟨p0, hp0⟩ : ∃ p0, p0 = q + n0 := ⟨_, rfl⟩
                      have hpi : (q : Int) + (n0 : Int) = (p0 : Int) := by omega
                      have hp04 : p0 ≤ 4000000000 := by omega
                      have HPI := Lib.hid hpi
                      clear hpi hp0
                      try rw [show (q : Int) + (n0 : Int) + (n : Int) - ((q : Int) + (n0 : Int) + (n : Int) - ((q : Int) + (n0 : Int))) = (q : Int) + (n0 : Int) by omega]
                      obtain ⟨w7, hw7⟩ : ∃ x, x = (w6.setCell ⟨D, 8, none⟩ (.int .i64 ((q : Int) + (n0 : Int)))).setCell ⟨D, 9, none⟩ (.int .i64 ((q : Int) + (n0 : Int) + (n : Int))) := ⟨_, rfl⟩
                      have HB7 := Lib.hid (show BB D w5 w7 by rw [hw7]; exact (HB6.out.set 8 _).set 9 _)
                      have HD7 := Lib.hid (show DecAt w7 D { s with last := s.last + 1, pe := ((q : Int) + (n0 : Int) + (n : Int)), ps := ((q : Int) + (n0 : Int)) } by rw [hw7]; exact (HD6.out.setPs _).setPe _)
                      rw [← hw7]
                      clear hw7 m8 m9 z8 z9
                      have HT7 := Lib.hid (BB.blk HB7.out HT5.out (Nat.ne_of_gt HDT.out))
                      have BD7 := Lib.hid (BD5.out.trans HB7.out)
                      have C121 := Lib.hid (fun W (hb : Below w7.heap.size w7 W) => f121 D _ p0 W (HD7.out.mono hb) HPI.out hp04)
                      have t0 := (blk_cell HT7.out 0).trans (show _ = some (.pointer none) from rfl)
                      have t1 := (blk_cell HT7.out 1).trans (show _ = some (.string ⟨#[]⟩) from rfl)
                      have t2 := (blk_cell HT7.out 2).trans (show _ = some (.int .u64 0) from rfl)
                      have z0 := blk_frozen HT7.out 0
                      have z1 := blk_frozen HT7.out 1
                      have z2 := blk_frozen HT7.out 2
                      have pw0 : IntKind.u64.wrap (p0 : Int) = p0 := by rw [IntKind.wrap_u64]; omega
                      go_region_with (go_at_call 121; refine (C121.out _ ?hb).mono ?_; (case hb => repeat (first | exact Below.refl _ _ | apply below_drew | apply pw_below_drewN)); rintro e w8 ⟨rfl, m8, rfl⟩)
                      clear t0 t1 t2 z0 z1 z2
                      have hbW := Lib.hid (show Below w7.heap.size w7 (w7.drewN (1 + m8)) from pw_below_drewN (Below.refl _ _) _)
                      have HT9 := Lib.hid (Below.blk hbW.out HT7.out)
                      have HD9 := Lib.hid (HD7.out.mono hbW.out)
                      have BD9 := Lib.hid (BD7.out.next hbW.out)
                      obtain ⟨w9, hw9⟩ : ∃ x, x = w7.drewN (1 + m8) := ⟨_, rfl⟩
                      rw [← hw9] at HT9 HD9 BD9 ⊢
                      clear hw9 hbW
                      repeat (first | go_skip | go_guarded | go_step | go_upon | go_back)
                      obtain ⟨wy, hwy, d0, oth, zy⟩ := slot3 w9 T 83 _ _ _ (.pointer (some ⟨D, 5, none⟩)) (.string ⟨#[]⟩) (.int .u64 p0) HT9.out
                      rw [← hwy]
                      have y0 : wy.cell? ⟨T, 0, none⟩ = some (.pointer (some ⟨D, 5, none⟩)) := by simp [World.cell?, d0]
                      have y1 : wy.cell? ⟨T, 1, none⟩ = some (.string ⟨#[]⟩) := by simp [World.cell?, d0]
                      have y2 : wy.cell? ⟨T, 2, none⟩ = some (.int .u64 p0) := by simp [World.cell?, d0]
                      have HDEC := Lib.hid (show DecAt wy D _ by unfold DecAt; rw [oth D (Nat.ne_of_lt HDT.out)]; exact HD9.out)
                      have HBY := Lib.hid (show BB D wz wy by rw [hwy]; exact (((BD9.out.setNew HTN.out 0 _).setNew HTN.out 1 _).setNew HTN.out 2 _))
                      refine bodyPost_ret (v := .tuple #[.agg #[.pointer (some ⟨D, 5, none⟩), .string ⟨#[]⟩, .int .u64 p0], .nilIface]) (by simp [results, Tryz.results72, go_sem, y0, y1, y2]) rfl ?_
                      exact ⟨_, _, rfl, HBY.out, ⟨_, HDEC.out⟩, ⟨_, _, rfl⟩, .inr ⟨by rw [HN0.out]; exact hlt0, .inl rfl⟩⟩
                  · clear hm
                    rcases hx with ⟨a, rfl, ha⟩ | ⟨gg, rfl⟩
                    · as_aux_lemma =>
                        have C91 := f91w D B c (q2) t s loose dup 1 (.iface 265 (.pointer (some a))) w5 G HI5.out HT.out hq2 (.inl ⟨_, rfl, ha⟩)
                        have H91 := Lib.hid C91
                        clear C91
                        clear ha
                        go_wp2_with (fail)
                        refine H91.out.mono ?_
                        rintro e w9 ⟨g9, rfl, hb9⟩
                        have HT9 := Lib.hid (Below.blk hb9 HT5.out)
                        have HD9 := Lib.hid (HI5.out.dec.mono hb9)
                        have BD9 := Lib.hid (BD5.out.next hb9)
                        clear hb9
                        have t0 := (blk_cell HT9.out 0).trans (show _ = some (.pointer none) from rfl)
                        have t1 := (blk_cell HT9.out 1).trans (show _ = some (.string ⟨#[]⟩) from rfl)
                        have t2 := (blk_cell HT9.out 2).trans (show _ = some (.int .u64 0) from rfl)
                        have z0 := blk_frozen HT9.out 0
                        have z1 := blk_frozen HT9.out 1
                        have z2 := blk_frozen HT9.out 2
                        go_wp2_with (fail)
                        clear t0 t1 t2 z0 z1 z2
                        obtain ⟨wy, hwy, d0, oth, zy⟩ := slot3 w9 T 83 _ _ _ (.pointer none) (.string ⟨#[]⟩) (.int .u64 0) HT9.out
                        rw [← hwy]
                        have y0 : wy.cell? ⟨T, 0, none⟩ = some (.pointer none) := by simp [World.cell?, d0]
                        have y1 : wy.cell? ⟨T, 1, none⟩ = some (.string ⟨#[]⟩) := by simp [World.cell?, d0]
                        have y2 : wy.cell? ⟨T, 2, none⟩ = some (.int .u64 0) := by simp [World.cell?, d0]
                        have HDEC := Lib.hid (show DecAt wy D _ by unfold DecAt; rw [oth D (Nat.ne_of_lt HDT.out)]; exact HD9.out)
                        have HBY := Lib.hid (show BB D wz wy by rw [hwy]; exact (((BD9.out.setNew HTN.out 0 _).setNew HTN.out 1 _).setNew HTN.out 2 _))
                        refine bodyPost_ret (v := .tuple #[.agg #[.pointer none, .string ⟨#[]⟩, .int .u64 0], .iface 67 (.pointer (some ⟨g9, 0, none⟩))]) (by simp [results, Tryz.results72, go_sem, y0, y1, y2]) rfl ?_
                        exact ⟨_, _, rfl, HBY.out, ⟨_, HDEC.out⟩, ⟨_, _, rfl⟩, .inr ⟨by rw [HN0.out]; exact hlt0, .inr ⟨g9, rfl⟩⟩⟩
                    · as_aux_lemma =>
                        have C91 := f91w D B c (q2) t s loose dup 1 (.iface 153 (.pointer (some ⟨gg, 0, none⟩))) w5 G HI5.out HT.out hq2 (.inr ⟨gg, rfl⟩)
                        have H91 := Lib.hid C91
                        clear C91
                        go_wp2_with (fail)
                        refine H91.out.mono ?_
                        rintro e w9 ⟨g9, rfl, hb9⟩
                        have HT9 := Lib.hid (Below.blk hb9 HT5.out)
                        have HD9 := Lib.hid (HI5.out.dec.mono hb9)
                        have BD9 := Lib.hid (BD5.out.next hb9)
                        clear hb9
                        have t0 := (blk_cell HT9.out 0).trans (show _ = some (.pointer none) from rfl)
                        have t1 := (blk_cell HT9.out 1).trans (show _ = some (.string ⟨#[]⟩) from rfl)
                        have t2 := (blk_cell HT9.out 2).trans (show _ = some (.int .u64 0) from rfl)
                        have z0 := blk_frozen HT9.out 0
                        have z1 := blk_frozen HT9.out 1
                        have z2 := blk_frozen HT9.out 2
                        go_wp2_with (fail)
                        clear t0 t1 t2 z0 z1 z2
                        obtain ⟨wy, hwy, d0, oth, zy⟩ := slot3 w9 T 83 _ _ _ (.pointer none) (.string ⟨#[]⟩) (.int .u64 0) HT9.out
                        rw [← hwy]
                        have y0 : wy.cell? ⟨T, 0, none⟩ = some (.pointer none) := by simp [World.cell?, d0]
                        have y1 : wy.cell? ⟨T, 1, none⟩ = some (.string ⟨#[]⟩) := by simp [World.cell?, d0]
                        have y2 : wy.cell? ⟨T, 2, none⟩ = some (.int .u64 0) := by simp [World.cell?, d0]
                        have HDEC := Lib.hid (show DecAt wy D _ by unfold DecAt; rw [oth D (Nat.ne_of_lt HDT.out)]; exact HD9.out)
                        have HBY := Lib.hid (show BB D wz wy by rw [hwy]; exact (((BD9.out.setNew HTN.out 0 _).setNew HTN.out 1 _).setNew HTN.out 2 _))
                        refine bodyPost_ret (v := .tuple #[.agg #[.pointer none, .string ⟨#[]⟩, .int .u64 0], .iface 67 (.pointer (some ⟨g9, 0, none⟩))]) (by simp [results, Tryz.results72, go_sem, y0, y1, y2]) rfl ?_
                        exact ⟨_, _, rfl, HBY.out, ⟨_, HDEC.out⟩, ⟨_, _, rfl⟩, .inr ⟨by rw [HN0.out]; exact hlt0, .inr ⟨g9, rfl⟩⟩⟩
              · rw [decide_eq_false hbe] at D88
                have H88 := Lib.hid D88
                clear D88 hz hbe H123
                focus
                  go_wp2_with (fail)
                  refine H88.out.mono ?_
                  rintro e w5 ⟨rfl, rfl⟩
                  clear z1 H88
                  obtain ⟨w5, hw5⟩ : ∃ x, x = w3 := ⟨_, rfl⟩
                  subst hw5
                  have HI5 := HI3
                  have HT5 := HT3
                  have BD5 := BD3
                  clear g0 g1 g7 g10
                  have C107 := Lib.hid (f107 D s w5 HI5.out.dec HT.out.last)
                  have k1 := HI5.out.c1
                  go_wp2_with (fail)
                  refine C107.out.mono ?_
                  rintro e w6 ⟨rfl, hb6, hd6⟩
                  have HB6 := Lib.hid hb6
                  have HD6 := Lib.hid hd6
                  clear hb6 hd6 k1
                  have m8 : w6.cell? ⟨D, 8, none⟩ = some (.int .i64 s.ps) := HD6.out.cell 8 _ rfl
                  have m9 : w6.cell? ⟨D, 9, none⟩ = some (.int .i64 s.pe) := HD6.out.cell 9 _ rfl
                  have z8 := HD6.out.fz 8
                  have z9 := HD6.out.fz 9
                  go_upto_region 109 with (fail)
                  obtain ⟨p0, hp0⟩ : ∃ p0, p0 = q + n0 := ⟨_, rfl⟩
                  have hpi : (q : Int) + (n0 : Int) = (p0 : Int) := by omega
                  have hp04 : p0 ≤ 4000000000 := by omega
                  have HPI := Lib.hid hpi
                  clear hpi hp0
                  try rw [show (q : Int) + (n0 : Int) + (n : Int) - ((q : Int) + (n0 : Int) + (n : Int) - ((q : Int) + (n0 : Int))) = (q : Int) + (n0 : Int) by omega]
                  obtain ⟨w7, hw7⟩ : ∃ x, x = (w6.setCell ⟨D, 8, none⟩ (.int .i64 ((q : Int) + (n0 : Int)))).setCell ⟨D, 9, none⟩ (.int .i64 ((q : Int) + (n0 : Int) + (n : Int))) := ⟨_, rfl⟩
                  have HB7 := Lib.hid (show BB D w5 w7 by rw [hw7]; exact (HB6.out.set 8 _).set 9 _)
                  have HD7 := Lib.hid (show DecAt w7 D { s with last := s.last + 1, pe := ((q : Int) + (n0 : Int) + (n : Int)), ps := ((q : Int) + (n0 : Int)) } by rw [hw7]; exact (HD6.out.setPs _).setPe _)
                  rw [← hw7]
                  clear hw7 m8 m9 z8 z9
                  have HT7 := Lib.hid (BB.blk HB7.out HT5.out (Nat.ne_of_gt HDT.out))
                  have BD7 := Lib.hid (BD5.out.trans HB7.out)
                  have C121 := Lib.hid (fun W (hb : Below w7.heap.size w7 W) => f121 D _ p0 W (HD7.out.mono hb) HPI.out hp04)
                  have t0 := (blk_cell HT7.out 0).trans (show _ = some (.pointer none) from rfl)
                  have t1 := (blk_cell HT7.out 1).trans (show _ = some (.string ⟨#[]⟩) from rfl)
                  have t2 := (blk_cell HT7.out 2).trans (show _ = some (.int .u64 0) from rfl)
                  have z0 := blk_frozen HT7.out 0
                  have z1 := blk_frozen HT7.out 1
                  have z2 := blk_frozen HT7.out 2
                  have pw0 : IntKind.u64.wrap (p0 : Int) = p0 := by rw [IntKind.wrap_u64]; omega
                  go_region_with (go_at_call 121; refine (C121.out _ ?hb).mono ?_; (case hb => repeat (first | exact Below.refl _ _ | apply below_drew | apply pw_below_drewN)); rintro e w8 ⟨rfl, m8, rfl⟩)
                  clear t0 t1 t2 z0 z1 z2
                  have hbW := Lib.hid (show Below w7.heap.size w7 (w7.drewN (1 + m8)) from pw_below_drewN (Below.refl _ _) _)
                  have HT9 := Lib.hid (Below.blk hbW.out HT7.out)
                  have HD9 := Lib.hid (HD7.out.mono hbW.out)
                  have BD9 := Lib.hid (BD7.out.next hbW.out)
                  obtain ⟨w9, hw9⟩ : ∃ x, x = w7.drewN (1 + m8) := ⟨_, rfl⟩
                  rw [← hw9] at HT9 HD9 BD9 ⊢
                  clear hw9 hbW
                  repeat (first | go_skip | go_guarded | go_step | go_upon | go_back)
                  obtain ⟨wy, hwy, d0, oth, zy⟩ := slot3 w9 T 83 _ _ _ (.pointer (some ⟨D, 5, none⟩)) (.string ⟨#[]⟩) (.int .u64 p0) HT9.out
                  rw [← hwy]
                  have y0 : wy.cell? ⟨T, 0, none⟩ = some (.pointer (some ⟨D, 5, none⟩)) := by simp [World.cell?, d0]
                  have y1 : wy.cell? ⟨T, 1, none⟩ = some (.string ⟨#[]⟩) := by simp [World.cell?, d0]
                  have y2 : wy.cell? ⟨T, 2, none⟩ = some (.int .u64 p0) := by simp [World.cell?, d0]
                  have HDEC := Lib.hid (show DecAt wy D _ by unfold DecAt; rw [oth D (Nat.ne_of_lt HDT.out)]; exact HD9.out)
                  have HBY := Lib.hid (show BB D wz wy by rw [hwy]; exact (((BD9.out.setNew HTN.out 0 _).setNew HTN.out 1 _).setNew HTN.out 2 _))
                  refine bodyPost_ret (v := .tuple #[.agg #[.pointer (some ⟨D, 5, none⟩), .string ⟨#[]⟩, .int .u64 p0], .nilIface]) (by simp [results, Tryz.results72, go_sem, y0, y1, y2]) rfl ?_
                  exact ⟨_, _, rfl, HBY.out, ⟨_, HDEC.out⟩, ⟨_, _, rfl⟩, .inr ⟨by rw [HN0.out]; exact hlt0, .inl rfl⟩⟩
        by_cases k123 : cn = 123
        · have h9 := HSEL.out hlt0
          rw [HCN.out] at h9
          exfalso
          omega
        by_cases k91 : cn = 91
        · have h9 := HSEL.out hlt0
          rw [HCN.out] at h9
          exfalso
          omega
        have hk0 := normK_oth cn k34 kd k91 k102 k110 k116 k123
        rw [HKN.out] at hk0
        by_cases k125 : kn = 125
        · have h9 := HSEL.out hlt0
          rw [HCN.out] at h9
          exfalso
          omega
        by_cases k93 : kn = 93
        · have h9 := HSEL.out hlt0
          rw [HCN.out] at h9
          exfalso
          omega
        have h9 := HSEL.out hlt0
        rw [HCN.out] at h9
        exfalso
        omega
end Go.Proofs.YtjfbkgkpjkickaaGreatDoor.PAll
