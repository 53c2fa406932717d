/- The texts of a proof, its declarations alone: part 5. -/
import Derived.Test.YtjfbkgkpjkickaaGreatDoorVU4
set_option linter.unusedVariables false
set_option linter.unusedSimpArgs false
-- YtjfbkgkpjkickaaGreatDoorBl
set_option linter.unusedVariables false
set_option linter.unusedSimpArgs false
namespace Go.Proofs.YtjfbkgkpjkickaaGreatDoor.PAll
open Go.RowKit Go.Proofs.YtjfbkgkpjkickaaGreatDoorW.PrintWords Go.Proofs.YtjfbkgkpjkickaaGreatDoorW.PrintLast Go.Proofs.YtjfbkgkpjkickaaGreatDoorW.PrintMore

def FullPost (l : List Int) (w : World) (e : Ending) (w' : World) : Prop := ∃ r : Bool, e = .returned (.bool r) ∧ (r = false → ∀ b ∈ l, 128 ≤ b) ∧ Below w.heap.size w w'
theorem full_yes {l : List Int} {w w' : World} (hb : Below w.heap.size w w') : FullPost l w (.returned (.bool true)) w' := ⟨true, rfl, (fun h => nomatch h), hb⟩
set_option maxRecDepth 100000 in
theorem f69x (B o c : Nat) (l : List Int) (b0 : Nat) (w : World) (G : GV) (hE : Env w G) (hr : RB w B o l) (hl : 0 < l.length) (hl2 : l.length ≤ 4000000000) (h0 : rd l 0 = (b0 : Int)) (hb : b0 < 256) (hx : firstK b0 = 241) :
    Calls Tryz.prog 69 #[.slice (some ⟨B, o, none⟩) l.length c] w (FullPost l w) := by
  have hf := hE.first b0 hb
  rw [hx] at hf
  have hc0 : w.cell? ⟨B, o, none⟩ = some (.int .u8 (b0 : Int)) := by have := hr 0 hl; rw [show ((0 : Nat) : Int) = 0 from rfl, h0] at this; exact this
  have hq : Go.bits .and .u8 241 7 = 1 := by decide +kernel
  clear hE hr hx h0
  have hl1 : decide ((1 : Int) ≤ (l.length : Int)) = true := decide_eq_true (by omega)
  have hl3 : ((l.length : Int) == 0) = false := by rw [beq_eq_false_iff_ne]; omega
  go_enter Tryz.func69, Tryz.ntmps69
  go_wp2_with (fail)
  go_returns
  exact full_yes (Below.refl _ _)
set_option maxRecDepth 100000 in
theorem f69a (B o c : Nat) (l : List Int) (b0 x sz i : Nat) (lo hi : Int) (w : World) (hc : Cls w b0 x sz i lo hi) (hr : RB w B o l) (hl : 0 < l.length) (hl2 : l.length ≤ 4000000000) (h0 : rd l 0 = (b0 : Int)) (hn : sz ≤ l.length) :
    Calls Tryz.prog 69 #[.slice (some ⟨B, o, none⟩) l.length c] w (FullPost l w) := by
  have hc0 : w.cell? ⟨B, o, none⟩ = some (.int .u8 (b0 : Int)) := by have := hr 0 hl; rw [show ((0 : Nat) : Int) = 0 from rfl, h0] at this; exact this
  obtain ⟨hb, cx, cl, ch, hx, hs, hi', hsz, hsz4, hi5⟩ := hc
  clear hr h0
  have hl1 : decide ((sz : Int) ≤ (l.length : Int)) = true := decide_eq_true (by omega)
  have hl2 : decide (sz ≤ l.length) = true := decide_eq_true (by omega)
  have hl3 : ((l.length : Int) == 0) = false := by rw [beq_eq_false_iff_ne]; omega
  go_enter Tryz.func69, Tryz.ntmps69
  go_wp2_with (fail)
  go_returns
  exact full_yes (Below.refl _ _)
set_option maxRecDepth 100000 in
theorem f69b (B o c : Nat) (l : List Int) (b0 x sz i : Nat) (lo hi : Int) (w : World) (hc : Cls w b0 x sz i lo hi) (hr : RB w B o l) (hl : 0 < l.length) (hl2 : l.length ≤ 4000000000) (h0 : rd l 0 = (b0 : Int)) (hn : l.length < sz) (h1 : l.length = 1) (h128 : ∀ b ∈ l, 128 ≤ b) :
    Calls Tryz.prog 69 #[.slice (some ⟨B, o, none⟩) l.length c] w (FullPost l w) := by
  have hc0 : w.cell? ⟨B, o, none⟩ = some (.int .u8 (b0 : Int)) := by have := hr 0 hl; rw [show ((0 : Nat) : Int) = 0 from rfl, h0] at this; exact this
  obtain ⟨hb, cx, cl, ch, hx, hs, hi', hsz, hsz4, hi5⟩ := hc
  have H := Lib.hid h128
  clear hr h0 h128
  have hl1 : decide ((sz : Int) ≤ (l.length : Int)) = false := decide_eq_false (by omega)
  have hl2 : decide (sz ≤ l.length) = false := decide_eq_false (by omega)
  have hl3 : ((l.length : Int) == 0) = false := by rw [beq_eq_false_iff_ne]; omega
  have hl4 : decide ((1 : Int) < (l.length : Int)) = false := decide_eq_false (by omega)
  have hl5 : decide ((2 : Int) < (l.length : Int)) = false := decide_eq_false (by omega)
  have hl6 : decide (1 < l.length) = false := decide_eq_false (by omega)
  have hl7 : decide (2 < l.length) = false := decide_eq_false (by omega)
  clear h1
  go_enter Tryz.func69, Tryz.ntmps69
  go_wp2_with (fail)
  go_region
  go_wp2_with (fail)
  go_returns
  exact ⟨false, rfl, fun _ => H.out, by repeat (first | exact Below.refl _ _ | apply below_alloc | apply pw_below_drewN)⟩
set_option maxRecDepth 100000 in
set_option maxHeartbeats 1600000 in
theorem f69c (B o c : Nat) (l : List Int) (b0 x sz i : Nat) (lo hi b1 b2 : Int) (w : World) (hc : Cls w b0 x sz i lo hi) (hr : RB w B o l) (hl : 0 < l.length) (hl2 : l.length ≤ 4000000000) (hbs : Bs l) (h0 : rd l 0 = (b0 : Int)) (hn : l.length < sz) (h1 : rd l 1 = b1) (h2l : 2 ≤ l.length) (hq : b1 < lo) :
    Calls Tryz.prog 69 #[.slice (some ⟨B, o, none⟩) l.length c] w (FullPost l w) := by
  have hc0 : w.cell? ⟨B, o, none⟩ = some (.int .u8 (b0 : Int)) := by have := hr 0 hl; rw [show ((0 : Nat) : Int) = 0 from rfl, h0] at this; exact this
  have hBne : B ≠ w.heap.size := Nat.ne_of_lt (World.block_lt_of_cell? w ⟨B, o, none⟩ hc0)
  obtain ⟨hb, cx, cl, ch, hx, hs, hi', hsz, hsz4, hi5⟩ := hc
  have hc1 : w.cell? ⟨B, o + 1, none⟩ = some (.int .u8 b1) := by have := hr 1 (by omega); rw [show ((1 : Nat) : Int) = 1 from rfl, h1] at this; exact this
  have bd1 : 0 ≤ b1 ∧ b1 < 256 := by have := hbs.rd 1; rw [show ((1 : Nat) : Int) = 1 from rfl, h1] at this; exact this
  obtain ⟨bd1a, bd1b⟩ := bd1
  have hca1 : (w.alloc (.cells #[.int .u8 lo, .int .u8 hi] 159)).cell? ⟨B, o + 1, none⟩ = some (.int .u8 b1) := pw_cell_below (below_alloc (Below.refl _ _) _) hc1
  clear hr h0 hbs h1
  have hl1 : decide ((sz : Int) ≤ (l.length : Int)) = false := decide_eq_false (by omega)
  have hl2 : decide (sz ≤ l.length) = false := decide_eq_false (by omega)
  have hl3 : ((l.length : Int) == 0) = false := by rw [beq_eq_false_iff_ne]; omega
  have hgt : 1 < l.length := by omega
  have hgt' : (1 : Int) < (l.length : Int) := by omega
  have hl4 : decide ((1 : Int) < (l.length : Int)) = true := decide_eq_true (by omega)
  have hl6 : decide (1 < l.length) = true := decide_eq_true (by omega)
  have q1 : decide (b1 < lo) = true := decide_eq_true (by omega)
  go_enter Tryz.func69, Tryz.ntmps69
  go_wp2_with (fail)
  go_region
  go_wp2_with (fail)
  go_returns
  exact full_yes (by repeat (first | exact Below.refl _ _ | apply below_alloc | apply pw_below_drewN | apply below_drew1))
set_option maxRecDepth 100000 in
set_option maxHeartbeats 1600000 in
theorem f69d (B o c : Nat) (l : List Int) (b0 x sz i : Nat) (lo hi b1 b2 : Int) (w : World) (hc : Cls w b0 x sz i lo hi) (hr : RB w B o l) (hl : 0 < l.length) (hl2 : l.length ≤ 4000000000) (hbs : Bs l) (h0 : rd l 0 = (b0 : Int)) (hn : l.length < sz) (h1 : rd l 1 = b1) (h2l : 2 ≤ l.length) (hq1 : lo ≤ b1) (hq : hi < b1) :
    Calls Tryz.prog 69 #[.slice (some ⟨B, o, none⟩) l.length c] w (FullPost l w) := by
  have hc0 : w.cell? ⟨B, o, none⟩ = some (.int .u8 (b0 : Int)) := by have := hr 0 hl; rw [show ((0 : Nat) : Int) = 0 from rfl, h0] at this; exact this
  have hBne : B ≠ w.heap.size := Nat.ne_of_lt (World.block_lt_of_cell? w ⟨B, o, none⟩ hc0)
  obtain ⟨hb, cx, cl, ch, hx, hs, hi', hsz, hsz4, hi5⟩ := hc
  have hc1 : w.cell? ⟨B, o + 1, none⟩ = some (.int .u8 b1) := by have := hr 1 (by omega); rw [show ((1 : Nat) : Int) = 1 from rfl, h1] at this; exact this
  have bd1 : 0 ≤ b1 ∧ b1 < 256 := by have := hbs.rd 1; rw [show ((1 : Nat) : Int) = 1 from rfl, h1] at this; exact this
  obtain ⟨bd1a, bd1b⟩ := bd1
  have hca1 : (w.alloc (.cells #[.int .u8 lo, .int .u8 hi] 159)).cell? ⟨B, o + 1, none⟩ = some (.int .u8 b1) := pw_cell_below (below_alloc (Below.refl _ _) _) hc1
  clear hr h0 hbs h1
  have hl1 : decide ((sz : Int) ≤ (l.length : Int)) = false := decide_eq_false (by omega)
  have hl2 : decide (sz ≤ l.length) = false := decide_eq_false (by omega)
  have hl3 : ((l.length : Int) == 0) = false := by rw [beq_eq_false_iff_ne]; omega
  have hgt : 1 < l.length := by omega
  have hgt' : (1 : Int) < (l.length : Int) := by omega
  have hl4 : decide ((1 : Int) < (l.length : Int)) = true := decide_eq_true (by omega)
  have hl6 : decide (1 < l.length) = true := decide_eq_true (by omega)
  have q1 : decide (b1 < lo) = false := decide_eq_false (by omega)
  have q2 : decide (hi < b1) = true := decide_eq_true (by omega)
  go_enter Tryz.func69, Tryz.ntmps69
  go_wp2_with (fail)
  go_region
  go_wp2_with (fail)
  go_returns
  exact full_yes (by repeat (first | exact Below.refl _ _ | apply below_alloc | apply pw_below_drewN | apply below_drew1))
set_option maxRecDepth 100000 in
set_option maxHeartbeats 1600000 in
theorem f69e (B o c : Nat) (l : List Int) (b0 x sz i : Nat) (lo hi b1 b2 : Int) (w : World) (hc : Cls w b0 x sz i lo hi) (hr : RB w B o l) (hl : 0 < l.length) (hl2 : l.length ≤ 4000000000) (hbs : Bs l) (h0 : rd l 0 = (b0 : Int)) (hn : l.length < sz) (h1 : rd l 1 = b1) (h2l : l.length = 2) (hq1 : lo ≤ b1) (hq : b1 ≤ hi) (h128 : ∀ b ∈ l, 128 ≤ b) :
    Calls Tryz.prog 69 #[.slice (some ⟨B, o, none⟩) l.length c] w (FullPost l w) := by
  have hc0 : w.cell? ⟨B, o, none⟩ = some (.int .u8 (b0 : Int)) := by have := hr 0 hl; rw [show ((0 : Nat) : Int) = 0 from rfl, h0] at this; exact this
  have hBne : B ≠ w.heap.size := Nat.ne_of_lt (World.block_lt_of_cell? w ⟨B, o, none⟩ hc0)
  obtain ⟨hb, cx, cl, ch, hx, hs, hi', hsz, hsz4, hi5⟩ := hc
  have hc1 : w.cell? ⟨B, o + 1, none⟩ = some (.int .u8 b1) := by have := hr 1 (by omega); rw [show ((1 : Nat) : Int) = 1 from rfl, h1] at this; exact this
  have bd1 : 0 ≤ b1 ∧ b1 < 256 := by have := hbs.rd 1; rw [show ((1 : Nat) : Int) = 1 from rfl, h1] at this; exact this
  obtain ⟨bd1a, bd1b⟩ := bd1
  have hca1 : (w.alloc (.cells #[.int .u8 lo, .int .u8 hi] 159)).cell? ⟨B, o + 1, none⟩ = some (.int .u8 b1) := pw_cell_below (below_alloc (Below.refl _ _) _) hc1
  have H := Lib.hid h128
  clear h128
  clear hr h0 hbs h1
  have hl1 : decide ((sz : Int) ≤ (l.length : Int)) = false := decide_eq_false (by omega)
  have hl2 : decide (sz ≤ l.length) = false := decide_eq_false (by omega)
  have hl3 : ((l.length : Int) == 0) = false := by rw [beq_eq_false_iff_ne]; omega
  have hgt : 1 < l.length := by omega
  have hgt' : (1 : Int) < (l.length : Int) := by omega
  have hl4 : decide ((1 : Int) < (l.length : Int)) = true := decide_eq_true (by omega)
  have hl6 : decide (1 < l.length) = true := decide_eq_true (by omega)
  have q1 : decide (b1 < lo) = false := decide_eq_false (by omega)
  have q2 : decide (hi < b1) = false := decide_eq_false (by omega)
  have hl5 : decide ((2 : Int) < (l.length : Int)) = false := decide_eq_false (by omega)
  have hl7 : decide (2 < l.length) = false := decide_eq_false (by omega)
  clear h2l
  go_enter Tryz.func69, Tryz.ntmps69
  go_wp2_with (fail)
  go_region
  go_wp2_with (fail)
  go_returns
  exact ⟨false, rfl, fun _ => H.out, by repeat (first | exact Below.refl _ _ | apply below_alloc | apply pw_below_drewN | apply below_drew1)⟩
set_option maxRecDepth 100000 in
set_option maxHeartbeats 1600000 in
theorem f69f (B o c : Nat) (l : List Int) (b0 x sz i : Nat) (lo hi b1 b2 : Int) (w : World) (hc : Cls w b0 x sz i lo hi) (hr : RB w B o l) (hl : 0 < l.length) (hl2 : l.length ≤ 4000000000) (hbs : Bs l) (h0 : rd l 0 = (b0 : Int)) (hn : l.length < sz) (h1 : rd l 1 = b1) (h2l : 3 ≤ l.length) (hq1 : lo ≤ b1) (hq : b1 ≤ hi) (h2 : rd l 2 = b2) (hq2 : b2 < 128) :
    Calls Tryz.prog 69 #[.slice (some ⟨B, o, none⟩) l.length c] w (FullPost l w) := by
  have hc0 : w.cell? ⟨B, o, none⟩ = some (.int .u8 (b0 : Int)) := by have := hr 0 hl; rw [show ((0 : Nat) : Int) = 0 from rfl, h0] at this; exact this
  have hBne : B ≠ w.heap.size := Nat.ne_of_lt (World.block_lt_of_cell? w ⟨B, o, none⟩ hc0)
  obtain ⟨hb, cx, cl, ch, hx, hs, hi', hsz, hsz4, hi5⟩ := hc
  have hc1 : w.cell? ⟨B, o + 1, none⟩ = some (.int .u8 b1) := by have := hr 1 (by omega); rw [show ((1 : Nat) : Int) = 1 from rfl, h1] at this; exact this
  have bd1 : 0 ≤ b1 ∧ b1 < 256 := by have := hbs.rd 1; rw [show ((1 : Nat) : Int) = 1 from rfl, h1] at this; exact this
  obtain ⟨bd1a, bd1b⟩ := bd1
  have hca1 : (w.alloc (.cells #[.int .u8 lo, .int .u8 hi] 159)).cell? ⟨B, o + 1, none⟩ = some (.int .u8 b1) := pw_cell_below (below_alloc (Below.refl _ _) _) hc1
  have hc2 : w.cell? ⟨B, o + 2, none⟩ = some (.int .u8 b2) := by have := hr 2 (by omega); rw [show ((2 : Nat) : Int) = 2 from rfl, h2] at this; exact this
  have bd2 : 0 ≤ b2 ∧ b2 < 256 := by have := hbs.rd 2; rw [show ((2 : Nat) : Int) = 2 from rfl, h2] at this; exact this
  obtain ⟨bd2a, bd2b⟩ := bd2
  have hca2 : (w.alloc (.cells #[.int .u8 lo, .int .u8 hi] 159)).cell? ⟨B, o + 2, none⟩ = some (.int .u8 b2) := pw_cell_below (below_alloc (Below.refl _ _) _) hc2
  clear h2
  clear hr h0 hbs h1
  have hl1 : decide ((sz : Int) ≤ (l.length : Int)) = false := decide_eq_false (by omega)
  have hl2 : decide (sz ≤ l.length) = false := decide_eq_false (by omega)
  have hl3 : ((l.length : Int) == 0) = false := by rw [beq_eq_false_iff_ne]; omega
  have hgt : 1 < l.length := by omega
  have hgt' : (1 : Int) < (l.length : Int) := by omega
  have hl4 : decide ((1 : Int) < (l.length : Int)) = true := decide_eq_true (by omega)
  have hl6 : decide (1 < l.length) = true := decide_eq_true (by omega)
  have q1 : decide (b1 < lo) = false := decide_eq_false (by omega)
  have q2 : decide (hi < b1) = false := decide_eq_false (by omega)
  have hl5 : decide ((2 : Int) < (l.length : Int)) = true := decide_eq_true (by omega)
  have hl7 : decide (2 < l.length) = true := decide_eq_true (by omega)
  have q3 : decide (b2 < 128) = true := decide_eq_true (by omega)
  go_enter Tryz.func69, Tryz.ntmps69
  go_wp2_with (fail)
  go_region
  go_wp2_with (fail)
  go_returns
  exact full_yes (by repeat (first | exact Below.refl _ _ | apply below_alloc | apply pw_below_drewN | apply below_drew1))
set_option maxRecDepth 100000 in
set_option maxHeartbeats 1600000 in
theorem f69g (B o c : Nat) (l : List Int) (b0 x sz i : Nat) (lo hi b1 b2 : Int) (w : World) (hc : Cls w b0 x sz i lo hi) (hr : RB w B o l) (hl : 0 < l.length) (hl2 : l.length ≤ 4000000000) (hbs : Bs l) (h0 : rd l 0 = (b0 : Int)) (hn : l.length < sz) (h1 : rd l 1 = b1) (h2l : 3 ≤ l.length) (hq1 : lo ≤ b1) (hq : b1 ≤ hi) (h2 : rd l 2 = b2) (hq2 : 128 ≤ b2) (hq3 : 191 < b2) :
    Calls Tryz.prog 69 #[.slice (some ⟨B, o, none⟩) l.length c] w (FullPost l w) := by
  have hc0 : w.cell? ⟨B, o, none⟩ = some (.int .u8 (b0 : Int)) := by have := hr 0 hl; rw [show ((0 : Nat) : Int) = 0 from rfl, h0] at this; exact this
  have hBne : B ≠ w.heap.size := Nat.ne_of_lt (World.block_lt_of_cell? w ⟨B, o, none⟩ hc0)
  obtain ⟨hb, cx, cl, ch, hx, hs, hi', hsz, hsz4, hi5⟩ := hc
  have hc1 : w.cell? ⟨B, o + 1, none⟩ = some (.int .u8 b1) := by have := hr 1 (by omega); rw [show ((1 : Nat) : Int) = 1 from rfl, h1] at this; exact this
  have bd1 : 0 ≤ b1 ∧ b1 < 256 := by have := hbs.rd 1; rw [show ((1 : Nat) : Int) = 1 from rfl, h1] at this; exact this
  obtain ⟨bd1a, bd1b⟩ := bd1
  have hca1 : (w.alloc (.cells #[.int .u8 lo, .int .u8 hi] 159)).cell? ⟨B, o + 1, none⟩ = some (.int .u8 b1) := pw_cell_below (below_alloc (Below.refl _ _) _) hc1
  have hc2 : w.cell? ⟨B, o + 2, none⟩ = some (.int .u8 b2) := by have := hr 2 (by omega); rw [show ((2 : Nat) : Int) = 2 from rfl, h2] at this; exact this
  have bd2 : 0 ≤ b2 ∧ b2 < 256 := by have := hbs.rd 2; rw [show ((2 : Nat) : Int) = 2 from rfl, h2] at this; exact this
  obtain ⟨bd2a, bd2b⟩ := bd2
  have hca2 : (w.alloc (.cells #[.int .u8 lo, .int .u8 hi] 159)).cell? ⟨B, o + 2, none⟩ = some (.int .u8 b2) := pw_cell_below (below_alloc (Below.refl _ _) _) hc2
  clear h2
  clear hr h0 hbs h1
  have hl1 : decide ((sz : Int) ≤ (l.length : Int)) = false := decide_eq_false (by omega)
  have hl2 : decide (sz ≤ l.length) = false := decide_eq_false (by omega)
  have hl3 : ((l.length : Int) == 0) = false := by rw [beq_eq_false_iff_ne]; omega
  have hgt : 1 < l.length := by omega
  have hgt' : (1 : Int) < (l.length : Int) := by omega
  have hl4 : decide ((1 : Int) < (l.length : Int)) = true := decide_eq_true (by omega)
  have hl6 : decide (1 < l.length) = true := decide_eq_true (by omega)
  have q1 : decide (b1 < lo) = false := decide_eq_false (by omega)
  have q2 : decide (hi < b1) = false := decide_eq_false (by omega)
  have hl5 : decide ((2 : Int) < (l.length : Int)) = true := decide_eq_true (by omega)
  have hl7 : decide (2 < l.length) = true := decide_eq_true (by omega)
  have q3 : decide (b2 < 128) = false := decide_eq_false (by omega)
  have q4 : decide (191 < b2) = true := decide_eq_true (by omega)
  go_enter Tryz.func69, Tryz.ntmps69
  go_wp2_with (fail)
  go_region
  go_wp2_with (fail)
  go_returns
  exact full_yes (by repeat (first | exact Below.refl _ _ | apply below_alloc | apply pw_below_drewN | apply below_drew1))
set_option maxRecDepth 100000 in
set_option maxHeartbeats 1600000 in
theorem f69h (B o c : Nat) (l : List Int) (b0 x sz i : Nat) (lo hi b1 b2 : Int) (w : World) (hc : Cls w b0 x sz i lo hi) (hr : RB w B o l) (hl : 0 < l.length) (hl2 : l.length ≤ 4000000000) (hbs : Bs l) (h0 : rd l 0 = (b0 : Int)) (hn : l.length < sz) (h1 : rd l 1 = b1) (h2l : 3 ≤ l.length) (hq1 : lo ≤ b1) (hq : b1 ≤ hi) (h2 : rd l 2 = b2) (hq2 : 128 ≤ b2) (hq3 : b2 ≤ 191) (h128 : ∀ b ∈ l, 128 ≤ b) :
    Calls Tryz.prog 69 #[.slice (some ⟨B, o, none⟩) l.length c] w (FullPost l w) := by
  have hc0 : w.cell? ⟨B, o, none⟩ = some (.int .u8 (b0 : Int)) := by have := hr 0 hl; rw [show ((0 : Nat) : Int) = 0 from rfl, h0] at this; exact this
  have hBne : B ≠ w.heap.size := Nat.ne_of_lt (World.block_lt_of_cell? w ⟨B, o, none⟩ hc0)
  obtain ⟨hb, cx, cl, ch, hx, hs, hi', hsz, hsz4, hi5⟩ := hc
  have hc1 : w.cell? ⟨B, o + 1, none⟩ = some (.int .u8 b1) := by have := hr 1 (by omega); rw [show ((1 : Nat) : Int) = 1 from rfl, h1] at this; exact this
  have bd1 : 0 ≤ b1 ∧ b1 < 256 := by have := hbs.rd 1; rw [show ((1 : Nat) : Int) = 1 from rfl, h1] at this; exact this
  obtain ⟨bd1a, bd1b⟩ := bd1
  have hca1 : (w.alloc (.cells #[.int .u8 lo, .int .u8 hi] 159)).cell? ⟨B, o + 1, none⟩ = some (.int .u8 b1) := pw_cell_below (below_alloc (Below.refl _ _) _) hc1
  have H := Lib.hid h128
  clear h128
  have hc2 : w.cell? ⟨B, o + 2, none⟩ = some (.int .u8 b2) := by have := hr 2 (by omega); rw [show ((2 : Nat) : Int) = 2 from rfl, h2] at this; exact this
  have bd2 : 0 ≤ b2 ∧ b2 < 256 := by have := hbs.rd 2; rw [show ((2 : Nat) : Int) = 2 from rfl, h2] at this; exact this
  obtain ⟨bd2a, bd2b⟩ := bd2
  have hca2 : (w.alloc (.cells #[.int .u8 lo, .int .u8 hi] 159)).cell? ⟨B, o + 2, none⟩ = some (.int .u8 b2) := pw_cell_below (below_alloc (Below.refl _ _) _) hc2
  clear h2
  clear hr h0 hbs h1
  have hl1 : decide ((sz : Int) ≤ (l.length : Int)) = false := decide_eq_false (by omega)
  have hl2 : decide (sz ≤ l.length) = false := decide_eq_false (by omega)
  have hl3 : ((l.length : Int) == 0) = false := by rw [beq_eq_false_iff_ne]; omega
  have hgt : 1 < l.length := by omega
  have hgt' : (1 : Int) < (l.length : Int) := by omega
  have hl4 : decide ((1 : Int) < (l.length : Int)) = true := decide_eq_true (by omega)
  have hl6 : decide (1 < l.length) = true := decide_eq_true (by omega)
  have q1 : decide (b1 < lo) = false := decide_eq_false (by omega)
  have q2 : decide (hi < b1) = false := decide_eq_false (by omega)
  have hl5 : decide ((2 : Int) < (l.length : Int)) = true := decide_eq_true (by omega)
  have hl7 : decide (2 < l.length) = true := decide_eq_true (by omega)
  have q3 : decide (b2 < 128) = false := decide_eq_false (by omega)
  have q4 : decide (191 < b2) = false := decide_eq_false (by omega)
  go_enter Tryz.func69, Tryz.ntmps69
  go_wp2_with (fail)
  go_region
  go_wp2_with (fail)
  go_returns
  exact ⟨false, rfl, fun _ => H.out, by repeat (first | exact Below.refl _ _ | apply below_alloc | apply pw_below_drewN | apply below_drew1)⟩
theorem rlo_ge (b : Int) : 128 ≤ rlo b := by
  unfold rlo
  split
  · omega
  · split <;> omega
theorem all_high (l : List Int) (h : ∀ j, j < l.length → 128 ≤ rd l (j : Int)) : ∀ b ∈ l, 128 ≤ b := by
  intro b hb
  obtain ⟨j, hj, rfl⟩ := List.mem_iff_getElem.1 hb
  have := h j hj
  rw [rd_getD, List.getD_eq_getElem?_getD, List.getElem?_eq_getElem hj] at this
  exact this
theorem f69 (B o c : Nat) (l : List Int) (w : World) (G : GV) (hE : Env w G) (hr : RB w B o l) (hl : 0 < l.length) (hl2 : l.length ≤ 4000000000) (hbs : Bs l) (h128 : 128 ≤ rd l 0) :
    Calls Tryz.prog 69 #[.slice (some ⟨B, o, none⟩) l.length c] w (FullPost l w) := by
  have hb := hbs.rd 0
  rw [show ((0 : Nat) : Int) = 0 from rfl] at hb
  obtain ⟨b0, h0⟩ : ∃ b0 : Nat, rd l 0 = (b0 : Int) := ⟨(rd l 0).toNat, by omega⟩
  by_cases hc : b0 < 194 ∨ 244 < b0
  · exact f69x B o c l b0 w G hE hr hl hl2 h0 (by omega) (firstK_bad b0 (by omega) (by omega) hc)
  · obtain ⟨x, sz, i, hcl, hsz⟩ := cls_of hE b0 (by omega) (by omega)
    by_cases hn : sz ≤ l.length
    · exact f69a B o c l b0 x sz i _ _ w hcl hr hl hl2 h0 hn
    · have hlo := rlo_ge b0
      have hs4 := hcl.hsz4
      have all : (2 ≤ l.length → 128 ≤ rd l 1) → (3 ≤ l.length → 128 ≤ rd l 2) → ∀ b ∈ l, 128 ≤ b := fun a1 a2 => all_high l fun j hj => by
        rcases j with _ | _ | _ | j
        · exact h128
        · exact a1 (by omega)
        · exact a2 (by omega)
        · omega
      by_cases e1 : l.length = 1
      · exact f69b B o c l b0 x sz i _ _ w hcl hr hl hl2 h0 (by omega) e1 (all (fun h => by omega) (fun h => by omega))
      · by_cases q1 : rd l 1 < rlo b0
        · exact f69c B o c l b0 x sz i _ _ _ 0 w hcl hr hl hl2 hbs h0 (by omega) rfl (by omega) q1
        · by_cases q2 : rhi b0 < rd l 1
          · exact f69d B o c l b0 x sz i _ _ _ 0 w hcl hr hl hl2 hbs h0 (by omega) rfl (by omega) (by omega) q2
          · by_cases e2 : l.length = 2
            · exact f69e B o c l b0 x sz i _ _ _ 0 w hcl hr hl hl2 hbs h0 (by omega) rfl e2 (by omega) (by omega) (all (fun h => by omega) (fun h => by omega))
            · by_cases q3 : rd l 2 < 128
              · exact f69f B o c l b0 x sz i _ _ _ _ w hcl hr hl hl2 hbs h0 (by omega) rfl (by omega) (by omega) (by omega) rfl q3
              · by_cases q4 : 191 < rd l 2
                · exact f69g B o c l b0 x sz i _ _ _ _ w hcl hr hl hl2 hbs h0 (by omega) rfl (by omega) (by omega) (by omega) rfl (by omega) q4
                · exact f69h B o c l b0 x sz i _ _ _ _ w hcl hr hl hl2 hbs h0 (by omega) rfl (by omega) (by omega) (by omega) rfl (by omega) (by omega) (all (fun h => by omega) (fun h => by omega))
end Go.Proofs.YtjfbkgkpjkickaaGreatDoor.PAll
