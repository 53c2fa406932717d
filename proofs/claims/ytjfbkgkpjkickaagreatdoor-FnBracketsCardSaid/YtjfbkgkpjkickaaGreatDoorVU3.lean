/- The texts of a proof, its declarations alone: part 3. -/
import Derived.Laws.Runes
import Derived.Test.YtjfbkgkpjkickaaGreatDoorVU2
set_option linter.unusedVariables false
set_option linter.unusedSimpArgs false
-- YtjfbkgkpjkickaaGreatDoorBh
set_option linter.unusedVariables false
set_option linter.unusedSimpArgs false
namespace Go.Proofs.YtjfbkgkpjkickaaGreatDoor.PAll
open Go.RowKit Go.Proofs.YtjfbkgkpjkickaaGreatDoorW.PrintWords Go.Proofs.YtjfbkgkpjkickaaGreatDoorW.PrintLast Go.Proofs.YtjfbkgkpjkickaaGreatDoorW.PrintMore

set_option maxRecDepth 100000 in
theorem f64 (B o c : Nat) (l : List Int) (w : World) (hr : RB w B o l) (hl2 : l.length ≤ 4000000000) (hc : l.length ≤ c) :
    Calls Tryz.prog 64 #[.slice (some ⟨B, o, none⟩) l.length c] w (ErrPost w) := by
  have hcv := take_conv l.length B o c l w hr (Nat.le_refl _)
  rw [List.take_length] at hcv
  generalize strOfNums l = str at *
  clear hr
  by_cases h6 : 6 < l.length
  · have d1 : decide ((6 : Int) < (l.length : Int)) = true := decide_eq_true (by omega)
    have d2 : decide (6 < l.length) = true := decide_eq_true h6
    go_enter Tryz.func64, Tryz.ntmps64
    go_wp2_with (fail)
    go_returns
    exact ⟨_, rfl, by repeat (first | exact Below.refl _ _ | apply below_alloc)⟩
  · have d1 : decide ((6 : Int) < (l.length : Int)) = false := decide_eq_false (by omega)
    have d2 : decide (6 < l.length) = false := decide_eq_false h6
    go_enter Tryz.func64, Tryz.ntmps64
    go_wp2_with (fail)
    go_returns
    exact ⟨_, rfl, by repeat (first | exact Below.refl _ _ | apply below_alloc)⟩
theorem enc_byte (x : UInt8) : ∃ z : ByteArray, (∀ W, (convert 5 9 (.int .u8 (x.toNat : Int))).run Tryz.prog W = .ok (.string z) W) ∧ z.size ≤ 4 := by
  refine ⟨Utf8.encode (x.toNat : Int), fun W => run_convert_int_string W 5 9 .u8 _ (by kernel_rfl) Tryz.underlying9, ?_⟩
  have hx := x.toNat_lt
  by_cases h : x.toNat < 128
  · unfold Utf8.encode
    split
    · rw [if_pos (by omega)]; exact Nat.le_of_lt (by show 1 < 4; decide)
    · decide
  · have hv : Utf8.valid (x.toNat : Int) = true := by
      unfold Utf8.valid
      simp
      omega
    exact (encode_facts _ hv (by omega)).2.1
theorem pre_of {s : ByteArray} {l : List Int} (h : s.size ≤ l.length) (hm : ∀ j, j < s.size → rd l (j : Int) = bt s (j : Int)) : pre (bytesOf s) l := by
  unfold pre
  have hl := bytesOf_length s
  refine List.ext_getElem (by rw [List.length_take]; omega) fun j h1 h2 => ?_
  rw [hl] at h2
  have := hm j h2
  rw [← rd_bytesOf, rd_getD, rd_getD, List.getD_eq_getElem?_getD, List.getD_eq_getElem?_getD, List.getElem?_eq_getElem (by omega), List.getElem?_eq_getElem (by omega)] at this
  rw [List.getElem_take]
  exact this
end Go.Proofs.YtjfbkgkpjkickaaGreatDoor.PAll
