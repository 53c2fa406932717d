/- FnBrackets, the tied card: the law returns true, whatever the input (a text of brackets alone is a value exactly if it is one array of arrays, at most one within each: so many brackets open and so many shut). Conditions: the listed package-level variables hold what the program's text lays in them (the card ties them). -/
import Derived.Test.YtjfbkgkpjkickaaGreatDoorVFA
import Derived.Test.YtjfbkgkpjkickaaGreatDoorVU2
import Derived.Test.YtjfbkgkpjkickaaGreatDoorVU3
import Derived.Test.YtjfbkgkpjkickaaGreatDoorVU4
import Derived.Test.YtjfbkgkpjkickaaGreatDoorVU5
import Derived.Test.YtjfbkgkpjkickaaGreatDoorVU6
import Derived.Test.YtjfbkgkpjkickaaGreatDoorVU7
import Derived.Test.YtjfbkgkpjkickaaGreatDoorVU8
import Derived.Test.YtjfbkgkpjkickaaGreatDoorVU9
import Derived.Test.YtjfbkgkpjkickaaGreatDoorVU10
import Derived.Test.YtjfbkgkpjkickaaGreatDoorVU11
import Derived.Test.YtjfbkgkpjkickaaGreatDoorVU12
import Derived.Test.YtjfbkgkpjkickaaGreatDoorVU13
import Derived.Test.YtjfbkgkpjkickaaGreatDoorVU14
import Derived.Test.YtjfbkgkpjkickaaGreatDoorVU15
import Derived.Test.YtjfbkgkpjkickaaGreatDoorVU16
import Derived.Test.YtjfbkgkpjkickaaGreatDoorVU17
import Derived.Test.YtjfbkgkpjkickaaGreatDoorVU18
import Derived.Test.YtjfbkgkpjkickaaGreatDoorVU19
import Derived.Test.YtjfbkgkpjkickaaGreatDoorVU20
import Derived.Test.YtjfbkgkpjkickaaGreatDoorVU21
import Derived.Test.YtjfbkgkpjkickaaGreatDoorVU22
import Derived.Test.YtjfbkgkpjkickaaGreatDoorVU23
import Derived.Test.YtjfbkgkpjkickaaGreatDoorVU24
import Derived.Test.YtjfbkgkpjkickaaGreatDoorVU25
import Derived.Test.YtjfbkgkpjkickaaGreatDoorVU26
import Derived.Test.YtjfbkgkpjkickaaGreatDoorVF2
import Derived.Test.YtjfbkgkpjkickaaGreatDoorVF9
import Derived.Test.YtjfbkgkpjkickaaGreatDoorVF10
set_option linter.unusedVariables false
set_option linter.unusedSimpArgs false
-- YtjfbkgkpjkickaaGreatDoorFl
set_option linter.unusedVariables false
namespace Go.Proofs.YtjfbkgkpjkickaaGreatDoor.PAll
open Go.RowKit Go.Proofs.YtjfbkgkpjkickaaGreatDoorW.PrintWords Go.Proofs.YtjfbkgkpjkickaaGreatDoorW.PrintLast Go.Proofs.YtjfbkgkpjkickaaGreatDoorW.PrintMore

theorem rd_rep (n j : Nat) (x : Int) (h : j < n) : rd (List.replicate n x) (j : Int) = x := by
  rw [rd_getD, List.getD_eq_getElem?_getD, List.getElem?_replicate, if_pos h]
  rfl
theorem brk_rep (n m : Nat) : Brk (List.replicate n 91 ++ List.replicate m 93) n m where
  len := by simp
  op := fun j h => by rw [rd_app_left _ _ _ (by simpa using h), rd_rep n j 91 h]
  sh := fun j h1 h2 => by
    obtain ⟨i, rfl⟩ : ∃ i, j = n + i := ⟨j - n, by omega⟩
    have := rd_app_right (List.replicate n (91 : Int)) (List.replicate m 93) i
    rw [List.length_replicate] at this
    rw [this, rd_rep m i 93 (by omega)]
theorem isv_brk {w : World} {G : GV} (hE : Env w G) (hS : Sent w G w.heap.size) (n m : Nat) (W : World) (x : ByteArray) (hn : n ≤ 400) (hm : m ≤ 400) (hb : Below w.heap.size w W) (hx : bytesOf x = List.replicate n 91 ++ List.replicate m 93) :
    Calls Tryz.prog 16 #[.string x, optsV false false] W (IsV (n = m ∧ 0 < n) W) := by
  have hbk := brk_rep n m
  rw [← hx] at hbk
  have hlen : x.size ≤ 4000000000 := by have := hbk.len; rw [bytesOf_length] at this; omega
  have hS' : Sent W G W.heap.size := ⟨fun a ha => Nat.lt_of_lt_of_le (hS.lt a ha) hb.size, (hS.mono hb).blk⟩
  have hws : wsN (bytesOf x) = 0 := by have := hbk.ws 0; rwa [List.drop_zero] at this
  rcases n with _ | k
  · have h93 : 0 < (bytesOf x).length → rd (bytesOf x) ((0 : Nat) : Int) = 93 := fun h => hbk.sh 0 (Nat.le_refl _) (by have := hbk.len; omega)
    have h0 : (bytesOf x).length = 0 → rd (bytesOf x) ((0 : Nat) : Int) = 0 := fun h => by rw [List.eq_nil_of_length_eq_zero h]; rfl
    have hne : rd (bytesOf x) ((0 : Nat) : Int) = 93 ∨ rd (bytesOf x) ((0 : Nat) : Int) = 0 := by
      rcases Nat.eq_zero_or_pos (bytesOf x).length with h | h
      · exact .inr (h0 h)
      · exact .inl (h93 h)
    refine (isv false false x W G (hE.mono hb) hS' hlen (by rw [hws]; omega) (by rw [hws]; omega)).mono fun e w' ⟨r, h1, h2, h3⟩ => ⟨r, h1, h2.trans ⟨fun ⟨q, v1, v2, v3⟩ => ?_, fun h => absurd h.2 (by omega)⟩, h3⟩
    rw [hws] at v1 v2
    have hk := scalEnd_kind (!false) _ _ v2
    rw [List.drop_zero] at hk
    rw [show ((0 : Nat) : Int) = 0 from rfl] at h93
    rw [h93 v1] at hk
    unfold isD at hk
    omega
  · refine (f16b false false x (k + 1) m k W G false false (opt_of false false) (hE.mono hb) hS' hlen hbk (by omega) rfl).mono fun e w' ⟨r, h1, h2, h3⟩ => ⟨r, h1, h2.trans ⟨fun h => ⟨h, by omega⟩, fun h => h.1⟩, h3⟩
end Go.Proofs.YtjfbkgkpjkickaaGreatDoor.PAll
namespace Go.Proofs.YtjfbkgkpjkickaaGreatDoor
open Go
theorem fnBrackets_card : Rows.FnBracketsCardSaid :=
  fnBrackets_card0 (fun x y W G hE hS => PAll.w6 x y W (fun n m W2 x2 hn hm hb2 hx2 => PAll.isv_brk hE hS n m W2 x2 hn hm hb2 hx2))
end Go.Proofs.YtjfbkgkpjkickaaGreatDoor
