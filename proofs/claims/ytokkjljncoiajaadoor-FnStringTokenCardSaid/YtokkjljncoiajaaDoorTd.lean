/- The tokens: kind and text of a raw token. -/
import Derived.Test.YtokkjljncoiajaaDoorTc
import Derived.Deep.QuietTactic
import Derived.BigQuiet
import Derived.Deep.RegionWith
import Derived.Deep.Draws
import Derived.Laws.BytesArg
import Derived.Laws.BytesString
namespace Go.Proofs.YtokkjljncoiajaaDoor
open Go.RowKit
set_option maxRecDepth 100000 in
theorem w25 (g b cap : Nat) (s : ByteArray) (w : World) (h : RawAt w g b cap s) : Calls Tryd.prog 25 #[.pointer (some ⟨g, 0, none⟩)] w fun e w' => e = .returned (.int .i64 0) ∧ ∃ n, w' = w.drewN n := by
  have H := h.blk
  have c0 : w.cell? ⟨g, 3, none⟩ = some (.int .i64 0) := by simp [World.cell?, H]
  have c1 : w.cell? ⟨g, 5, none⟩ = some (.int .i64 0) := by simp [World.cell?, H]
  clear H h
  go_enter Tryd.func25, Tryd.ntmps25
  go_wp2_with (fail)
  go_quiet (fail)
  go_wp2_with (fail)
  go_returns
  exact ⟨rfl, _, rfl⟩
set_option maxRecDepth 100000 in
theorem w34 (g b cap : Nat) (s : ByteArray) (w : World) (h : RawAt w g b cap s) (hs : s.size ≤ 1000) : Calls Tryd.prog 34 #[.pointer (some ⟨g, 0, none⟩)] w fun e w' => e = .returned (.slice (some ⟨b, 0, none⟩) s.size cap) ∧ ∃ n, w' = w.drewN n := by
  have H := h.blk
  have c0 : w.cell? ⟨g, 2, none⟩ = some (.slice (some ⟨b, 0, none⟩) s.size cap) := by simp [World.cell?, H]
  have c1 : w.cell? ⟨g, 3, none⟩ = some (.int .i64 0) := by simp [World.cell?, H]
  have c2 : w.cell? ⟨g, 4, none⟩ = some (.int .i64 s.size) := by simp [World.cell?, H]
  have l1 := h.cap1
  have l2 := h.cap2 (by omega)
  obtain ⟨n, hn⟩ : ∃ n, n = s.size := ⟨_, rfl⟩
  rw [← hn] at c0 c2 l1 hs ⊢
  clear H h l2 hn
  go_enter Tryd.func34, Tryd.ntmps34
  go_wp2_with (fail)
  go_quiet (fail)
  go_wp2_with (fail)
  go_returns
  exact ⟨by simp, _, rfl⟩
set_option maxRecDepth 100000 in
theorem w26 (c k : Nat) (w : World) (hc : c < 256) (h : w.cell? ⟨0, c, none⟩ = some (.int .u8 k)) : Calls Tryd.prog 26 #[.int .u8 c] w fun e w' => e = .returned (.int .u8 k) ∧ w' = w := by
  go_enter Tryd.func26, Tryd.ntmps26
  go_wp2_with (fail)
  go_returns
  exact ⟨rfl, rfl⟩
theorem bdn {B : Nat} {a w : World} (h : Below B a w) (n : Nat) : Below B a (w.drewN n) := ⟨h.os, h.tape, h.output, h.size, h.block⟩
theorem RawAt.drewN {w : World} {g b cap : Nat} {s : ByteArray} (h : RawAt w g b cap s) (n : Nat) : RawAt (w.drewN n) g b cap s := h.move rfl rfl
theorem RawAt.lt {w : World} {g b cap : Nat} {s : ByteArray} (h : RawAt w g b cap s) : g < w.heap.size := (Array.getElem?_eq_some_iff.1 h.blk).1
theorem RawAt.ltb {w : World} {g b cap : Nat} {s : ByteArray} (h : RawAt w g b cap s) (hs : 1 ≤ s.size) : b < w.heap.size := by
  have := h.bytes 0 hs
  rcases Nat.lt_or_ge b w.heap.size with h1 | h1
  · exact h1
  · simp [World.cell?, Array.getElem?_eq_none h1] at this
theorem RawAt.alloc {w : World} {g b cap : Nat} {s : ByteArray} (h : RawAt w g b cap s) (hs : 1 ≤ s.size) (o : Obj) : RawAt (w.alloc o) g b cap s :=
  h.move (heap_alloc_old w o h.lt) (heap_alloc_old w o (h.ltb hs))
set_option maxRecDepth 100000 in
theorem w16 (g b cap : Nat) (s : ByteArray) (c k : Nat) (w : World) (h : RawAt w g b cap s) (hs : 1 ≤ s.size) (hc : (s.data.toList.getD 0 0).toNat = c) (hk : w.cell? ⟨0, c, none⟩ = some (.int .u8 k)) (h0 : 1 ≤ w.heap.size) :
    Calls Tryd.prog 16 #[tok g] w fun e w' => e = .returned (.int .u8 k) ∧ Below w.heap.size w w' := by
  obtain ⟨W, hW⟩ : ∃ x, x = w.alloc (.cells #[.pointer (some ⟨g, 0, none⟩), .string ⟨#[]⟩, .int .u64 0] 40) := ⟨_, rfl⟩
  have A : RawAt W g b cap s := hW ▸ h.alloc hs _
  have C := fun n => w25 g b cap s (W.drewN n) (A.drewN n)
  have k1 : W.cell? ⟨0, c, none⟩ = some (.int .u8 k) := by
    rw [hW, ← hk]; simp only [World.cell?, heap_alloc_old w _ (show 0 < w.heap.size by omega)]
  have hc2 : c < 256 := by rw [← hc]; exact UInt8.toNat_lt _
  have C26 := fun n => w26 c k (W.drewN n) hc2 (by simpa using k1)
  have H := A.blk
  have a0 : W.cell? ⟨g, 2, none⟩ = some (.slice (some ⟨b, 0, none⟩) s.size cap) := by simp [World.cell?, H]
  have a1 : W.cell? ⟨g, 3, none⟩ = some (.int .i64 0) := by simp [World.cell?, H]
  have a2 : W.cell? ⟨b, 0, none⟩ = some (.int .u8 c) := by rw [A.bytes 0 hs, hc]
  have n1 := Nat.ne_of_lt h.lt
  have n2 := Nat.ne_of_lt (h.ltb hs)
  have n3 : 0 ≠ w.heap.size := by omega
  obtain ⟨n, hn⟩ : ∃ n, n = s.size := ⟨_, rfl⟩
  rw [← hn] at a0 hs
  have hs1 : 0 < n := hs
  have hs2 : (0 : Int) < (n : Int) := by omega
  have HC := Lib.hid C
  have HC26 := Lib.hid C26
  clear C C26 H A h hk k1 hc hn
  subst hW
  unfold tok
  go_enter Tryd.func16, Tryd.ntmps16
  go_wp2_with (fail)
  go_quiet ((go_at_call 25; exact Calls.quiet_of (HC.out _)))
  go_wp2_with (fail)
  go_quiet ((go_at_call 26; exact (HC26.out _).mono fun _ _ h => ⟨h.1, _, h.2⟩))
  go_wp2_with (fail)
  go_returns
  exact ⟨rfl, bdn (bdn ((Below.refl w.heap.size w).alloc (Nat.le_refl _) _) _) _⟩
set_option maxRecDepth 100000 in
theorem w27 (g b cap : Nat) (s : ByteArray) (c : Nat) (w : World) (h : RawAt w g b cap s) (hs : 1 ≤ s.size) (hs2 : s.size ≤ 1000) (hc : (s.data.toList.getD 0 0).toNat = c) (hq : c ≠ 34) :
    Calls Tryd.prog 27 #[tok g] w fun e w' => e = .returned (.tuple #[.string ⟨#[]⟩, .slice (some ⟨b, 0, none⟩) s.size cap]) ∧ Below w.heap.size w w' := by
  obtain ⟨W, hW⟩ : ∃ x, x = w.alloc (.cells #[.pointer (some ⟨g, 0, none⟩), .string ⟨#[]⟩, .int .u64 0] 40) := ⟨_, rfl⟩
  have A : RawAt W g b cap s := hW ▸ h.alloc hs _
  have C := fun n => w25 g b cap s (W.drewN n) (A.drewN n)
  have C34 := fun n => w34 g b cap s (W.drewN n) (A.drewN n) hs2
  have a2 : W.cell? ⟨b, 0, none⟩ = some (.int .u8 c) := by rw [A.bytes 0 hs, hc]
  have tq : ((c : Int) == 34) = false := by rw [beq_eq_false_iff_ne]; omega
  obtain ⟨n, hn⟩ : ∃ n, n = s.size := ⟨_, rfl⟩
  rw [← hn] at hs C34 ⊢
  have hs1 : 0 < n := hs
  have hs2 : (0 : Int) < (n : Int) := by omega
  have HC := Lib.hid C
  have HC34 := Lib.hid C34
  clear C C34 A h hc hn hq
  subst hW
  unfold tok
  go_enter Tryd.func27, Tryd.ntmps27
  go_wp2_with (fail)
  go_quiet ((go_at_call 25; exact Calls.quiet_of (HC.out _)))
  go_wp2_with (fail)
  refine (HC34.out _).mono ?_
  rintro e w' ⟨rfl, m, rfl⟩
  go_wp2_with (fail)
  go_returns
  exact ⟨rfl, by repeat (first | exact (Below.refl w.heap.size w).alloc (Nat.le_refl _) _ | refine bdn ?_ _)⟩
theorem convS {w : World} {g b cap : Nat} {s : ByteArray} (h : RawAt w g b cap s) : (convert 55 9 (.slice (some ⟨b, 0, none⟩) s.size cap)).run Tryd.prog w = .ok (.string s) w := by
  have hl : (loadCells ⟨b, 0, none⟩ s.size).run Tryd.prog w = .ok ((s.data.toList.map fun x => (x.toNat : Int)).map (Value.int .u8)).toArray w := by
    have := run_loadCells_list (P := Tryd.prog) w ⟨b, 0, none⟩ ((s.data.toList.map fun x => (x.toNat : Int)).map (Value.int .u8)) (fun j v hj => by
      rw [List.getElem?_map, List.getElem?_map] at hj
      cases hx : s.data.toList[j]? with
      | none => rw [hx] at hj; simp at hj
      | some x =>
        rw [hx] at hj
        simp only [Option.map_some, Option.some.injEq] at hj
        have hjl : j < s.data.toList.length := (List.getElem?_eq_some_iff.1 hx).1
        have e := h.bytes j (by simpa using hjl)
        have ha : (⟨b, 0, none⟩ : Addr).add j = ⟨b, j, none⟩ := by unfold Addr.add; split <;> simp_all
        rw [ha, e, List.getD_eq_getElem?_getD, hx, ← hj]
        rfl)
    have hlen : ((s.data.toList.map fun x => (x.toNat : Int)).map (Value.int .u8)).length = s.size := by simp
    rwa [hlen] at this
  rw [run_convert_bytes_string w 55 9 5 _ s.size cap Tryd.underlying55 Tryd.underlying5 Tryd.underlying9, run_bytesToString w _ s.size cap _ hl, foldl_push_bytes]
  congr 2
  have : (List.map (fun n : Int => UInt8.ofNat n.toNat) (s.data.toList.map fun x => (x.toNat : Int))) = s.data.toList := by
    rw [List.map_map]
    exact (List.map_congr_left (fun x _ => by simp)).trans (List.map_id _)
  rw [this]
  cases s
  simp [ByteArray.empty, ByteArray.emptyWithCapacity]
  rfl
set_option maxRecDepth 100000 in
theorem w17 (g b cap : Nat) (s : ByteArray) (c : Nat) (w : World) (h : RawAt w g b cap s) (hs : 1 ≤ s.size) (hs2 : s.size ≤ 1000) (hc : (s.data.toList.getD 0 0).toNat = c) (hq : c ≠ 34) :
    Calls Tryd.prog 17 #[tok g] w fun e w' => e = .returned (.string s) ∧ Below w.heap.size w w' := by
  obtain ⟨W, hW⟩ : ∃ x, x = w.alloc (.cells #[.pointer (some ⟨g, 0, none⟩), .string ⟨#[]⟩, .int .u64 0] 40) := ⟨_, rfl⟩
  have A : RawAt W g b cap s := hW ▸ h.alloc hs _
  have BW : Below w.heap.size w W := by rw [hW]; exact (Below.refl w.heap.size w).alloc (Nat.le_refl _) _
  have C : Calls Tryd.prog 27 #[tok g] W fun e w' => (e = .returned (.tuple #[.string ⟨#[]⟩, .slice (some ⟨b, 0, none⟩) s.size cap])) ∧ (∃ x, x = w' ∧ (convert 55 9 (.slice (some ⟨b, 0, none⟩) s.size cap)).run Tryd.prog w' = .ok (.string s) w') ∧ Below w.heap.size w w' :=
    (w27 g b cap s c W A hs hs2 hc hq).mono fun e w' ⟨h1, h2⟩ => ⟨h1, ⟨_, rfl, convS (A.move (h2.block g A.lt) (h2.block b (A.ltb hs)))⟩, BW.trans (h2.mono BW.size)⟩
  obtain ⟨n, hn⟩ : ∃ n, n = s.size := ⟨_, rfl⟩
  rw [← hn] at hs C
  have hs1 : 0 < n := hs
  have hs2 : (0 : Int) < (n : Int) := by omega
  have ts : decide ((n : Int) > 0) = true := by rw [decide_eq_true_iff]; omega
  unfold tok at C
  have HC := Lib.hid C
  clear C A h hc hn hq BW
  subst hW
  unfold tok
  go_enter Tryd.func17, Tryd.ntmps17
  go_wp2_with (fail)
  refine (HC.out).mono ?_
  rintro e w' ⟨rfl, ⟨_, rfl, cv⟩, q⟩
  have Q := Lib.hid q
  clear q
  go_wp2_with (fail)
  go_returns
  exact ⟨rfl, Q.out⟩
end Go.Proofs.YtokkjljncoiajaaDoor
