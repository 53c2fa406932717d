/- FnBoolToken: the law's walk. -/
import Derived.Test.YtokkjljncoiajaaDoorTf
import Derived.Test.YtokkjljncoiajaaDoorTg
namespace Go.Proofs.YtokkjljncoiajaaDoor
open Go.RowKit
set_option maxRecDepth 100000 in
theorem w6t (w : World) (hk : w.cell? ⟨0, 116, none⟩ = some (.int .u8 116)) (h0 : 1 ≤ w.heap.size) : Calls Tryd.prog 6 #[.bool true] w fun e w' => e = .returned (.bool true) ∧ Below w.heap.size w w' := by
  have HC := Lib.hid (w14t w hk h0)
  clear hk h0
  go_enter Tryd.func6, Tryd.ntmps6
  go_wp2_with (fail)
  refine (HC.out).mono ?_
  rintro e w' ⟨rfl, q⟩
  have Q := Lib.hid q
  clear q
  go_wp2_with (fail)
  go_returns
  exact ⟨rfl, Q.out⟩
set_option maxRecDepth 100000 in
theorem w6f (w : World) (hk : w.cell? ⟨0, 102, none⟩ = some (.int .u8 102)) (h0 : 1 ≤ w.heap.size) : Calls Tryd.prog 6 #[.bool false] w fun e w' => e = .returned (.bool true) ∧ Below w.heap.size w w' := by
  have HC := Lib.hid (w14f w hk h0)
  clear hk h0
  go_enter Tryd.func6, Tryd.ntmps6
  go_wp2_with (fail)
  refine (HC.out).mono ?_
  rintro e w' ⟨rfl, q⟩
  have Q := Lib.hid q
  clear q
  go_wp2_with (fail)
  go_returns
  exact ⟨rfl, Q.out⟩
end Go.Proofs.YtokkjljncoiajaaDoor
