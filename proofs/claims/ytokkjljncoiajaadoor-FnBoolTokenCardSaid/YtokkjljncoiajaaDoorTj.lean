/- FnBoolToken, the tied card: the token of a truth value is true or false, and tells it again. Conditions: the listed package-level variables hold what the program's text lays in them (the card ties them). -/
import Derived.Test.YtokkjljncoiajaaDoorTi
import Derived.Test.YtokkjljncoiajaaDoorCards
import Derived.Test.YtokkjljncoiajaaDoorTie
import Derived.SevenTiedAt
namespace Go.Proofs.YtokkjljncoiajaaDoor
open Go
theorem fnBoolToken_card : Rows.FnBoolTokenCardSaid :=
  Claim7.holds_tied_plain_at .later [] [.data, .data, .data, .data, .data, .sentinel, .data, .sentinel, .data, .pinned, .pinned, .pinned] true (true, "7ab73ff569cbd71ac8a6fb112f887a10d91a7a66b418e02ed23eb6e8120430dc") false
    fnBoolToken_holds (fun _ h => by cases h) (by kernel_rfl) (fun _ h => by cases h) fnBoolToken_row_tie rfl ⟨rfl, rfl⟩ (by kernel_rfl) rfl
    (fun f fn hf hfn => by
      obtain rfl : f = 6 := Option.some.inj ((show Tryd.prog.funcNamed "loop.example/pub-g01450/laws.FnBoolToken" = some 6 by kernel_rfl).symm.trans hf) |>.symm
      obtain rfl : fn = Tryd.f6 := (Option.some.inj (Tryd.func6.symm.trans hfn)).symm
      exact ⟨by kernel_rfl, fun j t ht => by
        rw [Tryd.params6] at ht
        have h4 : t = 4 := by
          rcases j with _ | j
          · simpa using ht.symm
          · simp at ht
        subst h4
        exact (show Tryd.prog.wantsStandIn 4 = false by kernel_rfl)⟩)
    (by kernel_rfl)
end Go.Proofs.YtokkjljncoiajaaDoor
