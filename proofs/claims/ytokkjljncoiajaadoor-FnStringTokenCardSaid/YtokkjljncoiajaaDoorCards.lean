/-
  DERIVED. GIVEN WITH THE SEED: THE CARDS: each row of YtokkjljncoiajaaDoorRows.lean that lists a variable, with what it lists TIED to the program's text (the seventh form; the later family's looks); each row that meets fmt, with fmt's text TOLD by the authors' own Lean function (tested against real Go, not proved from fmt's source: count such statements apart). THE CARD IS WHAT COUNTS. Prove the row's statement (the work); the ties are given (YtokkjljncoiajaaDoorTie.lean); close each card by the builder's one call (the guide's Derived/Test/ToyasCard.lean, 'card_holds'). Laid BY PROGRAM, IN A SANDBOX (cutbox-door.mjs). By AI agents, Wed Nov 11 2026. No macro, syntax, notation, axiom, sorry.
-/
import Derived.Test.YtokkjljncoiajaaDoorRows
import GoSem.ClaimSeven
namespace Go.Proofs.YtokkjljncoiajaaDoor
namespace Rows

/-- THE TIED CARD OF 'laws.FnIntToken'. -/
def fnIntTokenCard : Claim7 := { stood := { row := fnIntTokenRow, standIns := [], harness := (true, "7ab73ff569cbd71ac8a6fb112f887a10d91a7a66b418e02ed23eb6e8120430dc"), looks := false }, kinds := [], alts := [], laidByText := true, laidKinds := [.data, .data, .data, .data, .data, .sentinel, .data, .sentinel, .data, .pinned, .pinned, .pinned], laidTests := true, laidLooks := .later }
def FnIntTokenCardSaid : Prop := Claim7.holds Tryd.pinned (.plain (OpenSpec.ofChange fnIntTokenSpec)) fnIntTokenCard

/-- THE TIED CARD OF 'laws.FnStringToken'. -/
def fnStringTokenCard : Claim7 := { stood := { row := fnStringTokenRow, standIns := [], harness := (true, "7ab73ff569cbd71ac8a6fb112f887a10d91a7a66b418e02ed23eb6e8120430dc"), looks := false }, kinds := [], alts := [], laidByText := true, laidKinds := [.data, .data, .data, .data, .data, .sentinel, .data, .sentinel, .data, .pinned, .pinned, .pinned], laidTests := true, laidLooks := .later }
def FnStringTokenCardSaid : Prop := Claim7.holds Tryd.pinned (.plain (OpenSpec.ofChange fnStringTokenSpec)) fnStringTokenCard

/-- THE TIED CARD OF 'laws.FnUintToken'. -/
def fnUintTokenCard : Claim7 := { stood := { row := fnUintTokenRow, standIns := [], harness := (true, "7ab73ff569cbd71ac8a6fb112f887a10d91a7a66b418e02ed23eb6e8120430dc"), looks := false }, kinds := [], alts := [], laidByText := true, laidKinds := [.data, .data, .data, .data, .data, .sentinel, .data, .sentinel, .data, .pinned, .pinned, .pinned], laidTests := true, laidLooks := .later }
def FnUintTokenCardSaid : Prop := Claim7.holds Tryd.pinned (.plain (OpenSpec.ofChange fnUintTokenSpec)) fnUintTokenCard

/-- THE TIED CARD OF 'laws.FnBoolToken'. -/
def fnBoolTokenCard : Claim7 := { stood := { row := fnBoolTokenRow, standIns := [], harness := (true, "7ab73ff569cbd71ac8a6fb112f887a10d91a7a66b418e02ed23eb6e8120430dc"), looks := false }, kinds := [], alts := [], laidByText := true, laidKinds := [.data, .data, .data, .data, .data, .sentinel, .data, .sentinel, .data, .pinned, .pinned, .pinned], laidTests := true, laidLooks := .later }
def FnBoolTokenCardSaid : Prop := Claim7.holds Tryd.pinned (.plain (OpenSpec.ofChange fnBoolTokenSpec)) fnBoolTokenCard

/-- THE SECOND FORM's CARD OF 'laws.FnIntToken'. -/
def fnIntTokenUptoCard : Claim7 := { stood := { row := fnIntTokenUptoRow, standIns := [], harness := (true, "7ab73ff569cbd71ac8a6fb112f887a10d91a7a66b418e02ed23eb6e8120430dc"), looks := false }, kinds := [], alts := [], laidByText := true, laidKinds := [.data, .data, .data, .data, .data, .sentinel, .data, .sentinel, .data, .pinned, .pinned, .pinned], laidTests := true, laidLooks := .later }
def FnIntTokenUptoCardSaid : Prop := Claim7.holds Tryd.pinned (.plain (OpenSpec.upto fnIntTokenSpec)) fnIntTokenUptoCard

/-- THE SECOND FORM's CARD OF 'laws.FnStringToken'. -/
def fnStringTokenUptoCard : Claim7 := { stood := { row := fnStringTokenUptoRow, standIns := [], harness := (true, "7ab73ff569cbd71ac8a6fb112f887a10d91a7a66b418e02ed23eb6e8120430dc"), looks := false }, kinds := [], alts := [], laidByText := true, laidKinds := [.data, .data, .data, .data, .data, .sentinel, .data, .sentinel, .data, .pinned, .pinned, .pinned], laidTests := true, laidLooks := .later }
def FnStringTokenUptoCardSaid : Prop := Claim7.holds Tryd.pinned (.plain (OpenSpec.upto fnStringTokenSpec)) fnStringTokenUptoCard

/-- THE SECOND FORM's CARD OF 'laws.FnUintToken'. -/
def fnUintTokenUptoCard : Claim7 := { stood := { row := fnUintTokenUptoRow, standIns := [], harness := (true, "7ab73ff569cbd71ac8a6fb112f887a10d91a7a66b418e02ed23eb6e8120430dc"), looks := false }, kinds := [], alts := [], laidByText := true, laidKinds := [.data, .data, .data, .data, .data, .sentinel, .data, .sentinel, .data, .pinned, .pinned, .pinned], laidTests := true, laidLooks := .later }
def FnUintTokenUptoCardSaid : Prop := Claim7.holds Tryd.pinned (.plain (OpenSpec.upto fnUintTokenSpec)) fnUintTokenUptoCard

/-- THE SECOND FORM's CARD OF 'laws.FnBoolToken'. -/
def fnBoolTokenUptoCard : Claim7 := { stood := { row := fnBoolTokenUptoRow, standIns := [], harness := (true, "7ab73ff569cbd71ac8a6fb112f887a10d91a7a66b418e02ed23eb6e8120430dc"), looks := false }, kinds := [], alts := [], laidByText := true, laidKinds := [.data, .data, .data, .data, .data, .sentinel, .data, .sentinel, .data, .pinned, .pinned, .pinned], laidTests := true, laidLooks := .later }
def FnBoolTokenUptoCardSaid : Prop := Claim7.holds Tryd.pinned (.plain (OpenSpec.upto fnBoolTokenSpec)) fnBoolTokenUptoCard
end Rows
end Go.Proofs.YtokkjljncoiajaaDoor
