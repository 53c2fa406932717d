/-
  DERIVED. GIVEN WITH THE SEED: THE CARDS: each row of YtiopeaponffmdaaDoorRows.lean that lists a variable, with what it lists TIED to the program's text (the seventh form; the later family's looks); each row that meets fmt, with fmt's text TOLD by the authors' own Lean function (tested against real Go, not proved from fmt's source: count such statements apart). THE CARD IS WHAT COUNTS. Prove the row's statement (the work); the ties are given (YtiopeaponffmdaaDoorTie.lean); close each card by the builder's one call (the guide's Derived/Test/ToyasCard.lean, 'card_holds'). Laid BY PROGRAM, IN A SANDBOX (cutbox-door.mjs). By AI agents, Wed Nov 11 2026. No macro, syntax, notation, axiom, sorry.
-/
import Derived.Test.YtiopeaponffmdaaDoorRows
import GoSem.ClaimSeven
namespace Go.Proofs.YtiopeaponffmdaaDoor
namespace Rows

/-- THE TIED CARD OF 'laws.FnFloat'. -/
def fnFloatCard : Claim7 := { stood := { row := fnFloatRow, standIns := [], harness := (true, "de90ebed450df59327ce393381191af0e1580690049105112f683f9df6acb66c"), looks := false }, kinds := [], alts := [], laidByText := true, laidKinds := [.data, .data, .data, .data, .pinned, .pinned], laidTests := true, laidLooks := .later }
def FnFloatCardSaid : Prop := Claim7.holds Tryd.pinned (.plain (OpenSpec.ofChange fnFloatSpec)) fnFloatCard

/-- THE TIED CARD OF 'laws.FnFloatBack'. -/
def fnFloatBackCard : Claim7 := { stood := { row := fnFloatBackRow, standIns := [], harness := (true, "de90ebed450df59327ce393381191af0e1580690049105112f683f9df6acb66c"), looks := false }, kinds := [], alts := [], laidByText := true, laidKinds := [.data, .data, .data, .data, .pinned, .pinned], laidTests := true, laidLooks := .later }
def FnFloatBackCardSaid : Prop := Claim7.holds Tryd.pinned (.plain (OpenSpec.ofChange fnFloatBackSpec)) fnFloatBackCard

/-- THE TIED CARD OF 'laws.FnFloatFewest'. -/
def fnFloatFewestCard : Claim7 := { stood := { row := fnFloatFewestRow, standIns := [], harness := (true, "de90ebed450df59327ce393381191af0e1580690049105112f683f9df6acb66c"), looks := false }, kinds := [], alts := [], laidByText := true, laidKinds := [.data, .data, .data, .data, .pinned, .pinned], laidTests := true, laidLooks := .later }
def FnFloatFewestCardSaid : Prop := Claim7.holds Tryd.pinned (.plain (OpenSpec.ofChange fnFloatFewestSpec)) fnFloatFewestCard

/-- THE TIED CARD OF 'laws.FnFloatShape'. -/
def fnFloatShapeCard : Claim7 := { stood := { row := fnFloatShapeRow, standIns := [], harness := (true, "de90ebed450df59327ce393381191af0e1580690049105112f683f9df6acb66c"), looks := false }, kinds := [], alts := [], laidByText := true, laidKinds := [.data, .data, .data, .data, .pinned, .pinned], laidTests := true, laidLooks := .later }
def FnFloatShapeCardSaid : Prop := Claim7.holds Tryd.pinned (.plain (OpenSpec.ofChange fnFloatShapeSpec)) fnFloatShapeCard

/-- THE TIED CARD OF 'laws.FnFloatSign'. -/
def fnFloatSignCard : Claim7 := { stood := { row := fnFloatSignRow, standIns := [], harness := (true, "de90ebed450df59327ce393381191af0e1580690049105112f683f9df6acb66c"), looks := false }, kinds := [], alts := [], laidByText := true, laidKinds := [.data, .data, .data, .data, .pinned, .pinned], laidTests := true, laidLooks := .later }
def FnFloatSignCardSaid : Prop := Claim7.holds Tryd.pinned (.plain (OpenSpec.ofChange fnFloatSignSpec)) fnFloatSignCard

/-- THE TIED CARD OF 'laws.FnFloatWhole'. -/
def fnFloatWholeCard : Claim7 := { stood := { row := fnFloatWholeRow, standIns := [], harness := (true, "de90ebed450df59327ce393381191af0e1580690049105112f683f9df6acb66c"), looks := false }, kinds := [], alts := [], laidByText := true, laidKinds := [.data, .data, .data, .data, .pinned, .pinned], laidTests := true, laidLooks := .later }
def FnFloatWholeCardSaid : Prop := Claim7.holds Tryd.pinned (.plain (OpenSpec.ofChange fnFloatWholeSpec)) fnFloatWholeCard

/-- THE TIED CARD OF 'laws.FnSingle'. -/
def fnSingleCard : Claim7 := { stood := { row := fnSingleRow, standIns := [], harness := (true, "de90ebed450df59327ce393381191af0e1580690049105112f683f9df6acb66c"), looks := false }, kinds := [], alts := [], laidByText := true, laidKinds := [.data, .data, .data, .data, .pinned, .pinned], laidTests := true, laidLooks := .later }
def FnSingleCardSaid : Prop := Claim7.holds Tryd.pinned (.plain (OpenSpec.ofChange fnSingleSpec)) fnSingleCard

/-- THE TIED CARD OF 'laws.FnFloatSigned'. -/
def fnFloatSignedCard : Claim7 := { stood := { row := fnFloatSignedRow, standIns := [], harness := (true, "de90ebed450df59327ce393381191af0e1580690049105112f683f9df6acb66c"), looks := false }, kinds := [], alts := [], laidByText := true, laidKinds := [.data, .data, .data, .data, .pinned, .pinned], laidTests := true, laidLooks := .later }
def FnFloatSignedCardSaid : Prop := Claim7.holds Tryd.pinned (.plain (OpenSpec.ofChange fnFloatSignedSpec)) fnFloatSignedCard

/-- THE SECOND FORM's CARD OF 'laws.FnFloat'. -/
def fnFloatUptoCard : Claim7 := { stood := { row := fnFloatUptoRow, standIns := [], harness := (true, "de90ebed450df59327ce393381191af0e1580690049105112f683f9df6acb66c"), looks := false }, kinds := [], alts := [], laidByText := true, laidKinds := [.data, .data, .data, .data, .pinned, .pinned], laidTests := true, laidLooks := .later }
def FnFloatUptoCardSaid : Prop := Claim7.holds Tryd.pinned (.plain (OpenSpec.upto fnFloatSpec)) fnFloatUptoCard

/-- THE SECOND FORM's CARD OF 'laws.FnFloatBack'. -/
def fnFloatBackUptoCard : Claim7 := { stood := { row := fnFloatBackUptoRow, standIns := [], harness := (true, "de90ebed450df59327ce393381191af0e1580690049105112f683f9df6acb66c"), looks := false }, kinds := [], alts := [], laidByText := true, laidKinds := [.data, .data, .data, .data, .pinned, .pinned], laidTests := true, laidLooks := .later }
def FnFloatBackUptoCardSaid : Prop := Claim7.holds Tryd.pinned (.plain (OpenSpec.upto fnFloatBackSpec)) fnFloatBackUptoCard

/-- THE SECOND FORM's CARD OF 'laws.FnFloatFewest'. -/
def fnFloatFewestUptoCard : Claim7 := { stood := { row := fnFloatFewestUptoRow, standIns := [], harness := (true, "de90ebed450df59327ce393381191af0e1580690049105112f683f9df6acb66c"), looks := false }, kinds := [], alts := [], laidByText := true, laidKinds := [.data, .data, .data, .data, .pinned, .pinned], laidTests := true, laidLooks := .later }
def FnFloatFewestUptoCardSaid : Prop := Claim7.holds Tryd.pinned (.plain (OpenSpec.upto fnFloatFewestSpec)) fnFloatFewestUptoCard

/-- THE SECOND FORM's CARD OF 'laws.FnFloatShape'. -/
def fnFloatShapeUptoCard : Claim7 := { stood := { row := fnFloatShapeUptoRow, standIns := [], harness := (true, "de90ebed450df59327ce393381191af0e1580690049105112f683f9df6acb66c"), looks := false }, kinds := [], alts := [], laidByText := true, laidKinds := [.data, .data, .data, .data, .pinned, .pinned], laidTests := true, laidLooks := .later }
def FnFloatShapeUptoCardSaid : Prop := Claim7.holds Tryd.pinned (.plain (OpenSpec.upto fnFloatShapeSpec)) fnFloatShapeUptoCard

/-- THE SECOND FORM's CARD OF 'laws.FnFloatSign'. -/
def fnFloatSignUptoCard : Claim7 := { stood := { row := fnFloatSignUptoRow, standIns := [], harness := (true, "de90ebed450df59327ce393381191af0e1580690049105112f683f9df6acb66c"), looks := false }, kinds := [], alts := [], laidByText := true, laidKinds := [.data, .data, .data, .data, .pinned, .pinned], laidTests := true, laidLooks := .later }
def FnFloatSignUptoCardSaid : Prop := Claim7.holds Tryd.pinned (.plain (OpenSpec.upto fnFloatSignSpec)) fnFloatSignUptoCard

/-- THE SECOND FORM's CARD OF 'laws.FnFloatWhole'. -/
def fnFloatWholeUptoCard : Claim7 := { stood := { row := fnFloatWholeUptoRow, standIns := [], harness := (true, "de90ebed450df59327ce393381191af0e1580690049105112f683f9df6acb66c"), looks := false }, kinds := [], alts := [], laidByText := true, laidKinds := [.data, .data, .data, .data, .pinned, .pinned], laidTests := true, laidLooks := .later }
def FnFloatWholeUptoCardSaid : Prop := Claim7.holds Tryd.pinned (.plain (OpenSpec.upto fnFloatWholeSpec)) fnFloatWholeUptoCard

/-- THE SECOND FORM's CARD OF 'laws.FnSingle'. -/
def fnSingleUptoCard : Claim7 := { stood := { row := fnSingleUptoRow, standIns := [], harness := (true, "de90ebed450df59327ce393381191af0e1580690049105112f683f9df6acb66c"), looks := false }, kinds := [], alts := [], laidByText := true, laidKinds := [.data, .data, .data, .data, .pinned, .pinned], laidTests := true, laidLooks := .later }
def FnSingleUptoCardSaid : Prop := Claim7.holds Tryd.pinned (.plain (OpenSpec.upto fnSingleSpec)) fnSingleUptoCard

/-- THE SECOND FORM's CARD OF 'laws.FnFloatSigned'. -/
def fnFloatSignedUptoCard : Claim7 := { stood := { row := fnFloatSignedUptoRow, standIns := [], harness := (true, "de90ebed450df59327ce393381191af0e1580690049105112f683f9df6acb66c"), looks := false }, kinds := [], alts := [], laidByText := true, laidKinds := [.data, .data, .data, .data, .pinned, .pinned], laidTests := true, laidLooks := .later }
def FnFloatSignedUptoCardSaid : Prop := Claim7.holds Tryd.pinned (.plain (OpenSpec.upto fnFloatSignedSpec)) fnFloatSignedUptoCard
end Rows
end Go.Proofs.YtiopeaponffmdaaDoor
