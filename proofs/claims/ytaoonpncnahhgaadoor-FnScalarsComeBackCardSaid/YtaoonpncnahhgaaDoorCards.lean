/-
  DERIVED. GIVEN WITH THE SEED: THE CARDS: each row of YtaoonpncnahhgaaDoorRows.lean that lists a variable, with what it lists TIED to the program's text (the seventh form; the later family's looks); each row that meets fmt, with fmt's text TOLD by the authors' own Lean function (tested against real Go, not proved from fmt's source: count such statements apart). THE CARD IS WHAT COUNTS. Prove the row's statement (the work); the ties are given (YtaoonpncnahhgaaDoorTie.lean); close each card by the builder's one call (the guide's Derived/Test/ToyasCard.lean, 'card_holds'). Laid BY PROGRAM, IN A SANDBOX (cutbox-door.mjs). By AI agents, Wed Nov 11 2026. No macro, syntax, notation, axiom, sorry.
-/
import Derived.Test.YtaoonpncnahhgaaDoorRows
import GoSem.ClaimSeven
namespace Go.Proofs.YtaoonpncnahhgaaDoor
namespace Rows

/-- THE TIED CARD OF 'laws.FnScalarsComeBack'. -/
def fnScalarsComeBackCard : Claim7 := { stood := { row := fnScalarsComeBackRow, standIns := [], harness := (true, "8c42a3e07762cfb77ed7489f33a2b85e2c0889be148ed6a9132f69637dc0ba4c"), looks := true }, kinds := [], alts := [], laidByText := true, laidKinds := [.sentinel, .sentinel], laidTests := true, laidLooks := .later }
def FnScalarsComeBackCardSaid : Prop := Claim7.holds Tryd.pinned (.plain (OpenSpec.ofChange fnScalarsComeBackSpec)) fnScalarsComeBackCard

/-- THE TIED CARD OF 'laws.FnCollate'. -/
def fnCollateCard : Claim7 := { stood := { row := fnCollateRow, standIns := [], harness := (true, "8c42a3e07762cfb77ed7489f33a2b85e2c0889be148ed6a9132f69637dc0ba4c"), looks := true }, kinds := [], alts := [], laidByText := true, laidKinds := [.sentinel, .sentinel], laidTests := true, laidLooks := .later }
def FnCollateCardSaid : Prop := Claim7.holds Tryd.pinned (.plain (OpenSpec.ofChange fnCollateSpec)) fnCollateCard

/-- THE TIED CARD OF 'laws.FnCollateIsAnOrder'. -/
def fnCollateIsAnOrderCard : Claim7 := { stood := { row := fnCollateIsAnOrderRow, standIns := [], harness := (true, "8c42a3e07762cfb77ed7489f33a2b85e2c0889be148ed6a9132f69637dc0ba4c"), looks := true }, kinds := [], alts := [], laidByText := true, laidKinds := [.sentinel, .sentinel], laidTests := true, laidLooks := .later }
def FnCollateIsAnOrderCardSaid : Prop := Claim7.holds Tryd.pinned (.plain (OpenSpec.ofChange fnCollateIsAnOrderSpec)) fnCollateIsAnOrderCard

/-- THE TIED CARD OF 'laws.FnEncodedKeepsOrder'. -/
def fnEncodedKeepsOrderCard : Claim7 := { stood := { row := fnEncodedKeepsOrderRow, standIns := [], harness := (true, "8c42a3e07762cfb77ed7489f33a2b85e2c0889be148ed6a9132f69637dc0ba4c"), looks := true }, kinds := [], alts := [], laidByText := true, laidKinds := [.sentinel, .sentinel], laidTests := true, laidLooks := .later }
def FnEncodedKeepsOrderCardSaid : Prop := Claim7.holds Tryd.pinned (.plain (OpenSpec.ofChange fnEncodedKeepsOrderSpec)) fnEncodedKeepsOrderCard

/-- THE SECOND FORM's CARD OF 'laws.FnScalarsComeBack'. -/
def fnScalarsComeBackUptoCard : Claim7 := { stood := { row := fnScalarsComeBackUptoRow, standIns := [], harness := (true, "8c42a3e07762cfb77ed7489f33a2b85e2c0889be148ed6a9132f69637dc0ba4c"), looks := true }, kinds := [], alts := [], laidByText := true, laidKinds := [.sentinel, .sentinel], laidTests := true, laidLooks := .later }
def FnScalarsComeBackUptoCardSaid : Prop := Claim7.holds Tryd.pinned (.plain (OpenSpec.upto fnScalarsComeBackSpec)) fnScalarsComeBackUptoCard

/-- THE SECOND FORM's CARD OF 'laws.FnCollate'. -/
def fnCollateUptoCard : Claim7 := { stood := { row := fnCollateUptoRow, standIns := [], harness := (true, "8c42a3e07762cfb77ed7489f33a2b85e2c0889be148ed6a9132f69637dc0ba4c"), looks := true }, kinds := [], alts := [], laidByText := true, laidKinds := [.sentinel, .sentinel], laidTests := true, laidLooks := .later }
def FnCollateUptoCardSaid : Prop := Claim7.holds Tryd.pinned (.plain (OpenSpec.upto fnCollateSpec)) fnCollateUptoCard

/-- THE SECOND FORM's CARD OF 'laws.FnCollateIsAnOrder'. -/
def fnCollateIsAnOrderUptoCard : Claim7 := { stood := { row := fnCollateIsAnOrderUptoRow, standIns := [], harness := (true, "8c42a3e07762cfb77ed7489f33a2b85e2c0889be148ed6a9132f69637dc0ba4c"), looks := true }, kinds := [], alts := [], laidByText := true, laidKinds := [.sentinel, .sentinel], laidTests := true, laidLooks := .later }
def FnCollateIsAnOrderUptoCardSaid : Prop := Claim7.holds Tryd.pinned (.plain (OpenSpec.upto fnCollateIsAnOrderSpec)) fnCollateIsAnOrderUptoCard

/-- THE SECOND FORM's CARD OF 'laws.FnEncodedKeepsOrder'. -/
def fnEncodedKeepsOrderUptoCard : Claim7 := { stood := { row := fnEncodedKeepsOrderUptoRow, standIns := [], harness := (true, "8c42a3e07762cfb77ed7489f33a2b85e2c0889be148ed6a9132f69637dc0ba4c"), looks := true }, kinds := [], alts := [], laidByText := true, laidKinds := [.sentinel, .sentinel], laidTests := true, laidLooks := .later }
def FnEncodedKeepsOrderUptoCardSaid : Prop := Claim7.holds Tryd.pinned (.plain (OpenSpec.upto fnEncodedKeepsOrderSpec)) fnEncodedKeepsOrderUptoCard
end Rows
end Go.Proofs.YtaoonpncnahhgaaDoor
