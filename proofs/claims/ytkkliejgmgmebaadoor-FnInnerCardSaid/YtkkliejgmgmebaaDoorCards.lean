/-
  DERIVED. GIVEN WITH THE SEED: THE CARDS: each row of YtkkliejgmgmebaaDoorRows.lean that lists a variable, with what it lists TIED to the program's text (the seventh form; the later family's looks); each row that meets fmt, with fmt's text TOLD by the authors' own Lean function (tested against real Go, not proved from fmt's source: count such statements apart). THE CARD IS WHAT COUNTS. Prove the row's statement (the work); the ties are given (YtkkliejgmgmebaaDoorTie.lean); close each card by the builder's one call (the guide's Derived/Test/ToyasCard.lean, 'card_holds'). Laid BY PROGRAM, IN A SANDBOX (cutbox-door.mjs). By AI agents, Wed Nov 11 2026. No macro, syntax, notation, axiom, sorry.
-/
import Derived.Test.YtkkliejgmgmebaaDoorRows
import GoSem.ClaimSeven
namespace Go.Proofs.YtkkliejgmgmebaaDoor
namespace Rows

/-- THE TIED CARD OF 'laws.FnMemFile'. -/
def fnMemFileCard : Claim7 := { stood := { row := fnMemFileRow, standIns := [], harness := (true, "38cb466a19817e4bd347819f923aceecfdc6b078529ef1a2cf9ce11b370174c7"), looks := true }, kinds := [], alts := [], laidByText := true, laidKinds := [.sentinel, .sentinel], laidTests := true, laidLooks := .later }
def FnMemFileCardSaid : Prop := Claim7.holds Tryd.pinned (.plain (OpenSpec.ofChange fnMemFileSpec)) fnMemFileCard

/-- THE TIED CARD OF 'laws.FnInner'. -/
def fnInnerCard : Claim7 := { stood := { row := fnInnerRow, standIns := [], harness := (true, "38cb466a19817e4bd347819f923aceecfdc6b078529ef1a2cf9ce11b370174c7"), looks := true }, kinds := [], alts := [], laidByText := true, laidKinds := [.sentinel, .sentinel], laidTests := true, laidLooks := .later }
def FnInnerCardSaid : Prop := Claim7.holds Tryd.pinned (.plain (OpenSpec.ofChange fnInnerSpec)) fnInnerCard

/-- THE SECOND FORM's CARD OF 'laws.FnMemFile'. -/
def fnMemFileUptoCard : Claim7 := { stood := { row := fnMemFileUptoRow, standIns := [], harness := (true, "38cb466a19817e4bd347819f923aceecfdc6b078529ef1a2cf9ce11b370174c7"), looks := true }, kinds := [], alts := [], laidByText := true, laidKinds := [.sentinel, .sentinel], laidTests := true, laidLooks := .later }
def FnMemFileUptoCardSaid : Prop := Claim7.holds Tryd.pinned (.plain (OpenSpec.upto fnMemFileSpec)) fnMemFileUptoCard

/-- THE SECOND FORM's CARD OF 'laws.FnInner'. -/
def fnInnerUptoCard : Claim7 := { stood := { row := fnInnerUptoRow, standIns := [], harness := (true, "38cb466a19817e4bd347819f923aceecfdc6b078529ef1a2cf9ce11b370174c7"), looks := true }, kinds := [], alts := [], laidByText := true, laidKinds := [.sentinel, .sentinel], laidTests := true, laidLooks := .later }
def FnInnerUptoCardSaid : Prop := Claim7.holds Tryd.pinned (.plain (OpenSpec.upto fnInnerSpec)) fnInnerUptoCard
end Rows
end Go.Proofs.YtkkliejgmgmebaaDoor
