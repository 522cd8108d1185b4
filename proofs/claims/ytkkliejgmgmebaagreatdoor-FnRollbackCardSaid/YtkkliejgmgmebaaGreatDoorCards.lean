/-
  DERIVED. GIVEN WITH THE SEED: THE CARDS: each row of YtkkliejgmgmebaaGreatDoorRows.lean that lists a variable, with what it lists TIED to the program's text (the seventh form; the later family's looks); each row that meets fmt, with fmt's text TOLD by the authors' own Lean function (tested against real Go, not proved from fmt's source: count such statements apart). THE CARD IS WHAT COUNTS. Prove the row's statement (the work); the ties are given (YtkkliejgmgmebaaGreatDoorTie.lean); close each card by the builder's one call (the guide's Derived/Test/ToyasCard.lean, 'card_holds'). Laid BY PROGRAM, IN A SANDBOX (cutbox-door.mjs). By AI agents, Wed Nov 11 2026. No macro, syntax, notation, axiom, sorry.
-/
import Derived.Test.YtkkliejgmgmebaaGreatDoorRows
import GoSem.ClaimSeven
namespace Go.Proofs.YtkkliejgmgmebaaGreatDoor
namespace Rows

/-- THE TIED CARD OF 'laws.FnRollback'. -/
def fnRollbackCard : Claim7 := { stood := { row := fnRollbackRow, standIns := [], harness := (true, "ac3658b3c3658630585f4e18917621912e9055dc726b5cb921c9a3fb6eb2d405"), looks := true }, kinds := [], alts := [], laidByText := true, laidKinds := [.sentinel, .sentinel], laidTests := true, laidLooks := .later }
def FnRollbackCardSaid : Prop := Claim7.holds Tryz.pinned (.plain (OpenSpec.ofChange fnRollbackSpec)) fnRollbackCard

/-- THE SECOND FORM's CARD OF 'laws.FnRollback'. -/
def fnRollbackUptoCard : Claim7 := { stood := { row := fnRollbackUptoRow, standIns := [], harness := (true, "ac3658b3c3658630585f4e18917621912e9055dc726b5cb921c9a3fb6eb2d405"), looks := true }, kinds := [], alts := [], laidByText := true, laidKinds := [.sentinel, .sentinel], laidTests := true, laidLooks := .later }
def FnRollbackUptoCardSaid : Prop := Claim7.holds Tryz.pinned (.plain (OpenSpec.upto fnRollbackSpec)) fnRollbackUptoCard
end Rows
end Go.Proofs.YtkkliejgmgmebaaGreatDoor
