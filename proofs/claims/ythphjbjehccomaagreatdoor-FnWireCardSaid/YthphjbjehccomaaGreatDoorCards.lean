/-
  DERIVED. GIVEN WITH THE SEED: THE CARDS: each row of YthphjbjehccomaaGreatDoorRows.lean that lists a variable, with what it lists TIED to the program's text (the seventh form; the later family's looks); each row that meets fmt, with fmt's text TOLD by the authors' own Lean function (tested against real Go, not proved from fmt's source: count such statements apart). THE CARD IS WHAT COUNTS. Prove the row's statement (the work); the ties are given (YthphjbjehccomaaGreatDoorTie.lean); close each card by the builder's one call (the guide's Derived/Test/ToyasCard.lean, 'card_holds'). Laid BY PROGRAM, IN A SANDBOX (cutbox-door.mjs). By AI agents, Wed Nov 11 2026. No macro, syntax, notation, axiom, sorry.
-/
import Derived.Test.YthphjbjehccomaaGreatDoorRows
import GoSem.ClaimSeven
namespace Go.Proofs.YthphjbjehccomaaGreatDoor
namespace Rows

/-- THE TIED CARD OF 'laws.FnWire'. -/
def fnWireCard : Claim7 := { stood := { row := fnWireRow, standIns := [], harness := (true, "7f1d286b401622f9391ad19f7316d51dd2ab78a3001b530c8e29c83df7cd5f7b"), looks := false }, kinds := [], alts := [], laidByText := true, laidKinds := [.sentinel, .sentinel, .sentinel, .sentinel, .sentinel, .sentinel, .sentinel, .sentinel, .sentinel, .data, .sentinel, .sentinel, .sentinel, .sentinel, .sentinel, .sentinel, .sentinel], laidTests := true, laidLooks := .later }
def FnWireCardSaid : Prop := Claim7.holds Tryz.pinned (.plain (OpenSpec.ofChange fnWireSpec)) fnWireCard

/-- THE SECOND FORM's CARD OF 'laws.FnWire'. -/
def fnWireUptoCard : Claim7 := { stood := { row := fnWireUptoRow, standIns := [], harness := (true, "7f1d286b401622f9391ad19f7316d51dd2ab78a3001b530c8e29c83df7cd5f7b"), looks := false }, kinds := [], alts := [], laidByText := true, laidKinds := [.sentinel, .sentinel, .sentinel, .sentinel, .sentinel, .sentinel, .sentinel, .sentinel, .sentinel, .data, .sentinel, .sentinel, .sentinel, .sentinel, .sentinel, .sentinel, .sentinel], laidTests := true, laidLooks := .later }
def FnWireUptoCardSaid : Prop := Claim7.holds Tryz.pinned (.plain (OpenSpec.upto fnWireSpec)) fnWireUptoCard
end Rows
end Go.Proofs.YthphjbjehccomaaGreatDoor
