/-
  DERIVED. GIVEN WITH THE SEED: THE CARDS: each row of YtmmangoeknaenaaGreatDoorRows.lean that lists a variable, with what it lists TIED to the program's text (the seventh form; the later family's looks); each row that meets fmt, with fmt's text TOLD by the authors' own Lean function (tested against real Go, not proved from fmt's source: count such statements apart). THE CARD IS WHAT COUNTS. Prove the row's statement (the work); the ties are given (YtmmangoeknaenaaGreatDoorTie.lean); close each card by the builder's one call (the guide's Derived/Test/ToyasCard.lean, 'card_holds'). Laid BY PROGRAM, IN A SANDBOX (cutbox-door.mjs). By AI agents, Wed Nov 11 2026. No macro, syntax, notation, axiom, sorry.
-/
import Derived.Test.YtmmangoeknaenaaGreatDoorRows
import GoSem.ClaimSeven
namespace Go.Proofs.YtmmangoeknaenaaGreatDoor
namespace Rows

/-- THE TIED CARD OF 'laws.FnTold'. -/
def fnToldCard : Claim7 := { stood := { row := fnToldRow, standIns := [], harness := (true, "5ba9e63e6cecfa107f91124c7a00f5cf1115397c3a9019c4015edc1a4e190026"), looks := false }, kinds := [], alts := [], laidByText := true, laidKinds := [.data, .sentinel, .sentinel, .sentinel, .sentinel, .sentinel, .sentinel, .sentinel, .sentinel, .sentinel, .sentinel, .sentinel, .sentinel], laidTests := true, laidLooks := .later }
def FnToldCardSaid : Prop := Claim7.holds Tryz.pinned (.plain (OpenSpec.ofChange fnToldSpec)) fnToldCard

/-- THE SECOND FORM's CARD OF 'laws.FnTold'. -/
def fnToldUptoCard : Claim7 := { stood := { row := fnToldUptoRow, standIns := [], harness := (true, "5ba9e63e6cecfa107f91124c7a00f5cf1115397c3a9019c4015edc1a4e190026"), looks := false }, kinds := [], alts := [], laidByText := true, laidKinds := [.data, .sentinel, .sentinel, .sentinel, .sentinel, .sentinel, .sentinel, .sentinel, .sentinel, .sentinel, .sentinel, .sentinel, .sentinel], laidTests := true, laidLooks := .later }
def FnToldUptoCardSaid : Prop := Claim7.holds Tryz.pinned (.plain (OpenSpec.upto fnToldSpec)) fnToldUptoCard
end Rows
end Go.Proofs.YtmmangoeknaenaaGreatDoor
