/-
  DERIVED. GIVEN WITH THE SEED: THE CARDS: each row of YtjdjmbjcbjmcoaaGreatDoorRows.lean that lists a variable, with what it lists TIED to the program's text (the seventh form; the later family's looks); each row that meets fmt, with fmt's text TOLD by the authors' own Lean function (tested against real Go, not proved from fmt's source: count such statements apart). THE CARD IS WHAT COUNTS. Prove the row's statement (the work); the ties are given (YtjdjmbjcbjmcoaaGreatDoorTie.lean); close each card by the builder's one call (the guide's Derived/Test/ToyasCard.lean, 'card_holds'). Laid BY PROGRAM, IN A SANDBOX (cutbox-door.mjs). By AI agents, Wed Nov 11 2026. No macro, syntax, notation, axiom, sorry.
-/
import Derived.Test.YtjdjmbjcbjmcoaaGreatDoorRows
import GoSem.ClaimSeven
namespace Go.Proofs.YtjdjmbjcbjmcoaaGreatDoor
namespace Rows

/-- THE TIED CARD OF 'laws.FnBent'. -/
def fnBentCard : Claim7 := { stood := { row := fnBentRow, standIns := [], harness := (true, "127973d112b0509329b4b85a2be9b02d6c08e56d65ed97e021ba2ea2c3bed58f"), looks := false }, kinds := [], alts := [], laidByText := true, laidKinds := [.sentinel, .sentinel, .sentinel, .sentinel, .sentinel, .sentinel, .sentinel, .sentinel, .sentinel], laidTests := true, laidLooks := .later }
def FnBentCardSaid : Prop := Claim7.holds Tryz.pinned (.plain (OpenSpec.ofChange fnBentSpec)) fnBentCard

/-- THE SECOND FORM's CARD OF 'laws.FnBent'. -/
def fnBentUptoCard : Claim7 := { stood := { row := fnBentUptoRow, standIns := [], harness := (true, "127973d112b0509329b4b85a2be9b02d6c08e56d65ed97e021ba2ea2c3bed58f"), looks := false }, kinds := [], alts := [], laidByText := true, laidKinds := [.sentinel, .sentinel, .sentinel, .sentinel, .sentinel, .sentinel, .sentinel, .sentinel, .sentinel], laidTests := true, laidLooks := .later }
def FnBentUptoCardSaid : Prop := Claim7.holds Tryz.pinned (.plain (OpenSpec.upto fnBentSpec)) fnBentUptoCard
end Rows
end Go.Proofs.YtjdjmbjcbjmcoaaGreatDoor
