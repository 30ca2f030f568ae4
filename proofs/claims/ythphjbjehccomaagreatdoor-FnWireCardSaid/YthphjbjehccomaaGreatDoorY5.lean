/-
  A part of the tie of the package's variables: what the program's own initialiser leaves in them.
-/
import Derived.Test.YthphjbjehccomaaGreatDoorRows
import Derived.LaidByTextLater
import Derived.SevenTiedAt
import Derived.LaidSub
import Derived.LaidOnce
import Derived.KernelRfl
import Derived.Test.YthphjbjehccomaaGreatDoorY1
import Derived.Test.YthphjbjehccomaaGreatDoorY2
import Derived.Test.YthphjbjehccomaaGreatDoorY3
import Derived.Test.YthphjbjehccomaaGreatDoorY4
namespace Go.Proofs.YthphjbjehccomaaGreatDoor
open Go
set_option maxRecDepth 100000
theorem tie : Tryz.prog.laidByTextLater tieList tieKinds true := Program.laidByTextLater_by_one 1249 8 65 tieW tieW2 tieRoot tieKindsOf tieNamed tieVars tieRun
theorem noOwnUnsafe : Tryz.pinned.checked.prog.headLifts.contains "ownunsafe" = false := by kernel_rfl
theorem fnWire_row_tie : Rows.fnWireRow.laidByTextAt .later Tryz.pinned tieKinds true :=
  OpenClaim.laidByTextAt_later rfl rfl tie noOwnUnsafe
end Go.Proofs.YthphjbjehccomaaGreatDoor
