/-
  A part of the tie of the package's variables: what the program's own initialiser leaves in them.
-/
import Derived.Test.YthphjbjehccomaaGreatDoorRows
import Derived.LaidByTextLater
import Derived.SevenTiedAt
import Derived.LaidSub
import Derived.LaidOnce
import Derived.KernelRfl
import Derived.Test.YthphjbjehccomaaGreatDoorY0
namespace Go.Proofs.YthphjbjehccomaaGreatDoor
open Go
set_option maxRecDepth 100000
theorem tieW : Tryz.prog.worded (varsWordLater true) = true := by kernel_rfl
theorem tieW2 : Tryz.prog.worded (varsWordLater !true) = false := by kernel_rfl
theorem tieRoot : Tryz.prog.worded rootWordLater = true := by kernel_rfl
end Go.Proofs.YthphjbjehccomaaGreatDoor
