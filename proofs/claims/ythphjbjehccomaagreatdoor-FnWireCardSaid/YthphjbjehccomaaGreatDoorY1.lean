/-
  A part of the tie of the package's variables: what the program's own initialiser leaves in them.
-/
import Derived.Test.YthphjbjehccomaaGreatDoorRows
import Derived.LaidByTextLater
import Derived.SevenTiedAt
import Derived.LaidSub
import Derived.LaidOnce
import Derived.KernelRfl
import Derived.Test.YthphjbjehccomaaGreatDoorY0
namespace Go.Proofs.YthphjbjehccomaaGreatDoor
open Go
set_option maxRecDepth 100000
theorem tieRun : ∀ os tape, doorLeaves Tryz.prog 1249 8 65 tieList os tape = some (tieList.filter fun x => x.2.handleName?.isNone, (funcsListed tieList).map (·.2.funcsOut)) := fun _ _ => by kernel_rfl
end Go.Proofs.YthphjbjehccomaaGreatDoor
