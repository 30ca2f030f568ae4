/-
  A part of the tie of the package's variables: what the program's own initialiser leaves in them.
-/
import Derived.Test.YthphjbjehccomaaGreatDoorRows
import Derived.LaidByTextLater
import Derived.SevenTiedAt
import Derived.LaidSub
import Derived.LaidOnce
import Derived.KernelRfl
import Derived.Test.YthphjbjehccomaaGreatDoorY0
namespace Go.Proofs.YthphjbjehccomaaGreatDoor
open Go
set_option maxRecDepth 100000
theorem tieKindsOf : tieList.map (fun x => Tryz.prog.kindOfLater x.1) = tieKinds.map some := by kernel_rfl
theorem tieNamed : (Tryz.prog.funcNamed "gosem.cut.vars").isSome = true := by kernel_rfl
end Go.Proofs.YthphjbjehccomaaGreatDoor
