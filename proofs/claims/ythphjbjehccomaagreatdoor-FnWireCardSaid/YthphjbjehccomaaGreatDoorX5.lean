/- A part of the proof, step X5: what the code and the plain laws of this step give. Made by AI agents; no person has read it. -/
import Derived.Test.YthphjbjehccomaaGreatDoorX4
import Derived.Test.YthphjbjehccomaaGreatDoorX3
import Derived.Deep.DeepHandedRow
import Derived.WalkKit
namespace Go.Proofs.YthphjbjehccomaaGreatDoor
open Go Go.Proofs Go.RowKit Go.ChangeShapes Go.WideShapes Go.ChangeAt
set_option maxRecDepth 100000
theorem reads (os : Os) {H : Type} (enc : TypeId × Value → H) : ∃ x, DataW.whole enc Tryz.prog (wMem os) Tryz.f3.params.toList Rows.fnWireSpec.vars false wArgs.toList 8 = some x :=
  Option.isSome_iff_exists.1 (by kernel_rfl)
set_option maxRecDepth 100000 in
theorem lifted (os : Os) (started : os.Started) (H : Type) (enc : TypeId × Value → H) (F : Stop.Interp) :
    ReturnsInHanded {} Tryz.checked os 3 .any ((OpenSpec.ofChange Rows.fnWireSpec).preRow enc Tryz.prog Tryz.f3 Rows.fnWireRow.domain false Rows.fnWireRow.laid) (((OpenSpec.ofChange Rows.fnWireSpec).at F).post enc Tryz.prog Tryz.f3 false true false false) := by
  obtain ⟨x, hx⟩ := reads os enc
  refine returnsInHanded_of_row (C := Tryz.checked) (s := OpenSpec.ofChange Rows.fnWireSpec) ownKnobIs started (by kernel_rfl) Tryz.func3
    (witness_row_at (enc := enc) (C := Tryz.checked) false (laidWorld os) wArgs rfl (by kernel_rfl) (by kernel_rfl) (by kernel_rfl)
      (OpenSpec.preRow_of_cond 8 hx rfl (fun k hk => by cases hk) (by kernel_rfl) (laid_met os))) ?_
  intro W base args ds gs before hval hW _ _ _ hL _ _
  exact contract H enc W base args ds gs before hval hW hL
end Go.Proofs.YthphjbjehccomaaGreatDoor
