/- A part of the proof, step Q4: what the code and the plain laws of this step give. Made by AI agents; no person has read it. -/
import Derived.Test.YtjdjmbjcbjmcoaaGreatDoorQ1
import Derived.LaidLaws
namespace Go.Proofs.YtjdjmbjcbjmcoaaGreatDoor
open Go Go.Proofs Go.RowKit Go.ChangeShapes Go.WideShapes Go.ChangeAt
theorem ownKnobIs : ownKnob Tryz.prog.godebug = none := by kernel_rfl
/-- A variable that holds the error at an address. -/
def setTo (a : Addr) : Obj → Obj
  | .cells _ t frozen => .cells #[.iface 160 (.pointer (some a))] t frozen
  | o => o
/-- A WORLD FOR THE WITNESS: the settled one, each listed variable holding its error. -/
noncomputable def laidWorld (os : Os) : World :=
  { World.holding Tryz.prog os ⟨#[], #[], []⟩ with heap := ((((((((((World.holding Tryz.prog os ⟨#[], #[], []⟩).heap.modify 4 (setTo ⟨(World.holding Tryz.prog os ⟨#[], #[], []⟩).heap.size + 0, 0, none⟩)).modify 2 (setTo ⟨(World.holding Tryz.prog os ⟨#[], #[], []⟩).heap.size + 1, 0, none⟩)).modify 9 (setTo ⟨(World.holding Tryz.prog os ⟨#[], #[], []⟩).heap.size + 2, 0, none⟩)).modify 10 (setTo ⟨(World.holding Tryz.prog os ⟨#[], #[], []⟩).heap.size + 3, 0, none⟩)).modify 6 (setTo ⟨(World.holding Tryz.prog os ⟨#[], #[], []⟩).heap.size + 4, 0, none⟩)).modify 8 (setTo ⟨(World.holding Tryz.prog os ⟨#[], #[], []⟩).heap.size + 5, 0, none⟩)).modify 3 (setTo ⟨(World.holding Tryz.prog os ⟨#[], #[], []⟩).heap.size + 6, 0, none⟩)).modify 7 (setTo ⟨(World.holding Tryz.prog os ⟨#[], #[], []⟩).heap.size + 7, 0, none⟩)).modify 0 (setTo ⟨(World.holding Tryz.prog os ⟨#[], #[], []⟩).heap.size + 8, 0, none⟩)) ++ #[
    .cells #[.string ⟨#[112, 97, 99, 107, 101, 116, 32, 105, 115, 32, 115, 109, 97, 108, 108, 101, 114, 32, 116, 104, 97, 110, 32, 116, 104, 101, 32, 104, 101, 97, 100, 101, 114, 32, 115, 105, 122, 101]⟩] 265 (0, 0),
    .cells #[.string ⟨#[114, 97, 119, 32, 105, 115, 32, 116, 111, 111, 32, 115, 109, 97, 108, 108, 32, 102, 111, 114, 32, 97, 32, 83, 67, 84, 80, 32, 99, 104, 117, 110, 107]⟩] 265 (0, 0),
    .cells #[.string ⟨#[110, 111, 116, 32, 101, 110, 111, 117, 103, 104, 32, 100, 97, 116, 97, 32, 108, 101, 102, 116, 32, 105, 110, 32, 83, 67, 84, 80, 32, 112, 97, 99, 107, 101, 116, 32, 116, 111, 32, 115, 97, 116, 105, 115, 102, 121, 32, 114, 101, 113, 117, 101, 115, 116, 101, 100, 32, 108, 101, 110, 103, 116, 104]⟩] 265 (0, 0),
    .cells #[.string ⟨#[99, 104, 117, 110, 107, 32, 112, 97, 100, 100, 105, 110, 103, 32, 105, 115, 32, 110, 111, 110, 45, 122, 101, 114, 111, 32, 97, 116, 32, 111, 102, 102, 115, 101, 116]⟩] 265 (0, 0),
    .cells #[.string ⟨#[114, 97, 119, 32, 105, 115, 32, 115, 109, 97, 108, 108, 101, 114, 32, 116, 104, 97, 110, 32, 116, 104, 101, 32, 109, 105, 110, 105, 109, 117, 109, 32, 108, 101, 110, 103, 116, 104, 32, 102, 111, 114, 32, 97, 32, 83, 67, 84, 80, 32, 112, 97, 99, 107, 101, 116]⟩] 265 (0, 0),
    .cells #[.string ⟨#[117, 110, 97, 98, 108, 101, 32, 116, 111, 32, 112, 97, 114, 115, 101, 32, 83, 67, 84, 80, 32, 99, 104, 117, 110, 107, 44, 32, 110, 111, 116, 32, 101, 110, 111, 117, 103, 104, 32, 100, 97, 116, 97, 32, 102, 111, 114, 32, 99, 111, 109, 112, 108, 101, 116, 101, 32, 104, 101, 97, 100, 101, 114]⟩] 265 (0, 0),
    .cells #[.string ⟨#[102, 97, 105, 108, 101, 100, 32, 116, 111, 32, 117, 110, 109, 97, 114, 115, 104, 97, 108, 44, 32, 99, 111, 110, 116, 97, 105, 110, 115, 32, 117, 110, 107, 110, 111, 119, 110, 32, 99, 104, 117, 110, 107, 32, 116, 121, 112, 101]⟩] 265 (0, 0),
    .cells #[.string ⟨#[99, 104, 101, 99, 107, 115, 117, 109, 32, 109, 105, 115, 109, 97, 116, 99, 104, 32, 116, 104, 101, 105, 114, 115]⟩] 265 (0, 0),
    .cells #[.string ⟨#[117, 110, 104, 97, 110, 100, 108, 101, 100, 32, 99, 104, 117, 110, 107, 32, 116, 121, 112, 101]⟩] 265 (0, 0)] }
noncomputable def wArgs : Array Value := #[.int .u32 0, .slice none 0 0, .int .i64 0, .int .i64 0, .int .i64 0]
noncomputable def wMem (os : Os) : World := ((laidWorld os).forCall (fun _ _ => 0) ⟨#[], wArgs, []⟩).memory
set_option maxRecDepth 100000 in
theorem laid_met (os : Os) : laidMet Tryz.prog Rows.fnBentRow.laid (wMem os) :=
  laidMet_of_run' 8 (by kernel_rfl) (by kernel_rfl)
end Go.Proofs.YtjdjmbjcbjmcoaaGreatDoor
