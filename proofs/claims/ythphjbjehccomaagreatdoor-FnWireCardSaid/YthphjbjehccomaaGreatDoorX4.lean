/- Parts of the proof, steps X1, X4: what the code and the plain laws of these steps give. Made by AI agents; no person has read it. -/
import Derived.Test.YthphjbjehccomaaGreatDoorT4
import Derived.Test.YthphjbjehccomaaGreatDoorCards
import Derived.ProofKit
import Derived.OpenShut
import Derived.Deep.DeepHandedRow
import Derived.Lib.LaidU8
import Derived.Lib.LaidTab
import Derived.Shelf.Spec.TrailingZeros
import Derived.Deep.SlicePairs
import Derived.OpenVars
import Derived.Carry
import Derived.LaidLaws
section
namespace Go.Proofs.YthphjbjehccomaaGreatDoor
open Go Go.Proofs Go.RowKit Go.ChangeShapes Go.WideShapes Go.ChangeAt Go.Proofs.Base
set_option maxRecDepth 100000
theorem gBad : Tryz.prog.globalNamed "loop.example/pub-g03078/pub/sctp.ErrChecksumMismatch" = some 13 := by kernel_rfl
theorem gBadType : (Tryz.prog.globals[13]?).map (·.type) = some 87 := by kernel_rfl
theorem laidOut : laidOutB Tryz.prog = true := by kernel_rfl
theorem rowed : varsRowed Tryz.prog Rows.fnWireSpec.vars = true := by kernel_rfl
set_option maxRecDepth 100000 in
/-- The listed sentinel holds an error that is not nil. -/
theorem bad_held {W : World} (h : laidMetH Tryz.prog Rows.fnWireRow.laid W) : ∃ tt ev, W.cell? ⟨13, 0, none⟩ = some (.iface tt ev) := by
  have hm : laidMet Tryz.prog Rows.fnWireRow.laid W := h
  obtain ⟨g, t, cs, fuel, p, h1, h2, h3, h4⟩ := Go.Lib.laidMet.reads hm (n := "loop.example/pub-g03078/pub/sctp.ErrChecksumMismatch") (d := Rows.laid_loop_example_pub_g03078_pub_sctp_ErrChecksumMismatch) (by simp [Rows.fnWireRow])
  obtain rfl := Option.some.inj (gBad.symm.trans h1)
  obtain rfl := Option.some.inj (gBadType.symm.trans h2)
  have hcell : ∀ (i : Nat) (v : Value), cs[i]? = some v → W.cell? ⟨13, i, none⟩ = some v := fun i v hv => by
    have := World.var?_cell gBad h3 i
    rw [this]; exact hv
  have key : ∃ tt ev, cs.toList = [.iface tt ev] := by
    generalize cs.toList = l at h4
    cases fuel with
    | zero => simp [DataW.trod] at h4
    | succ n =>
      unfold DataW.trod at h4
      rw [Tryz.underlying87] at h4
      unfold Rows.laid_loop_example_pub_g03078_pub_sctp_ErrChecksumMismatch at h4
      split at h4 <;> first | (cases h4; done) | (exact ⟨_, _, rfl⟩) | (simp at h4; done) | skip
      all_goals (rename_i he; cases he)
  obtain ⟨tt, ev, hl⟩ := key
  refine ⟨tt, ev, hcell 0 _ ?_⟩
  rw [← Array.getElem?_toList, hl]; rfl
theorem gTry : Tryz.prog.globalNamed "loop.example/pub-g03078/pub/sctp.errTryAgain" = some 0 := by kernel_rfl
theorem gTryType : (Tryz.prog.globals[0]?).map (·.type) = some 87 := by kernel_rfl
set_option maxRecDepth 100000 in
/-- The other listed sentinel holds an error that is not nil. -/
theorem try_held {W : World} (h : laidMetH Tryz.prog Rows.fnWireRow.laid W) : ∃ tt ev, W.cell? ⟨0, 0, none⟩ = some (.iface tt ev) := by
  have hm : laidMet Tryz.prog Rows.fnWireRow.laid W := h
  obtain ⟨g, t, cs, fuel, p, h1, h2, h3, h4⟩ := Go.Lib.laidMet.reads hm (n := "loop.example/pub-g03078/pub/sctp.errTryAgain") (d := Rows.laid_loop_example_pub_g03078_pub_sctp_errTryAgain) (by simp [Rows.fnWireRow])
  obtain rfl := Option.some.inj (gTry.symm.trans h1)
  obtain rfl := Option.some.inj (gTryType.symm.trans h2)
  have hcell : ∀ (i : Nat) (v : Value), cs[i]? = some v → W.cell? ⟨0, i, none⟩ = some v := fun i v hv => by
    have := World.var?_cell gTry h3 i
    rw [this]; exact hv
  have key : ∃ tt ev, cs.toList = [.iface tt ev] := by
    generalize cs.toList = l at h4
    cases fuel with
    | zero => simp [DataW.trod] at h4
    | succ n =>
      unfold DataW.trod at h4
      rw [Tryz.underlying87] at h4
      unfold Rows.laid_loop_example_pub_g03078_pub_sctp_errTryAgain at h4
      split at h4 <;> first | (cases h4; done) | (exact ⟨_, _, rfl⟩) | (simp at h4; done) | skip
      all_goals (rename_i he; cases he)
  obtain ⟨tt, ev, hl⟩ := key
  refine ⟨tt, ev, hcell 0 _ ?_⟩
  rw [← Array.getElem?_toList, hl]; rfl
theorem gTab : Tryz.prog.globalNamed "math/bits.deBruijn64tab" = some 18 := by kernel_rfl
theorem gTabType : (Tryz.prog.globals[18]?).map (·.type) = some 249 := by kernel_rfl
theorem cellsU8 : Tryz.prog.cellsOf 5 = 1 := by kernel_rfl
theorem cellsTab : Tryz.prog.cellsOf 249 = 64 := by kernel_rfl
set_option maxRecDepth 100000 in
/-- The listed table stands. -/
theorem tab_held {W : World} (h : laidMetH Tryz.prog Rows.fnWireRow.laid W) : Bruijn W := by
  have hm : laidMet Tryz.prog Rows.fnWireRow.laid W := h
  obtain ⟨g, t, cs, fuel, p, h1, h2, h3, h4⟩ := Go.Lib.laidMet.reads hm (n := "math/bits.deBruijn64tab") (d := Rows.laid_math_bits_deBruijn64tab) (by simp [Rows.fnWireRow])
  obtain rfl := Option.some.inj (gTab.symm.trans h1)
  obtain rfl := Option.some.inj (gTabType.symm.trans h2)
  have h5 := Lib.cells_of_tab (k := .u8) (zs := Lib.deBruijn64tab.map fun n : Nat => (n : Int)) Tryz.underlying249 Tryz.underlying5 cellsU8 cellsTab h4
  have ht : Lib.TabIs Tryz.prog W "math/bits.deBruijn64tab" .u8 (Lib.deBruijn64tab.map fun n : Nat => (n : Int)) := by
    unfold Lib.TabIs
    rw [h3, ← h5, Array.toArray_toList]
  intro j hj
  have h1 := ht.cell gTab j (by simpa using hj)
  rw [h1]
  simp [List.getD_eq_getElem?_getD, hj]
theorem keptBelow {W W' : World} (h : Kept [] W W') : Below W.heap.size W W' := ⟨h.os, h.tape, h.output, h.size, fun k hk => h.block k hk (by simp)⟩
end Go.Proofs.YthphjbjehccomaaGreatDoor
end
section
namespace Go.Proofs.YthphjbjehccomaaGreatDoor
open Go Go.Proofs Go.RowKit Go.ChangeShapes Go.WideShapes Go.ChangeAt
set_option maxRecDepth 100000
theorem ownKnobIs : ownKnob Tryz.prog.godebug = none := by kernel_rfl
/-- A variable that holds the error at an address. -/
def setTo (a : Addr) : Obj → Obj
  | .cells _ t frozen => .cells #[.iface 281 (.pointer (some a))] t frozen
  | o => o
/-- The table. -/
def setTab : Obj → Obj
  | .cells _ t frozen => .cells #[.int .u8 0, .int .u8 1, .int .u8 56, .int .u8 2, .int .u8 57, .int .u8 49, .int .u8 28, .int .u8 3, .int .u8 61, .int .u8 58, .int .u8 42, .int .u8 50, .int .u8 38, .int .u8 29, .int .u8 17, .int .u8 4, .int .u8 62, .int .u8 47, .int .u8 59, .int .u8 36, .int .u8 45, .int .u8 43, .int .u8 51, .int .u8 22, .int .u8 53, .int .u8 39, .int .u8 33, .int .u8 30, .int .u8 24, .int .u8 18, .int .u8 12, .int .u8 5, .int .u8 63, .int .u8 55, .int .u8 48, .int .u8 27, .int .u8 60, .int .u8 41, .int .u8 37, .int .u8 16, .int .u8 46, .int .u8 35, .int .u8 44, .int .u8 21, .int .u8 52, .int .u8 32, .int .u8 23, .int .u8 11, .int .u8 54, .int .u8 26, .int .u8 40, .int .u8 15, .int .u8 34, .int .u8 20, .int .u8 31, .int .u8 10, .int .u8 25, .int .u8 14, .int .u8 19, .int .u8 9, .int .u8 13, .int .u8 8, .int .u8 7, .int .u8 6] t frozen
  | o => o
/-- A WORLD FOR THE WITNESS: the settled one, each listed variable holding its error, and the table. -/
noncomputable def laidWorld (os : Os) : World :=
  { World.holding Tryz.prog os ⟨#[], #[], []⟩ with heap := ((((((((((((((((((World.holding Tryz.prog os ⟨#[], #[], []⟩).heap.modify 5 (setTo ⟨(World.holding Tryz.prog os ⟨#[], #[], []⟩).heap.size + 0, 0, none⟩)).modify 6 (setTo ⟨(World.holding Tryz.prog os ⟨#[], #[], []⟩).heap.size + 1, 0, none⟩)).modify 12 (setTo ⟨(World.holding Tryz.prog os ⟨#[], #[], []⟩).heap.size + 2, 0, none⟩)).modify 13 (setTo ⟨(World.holding Tryz.prog os ⟨#[], #[], []⟩).heap.size + 3, 0, none⟩)).modify 14 (setTo ⟨(World.holding Tryz.prog os ⟨#[], #[], []⟩).heap.size + 4, 0, none⟩)).modify 2 (setTo ⟨(World.holding Tryz.prog os ⟨#[], #[], []⟩).heap.size + 5, 0, none⟩)).modify 7 (setTo ⟨(World.holding Tryz.prog os ⟨#[], #[], []⟩).heap.size + 6, 0, none⟩)).modify 15 (setTo ⟨(World.holding Tryz.prog os ⟨#[], #[], []⟩).heap.size + 7, 0, none⟩)).modify 16 (setTo ⟨(World.holding Tryz.prog os ⟨#[], #[], []⟩).heap.size + 8, 0, none⟩)).modify 8 (setTo ⟨(World.holding Tryz.prog os ⟨#[], #[], []⟩).heap.size + 9, 0, none⟩)).modify 9 (setTo ⟨(World.holding Tryz.prog os ⟨#[], #[], []⟩).heap.size + 10, 0, none⟩)).modify 10 (setTo ⟨(World.holding Tryz.prog os ⟨#[], #[], []⟩).heap.size + 11, 0, none⟩)).modify 3 (setTo ⟨(World.holding Tryz.prog os ⟨#[], #[], []⟩).heap.size + 12, 0, none⟩)).modify 17 (setTo ⟨(World.holding Tryz.prog os ⟨#[], #[], []⟩).heap.size + 13, 0, none⟩)).modify 0 (setTo ⟨(World.holding Tryz.prog os ⟨#[], #[], []⟩).heap.size + 14, 0, none⟩)).modify 1 (setTo ⟨(World.holding Tryz.prog os ⟨#[], #[], []⟩).heap.size + 15, 0, none⟩)).modify 18 setTab) ++ #[
    .cells #[.string ⟨#[114, 97, 119, 32, 105, 115, 32, 116, 111, 111, 32, 115, 109, 97, 108, 108, 32, 102, 111, 114, 32, 97, 32, 83, 67, 84, 80, 32, 99, 104, 117, 110, 107]⟩] 382 (0, 0),
    .cells #[.string ⟨#[102, 97, 105, 108, 101, 100, 32, 116, 111, 32, 117, 110, 109, 97, 114, 115, 104, 97, 108, 44, 32, 99, 111, 110, 116, 97, 105, 110, 115, 32, 117, 110, 107, 110, 111, 119, 110, 32, 99, 104, 117, 110, 107, 32, 116, 121, 112, 101]⟩] 382 (0, 0),
    .cells #[.string ⟨#[114, 97, 119, 32, 105, 115, 32, 115, 109, 97, 108, 108, 101, 114, 32, 116, 104, 97, 110, 32, 116, 104, 101, 32, 109, 105, 110, 105, 109, 117, 109, 32, 108, 101, 110, 103, 116, 104, 32, 102, 111, 114, 32, 97, 32, 83, 67, 84, 80, 32, 112, 97, 99, 107, 101, 116]⟩] 382 (0, 0),
    .cells #[.string ⟨#[99, 104, 101, 99, 107, 115, 117, 109, 32, 109, 105, 115, 109, 97, 116, 99, 104, 32, 116, 104, 101, 105, 114, 115]⟩] 382 (0, 0),
    .cells #[.string ⟨#[117, 110, 97, 98, 108, 101, 32, 116, 111, 32, 112, 97, 114, 115, 101, 32, 83, 67, 84, 80, 32, 99, 104, 117, 110, 107, 44, 32, 110, 111, 116, 32, 101, 110, 111, 117, 103, 104, 32, 100, 97, 116, 97, 32, 102, 111, 114, 32, 99, 111, 109, 112, 108, 101, 116, 101, 32, 104, 101, 97, 100, 101, 114]⟩] 382 (0, 0),
    .cells #[.string ⟨#[117, 110, 104, 97, 110, 100, 108, 101, 100, 32, 99, 104, 117, 110, 107, 32, 116, 121, 112, 101]⟩] 382 (0, 0),
    .cells #[.string ⟨#[112, 97, 99, 107, 101, 116, 32, 105, 115, 32, 115, 109, 97, 108, 108, 101, 114, 32, 116, 104, 97, 110, 32, 116, 104, 101, 32, 104, 101, 97, 100, 101, 114, 32, 115, 105, 122, 101]⟩] 382 (0, 0),
    .cells #[.string ⟨#[110, 111, 116, 32, 101, 110, 111, 117, 103, 104, 32, 100, 97, 116, 97, 32, 108, 101, 102, 116, 32, 105, 110, 32, 83, 67, 84, 80, 32, 112, 97, 99, 107, 101, 116, 32, 116, 111, 32, 115, 97, 116, 105, 115, 102, 121, 32, 114, 101, 113, 117, 101, 115, 116, 101, 100, 32, 108, 101, 110, 103, 116, 104]⟩] 382 (0, 0),
    .cells #[.string ⟨#[99, 104, 117, 110, 107, 32, 112, 97, 100, 100, 105, 110, 103, 32, 105, 115, 32, 110, 111, 110, 45, 122, 101, 114, 111, 32, 97, 116, 32, 111, 102, 102, 115, 101, 116]⟩] 382 (0, 0),
    .cells #[.string ⟨#[67, 104, 117, 110, 107, 84, 121, 112, 101, 32, 105, 115, 32, 110, 111, 116, 32, 111, 102, 32, 116, 121, 112, 101, 32, 83, 65, 67, 75]⟩] 382 (0, 0),
    .cells #[.string ⟨#[83, 65, 67, 75, 32, 67, 104, 117, 110, 107, 32, 115, 105, 122, 101, 32, 105, 115, 32, 110, 111, 116, 32, 108, 97, 114, 103, 101, 32, 101, 110, 111, 117, 103, 104, 32, 116, 111, 32, 99, 111, 110, 116, 97, 105, 110, 32, 104, 101, 97, 100, 101, 114]⟩] 382 (0, 0),
    .cells #[.string ⟨#[83, 65, 67, 75, 32, 67, 104, 117, 110, 107, 32, 115, 105, 122, 101, 32, 100, 111, 101, 115, 32, 110, 111, 116, 32, 109, 97, 116, 99, 104, 32, 112, 114, 101, 100, 105, 99, 116, 101, 100, 32, 97, 109, 111, 117, 110, 116, 32, 102, 114, 111, 109, 32, 104, 101, 97, 100, 101, 114, 32, 118, 97, 108, 117, 101, 115]⟩] 382 (0, 0),
    .cells #[.string ⟨#[114, 101, 97, 115, 115, 101, 109, 98, 108, 121, 32, 113, 117, 101, 117, 101, 32, 100, 97, 116, 97, 32, 108, 105, 109, 105, 116, 32, 101, 120, 99, 101, 101, 100, 101, 100]⟩] 382 (0, 0),
    .cells #[.string ⟨#[114, 101, 97, 115, 115, 101, 109, 98, 108, 121, 32, 113, 117, 101, 117, 101, 32, 105, 45, 100, 97, 116, 97, 32, 109, 101, 115, 115, 97, 103, 101, 32, 105, 100, 101, 110, 116, 105, 102, 105, 101, 114, 32, 108, 105, 109, 105, 116, 32, 101, 120, 99, 101, 101, 100, 101, 100]⟩] 382 (0, 0),
    .cells #[.string ⟨#[116, 114, 121, 32, 97, 103, 97, 105, 110]⟩] 382 (0, 0),
    .cells #[.string ⟨#[115, 104, 111, 114, 116, 32, 98, 117, 102, 102, 101, 114]⟩] 382 (0, 0)] }
noncomputable def wArgs : Array Value := #[.int .u32 0, .slice none 0 0, .int .i64 0, .slice none 0 0]
noncomputable def wMem (os : Os) : World := ((laidWorld os).forCall (fun _ _ => 0) ⟨#[], wArgs, []⟩).memory
set_option maxRecDepth 100000 in
theorem laid_met (os : Os) : laidMet Tryz.prog Rows.fnWireRow.laid (wMem os) :=
  laidMet_of_run' 8 (by kernel_rfl) (by kernel_rfl)
end Go.Proofs.YthphjbjehccomaaGreatDoor
end
