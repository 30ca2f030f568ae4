/- Proved: for every first number, messages, size and rounds, laws.FnWire returns true and leaves what it was given as it was: messages of three streams that are cut by one size into pieces and sent over a wire that loses pieces, doubles them, takes another one first and turns a bit of them come whole, once, and in the order of their stream, and nothing else. Conditions: those of the given row: the listed error variables and the table math/bits.deBruijn64tab start as the text of the program lays them. Made by AI agents; no person has read it. -/
import Derived.Test.YthphjbjehccomaaGreatDoorX6
import Derived.Test.YthphjbjehccomaaGreatDoorY5
import Derived.Deep.DeepHandedRow
import Derived.WalkKit
namespace Go.Proofs.YthphjbjehccomaaGreatDoor
open Go Go.Proofs Go.RowKit Go.ChangeShapes Go.WideShapes Go.ChangeAt
set_option maxRecDepth 100000
theorem said : Rows.FnWireSaid :=
  OpenClaim.holds_of_cond 3 Tryz.f3 rfl rfl rfl rfl rfl rfl rfl ⟨rfl, rfl, rfl, rfl, rfl⟩ rfl rfl rfl rfl rfl (by kernel_rfl) Tryz.func3 closed3
    (of_decide_eq_true (by kernel_rfl)) (by unfold Func.isWrapper; first | (rw [if_pos (by decide +kernel)]; kernel_rfl) | (rw [if_neg (by decide +kernel)]; exact ⟨rfl, rfl⟩))
    (fun os started H enc _ F => by rw [OpenClaim.pre_eq_preRow]; exact lifted os started H enc F)
/-- No parameter wants a stand-in; the program's own looks are off. -/
theorem plainArgs (f : FuncId) (fn : Func) (hf : Tryz.pinned.checked.prog.funcNamed "loop.example/pub-g03078/laws.FnWire" = some f) (hfn : Tryz.pinned.checked.prog.funcs[f]? = some fn) :
    false = Tryz.pinned.checked.prog.looks [] ∧ ∀ (j : Nat) t, fn.params[j]? = some t → Tryz.pinned.checked.prog.wantsStandIn t = false := by
  obtain rfl : f = 3 := Option.some.inj ((show Tryz.prog.funcNamed "loop.example/pub-g03078/laws.FnWire" = some 3 by kernel_rfl).symm.trans hf) |>.symm
  obtain rfl : fn = Tryz.f3 := (Option.some.inj (Tryz.func3.symm.trans hfn)).symm
  refine ⟨by kernel_rfl, fun j t ht => ?_⟩
  have hall : Tryz.f3.params.toList.all (fun t => !Tryz.prog.wantsStandIn t) = true := by kernel_rfl
  have := List.all_eq_true.1 hall t (Array.mem_toList_iff.2 (Array.mem_of_getElem? ht))
  exact (show Tryz.prog.wantsStandIn t = false by simpa using this)
theorem card : Rows.FnWireCardSaid :=
  Claim7.holds_tied_plain_at .later [] _ _ _ _ said (fun _ h => by cases h) (by kernel_rfl) (fun _ h => by cases h) fnWire_row_tie rfl ⟨rfl, rfl⟩ (by kernel_rfl) rfl plainArgs (by kernel_rfl)
end Go.Proofs.YthphjbjehccomaaGreatDoor
