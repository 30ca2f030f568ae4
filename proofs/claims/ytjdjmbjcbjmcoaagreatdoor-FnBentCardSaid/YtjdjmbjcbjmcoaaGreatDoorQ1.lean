/- A part of the proof, step Q1: what the code and the plain laws of this step give. Made by AI agents; no person has read it. -/
import Derived.Test.YtjdjmbjcbjmcoaaGreatDoorBase
import Derived.Test.YtjdjmbjcbjmcoaaGreatDoorCards
import Derived.Test.YtjdjmbjcbjmcoaaGreatDoorTie
import Derived.ProofKit
import Derived.OpenShut
import Derived.Deep.DeepHandedRow
import Derived.Lib.LaidU8
import Derived.Deep.SlicePairs
import Derived.OpenVars
import Derived.Carry
namespace Go.Proofs.YtjdjmbjcbjmcoaaGreatDoor
open Go Go.Proofs Go.RowKit Go.ChangeShapes Go.WideShapes Go.ChangeAt Go.Proofs.Base
theorem gBad : Tryz.prog.globalNamed "loop.example/pub-g03078/pub/sctp.ErrChecksumMismatch" = some 7 := by kernel_rfl
theorem gBadType : (Tryz.prog.globals[7]?).map (·.type) = some 53 := by kernel_rfl
theorem laidOut : laidOutB Tryz.prog = true := by kernel_rfl
theorem rowed : varsRowed Tryz.prog Rows.fnBentSpec.vars = true := by kernel_rfl
set_option maxRecDepth 100000 in
/-- The listed sentinel holds an error that is not nil. -/
theorem bad_held {W : World} (h : laidMetH Tryz.prog Rows.fnBentRow.laid W) : ∃ tt ev, W.cell? ⟨7, 0, none⟩ = some (.iface tt ev) := by
  have hm : laidMet Tryz.prog Rows.fnBentRow.laid W := h
  obtain ⟨g, t, cs, fuel, p, h1, h2, h3, h4⟩ := Go.Lib.laidMet.reads hm (n := "loop.example/pub-g03078/pub/sctp.ErrChecksumMismatch") (d := Rows.laid_loop_example_pub_g03078_pub_sctp_ErrChecksumMismatch) (by simp [Rows.fnBentRow])
  obtain rfl := Option.some.inj (gBad.symm.trans h1)
  obtain rfl := Option.some.inj (gBadType.symm.trans h2)
  have hcell : ∀ (i : Nat) (v : Value), cs[i]? = some v → W.cell? ⟨7, i, none⟩ = some v := fun i v hv => by
    have := World.var?_cell gBad h3 i
    rw [this]; exact hv
  have key : ∃ tt ev, cs.toList = [.iface tt ev] := by
    generalize cs.toList = l at h4
    cases fuel with
    | zero => simp [DataW.trod] at h4
    | succ n =>
      unfold DataW.trod at h4
      rw [Tryz.underlying53] at h4
      unfold Rows.laid_loop_example_pub_g03078_pub_sctp_ErrChecksumMismatch at h4
      split at h4 <;> first | (cases h4; done) | (exact ⟨_, _, rfl⟩) | (simp at h4; done) | skip
      all_goals (rename_i he; cases he)
  obtain ⟨tt, ev, hl⟩ := key
  refine ⟨tt, ev, hcell 0 _ ?_⟩
  rw [← Array.getElem?_toList, hl]; rfl
theorem keptBelow {W W' : World} (h : Kept [] W W') : Below W.heap.size W W' := ⟨h.os, h.tape, h.output, h.size, fun k hk => h.block k hk (by simp)⟩
end Go.Proofs.YtjdjmbjcbjmcoaaGreatDoor
