/- A part of the proof, step P30: what the code and the plain laws of this step give. Made by AI agents; no person has read it. -/
import Derived.Test.YtjdjmbjcbjmcoaaGreatDoorP29
namespace Go.Proofs.Base
open Go Go.Proofs Go.RowKit
set_option maxRecDepth 100000 in
set_option maxHeartbeats 400000 in
theorem zzFits1Nil (A : Option Addr) (C : Nat) (w : World) : Calls Tryz.prog 4 #[.slice A 0 C] w fun e w' => e = .returned (.bool true) ∧ Kept [] w w' := by
  go_enter Tryz.func4, Tryz.ntmps4
  go_wp2_with fail
  refine wp_loop_rounds 2 ?_
  rw [rounds_succ]
  go_wp2_with fail
  go_ret
  exact ⟨rfl, Kept.refl [] w⟩
set_option maxRecDepth 100000 in
set_option maxHeartbeats 400000 in
theorem AreMessagesNil (A : Option Addr) (C : Nat) (w : World) : Calls Tryz.prog 10 #[.slice A 0 C] w fun e w' => e = .returned (.bool false) ∧ Kept [] w w' := by
  go_enter Tryz.func10, Tryz.ntmps10
  go_wp2_with fail
  refine wp_loop_rounds 2 ?_
  rw [rounds_succ]
  go_wp2_with fail
  go_ret
  exact ⟨rfl, Kept.refl [] w⟩
set_option maxRecDepth 100000 in
set_option maxHeartbeats 400000 in
theorem isAskedNone (A : Option Addr) (C : Nat) (size : Int) (v : Value) (w : World) : Calls Tryz.prog 5 #[.slice A 0 C, .int .i64 size, v] w fun e w' => e = .returned (.bool false) ∧ Kept [] w w' := by
  go_enter Tryz.func5, Tryz.ntmps5
  go_wp2_with fail
  refine (AreMessagesNil A C w).mono ?_
  rintro e w1 ⟨rfl, hk1⟩
  go_wp2_with fail
  go_ret
  exact ⟨rfl, hk1⟩
set_option maxRecDepth 100000 in
set_option maxHeartbeats 400000 in
theorem FnBentNil (A : Option Addr) (C first : Nat) (size nn at' : Int) (w : World) :
    Calls Tryz.prog 3 #[.int .u32 first, .slice A 0 C, .int .i64 size, .int .i64 nn, .int .i64 at'] w fun e w' => e = .returned (.bool true) ∧ Kept [] w w' := by
  go_enter Tryz.func3, Tryz.ntmps3
  go_wp2_with fail
  refine (zzFits1Nil A C w).mono ?_
  rintro e w1 ⟨rfl, hk1⟩
  go_wp2_with fail
  refine (isAskedNone A C size (.slice none 0 0) w1).mono ?_
  rintro e w2 ⟨rfl, hk2⟩
  go_wp2_with fail
  go_ret
  exact ⟨rfl, hk1.trans hk2⟩
end Go.Proofs.Base
