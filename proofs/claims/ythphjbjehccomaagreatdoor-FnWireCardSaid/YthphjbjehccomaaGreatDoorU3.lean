/- Parts of the proof, steps U2, U3: what the code and the plain laws of these steps give. Made by AI agents; no person has read it. -/
import Derived.Test.YthphjbjehccomaaGreatDoorP10
import Derived.Laws.LoneSync
section
namespace Go.Proofs.Base
open Go Go.Proofs Go.RowKit
set_option maxRecDepth 100000
def qC (si nx : Nat) (v3 v4 v5 v6 v7 : Value) (m1 m2 nB : Nat) : Array Value := #[.int .u16 si, .int .u16 nx, .int .u32 0, v3, v4, v5, v6, v7, .map (some m1), .map (some m2), .bool false, .int .u64 nB, .int .u32 0]
set_option maxHeartbeats 1000000 in
theorem sna16LT (a b : Nat) (w : World) (ha : a < 100) (hb : b < 100) : Calls Tryz.prog 70 #[.int .u16 a, .int .u16 b] w fun e w' => e = .returned (.bool (decide (a < b))) ∧ w' = w := by
  rcases Nat.lt_trichotomy a b with h | h | h
  · have g1 : (a : Int) < b := by omega
    have g3 : (b : Int) - (a : Int) < 32768 := by omega
    rw [decide_eq_true h]
    go_enter Tryz.func70, Tryz.ntmps70
    go_wp2_with fail
    go_ret
    exact ⟨rfl, rfl⟩
  · subst h
    have g1 : ¬ (a : Int) < a := by omega
    rw [decide_eq_false (by omega)]
    go_enter Tryz.func70, Tryz.ntmps70
    go_wp2_with fail
    go_ret
    exact ⟨rfl, rfl⟩
  · have g1 : ¬ (a : Int) < b := by omega
    have g4 : (b : Int) < a := by omega
    have g3 : ¬ 32768 < (a : Int) - (b : Int) := by omega
    rw [decide_eq_false (by omega)]
    go_enter Tryz.func70, Tryz.ntmps70
    go_wp2_with fail
    go_ret
    exact ⟨rfl, rfl⟩
set_option maxHeartbeats 1000000 in
theorem sna16GTself (a : Nat) (w : World) : Calls Tryz.prog 47 #[.int .u16 a, .int .u16 a] w fun e w' => e = .returned (.bool false) ∧ w' = w := by
  have g1 : ¬ (a : Int) < a := by omega
  go_enter Tryz.func47, Tryz.ntmps47
  go_wp2_with fail
  go_ret
  exact ⟨rfl, rfl⟩
/-- sync/atomic.AddUint64. -/
theorem addU64 (a : Addr) (x y s : Int) (w : World) (hc : w.cell? a = some (.int .u64 x)) (hz : w.frozen? a = false) (hs : (Op.intArith .add .u64 x y).run Tryz.prog w = .ok (.int .u64 s) w) :
    (callFunc 67 #[.pointer (some a), .int .u64 y]).run Tryz.prog w = .ok (.value (.int .u64 s)) (w.setCell a (.int .u64 s)) :=
  run_call_add Tryz.func67 (by kernel_rfl) (by kernel_rfl) (by kernel_rfl) .u64 (by kernel_rfl) hc hz hs
theorem loadU64 (a : Addr) (x : Int) (w : World) (hc : w.cell? a = some (.int .u64 x)) : (callFunc 77 #[.pointer (some a)]).run Tryz.prog w = .ok (.value (.int .u64 x)) w :=
  run_call_load Tryz.func77 (by kernel_rfl) (by kernel_rfl) (by kernel_rfl) .u64 (by kernel_rfl) hc
end Go.Proofs.Base
end
section
namespace Go.Proofs.Base
open Go Go.Proofs Go.RowKit
set_option maxRecDepth 100000
/-- A phase of a region whose order is drawn: n operations come up in whatever order, each leaving the invariant; then the rest. -/
theorem wpAnyH_phase {P : Program} {md : Region.Mode} {ops : Array Oper} {Q : Exit → Act → World → Prop} {S : World → Prop} (m : Nat) (I : Nat → Array Bool → Act → World → Prop)
    (step : ∀ n listed a w, I (n + 1) listed a w → (∃ i, i ∈ Region.ready md ops listed) ∧ ∀ i ∈ Region.ready md ops listed, wpOp P ops Q i (fun a' w' => S w' ∧ I n (listed.setIfInBounds i true) a' w') a w)
    (done : ∀ listed a w, I 0 listed a w → wpAnyH P md ops Q S m listed a w) : ∀ n listed a w, I n listed a w → wpAnyH P md ops Q S (m + n) listed a w
  | 0, listed, a, w, h => done listed a w h
  | n + 1, listed, a, w, h => by
    obtain ⟨⟨i, hi⟩, h2⟩ := step n listed a w h
    refine ⟨fun h0 => ?_, fun j hj => ?_⟩
    · rw [h0] at hi; cases hi
    · exact wpOp_mono (fun a' w' h' => ⟨h'.1, wpAnyH_phase m I step done n _ a' w' h'.2⟩) (h2 j hj)
def bn : Bool → Nat
  | true => 0
  | false => 1
theorem makeSets (w : World) : (Instr.makeSlice 107 (.int .i64 0) (.int .i64 0)).run Tryz.prog w = .ok (.slice (some ⟨w.heap.size, 0, none⟩) 0 0) (w.alloc (.cells #[] 121)) := by kernel_rfl
theorem makeMIDs (w : World) : (Instr.makeSlice 108 (.int .i64 0) (.int .i64 0)).run Tryz.prog w = .ok (.slice (some ⟨w.heap.size, 0, none⟩) 0 0) (w.alloc (.cells #[] 122)) := by kernel_rfl
theorem makeMIDMap (w : World) : (Instr.makeMap 109 none).run Tryz.prog w = .ok (.map (some w.heap.size)) (w.alloc (.map #[] 0)) := by kernel_rfl
def SetsV (w0 w : World) (v : Value) : Prop := ∃ g, v = .slice (some ⟨g, 0, none⟩) 0 0 ∧ w0.heap.size ≤ g ∧ w.heap[g]? = some (.cells #[] 121 (0, 0))
def AnyS (v : Value) : Prop := ∃ g, v = .slice (some ⟨g, 0, none⟩) 0 0
def AnyM (v : Value) : Prop := ∃ g, v = .map (some g)
def If (b : Bool) (p : Prop) (v : Value) : Prop := if b = true then p else v = undef
theorem ifKept {b : Bool} {p q : Prop} {v : Value} (h : If b p v) (hpq : p → q) : If b q v := by
  unfold If at *
  split at h
  · rename_i hb; rw [if_pos hb]; exact hpq h
  · rename_i hb; rw [if_neg hb]; exact h
set_option maxHeartbeats 4000000 in
theorem newReassemblyQueue (si : Nat) (w : World) : Calls Tryz.prog 29 #[.int .u16 si, .int .u32 0] w fun e w' => ∃ q v3 v4 v6 v7 m1 m2, e = .returned (.pointer (some ⟨q, 0, none⟩)) ∧ w.heap.size ≤ q ∧
      w'.heap[q]? = some (.cells (qC si 0 v3 v4 (.slice none 0 0) v6 v7 m1 m2 0) 113 (0, 0)) ∧ SetsV w w' v3 ∧ AnyS v4 ∧ AnyS v6 ∧ AnyS v7 ∧ Kept [] w w' := by
  go_enter Tryz.func29, Tryz.ntmps29
  go_wp2_with fail
  refine wp_region_held_drew (S := fun _ => True) (by kernel_rfl) trivial (fun _ => ?_)
  refine wpAnyH_take (i := 0) (v := ?_) rfl (by kernel_rfl) (by kernel_rfl) (by kernel_rfl) (fun _ _ _ h => h) (Or.inl ⟨by rfl, ?_⟩) trivial ?_
  rotate_left
  · (intro w' hSw; go_simp; (try with_reducible rfl))
  try simp only [Act.put, List.setIfInBounds_toArray]
  refine wpAnyH_take (i := 7) (v := ?_) rfl (by kernel_rfl) (by kernel_rfl) (by kernel_rfl) (fun _ _ _ h => h) (Or.inl ⟨by rfl, ?_⟩) trivial ?_
  rotate_left
  · (intro w' hSw; go_simp; (try with_reducible rfl))
  try simp only [Act.put]
  change wpAnyH _ _ _ _ _ (3 + 6) #[true, false, false, false, false, false, false, true, false, false, false] _ _
  refine wpAnyH_phase 3 (fun n listed a wx => ∃ (b1 b2 b3 b4 b5 b6 : Bool) (v1 v2 v3 v4 v5 v6 : Value), n = bn b1 + bn b2 + bn b3 + bn b4 + bn b5 + bn b6 ∧ listed = #[true, b1, b2, b3, b4, b5, b6, true, false, false, false] ∧ a = { tmps := #[.int .u16 si, .int .u32 0, undef, undef, .pointer none, .int .u16 si, v1, v2, v3, v4, v5, v6, .int .u32 0, undef, undef], defers := [] } ∧ If b1 (SetsV w wx v1) v1 ∧ If b2 (AnyS v2) v2 ∧ If b3 (AnyS v3) v3 ∧ If b4 (AnyS v4) v4 ∧ If b5 (AnyM v5) v5 ∧ If b6 (AnyM v6) v6 ∧ Kept [] w wx) ?_ ?_ 6 _ _ _ ⟨false, false, false, false, false, false, undef, undef, undef, undef, undef, undef, rfl, rfl, rfl, rfl, rfl, rfl, rfl, rfl, rfl, (Kept.refl [] w).drew⟩
  · rintro n listed a wx ⟨b1, b2, b3, b4, b5, b6, v1, v2, v3, v4, v5, v6, hn, rfl, rfl, g1, g2, g3, g4, g5, g6, hk⟩
    constructor
    · cases b1 with
      | false => exact ⟨1, List.mem_filter.2 ⟨List.mem_range.2 (by decide), by kernel_rfl⟩⟩
      | true => cases b2 with
        | false => exact ⟨2, List.mem_filter.2 ⟨List.mem_range.2 (by decide), by kernel_rfl⟩⟩
        | true => cases b3 with
          | false => exact ⟨3, List.mem_filter.2 ⟨List.mem_range.2 (by decide), by kernel_rfl⟩⟩
          | true => cases b4 with
            | false => exact ⟨4, List.mem_filter.2 ⟨List.mem_range.2 (by decide), by kernel_rfl⟩⟩
            | true => cases b5 with
              | false => exact ⟨5, List.mem_filter.2 ⟨List.mem_range.2 (by decide), by kernel_rfl⟩⟩
              | true => cases b6 with
                | false => exact ⟨6, List.mem_filter.2 ⟨List.mem_range.2 (by decide), by kernel_rfl⟩⟩
                | true => simp [bn] at hn
    · intro i hi
      obtain ⟨hr, hm⟩ := List.mem_filter.1 hi
      have hi11 : i < 11 := List.mem_range.1 hr
      clear hi hr
      obtain rfl | rfl | rfl | rfl | rfl | rfl | rfl | rfl | rfl | rfl | rfl : i = 0 ∨ i = 1 ∨ i = 2 ∨ i = 3 ∨ i = 4 ∨ i = 5 ∨ i = 6 ∨ i = 7 ∨ i = 8 ∨ i = 9 ∨ i = 10 := by omega
      · exact absurd (show (false : Bool) = true from hm) (by decide)
      · cases b1 with
        | true => exact absurd (show (false : Bool) = true from hm) (by decide)
        | false =>
          have hrun := makeSets wx
          refine wpOp_step rfl (fun K' hK => ?_)
          simp only [If, Bool.false_eq_true, if_false] at g1
          subst g1
          go_simp
          refine hK _ _ ⟨trivial, true, b2, b3, b4, b5, b6, _, v2, v3, v4, v5, v6, by simp [bn] at hn ⊢; omega, rfl, rfl, ⟨_, rfl, hk.size, blk_new wx _⟩, g2, g3, g4, g5, g6, hk.alloc (.cells #[] 121)⟩
      · cases b2 with
        | true => exact absurd (show (false : Bool) = true from hm) (by decide)
        | false =>
          have hrun := makeSets wx
          refine wpOp_step rfl (fun K' hK => ?_)
          simp only [If, Bool.false_eq_true, if_false] at g2
          subst g2
          go_simp
          refine hK _ _ ⟨trivial, b1, true, b3, b4, b5, b6, v1, _, v3, v4, v5, v6, by simp [bn] at hn ⊢; omega, rfl, rfl, ifKept g1 (fun ⟨g, h1, h2, h3⟩ => ⟨g, h1, h2, blk_alloc _ h3⟩), ⟨_, rfl⟩, g3, g4, g5, g6, hk.alloc (.cells #[] 121)⟩
      · cases b3 with
        | true => exact absurd (show (false : Bool) = true from hm) (by decide)
        | false =>
          have hrun := makeMIDs wx
          refine wpOp_step rfl (fun K' hK => ?_)
          simp only [If, Bool.false_eq_true, if_false] at g3
          subst g3
          go_simp
          refine hK _ _ ⟨trivial, b1, b2, true, b4, b5, b6, v1, v2, _, v4, v5, v6, by simp [bn] at hn ⊢; omega, rfl, rfl, ifKept g1 (fun ⟨g, h1, h2, h3⟩ => ⟨g, h1, h2, blk_alloc _ h3⟩), g2, ⟨_, rfl⟩, g4, g5, g6, hk.alloc (.cells #[] 122)⟩
      · cases b4 with
        | true => exact absurd (show (false : Bool) = true from hm) (by decide)
        | false =>
          have hrun := makeMIDs wx
          refine wpOp_step rfl (fun K' hK => ?_)
          simp only [If, Bool.false_eq_true, if_false] at g4
          subst g4
          go_simp
          refine hK _ _ ⟨trivial, b1, b2, b3, true, b5, b6, v1, v2, v3, _, v5, v6, by simp [bn] at hn ⊢; omega, rfl, rfl, ifKept g1 (fun ⟨g, h1, h2, h3⟩ => ⟨g, h1, h2, blk_alloc _ h3⟩), g2, g3, ⟨_, rfl⟩, g5, g6, hk.alloc (.cells #[] 122)⟩
      · cases b5 with
        | true => exact absurd (show (false : Bool) = true from hm) (by decide)
        | false =>
          have hrun := makeMIDMap wx
          refine wpOp_step rfl (fun K' hK => ?_)
          simp only [If, Bool.false_eq_true, if_false] at g5
          subst g5
          go_simp
          refine hK _ _ ⟨trivial, b1, b2, b3, b4, true, b6, v1, v2, v3, v4, _, v6, by simp [bn] at hn ⊢; omega, rfl, rfl, ifKept g1 (fun ⟨g, h1, h2, h3⟩ => ⟨g, h1, h2, blk_alloc _ h3⟩), g2, g3, g4, ⟨_, rfl⟩, g6, hk.alloc (.map #[] 0)⟩
      · cases b6 with
        | true => exact absurd (show (false : Bool) = true from hm) (by decide)
        | false =>
          have hrun := makeMIDMap wx
          refine wpOp_step rfl (fun K' hK => ?_)
          simp only [If, Bool.false_eq_true, if_false] at g6
          subst g6
          go_simp
          refine hK _ _ ⟨trivial, b1, b2, b3, b4, b5, true, v1, v2, v3, v4, v5, _, by simp [bn] at hn ⊢; omega, rfl, rfl, ifKept g1 (fun ⟨g, h1, h2, h3⟩ => ⟨g, h1, h2, blk_alloc _ h3⟩), g2, g3, g4, g5, ⟨_, rfl⟩, hk.alloc (.map #[] 0)⟩
      · exact absurd (show (false : Bool) = true from hm) (by decide)
      · exfalso
        cases b1 <;> cases b2 <;> cases b3 <;> cases b4 <;> cases b5 <;> cases b6 <;> first | (simp [bn] at hn; done) | exact absurd (hm.symm.trans (by kernel_rfl) : true = false) (by decide)
      · exact absurd (hm.symm.trans (by kernel_rfl) : true = false) (by decide)
      · exact absurd (hm.symm.trans (by kernel_rfl) : true = false) (by decide)
  · rintro listed a wx ⟨b1, b2, b3, b4, b5, b6, v1, v2, v3, v4, v5, v6, hn, rfl, rfl, g1, g2, g3, g4, g5, g6, hk⟩
    obtain rfl : b1 = true := by
      cases b1 with
      | false => exact absurd hn (by simp only [bn]; omega)
      | true => rfl
    obtain rfl : b2 = true := by
      cases b2 with
      | false => exact absurd hn (by simp only [bn]; omega)
      | true => rfl
    obtain rfl : b3 = true := by
      cases b3 with
      | false => exact absurd hn (by simp only [bn]; omega)
      | true => rfl
    obtain rfl : b4 = true := by
      cases b4 with
      | false => exact absurd hn (by simp only [bn]; omega)
      | true => rfl
    obtain rfl : b5 = true := by
      cases b5 with
      | false => exact absurd hn (by simp only [bn]; omega)
      | true => rfl
    obtain rfl : b6 = true := by
      cases b6 with
      | false => exact absurd hn (by simp only [bn]; omega)
      | true => rfl
    clear hn
    simp only [If, if_true] at g1 g2 g3 g4 g5 g6
    obtain ⟨c1, rfl, hc1, hcell⟩ := g1
    obtain ⟨c2, rfl⟩ := g2
    obtain ⟨c3, rfl⟩ := g3
    obtain ⟨c4, rfl⟩ := g4
    obtain ⟨c5, rfl⟩ := g5
    obtain ⟨c6, rfl⟩ := g6
    refine wpAnyH_ready (rs := [8]) (by kernel_rfl) (by simp) ?_
    refine AllReadyH.cons rfl (fun K hK => ?_) AllReadyH.nil
    go_simp
    refine hK.out _ _ trivial (fun _ => ?_)
    clear hK K
    refine wpAnyH_ready (rs := [9]) (by kernel_rfl) (by simp) ?_
    refine AllReadyH.cons rfl (fun K hK => ?_) AllReadyH.nil
    go_simp
    refine hK.out _ _ trivial (fun _ => ?_)
    clear hK K
    refine wpAnyH_ready (rs := [10]) (by kernel_rfl) (by simp) ?_
    refine AllReadyH.cons rfl (fun K hK => ?_) AllReadyH.nil
    go_simp
    refine hK.out _ _ trivial (fun _ => ?_)
    clear hK K
    refine wpAnyH_done (by kernel_rfl) ?_ _
    go_wp2_with fail
    go_ret
    exact ⟨_, _, _, _, _, _, _, rfl, hk.size, blk_new wx _, ⟨c1, rfl, hc1, blk_alloc _ hcell⟩, ⟨_, rfl⟩, ⟨_, rfl⟩, ⟨_, rfl⟩, hk.alloc _⟩
end Go.Proofs.Base
end
