/- A part of the proof, step T19: what the code and the plain laws of this step give. Made by AI agents; no person has read it. -/
import Derived.Test.YthphjbjehccomaaGreatDoorT13
namespace Go.Proofs.Base
open Go Go.Proofs Go.RowKit Go.Proofs.Gaps
set_option maxRecDepth 100000
/-- Answers as values. -/
def bl (n : Nat) (T : Nat → Bool) : Array Value := ((List.range n).map fun k => Value.bool (T k)).toArray
theorem bl_size (n : Nat) (T : Nat → Bool) : (bl n T).size = n := by simp [bl]
theorem bl_get {n : Nat} {T : Nat → Bool} {k : Nat} (h : k < n) : (bl n T)[k]? = some (.bool (T k)) := by simp [bl, h]
theorem bl_set {n : Nat} (T : Nat → Bool) (k : Nat) (x : Bool) : (bl n T).setIfInBounds k (.bool x) = bl n fun j => if j = k then x else T j := by
  apply Array.ext_getElem?
  intro j
  rw [Array.getElem?_setIfInBounds]
  by_cases hj : j < n
  · rw [bl_get hj, bl_get hj, bl_size]
    by_cases e : k = j
    · subst e; simp [hj]
    · have : j ≠ k := fun h => e h.symm
      simp [e, this]
  · rw [Array.getElem?_eq_none (by rw [bl_size]; omega), Array.getElem?_eq_none (by rw [bl_size]; omega), bl_size]
    by_cases e : k = j
    · subst e; simp [hj]
    · simp [e]
theorem iBool : (Tryz.prog.info? 4).map (fun i => (i.zero, i.size, i.bytes)) = some (some (.bool false), 1, 1) := by kernel_rfl
theorem makeBools (N : Nat) (hN : N ≤ 1000) (w : World) : (Instr.makeSlice 51 (.int .i64 N) (.int .i64 N)).run Tryz.prog w = .ok (.slice (some ⟨w.heap.size, 0, none⟩) N N) (w.alloc (.cells (bl N fun _ => false) 4)) := by
  rw [run_make_row' (P := Tryz.prog) 51 4 (.bool false) 1 Tryz.underlying51 iBool rfl .i64 .i64 N (by omega) (by omega) w]
  congr 3
  apply Array.ext'
  rw [toList_madeCells_one]
  simp [bl, List.map_const']
set_option maxHeartbeats 4000000 in
theorem Told (bg f n u : Nat) (vg vd : Value) (js : List Nat) (G : List (Nat × Nat)) (w : World) (hn : n < 64) (ht : Tells n js u G) (hg : w.ownsRow bg 79 2 vg G.length (g64 G)) :
    Calls Tryz.prog 18 #[.int .u32 (tsn f 1 : Nat), .int .i64 n, .agg #[.int .u32 (tsn f u : Nat), .int .u32 0, vg, vd]] w fun e w' => ∃ B, w.heap.size ≤ B ∧ e = .returned (.tuple #[.slice (some ⟨B, 0, none⟩) n n, .bool true]) ∧
      w'.heap[B]? = some (.cells (bl n fun k => decide (k + 1 ∈ js)) 4 (0, 0)) ∧ Kept [] w w' := by
  have hun := ht.uN
  have HT := hid ht; have HG := hid hg
  have k1 : IntKind.u32.wrap ((tsn f 1 : Int) - 1) = ((tsn f 0 : Nat) : Int) := by rw [IntKind.wrap_u32]; unfold tsn; omega
  have k3 : IntKind.i64.wrap (u : Int) = (u : Int) := by rw [IntKind.wrap_i64]; omega
  have k2 : IntKind.u32.wrap ((tsn f u : Int) - (tsn f 0 : Int)) = ((u : Nat) : Int) := by rw [IntKind.wrap_u32]; unfold tsn; omega
  clear ht hg
  go_enter Tryz.func18, Tryz.ntmps18
  go_wp2_with fail
  obtain ⟨Ag, Cg, rfl⟩ := own_form HG.out
  generalize hW : World.alloc _ _ = w1
  have hA : w1.heap[w.heap.size]? = some (.cells #[.int .u32 (tsn f u : Nat), .int .u32 0, .slice Ag G.length Cg, vd] 59 (0, 0)) := by rw [← hW]; exact blk_new w _
  have hk1 : Kept [] w w1 := by rw [← hW]; exact (Kept.refl [] w).alloc _
  have hmk := makeBools n (by omega) w1.drew
  have HA := hid hA; have HK1 := hid hk1
  have a0 : w1.cell? ⟨w.heap.size, 0, none⟩ = some (.int .u32 (tsn f u : Nat)) := blk_cell hA rfl
  have lA := blk_lt hA
  clear hW hA hk1
  generalize hAe : w.heap.size = A at *
  have HAe := hid hAe; clear hAe
  go_region_held3 (fun wx => wx.cell? ⟨A, 0, none⟩ = some (.int .u32 (tsn f u : Nat))) (go_keep) (fail)
  generalize hW2 : World.drew _ = w2
  have hO : w2.heap[w1.heap.size]? = some (.cells (bl n fun _ => false) 4 (0, 0)) := by rw [← hW2]; exact blk_new w1 _
  have hk2 : Kept [] w1 w2 := by rw [← hW2]; exact ((Kept.refl [] w1).alloc _).drew
  have hA2 := (hk2.block A lA (by simp)).trans HA.out
  have HO := hid hO; have HA2 := hid hA2; have HK2 := hid (HK1.out.trans hk2)
  have hs1 := HK1.out.size
  have hAB : w.heap.size ≤ w1.heap.size := hs1
  clear hW2 hO hk2 hA2 hmk a0
  generalize w1.heap.size = B at *
  have u1 : ¬ (u : Int) < 0 := by omega
  have u2 : ¬ (n : Int) < (u : Int) := by omega
  go_wp2_with fail
  go_loopw [10] (fun s10 wx => ∃ i : Nat, i ≤ u ∧ s10 = .int .i64 i ∧ Hid (wx.heap[B]? = some (.cells (bl n fun k => decide (k < i)) 4 (0, 0))) ∧ Hid (wx.heap[A]? = some (.cells #[.int .u32 (tsn f u : Nat), .int .u32 0, .slice Ag G.length Cg, vd] 59 (0, 0))) ∧ Hid (Kept [] w wx)) (fun s10 _ => u - (intOf s10).toNat)
  case atStart => exact ⟨0, by omega, rfl, hid (by simpa using HO.out), HA2, HK2⟩
  case round =>
    obtain ⟨i, hi, rfl, HO, HA, HK⟩ := hrel
    by_cases hlt : i < u
    · have hlt' : (i : Int) < (u : Int) := by omega
      have h0' : (0 : Int) ≤ (i : Int) := by omega
      have hin : (i : Int) < (n : Int) := by omega
      have c0 : wr.cell? ⟨B, i, none⟩ = some (.bool (decide (i < i))) := blk_cell HO.out (bl_get (by omega))
      have f0 : wr.frozen? ⟨B, i, none⟩ = false := blk_free HO.out
      have lB := blk_lt HO.out
      have hAe := HAe.out
      have hne : A ≠ B := by
        intro e
        have h1 := HA.out
        rw [e, HO.out] at h1
        simp at h1
      go_wp2_with fail
      go_roundw
      case rel =>
        refine ⟨i + 1, by omega, by go_num, hid ?_, hid ?_, hid (HK.out.setCell (p := ⟨B, i, none⟩) _ (.inr (by show w.heap.size ≤ B; omega)))⟩
        · rw [blk_setCell _ HO.out, bl_set]
          have e : (fun j => if j = i then true else decide (j < i)) = (fun k => decide (k < i + 1)) := by
            funext j
            by_cases h : j = i
            · subst h; simp
            · simp [h]; omega
          rw [e]
        · rw [blk_setCell_ne _ (by exact hne)]; exact HA.out
      case measure => simp [intOf]; omega
    · have hlt' : ¬ (i : Int) < (u : Int) := by omega
      obtain rfl : u = i := by omega
      have a2 : wr.cell? ⟨A, 2, none⟩ = some (.slice Ag G.length Cg) := blk_cell HA.out rfl
      have lA2 := blk_lt HA.out
      go_wp2_with fail
      have HAr := HA
      have hAe := HAe.out
      have hne : A ≠ B := by
        intro e
        have h1 := HA.out
        rw [e, HO.out] at h1
        simp at h1
      clear a2
      go_loopw [40] (fun s40 wx => ∃ i : Nat, i ≤ G.length ∧ s40 = .int .i64 i ∧ Hid (wx.heap[B]? = some (.cells (bl n fun k => decide (k < u ∨ ∃ g ∈ G.take i, g.1 ≤ k + 1 - u ∧ k + 1 - u ≤ g.2)) 4 (0, 0))) ∧ Hid (Kept [] w wx)) (fun s40 _ => G.length - (intOf s40).toNat)
      case atStart => exact ⟨0, by omega, rfl, hid (by simpa using HO.out), HK⟩
      case round =>
        obtain ⟨j, hj, rfl, HO2, HK2⟩ := hrel
        by_cases hjl : j < G.length
        · have hjl' : (j : Int) < (G.length : Int) := by omega
          have h0' : (0 : Int) ≤ (j : Int) := by omega
          obtain ⟨g, cap', hv, _, _⟩ := own_some HG.out (by omega)
          simp only [Value.slice.injEq, true_and] at hv
          obtain ⟨rfl, rfl⟩ := hv
          have lg := (HG.out.lt g rfl).2
          have hHg := ownsRow_kept HG.out HK2.out (by simp)
          have hget := flat2_get G (fun g => Value.int .i64 (g.1 : Nat)) (fun g => Value.int .i64 (g.2 : Nat)) j hjl
          have c0 : wr.cell? ⟨g, j * 2, none⟩ = some (.int .i64 ((G[j]).1 : Nat)) := by
            have := hHg.cells (g := g) rfl (j * 2) _ hget.1
            rwa [addr_add, Nat.zero_add] at this
          have c1 : wr.cell? ⟨g, j * 2 + 1, none⟩ = some (.int .i64 ((G[j]).2 : Nat)) := by
            have := hHg.cells (g := g) rfl (j * 2 + 1) _ hget.2
            rwa [addr_add, Nat.zero_add] at this
          have lgr : g < wr.heap.size := Nat.lt_of_lt_of_le lg HK2.out.size
          have HTK := hid (take_snoc' hjl)
          have HJL := hid hjl
          have HGA := hid (HT.out.are G[j] (List.getElem_mem hjl))
          generalize G[j] = gp at *
          clear hHg hget lg
          go_wp2_with fail
          generalize hWE : wr.alloc _ = wE
          have hkE : Kept [] wr wE := by rw [← hWE]; exact (Kept.refl [] wr).alloc _
          have hE : wE.heap[wr.heap.size]? = some (.cells #[.int .i64 (gp.1 : Nat), .int .i64 (gp.2 : Nat)] 79 (0, 0)) := by rw [← hWE]; exact blk_new wr _
          have hOE := (hkE.block B (blk_lt HO2.out) (by simp)).trans HO2.out
          have lBr := blk_lt HO2.out
          have HE := hid hE; have HOE := hid hOE; have HKE := hid (HK2.out.trans hkE)
          clear hWE hkE hE hOE c0 c1 lgr
          generalize wr.heap.size = E at *
          have hga := HGA.out
          go_loopw [13] (fun s13 wx => ∃ k : Nat, gp.1 ≤ k ∧ k ≤ gp.2 + 1 ∧ s13 = .int .i64 k ∧ Hid (wx.heap[B]? = some (.cells (bl n fun q => decide (q < u ∨ (∃ g ∈ G.take j, g.1 ≤ q + 1 - u ∧ q + 1 - u ≤ g.2) ∨ (gp.1 ≤ q + 1 - u ∧ q + 1 - u < k))) 4 (0, 0))) ∧ Hid (wx.heap[E]? = some (.cells #[.int .i64 (gp.1 : Nat), .int .i64 (gp.2 : Nat)] 79 (0, 0))) ∧ Hid (Kept [] w wx)) (fun s13 _ => gp.2 + 1 - (intOf s13).toNat)
          case atStart =>
            refine ⟨gp.1, by omega, by omega, rfl, hid ?_, HE, HKE⟩
            have e : (fun q => decide (q < u ∨ (∃ g ∈ G.take j, g.1 ≤ q + 1 - u ∧ q + 1 - u ≤ g.2) ∨ (gp.1 ≤ q + 1 - u ∧ q + 1 - u < gp.1))) = (fun q => decide (q < u ∨ ∃ g ∈ G.take j, g.1 ≤ q + 1 - u ∧ q + 1 - u ≤ g.2)) := by
              funext q
              apply decide_eq_decide.2
              constructor
              · rintro (h | h | h)
                · exact .inl h
                · exact .inr h
                · omega
              · rintro (h | h)
                · exact .inl h
                · exact .inr (.inl h)
            rw [e]; exact HOE.out
          case round =>
            obtain ⟨k, hk1, hk2, rfl, HO3, HE3, HK3⟩ := hrel
            have e1 : wr.cell? ⟨E, 1, none⟩ = some (.int .i64 (gp.2 : Nat)) := blk_cell HE3.out rfl
            have lE3 := blk_lt HE3.out
            have lB3 := blk_lt HO3.out
            by_cases hkl : k ≤ gp.2
            · have hkl' : (k : Int) ≤ (gp.2 : Int) := by omega
              have q1 : ¬ (k : Int) < 1 := by omega
              have q2 : ¬ (n : Int) < (u : Int) + (k : Int) := by omega
              have q3 : (0 : Int) ≤ (u : Int) + (k : Int) - 1 := by omega
              have q4 : (u : Int) + (k : Int) - 1 < (n : Int) := by omega
              have q5 : ((u : Int) + (k : Int) - 1).toNat = u + k - 1 := by omega
              have f3 : wr.frozen? ⟨B, u + k - 1, none⟩ = false := blk_free HO3.out
              have c3 := blk_cell HO3.out (bl_get (n := n) (T := fun q => decide (q < u ∨ (∃ g ∈ G.take j, g.1 ≤ q + 1 - u ∧ q + 1 - u ≤ g.2) ∨ (gp.1 ≤ q + 1 - u ∧ q + 1 - u < k))) (k := u + k - 1) (by omega))
              have hneE : E ≠ B := by
                intro e
                have h1 := HE3.out
                rw [e, HO3.out] at h1
                simp at h1
              have hAB3 := HAe.out
              go_wp2_with fail
              go_roundw
              case rel =>
                refine ⟨k + 1, by omega, by omega, by go_num, hid ?_, hid ?_, hid (HK3.out.setCell (p := ⟨B, u + k - 1, none⟩) _ (.inr (by show w.heap.size ≤ B; omega)))⟩
                · rw [blk_setCell _ HO3.out, bl_set]
                  have e : (fun q => if q = u + k - 1 then true else decide (q < u ∨ (∃ g ∈ G.take j, g.1 ≤ q + 1 - u ∧ q + 1 - u ≤ g.2) ∨ (gp.1 ≤ q + 1 - u ∧ q + 1 - u < k))) = (fun q => decide (q < u ∨ (∃ g ∈ G.take j, g.1 ≤ q + 1 - u ∧ q + 1 - u ≤ g.2) ∨ (gp.1 ≤ q + 1 - u ∧ q + 1 - u < k + 1))) := by
                    funext q
                    by_cases h : q = u + k - 1
                    · rw [if_pos h]
                      exact (decide_eq_true (.inr (.inr (by omega)))).symm
                    · rw [if_neg h]
                      apply decide_eq_decide.2
                      constructor
                      · rintro (h1 | h1 | h1)
                        · exact .inl h1
                        · exact .inr (.inl h1)
                        · exact .inr (.inr (by omega))
                      · rintro (h1 | h1 | h1)
                        · exact .inl h1
                        · exact .inr (.inl h1)
                        · exact .inr (.inr (by omega))
                  rw [e]
                · rw [blk_setCell_ne _ (by exact hneE)]; exact HE3.out
              case measure => simp [intOf]; omega
            · have hkl' : ¬ (k : Int) ≤ (gp.2 : Int) := by omega
              obtain rfl : k = gp.2 + 1 := by omega
              have hjb : (j : Int) < 64 := by have := HT.out.few; have := HJL.out; omega
              go_wp2_with fail
              go_roundw
              case rel =>
                refine ⟨j + 1, HJL.out, by go_num, hid ?_, HK3⟩
                rw [HTK.out]
                have e : (fun q => decide (q < u ∨ (∃ g ∈ G.take j, g.1 ≤ q + 1 - u ∧ q + 1 - u ≤ g.2) ∨ (gp.1 ≤ q + 1 - u ∧ q + 1 - u < gp.2 + 1))) = (fun q => decide (q < u ∨ ∃ g ∈ G.take j ++ [gp], g.1 ≤ q + 1 - u ∧ q + 1 - u ≤ g.2)) := by
                  funext q
                  apply decide_eq_decide.2
                  constructor
                  · rintro (h | ⟨g', hg', h⟩ | h)
                    · exact .inl h
                    · exact .inr ⟨g', by simp [hg'], h⟩
                    · exact .inr ⟨gp, by simp, by omega⟩
                  · rintro (h | ⟨g', hg', h⟩)
                    · exact .inl h
                    · rcases List.mem_append.1 hg' with h1 | h1
                      · exact .inr (.inl ⟨g', h1, h⟩)
                      · simp at h1; subst h1
                        exact .inr (.inr (by omega))
                rw [← e]; exact HO3.out
              case measure =>
                have := HJL.out
                simp [intOf]; omega
        · have hjl' : ¬ (j : Int) < (G.length : Int) := by omega
          obtain rfl : j = G.length := by omega
          go_wp2_with fail
          go_ret2
          refine ⟨B, by have := HAe.out; omega, rfl, ?_, HK2.out⟩
          have h := HO2.out
          rw [List.take_length] at h
          rw [h]
          have e : (fun k => decide (k < u ∨ ∃ g ∈ G, g.1 ≤ k + 1 - u ∧ k + 1 - u ≤ g.2)) = (fun k => decide (k + 1 ∈ js)) := by
            funext k
            apply decide_eq_decide.2
            rcases Nat.lt_or_ge k u with h1 | h1
            · exact ⟨fun _ => HT.out.low (k + 1) (by omega) (by omega), fun _ => .inl h1⟩
            · rw [HT.out.gap (k + 1) (by omega)]
              exact ⟨fun h2 => by rcases h2 with h2 | h2; exact absurd h2 (by omega); exact h2, .inr⟩
          rw [e]
end Go.Proofs.Base
