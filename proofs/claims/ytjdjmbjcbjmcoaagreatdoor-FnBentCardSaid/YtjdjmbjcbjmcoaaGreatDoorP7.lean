/- A part of the proof, step P7: what the code and the plain laws of this step give. Made by AI agents; no person has read it. -/
import Derived.Test.YtjdjmbjcbjmcoaaGreatDoorP6
namespace Go.Proofs.Base
open Go Go.Proofs Go.RowKit
theorem small_dataBytes (d : Pd) (l : List Nat) (hd : d.ok) (hl : ∀ x ∈ l, x < 256) (hn : l.length < 50000) : ∀ x ∈ dataBytes d l, x < 256 := by
  intro x hx
  simp only [dataBytes, List.mem_cons] at hx
  rcases hx with rfl | rfl | rfl | rfl | hx
  · omega
  · unfold flagOf; cases d.bg <;> cases d.en <;> decide
  · omega
  · omega
  · exact small_payload d l hd hl x hx
set_option maxRecDepth 100000 in
set_option maxHeartbeats 1000000 in
theorem DataText (d : Pd) (ub uo n ucap : Nat) (l : List Nat) (w : World) (hd : d.ok) (hl : BytesAt w ub uo l) (hn : l.length = n) (hp : 0 < n) (hm : n < 50000) :
    Calls Tryz.prog 12 #[.agg (dC d (.slice (some ⟨ub, uo, none⟩) n ucap))] w fun e w' => ∃ g cap', 16 + n ≤ cap' ∧ cap' ≤ maxLen ∧ w.heap.size ≤ g ∧ e = .returned (.tuple #[.slice (some ⟨g, 0, none⟩) (16 + n) cap', .bool true]) ∧ BytesAt w' g 0 (dataBytes d l) ∧ Kept [] w w' := by
  have hub := hl.lt
  have hkA := (Kept.refl [] w).alloc (.cells (dC d (.slice (some ⟨ub, uo, none⟩) n ucap)) 32)
  have H1 := hid (dataOf d ub uo n ucap l (w.alloc (.cells (dC d (.slice (some ⟨ub, uo, none⟩) n ucap)) 32)) hd (hl.kept hkA (by simp)) hn hp hm)
  have HKA := hid hkA; clear hkA
  unfold dC at *
  go_enter Tryz.func12, Tryz.ntmps12
  go_wp2_with fail
  refine H1.out.mono ?_
  rintro e w1 ⟨g1, cap1, hc1, rfl, hb1, hk1⟩
  clear H1
  have H2 := hid (ZZDataText d g1 0 n cap1 l w1 hd hb1 hn hp hm)
  have hk1' := hid (HKA.out.trans hk1)
  clear hk1 hb1
  go_wp2_with fail
  refine H2.out.mono ?_
  rintro e w2 ⟨B, hB, rfl, hO, hk2⟩
  clear H2
  have hk2' := hid (hk1'.out.trans hk2)
  have hO2 : OB w2.drew B (dataBytes d l) := hO
  have hby := hO2.bytes (small_dataBytes d l hd hl.small (by omega))
  have H3 := hid (copied B 0 (16 + n) (16 + n) (dataBytes d l) w2.drew hby (by rw [len_dataBytes, hn]) (by omega) (by omega))
  clear hO hO2 hby hk1' hk2
  go_wp2_with fail
  go_region_held3 (fun _ => True) (trivial) ((go_at_call 18; refine H3.out.mono ?_; rintro e w3 ⟨g3, cap3, hg3, hc3, hm3, rfl, hb3, hk3⟩))
  go_wp2_with fail
  go_ret2
  have hsz := hk2'.out.size
  have hg4 : w2.heap.size ≤ g3 := hg3
  exact ⟨g3, cap3, hc3, hm3, by omega, rfl, hb3, hk2'.out.drew.trans hk3⟩
end Go.Proofs.Base
