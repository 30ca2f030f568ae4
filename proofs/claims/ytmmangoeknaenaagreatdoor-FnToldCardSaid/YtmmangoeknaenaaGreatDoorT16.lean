/- A part of the proof, step T16: what the code and the plain laws of this step give. Made by AI agents; no person has read it. -/
import Derived.Test.YtmmangoeknaenaaGreatDoorT15
namespace Go.Proofs.Base
open Go Go.Proofs Go.RowKit Go.Proofs.Gaps
set_option maxRecDepth 100000
set_option maxHeartbeats 6000000 in
theorem SackText (bg bd : Nat) (vg vd : Value) (s : Sk) (w : World) (hs : s.ok) (hg : w.ownsRow bg 68 2 vg s.gaps.length (g64 s.gaps)) (hd : w.ownsRow bd 22 1 vd s.dups.length (u32s s.dups)) :
    Calls Tryz.prog 19 #[.agg #[.int .u32 s.tsn, .int .u32 0, vg, vd]] w fun e w' => ∃ g cap, w.heap.size ≤ g ∧ 4 + s.len ≤ cap ∧ cap ≤ maxLen ∧ e = .returned (.tuple #[.slice (some ⟨g, 0, none⟩) (4 + s.len) cap, .bool true]) ∧
      BytesAt w' g 0 (sackBytes s) ∧ Kept [] w w' := by
  obtain ⟨Ag, Cg, rfl⟩ := own_form hg
  obtain ⟨Ad, Cd, rfl⟩ := own_form hd
  have hn1 := hs.few
  have hn2 := hs.fewd
  have HG := hid hg; have HD := hid hd; have HS := hid hs
  clear hg hd hs
  have hsl : s.len < 12000 := by have := HS.out.few; have := HS.out.fewd; unfold Sk.len; omega
  go_enter Tryz.func19, Tryz.ntmps19
  go_wp2_with fail
  generalize hW : World.alloc _ _ = w1
  have hA1 : w1.heap[w.heap.size]? = some (.cells #[.int .u32 s.tsn, .int .u32 0, .slice Ag s.gaps.length Cg, .slice Ad s.dups.length Cd] 36 (0, 0)) := by rw [← hW]; exact blk_new w _
  have hk1 : Kept [] w w1 := by rw [← hW]; exact (Kept.refl [] w).alloc _
  clear hW
  generalize hBe : w.heap.size = B at *
  have HB := hid hBe; clear hBe
  have a0 : w1.cell? ⟨B, 0, none⟩ = some (.int .u32 s.tsn) := blk_cell hA1 rfl
  have a1 : w1.cell? ⟨B, 1, none⟩ = some (.int .u32 0) := blk_cell hA1 rfl
  have a2 : w1.cell? ⟨B, 2, none⟩ = some (.slice Ag s.gaps.length Cg) := blk_cell hA1 rfl
  have a3 : w1.cell? ⟨B, 3, none⟩ = some (.slice Ad s.dups.length Cd) := blk_cell hA1 rfl
  have lA1 := blk_lt hA1
  have HA1 := hid hA1; have HK1 := hid hk1
  have H28 := hid (halves bg _ s.gaps w1.drew (ownsRow_kept HG.out hk1.drew (by simp)) HS.out.few HS.out.gaps)
  clear hA1 hk1
  go_region_held_law (fun w' => w'.cell? ⟨B, 0, none⟩ = some (.int .u32 s.tsn) ∧ w'.cell? ⟨B, 1, none⟩ = some (.int .u32 0) ∧ w'.cell? ⟨B, 2, none⟩ = some (.slice Ag s.gaps.length Cg) ∧ w'.cell? ⟨B, 3, none⟩ = some (.slice Ad s.dups.length Cd))
    (go_keep)
    (first
      | (go_at_call 28; refine H28.out.mono ?_; rintro e w2 ⟨vo, rfl, hov, hk2⟩; obtain ⟨Ao, Co, rfl⟩ := own_form hov; have hk02 := HK1.out.drew.trans hk2; obtain ⟨v4, w4, hr4, ho4, hk4⟩ := copy32 34 bd _ s.dups w2 (ownsRow_kept HD.out hk02 (by simp)) (by omega); obtain ⟨Aq, Cq, rfl⟩ := own_form ho4; have hA2 := (hk2.block B (by exact lA1) (by simp)).trans HA1.out; have hA4 := (hk4.block B (blk_lt hA2) (by simp)).trans hA2; have b0 : w2.cell? ⟨B, 0, none⟩ = some (.int .u32 s.tsn) := blk_cell hA2 rfl; have b1 : w2.cell? ⟨B, 1, none⟩ = some (.int .u32 0) := blk_cell hA2 rfl; have b2 : w2.cell? ⟨B, 2, none⟩ = some (.slice Ag s.gaps.length Cg) := blk_cell hA2 rfl; have b3 : w2.cell? ⟨B, 3, none⟩ = some (.slice Ad s.dups.length Cd) := blk_cell hA2 rfl; have d0 : w4.cell? ⟨B, 0, none⟩ = some (.int .u32 s.tsn) := blk_cell hA4 rfl; have d1 : w4.cell? ⟨B, 1, none⟩ = some (.int .u32 0) := blk_cell hA4 rfl; have d2 : w4.cell? ⟨B, 2, none⟩ = some (.slice Ag s.gaps.length Cg) := blk_cell hA4 rfl; have d3 : w4.cell? ⟨B, 3, none⟩ = some (.slice Ad s.dups.length Cd) := blk_cell hA4 rfl; have lA4 := blk_lt hA4; have HA4 := hid hA4; have HK4 := hid (hk02.trans hk4); have H27 := hid (ZZSackText _ _ _ _ s w4 HS.out (ownsRow_kept hov hk4 (by simp)) ho4); clear hA2 hA4 hk02 hk4 hk2 hov ho4)
      | (refine step_append_run rfl _ _ 34 rfl _ _ _ rfl rfl hr4 ?_)
      | (go_at_call 27; refine H27.out.mono ?_; rintro e w5 ⟨B5, hB5, rfl, hob5, hk5⟩; have hA5 := (hk5.block B lA4 (by simp)).trans HA4.out; have c0 : w5.cell? ⟨B, 0, none⟩ = some (.int .u32 s.tsn) := blk_cell hA5 rfl; have c1 : w5.cell? ⟨B, 1, none⟩ = some (.int .u32 0) := blk_cell hA5 rfl; have c2 : w5.cell? ⟨B, 2, none⟩ = some (.slice Ag s.gaps.length Cg) := blk_cell hA5 rfl; have c3 : w5.cell? ⟨B, 3, none⟩ = some (.slice Ad s.dups.length Cd) := blk_cell hA5 rfl; have HK5 := hid (HK4.out.trans hk5); have HO5 := hid hob5; clear hA5 hk5 hob5))
  have H3 := hid (copied B5 0 (4 + s.len) (4 + s.len) (sackBytes s) w5.drew ((HO5.out.bytes (small_sackBytes s HS.out)).kept ((Kept.refl [] w5).drew) (by simp)) (len_sackBytes s) (by omega) (by omega))
  go_wp2_with fail
  go_region_held3 (fun _ => True) (trivial) ((go_at_call 29; refine H3.out.mono ?_; rintro e w6 ⟨g6, cap6, hg6, hc6, hc6', rfl, hb6, hk6⟩))
  go_wp2_with fail
  go_ret2
  have h5 := HK5.out.size
  have hg6' : w5.heap.size ≤ g6 := hg6
  exact ⟨g6, cap6, by omega, hc6, hc6', rfl, hb6, HK5.out.drew.trans hk6⟩
end Go.Proofs.Base
