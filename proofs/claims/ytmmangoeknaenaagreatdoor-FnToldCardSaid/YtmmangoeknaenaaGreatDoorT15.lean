/- A part of the proof, step T15: what the code and the plain laws of this step give. Made by AI agents; no person has read it. -/
import Derived.Test.YtmmangoeknaenaaGreatDoorT14
namespace Go.Proofs.Base
open Go Go.Proofs Go.RowKit Go.Proofs.Gaps
set_option maxRecDepth 100000
set_option maxHeartbeats 6000000 in
theorem ZZSackText (bg bd : Nat) (vg vd : Value) (s : Sk) (w : World) (hs : s.ok) (hg : w.ownsRow bg 104 2 vg s.gaps.length (g16 s.gaps)) (hd : w.ownsRow bd 22 1 vd s.dups.length (u32s s.dups)) :
    Calls Tryz.prog 27 #[.agg #[.int .u32 s.tsn, .int .u32 0, vg, vd]] w fun e w' => ∃ B, w.heap.size ≤ B ∧ e = .returned (.tuple #[.slice (some ⟨B, 0, none⟩) (4 + s.len) (4 + s.len), .nilIface]) ∧
      OB w' B (sackBytes s) ∧ Kept [] w w' := by
  obtain ⟨Ag, Cg, rfl⟩ := own_form hg
  obtain ⟨Ad, Cd, rfl⟩ := own_form hd
  have hn1 := hs.few
  have HG := hid hg; have HD := hid hd; have HS := hid hs
  clear hg hd hs
  go_enter Tryz.func27, Tryz.ntmps27
  go_wp2_with fail
  generalize hW : World.alloc _ _ = w1
  have hP1 : w1.heap[w.heap.size + 1]? = some (.cells (sackC 0 0 (.slice none 0 0) s.tsn (.slice none 0 0) (.slice Ad s.dups.length Cd)) 110 (0, 0)) := by
    rw [← hW]
    have h := blk_new (w.alloc (.cells #[.int .u32 s.tsn, .int .u32 0, .slice Ag s.gaps.length Cg, .slice Ad s.dups.length Cd] 79)) (.cells (sackC 0 0 (.slice none 0 0) s.tsn (.slice none 0 0) (.slice Ad s.dups.length Cd)) 110)
    simp only [World.size_alloc] at h
    exact h
  have hk1 : Kept [] w w1 := by rw [← hW]; exact ((Kept.refl [] w).alloc _).alloc _
  have HP1 := hid hP1; have HK1 := hid hk1
  have N0 := hid (World.ownsRow_nil w1 w.heap.size 112 2)
  clear hW hP1 hk1
  generalize hBe : w.heap.size = B at *
  have HB := hid hBe; clear hBe
  go_loopw [18] (fun s18 wx => ∃ (i : Nat) (vg : Value), i ≤ s.gaps.length ∧ s18 = .int .i64 i ∧ Hid (wx.heap[B + 1]? = some (.cells (sackC 0 0 (.slice none 0 0) s.tsn vg (.slice Ad s.dups.length Cd)) 110 (0, 0))) ∧ Hid (wx.ownsRow B 112 2 vg i (g16 (s.gaps.take i))) ∧ Hid (Kept [] w wx)) (fun s18 _ => s.gaps.length - (intOf s18).toNat)
  case atStart => exact ⟨0, _, by omega, rfl, HP1, N0, HK1⟩
  case round =>
    obtain ⟨i, vg, hi, rfl, HP, HO, HK⟩ := hrel
    by_cases hlt : i < s.gaps.length
    · have hlt' : (i : Int) < (s.gaps.length : Int) := by omega
      have h0' : (0 : Int) ≤ (i : Int) := by omega
      obtain ⟨g, cap', hv, _, _⟩ := own_some HG.out (by omega)
      simp only [Value.slice.injEq, true_and] at hv
      obtain ⟨rfl, rfl⟩ := hv
      have lg := (HG.out.lt g rfl).2
      have hHg := ownsRow_kept HG.out HK.out (by simp)
      have hget := flat2_get s.gaps (fun g => Value.int .u16 (g.1 : Nat)) (fun g => Value.int .u16 (g.2 : Nat)) i hlt
      have c0 : wr.cell? ⟨g, i * 2, none⟩ = some (.int .u16 ((s.gaps[i]).1 : Nat)) := by
        have := hHg.cells (g := g) rfl (i * 2) _ hget.1
        rwa [addr_add, Nat.zero_add] at this
      have c1 : wr.cell? ⟨g, i * 2 + 1, none⟩ = some (.int .u16 ((s.gaps[i]).2 : Nat)) := by
        have := hHg.cells (g := g) rfl (i * 2 + 1) _ hget.2
        rwa [addr_add, Nat.zero_add] at this
      have lgr : g < wr.heap.size := Nat.lt_of_lt_of_le lg HK.out.size
      have HTK := hid (take_snoc' hlt)
      generalize s.gaps[i] = gp at *
      clear hHg hget lg
      go_wp2_with fail
      generalize hWE : wr.alloc _ = wE
      have hkE : Kept [] wr wE := by rw [← hWE]; exact (Kept.refl [] wr).alloc _
      have hE : wE.heap[wr.heap.size]? = some (.cells #[.int .u16 (gp.1 : Nat), .int .u16 (gp.2 : Nat)] 104 (0, 0)) := by rw [← hWE]; exact blk_new wr _
      have hPE := (hkE.block (B + 1) (blk_lt HP.out) (by simp)).trans HP.out
      have hOE := ownsRow_kept HO.out hkE (by simp)
      have hKE := HK.out.trans hkE
      have hsz := HK.out.size
      have lP := blk_lt HP.out
      clear hWE c0 c1 hkE lgr
      generalize hEn : wr.heap.size = E at *
      have e0 : wE.cell? ⟨E, 0, none⟩ = some (.int .u16 (gp.1 : Nat)) := blk_cell hE rfl
      have e1 : wE.cell? ⟨E, 1, none⟩ = some (.int .u16 (gp.2 : Nat)) := blk_cell hE rfl
      have q5 : wE.cell? ⟨B + 1, 5, none⟩ = some vg := blk_cell hPE rfl
      have lE := blk_lt hE
      have lPE := blk_lt hPE
      have hB0 := HB.out
      have hkD : Kept [] wE (wE.drew.alloc (.cells #[.int .u16 (gp.1 : Nat), .int .u16 (gp.2 : Nat)] 112)) := ((Kept.refl [] wE).drew).alloc _
      obtain ⟨g6, cap6, w6, hr6, ho6, hgr6⟩ := appendOwnOne 101 112 2 4 i wE.heap.size 1 101 B (.agg #[.int .u16 0, .int .u16 0]) vg (g16 (s.gaps.take i)) #[.int .u16 (gp.1 : Nat), .int .u16 (gp.2 : Nat)] (wE.drew.alloc (.cells #[.int .u16 (gp.1 : Nat), .int .u16 (gp.2 : Nat)] 112)) Tryz.underlying101 iGap rfl (by omega) (by omega) (by omega) (ownsRow_kept hOE hkD (by simp))
        (by have := hkD.size; omega) rfl (by intro u hu; simp at hu; rcases hu with rfl | rfl <;> rfl) (blk_new wE.drew _)
      have hgk : Kept (own vg) (wE.drew.alloc (.cells #[.int .u16 (gp.1 : Nat), .int .u16 (gp.2 : Nat)] 112)) w6 := grown_kept hgr6 (by intro k hk; rw [own_mem]; exact hk)
      have hk56 : Kept (own vg) wE w6 := (hkD.more (by simp)).trans hgk
      have hPo : B + 1 ∉ own vg := own_far hOE hPE (by decide)
      have hP6 := (hk56.block (B + 1) lPE hPo).trans hPE
      have p6 : w6.cell? ⟨B + 1, 5, none⟩ = some vg := blk_cell hP6 rfl
      have pf6 : w6.frozen? ⟨B + 1, 5, none⟩ = false := blk_free hP6
      have lP6 := blk_lt hP6
      have hK6 : Kept [] w w6 := hKE.thenNew hk56 (by intro r hr; right; have := own_ge hOE hr; omega)
      have HP6 := hid hP6; have HK6 := hid hK6; have HO6 := hid ho6
      clear hP6 hK6 ho6 hgr6 hgk hk56 hPo hOE hPE hE hkD hKE
      go_region_law (refine step_append_run rfl _ _ 101 rfl _ _ _ rfl rfl hr6 ?_)
      all_goals
        go_wp2_with fail
        go_roundw
        case rel =>
          have hkS : Kept [B + 1] w6 (w6.setCell ⟨B + 1, 5, none⟩ (.slice (some ⟨g6, 0, none⟩) (i + 1) cap6)) := (Kept.refl [B + 1] w6).setCell _ (.inl (by simp))
          refine ⟨i + 1, .slice (some ⟨g6, 0, none⟩) (i + 1) cap6, by omega, by go_num, hid ?_, hid ?_, hid (HK6.out.thenNew hkS (by intro r hr; right; simp at hr; omega))⟩
          · rw [blk_setCell _ HP6.out]; rfl
          · rw [HTK.out, g16_snoc]
            exact ownsRow_kept HO6.out hkS (by intro g hg; simp; intro e; subst e; exact own_far HO6.out HP6.out (by decide) (own_mem.2 hg))
        case measure => simp [intOf]; omega
    · have hlt' : ¬ (i : Int) < (s.gaps.length : Int) := by omega
      obtain rfl : i = s.gaps.length := by omega
      have ho := HO.out
      rw [List.take_length] at ho
      have H5 := hid (sack_marshal (B + 1) 0 B bd (.slice none 0 0) vg (.slice Ad s.dups.length Cd) s wr HS.out HP.out ho (ownsRow_kept HD.out HK.out (by simp)))
      clear ho
      go_wp2_with fail
      refine H5.out.mono ?_
      rintro e w5 ⟨B5, hB5, rfl, hob5, hk5⟩
      have hsz := HK.out.size
      have hb0 := HB.out
      have HOB5 := hid hob5
      have HK5 := hid (HK.out.thenNew hk5 (by intro r hr; right; simp at hr; omega))
      clear hob5 hk5
      go_wp2_with fail
      go_ret2
      exact ⟨B5, by omega, rfl, HOB5.out, HK5.out⟩
end Go.Proofs.Base
