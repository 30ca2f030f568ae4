/- A part of the proof, step T26: what the code and the plain laws of this step give. Made by AI agents; no person has read it. -/
import Derived.Test.YtmmangoeknaenaaGreatDoorT25
import Derived.Test.YtmmangoeknaenaaGreatDoorT16
import Derived.Deep.Cut
import Derived.Deep.CutRange
namespace Go.Proofs.Base
open Go Go.Proofs Go.RowKit Go.Proofs.Gaps
set_option maxRecDepth 100000
theorem tells_sk {N u : Nat} {js : List Nat} {G : List (Nat × Nat)} (h : Tells N js u G) (hN : N < 64) (f : Nat) {ds : List Nat} (hd : ds.length < 1000) (hds : ∀ x ∈ ds, x < 4294967296) : Sk.ok ⟨tsn f u, G, ds⟩ :=
  ⟨by show tsn f u < _; unfold tsn; omega, fun g hg => by have := h.are g hg; omega, hds, by have := h.few; show G.length < 1000; omega, hd⟩
set_option maxHeartbeats 4000000 in
theorem tells (s m f N base : Nat) (vn vp : Value) (js : List Nat) (w : World) (hN : N < 64) (hjs : ∀ j ∈ js, 1 ≤ j ∧ j ≤ N) (hl : js.length < 900) (hs : w.heap[s]? = some (.cells (sideC (tsn f 1) vn m vp) 41 (0, 0)))
    (hvn : w.ownsRow base 22 1 vn js.length (u32s (nums f js))) (hT : Bruijn w) :
    Calls Tryz.prog 9 #[.pointer (some ⟨s, 0, none⟩)] w fun e w' => ∃ u G vg Ad nd Cd, e = .returned (.tuple #[.agg #[.int .u32 (tsn f u : Nat), .int .u32 0, vg, .slice Ad nd Cd], .bool true]) ∧ Tells N js u G ∧ u + 1 ∉ js ∧
      w'.ownsRow w.heap.size 68 2 vg G.length (g64 G) ∧ Kept [] w w' := by
  have k1 : IntKind.u32.wrap ((tsn f 1 : Int) - 1) = ((tsn f 0 : Nat) : Int) := by rw [IntKind.wrap_u32]; unfold tsn; omega
  have a0 : w.cell? ⟨s, 0, none⟩ = some (.int .u32 (tsn f 1 : Nat)) := blk_cell hs rfl
  have a1 : w.cell? ⟨s, 1, none⟩ = some vn := blk_cell hs rfl
  have ls := blk_lt hs
  have HS := hid hs; have HVN := hid hvn; have HT := hid hT; have HJS := hid hjs
  clear hs hvn hT hjs
  go_enter Tryz.func9, Tryz.ntmps9
  go_wp2_with fail
  generalize hW : World.alloc _ _ = w1
  have hk1 : Kept [] w w1 := by rw [← hW]; exact (Kept.refl [] w).alloc _
  have hR1 : w1.heap[w.heap.size]? = some (.cells #[.int .u32 0, .int .u32 0, .slice none 0 0, .slice none 0 0] 36 (0, 0)) := by rw [← hW]; exact blk_new w _
  clear hW
  obtain ⟨An, Cn, rfl⟩ := own_form HVN.out
  have H18 : Hid (∀ wx, Kept [] w wx → Calls Tryz.prog 18 #[.int .u32 (tsn f 0 : Nat), .slice An js.length Cn] wx fun e w' => ∃ u G ds vg vd, e = .returned (.tuple #[.agg #[.int .u32 (tsn f u : Nat), .int .u32 0, vg, vd], .bool true]) ∧ Tells N js u G ∧ u + 1 ∉ js ∧
      w'.ownsRow wx.heap.size 68 2 vg G.length (g64 G) ∧ w'.ownsRow wx.heap.size 22 1 vd ds.length (u32s ds) ∧ ds.length ≤ js.length ∧ (∀ x ∈ ds, x < 4294967296) ∧ Kept [] wx w') :=
    fun wx hk => Received base f N _ js wx hN HJS.out hl (ownsRow_kept HVN.out hk (by simp)) (HT.out.kept hk (by simp))
  have ls1 : s < w1.heap.size := Nat.lt_of_lt_of_le ls hk1.size
  have hS1 := (hk1.block s ls (by simp)).trans HS.out
  have b0 : w1.cell? ⟨s, 0, none⟩ = some (.int .u32 (tsn f 1 : Nat)) := blk_cell hS1 rfl
  have b1 : w1.cell? ⟨s, 1, none⟩ = some (.slice An js.length Cn) := blk_cell hS1 rfl
  have hkd : Kept [] w w1.drew := hk1.drew
  have hkda : Kept [] w (w1.drew.alloc (.cells #[.int .u32 0, .int .u32 0, .slice none 0 0, .slice none 0 0] 36)) := hk1.drew.alloc _
  have hNew := blk_new w1.drew (.cells #[.int .u32 0, .int .u32 0, .slice none 0 0, .slice none 0 0] 36)
  have HKD := hid hkd; have HKDA := hid hkda; have HNEW := hid hNew; have HR1 := hid hR1; have HK1 := hid hk1
  have hsB : w.heap.size ≤ w1.heap.size := hk1.size
  clear hkd hkda hNew hR1 hk1 hS1 a0 a1
  have hne1 : s ≠ w1.heap.size := by omega
  have hne2 : w1.heap.size ≠ s := by omega
  go_cut [4, 5] from 12 to 24 (fun s4 s5 wx => ∃ C u G ds Ag Cg Ad Cd, s4 = .pointer (some ⟨C, 0, none⟩) ∧ s5 = .bool true ∧ Tells N js u G ∧ u + 1 ∉ js ∧ wx.heap[C]? = some (.cells #[.int .u32 (tsn f u : Nat), .int .u32 0, .slice Ag G.length Cg, .slice Ad ds.length Cd] 36 (0, 0)) ∧
    wx.ownsRow w.heap.size 68 2 (.slice Ag G.length Cg) G.length (g64 G) ∧ wx.ownsRow w.heap.size 22 1 (.slice Ad ds.length Cd) ds.length (u32s ds) ∧ ds.length ≤ js.length ∧ (∀ x ∈ ds, x < 4294967296) ∧ wx.heap[w.heap.size]? = some (.cells #[.int .u32 0, .int .u32 0, .slice none 0 0, .slice none 0 0] 36 (0, 0)) ∧ Kept [] w wx)
  case first =>
    go_region_held_law (fun w' => w'.cell? ⟨s, 0, none⟩ = some (.int .u32 (tsn f 1 : Nat)) ∧ w'.cell? ⟨s, 1, none⟩ = some (.slice An js.length Cn))
      (go_keep)
      ((go_at_call 18; refine (H18.out _ (by first | exact HKD.out | exact HKDA.out)).mono ?_; rintro e wc ⟨u, G, ds, vg, vd, rfl, hte, hnu, hog, hod, hdl, hds, hk⟩; obtain ⟨Ag, Cg, rfl⟩ := own_form hog; obtain ⟨Ad, Cd, rfl⟩ := own_form hod; have HKC := hid hk; have hkc := (by first | exact HKD.out.trans hk | exact HKDA.out.trans hk : Kept [] w wc); have hSc := (hkc.block s ls (by simp)).trans HS.out; have d0 : wc.cell? ⟨s, 0, none⟩ = some (.int .u32 (tsn f 1 : Nat)) := blk_cell hSc rfl; have d1 : wc.cell? ⟨s, 1, none⟩ = some (.slice An js.length Cn) := blk_cell hSc rfl; have lsc := blk_lt hSc; have HRC : Hid (wc.heap[w.heap.size]? = some (.cells #[.int .u32 0, .int .u32 0, .slice none 0 0, .slice none 0 0] 36 (0, 0))) := (by first | exact (hk.block w.heap.size (show w.heap.size < w1.drew.heap.size from blk_lt HR1.out) (by simp)).trans HR1.out | exact (hk.block w.heap.size (show w.heap.size < (w1.alloc (.cells #[.int .u32 0, .int .u32 0, .slice none 0 0, .slice none 0 0] 36)).heap.size by rw [World.size_alloc]; exact Nat.lt_succ_of_lt (blk_lt HR1.out)) (by simp)).trans (blk_alloc (w := w1) _ HR1.out)); (try (have hCc : wc.heap[w1.heap.size]? = some (.cells #[.int .u32 0, .int .u32 0, .slice none 0 0, .slice none 0 0] 36 (0, 0)) := (hk.block _ (blk_lt HNEW.out) (by simp)).trans HNEW.out; have z0 : wc.cell? ⟨w1.heap.size, 0, none⟩ = some (.int .u32 0) := blk_cell hCc rfl; have z1 : wc.cell? ⟨w1.heap.size, 1, none⟩ = some (.int .u32 0) := blk_cell hCc rfl; have z2 : wc.cell? ⟨w1.heap.size, 2, none⟩ = some (.slice none 0 0) := blk_cell hCc rfl; have z3 : wc.cell? ⟨w1.heap.size, 3, none⟩ = some (.slice none 0 0) := blk_cell hCc rfl; have f0 : wc.frozen? ⟨w1.heap.size, 0, none⟩ = false := blk_free hCc; have f1 : wc.frozen? ⟨w1.heap.size, 1, none⟩ = false := blk_free hCc; have f2 : wc.frozen? ⟨w1.heap.size, 2, none⟩ = false := blk_free hCc; have f3 : wc.frozen? ⟨w1.heap.size, 3, none⟩ = false := blk_free hCc; have lCc := blk_lt hCc; have HCC := hid hCc; clear hCc)); have HOG := hid hog; have HOD := hid hod; have HTE := hid hte; have HDS := hid hds; have HKW := hid hkc; clear hSc hog hod hte hds hkc hk))
    · go_wp2_with fail
      go_meet
      have h2 : w1.drew.heap.size = w1.heap.size := rfl
      have ho1 := own_base (base' := w.heap.size) (ownsRow_kept HOG.out ((Kept.refl [] wc).alloc (.cells #[.int .u32 (tsn f u : Nat), .int .u32 0, .slice Ag G.length Cg, .slice Ad ds.length Cd] 36)) (by simp)) (by omega)
      have ho2 := own_base (base' := w.heap.size) (ownsRow_kept HOD.out ((Kept.refl [] wc).alloc (.cells #[.int .u32 (tsn f u : Nat), .int .u32 0, .slice Ag G.length Cg, .slice Ad ds.length Cd] 36)) (by simp)) (by omega)
      exact ⟨wc.heap.size, u, G, ds, Ag, Cg, Ad, Cd, rfl, rfl, HTE.out, hnu, blk_new wc _, ho1, ho2, hdl, HDS.out, blk_alloc _ HRC.out, HKW.out.alloc _⟩
    · go_wp2_with fail
      go_meet
      have hbl := blk_setCell (i := 3) (.slice Ad ds.length Cd) (blk_setCell (i := 2) (.slice Ag G.length Cg) (blk_setCell (i := 1) (.int .u32 0) (blk_setCell (i := 0) (.int .u32 (tsn f u : Nat)) HCC.out)))
      have hk9 : Kept [w1.heap.size] wc ((((wc.setCell ⟨w1.heap.size, 0, none⟩ (.int .u32 (tsn f u : Nat))).setCell ⟨w1.heap.size, 1, none⟩ (.int .u32 0)).setCell ⟨w1.heap.size, 2, none⟩ (.slice Ag G.length Cg)).setCell ⟨w1.heap.size, 3, none⟩ (.slice Ad ds.length Cd)) :=
        ((((Kept.refl [w1.heap.size] wc).setCell (p := ⟨w1.heap.size, 0, none⟩) _ (.inl (by simp))).setCell (p := ⟨w1.heap.size, 1, none⟩) _ (.inl (by simp))).setCell (p := ⟨w1.heap.size, 2, none⟩) _ (.inl (by simp))).setCell (p := ⟨w1.heap.size, 3, none⟩) _ (.inl (by simp))
      have hgo : ∀ g, (Value.slice Ag G.length Cg).ownBlock = some g → g ∉ [w1.heap.size] := by
        intro g hg; have hb := own_ge HOG.out (own_mem.2 hg); have hb2 : w1.heap.size + 1 ≤ g := by rw [← World.size_alloc w1 (.cells #[.int .u32 0, .int .u32 0, .slice none 0 0, .slice none 0 0] 36)]; exact hb
        simp; omega
      have hgd : ∀ g, (Value.slice Ad ds.length Cd).ownBlock = some g → g ∉ [w1.heap.size] := by
        intro g hg; have hb := own_ge HOD.out (own_mem.2 hg); have hb2 : w1.heap.size + 1 ≤ g := by rw [← World.size_alloc w1 (.cells #[.int .u32 0, .int .u32 0, .slice none 0 0, .slice none 0 0] 36)]; exact hb
        simp; omega
      have hle : w.heap.size ≤ (w1.alloc (.cells #[.int .u32 0, .int .u32 0, .slice none 0 0, .slice none 0 0] 36)).heap.size := by rw [World.size_alloc]; exact Nat.le_succ_of_le hsB
      have ho1 := own_base (ownsRow_kept HOG.out hk9 hgo) hle
      have ho2 := own_base (ownsRow_kept HOD.out hk9 hgd) hle
      have hlr : w.heap.size < w1.heap.size := blk_lt HR1.out
      have hr9 := (hk9.block w.heap.size (blk_lt HRC.out) (by simp; omega)).trans HRC.out
      exact ⟨w1.heap.size, u, G, ds, Ag, Cg, Ad, Cd, rfl, rfl, HTE.out, hnu, hbl, ho1, ho2, hdl, HDS.out, hr9, HKW.out.thenNew hk9 (by intro r hr; simp at hr; subst hr; exact .inr hsB)⟩
  obtain ⟨C, u, G, ds, Ag, Cg, Ad, Cd, rfl, rfl, hte, hnu, hC, hog, hod, hdl, hds, hrc, hkc⟩ := hcut
  have hok := tells_sk hte hN f (ds := ds) (by omega) hds
  have c0 : wc.cell? ⟨C, 0, none⟩ = some (.int .u32 (tsn f u : Nat)) := blk_cell hC rfl
  have c1 : wc.cell? ⟨C, 1, none⟩ = some (.int .u32 0) := blk_cell hC rfl
  have c2 : wc.cell? ⟨C, 2, none⟩ = some (.slice Ag G.length Cg) := blk_cell hC rfl
  have c3 : wc.cell? ⟨C, 3, none⟩ = some (.slice Ad ds.length Cd) := blk_cell hC rfl
  have lC := blk_lt hC
  have HTE := hid hte; have HOK := hid hok; have HK1w := hid hkc; have HRC := hid hrc; have HOG := hid hog; have HOD := hid hod
  clear hte hok hC hog hod hds hrc hkc H18 HKD HKDA HNEW HR1 HK1 b0 b1
  have H19 := hid (SackText _ _ _ _ ⟨tsn f u, G, ds⟩ wc HOK.out HOG.out HOD.out)
  go_wp2_with fail
  refine H19.out.mono ?_
  rintro e w2 ⟨g2, cap2, hg2, hc2, hc2', rfl, hb2, hk2⟩
  have hsl := len_pos_sack _ HOK.out
  have H20 := hid (lawsPacket _ _ _ (textsS 5000 5001 7 _ HOK.out (by decide) (by decide) (by decide)) g2 0 cap2 w2 hb2 (len_sackBytes _) (by omega) (by omega) (by omega) (by have := HOK.out; unfold padN; omega))
  have HK2 := hid (HK1w.out.trans hk2); have HKc2 := hid hk2
  clear hb2 hk2 H19 c0 c1 c2 c3
  go_wp2_with fail
  refine H20.out.mono ?_
  rintro e w3 ⟨g3, cap3, hg3, hc3, hc3', rfl, hb3, hk3⟩
  have H21 := hid (chunk_ok g3 0 _ cap3 _ _ _ w3 (packsS 5000 5001 7 _ HOK.out (by decide) (by decide)) hb3 (by rw [len_packetOf, len_sackBytes]) (by omega) (by unfold padN; omega) (small_sackBytes _ HOK.out) (len_sackBytes _) (by omega) (by omega))
  have HK3 := hid (HK2.out.trans hk3); have HKc3 := hid (HKc2.out.trans hk3)
  clear hb3 hk3 H20
  go_wp2_with fail
  refine H21.out.mono ?_
  rintro e w4 ⟨B4, cap4, rfl, hb4, hc4, hc4', hB4, hk4⟩
  have H22 := hid (SackOf B4 0 cap4 _ w4 HOK.out hb4)
  have HK4 := hid (HK3.out.trans hk4); have HKc4 := hid (HKc3.out.trans hk4)
  clear hb4 hk4 H21
  go_wp2_with fail
  refine H22.out.mono ?_
  rintro e w5 ⟨vg, vd, rfl, hg5, hd5, hk5⟩
  obtain ⟨Ao, Co, rfl⟩ := own_form hg5
  obtain ⟨Aq, Cq, rfl⟩ := own_form hd5
  have HG5 := hid hg5; have HK5 := hid (HK4.out.trans hk5)
  have hs4 := HK4.out.size
  have hR5 := ((HKc4.out.trans hk5).block w.heap.size (blk_lt HRC.out) (by simp)).trans HRC.out
  have r0 : w5.cell? ⟨w.heap.size, 0, none⟩ = some (.int .u32 0) := blk_cell hR5 rfl
  have r1 : w5.cell? ⟨w.heap.size, 1, none⟩ = some (.int .u32 0) := blk_cell hR5 rfl
  have r2 : w5.cell? ⟨w.heap.size, 2, none⟩ = some (.slice none 0 0) := blk_cell hR5 rfl
  have r3 : w5.cell? ⟨w.heap.size, 3, none⟩ = some (.slice none 0 0) := blk_cell hR5 rfl
  have f0 : w5.frozen? ⟨w.heap.size, 0, none⟩ = false := blk_free hR5
  have f1 : w5.frozen? ⟨w.heap.size, 1, none⟩ = false := blk_free hR5
  have f2 : w5.frozen? ⟨w.heap.size, 2, none⟩ = false := blk_free hR5
  have f3 : w5.frozen? ⟨w.heap.size, 3, none⟩ = false := blk_free hR5
  have lR5 := blk_lt hR5
  have HR5 := hid hR5
  clear hg5 hd5 hk5 H22 hR5
  have hGs := fun g (hg : g ∈ own (.slice Ao G.length Co)) => own_ge HG5.out hg
  have hR4 : w.heap.size < w4.heap.size := by have h1 := blk_lt HRC.out; have h2 := HKc4.out.size; omega
  go_wp2_with fail
  generalize hW : World.setCell _ _ _ = w6
  have hbl : w6.heap[w.heap.size]? = some (.cells #[.int .u32 (tsn f u : Nat), .int .u32 0, .slice Ao G.length Co, .slice Aq ds.length Cq] 36 (0, 0)) := by
    rw [← hW]
    exact blk_setCell (i := 3) (.slice Aq ds.length Cq) (blk_setCell (i := 2) (.slice Ao G.length Co) (blk_setCell (i := 1) (.int .u32 0) (blk_setCell (i := 0) (.int .u32 (tsn f u : Nat)) HR5.out)))
  have hk56 : Kept [w.heap.size] w5 w6 := by
    rw [← hW]
    exact ((((Kept.refl [w.heap.size] w5).setCell (p := ⟨w.heap.size, 0, none⟩) _ (.inl (by simp))).setCell (p := ⟨w.heap.size, 1, none⟩) _ (.inl (by simp))).setCell (p := ⟨w.heap.size, 2, none⟩) _ (.inl (by simp))).setCell (p := ⟨w.heap.size, 3, none⟩) _ (.inl (by simp))
  clear hW
  have ho6 := own_base (base' := w.heap.size) (ownsRow_kept HG5.out hk56 (by intro g hg; have := hGs g (own_mem.2 hg); simp; omega)) (by omega)
  have hv := run_loadVar_blk (cs := #[.int .u32 (tsn f u : Nat), .int .u32 0, .slice Ao G.length Co, .slice Aq ds.length Cq]) Tryz.underlying36 sizeSack hbl
  refine bodyPost_ret (v := .tuple #[.agg #[.int .u32 (tsn f u : Nat), .int .u32 0, .slice Ao G.length Co, .slice Aq ds.length Cq], .bool true]) (results_cell_tmp2' rfl rfl rfl hv) rfl ⟨u, G, _, Aq, ds.length, Cq, rfl, HTE.out, hnu, ho6, HK5.out.thenNew hk56 (by intro r hr; simp at hr; subst hr; exact .inr (Nat.le_refl _))⟩
end Go.Proofs.Base
