/- A part of the proof, step P19: what the code and the plain laws of this step give. Made by AI agents; no person has read it. -/
import Derived.Test.YtmmangoeknaenaaGreatDoorP18
namespace Go.Proofs.Base
open Go Go.Proofs Go.RowKit
set_option maxRecDepth 100000
theorem size32 : (Tryz.prog.info? 53).map (·.size) = some 9 := by kernel_rfl
def zero32 : Array Value := #[.bool false, .bool false, .bool false, .bool false, .int .u32 0, .int .i64 0, .int .i64 0, .int .u32 0, .slice none 0 0]
set_option maxRecDepth 100000 in
set_option maxHeartbeats 2000000 in
theorem DataOf (b o n cap : Nat) (d : Pd) (l : List Nat) (w : World) (hd : d.ok) (hl : BytesAt w b o (dataBytes d l)) (hn : l.length = n) (hp : 0 < n) (hm : n < 40000) :
    Calls Tryz.prog 24 #[.slice (some ⟨b, o, none⟩) (16 + n) cap] w fun e w' => ∃ g cap', e = .returned (.tuple #[.agg (dC d (.slice (some ⟨g, 0, none⟩) n cap')), .bool true]) ∧ BB w' g l ∧ n ≤ cap' ∧ cap' ≤ maxLen ∧ w.heap.size ≤ g ∧ Kept [] w w' := by
  have lb := hl.lt
  obtain ⟨hd1, hd2, hd3, hd4⟩ := hd
  have hkA := (Kept.refl [] w).alloc (.cells zero32 53)
  have H1 := hid (copied b o (16 + n) cap (dataBytes d l) (w.alloc (.cells zero32 53)) (hl.kept hkA (by simp)) (by rw [len_dataBytes, hn]) (by omega) (by omega))
  have HA0 := hid (blk_new w (.cells zero32 53))
  have HKA := hid hkA; clear hkA hl
  unfold zero32 at *
  go_enter Tryz.func24, Tryz.ntmps24
  go_wp2_with fail
  refine H1.out.mono ?_
  rintro e w1 ⟨g1, cap1, hg1, hc1, hc1', rfl, hb1, hk1⟩
  have H2 := hid (ZZDataOf g1 0 n cap1 d l w1 hb1 hn hp hm hc1 (by unfold maxLen at hc1'; omega))
  have hA1 := (hk1.block w.heap.size (blk_lt HA0.out) (by simp)).trans HA0.out
  have hb1' := hb1.drop 16
  clear H1
  go_wp2_with fail
  refine H2.out.mono ?_
  rintro e w2 ⟨rfl, hk2⟩
  unfold zzC
  clear H2
  go_wp2_with fail
  generalize hW : World.alloc _ _ = w3
  have hC : w3.heap[w2.heap.size]? = some (.cells (zzC d (.slice (some ⟨g1, 16, none⟩) n (cap1 - 16))) 90 (0, 0)) := by rw [← hW]; exact blk_new w2 _
  have hk23 : Kept [] w2 w3 := by rw [← hW]; exact (Kept.refl [] w2).alloc _
  clear hW
  have hA3 := ((hk2.trans hk23).block w.heap.size (blk_lt hA1) (by simp)).trans hA1
  have hb3 : BytesAt w3 g1 16 l := (hb1'.kept (hk2.trans hk23) (by simp))
  have hk3 := ((HKA.out.trans hk1).trans hk2).trans hk23
  have s1 := hk1.size
  simp at s1 hg1
  have hAC : w.heap.size < w2.heap.size := by have := hk2.size; omega
  generalize hAe : w.heap.size = A at *
  generalize hCe : w2.heap.size = C at *
  have c0 : w3.cell? ⟨C, 0, none⟩ = some (.bool false) := blk_cell hC rfl
  have c1 : w3.cell? ⟨C, 1, none⟩ = some (.bool d.bg) := blk_cell hC rfl
  have c2 : w3.cell? ⟨C, 2, none⟩ = some (.bool d.en) := blk_cell hC rfl
  have c3 : w3.cell? ⟨C, 3, none⟩ = some (.bool false) := blk_cell hC rfl
  have c4 : w3.cell? ⟨C, 4, none⟩ = some (.int .u32 d.tsn) := blk_cell hC rfl
  have c5 : w3.cell? ⟨C, 5, none⟩ = some (.int .u16 d.si) := blk_cell hC rfl
  have c6 : w3.cell? ⟨C, 6, none⟩ = some (.int .u16 d.ssn) := blk_cell hC rfl
  have c7 : w3.cell? ⟨C, 7, none⟩ = some (.int .u32 d.ppi) := blk_cell hC rfl
  have c8 : w3.cell? ⟨C, 8, none⟩ = some (.slice (some ⟨g1, 16, none⟩) n (cap1 - 16)) := blk_cell hC rfl
  have HC := hid hC
  have HA3 := hid hA3
  have HB3 := hid hb3
  have lA3 := blk_lt hA3
  have HK3 := hid hk3
  have HN := hid hn
  have HAe := hid hAe
  clear hC hA3 hA1 hb3 hk3 hb1 hb1' hk1 hk2 hk23 HA0 HKA hn hAe hCe s1 hg1
  have hne1 : A ≠ C := by omega
  have hne2 : C ≠ A := by omega
  have m1 : IntKind.i64.wrap (d.si : Int) = d.si := by rw [IntKind.wrap_i64]; omega
  have m2 : IntKind.i64.wrap (d.ssn : Int) = d.ssn := by rw [IntKind.wrap_i64]; omega
  go_region_held3 (fun w' => w'.cell? ⟨C, 0, none⟩ = some (.bool false) ∧ w'.cell? ⟨C, 1, none⟩ = some (.bool d.bg) ∧ w'.cell? ⟨C, 2, none⟩ = some (.bool d.en) ∧ w'.cell? ⟨C, 3, none⟩ = some (.bool false) ∧ w'.cell? ⟨C, 4, none⟩ = some (.int .u32 d.tsn) ∧ w'.cell? ⟨C, 5, none⟩ = some (.int .u16 d.si) ∧ w'.cell? ⟨C, 6, none⟩ = some (.int .u16 d.ssn) ∧ w'.cell? ⟨C, 7, none⟩ = some (.int .u32 d.ppi) ∧ w'.cell? ⟨C, 8, none⟩ = some (.slice (some ⟨g1, 16, none⟩) n (cap1 - 16)))
    (go_keep)
    ((go_at_call 29; refine (copied' g1 16 n (cap1 - 16) l w3.drew (HB3.out.kept ((Kept.refl [] w3).drew) (by simp)) HN.out hp (by omega)).mono ?_; rintro e wc ⟨g, cap', hg, hcap, hcm, rfl, hby, hkc⟩; have hkw := ((Kept.refl [] w3).drew).trans hkc; have hZc := (hkw.block A (blk_lt HA3.out) (by simp)).trans HA3.out; have hCc := (hkw.block C (blk_lt HC.out) (by simp)).trans HC.out; have d0 : wc.cell? ⟨C, 0, none⟩ = some (.bool false) := blk_cell hCc rfl; have d1 : wc.cell? ⟨C, 1, none⟩ = some (.bool d.bg) := blk_cell hCc rfl; have d2 : wc.cell? ⟨C, 2, none⟩ = some (.bool d.en) := blk_cell hCc rfl; have d3 : wc.cell? ⟨C, 3, none⟩ = some (.bool false) := blk_cell hCc rfl; have d4 : wc.cell? ⟨C, 4, none⟩ = some (.int .u32 d.tsn) := blk_cell hCc rfl; have d5 : wc.cell? ⟨C, 5, none⟩ = some (.int .u16 d.si) := blk_cell hCc rfl; have d6 : wc.cell? ⟨C, 6, none⟩ = some (.int .u16 d.ssn) := blk_cell hCc rfl; have d7 : wc.cell? ⟨C, 7, none⟩ = some (.int .u32 d.ppi) := blk_cell hCc rfl; have d8 : wc.cell? ⟨C, 8, none⟩ = some (.slice (some ⟨g1, 16, none⟩) n (cap1 - 16)) := blk_cell hCc rfl; clear hCc; have e0 : wc.cell? ⟨A, 0, none⟩ = some (.bool false) := blk_cell hZc rfl; have e1 : wc.cell? ⟨A, 1, none⟩ = some (.bool false) := blk_cell hZc rfl; have e2 : wc.cell? ⟨A, 2, none⟩ = some (.bool false) := blk_cell hZc rfl; have e3 : wc.cell? ⟨A, 3, none⟩ = some (.bool false) := blk_cell hZc rfl; have e4 : wc.cell? ⟨A, 4, none⟩ = some (.int .u32 0) := blk_cell hZc rfl; have e5 : wc.cell? ⟨A, 5, none⟩ = some (.int .i64 0) := blk_cell hZc rfl; have e6 : wc.cell? ⟨A, 6, none⟩ = some (.int .i64 0) := blk_cell hZc rfl; have e7 : wc.cell? ⟨A, 7, none⟩ = some (.int .u32 0) := blk_cell hZc rfl; have e8 : wc.cell? ⟨A, 8, none⟩ = some (.slice none 0 0) := blk_cell hZc rfl; have f0 : wc.frozen? ⟨A, 0, none⟩ = false := blk_free hZc; have f1 : wc.frozen? ⟨A, 1, none⟩ = false := blk_free hZc; have f2 : wc.frozen? ⟨A, 2, none⟩ = false := blk_free hZc; have f3 : wc.frozen? ⟨A, 3, none⟩ = false := blk_free hZc; have f4 : wc.frozen? ⟨A, 4, none⟩ = false := blk_free hZc; have f5 : wc.frozen? ⟨A, 5, none⟩ = false := blk_free hZc; have f6 : wc.frozen? ⟨A, 6, none⟩ = false := blk_free hZc; have f7 : wc.frozen? ⟨A, 7, none⟩ = false := blk_free hZc; have f8 : wc.frozen? ⟨A, 8, none⟩ = false := blk_free hZc; have Hby := hid hby; have lB := blk_lt hZc; have HZc := hid hZc; clear hZc hby))
  go_wp2_with fail
  generalize hW : World.setCell _ _ _ = w5
  have hbl : w5.heap[A]? = some (.cells (dC d (.slice (some ⟨g, 0, none⟩) n cap')) 53 (0, 0)) := by
    rw [← hW]
    exact (blk_setCell (i := 8) (.slice (some ⟨g, 0, none⟩) n cap') (blk_setCell (i := 7) (.int .u32 d.ppi) (blk_setCell (i := 6) (.int .i64 d.ssn) (blk_setCell (i := 5) (.int .i64 d.si) (blk_setCell (i := 4) (.int .u32 d.tsn) (blk_setCell (i := 3) (.bool false) (blk_setCell (i := 2) (.bool d.en) (blk_setCell (i := 1) (.bool d.bg) (blk_setCell (i := 0) (.bool false) HZc.out)))))))))
  have hBle : w.heap.size ≤ A := by rw [HAe.out]; exact Nat.le_refl _
  have hk2d := HK3.out.trans hkw
  have hkk : Kept [] w w5 := by
    rw [← hW]
    exact (((((((((hk2d.setCell (p := ⟨A, 0, none⟩) (.bool false) (.inr hBle)).setCell (p := ⟨A, 1, none⟩) (.bool d.bg) (.inr hBle)).setCell (p := ⟨A, 2, none⟩) (.bool d.en) (.inr hBle)).setCell (p := ⟨A, 3, none⟩) (.bool false) (.inr hBle)).setCell (p := ⟨A, 4, none⟩) (.int .u32 d.tsn) (.inr hBle)).setCell (p := ⟨A, 5, none⟩) (.int .i64 d.si) (.inr hBle)).setCell (p := ⟨A, 6, none⟩) (.int .i64 d.ssn) (.inr hBle)).setCell (p := ⟨A, 7, none⟩) (.int .u32 d.ppi) (.inr hBle)).setCell (p := ⟨A, 8, none⟩) (.slice (some ⟨g, 0, none⟩) n cap') (.inr hBle))
  have hk3d := Kept.refl [A] wc
  have hky : Kept [A] wc w5 := by
    rw [← hW]
    exact (((((((((hk3d.setCell (p := ⟨A, 0, none⟩) (.bool false) (.inl (by simp))).setCell (p := ⟨A, 1, none⟩) (.bool d.bg) (.inl (by simp))).setCell (p := ⟨A, 2, none⟩) (.bool d.en) (.inl (by simp))).setCell (p := ⟨A, 3, none⟩) (.bool false) (.inl (by simp))).setCell (p := ⟨A, 4, none⟩) (.int .u32 d.tsn) (.inl (by simp))).setCell (p := ⟨A, 5, none⟩) (.int .i64 d.si) (.inl (by simp))).setCell (p := ⟨A, 6, none⟩) (.int .i64 d.ssn) (.inl (by simp))).setCell (p := ⟨A, 7, none⟩) (.int .u32 d.ppi) (.inl (by simp))).setCell (p := ⟨A, 8, none⟩) (.slice (some ⟨g, 0, none⟩) n cap') (.inl (by simp)))
  clear hW
  have hg2 : w3.heap.size ≤ g := hg
  have hlt := HK3.out.size
  have hv := run_loadVar_blk (cs := dC d (.slice (some ⟨g, 0, none⟩) n cap')) Tryz.underlying53 size32 hbl
  refine bodyPost_ret (v := .tuple #[.agg (dC d (.slice (some ⟨g, 0, none⟩) n cap')), .bool true]) (results_cell_tmp2' rfl rfl rfl hv) rfl ⟨g, cap', rfl, Hby.out.kept hky (by simp; omega), hcap, hcm, by omega, hkk⟩
end Go.Proofs.Base
