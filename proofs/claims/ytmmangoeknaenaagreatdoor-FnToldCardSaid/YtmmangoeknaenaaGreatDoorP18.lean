/- A part of the proof, step P18: what the code and the plain laws of this step give. Made by AI agents; no person has read it. -/
import Derived.Test.YtmmangoeknaenaaGreatDoorP17
import Derived.Test.YtmmangoeknaenaaGreatDoorP7
namespace Go.Proofs.Base
open Go Go.Proofs Go.RowKit
set_option maxRecDepth 100000
theorem results_cell_tmp2' {fn : Func} {p u : Tmp} {ty : TypeId} (h : fn.results = #[.cell p ty, .tmp u]) {tmps : Array Value} {P : Program} {w : World} {a : Addr} {v x : Value} (ha : tmps.getD p undef = .pointer (some a)) (hx : tmps.getD u undef = x)
    (hv : (loadVar ty a).run P w = .ok v w) : (results fn tmps).run P w = .ok (.tuple #[v, x]) w := by
  subst hx
  exact results_cell_tmp2 h ha hv
set_option maxRecDepth 100000 in
set_option maxHeartbeats 2000000 in
theorem ZZDataOf (b o n cap : Nat) (d : Pd) (l : List Nat) (w : World) (hl : BytesAt w b o (dataBytes d l)) (hn : l.length = n) (hp : 0 < n) (hm : n < 40000) (hcap : 16 + n ≤ cap) (hcm : cap ≤ 9223372036854775807) :
    Calls Tryz.prog 35 #[.slice (some ⟨b, o, none⟩) (16 + n) cap] w fun e w' => e = .returned (.tuple #[.agg (zzC d (.slice (some ⟨b, o + 16, none⟩) n (cap - 16))), .nilIface]) ∧ Kept [] w w' := by
  have lb := hl.lt
  have HN := hid hn; clear hn
  go_enter Tryz.func35, Tryz.ntmps35
  go_wp2_with fail
  generalize hW : World.alloc _ _ = w1
  have hk1 : Kept [] w w1 := by rw [← hW]; exact ((Kept.refl [] w).alloc _).alloc _
  have hZ : w1.heap[w.heap.size]? = some (.cells #[.bool false, .bool false, .bool false, .bool false, .int .u32 0, .int .u16 0, .int .u16 0, .int .u32 0, .slice none 0 0] 90 (0, 0)) := by rw [← hW]; exact blk_alloc _ (blk_new w _)
  have hP1 : PayAt w1 (w.heap.size + 1) 0 0 (.slice none 0 0) ⟨false, false, 0, 0, 0, 0⟩ (.slice none 0 0) := by
    rw [← hW]
    have h := blk_new (w.alloc (.cells #[.bool false, .bool false, .bool false, .bool false, .int .u32 0, .int .u16 0, .int .u16 0, .int .u32 0, .slice none 0 0] 90)) (.cells (payC 0 0 (.slice none 0 0) ⟨false, false, 0, 0, 0, 0⟩ (.slice none 0 0)) 123)
    simp only [World.size_alloc] at h
    exact h
  clear hW
  generalize hB : w.heap.size = B at *
  have HB := hid hB; clear hB
  have HU := hid (pay_unmarshal (B + 1) b o (16 + n) cap n 0 d l w1 hP1 (by rw [padded]; simpa using hl.kept hk1 (by simp)) HN.out (by omega) hp (by omega) (by omega) hcap hcm (by omega))
  clear hP1
  have HZ := hid hZ; clear hZ
  have HK1 := hid hk1; clear hk1
  refine HU.out.mono ?_
  rintro e w2 ⟨rfl, hP2, hk2⟩
  have hZ2 := (hk2.block B (blk_lt HZ.out) (by simp)).trans HZ.out
  have HZ2 := hid hZ2
  have HP2 := hid hP2
  have lB2 := blk_lt hZ2
  have lp2 := blk_lt hP2
  have c15 : w2.cell? ⟨B + 1, 15, none⟩ = some (.bool false) := blk_cell hP2 rfl
  have c4 : w2.cell? ⟨B + 1, 4, none⟩ = some (.bool false) := blk_cell hP2 rfl
  have c5 : w2.cell? ⟨B + 1, 5, none⟩ = some (.bool d.bg) := blk_cell hP2 rfl
  have c6 : w2.cell? ⟨B + 1, 6, none⟩ = some (.bool d.en) := blk_cell hP2 rfl
  have c7 : w2.cell? ⟨B + 1, 7, none⟩ = some (.bool false) := blk_cell hP2 rfl
  have c8 : w2.cell? ⟨B + 1, 8, none⟩ = some (.int .u32 d.tsn) := blk_cell hP2 rfl
  have c9 : w2.cell? ⟨B + 1, 9, none⟩ = some (.int .u16 d.si) := blk_cell hP2 rfl
  have c10 : w2.cell? ⟨B + 1, 10, none⟩ = some (.int .u16 d.ssn) := blk_cell hP2 rfl
  have c13 : w2.cell? ⟨B + 1, 13, none⟩ = some (.int .u32 d.ppi) := blk_cell hP2 rfl
  have c14 : w2.cell? ⟨B + 1, 14, none⟩ = some (.slice (some ⟨b, o + 16, none⟩) n (cap - 16)) := blk_cell hP2 rfl
  clear hP2 hZ2 HU HZ
  go_wp2_with fail
  go_still_tail 37, (by kernel_rfl)
  change wpList _ _ _ _ _ w2.drew
  have e0 : w2.cell? ⟨B, 0, none⟩ = some (.bool false) := blk_cell HZ2.out rfl
  have e1 : w2.cell? ⟨B, 1, none⟩ = some (.bool false) := blk_cell HZ2.out rfl
  have e2 : w2.cell? ⟨B, 2, none⟩ = some (.bool false) := blk_cell HZ2.out rfl
  have e3 : w2.cell? ⟨B, 3, none⟩ = some (.bool false) := blk_cell HZ2.out rfl
  have e4 : w2.cell? ⟨B, 4, none⟩ = some (.int .u32 0) := blk_cell HZ2.out rfl
  have e5 : w2.cell? ⟨B, 5, none⟩ = some (.int .u16 0) := blk_cell HZ2.out rfl
  have e6 : w2.cell? ⟨B, 6, none⟩ = some (.int .u16 0) := blk_cell HZ2.out rfl
  have e7 : w2.cell? ⟨B, 7, none⟩ = some (.int .u32 0) := blk_cell HZ2.out rfl
  have e8 : w2.cell? ⟨B, 8, none⟩ = some (.slice none 0 0) := blk_cell HZ2.out rfl
  have f0 : w2.frozen? ⟨B, 0, none⟩ = false := blk_free HZ2.out
  have f1 : w2.frozen? ⟨B, 1, none⟩ = false := blk_free HZ2.out
  have f2 : w2.frozen? ⟨B, 2, none⟩ = false := blk_free HZ2.out
  have f3 : w2.frozen? ⟨B, 3, none⟩ = false := blk_free HZ2.out
  have f4 : w2.frozen? ⟨B, 4, none⟩ = false := blk_free HZ2.out
  have f5 : w2.frozen? ⟨B, 5, none⟩ = false := blk_free HZ2.out
  have f6 : w2.frozen? ⟨B, 6, none⟩ = false := blk_free HZ2.out
  have f7 : w2.frozen? ⟨B, 7, none⟩ = false := blk_free HZ2.out
  have f8 : w2.frozen? ⟨B, 8, none⟩ = false := blk_free HZ2.out
  clear c15 c4 c5 c6 c7 c8 c9 c10 c13 c14
  go_wp2_with fail
  generalize hW : World.setCell _ _ _ = w3
  have hbl : w3.heap[B]? = some (.cells (zzC d (.slice (some ⟨b, o + 16, none⟩) n (cap - 16))) 90 (0, 0)) := by
    rw [← hW]
    exact (blk_setCell (i := 8) (.slice (some ⟨b, o + 16, none⟩) n (cap - 16)) (blk_setCell (i := 7) (.int .u32 d.ppi) (blk_setCell (i := 6) (.int .u16 d.ssn) (blk_setCell (i := 5) (.int .u16 d.si) (blk_setCell (i := 4) (.int .u32 d.tsn) (blk_setCell (i := 3) (.bool false) (blk_setCell (i := 2) (.bool d.en) (blk_setCell (i := 1) (.bool d.bg) (blk_setCell (i := 0) (.bool false) HZ2.out)))))))))
  have hBle : w.heap.size ≤ B := by rw [HB.out]; exact Nat.le_refl _
  have hk2d := HK1.out.thenNew hk2 (by intro r hr; simp at hr; subst hr; right; omega)
  have hkk : Kept [] w w3 := by
    rw [← hW]
    exact (((((((((hk2d.setCell (p := ⟨B, 0, none⟩) (.bool false) (.inr hBle)).setCell (p := ⟨B, 1, none⟩) (.bool d.bg) (.inr hBle)).setCell (p := ⟨B, 2, none⟩) (.bool d.en) (.inr hBle)).setCell (p := ⟨B, 3, none⟩) (.bool false) (.inr hBle)).setCell (p := ⟨B, 4, none⟩) (.int .u32 d.tsn) (.inr hBle)).setCell (p := ⟨B, 5, none⟩) (.int .u16 d.si) (.inr hBle)).setCell (p := ⟨B, 6, none⟩) (.int .u16 d.ssn) (.inr hBle)).setCell (p := ⟨B, 7, none⟩) (.int .u32 d.ppi) (.inr hBle)).setCell (p := ⟨B, 8, none⟩) (.slice (some ⟨b, o + 16, none⟩) n (cap - 16)) (.inr hBle))
  clear hW
  have hbl' : w3.drew.heap[B]? = some (.cells (zzC d (.slice (some ⟨b, o + 16, none⟩) n (cap - 16))) 90 (0, 0)) := hbl
  have hv := run_loadVar_blk (cs := zzC d (.slice (some ⟨b, o + 16, none⟩) n (cap - 16))) Tryz.underlying90 size75 hbl'
  refine bodyPost_ret (v := .tuple #[.agg (zzC d (.slice (some ⟨b, o + 16, none⟩) n (cap - 16))), .nilIface]) (results_cell_tmp2' rfl rfl rfl hv) rfl ⟨rfl, hkk.drew⟩
end Go.Proofs.Base
