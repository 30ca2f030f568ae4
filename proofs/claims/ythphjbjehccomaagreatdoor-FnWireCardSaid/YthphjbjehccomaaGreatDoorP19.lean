/- Parts of the proof, steps P18, P19: what the code and the plain laws of these steps give. Made by AI agents; no person has read it. -/
import Derived.Test.YthphjbjehccomaaGreatDoorP17
import Derived.Test.YthphjbjehccomaaGreatDoorP7
section
namespace Go.Proofs.Base
open Go Go.Proofs Go.RowKit
set_option maxRecDepth 100000
theorem results_cell_tmp2' {fn : Func} {p u : Tmp} {ty : TypeId} (h : fn.results = #[.cell p ty, .tmp u]) {tmps : Array Value} {P : Program} {w : World} {a : Addr} {v x : Value} (ha : tmps.getD p undef = .pointer (some a)) (hx : tmps.getD u undef = x)
    (hv : (loadVar ty a).run P w = .ok v w) : (results fn tmps).run P w = .ok (.tuple #[v, x]) w := by
  subst hx
  exact results_cell_tmp2 h ha hv
set_option maxRecDepth 100000 in
set_option maxHeartbeats 2000000 in
theorem ZZDataOf (b o n cap : Nat) (d : Pd) (l : List Nat) (w : World) (hl : BytesAt w b o (dataBytes d l)) (hn : l.length = n) (hp : 0 < n) (hm : n < 40000) (hcap : 16 + n ≤ cap) (hcm : cap ≤ 9223372036854775807) :
    Calls Tryz.prog 36 #[.slice (some ⟨b, o, none⟩) (16 + n) cap] w fun e w' => e = .returned (.tuple #[.agg (zzC d (.slice (some ⟨b, o + 16, none⟩) n (cap - 16))), .nilIface]) ∧ Kept [] w w' := by
  have lb := hl.lt
  have HN := hid hn; clear hn
  go_enter Tryz.func36, Tryz.ntmps36
  go_wp2_with fail
  generalize hW : World.alloc _ _ = w1
  have hk1 : Kept [] w w1 := by rw [← hW]; exact ((Kept.refl [] w).alloc _).alloc _
  have hZ : w1.heap[w.heap.size]? = some (.cells #[.bool false, .bool false, .bool false, .bool false, .int .u32 0, .int .u16 0, .int .u16 0, .int .u32 0, .slice none 0 0] 68 (0, 0)) := by rw [← hW]; exact blk_alloc _ (blk_new w _)
  have hP1 : PayAt w1 (w.heap.size + 1) 0 0 (.slice none 0 0) ⟨false, false, 0, 0, 0, 0⟩ (.slice none 0 0) := by
    rw [← hW]
    have h := blk_new (w.alloc (.cells #[.bool false, .bool false, .bool false, .bool false, .int .u32 0, .int .u16 0, .int .u16 0, .int .u32 0, .slice none 0 0] 68)) (.cells (payC 0 0 (.slice none 0 0) ⟨false, false, 0, 0, 0, 0⟩ (.slice none 0 0)) 120)
    simp only [World.size_alloc] at h
    exact h
  clear hW
  generalize hB : w.heap.size = B at *
  have HB := hid hB; clear hB
  have HU := hid (pay_unmarshal (B + 1) b o (16 + n) cap n 0 d l w1 hP1 (by rw [padded]; simpa using hl.kept hk1 (by simp)) HN.out (by omega) hp (by omega) (by omega) hcap hcm (by omega))
  clear hP1
  have HZ := hid hZ; clear hZ
  have HK1 := hid hk1; clear hk1
  refine HU.out.mono ?_
  rintro e w2 ⟨rfl, hP2, hk2⟩
  have hZ2 := (hk2.block B (blk_lt HZ.out) (by simp)).trans HZ.out
  have HZ2 := hid hZ2
  have HP2 := hid hP2
  have lB2 := blk_lt hZ2
  have lp2 := blk_lt hP2
  have c15 : w2.cell? ⟨B + 1, 15, none⟩ = some (.bool false) := blk_cell hP2 rfl
  have c4 : w2.cell? ⟨B + 1, 4, none⟩ = some (.bool false) := blk_cell hP2 rfl
  have c5 : w2.cell? ⟨B + 1, 5, none⟩ = some (.bool d.bg) := blk_cell hP2 rfl
  have c6 : w2.cell? ⟨B + 1, 6, none⟩ = some (.bool d.en) := blk_cell hP2 rfl
  have c7 : w2.cell? ⟨B + 1, 7, none⟩ = some (.bool false) := blk_cell hP2 rfl
  have c8 : w2.cell? ⟨B + 1, 8, none⟩ = some (.int .u32 d.tsn) := blk_cell hP2 rfl
  have c9 : w2.cell? ⟨B + 1, 9, none⟩ = some (.int .u16 d.si) := blk_cell hP2 rfl
  have c10 : w2.cell? ⟨B + 1, 10, none⟩ = some (.int .u16 d.ssn) := blk_cell hP2 rfl
  have c13 : w2.cell? ⟨B + 1, 13, none⟩ = some (.int .u32 d.ppi) := blk_cell hP2 rfl
  have c14 : w2.cell? ⟨B + 1, 14, none⟩ = some (.slice (some ⟨b, o + 16, none⟩) n (cap - 16)) := blk_cell hP2 rfl
  clear hP2 hZ2 HU HZ
  go_wp2_with fail
  go_still_tail 37, (by kernel_rfl)
  change wpList _ _ _ _ _ w2.drew
  have e0 : w2.cell? ⟨B, 0, none⟩ = some (.bool false) := blk_cell HZ2.out rfl
  have e1 : w2.cell? ⟨B, 1, none⟩ = some (.bool false) := blk_cell HZ2.out rfl
  have e2 : w2.cell? ⟨B, 2, none⟩ = some (.bool false) := blk_cell HZ2.out rfl
  have e3 : w2.cell? ⟨B, 3, none⟩ = some (.bool false) := blk_cell HZ2.out rfl
  have e4 : w2.cell? ⟨B, 4, none⟩ = some (.int .u32 0) := blk_cell HZ2.out rfl
  have e5 : w2.cell? ⟨B, 5, none⟩ = some (.int .u16 0) := blk_cell HZ2.out rfl
  have e6 : w2.cell? ⟨B, 6, none⟩ = some (.int .u16 0) := blk_cell HZ2.out rfl
  have e7 : w2.cell? ⟨B, 7, none⟩ = some (.int .u32 0) := blk_cell HZ2.out rfl
  have e8 : w2.cell? ⟨B, 8, none⟩ = some (.slice none 0 0) := blk_cell HZ2.out rfl
  have f0 : w2.frozen? ⟨B, 0, none⟩ = false := blk_free HZ2.out
  have f1 : w2.frozen? ⟨B, 1, none⟩ = false := blk_free HZ2.out
  have f2 : w2.frozen? ⟨B, 2, none⟩ = false := blk_free HZ2.out
  have f3 : w2.frozen? ⟨B, 3, none⟩ = false := blk_free HZ2.out
  have f4 : w2.frozen? ⟨B, 4, none⟩ = false := blk_free HZ2.out
  have f5 : w2.frozen? ⟨B, 5, none⟩ = false := blk_free HZ2.out
  have f6 : w2.frozen? ⟨B, 6, none⟩ = false := blk_free HZ2.out
  have f7 : w2.frozen? ⟨B, 7, none⟩ = false := blk_free HZ2.out
  have f8 : w2.frozen? ⟨B, 8, none⟩ = false := blk_free HZ2.out
  clear c15 c4 c5 c6 c7 c8 c9 c10 c13 c14
  go_wp2_with fail
  generalize hW : World.setCell _ _ _ = w3
  have hbl : w3.heap[B]? = some (.cells (zzC d (.slice (some ⟨b, o + 16, none⟩) n (cap - 16))) 68 (0, 0)) := by
    rw [← hW]
    exact (blk_setCell (i := 8) (.slice (some ⟨b, o + 16, none⟩) n (cap - 16)) (blk_setCell (i := 7) (.int .u32 d.ppi) (blk_setCell (i := 6) (.int .u16 d.ssn) (blk_setCell (i := 5) (.int .u16 d.si) (blk_setCell (i := 4) (.int .u32 d.tsn) (blk_setCell (i := 3) (.bool false) (blk_setCell (i := 2) (.bool d.en) (blk_setCell (i := 1) (.bool d.bg) (blk_setCell (i := 0) (.bool false) HZ2.out)))))))))
  have hBle : w.heap.size ≤ B := by rw [HB.out]; exact Nat.le_refl _
  have hk2d := HK1.out.thenNew hk2 (by intro r hr; simp at hr; subst hr; right; omega)
  have hkk : Kept [] w w3 := by
    rw [← hW]
    exact (((((((((hk2d.setCell (p := ⟨B, 0, none⟩) (.bool false) (.inr hBle)).setCell (p := ⟨B, 1, none⟩) (.bool d.bg) (.inr hBle)).setCell (p := ⟨B, 2, none⟩) (.bool d.en) (.inr hBle)).setCell (p := ⟨B, 3, none⟩) (.bool false) (.inr hBle)).setCell (p := ⟨B, 4, none⟩) (.int .u32 d.tsn) (.inr hBle)).setCell (p := ⟨B, 5, none⟩) (.int .u16 d.si) (.inr hBle)).setCell (p := ⟨B, 6, none⟩) (.int .u16 d.ssn) (.inr hBle)).setCell (p := ⟨B, 7, none⟩) (.int .u32 d.ppi) (.inr hBle)).setCell (p := ⟨B, 8, none⟩) (.slice (some ⟨b, o + 16, none⟩) n (cap - 16)) (.inr hBle))
  clear hW
  have hbl' : w3.drew.heap[B]? = some (.cells (zzC d (.slice (some ⟨b, o + 16, none⟩) n (cap - 16))) 68 (0, 0)) := hbl
  have hv := run_loadVar_blk (cs := zzC d (.slice (some ⟨b, o + 16, none⟩) n (cap - 16))) Tryz.underlying68 size75 hbl'
  refine bodyPost_ret (v := .tuple #[.agg (zzC d (.slice (some ⟨b, o + 16, none⟩) n (cap - 16))), .nilIface]) (results_cell_tmp2' rfl rfl rfl hv) rfl ⟨rfl, hkk.drew⟩
end Go.Proofs.Base
end
section
namespace Go.Proofs.Base
open Go Go.Proofs Go.RowKit
set_option maxRecDepth 100000
theorem size32 : (Tryz.prog.info? 41).map (·.size) = some 9 := by kernel_rfl
def zero32 : Array Value := #[.bool false, .bool false, .bool false, .bool false, .int .u32 0, .int .i64 0, .int .i64 0, .int .u32 0, .slice none 0 0]
set_option maxRecDepth 100000 in
set_option maxHeartbeats 2000000 in
theorem DataOf (b o n cap : Nat) (d : Pd) (l : List Nat) (w : World) (hd : d.ok) (hl : BytesAt w b o (dataBytes d l)) (hn : l.length = n) (hp : 0 < n) (hm : n < 40000) :
    Calls Tryz.prog 25 #[.slice (some ⟨b, o, none⟩) (16 + n) cap] w fun e w' => ∃ g cap', e = .returned (.tuple #[.agg (dC d (.slice (some ⟨g, 0, none⟩) n cap')), .bool true]) ∧ BB w' g l ∧ n ≤ cap' ∧ cap' ≤ maxLen ∧ w.heap.size ≤ g ∧ Kept [] w w' := by
  have lb := hl.lt
  obtain ⟨hd1, hd2, hd3, hd4⟩ := hd
  have hkA := (Kept.refl [] w).alloc (.cells zero32 41)
  have H1 := hid (copied b o (16 + n) cap (dataBytes d l) (w.alloc (.cells zero32 41)) (hl.kept hkA (by simp)) (by rw [len_dataBytes, hn]) (by omega) (by omega))
  have HA0 := hid (blk_new w (.cells zero32 41))
  have HKA := hid hkA; clear hkA hl
  unfold zero32 at *
  go_enter Tryz.func25, Tryz.ntmps25
  go_wp2_with fail
  refine H1.out.mono ?_
  rintro e w1 ⟨g1, cap1, hg1, hc1, hc1', rfl, hb1, hk1⟩
  have H2 := hid (ZZDataOf g1 0 n cap1 d l w1 hb1 hn hp hm hc1 (by unfold maxLen at hc1'; omega))
  have hA1 := (hk1.block w.heap.size (blk_lt HA0.out) (by simp)).trans HA0.out
  have hb1' := hb1.drop 16
  clear H1
  go_wp2_with fail
  refine H2.out.mono ?_
  rintro e w2 ⟨rfl, hk2⟩
  unfold zzC
  clear H2
  go_wp2_with fail
  generalize hW : World.alloc _ _ = w3
  have hC : w3.heap[w2.heap.size]? = some (.cells (zzC d (.slice (some ⟨g1, 16, none⟩) n (cap1 - 16))) 68 (0, 0)) := by rw [← hW]; exact blk_new w2 _
  have hk23 : Kept [] w2 w3 := by rw [← hW]; exact (Kept.refl [] w2).alloc _
  clear hW
  have hA3 := ((hk2.trans hk23).block w.heap.size (blk_lt hA1) (by simp)).trans hA1
  have hb3 : BytesAt w3 g1 16 l := (hb1'.kept (hk2.trans hk23) (by simp))
  have hk3 := ((HKA.out.trans hk1).trans hk2).trans hk23
  have s1 := hk1.size
  simp at s1 hg1
  have hAC : w.heap.size < w2.heap.size := by have := hk2.size; omega
  generalize hAe : w.heap.size = A at *
  generalize hCe : w2.heap.size = C at *
  have c0 : w3.cell? ⟨C, 0, none⟩ = some (.bool false) := blk_cell hC rfl
  have c1 : w3.cell? ⟨C, 1, none⟩ = some (.bool d.bg) := blk_cell hC rfl
  have c2 : w3.cell? ⟨C, 2, none⟩ = some (.bool d.en) := blk_cell hC rfl
  have c3 : w3.cell? ⟨C, 3, none⟩ = some (.bool false) := blk_cell hC rfl
  have c4 : w3.cell? ⟨C, 4, none⟩ = some (.int .u32 d.tsn) := blk_cell hC rfl
  have c5 : w3.cell? ⟨C, 5, none⟩ = some (.int .u16 d.si) := blk_cell hC rfl
  have c6 : w3.cell? ⟨C, 6, none⟩ = some (.int .u16 d.ssn) := blk_cell hC rfl
  have c7 : w3.cell? ⟨C, 7, none⟩ = some (.int .u32 d.ppi) := blk_cell hC rfl
  have c8 : w3.cell? ⟨C, 8, none⟩ = some (.slice (some ⟨g1, 16, none⟩) n (cap1 - 16)) := blk_cell hC rfl
  have HC := hid hC
  have HA3 := hid hA3
  have HB3 := hid hb3
  have lA3 := blk_lt hA3
  have HK3 := hid hk3
  have HN := hid hn
  have HAe := hid hAe
  clear hC hA3 hA1 hb3 hk3 hb1 hb1' hk1 hk2 hk23 HA0 HKA hn hAe hCe s1 hg1
  have hne1 : A ≠ C := by omega
  have hne2 : C ≠ A := by omega
  have m1 : IntKind.i64.wrap (d.si : Int) = d.si := by rw [IntKind.wrap_i64]; omega
  have m2 : IntKind.i64.wrap (d.ssn : Int) = d.ssn := by rw [IntKind.wrap_i64]; omega
  go_region_held3 (fun w' => w'.cell? ⟨C, 0, none⟩ = some (.bool false) ∧ w'.cell? ⟨C, 1, none⟩ = some (.bool d.bg) ∧ w'.cell? ⟨C, 2, none⟩ = some (.bool d.en) ∧ w'.cell? ⟨C, 3, none⟩ = some (.bool false) ∧ w'.cell? ⟨C, 4, none⟩ = some (.int .u32 d.tsn) ∧ w'.cell? ⟨C, 5, none⟩ = some (.int .u16 d.si) ∧ w'.cell? ⟨C, 6, none⟩ = some (.int .u16 d.ssn) ∧ w'.cell? ⟨C, 7, none⟩ = some (.int .u32 d.ppi) ∧ w'.cell? ⟨C, 8, none⟩ = some (.slice (some ⟨g1, 16, none⟩) n (cap1 - 16)))
    (go_keep)
    ((go_at_call 21; refine (copied' g1 16 n (cap1 - 16) l w3.drew (HB3.out.kept ((Kept.refl [] w3).drew) (by simp)) HN.out hp (by omega)).mono ?_; rintro e wc ⟨g, cap', hg, hcap, hcm, rfl, hby, hkc⟩; have hkw := ((Kept.refl [] w3).drew).trans hkc; have hZc := (hkw.block A (blk_lt HA3.out) (by simp)).trans HA3.out; have hCc := (hkw.block C (blk_lt HC.out) (by simp)).trans HC.out; have d0 : wc.cell? ⟨C, 0, none⟩ = some (.bool false) := blk_cell hCc rfl; have d1 : wc.cell? ⟨C, 1, none⟩ = some (.bool d.bg) := blk_cell hCc rfl; have d2 : wc.cell? ⟨C, 2, none⟩ = some (.bool d.en) := blk_cell hCc rfl; have d3 : wc.cell? ⟨C, 3, none⟩ = some (.bool false) := blk_cell hCc rfl; have d4 : wc.cell? ⟨C, 4, none⟩ = some (.int .u32 d.tsn) := blk_cell hCc rfl; have d5 : wc.cell? ⟨C, 5, none⟩ = some (.int .u16 d.si) := blk_cell hCc rfl; have d6 : wc.cell? ⟨C, 6, none⟩ = some (.int .u16 d.ssn) := blk_cell hCc rfl; have d7 : wc.cell? ⟨C, 7, none⟩ = some (.int .u32 d.ppi) := blk_cell hCc rfl; have d8 : wc.cell? ⟨C, 8, none⟩ = some (.slice (some ⟨g1, 16, none⟩) n (cap1 - 16)) := blk_cell hCc rfl; clear hCc; have e0 : wc.cell? ⟨A, 0, none⟩ = some (.bool false) := blk_cell hZc rfl; have e1 : wc.cell? ⟨A, 1, none⟩ = some (.bool false) := blk_cell hZc rfl; have e2 : wc.cell? ⟨A, 2, none⟩ = some (.bool false) := blk_cell hZc rfl; have e3 : wc.cell? ⟨A, 3, none⟩ = some (.bool false) := blk_cell hZc rfl; have e4 : wc.cell? ⟨A, 4, none⟩ = some (.int .u32 0) := blk_cell hZc rfl; have e5 : wc.cell? ⟨A, 5, none⟩ = some (.int .i64 0) := blk_cell hZc rfl; have e6 : wc.cell? ⟨A, 6, none⟩ = some (.int .i64 0) := blk_cell hZc rfl; have e7 : wc.cell? ⟨A, 7, none⟩ = some (.int .u32 0) := blk_cell hZc rfl; have e8 : wc.cell? ⟨A, 8, none⟩ = some (.slice none 0 0) := blk_cell hZc rfl; have f0 : wc.frozen? ⟨A, 0, none⟩ = false := blk_free hZc; have f1 : wc.frozen? ⟨A, 1, none⟩ = false := blk_free hZc; have f2 : wc.frozen? ⟨A, 2, none⟩ = false := blk_free hZc; have f3 : wc.frozen? ⟨A, 3, none⟩ = false := blk_free hZc; have f4 : wc.frozen? ⟨A, 4, none⟩ = false := blk_free hZc; have f5 : wc.frozen? ⟨A, 5, none⟩ = false := blk_free hZc; have f6 : wc.frozen? ⟨A, 6, none⟩ = false := blk_free hZc; have f7 : wc.frozen? ⟨A, 7, none⟩ = false := blk_free hZc; have f8 : wc.frozen? ⟨A, 8, none⟩ = false := blk_free hZc; have Hby := hid hby; have lB := blk_lt hZc; have HZc := hid hZc; clear hZc hby))
  go_wp2_with fail
  generalize hW : World.setCell _ _ _ = w5
  have hbl : w5.heap[A]? = some (.cells (dC d (.slice (some ⟨g, 0, none⟩) n cap')) 41 (0, 0)) := by
    rw [← hW]
    exact (blk_setCell (i := 8) (.slice (some ⟨g, 0, none⟩) n cap') (blk_setCell (i := 7) (.int .u32 d.ppi) (blk_setCell (i := 6) (.int .i64 d.ssn) (blk_setCell (i := 5) (.int .i64 d.si) (blk_setCell (i := 4) (.int .u32 d.tsn) (blk_setCell (i := 3) (.bool false) (blk_setCell (i := 2) (.bool d.en) (blk_setCell (i := 1) (.bool d.bg) (blk_setCell (i := 0) (.bool false) HZc.out)))))))))
  have hBle : w.heap.size ≤ A := by rw [HAe.out]; exact Nat.le_refl _
  have hk2d := HK3.out.trans hkw
  have hkk : Kept [] w w5 := by
    rw [← hW]
    exact (((((((((hk2d.setCell (p := ⟨A, 0, none⟩) (.bool false) (.inr hBle)).setCell (p := ⟨A, 1, none⟩) (.bool d.bg) (.inr hBle)).setCell (p := ⟨A, 2, none⟩) (.bool d.en) (.inr hBle)).setCell (p := ⟨A, 3, none⟩) (.bool false) (.inr hBle)).setCell (p := ⟨A, 4, none⟩) (.int .u32 d.tsn) (.inr hBle)).setCell (p := ⟨A, 5, none⟩) (.int .i64 d.si) (.inr hBle)).setCell (p := ⟨A, 6, none⟩) (.int .i64 d.ssn) (.inr hBle)).setCell (p := ⟨A, 7, none⟩) (.int .u32 d.ppi) (.inr hBle)).setCell (p := ⟨A, 8, none⟩) (.slice (some ⟨g, 0, none⟩) n cap') (.inr hBle))
  have hk3d := Kept.refl [A] wc
  have hky : Kept [A] wc w5 := by
    rw [← hW]
    exact (((((((((hk3d.setCell (p := ⟨A, 0, none⟩) (.bool false) (.inl (by simp))).setCell (p := ⟨A, 1, none⟩) (.bool d.bg) (.inl (by simp))).setCell (p := ⟨A, 2, none⟩) (.bool d.en) (.inl (by simp))).setCell (p := ⟨A, 3, none⟩) (.bool false) (.inl (by simp))).setCell (p := ⟨A, 4, none⟩) (.int .u32 d.tsn) (.inl (by simp))).setCell (p := ⟨A, 5, none⟩) (.int .i64 d.si) (.inl (by simp))).setCell (p := ⟨A, 6, none⟩) (.int .i64 d.ssn) (.inl (by simp))).setCell (p := ⟨A, 7, none⟩) (.int .u32 d.ppi) (.inl (by simp))).setCell (p := ⟨A, 8, none⟩) (.slice (some ⟨g, 0, none⟩) n cap') (.inl (by simp)))
  clear hW
  have hg2 : w3.heap.size ≤ g := hg
  have hlt := HK3.out.size
  have hv := run_loadVar_blk (cs := dC d (.slice (some ⟨g, 0, none⟩) n cap')) Tryz.underlying41 size32 hbl
  refine bodyPost_ret (v := .tuple #[.agg (dC d (.slice (some ⟨g, 0, none⟩) n cap')), .bool true]) (results_cell_tmp2' rfl rfl rfl hv) rfl ⟨g, cap', rfl, Hby.out.kept hky (by simp; omega), hcap, hcm, by omega, hkk⟩
end Go.Proofs.Base
end
