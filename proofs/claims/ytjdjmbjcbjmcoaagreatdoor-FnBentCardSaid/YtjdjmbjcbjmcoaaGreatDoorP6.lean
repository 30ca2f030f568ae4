/- A part of the proof, step P6: what the code and the plain laws of this step give. Made by AI agents; no person has read it. -/
import Derived.Test.YtjdjmbjcbjmcoaaGreatDoorP5
import Derived.Test.YtjdjmbjcbjmcoaaGreatDoorR1
namespace Go.Proofs.Base
open Go Go.Proofs Go.RowKit
theorem size75 : (Tryz.prog.info? 58).map (·.size) = some 9 := by kernel_rfl
def dC (d : Pd) (user : Value) : Array Value := #[.bool false, .bool d.bg, .bool d.en, .bool false, .int .u32 d.tsn, .int .i64 d.si, .int .i64 d.ssn, .int .u32 d.ppi, user]
set_option maxRecDepth 100000 in
set_option maxHeartbeats 1000000 in
theorem dataOf (d : Pd) (ub uo n ucap : Nat) (l : List Nat) (w : World) (hd : d.ok) (hl : BytesAt w ub uo l) (hn : l.length = n) (hp : 0 < n) (hm : n < 50000) :
    Calls Tryz.prog 17 #[.agg (dC d (.slice (some ⟨ub, uo, none⟩) n ucap))] w fun e w' => ∃ g cap', n ≤ cap' ∧ e = .returned (.agg (zzC d (.slice (some ⟨g, 0, none⟩) n cap'))) ∧ BytesAt w' g 0 l ∧ Kept [] w w' := by
  have hub := hl.lt
  obtain ⟨hd1, hd2, hd3, hd4⟩ := hd
  have HN := hid hn; clear hn
  unfold dC
  go_enter Tryz.func17, Tryz.ntmps17
  go_wp2_with fail
  generalize hW : World.alloc _ _ = w1
  have hA : w1.heap[w.heap.size]? = some (.cells (dC d (.slice (some ⟨ub, uo, none⟩) n ucap)) 32 (0, 0)) := by rw [← hW]; exact blk_alloc _ (blk_new w _)
  have hZ : w1.heap[w.heap.size + 1]? = some (.cells #[.bool false, .bool false, .bool false, .bool false, .int .u32 0, .int .u16 0, .int .u16 0, .int .u32 0, .slice none 0 0] 58 (0, 0)) := by rw [← hW]; have h := blk_new (w.alloc (.cells (dC d (.slice (some ⟨ub, uo, none⟩) n ucap)) 32)) (.cells #[.bool false, .bool false, .bool false, .bool false, .int .u32 0, .int .u16 0, .int .u16 0, .int .u32 0, .slice none 0 0] 58); simp only [World.size_alloc] at h; exact h
  have hk1 : Kept [] w w1 := by rw [← hW]; exact ((Kept.refl [] w).alloc _).alloc _
  have hsz : w1.heap.size = w.heap.size + 2 := by rw [← hW]; simp
  clear hW
  generalize hB : w.heap.size = B at *
  have HB := hid hB; clear hB
  have c0 : w1.cell? ⟨B, 0, none⟩ = some (.bool false) := blk_cell hA rfl
  have c1 : w1.cell? ⟨B, 1, none⟩ = some (.bool d.bg) := blk_cell hA rfl
  have c2 : w1.cell? ⟨B, 2, none⟩ = some (.bool d.en) := blk_cell hA rfl
  have c3 : w1.cell? ⟨B, 3, none⟩ = some (.bool false) := blk_cell hA rfl
  have c4 : w1.cell? ⟨B, 4, none⟩ = some (.int .u32 d.tsn) := blk_cell hA rfl
  have c5 : w1.cell? ⟨B, 5, none⟩ = some (.int .i64 d.si) := blk_cell hA rfl
  have c6 : w1.cell? ⟨B, 6, none⟩ = some (.int .i64 d.ssn) := blk_cell hA rfl
  have c7 : w1.cell? ⟨B, 7, none⟩ = some (.int .u32 d.ppi) := blk_cell hA rfl
  have c8 : w1.cell? ⟨B, 8, none⟩ = some (.slice (some ⟨ub, uo, none⟩) n ucap) := blk_cell hA rfl
  have HA := hid hA
  have HZ := hid hZ
  clear hA hZ
  have m1 : IntKind.u16.wrap (d.si : Int) = d.si := by rw [IntKind.wrap_u16]; omega
  have m2 : IntKind.u16.wrap (d.ssn : Int) = d.ssn := by rw [IntKind.wrap_u16]; omega
  go_region_held3 (fun w' => w'.cell? ⟨B, 0, none⟩ = some (.bool false) ∧ w'.cell? ⟨B, 1, none⟩ = some (.bool d.bg) ∧ w'.cell? ⟨B, 2, none⟩ = some (.bool d.en) ∧ w'.cell? ⟨B, 3, none⟩ = some (.bool false) ∧ w'.cell? ⟨B, 4, none⟩ = some (.int .u32 d.tsn) ∧ w'.cell? ⟨B, 5, none⟩ = some (.int .i64 d.si) ∧ w'.cell? ⟨B, 6, none⟩ = some (.int .i64 d.ssn) ∧ w'.cell? ⟨B, 7, none⟩ = some (.int .u32 d.ppi) ∧ w'.cell? ⟨B, 8, none⟩ = some (.slice (some ⟨ub, uo, none⟩) n ucap))
    (first | go_keep | (go_split_ands; refine ⟨?_, ?_, ?_, ?_, ?_, ?_, ?_, ?_, ?_⟩ <;> exact blk_cell hAc.out rfl))
    ((go_at_call 18; refine (copied ub uo n ucap l w1.drew ((hl.kept hk1 (by simp)).kept ((Kept.refl [] w1).drew) (by simp)) HN.out hp (by omega)).mono ?_; rintro e wc ⟨g, cap', hg, hcap, hcm, rfl, hby, hkc⟩; have hkw := ((Kept.refl [] w1).drew).trans hkc; have hZc := (hkw.block (B + 1) (blk_lt HZ.out) (by simp)).trans HZ.out; have hAc := hid ((hkw.block B (blk_lt HA.out) (by simp)).trans HA.out); have e0 : wc.cell? ⟨B + 1, 0, none⟩ = some (.bool false) := blk_cell hZc rfl; have e1 : wc.cell? ⟨B + 1, 1, none⟩ = some (.bool false) := blk_cell hZc rfl; have e2 : wc.cell? ⟨B + 1, 2, none⟩ = some (.bool false) := blk_cell hZc rfl; have e3 : wc.cell? ⟨B + 1, 3, none⟩ = some (.bool false) := blk_cell hZc rfl; have e4 : wc.cell? ⟨B + 1, 4, none⟩ = some (.int .u32 0) := blk_cell hZc rfl; have e5 : wc.cell? ⟨B + 1, 5, none⟩ = some (.int .u16 0) := blk_cell hZc rfl; have e6 : wc.cell? ⟨B + 1, 6, none⟩ = some (.int .u16 0) := blk_cell hZc rfl; have e7 : wc.cell? ⟨B + 1, 7, none⟩ = some (.int .u32 0) := blk_cell hZc rfl; have e8 : wc.cell? ⟨B + 1, 8, none⟩ = some (.slice none 0 0) := blk_cell hZc rfl; have f0 : wc.frozen? ⟨B + 1, 0, none⟩ = false := blk_free hZc; have f1 : wc.frozen? ⟨B + 1, 1, none⟩ = false := blk_free hZc; have f2 : wc.frozen? ⟨B + 1, 2, none⟩ = false := blk_free hZc; have f3 : wc.frozen? ⟨B + 1, 3, none⟩ = false := blk_free hZc; have f4 : wc.frozen? ⟨B + 1, 4, none⟩ = false := blk_free hZc; have f5 : wc.frozen? ⟨B + 1, 5, none⟩ = false := blk_free hZc; have f6 : wc.frozen? ⟨B + 1, 6, none⟩ = false := blk_free hZc; have f7 : wc.frozen? ⟨B + 1, 7, none⟩ = false := blk_free hZc; have f8 : wc.frozen? ⟨B + 1, 8, none⟩ = false := blk_free hZc; have Hby := hid hby; have lB := blk_lt hZc; have HZc := hid hZc; clear hZc hby))
  go_wp2_with fail
  have hbl := (blk_setCell (i := 8) (.slice (some ⟨g, 0, none⟩) n cap') (blk_setCell (i := 7) (.int .u32 d.ppi) (blk_setCell (i := 6) (.int .u16 d.ssn) (blk_setCell (i := 5) (.int .u16 d.si) (blk_setCell (i := 4) (.int .u32 d.tsn) (blk_setCell (i := 3) (.bool false) (blk_setCell (i := 2) (.bool d.en) (blk_setCell (i := 1) (.bool d.bg) (blk_setCell (i := 0) (.bool false) HZc.out)))))))))
  have hkk := ((((((((((hk1.trans hkw).setCell (p := ⟨B + 1, 0, none⟩) (.bool false) (.inr (by show _ ≤ B + 1; rw [HB.out]; omega))).setCell (p := ⟨B + 1, 1, none⟩) (.bool d.bg) (.inr (by show _ ≤ B + 1; rw [HB.out]; omega))).setCell (p := ⟨B + 1, 2, none⟩) (.bool d.en) (.inr (by show _ ≤ B + 1; rw [HB.out]; omega))).setCell (p := ⟨B + 1, 3, none⟩) (.bool false) (.inr (by show _ ≤ B + 1; rw [HB.out]; omega))).setCell (p := ⟨B + 1, 4, none⟩) (.int .u32 d.tsn) (.inr (by show _ ≤ B + 1; rw [HB.out]; omega))).setCell (p := ⟨B + 1, 5, none⟩) (.int .u16 d.si) (.inr (by show _ ≤ B + 1; rw [HB.out]; omega))).setCell (p := ⟨B + 1, 6, none⟩) (.int .u16 d.ssn) (.inr (by show _ ≤ B + 1; rw [HB.out]; omega))).setCell (p := ⟨B + 1, 7, none⟩) (.int .u32 d.ppi) (.inr (by show _ ≤ B + 1; rw [HB.out]; omega))).setCell (p := ⟨B + 1, 8, none⟩) (.slice (some ⟨g, 0, none⟩) n cap') (.inr (by show _ ≤ B + 1; rw [HB.out]; omega)))
  have hyy := ((((((((((Kept.refl [B + 1] wc).setCell (p := ⟨B + 1, 0, none⟩) (.bool false) (.inl (by simp))).setCell (p := ⟨B + 1, 1, none⟩) (.bool d.bg) (.inl (by simp))).setCell (p := ⟨B + 1, 2, none⟩) (.bool d.en) (.inl (by simp))).setCell (p := ⟨B + 1, 3, none⟩) (.bool false) (.inl (by simp))).setCell (p := ⟨B + 1, 4, none⟩) (.int .u32 d.tsn) (.inl (by simp))).setCell (p := ⟨B + 1, 5, none⟩) (.int .u16 d.si) (.inl (by simp))).setCell (p := ⟨B + 1, 6, none⟩) (.int .u16 d.ssn) (.inl (by simp))).setCell (p := ⟨B + 1, 7, none⟩) (.int .u32 d.ppi) (.inl (by simp))).setCell (p := ⟨B + 1, 8, none⟩) (.slice (some ⟨g, 0, none⟩) n cap') (.inl (by simp)))
  refine bodyPost_ret (v := .agg (zzC d (.slice (some ⟨g, 0, none⟩) n cap'))) (results_cell rfl rfl (run_loadVar_blk Tryz.underlying58 size75 hbl)) rfl ⟨g, cap', hcap, rfl, Hby.out.kept hyy ?_, hkk⟩
  have hg2 : w1.heap.size ≤ g := hg
  simp; omega
end Go.Proofs.Base
