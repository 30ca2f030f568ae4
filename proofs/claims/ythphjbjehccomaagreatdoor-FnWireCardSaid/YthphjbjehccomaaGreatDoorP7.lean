/- Parts of the proof, steps P5, P6, P7: what the code and the plain laws of these steps give. Made by AI agents; no person has read it. -/
import Derived.Test.YthphjbjehccomaaGreatDoorP3
import Derived.Test.YthphjbjehccomaaGreatDoorP10
import Derived.Test.YthphjbjehccomaaGreatDoorP8
section
namespace Go.Proofs.Base
open Go Go.Proofs Go.RowKit
set_option maxRecDepth 100000
/-- impl.Data, sctp.ZZData as values. -/
def dataV (un bg en im : Bool) (tsn : Nat) (stream seq : Int) (proto : Nat) (user : Value) : Value :=
  .agg #[.bool un, .bool bg, .bool en, .bool im, .int .u32 tsn, .int .i64 stream, .int .i64 seq, .int .u32 proto, user]
def zzC (d : Pd) (user : Value) : Array Value := #[.bool false, .bool d.bg, .bool d.en, .bool false, .int .u32 d.tsn, .int .u16 d.si, .int .u16 d.ssn, .int .u32 d.ppi, user]
set_option maxRecDepth 100000 in
set_option maxHeartbeats 400000 in
theorem zzPayload (d : Pd) (ua : Option Addr) (un uc : Nat) (w : World) :
    Calls Tryz.prog 31 #[.agg (zzC d (.slice ua un uc))] w fun e w' => e = .returned (.pointer (some ⟨w.heap.size + 1, 0, none⟩)) ∧ PayAt w' (w.heap.size + 1) 0 0 (.slice none 0 0) d (.slice ua un uc) ∧ Kept [] w w' := by
  unfold zzC
  go_enter Tryz.func31, Tryz.ntmps31
  go_wp2_with fail
  go_ret
  refine ⟨rfl, ?_, ((Kept.refl [] w).alloc _).alloc _⟩
  unfold PayAt
  have h := blk_new (w.alloc (.cells #[.bool false, .bool d.bg, .bool d.en, .bool false, .int .u32 d.tsn, .int .u16 d.si, .int .u16 d.ssn, .int .u32 d.ppi, .slice ua un uc] 68)) (.cells (payC 0 0 (.slice none 0 0) d (.slice ua un uc)) 120)
  simp only [World.size_alloc] at h
  exact h

set_option maxRecDepth 100000 in
set_option maxHeartbeats 400000 in
theorem ZZDataText (d : Pd) (ub uo n ucap : Nat) (l : List Nat) (w : World) (hd : d.ok) (hl : BytesAt w ub uo l) (hn : l.length = n) (hp : 0 < n) (hm : n < 50000) :
    Calls Tryz.prog 33 #[.agg (zzC d (.slice (some ⟨ub, uo, none⟩) n ucap))] w fun e w' => ∃ B, w.heap.size ≤ B ∧ e = .returned (.tuple #[.slice (some ⟨B, 0, none⟩) (16 + n) (16 + n), .nilIface]) ∧ OB w' B (dataBytes d l) ∧ Kept [] w w' := by
  have hub := hl.lt
  have H1 := hid (zzPayload d (some ⟨ub, uo, none⟩) n ucap (w.alloc (.cells (zzC d (.slice (some ⟨ub, uo, none⟩) n ucap)) 68)))
  unfold zzC at *
  go_enter Tryz.func33, Tryz.ntmps33
  go_wp2_with fail
  refine H1.out.mono ?_
  rintro e w1 ⟨rfl, hP, hk1⟩
  have hk1' := ((Kept.refl [] w).alloc _).trans hk1
  clear H1
  simp only [World.size_alloc] at hP ⊢
  have H2 := hid (pay_marshal (w.heap.size + 1 + 1) 0 0 ub uo n ucap _ d l w1 hd (by decide) hP (hl.kept hk1' (by simp)) hn hp hm)
  clear hP
  go_wp2_with fail
  refine H2.out.mono ?_
  rintro e w2 ⟨B, hB, rfl, hO, hk2⟩
  have HO := hid hO
  clear hO
  have hsz := hk1'.size
  go_wp2_with fail
  go_ret2
  exact ⟨B, by omega, rfl, HO.out, hk1'.thenNew hk2 (by simp; omega)⟩
end Go.Proofs.Base
end
section
namespace Go.Proofs.Base
open Go Go.Proofs Go.RowKit
set_option maxRecDepth 100000
theorem size75 : (Tryz.prog.info? 68).map (·.size) = some 9 := by kernel_rfl
def dC (d : Pd) (user : Value) : Array Value := #[.bool false, .bool d.bg, .bool d.en, .bool false, .int .u32 d.tsn, .int .i64 d.si, .int .i64 d.ssn, .int .u32 d.ppi, user]
set_option maxRecDepth 100000 in
set_option maxHeartbeats 1000000 in
theorem dataOf (d : Pd) (ub uo n ucap : Nat) (l : List Nat) (w : World) (hd : d.ok) (hl : BytesAt w ub uo l) (hn : l.length = n) (hp : 0 < n) (hm : n < 50000) :
    Calls Tryz.prog 19 #[.agg (dC d (.slice (some ⟨ub, uo, none⟩) n ucap))] w fun e w' => ∃ g cap', n ≤ cap' ∧ e = .returned (.agg (zzC d (.slice (some ⟨g, 0, none⟩) n cap'))) ∧ BytesAt w' g 0 l ∧ Kept [] w w' := by
  have hub := hl.lt
  obtain ⟨hd1, hd2, hd3, hd4⟩ := hd
  have HN := hid hn; clear hn
  unfold dC
  go_enter Tryz.func19, Tryz.ntmps19
  go_wp2_with fail
  generalize hW : World.alloc _ _ = w1
  have hA : w1.heap[w.heap.size]? = some (.cells (dC d (.slice (some ⟨ub, uo, none⟩) n ucap)) 41 (0, 0)) := by rw [← hW]; exact blk_alloc _ (blk_new w _)
  have hZ : w1.heap[w.heap.size + 1]? = some (.cells #[.bool false, .bool false, .bool false, .bool false, .int .u32 0, .int .u16 0, .int .u16 0, .int .u32 0, .slice none 0 0] 68 (0, 0)) := by rw [← hW]; have h := blk_new (w.alloc (.cells (dC d (.slice (some ⟨ub, uo, none⟩) n ucap)) 41)) (.cells #[.bool false, .bool false, .bool false, .bool false, .int .u32 0, .int .u16 0, .int .u16 0, .int .u32 0, .slice none 0 0] 68); simp only [World.size_alloc] at h; exact h
  have hk1 : Kept [] w w1 := by rw [← hW]; exact ((Kept.refl [] w).alloc _).alloc _
  have hsz : w1.heap.size = w.heap.size + 2 := by rw [← hW]; simp
  clear hW
  generalize hB : w.heap.size = B at *
  have HB := hid hB; clear hB
  have c0 : w1.cell? ⟨B, 0, none⟩ = some (.bool false) := blk_cell hA rfl
  have c1 : w1.cell? ⟨B, 1, none⟩ = some (.bool d.bg) := blk_cell hA rfl
  have c2 : w1.cell? ⟨B, 2, none⟩ = some (.bool d.en) := blk_cell hA rfl
  have c3 : w1.cell? ⟨B, 3, none⟩ = some (.bool false) := blk_cell hA rfl
  have c4 : w1.cell? ⟨B, 4, none⟩ = some (.int .u32 d.tsn) := blk_cell hA rfl
  have c5 : w1.cell? ⟨B, 5, none⟩ = some (.int .i64 d.si) := blk_cell hA rfl
  have c6 : w1.cell? ⟨B, 6, none⟩ = some (.int .i64 d.ssn) := blk_cell hA rfl
  have c7 : w1.cell? ⟨B, 7, none⟩ = some (.int .u32 d.ppi) := blk_cell hA rfl
  have c8 : w1.cell? ⟨B, 8, none⟩ = some (.slice (some ⟨ub, uo, none⟩) n ucap) := blk_cell hA rfl
  have HA := hid hA
  have HZ := hid hZ
  clear hA hZ
  have m1 : IntKind.u16.wrap (d.si : Int) = d.si := by rw [IntKind.wrap_u16]; omega
  have m2 : IntKind.u16.wrap (d.ssn : Int) = d.ssn := by rw [IntKind.wrap_u16]; omega
  go_region_held3 (fun w' => w'.cell? ⟨B, 0, none⟩ = some (.bool false) ∧ w'.cell? ⟨B, 1, none⟩ = some (.bool d.bg) ∧ w'.cell? ⟨B, 2, none⟩ = some (.bool d.en) ∧ w'.cell? ⟨B, 3, none⟩ = some (.bool false) ∧ w'.cell? ⟨B, 4, none⟩ = some (.int .u32 d.tsn) ∧ w'.cell? ⟨B, 5, none⟩ = some (.int .i64 d.si) ∧ w'.cell? ⟨B, 6, none⟩ = some (.int .i64 d.ssn) ∧ w'.cell? ⟨B, 7, none⟩ = some (.int .u32 d.ppi) ∧ w'.cell? ⟨B, 8, none⟩ = some (.slice (some ⟨ub, uo, none⟩) n ucap))
    (first | go_keep | (go_split_ands; refine ⟨?_, ?_, ?_, ?_, ?_, ?_, ?_, ?_, ?_⟩ <;> exact blk_cell hAc.out rfl))
    ((go_at_call 21; refine (copied ub uo n ucap l w1.drew ((hl.kept hk1 (by simp)).kept ((Kept.refl [] w1).drew) (by simp)) HN.out hp (by omega)).mono ?_; rintro e wc ⟨g, cap', hg, hcap, hcm, rfl, hby, hkc⟩; have hkw := ((Kept.refl [] w1).drew).trans hkc; have hZc := (hkw.block (B + 1) (blk_lt HZ.out) (by simp)).trans HZ.out; have hAc := hid ((hkw.block B (blk_lt HA.out) (by simp)).trans HA.out); have e0 : wc.cell? ⟨B + 1, 0, none⟩ = some (.bool false) := blk_cell hZc rfl; have e1 : wc.cell? ⟨B + 1, 1, none⟩ = some (.bool false) := blk_cell hZc rfl; have e2 : wc.cell? ⟨B + 1, 2, none⟩ = some (.bool false) := blk_cell hZc rfl; have e3 : wc.cell? ⟨B + 1, 3, none⟩ = some (.bool false) := blk_cell hZc rfl; have e4 : wc.cell? ⟨B + 1, 4, none⟩ = some (.int .u32 0) := blk_cell hZc rfl; have e5 : wc.cell? ⟨B + 1, 5, none⟩ = some (.int .u16 0) := blk_cell hZc rfl; have e6 : wc.cell? ⟨B + 1, 6, none⟩ = some (.int .u16 0) := blk_cell hZc rfl; have e7 : wc.cell? ⟨B + 1, 7, none⟩ = some (.int .u32 0) := blk_cell hZc rfl; have e8 : wc.cell? ⟨B + 1, 8, none⟩ = some (.slice none 0 0) := blk_cell hZc rfl; have f0 : wc.frozen? ⟨B + 1, 0, none⟩ = false := blk_free hZc; have f1 : wc.frozen? ⟨B + 1, 1, none⟩ = false := blk_free hZc; have f2 : wc.frozen? ⟨B + 1, 2, none⟩ = false := blk_free hZc; have f3 : wc.frozen? ⟨B + 1, 3, none⟩ = false := blk_free hZc; have f4 : wc.frozen? ⟨B + 1, 4, none⟩ = false := blk_free hZc; have f5 : wc.frozen? ⟨B + 1, 5, none⟩ = false := blk_free hZc; have f6 : wc.frozen? ⟨B + 1, 6, none⟩ = false := blk_free hZc; have f7 : wc.frozen? ⟨B + 1, 7, none⟩ = false := blk_free hZc; have f8 : wc.frozen? ⟨B + 1, 8, none⟩ = false := blk_free hZc; have Hby := hid hby; have lB := blk_lt hZc; have HZc := hid hZc; clear hZc hby))
  go_wp2_with fail
  have hbl := (blk_setCell (i := 8) (.slice (some ⟨g, 0, none⟩) n cap') (blk_setCell (i := 7) (.int .u32 d.ppi) (blk_setCell (i := 6) (.int .u16 d.ssn) (blk_setCell (i := 5) (.int .u16 d.si) (blk_setCell (i := 4) (.int .u32 d.tsn) (blk_setCell (i := 3) (.bool false) (blk_setCell (i := 2) (.bool d.en) (blk_setCell (i := 1) (.bool d.bg) (blk_setCell (i := 0) (.bool false) HZc.out)))))))))
  have hkk := ((((((((((hk1.trans hkw).setCell (p := ⟨B + 1, 0, none⟩) (.bool false) (.inr (by show _ ≤ B + 1; rw [HB.out]; omega))).setCell (p := ⟨B + 1, 1, none⟩) (.bool d.bg) (.inr (by show _ ≤ B + 1; rw [HB.out]; omega))).setCell (p := ⟨B + 1, 2, none⟩) (.bool d.en) (.inr (by show _ ≤ B + 1; rw [HB.out]; omega))).setCell (p := ⟨B + 1, 3, none⟩) (.bool false) (.inr (by show _ ≤ B + 1; rw [HB.out]; omega))).setCell (p := ⟨B + 1, 4, none⟩) (.int .u32 d.tsn) (.inr (by show _ ≤ B + 1; rw [HB.out]; omega))).setCell (p := ⟨B + 1, 5, none⟩) (.int .u16 d.si) (.inr (by show _ ≤ B + 1; rw [HB.out]; omega))).setCell (p := ⟨B + 1, 6, none⟩) (.int .u16 d.ssn) (.inr (by show _ ≤ B + 1; rw [HB.out]; omega))).setCell (p := ⟨B + 1, 7, none⟩) (.int .u32 d.ppi) (.inr (by show _ ≤ B + 1; rw [HB.out]; omega))).setCell (p := ⟨B + 1, 8, none⟩) (.slice (some ⟨g, 0, none⟩) n cap') (.inr (by show _ ≤ B + 1; rw [HB.out]; omega)))
  have hyy := ((((((((((Kept.refl [B + 1] wc).setCell (p := ⟨B + 1, 0, none⟩) (.bool false) (.inl (by simp))).setCell (p := ⟨B + 1, 1, none⟩) (.bool d.bg) (.inl (by simp))).setCell (p := ⟨B + 1, 2, none⟩) (.bool d.en) (.inl (by simp))).setCell (p := ⟨B + 1, 3, none⟩) (.bool false) (.inl (by simp))).setCell (p := ⟨B + 1, 4, none⟩) (.int .u32 d.tsn) (.inl (by simp))).setCell (p := ⟨B + 1, 5, none⟩) (.int .u16 d.si) (.inl (by simp))).setCell (p := ⟨B + 1, 6, none⟩) (.int .u16 d.ssn) (.inl (by simp))).setCell (p := ⟨B + 1, 7, none⟩) (.int .u32 d.ppi) (.inl (by simp))).setCell (p := ⟨B + 1, 8, none⟩) (.slice (some ⟨g, 0, none⟩) n cap') (.inl (by simp)))
  refine bodyPost_ret (v := .agg (zzC d (.slice (some ⟨g, 0, none⟩) n cap'))) (results_cell rfl rfl (run_loadVar_blk Tryz.underlying68 size75 hbl)) rfl ⟨g, cap', hcap, rfl, Hby.out.kept hyy ?_, hkk⟩
  have hg2 : w1.heap.size ≤ g := hg
  simp; omega
end Go.Proofs.Base
end
section
namespace Go.Proofs.Base
open Go Go.Proofs Go.RowKit
set_option maxRecDepth 100000
theorem small_dataBytes (d : Pd) (l : List Nat) (hd : d.ok) (hl : ∀ x ∈ l, x < 256) (hn : l.length < 50000) : ∀ x ∈ dataBytes d l, x < 256 := by
  intro x hx
  simp only [dataBytes, List.mem_cons] at hx
  rcases hx with rfl | rfl | rfl | rfl | hx
  · omega
  · unfold flagOf; cases d.bg <;> cases d.en <;> decide
  · omega
  · omega
  · exact small_payload d l hd hl x hx
set_option maxRecDepth 100000 in
set_option maxHeartbeats 1000000 in
theorem DataText (d : Pd) (ub uo n ucap : Nat) (l : List Nat) (w : World) (hd : d.ok) (hl : BytesAt w ub uo l) (hn : l.length = n) (hp : 0 < n) (hm : n < 50000) :
    Calls Tryz.prog 22 #[.agg (dC d (.slice (some ⟨ub, uo, none⟩) n ucap))] w fun e w' => ∃ g cap', 16 + n ≤ cap' ∧ cap' ≤ maxLen ∧ w.heap.size ≤ g ∧ e = .returned (.tuple #[.slice (some ⟨g, 0, none⟩) (16 + n) cap', .bool true]) ∧ BytesAt w' g 0 (dataBytes d l) ∧ Kept [] w w' := by
  have hub := hl.lt
  have hkA := (Kept.refl [] w).alloc (.cells (dC d (.slice (some ⟨ub, uo, none⟩) n ucap)) 41)
  have H1 := hid (dataOf d ub uo n ucap l (w.alloc (.cells (dC d (.slice (some ⟨ub, uo, none⟩) n ucap)) 41)) hd (hl.kept hkA (by simp)) hn hp hm)
  have HKA := hid hkA; clear hkA
  unfold dC at *
  go_enter Tryz.func22, Tryz.ntmps22
  go_wp2_with fail
  refine H1.out.mono ?_
  rintro e w1 ⟨g1, cap1, hc1, rfl, hb1, hk1⟩
  clear H1
  have H2 := hid (ZZDataText d g1 0 n cap1 l w1 hd hb1 hn hp hm)
  have hk1' := hid (HKA.out.trans hk1)
  clear hk1 hb1
  go_wp2_with fail
  refine H2.out.mono ?_
  rintro e w2 ⟨B, hB, rfl, hO, hk2⟩
  clear H2
  have hk2' := hid (hk1'.out.trans hk2)
  have hO2 : OB w2.drew B (dataBytes d l) := hO
  have hby := hO2.bytes (small_dataBytes d l hd hl.small (by omega))
  have H3 := hid (copied B 0 (16 + n) (16 + n) (dataBytes d l) w2.drew hby (by rw [len_dataBytes, hn]) (by omega) (by omega))
  clear hO hO2 hby hk1' hk2
  go_wp2_with fail
  go_region_held3 (fun _ => True) (trivial) ((go_at_call 21; refine H3.out.mono ?_; rintro e w3 ⟨g3, cap3, hg3, hc3, hm3, rfl, hb3, hk3⟩))
  go_wp2_with fail
  go_ret2
  have hsz := hk2'.out.size
  have hg4 : w2.heap.size ≤ g3 := hg3
  exact ⟨g3, cap3, hc3, hm3, by omega, rfl, hb3, hk2'.out.drew.trans hk3⟩
end Go.Proofs.Base
end
