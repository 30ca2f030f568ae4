/- Parts of the proof, steps R1, P8: what the code and the plain laws of these steps give. Made by AI agents; no person has read it. -/
import Derived.Test.YthphjbjehccomaaGreatDoorP10
import Derived.Laws.ResultCell
section
namespace Go.Proofs.Base
open Go Go.Proofs Go.RowKit
set_option maxRecDepth 100000
theorem blk_loads {w : World} {b : Nat} {cs : Array Value} {e : TypeId} {fr : Nat × Nat} (P : Program) (h : w.heap[b]? = some (.cells cs e fr)) : (loadCells ⟨b, 0, none⟩ cs.size).run P w = .ok cs w := by
  have hl := run_loadCells_list (P := P) (w := w) ⟨b, 0, none⟩ cs.toList (fun j v hv => by
    rw [addr_add, Nat.zero_add]
    exact blk_cell h (by simpa using hv))
  simpa using hl
theorem run_loadVar_blk {P : Program} {w : World} {ty b : Nat} {cs : Array Value} {e : TypeId} {fr : Nat × Nat} {fs : Array Field} (hu : P.underlying ty = some (.struct fs)) (hs : (P.info? ty).map (·.size) = some cs.size)
    (h : w.heap[b]? = some (.cells cs e fr)) : (loadVar ty ⟨b, 0, none⟩).run P w = .ok (.agg cs) w := by
  have hl := blk_loads P h
  cases hq : P.info? ty with
  | none => simp [hq] at hs
  | some i =>
    have hi : i.size = cs.size := by simpa [hq] using hs
    simp [loadVar, isAgg, run_underlying hu, sizeOf, typeInfo, hq, hi, hl]
theorem results_cell {fn : Func} {p : Tmp} {ty : TypeId} (h : fn.results = #[.cell p ty]) {tmps : Array Value} {P : Program} {w : World} {a : Addr} {v : Value} (ha : tmps.getD p undef = .pointer (some a))
    (hv : (loadVar ty a).run P w = .ok v w) : (results fn tmps).run P w = .ok v w := by
  have ha' : tmps[p]?.getD undef = .pointer (some a) := by simpa using ha
  simp only [results, h]
  simp [ha', asAddr, hv]
theorem results_cell_tmp2 {fn : Func} {p u : Tmp} {ty : TypeId} (h : fn.results = #[.cell p ty, .tmp u]) {tmps : Array Value} {P : Program} {w : World} {a : Addr} {v : Value} (ha : tmps.getD p undef = .pointer (some a))
    (hv : (loadVar ty a).run P w = .ok v w) : (results fn tmps).run P w = .ok (.tuple #[v, tmps.getD u undef]) w := by
  rw [results_cell_tmp h, ha]
  simp [Result.andThen, asAddr, hv]
end Go.Proofs.Base
end
section
namespace Go.Proofs.Base
open Go Go.Proofs Go.RowKit
set_option maxRecDepth 100000
/-- A chunk at the front of bytes: its value of m bytes, and what is behind it is at most three noughts. -/
structure Chunky (R : List Nat) (m : Nat) : Prop where
  pos : 0 < m
  small : m < 60000
  len : bt R 2 = (4 + m) / 256 ∧ bt R 3 = (4 + m) % 256
  low : 4 + m ≤ R.length
  high : R.length < 4 + m + 4
  pad : ∀ j, 4 + m ≤ j → j < R.length → bt R j = 0
set_option maxRecDepth 100000 in
set_option maxHeartbeats 1000000 in
theorem header_unmarshal (p b off len cap m : Nat) (R : List Nat) (cs : Array Value) (e : TypeId) (w : World) (hP : w.heap[p]? = some (.cells cs e (0, 0))) (hcs : 3 ≤ cs.size)
    (hl : BytesAt w b off R) (hn : R.length = len) (hc : Chunky R m) (hcap : len ≤ cap) (hcm : cap ≤ 9223372036854775807) (hbp : b ≠ p) :
    Calls Tryz.prog 84 #[.pointer (some ⟨p, 0, none⟩), .slice (some ⟨b, off, none⟩) len cap] w fun r w' => r = .returned .nilIface ∧
      w'.heap[p]? = some (.cells (((cs.setIfInBounds 0 (.int .u8 (bt R 0 : Nat))).setIfInBounds 1 (.int .u8 (bt R 1 : Nat))).setIfInBounds 2 (.slice (some ⟨b, off + 4, none⟩) m (cap - 4))) e (0, 0)) ∧ Kept [p] w w' := by
  have lp := blk_lt hP
  have lb := hl.lt
  obtain ⟨h1, h2, ⟨h3, h4⟩, h5, h6, h7⟩ := hc
  rw [hn] at h5 h6 h7
  have c0 := hl.cell 0 (by omega)
  have c1 := hl.cell 1 (by omega)
  rw [Nat.add_zero] at c0
  have q0 : w.cell? ⟨p, 0, none⟩ = some cs[0] := blk_cell hP (by simp)
  have q1 : w.cell? ⟨p, 1, none⟩ = some cs[1] := blk_cell hP (by simp)
  have f0 : w.frozen? ⟨p, 0, none⟩ = false := blk_free hP
  have f1 : w.frozen? ⟨p, 1, none⟩ = false := blk_free hP
  have HN := hid hn; clear hn
  have HP := hid hP; clear hP
  have H7 := hid h7; clear h7
  have l4 : ¬ (len : Int) < 4 := by omega
  have l0 : (0 : Int) < (len : Int) := by omega
  have l1 : (1 : Int) < (len : Int) := by omega
  have hne1 : p ≠ b := fun h => hbp h.symm
  go_enter Tryz.func84, Tryz.ntmps84
  go_wp2_with fail
  generalize hW : World.setCell _ _ _ = w1
  have hP1 : w1.heap[p]? = some (.cells ((cs.setIfInBounds 0 (.int .u8 (bt R 0 : Nat))).setIfInBounds 1 (.int .u8 (bt R 1 : Nat))) e (0, 0)) := by rw [← hW]; exact blk_setCell _ (blk_setCell _ HP.out)
  have hk1 : Kept [p] w w1 := by rw [← hW]; exact ((Kept.refl [p] w).setCell _ (.inl (by simp))).setCell _ (.inl (by simp))
  have HP1 := hid hP1
  clear hW hP1 q0 q1 f0 f1 c0 c1
  have hl1 := hl.kept hk1 (by simpa using hbp)
  have s2 : (2 : Int) ≤ (len : Int) := by omega
  have s2c : (2 : Int) ≤ (cap : Int) := by omega
  have s2' : ¬ cap = 2 := by omega
  go_still_tail 3, (by kernel_rfl)
  change wpList _ _ _ _ _ w1.drew
  have hld : BytesAt w1.drew b (off + 2) (R.drop 2) := (hl1.kept ((Kept.refl [] w1).drew) (by simp)).drop 2
  have H2 := hid (beU16 b (off + 2) (len - 2) (cap - 2) (R.drop 2) w1.drew hld (by simp [HN.out]; omega) (by omega) (by omega))
  go_wp2_with fail
  refine H2.out.mono ?_
  rintro e2 w2 ⟨rfl, n2, hw2⟩
  have eL : be2 (bt (R.drop 2) 0) (bt (R.drop 2) 1) = 4 + m := by rw [bt_drop, bt_drop, h3, h4]; unfold be2; omega
  rw [eL]
  have hk2 : Kept [p] w w2 := by rw [hw2]; exact (hk1.drew.alloc _).drewN n2
  have hP2 : w2.heap[p]? = some (.cells ((cs.setIfInBounds 0 (.int .u8 (bt R 0 : Nat))).setIfInBounds 1 (.int .u8 (bt R 1 : Nat))) e (0, 0)) := by rw [hw2]; exact blk_alloc (w := w1.drew) _ HP1.out
  have HP2 := hid hP2
  have hl2 := hl.kept hk2 (by simpa using hbp)
  clear hw2 hP2 HP1 hk1 hl1 hld H2 eL s2 s2c s2'
  obtain ⟨r, hr, hr4⟩ : ∃ r, len = 4 + m + r ∧ r < 4 := ⟨len - (4 + m), by omega, by omega⟩
  have e1 : (4 : Int) + (m : Int) - 4 = (m : Int) := by omega
  have e2 : (len : Int) - (4 + (m : Int)) = (r : Int) := by omega
  have r0 : ¬ (r : Int) < 0 := by omega
  have r4 : (r : Int) < 4 := by omega
  have Hr := hid hr; clear hr
  go_wp2_with fail
  go_loop [8, 9] (fun i _ => ∃ k : Nat, k ≤ r ∧ i = .int .i64 k) (fun i _ => (intOf i).toNat)
  case atStart => exact ⟨r, Nat.le_refl _, rfl⟩
  case round =>
    obtain ⟨k, hk, rfl⟩ := hrel
    by_cases hk0 : 0 < k
    · have hk0' : (0 : Int) < (k : Int) := by omega
      have ha := hl2.cell (4 + m + k - 1) (by rw [HN.out, Hr.out]; omega)
      rw [H7.out (4 + m + k - 1) (by omega) (by rw [Hr.out]; omega)] at ha
      have e3 : (4 : Int) + (m : Int) + ((k : Int) - 1) = ((4 + m + k - 1 : Nat) : Int) := by omega
      have e4 : ((4 + m + k - 1 : Nat) : Int) < (len : Int) := by rw [Hr.out]; omega
      have e5 : (0 : Int) ≤ ((4 + m + k - 1 : Nat) : Int) := by omega
      generalize 4 + m + k - 1 = q at *
      go_wp2_with fail
      go_round
      case rel => exact ⟨k - 1, by omega, by go_num⟩
      case measure => simp [intOf]; omega
    · obtain rfl : k = 0 := by omega
      have q2 : w2.cell? ⟨p, 2, none⟩ = some (((cs.setIfInBounds 0 (.int .u8 (bt R 0 : Nat))).setIfInBounds 1 (.int .u8 (bt R 1 : Nat)))[2]'(by simp; omega)) := blk_cell HP2.out (Array.getElem?_eq_getElem _)
      have f2 : w2.frozen? ⟨p, 2, none⟩ = false := blk_free HP2.out
      have b1 : (4 : Int) ≤ 4 + (m : Int) := by omega
      have b2 : (4 : Int) + (m : Int) ≤ (cap : Int) := by omega
      have b3 : ¬ cap = 4 := by omega
      go_wp2_with fail
      go_ret
      refine ⟨rfl, ?_, hk2.setCell _ (.inl (by simp))⟩
      have h := blk_setCell (i := 2) (.slice (some ⟨b, off + 4, none⟩) (4 + m - 4) (cap - 4)) HP2.out
      rw [show 4 + m - 4 = m by omega] at h
      simpa using h
end Go.Proofs.Base
end
