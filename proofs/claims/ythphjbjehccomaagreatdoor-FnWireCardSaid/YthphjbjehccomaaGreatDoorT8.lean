/- Parts of the proof, steps T5, T6, T7, T8: what the code and the plain laws of these steps give. Made by AI agents; no person has read it. -/
import Derived.Test.YthphjbjehccomaaGreatDoorT4
import Derived.Test.YthphjbjehccomaaGreatDoorP10
import Derived.Handy
import Derived.Test.YthphjbjehccomaaGreatDoorP23
section
namespace Go.Proofs.Base
open Go Go.Proofs Go.RowKit Go.Proofs.Gaps
set_option maxRecDepth 100000
/-- The words of the queue. -/
def wl (W : Nat → Nat) : List Value := (List.range 625).map fun k => Value.int .u64 (W k : Nat)
def wa (W : Nat → Nat) : Array Value := (wl W).toArray
theorem wa_size (W : Nat → Nat) : (wa W).size = 625 := by simp [wa, wl]
theorem wa_get {W : Nat → Nat} {k : Nat} (h : k < 625) : (wa W)[k]? = some (.int .u64 (W k : Nat)) := by simp [wa, wl, h]
theorem wa_set (W : Nat → Nat) (k x : Nat) : (wa W).setIfInBounds k (.int .u64 (x : Nat)) = wa fun j => if j = k then x else W j := by
  apply Array.ext_getElem?
  intro j
  rw [Array.getElem?_setIfInBounds]
  by_cases hj : j < 625
  · rw [wa_get hj, wa_get hj, wa_size]
    by_cases e : k = j
    · subst e; simp [hj]
    · have : j ≠ k := fun h => e h.symm
      simp [e, this]
  · rw [Array.getElem?_eq_none (by rw [wa_size]; omega), Array.getElem?_eq_none (by rw [wa_size]; omega), wa_size]
    by_cases e : k = j
    · subst e; simp [hj]
    · simp [e]
def queueC (f u v c bm : Nat) (dv : Value) : Array Value := #[.int .u32 (tsn f v : Nat), .int .i64 (c : Nat), .slice (some ⟨bm, 0, none⟩) 625 625, dv, .int .u32 40000, .int .u32 (tsn f u : Nat)]
theorem info64 : (Tryz.prog.info? 111).map (fun i => (i.zero, i.size, i.bytes)) = some (some (.int .u64 0), 1, 8) := by kernel_rfl
theorem makeW (w : World) : (Instr.makeSlice 220 (.int .u32 625) (.int .u32 625)).run Tryz.prog w = .ok (.slice (some ⟨w.heap.size, 0, none⟩) 625 625) (w.alloc (.cells (wa fun _ => 0) 111)) := by
  rw [show (625 : Int) = ((625 : Nat) : Int) from rfl, run_make_row' (P := Tryz.prog) 220 111 (.int .u64 0) 8 Tryz.underlying220 info64 rfl .u32 .u32 625 (by omega) (by omega) w]
  congr 3
  apply Array.ext'
  rw [toList_madeCells_one]
  simp [wa, wl, List.map_const']
set_option maxHeartbeats 1000000 in
theorem newQueue (w : World) : Calls Tryz.prog 52 #[.int .u32 40000] w fun e w' => ∃ bm p, e = .returned (.pointer (some ⟨p, 0, none⟩)) ∧ w.heap.size ≤ bm ∧ bm < p ∧
    w'.heap[bm]? = some (.cells (wa fun _ => 0) 111 (0, 0)) ∧ w'.heap[p]? = some (.cells (queueC 0 0 0 0 bm (.slice none 0 0)) 222 (0, 0)) ∧ Kept [] w w' := by
  have hmk := makeW w
  go_enter Tryz.func52, Tryz.ntmps52
  go_wp2_with fail
  go_ret
  refine ⟨w.heap.size, w.heap.size + 1, rfl, Nat.le_refl _, by omega, blk_alloc _ (blk_new w _), ?_, ((Kept.refl [] w).alloc _).alloc _⟩
  have h := blk_new (w.alloc (.cells (wa fun _ => 0) 111)) (.cells (queueC 0 0 0 0 w.heap.size (.slice none 0 0)) 222)
  simp only [World.size_alloc] at h
  exact h
structure QAt (w : World) (p bm f u v c : Nat) (W : Nat → Nat) (dv : Value) : Prop where
  q : w.heap[p]? = some (.cells (queueC f u v c bm dv) 222 (0, 0))
  m : w.heap[bm]? = some (.cells (wa W) 111 (0, 0))
theorem QAt.kept {w w' : World} {p bm f u v c : Nat} {W : Nat → Nat} {dv : Value} (h : QAt w p bm f u v c W dv) {S : List Nat} (k : Kept S w w') (hp : p ∉ S) (hb : bm ∉ S) : QAt w' p bm f u v c W dv :=
  ⟨(k.block p (blk_lt h.q) hp).trans h.q, (k.block bm (blk_lt h.m) hb).trans h.m⟩
theorem QAt.ne {w : World} {p bm f u v c : Nat} {W : Nat → Nat} {dv : Value} (h : QAt w p bm f u v c W dv) : p ≠ bm := by
  intro e
  have h1 := h.q
  rw [e, h.m] at h1
  cases h1
set_option maxHeartbeats 1000000 in
theorem initQueue (p bm f : Nat) (w : World) (h : QAt w p bm 0 0 0 0 (fun _ => 0) (.slice none 0 0)) :
    Calls Tryz.prog 53 #[.pointer (some ⟨p, 0, none⟩), .int .u32 (tsn f 0 : Nat)] w fun e w' => e = .returned (.tuple #[]) ∧ QAt w' p bm f 0 0 0 (fun _ => 0) (.slice none 0 0) ∧ Kept [p, bm] w w' := by
  have hne := h.ne
  have c2 : w.cell? ⟨p, 2, none⟩ = some (.slice (some ⟨bm, 0, none⟩) 625 625) := blk_cell h.q rfl
  have c3 : w.cell? ⟨p, 3, none⟩ = some (.slice none 0 0) := blk_cell h.q rfl
  have c0 : w.cell? ⟨p, 0, none⟩ = some (.int .u32 0) := blk_cell h.q rfl
  have c1 : w.cell? ⟨p, 1, none⟩ = some (.int .i64 0) := blk_cell h.q rfl
  have c5 : w.cell? ⟨p, 5, none⟩ = some (.int .u32 0) := blk_cell h.q rfl
  have lp := blk_lt h.q
  have f0 : ∀ i, w.frozen? ⟨p, i, none⟩ = false := fun i => blk_free h.q
  have H := hid h; clear h
  generalize ht : tsn f 0 = t at *
  have HT := hid ht; clear ht
  go_enter Tryz.func53, Tryz.ntmps53
  go_wp2_with fail
  generalize hW : World.setCell _ _ _ = w1
  have hq1 : w1.heap[p]? = some (.cells #[.int .u32 (t : Nat), .int .i64 0, .slice (some ⟨bm, 0, none⟩) 625 625, .slice none 0 0, .int .u32 40000, .int .u32 (t : Nat)] 222 (0, 0)) := by
    rw [← hW, blk_setCell _ (blk_setCell _ (blk_setCell _ H.out.q))]; rfl
  have hm1 : w1.heap[bm]? = some (.cells (wa fun _ => 0) 111 (0, 0)) := by
    rw [← hW, blk_setCell_ne _ (by exact hne.symm), blk_setCell_ne _ (by exact hne.symm), blk_setCell_ne _ (by exact hne.symm)]; exact H.out.m
  have hk1 : Kept [p, bm] w w1 := by
    rw [← hW]
    exact (((Kept.refl [p, bm] w).setCell (p := ⟨p, 5, none⟩) _ (.inl (by simp))).setCell (p := ⟨p, 0, none⟩) _ (.inl (by simp))).setCell (p := ⟨p, 1, none⟩) _ (.inl (by simp))
  have HQ1 := hid hq1; have HM1 := hid hm1; have HK1 := hid hk1
  clear hW hq1 hm1 hk1 c0 c1 c2 c3 c5
  go_loopw [4, 21] (fun _ i21 wx => ∃ i : Nat, i ≤ 625 ∧ i21 = .int .i64 i ∧ Hid (wx.heap[p]? = some (.cells #[.int .u32 (t : Nat), .int .i64 0, .slice (some ⟨bm, 0, none⟩) 625 625, .slice none 0 0, .int .u32 40000, .int .u32 (t : Nat)] 222 (0, 0))) ∧
    Hid (wx.heap[bm]? = some (.cells (wa fun _ => 0) 111 (0, 0))) ∧ Hid (Kept [p, bm] w wx)) (fun _ i21 _ => 625 - (intOf i21).toNat)
  case atStart => exact ⟨0, by omega, rfl, HQ1, HM1, HK1⟩
  case round =>
    obtain ⟨i, hi, rfl, HQ, HM, HK⟩ := hrel
    have d2 : wr.cell? ⟨p, 2, none⟩ = some (.slice (some ⟨bm, 0, none⟩) 625 625) := blk_cell HQ.out rfl
    have lpr := blk_lt HQ.out
    by_cases hlt : i < 625
    · have hlt' : (i : Int) < 625 := by omega
      have h0' : (0 : Int) ≤ (i : Int) := by omega
      have d3 : wr.cell? ⟨bm, i, none⟩ = some (.int .u64 0) := blk_cell HM.out (wa_get hlt)
      have d4 : wr.frozen? ⟨bm, i, none⟩ = false := blk_free HM.out
      have lbr := blk_lt HM.out
      go_wp2_with fail
      go_roundw
      case rel =>
        refine ⟨i + 1, by omega, by go_num, hid ?_, hid ?_, hid (HK.out.setCell _ (.inl (by simp)))⟩
        · rw [blk_setCell_ne _ (by exact hne)]; exact HQ.out
        · rw [blk_setCell _ HM.out]
          have h := wa_set (fun _ => 0) i 0
          simp only [ite_self] at h
          exact congrArg (fun c => some (Obj.cells c 111 (0, 0))) h
      case measure => simp [intOf]; omega
    · have hlt' : ¬ (i : Int) < 625 := by omega
      have d3 : wr.cell? ⟨p, 3, none⟩ = some (.slice none 0 0) := blk_cell HQ.out rfl
      have d4 : wr.frozen? ⟨p, 3, none⟩ = false := blk_free HQ.out
      go_wp2_with fail
      go_end0
      refine ⟨rfl, ⟨?_, ?_⟩, HK.out.setCell _ (.inl (by simp))⟩
      · rw [blk_setCell _ HQ.out]; unfold queueC; rw [HT.out]; rfl
      · rw [blk_setCell_ne _ (by exact hne.symm)]; exact HM.out
theorem wrap_pow {o : Nat} (ho : o < 64) : IntKind.u64.wrap ((2 : Int) ^ o) = ((2 ^ o : Nat) : Int) := by
  have h2 : 2 ^ o < 2 ^ 64 := Nat.pow_lt_pow_right (by omega) ho
  have e : ((2 : Int) ^ o) = ((2 ^ o : Nat) : Int) := by simp
  rw [e, IntKind.wrap_u64]
  have h3 : 2 ^ o < 18446744073709551616 := h2
  generalize 2 ^ o = y at *
  omega
theorem bit_test {x o : Nat} (hx : x < 2 ^ 64) (ho : o < 64) : (bits BinOp.and IntKind.u64 (x : Int) (IntKind.u64.wrap ((2 : Int) ^ o)) != 0) = x.testBit o := by
  have h2 : 2 ^ o < 2 ^ 64 := Nat.pow_lt_pow_right (by omega) ho
  rw [wrap_pow ho, bits_and_u64_nat x (2 ^ o) hx h2]
  cases h : x.testBit o with
  | false => rw [(and_bit x o).2 h]; rfl
  | true =>
    have : x &&& 2 ^ o ≠ 0 := fun e => by rw [(and_bit x o).1 e] at h; cases h
    simp; omega
/-- Is j queued, by what the queue holds? -/
def has (f u v c : Nat) (W : Nat → Nat) (j : Nat) : Bool := decide (c ≠ 0) && decide (u < j) && decide (j ≤ v) && (W (idx f j)).testBit (off f j)
set_option maxHeartbeats 2000000 in
theorem hasChunk (p bm f u v c j : Nat) (W : Nat → Nat) (dv : Value) (w : World) (h : QAt w p bm f u v c W dv) (hu : u < 1000) (hv : v < 1000) (hj : j < 1000) (hc : c < 1000) (hW : ∀ k, k < 625 → W k < 2 ^ 64) :
    Calls Tryz.prog 88 #[.pointer (some ⟨p, 0, none⟩), .int .u32 (tsn f j : Nat)] w fun e w' => e = .returned (.bool (has f u v c W j)) ∧ w' = w := by
  have c0 : w.cell? ⟨p, 0, none⟩ = some (.int .u32 (tsn f v : Nat)) := blk_cell h.q rfl
  have c1 : w.cell? ⟨p, 1, none⟩ = some (.int .i64 (c : Nat)) := blk_cell h.q rfl
  have c2 : w.cell? ⟨p, 2, none⟩ = some (.slice (some ⟨bm, 0, none⟩) 625 625) := blk_cell h.q rfl
  have c5 : w.cell? ⟨p, 5, none⟩ = some (.int .u32 (tsn f u : Nat)) := blk_cell h.q rfl
  have lp := blk_lt h.q
  have lb := blk_lt h.m
  have m0 : w.cell? ⟨bm, idx f j, none⟩ = some (.int .u64 (W (idx f j) : Nat)) := blk_cell h.m (wa_get (idx_lt f j))
  have H1 := hid (sna32LTE f j u w (by omega) (by omega))
  have H2 := hid (sna32GT f j v w (by omega) (by omega))
  have HW := hid (hW (idx f j) (idx_lt f j))
  have hx := tsn_lt f j
  have hi0 : tsn f j / 64 % 4294967296 % 625 = idx f j := by unfold idx; omega
  rw [← hi0] at m0
  have HI := hid hi0
  clear hi0 hx
  have ho1 : (tsn f j : Int) % 64 = ((off f j : Nat) : Int) := by unfold off; omega
  have ho2 := off_lt f j
  clear h hW
  by_cases hc0 : c = 0
  · have : has f u v c W j = false := by simp [has, hc0]
    rw [this]
    subst hc0
    clear H1 H2
    go_enter Tryz.func88, Tryz.ntmps88
    go_wp2_with fail
    go_ret
    exact ⟨rfl, rfl⟩
  · have hcn : ((c : Int) == 0) = false := by simp; omega
    by_cases h1 : j ≤ u
    · have : has f u v c W j = false := by simp [has, Nat.not_lt.2 h1]
      rw [this]
      rw [decide_eq_true h1] at H1
      clear H2
      go_enter Tryz.func88, Tryz.ntmps88
      go_wp2_with fail
      refine H1.out.mono ?_
      rintro e w1 ⟨rfl, rfl⟩
      go_wp2_with fail
      go_ret
      exact ⟨rfl, rfl⟩
    · rw [decide_eq_false h1] at H1
      by_cases h2 : v < j
      · have : has f u v c W j = false := by simp [has, Nat.not_le.2 h2]
        rw [this]
        rw [decide_eq_true h2] at H2
        go_enter Tryz.func88, Tryz.ntmps88
        go_wp2_with fail
        refine H1.out.mono ?_
        rintro e w1 ⟨rfl, rfl⟩
        go_wp2_with fail
        refine H2.out.mono ?_
        rintro e w1 ⟨rfl, rfl⟩
        go_wp2_with fail
        go_ret
        exact ⟨rfl, rfl⟩
      · rw [decide_eq_false h2] at H2
        have : has f u v c W j = (W (idx f j)).testBit (off f j) := by simp [has, hc0, Nat.not_le.1 h1, Nat.not_lt.1 h2]
        rw [this]
        go_enter Tryz.func88, Tryz.ntmps88
        go_wp2_with fail
        refine H1.out.mono ?_
        rintro e w1 ⟨rfl, rfl⟩
        go_wp2_with fail
        refine H2.out.mono ?_
        rintro e w1 ⟨rfl, rfl⟩
        go_wp2_with fail
        go_ret
        exact ⟨by rw [HI.out, bit_test HW.out ho2]; rfl, rfl⟩
end Go.Proofs.Base
end
section
namespace Go.Proofs.Base
open Go Go.Proofs Go.RowKit Go.Proofs.Gaps
set_option maxRecDepth 100000
theorem bit_set {x o : Nat} (hx : x < 2 ^ 64) (ho : o < 64) : bits BinOp.or IntKind.u64 (x : Int) (IntKind.u64.wrap ((2 : Int) ^ o)) = ((x ||| 2 ^ o : Nat) : Int) := by
  rw [wrap_pow ho, bits_or_u64_nat x (2 ^ o) hx (Nat.pow_lt_pow_right (by omega) ho)]
set_option maxHeartbeats 4000000 in
/-- push of a number that is not there yet. -/
theorem pushNew (p bm f u v c j : Nat) (W : Nat → Nat) (dv : Value) (w : World) (h : QAt w p bm f u v c W dv) (hu : u < 1000) (hv : v < 1000) (hj : j < 1000) (hc : c < 1000) (hW : ∀ k, k < 625 → W k < 2 ^ 64) (huj : u < j) (hno : has f u v c W j = false) :
    Calls Tryz.prog 54 #[.pointer (some ⟨p, 0, none⟩), .int .u32 (tsn f j : Nat)] w fun e w' => e = .returned (.bool true) ∧
      QAt w' p bm f u (if v < j then j else v) (c + 1) (fun k => if k = idx f j then W k ||| 2 ^ off f j else W k) dv ∧ Kept [p, bm] w w' := by
  have hne := h.ne
  have c0 : w.cell? ⟨p, 0, none⟩ = some (.int .u32 (tsn f v : Nat)) := blk_cell h.q rfl
  have c1 : w.cell? ⟨p, 1, none⟩ = some (.int .i64 (c : Nat)) := blk_cell h.q rfl
  have c2 : w.cell? ⟨p, 2, none⟩ = some (.slice (some ⟨bm, 0, none⟩) 625 625) := blk_cell h.q rfl
  have c4 : w.cell? ⟨p, 4, none⟩ = some (.int .u32 40000) := blk_cell h.q rfl
  have c5 : w.cell? ⟨p, 5, none⟩ = some (.int .u32 (tsn f u : Nat)) := blk_cell h.q rfl
  have lp := blk_lt h.q
  have lb := blk_lt h.m
  have f0 : ∀ i, w.frozen? ⟨p, i, none⟩ = false := fun i => blk_free h.q
  have m0 : w.cell? ⟨bm, idx f j, none⟩ = some (.int .u64 (W (idx f j) : Nat)) := blk_cell h.m (wa_get (idx_lt f j))
  have fm : w.frozen? ⟨bm, idx f j, none⟩ = false := blk_free h.m
  have hx := tsn_lt f j
  have hi0 : tsn f j / 64 % 4294967296 % 625 = idx f j := by unfold idx; omega
  rw [← hi0] at m0 fm
  have HI := hid hi0
  have HB := hid (bit_set (hW (idx f j) (idx_lt f j)) (off_lt f j))
  have H0 := hid (fun wx : World => sna32GT f j (u + 40000) wx (by omega) (by omega))
  rw [decide_eq_false (by omega)] at H0
  have H1 := hid (fun wx : World => sna32LTE f j u wx (by omega) (by omega))
  have H2 := hid (fun (wx : World) (hx : QAt wx p bm f u v c W dv) => hasChunk p bm f u v c j W dv wx hx hu hv hj hc hW)
  have e4 : IntKind.u32.wrap ((tsn f u : Int) + 40000) = ((tsn f (u + 40000) : Nat) : Int) := by
    rw [IntKind.wrap_u32]
    unfold tsn; omega
  have ho1 : (tsn f j : Int) % 64 = ((off f j : Nat) : Int) := by unfold off; omega
  have ho2 := off_lt f j
  rw [decide_eq_false (by omega)] at H1
  rw [hno] at H2
  have H := hid h
  clear h hi0 hx hW hno
  go_enter Tryz.func54, Tryz.ntmps54
  go_wp2_with fail
  go_region_held3 (fun w' => w'.cell? ⟨p, 5, none⟩ = some (.int .u32 (tsn f u : Nat)) ∧ w'.cell? ⟨p, 4, none⟩ = some (.int .u32 40000)) (go_keep) ((go_at_call 44; refine (H0.out _).mono ?_; rintro e wc ⟨rfl, rfl⟩))
  have hkd : Kept [p, bm] w w.drew := (Kept.refl [p, bm] w).drew
  have hQd : QAt w.drew p bm f u v c W dv := ⟨H.out.q, H.out.m⟩
  generalize w.drew = w1 at *
  have c0 : w1.cell? ⟨p, 0, none⟩ = some (.int .u32 (tsn f v : Nat)) := blk_cell hQd.q rfl
  have c1 : w1.cell? ⟨p, 1, none⟩ = some (.int .i64 (c : Nat)) := blk_cell hQd.q rfl
  have c2 : w1.cell? ⟨p, 2, none⟩ = some (.slice (some ⟨bm, 0, none⟩) 625 625) := blk_cell hQd.q rfl
  have c5 : w1.cell? ⟨p, 5, none⟩ = some (.int .u32 (tsn f u : Nat)) := blk_cell hQd.q rfl
  have lp1 := blk_lt hQd.q
  have lb1 := blk_lt hQd.m
  have g0 : ∀ i, w1.frozen? ⟨p, i, none⟩ = false := fun i => blk_free hQd.q
  have m1 : w1.cell? ⟨bm, tsn f j / 64 % 4294967296 % 625, none⟩ = some (.int .u64 (W (tsn f j / 64 % 4294967296 % 625) : Nat)) := by rw [HI.out]; exact blk_cell hQd.m (wa_get (idx_lt f j))
  have gm : w1.frozen? ⟨bm, tsn f j / 64 % 4294967296 % 625, none⟩ = false := blk_free hQd.m
  have HQ := hid hQd; have HK := hid hkd
  have H2' := hid (H2.out w1 hQd)
  clear hkd hQd H2
  go_wp2_with fail
  refine (H1.out w1).mono ?_
  rintro e w' ⟨rfl, rfl⟩
  go_wp2_with fail
  refine H2'.out.mono ?_
  rintro e w' ⟨rfl, rfl⟩
  go_wp2_with fail
  generalize hW2 : World.setCell _ _ _ = w2
  have hQ2 : QAt w2 p bm f u v (c + 1) (fun k => if k = idx f j then W k ||| 2 ^ off f j else W k) dv := by
    rw [← hW2, HI.out, HB.out]
    refine ⟨?_, ?_⟩
    · rw [blk_setCell _ ((blk_setCell_ne _ (by exact hne)).trans HQ.out.q)]; rfl
    · rw [blk_setCell_ne _ (by exact hne.symm), blk_setCell _ HQ.out.m, wa_set]
      have e : (fun k => if k = idx f j then W (idx f j) ||| 2 ^ off f j else W k) = (fun k => if k = idx f j then W k ||| 2 ^ off f j else W k) := by
        funext k
        by_cases hk : k = idx f j
        · subst hk; rfl
        · simp [hk]
      rw [e]
  have hk2 : Kept [p, bm] w w2 := by
    rw [← hW2]
    exact (HK.out.setCell (p := ⟨bm, tsn f j / 64 % 4294967296 % 625, none⟩) _ (.inl (by simp))).setCell (p := ⟨p, 1, none⟩) _ (.inl (by simp))
  clear hW2
  have HQ2 := hid hQ2; have HK2 := hid hk2
  have H3 := hid (sna32GT f j v w2 (by omega) (by omega))
  have k0 : w2.cell? ⟨p, 0, none⟩ = some (.int .u32 (tsn f v : Nat)) := blk_cell hQ2.q rfl
  have k1 : w2.frozen? ⟨p, 0, none⟩ = false := blk_free hQ2.q
  have lp2 := blk_lt hQ2.q
  clear hQ2 hk2
  by_cases hvj : v < j
  · rw [decide_eq_true hvj] at H3
    refine H3.out.mono ?_
    rintro e w3 ⟨rfl, rfl⟩
    go_wp2_with fail
    go_ret
    (try rw [if_pos hvj])
    refine ⟨rfl, ⟨?_, ?_⟩, HK2.out.setCell _ (.inl (by simp))⟩
    · rw [blk_setCell _ HQ2.out.q]; rfl
    · rw [blk_setCell_ne _ (by exact hne.symm)]; exact HQ2.out.m
  · rw [decide_eq_false hvj] at H3
    refine H3.out.mono ?_
    rintro e w3 ⟨rfl, rfl⟩
    go_wp2_with fail
    go_ret
    (try rw [if_neg hvj])
    exact ⟨rfl, HQ2.out, HK2.out⟩
end Go.Proofs.Base
end
section
namespace Go.Proofs.Base
open Go Go.Proofs Go.RowKit Go.Proofs.Gaps
set_option maxRecDepth 100000
set_option maxHeartbeats 4000000 in
/-- push of a number that is there already: it is noted as a double. -/
theorem pushOld (p bm f u v c j base : Nat) (W : Nat → Nat) (dv : Value) (ds : List Nat) (w : World) (h : QAt w p bm f u v c W dv) (hd : w.ownsRow base 22 1 dv ds.length (u32s ds)) (hbase : base ≤ w.heap.size) (hds : ds.length < 100000) (hu : u < 1000) (hv : v < 1000) (hj : j < 1000) (hc : c < 1000) (hW : ∀ k, k < 625 → W k < 2 ^ 64)
    (hold : j ≤ u ∨ has f u v c W j = true) :
    Calls Tryz.prog 54 #[.pointer (some ⟨p, 0, none⟩), .int .u32 (tsn f j : Nat)] w fun e w' => e = .returned (.bool false) ∧
      ∃ dv', QAt w' p bm f u v c W dv' ∧ w'.ownsRow base 22 1 dv' (ds.length + 1) (u32s (ds ++ [tsn f j])) ∧ Kept (p :: own dv) w w' := by
  have hne := h.ne
  have c0 : w.cell? ⟨p, 0, none⟩ = some (.int .u32 (tsn f v : Nat)) := blk_cell h.q rfl
  have c4 : w.cell? ⟨p, 4, none⟩ = some (.int .u32 40000) := blk_cell h.q rfl
  have c5 : w.cell? ⟨p, 5, none⟩ = some (.int .u32 (tsn f u : Nat)) := blk_cell h.q rfl
  have lp := blk_lt h.q
  have lb := blk_lt h.m
  have H0 := hid (fun wx : World => sna32GT f j (u + 40000) wx (by omega) (by omega))
  rw [decide_eq_false (by omega)] at H0
  have H1 := hid (fun wx : World => sna32LTE f j u wx (by omega) (by omega))
  have H2 := hid (fun (wx : World) (hx : QAt wx p bm f u v c W dv) => hasChunk p bm f u v c j W dv wx hx hu hv hj hc hW)
  have e4 : IntKind.u32.wrap ((tsn f u : Int) + 40000) = ((tsn f (u + 40000) : Nat) : Int) := by
    rw [IntKind.wrap_u32]
    unfold tsn; omega
  have H := hid h; have HD := hid hd
  have HOLD := hid hold
  clear h hW hd hold
  go_enter Tryz.func54, Tryz.ntmps54
  go_wp2_with fail
  go_region_held3 (fun w' => w'.cell? ⟨p, 5, none⟩ = some (.int .u32 (tsn f u : Nat)) ∧ w'.cell? ⟨p, 4, none⟩ = some (.int .u32 40000)) (go_keep) ((go_at_call 44; refine (H0.out _).mono ?_; rintro e wc ⟨rfl, rfl⟩))
  have hkd : Kept [] w w.drew := (Kept.refl [] w).drew
  have hQd : QAt w.drew p bm f u v c W dv := ⟨H.out.q, H.out.m⟩
  have hDd := ownsRow_kept HD.out hkd (by simp)
  generalize w.drew = w1 at *
  have c3 : w1.cell? ⟨p, 3, none⟩ = some dv := blk_cell hQd.q rfl
  have c51 : w1.cell? ⟨p, 5, none⟩ = some (.int .u32 (tsn f u : Nat)) := blk_cell hQd.q rfl
  have lp1 := blk_lt hQd.q
  have hkd2 : Kept [] w1 (w1.alloc (.cells #[.int .u32 (tsn f j : Nat)] 22)) := (Kept.refl [] w1).alloc _
  obtain ⟨g4, cap4, w4, hr4, ho4, hgr4⟩ := appendOwnOne 35 22 1 4 ds.length w1.heap.size 1 35 base (.int .u32 0) dv (u32s ds) #[.int .u32 (tsn f j : Nat)] (w1.alloc (.cells #[.int .u32 (tsn f j : Nat)] 22)) Tryz.underlying35 i22 rfl (by omega) (by omega) (by omega) (ownsRow_kept hDd hkd2 (by simp)) (Nat.le_trans hbase (hkd.trans hkd2).size) rfl (by intro u hu; simp at hu; subst hu; rfl) (blk_new w1 _)
  have hgk4 : Kept (own dv) (w1.alloc (.cells #[.int .u32 (tsn f j : Nat)] 22)) w4 := grown_kept hgr4 (by intro k hk; rw [own_mem]; exact hk)
  have hk14 : Kept (own dv) w1 w4 := (hkd2.more (by simp)).trans hgk4
  have hp4 : p ∉ own dv := own_far hDd hQd.q (by decide)
  have hb4 : bm ∉ own dv := own_far hDd hQd.m (by decide)
  have hQ4 := hQd.kept hk14 hp4 hb4
  have c43 : w4.cell? ⟨p, 3, none⟩ = some dv := blk_cell hQ4.q rfl
  have f43 : w4.frozen? ⟨p, 3, none⟩ = false := blk_free hQ4.q
  have lp4 := blk_lt hQ4.q
  have HFin : Hid (∃ dv', QAt (w4.setCell ⟨p, 3, none⟩ (.slice (some ⟨g4, 0, none⟩) (ds.length + 1) cap4)) p bm f u v c W dv' ∧ (w4.setCell ⟨p, 3, none⟩ (.slice (some ⟨g4, 0, none⟩) (ds.length + 1) cap4)).ownsRow base 22 1 dv' (ds.length + 1) (u32s (ds ++ [tsn f j])) ∧ Kept (p :: own dv) w (w4.setCell ⟨p, 3, none⟩ (.slice (some ⟨g4, 0, none⟩) (ds.length + 1) cap4))) := by
    refine ⟨.slice (some ⟨g4, 0, none⟩) (ds.length + 1) cap4, ⟨?_, ?_⟩, ?_, ?_⟩
    · rw [blk_setCell _ hQ4.q]; rfl
    · rw [blk_setCell_ne _ (by exact hne.symm)]; exact hQ4.m
    · rw [u32s_snoc]
      exact ownsRow_kept ho4 ((Kept.refl [p] w4).setCell _ (.inl (by simp))) (by intro g hg; simp; intro e; subst e; exact own_far ho4 hQ4.q (by decide) (own_mem.2 hg))
    · exact ((hkd.more (by simp)).trans (hk14.more (by intro r hr; left; simp [hr]))).setCell _ (.inl (by simp))
  have HQd := hid hQd
  have H2' := hid (H2.out w1 hQd)
  clear H2 hkd hQd hDd hkd2 ho4 hgr4 hgk4 hk14 hQ4 hp4 hb4
  rcases HOLD.out with hju | hhas
  · rw [show decide (j ≤ u) = true from decide_eq_true hju] at H1
    clear H2' HOLD
    go_wp2_with fail
    refine (H1.out w1).mono ?_
    rintro e w' ⟨rfl, rfl⟩
    go_wp2_with (at_builtin; refine wpList_append_run rfl _ _ 35 rfl _ _ _ rfl rfl hr4 ?_)
    go_ret
    exact ⟨rfl, HFin.out⟩
  · rw [hhas] at H2'
    by_cases hju : j ≤ u
    · rw [show decide (j ≤ u) = true from decide_eq_true hju] at H1
      clear H2' HOLD
      go_wp2_with fail
      refine (H1.out w1).mono ?_
      rintro e w' ⟨rfl, rfl⟩
      go_wp2_with (at_builtin; refine wpList_append_run rfl _ _ 35 rfl _ _ _ rfl rfl hr4 ?_)
      go_ret
      exact ⟨rfl, HFin.out⟩
    · rw [show decide (j ≤ u) = false from decide_eq_false hju] at H1
      clear HOLD
      go_wp2_with fail
      refine (H1.out w1).mono ?_
      rintro e w' ⟨rfl, rfl⟩
      go_wp2_with fail
      refine H2'.out.mono ?_
      rintro e w' ⟨rfl, rfl⟩
      go_wp2_with (at_builtin; refine wpList_append_run rfl _ _ 35 rfl _ _ _ rfl rfl hr4 ?_)
      go_ret
      exact ⟨rfl, HFin.out⟩
end Go.Proofs.Base
end
section
namespace Go.Proofs.Base
open Go Go.Proofs Go.RowKit Go.Proofs.Gaps
set_option maxRecDepth 100000
set_option maxHeartbeats 4000000 in
theorem popNo (p bm f u v c : Nat) (W : Nat → Nat) (dv : Value) (w : World) (h : QAt w p bm f u v c W dv) (hu : u < 900) (hv : v < 1000) (hc : c < 1000) (hW : ∀ k, k < 625 → W k < 2 ^ 64) (hno : has f u v c W (u + 1) = false) :
    Calls Tryz.prog 55 #[.pointer (some ⟨p, 0, none⟩), .bool false] w fun e w' => e = .returned (.bool false) ∧ w' = w := by
  have c5 : w.cell? ⟨p, 5, none⟩ = some (.int .u32 (tsn f u : Nat)) := blk_cell h.q rfl
  have lp := blk_lt h.q
  have H2 := hasChunk p bm f u v c (u + 1) W dv w h (by omega) hv (by omega) hc hW
  rw [hno] at H2
  have e1 : IntKind.u32.wrap ((tsn f u : Int) + 1) = ((tsn f (u + 1) : Nat) : Int) := by
    rw [IntKind.wrap_u32]
    unfold tsn; omega
  have H2' := hid H2
  clear h hW hno H2
  go_enter Tryz.func55, Tryz.ntmps55
  go_wp2_with fail
  refine H2'.out.mono ?_
  rintro e w' ⟨rfl, rfl⟩
  go_wp2_with fail
  go_ret
  exact ⟨rfl, rfl⟩
theorem bit_off {x o : Nat} (hx : x < 2 ^ 64) (ho : o < 64) : bits BinOp.and IntKind.u64 (x : Int) (bits BinOp.xor IntKind.u64 (if IntKind.u64.signed = true then -1 else IntKind.u64.max) (IntKind.u64.wrap ((2 : Int) ^ o))) = ((x &&& flip (2 ^ o) : Nat) : Int) := by
  rw [show (if IntKind.u64.signed = true then (-1 : Int) else IntKind.u64.max) = IntKind.u64.max from rfl, wrap_pow ho, u64_flip _ (Nat.pow_lt_pow_right (by omega) ho), bits_and_u64_nat x _ hx (flip_lt _)]
set_option maxHeartbeats 4000000 in
theorem popYes (p bm f u v c : Nat) (W : Nat → Nat) (dv : Value) (w : World) (h : QAt w p bm f u v c W dv) (hu : u < 900) (hv : v < 1000) (hc : c < 1000) (hW : ∀ k, k < 625 → W k < 2 ^ 64) (hno : has f u v c W (u + 1) = true) :
    Calls Tryz.prog 55 #[.pointer (some ⟨p, 0, none⟩), .bool false] w fun e w' => e = .returned (.bool true) ∧
      QAt w' p bm f (u + 1) v (c - 1) (fun k => if k = idx f (u + 1) then W k &&& flip (2 ^ off f (u + 1)) else W k) dv ∧ Kept [p, bm] w w' := by
  have hne := h.ne
  have hc0 : 1 ≤ c := by
    rcases Nat.eq_zero_or_pos c with h0 | h0
    · subst h0; simp [has] at hno
    · exact h0
  have c1 : w.cell? ⟨p, 1, none⟩ = some (.int .i64 (c : Nat)) := blk_cell h.q rfl
  have c2 : w.cell? ⟨p, 2, none⟩ = some (.slice (some ⟨bm, 0, none⟩) 625 625) := blk_cell h.q rfl
  have c5 : w.cell? ⟨p, 5, none⟩ = some (.int .u32 (tsn f u : Nat)) := blk_cell h.q rfl
  have lp := blk_lt h.q
  have lb := blk_lt h.m
  have f0 : ∀ i, w.frozen? ⟨p, i, none⟩ = false := fun i => blk_free h.q
  have hx := tsn_lt f (u + 1)
  have hi0 : tsn f (u + 1) / 64 % 4294967296 % 625 = idx f (u + 1) := by unfold idx; omega
  have m0 : w.cell? ⟨bm, tsn f (u + 1) / 64 % 4294967296 % 625, none⟩ = some (.int .u64 (W (tsn f (u + 1) / 64 % 4294967296 % 625) : Nat)) := by rw [hi0]; exact blk_cell h.m (wa_get (idx_lt f (u + 1)))
  have fm : w.frozen? ⟨bm, tsn f (u + 1) / 64 % 4294967296 % 625, none⟩ = false := blk_free h.m
  have HI := hid hi0
  have HB := hid (bit_off (hW (idx f (u + 1)) (idx_lt f (u + 1))) (off_lt f (u + 1)))
  have H2 := hasChunk p bm f u v c (u + 1) W dv w h (by omega) hv (by omega) hc hW
  rw [hno] at H2
  have e1 : IntKind.u32.wrap ((tsn f u : Int) + 1) = ((tsn f (u + 1) : Nat) : Int) := by
    rw [IntKind.wrap_u32]
    unfold tsn; omega
  have ho1 : (tsn f (u + 1) : Int) % 64 = ((off f (u + 1) : Nat) : Int) := by unfold off; omega
  have ho2 := off_lt f (u + 1)
  have b1 : (0 : Int) ≤ (tsn f (u + 1) : Int) / 64 % 4294967296 % 625 := by omega
  have b2 : (tsn f (u + 1) : Int) / 64 % 4294967296 % 625 < 625 := by omega
  have t1 : ((tsn f (u + 1) : Int) / 64 % 4294967296 % 625).toNat = tsn f (u + 1) / 64 % 4294967296 % 625 := by
    rw [show ((tsn f (u + 1) : Int) / 64 % 4294967296 % 625) = ((tsn f (u + 1) / 64 % 4294967296 % 625 : Nat) : Int) by omega, Int.toNat_natCast]
  have H2' := hid H2
  have H := hid h
  clear h hW hno H2 hi0 hx
  go_enter Tryz.func55, Tryz.ntmps55
  go_wp2_with fail
  refine H2'.out.mono ?_
  rintro e w' ⟨rfl, rfl⟩
  go_wp2_with fail
  go_region_law (fail)
  generalize hW2 : World.drew _ = w2
  have hQ2 : QAt w2 p bm f u v c (fun k => if k = idx f (u + 1) then W k &&& flip (2 ^ off f (u + 1)) else W k) dv := by
    rw [← hW2, HI.out, HB.out]
    refine ⟨?_, ?_⟩
    · exact (blk_setCell_ne _ (by exact hne)).trans H.out.q
    · refine (blk_setCell _ H.out.m).trans ?_
      rw [wa_set]
      have e : (fun k => if k = idx f (u + 1) then W (idx f (u + 1)) &&& flip (2 ^ off f (u + 1)) else W k) = (fun k => if k = idx f (u + 1) then W k &&& flip (2 ^ off f (u + 1)) else W k) := by
        funext k
        by_cases hk : k = idx f (u + 1)
        · subst hk; rfl
        · simp [hk]
      rw [e]
  have hk2 : Kept [p, bm] w' w2 := by
    rw [← hW2]
    exact ((Kept.refl [p, bm] w').setCell (p := ⟨bm, tsn f (u + 1) / 64 % 4294967296 % 625, none⟩) _ (.inl (by simp))).drew
  clear hW2 m0 fm c1 c2 c5 f0
  have k1 : w2.cell? ⟨p, 1, none⟩ = some (.int .i64 (c : Nat)) := blk_cell hQ2.q rfl
  have k5 : w2.cell? ⟨p, 5, none⟩ = some (.int .u32 (tsn f u : Nat)) := blk_cell hQ2.q rfl
  have kf : ∀ i, w2.frozen? ⟨p, i, none⟩ = false := fun i => blk_free hQ2.q
  have lp2 := blk_lt hQ2.q
  have HQ2 := hid hQ2; have HK2 := hid hk2
  clear hQ2 hk2
  go_wp2_with fail
  go_ret
  refine ⟨rfl, ⟨?_, ?_⟩, (HK2.out.setCell _ (.inl (by simp))).setCell _ (.inl (by simp))⟩
  · rw [blk_setCell _ (blk_setCell _ HQ2.out.q)]
    have e : ((c : Int) - 1) = ((c - 1 : Nat) : Int) := by omega
    rw [e]; rfl
  · rw [blk_setCell_ne _ (by exact hne.symm), blk_setCell_ne _ (by exact hne.symm)]; exact HQ2.out.m
set_option maxHeartbeats 1000000 in
theorem getCum (p bm f u v c : Nat) (W : Nat → Nat) (dv : Value) (w : World) (h : QAt w p bm f u v c W dv) :
    Calls Tryz.prog 56 #[.pointer (some ⟨p, 0, none⟩)] w fun e w' => e = .returned (.int .u32 (tsn f u : Nat)) ∧ w' = w := by
  have c5 : w.cell? ⟨p, 5, none⟩ = some (.int .u32 (tsn f u : Nat)) := blk_cell h.q rfl
  have lp := blk_lt h.q
  clear h
  go_enter Tryz.func56, Tryz.ntmps56
  go_wp2_with fail
  go_ret
  exact ⟨rfl, rfl⟩
set_option maxHeartbeats 1000000 in
theorem popDups (p bm f u v c : Nat) (W : Nat → Nat) (dv : Value) (w : World) (h : QAt w p bm f u v c W dv) :
    Calls Tryz.prog 59 #[.pointer (some ⟨p, 0, none⟩)] w fun e w' => e = .returned dv ∧ Kept [p] w w' := by
  have c3 : w.cell? ⟨p, 3, none⟩ = some dv := blk_cell h.q rfl
  have f3 : w.frozen? ⟨p, 3, none⟩ = false := blk_free h.q
  have lp := blk_lt h.q
  clear h
  go_enter Tryz.func59, Tryz.ntmps59
  go_wp2_with fail
  go_ret
  exact ⟨rfl, by first | exact ((Kept.refl [p] w).alloc _).setCell (p := ⟨p, 3, none⟩) _ (.inl (by simp)) | exact ((Kept.refl [p] w).setCell (p := ⟨p, 3, none⟩) _ (.inl (by simp))).alloc _⟩
end Go.Proofs.Base
end
