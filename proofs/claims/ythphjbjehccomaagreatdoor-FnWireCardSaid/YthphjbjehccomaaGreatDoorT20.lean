/- A part of the proof, step T20: what the code and the plain laws of this step give. Made by AI agents; no person has read it. -/
import Derived.Test.YthphjbjehccomaaGreatDoorT15
import Derived.Test.YthphjbjehccomaaGreatDoorP9
namespace Go.Proofs.Base
open Go Go.Proofs Go.RowKit Go.Proofs.Gaps
set_option maxRecDepth 100000
theorem len_pos_sack (s : Sk) (h : s.ok) : s.len < 12000 := by have := h.few; have := h.fewd; unfold Sk.len; omega
theorem chunky_sack (s : Sk) (h : s.ok) : Chunky (sackBytes s) s.len := by
  have := len_pos_sack s h
  refine ⟨by unfold Sk.len; omega, by omega, ⟨rfl, rfl⟩, ?_, ?_, fun j h1 h2 => ?_⟩
  · rw [len_sackBytes]; omega
  · rw [len_sackBytes]; omega
  · rw [len_sackBytes] at h2; omega
theorem iGapM : (Tryz.prog.info? 151).map (fun i => (i.zero, i.size, i.bytes)) = some (some (.agg #[.int .u16 0, .int .u16 0]), 2, 4) := by kernel_rfl
theorem g16_zero : ∀ n : Nat, g16 (List.replicate n (0, 0)) = List.replicate (n * 2) (Value.int .u16 0)
  | 0 => rfl
  | n + 1 => by
    rw [show (n + 1) * 2 = n * 2 + 1 + 1 by omega, List.replicate_succ, List.replicate_succ, List.replicate_succ, ← g16_zero n]
    rfl
theorem makeG (n : Nat) (hn : n < 65536) (w : World) : (Instr.makeSlice 143 (.int .u16 (n : Int)) (.int .u16 (n : Int))).run Tryz.prog w = .ok (.slice (some ⟨w.heap.size, 0, none⟩) n n) (w.alloc (.cells (g16 (List.replicate n (0, 0))).toArray 151)) := by
  obtain ⟨i, hi, hz, hs, hb⟩ := info_parts iGapM
  have hr := run_make (P := Tryz.prog) w 143 151 i _ Tryz.underlying143 hi hz .u16 .u16 n n (by omega) (Int.le_refl _) (by rw [hb]; omega) (by omega)
  rw [hr, hs]
  simp only [Int.toNat_natCast]
  congr 3
  apply Array.ext'
  rw [List.toList_toArray, g16_zero]
  apply List.ext_getElem?
  intro j
  by_cases hj : j < n * 2
  · have h2 : j % 2 = 0 ∨ j % 2 = 1 := by omega
    rcases h2 with h2 | h2 <;> simp [madeCells, hj, Value.cells, h2]
  · simp [madeCells, hj]
theorem makeD (n : Nat) (hn : n < 65536) (w : World) : (Instr.makeSlice 35 (.int .u16 (n : Int)) (.int .u16 (n : Int))).run Tryz.prog w = .ok (.slice (some ⟨w.heap.size, 0, none⟩) n n) (w.alloc (.cells (u32s (List.replicate n 0)).toArray 22)) := by
  rw [run_make_row' (P := Tryz.prog) 35 22 (.int .u32 0) 4 Tryz.underlying35 i22 rfl .u16 .u16 n (by omega) (by omega) w]
  congr 3
  apply Array.ext'
  rw [toList_madeCells_one]
  simp [u32s]
theorem len_g16 : ∀ L : List (Nat × Nat), (g16 L).length = L.length * 2
  | [] => rfl
  | g :: r => by
    have e : g16 (g :: r) = .int .u16 (g.1 : Nat) :: .int .u16 (g.2 : Nat) :: g16 r := rfl
    rw [e, List.length_cons, List.length_cons, len_g16 r, List.length_cons]
    omega
theorem g16_set1 : ∀ (l : List (Nat × Nat)) (i a : Nat) (h : i < l.length), (g16 l).set (i * 2) (.int .u16 (a : Nat)) = g16 (l.set i (a, (l[i]).2))
  | [], i, a, h => by simp at h
  | g :: r, 0, a, h => rfl
  | g :: r, i + 1, a, h => by
    have h' : i < r.length := by simpa using h
    have e : g16 (g :: r) = .int .u16 (g.1 : Nat) :: .int .u16 (g.2 : Nat) :: g16 r := rfl
    rw [e, show (i + 1) * 2 = i * 2 + 1 + 1 by omega, List.set_cons_succ, List.set_cons_succ, g16_set1 r i a h']
    rfl
theorem g16_set2 : ∀ (l : List (Nat × Nat)) (i b : Nat) (h : i < l.length), (g16 l).set (i * 2 + 1) (.int .u16 (b : Nat)) = g16 (l.set i ((l[i]).1, b))
  | [], i, b, h => by simp at h
  | g :: r, 0, b, h => rfl
  | g :: r, i + 1, b, h => by
    have h' : i < r.length := by simpa using h
    have e : g16 (g :: r) = .int .u16 (g.1 : Nat) :: .int .u16 (g.2 : Nat) :: g16 r := rfl
    rw [e, show (i + 1) * 2 + 1 = i * 2 + 1 + 1 + 1 by omega, List.set_cons_succ, List.set_cons_succ, g16_set2 r i b h']
    rfl
theorem sack_drop (s : Sk) (o : Nat) : (sackBytes s).drop (4 + o) = (sackPay s).drop o := by rw [Nat.add_comm]; rfl
theorem gap_val1 (s : Sk) (i : Nat) (hi : i < s.gaps.length) : be2 (bt ((sackBytes s).drop (4 + (12 + 4 * i))) 0) (bt ((sackBytes s).drop (4 + (12 + 4 * i))) 1) = (s.gaps[i]).1 := by
  rw [sack_drop, pay_gap s i hi]; exact be2_of _
theorem gap_val2 (s : Sk) (i : Nat) (hi : i < s.gaps.length) : be2 (bt ((sackBytes s).drop (4 + (12 + 4 * i + 2))) 0) (bt ((sackBytes s).drop (4 + (12 + 4 * i + 2))) 1) = (s.gaps[i]).2 := by
  rw [sack_drop, ← List.drop_drop, pay_gap s i hi]; exact be2_of _
theorem dup_val (s : Sk) (i : Nat) (hi : i < s.dups.length) : be4 (bt ((sackBytes s).drop (4 + (12 + 4 * s.gaps.length + 4 * i))) 0) (bt ((sackBytes s).drop (4 + (12 + 4 * s.gaps.length + 4 * i))) 1) (bt ((sackBytes s).drop (4 + (12 + 4 * s.gaps.length + 4 * i))) 2) (bt ((sackBytes s).drop (4 + (12 + 4 * s.gaps.length + 4 * i))) 3) = s.dups[i] := by
  rw [sack_drop, pay_dup s i hi]; exact be4_of _
theorem g16_get (L : List (Nat × Nat)) (i : Nat) (h : i < L.length) : (g16 L)[i * 2]? = some (.int .u16 ((L[i]).1 : Nat)) ∧ (g16 L)[i * 2 + 1]? = some (.int .u16 ((L[i]).2 : Nat)) :=
  flat2_get L (fun g => Value.int .u16 (g.1 : Nat)) (fun g => Value.int .u16 (g.2 : Nat)) i h
theorem u32s_set (l : List Nat) (i a : Nat) : (u32s l).set i (.int .u32 (a : Nat)) = u32s (l.set i a) := by simp [u32s, List.map_set]
theorem arr_set1 (L : List (Nat × Nat)) (i a : Nat) (h : i < L.length) : (g16 L).toArray.setIfInBounds (i * 2) (.int .u16 (a : Nat)) = (g16 (L.set i (a, (L[i]).2))).toArray := by
  rw [← g16_set1 L i a h]; simp
theorem arr_set2 (L : List (Nat × Nat)) (i b : Nat) (h : i < L.length) : (g16 L).toArray.setIfInBounds (i * 2 + 1) (.int .u16 (b : Nat)) = (g16 (L.set i ((L[i]).1, b))).toArray := by
  rw [← g16_set2 L i b h]; simp
theorem arr_setD (L : List Nat) (i a : Nat) : (u32s L).toArray.setIfInBounds i (.int .u32 (a : Nat)) = (u32s (L.set i a)).toArray := by
  rw [← u32s_set]; simp
set_option maxHeartbeats 6000000 in
theorem sack_unmarshal (p b off len cap : Nat) (s : Sk) (w : World) (hs : s.ok) (hP : w.heap[p]? = some (.cells (sackC 0 0 (.slice none 0 0) 0 (.slice none 0 0) (.slice none 0 0)) 149 (0, 0)))
    (hl : BytesAt w b off (sackBytes s)) (hlen : len = 4 + s.len) (hcap : len ≤ cap) (hcm : cap ≤ 9223372036854775807) (hbp : b ≠ p) :
    Calls Tryz.prog 61 #[.pointer (some ⟨p, 0, none⟩), .slice (some ⟨b, off, none⟩) len cap] w fun r w' => r = .returned .nilIface ∧ ∃ vg vd,
      w'.heap[p]? = some (.cells (sackC 3 0 (.slice (some ⟨b, off + 4, none⟩) s.len (cap - 4)) s.tsn vg vd) 149 (0, 0)) ∧
      w'.ownsRow w.heap.size 151 2 vg s.gaps.length (g16 s.gaps) ∧ w'.ownsRow w.heap.size 22 1 vd s.dups.length (u32s s.dups) ∧ Kept [p] w w' := by
  have lp := blk_lt hP
  have lb := hl.lt
  have hbp' : b ∉ [p] := by simpa using hbp
  have hsl := len_pos_sack s hs
  have H1 := hid (header_unmarshal p b off len cap s.len (sackBytes s) _ 149 w hP (by decide) hl (by rw [len_sackBytes, hlen]) (chunky_sack s hs) hcap hcm hbp)
  have HLEN := hid hlen
  have h12 : 12 ≤ s.len := by unfold Sk.len; omega
  have hn1 := hs.few; have hn2 := hs.fewd
  have hlv : s.len = 12 + 4 * s.gaps.length + 4 * s.dups.length := rfl
  have HLV := hid hlv
  have hb0 : bt (sackBytes s) 0 = 3 := rfl
  have hb1 : bt (sackBytes s) 1 = 0 := rfl
  have HS := hid hs; have HL := hid hl; have HP := hid hP
  clear hP hlen hlv hs hl
  have hNc : s.len + 4 ≤ cap := by have := HLEN.out; omega
  have HSB := hid (len_sackBytes s)
  generalize s.len = N at *
  go_enter Tryz.func61, Tryz.ntmps61
  go_wp2_with fail
  refine H1.out.mono ?_
  rintro e w1 ⟨rfl, hP1', hk1⟩
  rw [hb0, hb1] at hP1'
  have hP1 : w1.heap[p]? = some (.cells (sackC 3 0 (.slice (some ⟨b, off + 4, none⟩) N (cap - 4)) 0 (.slice none 0 0) (.slice none 0 0)) 149 (0, 0)) := hP1'
  have q0 : w1.cell? ⟨p, 0, none⟩ = some (.int .u8 ((3 : Nat) : Int)) := blk_cell hP1 rfl
  have q2 : w1.cell? ⟨p, 2, none⟩ = some (.slice (some ⟨b, off + 4, none⟩) N (cap - 4)) := blk_cell hP1 rfl
  have HP1 := hid hP1
  have b12 : ¬ ((N : Int) < 12) := by omega
  clear H1 hP1 hP1' hb0 hb1
  go_wp2_with fail
  clear q0 q2 b12
  have r1 : w1.cell? ⟨p, 2, none⟩ = some (.slice (some ⟨b, off + 4, none⟩) N (cap - 4)) := blk_cell HP1.out rfl
  have lp1 := blk_lt HP1.out
  have hl1 := HL.out.kept hk1 hbp'
  have t10 : (0 : Int) ≤ (N : Int) := by omega
  have t11 : ¬ cap - 4 = 0 := by omega
  have t12 : (0 : Int) ≤ ((cap - 4 : Nat) : Int) := by omega
  have HC1 := hid (beU32v b (off + 4) (N) (cap - 4) s.tsn ((sackBytes s).drop (4)) w1.drew (by have h := (hl1.kept ((Kept.refl [] w1).drew) (by simp)).drop 4; rwa [show off + 4 = off + 4 by omega] at h) (by rw [List.length_drop, HSB.out]; omega) (by omega) (by omega) (by exact be4_of _))
  clear hl1
  go_region_held3 (fun w' => w'.cell? ⟨p, 2, none⟩ = some (.slice (some ⟨b, off + 4, none⟩) N (cap - 4)))
    (first | go_keep | exact blk_cell hPc.out rfl | exact blk_cell (blk_setCell _ hPc.out) rfl)
    ((go_at_call 85; refine HC1.out.mono ?_; rintro e wc ⟨rfl, nc, hwc⟩; have hPc0 : wc.heap[p]? = some (.cells (sackC 3 0 (.slice (some ⟨b, off + 4, none⟩) N (cap - 4)) 0 (.slice none 0 0) (.slice none 0 0)) 149 (0, 0)) := hwc ▸ blk_alloc (w := w1.drew) _ HP1.out; have hkc : Kept [p] w wc := hwc ▸ (hk1.drew.alloc _).drewN nc; have ec : wc.cell? ⟨p, 3, none⟩ = some (.int .u32 ((0 : Nat) : Int)) := blk_cell hPc0 rfl; have fc : wc.frozen? ⟨p, 3, none⟩ = false := blk_free hPc0; have hPc := hid hPc0; have lpc := blk_lt hPc0; clear hPc0 hwc))
  generalize hW : World.setCell _ _ _ = w2
  have HP2 : Hid (w2.heap[p]? = some (.cells (sackC 3 0 (.slice (some ⟨b, off + 4, none⟩) N (cap - 4)) s.tsn (.slice none 0 0) (.slice none 0 0)) 149 (0, 0))) := by
    rw [← hW, blk_setCell _ hPc.out]; exact rfl
  have hk2 : Kept [p] w w2 := by rw [← hW]; exact hkc.setCell _ (.inl (by simp))
  clear hW ec fc hPc lpc hkc HC1 r1 HP1 lp1 hk1 t10 t11 t12
  go_wp2_with fail
  have r2 : w2.cell? ⟨p, 2, none⟩ = some (.slice (some ⟨b, off + 4, none⟩) N (cap - 4)) := blk_cell HP2.out rfl
  have lp2 := blk_lt HP2.out
  have hl2 := HL.out.kept hk2 hbp'
  have t20 : (4 : Int) ≤ (N : Int) := by omega
  have t21 : ¬ cap - 4 = 4 := by omega
  have t22 : (4 : Int) ≤ ((cap - 4 : Nat) : Int) := by omega
  have HC2 := hid (beU32v b (off + 4 + 4) (N - 4) (cap - 4 - 4) 0 ((sackBytes s).drop (8)) w2.drew (by have h := (hl2.kept ((Kept.refl [] w2).drew) (by simp)).drop 8; rwa [show off + 8 = off + 4 + 4 by omega] at h) (by rw [List.length_drop, HSB.out]; omega) (by omega) (by omega) (by exact be4_of _))
  clear hl2
  go_region_held3 (fun w' => w'.cell? ⟨p, 2, none⟩ = some (.slice (some ⟨b, off + 4, none⟩) N (cap - 4)))
    (first | go_keep | exact blk_cell hPc.out rfl | exact blk_cell (blk_setCell _ hPc.out) rfl)
    ((go_at_call 85; refine HC2.out.mono ?_; rintro e wc ⟨rfl, nc, hwc⟩; have hPc0 : wc.heap[p]? = some (.cells (sackC 3 0 (.slice (some ⟨b, off + 4, none⟩) N (cap - 4)) s.tsn (.slice none 0 0) (.slice none 0 0)) 149 (0, 0)) := hwc ▸ blk_alloc (w := w2.drew) _ HP2.out; have hkc : Kept [p] w wc := hwc ▸ (hk2.drew.alloc _).drewN nc; have ec : wc.cell? ⟨p, 4, none⟩ = some (.int .u32 0) := blk_cell hPc0 rfl; have fc : wc.frozen? ⟨p, 4, none⟩ = false := blk_free hPc0; have hPc := hid hPc0; have lpc := blk_lt hPc0; clear hPc0 hwc))
  generalize hW : World.setCell _ _ _ = w3
  have HP3 : Hid (w3.heap[p]? = some (.cells (sackC 3 0 (.slice (some ⟨b, off + 4, none⟩) N (cap - 4)) s.tsn (.slice none 0 0) (.slice none 0 0)) 149 (0, 0))) := by
    rw [← hW, blk_setCell _ hPc.out]; exact rfl
  have hk3 : Kept [p] w w3 := by rw [← hW]; exact hkc.setCell _ (.inl (by simp))
  clear hW ec fc hPc lpc hkc HC2 r2 HP2 lp2 hk2 t20 t21 t22
  go_wp2_with fail
  have r3 : w3.cell? ⟨p, 2, none⟩ = some (.slice (some ⟨b, off + 4, none⟩) N (cap - 4)) := blk_cell HP3.out rfl
  have lp3 := blk_lt HP3.out
  have hl3 := HL.out.kept hk3 hbp'
  have t30 : (8 : Int) ≤ (N : Int) := by omega
  have t31 : ¬ cap - 4 = 8 := by omega
  have t32 : (8 : Int) ≤ ((cap - 4 : Nat) : Int) := by omega
  have HC3 := hid (beU16v b (off + 4 + 8) (N - 8) (cap - 4 - 8) s.gaps.length ((sackBytes s).drop (12)) w3.drew (by have h := (hl3.kept ((Kept.refl [] w3).drew) (by simp)).drop 12; rwa [show off + 12 = off + 4 + 8 by omega] at h) (by rw [List.length_drop, HSB.out]; omega) (by omega) (by omega) (by exact be2_of _))
  clear hl3
  have hmk := makeG s.gaps.length (by omega)
  go_region_held3 (fun w' => w'.cell? ⟨p, 2, none⟩ = some (.slice (some ⟨b, off + 4, none⟩) N (cap - 4)))
    (first | go_keep | exact blk_cell hPc.out rfl | exact blk_cell (blk_alloc _ hPc.out) rfl | exact blk_cell (blk_alloc _ (blk_setCell _ hPc.out)) rfl)
    ((go_at_call 86; refine HC3.out.mono ?_; rintro e wc ⟨rfl, nc, hwc⟩; have hPc0 : wc.heap[p]? = some (.cells (sackC 3 0 (.slice (some ⟨b, off + 4, none⟩) N (cap - 4)) s.tsn (.slice none 0 0) (.slice none 0 0)) 149 (0, 0)) := hwc ▸ blk_alloc (w := w3.drew) _ HP3.out; have hkc : Kept [p] w wc := hwc ▸ (hk3.drew.alloc _).drewN nc; have ec : wc.cell? ⟨p, 5, none⟩ = some (.slice none 0 0) := blk_cell hPc0 rfl; have fc : wc.frozen? ⟨p, 5, none⟩ = false := blk_free hPc0; have hPc := hid hPc0; have lpc := blk_lt hPc0; clear hPc0 hwc))
  generalize hW : World.alloc _ _ = w4
  generalize hGe : wc.heap.size = G at *
  have hsz : (wc.setCell ⟨p, 5, none⟩ (.slice (some ⟨G, 0, none⟩) s.gaps.length s.gaps.length)).heap.size = G := by simpa [World.setCell] using hGe
  have hGG : w4.heap[G]? = some (.cells (g16 (List.replicate s.gaps.length (0, 0))).toArray 151 (0, 0)) := by
    rw [← hW]; have h := blk_new (wc.setCell ⟨p, 5, none⟩ (.slice (some ⟨G, 0, none⟩) s.gaps.length s.gaps.length)) (.cells (g16 (List.replicate s.gaps.length (0, 0))).toArray 151); rw [hsz] at h; exact h
  have HP4 : Hid (w4.heap[p]? = some (.cells (sackC 3 0 (.slice (some ⟨b, off + 4, none⟩) N (cap - 4)) s.tsn (.slice (some ⟨G, 0, none⟩) s.gaps.length s.gaps.length) (.slice none 0 0)) 149 (0, 0))) := by
    rw [← hW]; exact blk_alloc _ (by rw [blk_setCell _ hPc.out]; exact rfl)
  have hk4 : Kept [p] w w4 := by rw [← hW]; exact (hkc.setCell _ (.inl (by simp))).alloc _
  have hGw : w.heap.size ≤ G := by have := hkc.size; omega
  have HGG := hid hGG
  clear hW ec fc hPc lpc hkc HC3 r3 HP3 lp3 hk3 t30 t31 t32 hmk hGe hsz hGG
  go_wp2_with fail
  have r4 : w4.cell? ⟨p, 2, none⟩ = some (.slice (some ⟨b, off + 4, none⟩) N (cap - 4)) := blk_cell HP4.out rfl
  have lp4 := blk_lt HP4.out
  have hl4 := HL.out.kept hk4 hbp'
  have t40 : (10 : Int) ≤ (N : Int) := by omega
  have t41 : ¬ cap - 4 = 10 := by omega
  have t42 : (10 : Int) ≤ ((cap - 4 : Nat) : Int) := by omega
  have HC4 := hid (beU16v b (off + 4 + 10) (N - 10) (cap - 4 - 10) s.dups.length ((sackBytes s).drop (14)) w4.drew (by have h := (hl4.kept ((Kept.refl [] w4).drew) (by simp)).drop 14; rwa [show off + 14 = off + 4 + 10 by omega] at h) (by rw [List.length_drop, HSB.out]; omega) (by omega) (by omega) (by exact be2_of _))
  clear hl4
  have hmk := makeD s.dups.length (by omega)
  go_region_held3 (fun w' => w'.cell? ⟨p, 2, none⟩ = some (.slice (some ⟨b, off + 4, none⟩) N (cap - 4)))
    (first | go_keep | exact blk_cell hPc.out rfl | exact blk_cell (blk_alloc _ hPc.out) rfl | exact blk_cell (blk_alloc _ (blk_setCell _ hPc.out)) rfl)
    ((go_at_call 86; refine HC4.out.mono ?_; rintro e wc ⟨rfl, nc, hwc⟩; have hPc0 : wc.heap[p]? = some (.cells (sackC 3 0 (.slice (some ⟨b, off + 4, none⟩) N (cap - 4)) s.tsn (.slice (some ⟨G, 0, none⟩) s.gaps.length s.gaps.length) (.slice none 0 0)) 149 (0, 0)) := hwc ▸ blk_alloc (w := w4.drew) _ HP4.out; have hkx : Kept [] w4 wc := hwc ▸ ((Kept.refl [] w4).drew.alloc _).drewN nc; have ec : wc.cell? ⟨p, 6, none⟩ = some (.slice none 0 0) := blk_cell hPc0 rfl; have fc : wc.frozen? ⟨p, 6, none⟩ = false := blk_free hPc0; have hPc := hid hPc0; have lpc := blk_lt hPc0; clear hPc0 hwc))
  generalize hW : World.alloc _ _ = w5
  have hGlt := blk_lt HGG.out
  have hGc := (hkx.block G hGlt (by simp)).trans HGG.out
  have hGp : G ≠ p := by omega
  have hGD : G < wc.heap.size := blk_lt hGc
  generalize hDe : wc.heap.size = D at *
  have hsz : (wc.setCell ⟨p, 6, none⟩ (.slice (some ⟨D, 0, none⟩) s.dups.length s.dups.length)).heap.size = D := by simpa [World.setCell] using hDe
  have hDD : w5.heap[D]? = some (.cells (u32s (List.replicate s.dups.length 0)).toArray 22 (0, 0)) := by
    rw [← hW]; have h := blk_new (wc.setCell ⟨p, 6, none⟩ (.slice (some ⟨D, 0, none⟩) s.dups.length s.dups.length)) (.cells (u32s (List.replicate s.dups.length 0)).toArray 22); rw [hsz] at h; exact h
  have hGG5 : w5.heap[G]? = some (.cells (g16 (List.replicate s.gaps.length (0, 0))).toArray 151 (0, 0)) := by
    rw [← hW]; exact blk_alloc _ (by rw [blk_setCell_ne _ hGp]; exact hGc)
  have hPP5 : w5.heap[p]? = some (.cells (sackC 3 0 (.slice (some ⟨b, off + 4, none⟩) N (cap - 4)) s.tsn (.slice (some ⟨G, 0, none⟩) s.gaps.length s.gaps.length) (.slice (some ⟨D, 0, none⟩) s.dups.length s.dups.length)) 149 (0, 0)) := by
    rw [← hW]; exact blk_alloc _ (by rw [blk_setCell _ hPc.out]; exact rfl)
  have hk5 : Kept [p] w w5 := by rw [← hW]; exact (((hk4.trans (hkx.more (by simp))).setCell _ (.inl (by simp))).alloc _)
  have HDD := hid hDD; have HGG5 := hid hGG5; have HPP5 := hid hPP5
  have p5 : w5.cell? ⟨p, 2, none⟩ = some (.slice (some ⟨b, off + 4, none⟩) N (cap - 4)) := blk_cell hPP5 rfl
  have p6 : w5.cell? ⟨p, 5, none⟩ = some (.slice (some ⟨G, 0, none⟩) s.gaps.length s.gaps.length) := blk_cell hPP5 rfl
  have p7 : w5.cell? ⟨p, 6, none⟩ = some (.slice (some ⟨D, 0, none⟩) s.dups.length s.dups.length) := blk_cell hPP5 rfl
  have lP5 := blk_lt hPP5
  have hsum : (N : Int) = 12 + (4 * (s.gaps.length : Int) + 4 * (s.dups.length : Int)) := by have := HLV.out; omega
  have HK5 := hid hk5
  clear hW ec fc hPc lpc hkx HC4 r4 HP4 lp4 hk4 t40 t41 t42 hmk hDe hsz hDD hGG5 hPP5 hGc HGG hGlt hk5
  go_wp2_with fail
  go_quiet (fail)
  go_wp2_with fail
  generalize hW : w5.drewN _ = w6
  have hk56 : Kept [] w5 w6 := by rw [← hW]; exact (Kept.refl [] w5).drewN _
  have HDD6 := hid ((hk56.block D (blk_lt HDD.out) (by simp)).trans HDD.out)
  have HGG6 := hid ((hk56.block G (blk_lt HGG5.out) (by simp)).trans HGG5.out)
  have HPP6 := hid ((hk56.block p (blk_lt HPP5.out) (by simp)).trans HPP5.out)
  have HK6 := hid (HK5.out.trans (hk56.more (by simp)))
  have lP6 := blk_lt HPP6.out
  have lG6 := blk_lt HGG6.out
  clear hW hk56 HDD HGG5 HPP5 HK5 p5 p6 p7 lP5 hsum
  have K6 := hid (Kept.refl [G] w6)
  go_loopw [6, 105] (fun s6 s105 wx => ∃ (i o : Nat) (L : List (Nat × Nat)), i ≤ s.gaps.length ∧ o = 12 + 4 * i ∧ s6 = .int .i64 o ∧ s105 = .int .i64 i ∧ L.length = s.gaps.length ∧ Hid (∀ j, j < i → L[j]? = s.gaps[j]?) ∧ Hid (wx.heap[G]? = some (.cells (g16 L).toArray 151 (0, 0))) ∧ Hid (Kept [G] w6 wx)) (fun _ s105 _ => s.gaps.length - (intOf s105).toNat)
  case atStart => exact ⟨0, 12, _, by omega, rfl, rfl, rfl, by simp, hid (by intro j hj; omega), HGG6, K6⟩
  case round =>
    obtain ⟨i, o, L, hi, ho, rfl, rfl, hLl, HLj, HG, HK⟩ := hrel
    have hPr := (HK.out.block p lP6 (by simp; omega)).trans HPP6.out
    have lPr := blk_lt hPr
    have lGr := blk_lt HG.out
    by_cases hlt : i < s.gaps.length
    · have hlt' : (i : Int) < (s.gaps.length : Int) := by omega
      have h0' : (0 : Int) ≤ (i : Int) := by omega
      have hoN : o + 4 ≤ N := by have := HLV.out; omega
      have u5 : wr.cell? ⟨p, 5, none⟩ = some (.slice (some ⟨G, 0, none⟩) s.gaps.length s.gaps.length) := blk_cell hPr rfl
      have u2 : wr.cell? ⟨p, 2, none⟩ = some (.slice (some ⟨b, off + 4, none⟩) N (cap - 4)) := blk_cell hPr rfl
      have hkr := HK6.out.thenNew HK.out (by intro r hr; simp at hr; subst hr; right; exact hGw)
      have hlr := HL.out.kept hkr hbp'
      have y0 : (0 : Int) ≤ (o : Int) := by omega
      have y1 : (o : Int) ≤ (N : Int) := by omega
      have y2 : ¬ cap - 4 = o := by omega
      have y3 : (o : Int) ≤ ((cap - 4 : Nat) : Int) := by omega
      have hv1 := gap_val1 s i hlt
      have hv2 := gap_val2 s i hlt
      rw [← ho] at hv1 hv2
      have HA := hid (beU16v b (off + 4 + o) (N - o) (cap - 4 - o) (s.gaps[i]).1 ((sackBytes s).drop (4 + o)) wr.drew (by have h := (hlr.kept ((Kept.refl [] wr).drew) (by simp)).drop (4 + o); rwa [show off + (4 + o) = off + 4 + o by omega] at h) (by rw [List.length_drop, HSB.out]; omega) (by omega) (by omega) hv1)
      have HPr := hid hPr
      have hLi : i < L.length := by omega
      have HG2 := hid (arr_set1 L i (s.gaps[i]).1 hLi)
      have hgg := g16_get L i hLi
      have HV2 := hid hv2; have HO := hid ho; have HLL := hid hLl; have HGET := hid hgg
      clear hPr hlr hkr hv1 hv2 ho hLl hgg
      go_wp2_with fail
      go_region_held3 (fun w' => w'.cell? ⟨p, 2, none⟩ = some (.slice (some ⟨b, off + 4, none⟩) N (cap - 4)) ∧ w'.cell? ⟨p, 5, none⟩ = some (.slice (some ⟨G, 0, none⟩) s.gaps.length s.gaps.length))
        (first | go_keep | exact ⟨blk_cell hPc.out rfl, blk_cell hPc.out rfl⟩ | exact ⟨blk_cell hPd.out rfl, blk_cell hPd.out rfl⟩)
        ((go_at_call 86; refine HA.out.mono ?_; rintro e wc ⟨rfl, nc, hwc⟩; have hkx : Kept [] wr wc := hwc ▸ ((Kept.refl [] wr).drew.alloc _).drewN nc; have hPc := hid ((hkx.block p lPr (by simp)).trans HPr.out); have hGc := (hkx.block G lGr (by simp)).trans HG.out; have ec : wc.cell? ⟨G, i * 2, none⟩ = some (.int .u16 ((L[i]).1 : Nat)) := blk_cell hGc (by simpa using HGET.out.1); have fc : wc.frozen? ⟨G, i * 2, none⟩ = false := blk_free hGc; have lGc := blk_lt hGc; have lPc := blk_lt hPc.out; have hPd := hid ((blk_setCell_ne (p := ⟨G, i * 2, none⟩) (.int .u16 ((s.gaps[i]).1 : Nat)) (show p ≠ G by omega)).trans hPc.out); have HGc := hid hGc; clear hwc hGc))
      generalize hW : World.setCell _ _ _ = wd
      have hGd : wd.heap[G]? = some (.cells (g16 (L.set i ((s.gaps[i]).1, (L[i]).2))).toArray 151 (0, 0)) := by rw [← hW]; exact (blk_setCell _ HGc.out).trans (by rw [HG2.out])
      have hPD : wd.heap[p]? = some (.cells (sackC 3 0 (.slice (some ⟨b, off + 4, none⟩) N (cap - 4)) s.tsn (.slice (some ⟨G, 0, none⟩) s.gaps.length s.gaps.length) (.slice (some ⟨D, 0, none⟩) s.dups.length s.dups.length)) 149 (0, 0)) := by rw [← hW]; exact hPd.out
      have hKd : Kept [G] w6 wd := by rw [← hW]; exact (HK.out.trans (hkx.more (by simp))).setCell _ (.inl (by simp))
      clear hW ec fc HGc hPd hPc lPc lGc hkx HA u5 u2 y1 y2 y3 HPr
      have hLl1 : (L.set i ((s.gaps[i]).1, (L[i]).2)).length = s.gaps.length := by rw [List.length_set]; exact HLL.out
      have hL1i : (L.set i ((s.gaps[i]).1, (L[i]).2))[i]? = some ((s.gaps[i]).1, (L[i]).2) := by simp [hLi]
      have hL1j : ∀ j, j < i → (L.set i ((s.gaps[i]).1, (L[i]).2))[j]? = s.gaps[j]? := by intro j hj; rw [List.getElem?_set_ne (by omega)]; exact HLj.out j hj
      generalize (L.set i ((s.gaps[i]).1, (L[i]).2)) = L1 at *
      have HGD := hid hGd; have HPD := hid hPD; have HKD := hid hKd; have HL1 := hid hLl1; have HL1J := hid hL1j
      have hL1lt : i < L1.length := by omega
      have HL1I := hid (show L1[i].1 = (s.gaps[i]).1 by rw [List.getElem?_eq_getElem hL1lt] at hL1i; simp only [Option.some.injEq] at hL1i; rw [hL1i])
      have v5 : wd.cell? ⟨p, 5, none⟩ = some (.slice (some ⟨G, 0, none⟩) s.gaps.length s.gaps.length) := blk_cell hPD rfl
      have v2 : wd.cell? ⟨p, 2, none⟩ = some (.slice (some ⟨b, off + 4, none⟩) N (cap - 4)) := blk_cell hPD rfl
      have hkr := HK6.out.thenNew hKd (by intro r hr; simp at hr; subst hr; right; exact hGw)
      have hlr := HL.out.kept hkr hbp'
      have lPd := blk_lt hPD
      have lGd := blk_lt hGd
      have z0 : (0 : Int) ≤ (o : Int) + 2 := by omega
      have z1 : (o : Int) + 2 ≤ (N : Int) := by omega
      have z2 : ¬ cap - 4 = o + 2 := by omega
      have z3 : (o : Int) + 2 ≤ ((cap - 4 : Nat) : Int) := by omega
      have z4 : ((o : Int) + 2).toNat = o + 2 := by omega
      have z5 : IntKind.i64.wrap ((o : Int) + 2) = (o : Int) + 2 := by rw [IntKind.wrap_i64]; omega
      have HA := hid (beU16v b (off + 4 + (o + 2)) (N - (o + 2)) (cap - 4 - (o + 2)) (s.gaps[i]).2 ((sackBytes s).drop (4 + (o + 2))) wd.drew (by have h := (hlr.kept ((Kept.refl [] wd).drew) (by simp)).drop (4 + (o + 2)); rwa [show off + (4 + (o + 2)) = off + 4 + (o + 2) by omega] at h) (by rw [List.length_drop, HSB.out]; omega) (by omega) (by omega) HV2.out)
      have HG3 := hid (arr_set2 L1 i (s.gaps[i]).2 hL1lt)
      have HGET1 := hid (g16_get L1 i hL1lt)
      clear hGd hPD hKd hLl1 hL1i hL1j hkr hlr HG2 HGET HLL HLj HG HK hLi lPr lGr
      go_wp2_with fail
      go_region_held3 (fun w' => w'.cell? ⟨p, 2, none⟩ = some (.slice (some ⟨b, off + 4, none⟩) N (cap - 4)) ∧ w'.cell? ⟨p, 5, none⟩ = some (.slice (some ⟨G, 0, none⟩) s.gaps.length s.gaps.length))
        (first | go_keep | exact ⟨blk_cell hPc.out rfl, blk_cell hPc.out rfl⟩ | exact ⟨blk_cell hPd.out rfl, blk_cell hPd.out rfl⟩)
        ((go_at_call 86; refine HA.out.mono ?_; rintro e wc ⟨rfl, nc, hwc⟩; have hkx : Kept [] wd wc := hwc ▸ ((Kept.refl [] wd).drew.alloc _).drewN nc; have hPc := hid ((hkx.block p lPd (by simp)).trans HPD.out); have hGc := (hkx.block G lGd (by simp)).trans HGD.out; have ec : wc.cell? ⟨G, i * 2 + 1, none⟩ = some (.int .u16 ((L1[i]).2 : Nat)) := blk_cell hGc (by simpa using HGET1.out.2); have fc : wc.frozen? ⟨G, i * 2 + 1, none⟩ = false := blk_free hGc; have lGc := blk_lt hGc; have lPc := blk_lt hPc.out; have hPd := hid ((blk_setCell_ne (p := ⟨G, i * 2 + 1, none⟩) (.int .u16 ((s.gaps[i]).2 : Nat)) (show p ≠ G by omega)).trans hPc.out); have HGc := hid hGc; clear hwc hGc))
      generalize hW : World.setCell _ _ _ = wf
      have HGf := hid (show wf.heap[G]? = some (.cells (g16 (L1.set i ((L1[i]).1, (s.gaps[i]).2))).toArray 151 (0, 0)) by rw [← hW]; exact (blk_setCell _ HGc.out).trans (by rw [HG3.out]))
      have HKf := hid (show Kept [G] w6 wf by rw [← hW]; exact (HKD.out.trans (hkx.more (by simp))).setCell _ (.inl (by simp)))
      clear hW ec fc HGc hPd hPc lPc lGc hkx HA v5 v2 z1 z2 z3 z5
      go_wp2_with fail
      go_roundw
      case rel =>
        refine ⟨i + 1, o + 4, L1.set i ((L1[i]).1, (s.gaps[i]).2), by omega, by have := HO.out; omega, by go_num, by go_num, by rw [List.length_set]; exact HL1.out, hid ?_, HGf, HKf⟩
        intro j hj
        by_cases hji : j = i
        · subst hji
          rw [List.getElem?_set_self hL1lt, HL1I.out, List.getElem?_eq_getElem hlt]
        · rw [List.getElem?_set_ne (by omega)]
          exact HL1J.out j (by omega)
      case measure => simp [intOf]; omega
    · have hlt' : ¬ (i : Int) < (s.gaps.length : Int) := by omega
      obtain rfl : i = s.gaps.length := by omega
      have hLe : L = s.gaps := by
        apply List.ext_getElem?
        intro j
        by_cases hj : j < s.gaps.length
        · exact HLj.out j hj
        · rw [List.getElem?_eq_none (by omega), List.getElem?_eq_none (by omega)]
      have HGr := hid (hLe ▸ HG.out)
      have v6 : wr.cell? ⟨p, 6, none⟩ = some (.slice (some ⟨D, 0, none⟩) s.dups.length s.dups.length) := blk_cell hPr rfl
      have HPr := hid hPr
      have HDr := hid ((HK.out.block D (blk_lt HDD6.out) (by simp; omega)).trans HDD6.out)
      have HKr := hid (HK6.out.thenNew HK.out (by intro r hr; simp at hr; subst hr; right; exact hGw))
      have HO := hid ho
      clear hPr HG HK hLl HLj hLe ho
      have K7 := hid (Kept.refl [D] wr)
      have lDr := blk_lt HDr.out
      have hDw : w.heap.size ≤ D := by omega
      have lPr2 := blk_lt HPr.out
      go_wp2_with fail
      go_loopw [6, 149] (fun s6 s149 wx => ∃ (i o : Nat) (L : List Nat), i ≤ s.dups.length ∧ o = 12 + 4 * s.gaps.length + 4 * i ∧ s6 = .int .i64 o ∧ s149 = .int .i64 i ∧ L.length = s.dups.length ∧ Hid (∀ j, j < i → L[j]? = s.dups[j]?) ∧ Hid (wx.heap[D]? = some (.cells (u32s L).toArray 22 (0, 0))) ∧ Hid (Kept [D] wr wx)) (fun _ s149 _ => s.dups.length - (intOf s149).toNat)
      case atStart => exact ⟨0, o, _, by omega, by have := HO.out; omega, rfl, rfl, by simp, hid (by intro j hj; omega), HDr, K7⟩
      case round =>
        obtain ⟨i, o, L, hi, ho, rfl, rfl, hLl, HLj, HG, HK⟩ := hrel
        have hPr := (HK.out.block p lPr2 (by simp; omega)).trans HPr.out
        have lPr := blk_lt hPr
        have lGr := blk_lt HG.out
        by_cases hlt : i < s.dups.length
        · have hlt' : (i : Int) < (s.dups.length : Int) := by omega
          have h0' : (0 : Int) ≤ (i : Int) := by omega
          have hoN : o + 4 ≤ N := by have := HLV.out; omega
          have u5 : wr.cell? ⟨p, 6, none⟩ = some (.slice (some ⟨D, 0, none⟩) s.dups.length s.dups.length) := blk_cell hPr rfl
          have u2 : wr.cell? ⟨p, 2, none⟩ = some (.slice (some ⟨b, off + 4, none⟩) N (cap - 4)) := blk_cell hPr rfl
          have hkr := HKr.out.thenNew HK.out (by intro r hr; simp at hr; subst hr; right; exact hDw)
          have hlr := HL.out.kept hkr hbp'
          have y0 : (0 : Int) ≤ (o : Int) := by omega
          have y1 : (o : Int) ≤ (N : Int) := by omega
          have y2 : ¬ cap - 4 = o := by omega
          have y3 : (o : Int) ≤ ((cap - 4 : Nat) : Int) := by omega
          have hv1 := dup_val s i hlt
          rw [← ho] at hv1
          have HA := hid (beU32v b (off + 4 + o) (N - o) (cap - 4 - o) (s.dups[i]) ((sackBytes s).drop (4 + o)) wr.drew (by have h := (hlr.kept ((Kept.refl [] wr).drew) (by simp)).drop (4 + o); rwa [show off + (4 + o) = off + 4 + o by omega] at h) (by rw [List.length_drop, HSB.out]; omega) (by omega) (by omega) hv1)
          have HPr := hid hPr
          have hLi : i < L.length := by omega
          have HG2 := hid (arr_setD L i (s.dups[i]))
          have HGET := hid (show (u32s L)[i]? = some (.int .u32 (L[i] : Nat)) by simp [u32s, hLi])
          have HO2 := hid ho; have HLL := hid hLl
          clear hPr hlr hkr hv1 ho hLl
          go_wp2_with fail
          go_region_held3 (fun w' => w'.cell? ⟨p, 2, none⟩ = some (.slice (some ⟨b, off + 4, none⟩) N (cap - 4)) ∧ w'.cell? ⟨p, 6, none⟩ = some (.slice (some ⟨D, 0, none⟩) s.dups.length s.dups.length))
            (first | go_keep | exact ⟨blk_cell hPc.out rfl, blk_cell hPc.out rfl⟩ | exact ⟨blk_cell hPd.out rfl, blk_cell hPd.out rfl⟩)
            ((go_at_call 85; refine HA.out.mono ?_; rintro e wc ⟨rfl, nc, hwc⟩; have hkx : Kept [] wr wc := hwc ▸ ((Kept.refl [] wr).drew.alloc _).drewN nc; have hPc := hid ((hkx.block p lPr (by simp)).trans HPr.out); have hGc := (hkx.block D lGr (by simp)).trans HG.out; have ec : wc.cell? ⟨D, i, none⟩ = some (.int .u32 (L[i] : Nat)) := blk_cell hGc (by simpa using HGET.out); have fc : wc.frozen? ⟨D, i, none⟩ = false := blk_free hGc; have lGc := blk_lt hGc; have lPc := blk_lt hPc.out; have hPd := hid ((blk_setCell_ne (p := ⟨D, i, none⟩) (.int .u32 (s.dups[i] : Nat)) (show p ≠ D by omega)).trans hPc.out); have HGc := hid hGc; clear hwc hGc))
          generalize hW : World.setCell _ _ _ = wf
          have HGf := hid (show wf.heap[D]? = some (.cells (u32s (L.set i (s.dups[i]))).toArray 22 (0, 0)) by rw [← hW]; exact (blk_setCell _ HGc.out).trans (by rw [HG2.out]))
          have HKf := hid (show Kept [D] _ wf by rw [← hW]; exact (HK.out.trans (hkx.more (by simp))).setCell _ (.inl (by simp)))
          clear hW ec fc HGc hPd hPc lPc lGc hkx HA u5 u2 y1 y2 y3
          go_wp2_with fail
          go_roundw
          case rel =>
            refine ⟨i + 1, o + 4, L.set i (s.dups[i]), by omega, by have := HO2.out; omega, by go_num, by go_num, by rw [List.length_set]; exact HLL.out, hid ?_, HGf, HKf⟩
            intro j hj
            by_cases hji : j = i
            · subst hji
              rw [List.getElem?_set_self hLi, List.getElem?_eq_getElem hlt]
            · rw [List.getElem?_set_ne (by omega)]
              exact HLj.out j (by omega)
          case measure => simp [intOf]; omega
        · have hlt' : ¬ (i : Int) < (s.dups.length : Int) := by omega
          obtain rfl : i = s.dups.length := by omega
          have hLe : L = s.dups := by
            apply List.ext_getElem?
            intro j
            by_cases hj : j < s.dups.length
            · exact HLj.out j hj
            · rw [List.getElem?_eq_none (by omega), List.getElem?_eq_none (by omega)]
          have hGs := (HK.out.block G (blk_lt HGr.out) (by simp; omega)).trans HGr.out
          have HGs := hid hGs; have HDs := hid (hLe ▸ HG.out); have HPs := hid hPr; have HKs := hid (HKr.out.thenNew HK.out (by intro r hr; simp at hr; subst hr; right; exact hDw))
          clear hPr HG HK hLl HLj hLe ho hGs
          go_wp2_with fail
          go_ret
          refine ⟨rfl, _, _, HPs.out, ?_, ?_, HKs.out⟩
          · exact ⟨len_g16 _, .inr ⟨G, s.gaps.length, _, rfl, hGw, HGs.out, Nat.le_refl _, by unfold maxLen; omega, by rw [List.size_toArray, len_g16], by rw [List.toList_toArray, List.take_of_length_le (by rw [len_g16]; exact Nat.le_refl _)]⟩⟩
          · exact ⟨by simp [u32s], .inr ⟨D, s.dups.length, _, rfl, hDw, HDs.out, Nat.le_refl _, by unfold maxLen; omega, by simp [u32s], by rw [List.toList_toArray, List.take_of_length_le (by simp [u32s])]⟩⟩
end Go.Proofs.Base
