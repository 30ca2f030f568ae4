/- Parts of the proof, steps U13, U14: what the code and the plain laws of these steps give. Made by AI agents; no person has read it. -/
import Derived.Test.YthphjbjehccomaaGreatDoorU12
section
namespace Go.Proofs.Base
open Go Go.Proofs Go.RowKit Go.Proofs.Gaps
set_option maxRecDepth 100000
/-- The queue is being read: i of its n sets are read. -/
def RD (w : World) (q si i n g c nB : Nat) : Prop := ∃ o, (i < n → o = i) ∧ ∃ g4 v6 v7 m1 m2, w.heap[q]? = some (.cells (qC si i (.slice (some ⟨g, o, none⟩) (n - i) (c - i)) (.slice (some ⟨g4, 0, none⟩) 0 0) (.slice none 0 0) v6 v7 m1 m2 nB) 113 (0, 0))
set_option maxHeartbeats 8000000 in
theorem read (w0 ws w : World) (q f si i n g c bb nB nB0 : Nat) (D : Nat → Pd) (B G N C : Nat → Nat) (K : List Nat) (sb pp : Nat → Nat) (vc : Nat → Value) (PL LS : Nat → List Nat) (h : RQ w0 ws q f si 0 D B G N C K (List.range n) [] sb pp vc PL (.slice (some ⟨g, 0, none⟩) n c) nB0) (hi : i < n) (hcap : n ≤ c) (hk : Kept [q] ws w) (hq : RD w q si i n g c nB)
    (hb : OB w bb (List.replicate 4096 0)) (hbw : ws.heap.size ≤ bb) (hfull : FullSet D (PL i)) (htx : ∀ j ∈ PL i, (LS j).length = N j ∧ BB ws (G j) (LS j)) (htot : ((PL i).flatMap LS).length ≤ 200) (hnB : nB < 1000000) :
    Calls Tryz.prog 32 #[.pointer (some ⟨q, 0, none⟩), .slice (some ⟨bb, 0, none⟩) 4096 4096] w fun e w' => e = .returned (.tuple #[.int .i64 ((PL i).flatMap LS).length, .int .u32 (pp i), .nilIface]) ∧ Kept [q, bb] w w' ∧
      (∃ nB', RD w' q si (i + 1) n g c nB' ∧ nB' < 1000000) ∧ ∃ cur, OB w' bb cur ∧ cur.length = 4096 ∧ cur.take ((PL i).flatMap LS).length = (PL i).flatMap LS := by
  obtain ⟨oo, hoo, g4, v6, v7, m1, m2, hqw⟩ := hq
  rw [hoo hi] at hqw
  clear hoo
  have q1 : w.cell? ⟨q, 1, none⟩ = some (.int .u16 i) := blk_cell hqw rfl
  have q3 : w.cell? ⟨q, 3, none⟩ = some (.slice (some ⟨g, i, none⟩) (n - i) (c - i)) := blk_cell hqw rfl
  have q4 : w.cell? ⟨q, 4, none⟩ = some (.slice (some ⟨g4, 0, none⟩) 0 0) := blk_cell hqw rfl
  have q10 : w.cell? ⟨q, 10, none⟩ = some (.bool false) := blk_cell hqw rfl
  have q11 : w.cell? ⟨q, 11, none⟩ = some (.int .u64 nB) := blk_cell hqw rfl
  have lq := blk_lt hqw
  have H := hid h; have HQW := hid hqw; have HB := hid hb; have HK := hid hk; have HF := hid hfull; have HTOT := hid htot
  have n0 : (0 : Int) < ((n - i : Nat) : Int) := by omega
  have n1 : (0 : Int) ≤ ((n - i : Nat) : Int) := by omega
  have n2 : ¬ (n - i) = 0 := by omega
  have n3 : ((n - i : Nat) : Int) ≤ ((c - i : Nat) : Int) := by omega
  have hin : i ∈ List.range n := List.mem_range.2 hi
  obtain ⟨g40, v60, v70, m10, m20, hqs⟩ := h.cells
  have hs0 := (h.sets i hin).1
  have hsq : sb i ≠ q := fun e => by
    have hp := hs0.cells
    rw [e, hqs] at hp; simp at hp
  have hset := hs0.kept hk (by simpa using hsq) (fun g hg e => own_far hs0.row hqs (by decide) (by rw [← List.mem_singleton.1 e]; exact own_mem.2 hg))
  obtain ⟨p1, p2, p3, p4⟩ := h.pl i hin
  have hlen60 := sorted_len (PL i) 0 40 p1 (fun k hk => ⟨Nat.zero_le k, (h.ch k ((p3 k).1 hk).1).2.2.2⟩)
  have hpos : 0 < (PL i).length := List.length_pos_iff.2 (p2 (by simp))
  have hch : ∀ j ∈ PL i, ChAt w (B j) (D j) (G j) (N j) (C j) ∧ (D j).tsn = tsn f j := fun j hj => by
    have h1 := h.ch j ((p3 j).1 hj).1
    refine ⟨h1.1.kept hk (fun e => ?_), h1.2.1⟩
    have hp := h1.1.pay
    unfold PayAt at hp
    rw [List.mem_singleton.1 e, hqs] at hp; simp at hp
  have hj40 : ∀ j ∈ PL i, j < 63 := fun j hj => by have h1 := h.ch j ((p3 j).1 hj).1; omega
  obtain ⟨gi, ci, hvc, hci1, hci2⟩ := own_some hset.row (by omega)
  have hcs := hset.cells
  rw [hvc] at hcs
  have r1 : w.cell? ⟨g, i, none⟩ = some (.pointer (some ⟨sb i, 0, none⟩)) := by
    have hr := ownsRow_kept h.row hk (fun g hg e => own_far h.row hqs (by decide) (by rw [← List.mem_singleton.1 e]; exact own_mem.2 hg))
    have h3 := hr.cells (g := g) rfl i (.pointer (some ⟨sb i, 0, none⟩)) (by simp [ptrs, hi])
    rwa [addr_add, Nat.zero_add] at h3
  have r2 : w.cell? ⟨sb i, 0, none⟩ = some (.int .u16 i) := blk_cell hcs rfl
  have r3 : w.cell? ⟨sb i, 1, none⟩ = some (.int .u32 (pp i)) := blk_cell hcs rfl
  have r4 : w.cell? ⟨sb i, 2, none⟩ = some (.slice (some ⟨gi, 0, none⟩) (PL i).length ci) := blk_cell hcs rfl
  have lg := World.block_lt_of_cell? w _ r1
  have lsb := blk_lt hcs
  have HSET := hid hset; have HL60 := hid hlen60; have HPOS := hid hpos; have HCH := hid hch; have HJ := hid hj40; have HVC := hid hvc; have HCI := hid hci1
  have hi100 : i < 100 := h.small i hin
  have HISC := hid (isComplete w0.heap.size (sb i) i (pp i) f (vc i) B G N C D (PL i) w hset (by omega) (by omega) hch hj40)
  have htxw : ∀ j ∈ PL i, (LS j).length = N j ∧ BB w (G j) (LS j) ∧ G j ≠ bb := fun j hj => by
    obtain ⟨a1, a2⟩ := htx j hj
    obtain ⟨cs, a3⟩ := a2.2
    have hgq : G j ∉ [q] := fun e => by rw [List.mem_singleton.1 e, hqs] at a3; simp at a3
    exact ⟨a1, a2.kept hk hgq, by have := blk_lt a3; omega⟩
  have HTX := hid htxw
  have hgb : gi ≠ bb := fun e => own_far hset.row hb (by decide) (by rw [hvc, ← e]; simp [own, Value.ownBlock])
  have hBb : ∀ j ∈ PL i, B j ≠ bb := fun j hj e => by
    have hp := (hch j hj).1.pay
    unfold PayAt at hp
    unfold OB at hb
    rw [e, hb] at hp; simp at hp
  have HGB := hid hgb; have HBB := hid hBb
  have hqb : q ≠ bb := fun e => by unfold OB at hb; rw [← e, hqw] at hb; simp at hb
  have hsbb : sb i ≠ bb := fun e => by have hp := hset.cells; unfold OB at hb; rw [e, hb] at hp; simp at hp
  have hlgi := hset.row.lt gi (by rw [hvc]; rfl)
  have HQB := hid hqb; have HSBB := hid hsbb; have HLGI := hid hlgi
  clear htxw hgb hBb hqb hsbb hlgi
  clear hin hqs hs0 hsq hset p1 p2 p3 p4 hlen60 hpos hch hj40 hvc hci1 hci2 hcs
  clear h hqw hb hk hfull htx htot
  generalize hni : n - i = ni at *
  generalize hci : c - i = ci at *
  have HNI := hid hni; have HCI := hid hci
  clear hni hci
  go_enter Tryz.func32, Tryz.ntmps32
  go_wp2_with fail
  refine HISC.out.mono ?_
  rintro e w1 ⟨⟨b, rfl, hb1⟩, hk1⟩
  obtain rfl : b = true := hb1 HF.out
  dsimp only
  clear hb1
  have hcell := fun (p : Addr) (v : Value) (hl : p.block < w.heap.size) (hv : w.cell? p = some v) => (hk1.cell (p := p) hl (by simp)).trans hv
  have q1' := hcell _ _ lq q1; have q3' := hcell _ _ lq q3; have q4' := hcell _ _ lq q4; have q10' := hcell _ _ lq q10; have q11' := hcell _ _ lq q11
  have r1' := hcell _ _ lg r1; have r2' := hcell _ _ lsb r2; have r3' := hcell _ _ lsb r3; have r4' := hcell _ _ lsb r4
  have lq' := Nat.lt_of_lt_of_le lq hk1.size; have lg' := Nat.lt_of_lt_of_le lg hk1.size; have lsb' := Nat.lt_of_lt_of_le lsb hk1.size
  have HK1 := hid hk1
  clear hcell q1 q3 q4 q10 q11 r1 r2 r3 r4 lq lg lsb hk1
  go_wp2_with fail
  go_quiet ((go_at_call 47; exact Calls.quiet_of_same (sna16GTself i _)))
  go_wp2_with fail
  have hk12 : Kept [] w1 (w1.drewN nq) := (Kept.refl [] w1).drewN nq
  generalize w1.drewN nq = w2 at *
  have hk02 := HK1.out.trans hk12
  have hcell := fun (p : Addr) (v : Value) (hl : p.block < w1.heap.size) (hv : w1.cell? p = some v) => (hk12.cell (p := p) hl (by simp)).trans hv
  have q1 := hcell _ _ lq' q1'; have q3 := hcell _ _ lq' q3'; have q11 := hcell _ _ lq' q11'
  have r2 := hcell _ _ lsb' r2'; have r3 := hcell _ _ lsb' r3'
  have lq := Nat.lt_of_lt_of_le lq' hk12.size; have lsb := Nat.lt_of_lt_of_le lsb' hk12.size
  have HK02 := hid hk02
  clear hcell q1' q3' q4' q10' q11' r1' r2' r3' r4' lq' lg' lsb' hk12 hk02
  have HOB := hid (show OB w2 bb (List.replicate 4096 0) from by have := HB.out; exact (HK02.out.block bb (blk_lt this) (by simp)).trans this)
  go_loopw [9, 10, 199] (fun s9 s10 s199 wx => ∃ k t : Nat, k ≤ (PL i).length ∧ s199 = .int .i64 k ∧ s9 = .int .i64 t ∧ s10 = .nilIface ∧ t ≤ 200 ∧ Hid (t = (((PL i).take k).flatMap LS).length) ∧ Hid (Kept [bb] w2 wx) ∧ Hid (∃ cur, OB wx bb cur ∧ cur.length = 4096 ∧ cur.take t = ((PL i).take k).flatMap LS)) (fun _ _ s199 _ => (PL i).length - (intOf s199).toNat)
  case atStart => exact ⟨0, 0, by omega, rfl, rfl, rfl, by omega, hid (by simp), hid (Kept.refl [bb] w2), hid ⟨_, HOB.out, by simp, by simp⟩⟩
  case round =>
    have hlen40 := HL60.out
    obtain ⟨k, t, hk, rfl, rfl, rfl, ht200, HT, HKR, HCUR⟩ := hrel
    by_cases hlt : k < (PL i).length
    · have hlt' : (k : Int) < ((PL i).length : Int) := by omega
      have h0' : (0 : Int) ≤ (k : Int) := by omega
      have hy : (PL i)[k] ∈ PL i := List.getElem_mem hlt
      have hsplit : ((PL i).take (k + 1)).flatMap LS = ((PL i).take k).flatMap LS ++ LS (PL i)[k] := by rw [List.take_add_one, List.getElem?_eq_getElem hlt, List.flatMap_append]; simp
      have hle : (((PL i).take (k + 1)).flatMap LS).length ≤ ((PL i).flatMap LS).length := by
        conv => rhs; rw [← List.take_append_drop (k + 1) (PL i), List.flatMap_append, List.length_append]
        omega
      have hle' := Nat.le_trans hle HTOT.out
      obtain ⟨cur, ho, hcl, hct⟩ := HCUR.out
      have hT := HT.out
      obtain ⟨hln, hbt, hGb⟩ := HTX.out _ hy
      rw [hsplit, List.length_append, ← hT, hln] at hle'
      have hk0r : Kept [bb] w wr := (HK02.out.more (by simp)).trans HKR.out
      have ck : wr.cell? ⟨gi, k, none⟩ = some (.pointer (some ⟨B (PL i)[k], 0, none⟩)) := by
        have h3 := HSET.out.row.cells (g := gi) (by rw [HVC.out]; rfl) k (.pointer (some ⟨B (PL i)[k], 0, none⟩)) (by simp [ptrs, hlt])
        rw [addr_add, Nat.zero_add] at h3
        exact (hk0r.cell (p := ⟨gi, k, none⟩) HLGI.out.2 (by simpa using HGB.out)).trans h3
      have hpay := ((HCH.out _ hy).1.kept hk0r (by simpa using HBB.out _ hy)).pay
      have c14 : wr.cell? ⟨B (PL i)[k], 14, none⟩ = some (.slice (some ⟨G (PL i)[k], 0, none⟩) (N (PL i)[k]) (C (PL i)[k])) := blk_cell hpay rfl
      have lb := blk_lt hpay
      have lgi := Nat.lt_of_lt_of_le HLGI.out.2 hk0r.size
      have hbt' := (hbt.kept hk0r (by simpa using hGb)).1
      have ho' : OB wr.drew bb cur := ho
      obtain ⟨w5, hcp, ho5, hk5⟩ := copyB wr.drew 3 bb t (4096 - t) (4096 - t) (G (PL i)[k]) 0 (N (PL i)[k]) (C (PL i)[k]) cur (LS (PL i)[k]) ho' (hbt'.kept ((Kept.refl [] wr).drew) (by simp)) hln (by omega) (by omega)
      have HW5 := hid (And.intro ho5 hk5)
      have c14n := (hk5.cell (p := ⟨B (PL i)[k], 14, none⟩) lb (by simpa using HBB.out _ hy)).trans c14
      have lb5 := Nat.lt_of_lt_of_le lb hk5.size
      have HSPL := hid hsplit; have HLN := hid hln; have HPAY := hid hpay; have HCT := hid (And.intro hcl hct); have HBN := hid (HBB.out _ hy)
      have e1 : ¬ (4096 : Int) - (t : Int) < ((N (PL i)[k] : Nat) : Int) := by omega
      have e2 : (t : Int) ≤ 4096 := by omega
      have e3 : (0 : Int) ≤ (t : Int) := by omega
      clear hle hy hsplit hln hbt hGb hk0r hpay hbt' ho ho' hcl hct hT ho5 hk5
      generalize hNy : N (PL i)[k] = ny at *
      generalize hBy : B (PL i)[k] = by_ at *
      generalize hGy : G (PL i)[k] = gy at *
      generalize hCy : C (PL i)[k] = cy at *
      have HNY := hid hNy; have HBY := hid hBy
      clear hNy hBy hGy hCy
      have e4 : ny ≤ 200 := by omega
      go_wp2_with fail
      go_region_held3 (fun w' => w'.cell? ⟨by_, 14, none⟩ = some (.slice (some ⟨gy, 0, none⟩) ny cy)) (go_keep) (fail)
      go_wp2_with fail
      go_roundw
      case rel =>
        obtain ⟨ho5, hk5⟩ := HW5.out
        have h2 : (LS (PL i)[k]).length = ny := HLN.out
        have hll : (((PL i).take (k + 1)).flatMap LS).length = t + ny := by rw [HSPL.out, List.length_append, ← HT.out, h2]
        refine ⟨k + 1, t + ny, by omega, by go_num, by push_cast; rfl, rfl, by omega, hid hll.symm, hid (HKR.out.trans ?_), hid ⟨_, ho5, ?_, ?_⟩⟩
        · exact ((Kept.refl [bb] wr).drew).trans hk5
        · simp only [splice, List.length_append, List.length_take, List.length_drop, HCT.out.1]
          omega
        · have h1 : (cur.take t).length = t := by rw [List.length_take, HCT.out.1]; omega
          rw [HSPL.out, ← HCT.out.2]
          simp only [splice]
          rw [← List.append_assoc, List.take_append_of_le_length (by rw [List.length_append, h1, h2]; exact Nat.le_refl _), List.take_of_length_le (by rw [List.length_append, h1, h2]; exact Nat.le_refl _)]
      case measure => simp [intOf]; omega
    · have hlt' : ¬ (k : Int) < ((PL i).length : Int) := by omega
      have qr1 := (HKR.out.cell (p := ⟨q, 1, none⟩) lq (by simpa using HQB.out)).trans q1
      have qr3 := (HKR.out.cell (p := ⟨q, 3, none⟩) lq (by simpa using HQB.out)).trans q3
      have qr11 := (HKR.out.cell (p := ⟨q, 11, none⟩) lq (by simpa using HQB.out)).trans q11
      have rr2 := (HKR.out.cell (p := ⟨sb i, 0, none⟩) lsb (by simpa using HSBB.out)).trans r2
      have rr3 := (HKR.out.cell (p := ⟨sb i, 1, none⟩) lsb (by simpa using HSBB.out)).trans r3
      have lqr := Nat.lt_of_lt_of_le lq HKR.out.size; have lsbr := Nat.lt_of_lt_of_le lsb HKR.out.size
      have qwr := (HKR.out.block q lq (by simpa using HQB.out)).trans ((HK02.out.block q (blk_lt HQW.out) (by simp)).trans HQW.out)
      have zr3 : wr.frozen? ⟨q, 3, none⟩ = false := blk_free qwr
      have zr1 : wr.frozen? ⟨q, 1, none⟩ = false := blk_free qwr
      have HQWR := hid qwr
      have m1' : (1 : Int) ≤ (ni : Int) := by omega
      clear qwr q1 q3 q11 r2 r3 lq lsb
      go_upto_region 53 with fail
      go_cut [] from 230 to 237 (fun wx => ∃ o' : Nat, (i + 1 < n → o' = i + 1) ∧ wx = wr.setCell ⟨q, 3, none⟩ (.slice (some ⟨g, o', none⟩) (ni - 1) (ci - 1)))
      case first =>
        by_cases hc1 : ci = 1
        · subst hc1
          go_wp2_with fail
          go_meet
          exact ⟨i, fun h => by have := HNI.out; have := HCI.out; omega, rfl⟩
        · have hc2 : ¬ (ci : Int) - 1 = 0 := by omega
          go_wp2_with fail
          go_meet
          exact ⟨i + 1, fun _ => rfl, rfl⟩
      obtain ⟨o', ho', hwc⟩ := hcut
      have hqc : wc.heap[q]? = some (.cells (qC si i (.slice (some ⟨g, o', none⟩) (ni - 1) (ci - 1)) (.slice (some ⟨g4, 0, none⟩) 0 0) (.slice none 0 0) v6 v7 m1 m2 nB) 113 (0, 0)) := by rw [hwc, blk_setCell _ HQWR.out]; rfl
      have hkc : Kept [q] wr wc := by rw [hwc]; exact (Kept.refl [q] wr).setCell _ (.inl (by simp))
      have qc1 : wc.cell? ⟨q, 1, none⟩ = some (.int .u16 i) := blk_cell hqc rfl
      have qc11 : wc.cell? ⟨q, 11, none⟩ = some (.int .u64 nB) := blk_cell hqc rfl
      have zc1 : wc.frozen? ⟨q, 1, none⟩ = false := blk_free hqc
      have lqc := blk_lt hqc
      have hsq : sb i ≠ q := fun e => by
        have hp := HSET.out.cells
        rw [e, HQW.out] at hp; simp at hp
      have rc2 := (hkc.cell (p := ⟨sb i, 0, none⟩) lsbr (by simpa using hsq)).trans rr2
      have rc3 := (hkc.cell (p := ⟨sb i, 1, none⟩) lsbr (by simpa using hsq)).trans rr3
      have lsc := Nat.lt_of_lt_of_le lsbr hkc.size
      have HO := hid ho'; have HQC := hid hqc; have HKC := hid hkc; have HSQ := hid hsq
      clear ho' hwc hqc hkc hsq qr1 qr3 qr11 rr2 rr3 lqr lsbr zr3 zr1
      have hw16 : IntKind.u16.wrap ((i : Int) + 1) = ((i + 1 : Nat) : Int) := by rw [IntKind.wrap_u16]; omega
      go_wp2_with fail
      go_quiet (fail)
      go_wp2_with fail
      generalize hW : World.setCell _ _ _ = w8
      have hdN : (wc.drewN nq).heap = wc.heap := rfl
      have hq8 : w8.heap[q]? = some (.cells (qC si (i + 1) (.slice (some ⟨g, o', none⟩) (ni - 1) (ci - 1)) (.slice (some ⟨g4, 0, none⟩) 0 0) (.slice none 0 0) v6 v7 m1 m2 nB) 113 (0, 0)) := by
        have h1 := blk_setCell (w := wc.drewN nq) (i := 1) (.int .u16 ((i : Int) + 1)) HQC.out
        rw [hW] at h1
        rw [h1]; rfl
      have hk8 : Kept [q] wc w8 := by rw [← hW]; exact ((Kept.refl [q] wc).drewN nq).setCell _ (.inl (by simp))
      clear hW hdN
      have q118 : w8.cell? ⟨q, 11, none⟩ = some (.int .u64 nB) := blk_cell hq8 rfl
      have z118 : w8.frozen? ⟨q, 11, none⟩ = false := blk_free hq8
      have rc38 := (hk8.cell (p := ⟨sb i, 1, none⟩) lsc (by simpa using HSQ.out)).trans rc3
      have lsb8 := Nat.lt_of_lt_of_le lsc hk8.size
      have HQ8 := hid hq8; have HK8 := hid hk8
      refine (subtractAny q nB t w8 q118 z118 (by omega) hnB).mono ?_
      rintro e w9 ⟨rfl, m, hm, hw9⟩
      dsimp only
      have hq9 : w9.heap[q]? = some (.cells (qC si (i + 1) (.slice (some ⟨g, o', none⟩) (ni - 1) (ci - 1)) (.slice (some ⟨g4, 0, none⟩) 0 0) (.slice none 0 0) v6 v7 m1 m2 m) 113 (0, 0)) := by rw [hw9, blk_setCell _ HQ8.out]; rfl
      have hk9 : Kept [q] w8 w9 := by rw [hw9]; exact (Kept.refl [q] w8).setCell _ (.inl (by simp))
      have rc39 := (hk9.cell (p := ⟨sb i, 1, none⟩) lsb8 (by simpa using HSQ.out)).trans rc38
      have lsb9 := Nat.lt_of_lt_of_le lsb8 hk9.size
      have HQ9 := hid hq9; have HK9 := hid hk9
      clear hq8 hk8 hw9 hq9 hk9 q118 z118 rc3 rc38 rc2 lsc lsb8 qc1 qc11 zc1 lqc
      go_wp2_with fail
      go_region_held3 (fun w' => w'.cell? ⟨sb i, 1, none⟩ = some (.int .u32 (pp i))) (go_keep) (fail)
      go_wp2_with fail
      go_ret3
      have hkl : k = (PL i).length := by omega
      have hT := HT.out
      obtain ⟨cur, ho, hcl, hct⟩ := HCUR.out
      rw [hkl, List.take_length] at hT hct
      subst hT
      have hkq : Kept [q] wr w9.drew := ((HKC.out.trans HK8.out).trans HK9.out).drew
      refine ⟨rfl, ((HK02.out.more (by simp)).trans (HKR.out.more (by simp))).trans (hkq.more (by simp)), ⟨m, ⟨o', HO.out, g4, v6, v7, m1, m2, ?_⟩, by omega⟩, cur, ?_, hcl, hct⟩
      · have h9 : w9.drew.heap[q]? = _ := HQ9.out
        rw [h9, ← HNI.out, ← HCI.out, Nat.sub_sub, Nat.sub_sub]
      · exact (hkq.block bb (blk_lt ho) (by simpa using fun e => HQB.out e.symm)).trans ho
end Go.Proofs.Base
end
section
namespace Go.Proofs.Base
open Go Go.Proofs Go.RowKit Go.Proofs.Gaps
set_option maxRecDepth 100000
set_option maxHeartbeats 4000000 in
/-- Nothing is left to read. -/
theorem readNone (w : World) (q si n g c nB tt : Nat) (b : Value) (ev : Value) (hq : RD w q si n n g c nB) (hg : w.cell? ⟨0, 0, none⟩ = some (.iface tt ev)) :
    Calls Tryz.prog 32 #[.pointer (some ⟨q, 0, none⟩), b] w fun e w' => e = .returned (.tuple #[.int .i64 0, .int .u32 0, .iface tt ev]) ∧ Kept [] w w' := by
  obtain ⟨oo, -, g4, v6, v7, m1, m2, hqw⟩ := hq
  rw [Nat.sub_self] at hqw
  have q3 : w.cell? ⟨q, 3, none⟩ = some (.slice (some ⟨g, oo, none⟩) 0 (c - n)) := blk_cell hqw rfl
  have q4 : w.cell? ⟨q, 4, none⟩ = some (.slice (some ⟨g4, 0, none⟩) 0 0) := blk_cell hqw rfl
  have q10 : w.cell? ⟨q, 10, none⟩ = some (.bool false) := blk_cell hqw rfl
  have lq := blk_lt hqw
  clear hqw
  go_enter Tryz.func32, Tryz.ntmps32
  go_wp2_with fail
  go_region_held3 (fun w' => w'.cell? ⟨0, 0, none⟩ = some (.iface tt ev)) (go_keep) (fail)
  go_wp2_with fail
  go_ret3
  exact ⟨rfl, (Kept.refl [] w).drew⟩
end Go.Proofs.Base
end
