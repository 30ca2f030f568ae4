/- Parts of the proof, steps T16, T25, T26: what the code and the plain laws of these steps give. Made by AI agents; no person has read it. -/
import Derived.Test.YthphjbjehccomaaGreatDoorT15
import Derived.Test.YthphjbjehccomaaGreatDoorT24
import Derived.Test.YthphjbjehccomaaGreatDoorP17
import Derived.Deep.Cut
import Derived.Deep.CutRange
section
namespace Go.Proofs.Base
open Go Go.Proofs Go.RowKit Go.Proofs.Gaps
set_option maxRecDepth 100000
set_option maxHeartbeats 6000000 in
theorem SackText (bg bd : Nat) (vg vd : Value) (s : Sk) (w : World) (hs : s.ok) (hg : w.ownsRow bg 79 2 vg s.gaps.length (g64 s.gaps)) (hd : w.ownsRow bd 22 1 vd s.dups.length (u32s s.dups)) :
    Calls Tryz.prog 27 #[.agg #[.int .u32 s.tsn, .int .u32 0, vg, vd]] w fun e w' => ∃ g cap, w.heap.size ≤ g ∧ 4 + s.len ≤ cap ∧ cap ≤ maxLen ∧ e = .returned (.tuple #[.slice (some ⟨g, 0, none⟩) (4 + s.len) cap, .bool true]) ∧
      BytesAt w' g 0 (sackBytes s) ∧ Kept [] w w' := by
  obtain ⟨Ag, Cg, rfl⟩ := own_form hg
  obtain ⟨Ad, Cd, rfl⟩ := own_form hd
  have hn1 := hs.few
  have hn2 := hs.fewd
  have HG := hid hg; have HD := hid hd; have HS := hid hs
  clear hg hd hs
  have hsl : s.len < 12000 := by have := HS.out.few; have := HS.out.fewd; unfold Sk.len; omega
  go_enter Tryz.func27, Tryz.ntmps27
  go_wp2_with fail
  generalize hW : World.alloc _ _ = w1
  have hA1 : w1.heap[w.heap.size]? = some (.cells #[.int .u32 s.tsn, .int .u32 0, .slice Ag s.gaps.length Cg, .slice Ad s.dups.length Cd] 59 (0, 0)) := by rw [← hW]; exact blk_new w _
  have hk1 : Kept [] w w1 := by rw [← hW]; exact (Kept.refl [] w).alloc _
  clear hW
  generalize hBe : w.heap.size = B at *
  have HB := hid hBe; clear hBe
  have a0 : w1.cell? ⟨B, 0, none⟩ = some (.int .u32 s.tsn) := blk_cell hA1 rfl
  have a1 : w1.cell? ⟨B, 1, none⟩ = some (.int .u32 0) := blk_cell hA1 rfl
  have a2 : w1.cell? ⟨B, 2, none⟩ = some (.slice Ag s.gaps.length Cg) := blk_cell hA1 rfl
  have a3 : w1.cell? ⟨B, 3, none⟩ = some (.slice Ad s.dups.length Cd) := blk_cell hA1 rfl
  have lA1 := blk_lt hA1
  have HA1 := hid hA1; have HK1 := hid hk1
  have H28 := hid (halves bg _ s.gaps w1.drew (ownsRow_kept HG.out hk1.drew (by simp)) HS.out.few HS.out.gaps)
  clear hA1 hk1
  go_region_held_law (fun w' => w'.cell? ⟨B, 0, none⟩ = some (.int .u32 s.tsn) ∧ w'.cell? ⟨B, 1, none⟩ = some (.int .u32 0) ∧ w'.cell? ⟨B, 2, none⟩ = some (.slice Ag s.gaps.length Cg) ∧ w'.cell? ⟨B, 3, none⟩ = some (.slice Ad s.dups.length Cd))
    (go_keep)
    (first
      | (go_at_call 40; refine H28.out.mono ?_; rintro e w2 ⟨vo, rfl, hov, hk2⟩; obtain ⟨Ao, Co, rfl⟩ := own_form hov; have hk02 := HK1.out.drew.trans hk2; obtain ⟨v4, w4, hr4, ho4, hk4⟩ := copy32 35 bd _ s.dups w2 (ownsRow_kept HD.out hk02 (by simp)) (by omega); obtain ⟨Aq, Cq, rfl⟩ := own_form ho4; have hA2 := (hk2.block B (by exact lA1) (by simp)).trans HA1.out; have hA4 := (hk4.block B (blk_lt hA2) (by simp)).trans hA2; have b0 : w2.cell? ⟨B, 0, none⟩ = some (.int .u32 s.tsn) := blk_cell hA2 rfl; have b1 : w2.cell? ⟨B, 1, none⟩ = some (.int .u32 0) := blk_cell hA2 rfl; have b2 : w2.cell? ⟨B, 2, none⟩ = some (.slice Ag s.gaps.length Cg) := blk_cell hA2 rfl; have b3 : w2.cell? ⟨B, 3, none⟩ = some (.slice Ad s.dups.length Cd) := blk_cell hA2 rfl; have d0 : w4.cell? ⟨B, 0, none⟩ = some (.int .u32 s.tsn) := blk_cell hA4 rfl; have d1 : w4.cell? ⟨B, 1, none⟩ = some (.int .u32 0) := blk_cell hA4 rfl; have d2 : w4.cell? ⟨B, 2, none⟩ = some (.slice Ag s.gaps.length Cg) := blk_cell hA4 rfl; have d3 : w4.cell? ⟨B, 3, none⟩ = some (.slice Ad s.dups.length Cd) := blk_cell hA4 rfl; have lA4 := blk_lt hA4; have HA4 := hid hA4; have HK4 := hid (hk02.trans hk4); have H27 := hid (ZZSackText _ _ _ _ s w4 HS.out (ownsRow_kept hov hk4 (by simp)) ho4); clear hA2 hA4 hk02 hk4 hk2 hov ho4)
      | (refine step_append_run rfl _ _ 35 rfl _ _ _ rfl rfl hr4 ?_)
      | (go_at_call 39; refine H27.out.mono ?_; rintro e w5 ⟨B5, hB5, rfl, hob5, hk5⟩; have hA5 := (hk5.block B lA4 (by simp)).trans HA4.out; have c0 : w5.cell? ⟨B, 0, none⟩ = some (.int .u32 s.tsn) := blk_cell hA5 rfl; have c1 : w5.cell? ⟨B, 1, none⟩ = some (.int .u32 0) := blk_cell hA5 rfl; have c2 : w5.cell? ⟨B, 2, none⟩ = some (.slice Ag s.gaps.length Cg) := blk_cell hA5 rfl; have c3 : w5.cell? ⟨B, 3, none⟩ = some (.slice Ad s.dups.length Cd) := blk_cell hA5 rfl; have HK5 := hid (HK4.out.trans hk5); have HO5 := hid hob5; clear hA5 hk5 hob5))
  have H3 := hid (copied B5 0 (4 + s.len) (4 + s.len) (sackBytes s) w5.drew ((HO5.out.bytes (small_sackBytes s HS.out)).kept ((Kept.refl [] w5).drew) (by simp)) (len_sackBytes s) (by omega) (by omega))
  go_wp2_with fail
  go_region_held3 (fun _ => True) (trivial) ((go_at_call 21; refine H3.out.mono ?_; rintro e w6 ⟨g6, cap6, hg6, hc6, hc6', rfl, hb6, hk6⟩))
  go_wp2_with fail
  go_ret2
  have h5 := HK5.out.size
  have hg6' : w5.heap.size ≤ g6 := hg6
  exact ⟨g6, cap6, by omega, hc6, hc6', rfl, hb6, HK5.out.drew.trans hk6⟩
end Go.Proofs.Base
end
section
namespace Go.Proofs.Base
open Go Go.Proofs Go.RowKit Go.Proofs.Gaps
set_option maxRecDepth 100000
set_option maxRecDepth 100000 in
set_option maxHeartbeats 4000000 in
theorem unmarshal_okS (p b o len cap sp dp tag : Nat) (s : Sk) (w : World) (hs : s.ok) (hpk : w.heap[p]? = some (.cells (pkC 0 0 0 (.slice none 0 0)) 169 (0, 0))) (hl : BytesAt w b o (packetOf sp dp tag (sackBytes s)))
    (hlen : 12 + (4 + s.len) + padN (4 + s.len) = len) (hcap : len ≤ cap) (hcm : cap ≤ 9223372036854775807) (hbp : b ≠ p) :
    Calls Tryz.prog 83 #[.pointer (some ⟨p, 0, none⟩), .bool true, .slice (some ⟨b, o, none⟩) len cap] w fun e w' => e = .returned .nilIface ∧ ∃ g cap' cp, w'.heap[p]? = some (.cells (pkC sp dp tag (.slice (some ⟨g, 0, none⟩) 1 cap')) 169 (0, 0)) ∧
      w'.cell? ⟨g, 0, none⟩ = some (.iface 147 (.pointer (some ⟨cp, 0, none⟩))) ∧ w.heap.size ≤ cp ∧ w.heap.size ≤ g ∧ cp ≠ g ∧ SackIn cp s w' ∧ Kept [p] w w' := by
  have lp := blk_lt hpk
  have lb := hl.lt
  have hbp' : b ∉ [p] := by simpa using hbp
  have HS := hid hs; clear hs
  have hsl := len_pos_sack s HS.out
  have hpd : padN (4 + s.len) = 0 := by unfold padN Sk.len; omega
  have h12 : 12 ≤ s.len := by unfold Sk.len; omega
  have HM4 := hid (show s.len % 4 = 0 by unfold Sk.len; omega)
  have hM : (packetOf sp dp tag (sackBytes s)).length = len := by rw [len_packetOf, len_sackBytes]; omega
  have HM := hid hM; clear hM
  rw [hpd] at hlen
  have HT0 := hid (show (packetOf sp dp tag (sackBytes s)).drop 12 = sackBytes s by rw [packet_drop, len_sackBytes, hpd]; simp)
  have HLEN := hid hlen
  have hlenlo : 16 + s.len = len := by omega
  have HLL := hid hlenlo
  have q1 : ¬ (len : Int) < 12 := by omega
  have q2 : (16 : Int) ≤ (len : Int) := by omega
  have q3 : (12 : Int) < (len : Int) := by omega
  have c12 := hl.cell 12 (by rw [HM.out]; omega)
  have hb12 : bt (packetOf sp dp tag (sackBytes s)) 12 = 3 := by rw [packet_head]; rfl
  rw [hb12] at c12
  have s8 : (8 : Int) ≤ (len : Int) := by omega
  have s8c : (8 : Int) ≤ (cap : Int) := by omega
  have s8' : ¬ cap = 8 := by omega
  have H1 := hid (leU32 b (o + 8) (len - 8) (cap - 8) ((packetOf sp dp tag (sackBytes s)).drop 8) w.drew ((hl.kept ((Kept.refl [] w).drew) (by simp)).drop 8) (by simp [HM.out]; omega) (by omega) (by omega))
  have hv : le4 (bt ((packetOf sp dp tag (sackBytes s)).drop 8) 0) (bt ((packetOf sp dp tag (sackBytes s)).drop 8) 1) (bt ((packetOf sp dp tag (sackBytes s)).drop 8) 2) (bt ((packetOf sp dp tag (sackBytes s)).drop 8) 3) = Crc.sum (packetOf sp dp tag (sackBytes s)) := by simp only [bt_drop]; exact sum_read sp dp tag (sackBytes s)
  rw [hv] at H1
  have H2 : Hid (∀ w', Kept [] w w' → Calls Tryz.prog 100 #[.slice (some ⟨b, o, none⟩) len cap] w' fun r w'' => r = .returned (.int .u32 (Crc.sum (packetOf sp dp tag (sackBytes s)))) ∧ Kept [] w' w'') := fun w' k => checksum b o len cap _ w' (hl.kept k (by simp)) HM.out (by omega) hcap hcm
  clear hv hb12
  generalize Crc.sum (packetOf sp dp tag (sackBytes s)) = y at *
  have HPK := hid hpk; clear hpk
  go_enter Tryz.func83, Tryz.ntmps83
  go_wp2_with fail
  go_still_tail 3, (by kernel_rfl)
  change wpList _ _ _ _ _ w.drew
  go_wp2_with fail
  refine H1.out.mono ?_
  rintro e w0 ⟨rfl, n1, hw1⟩
  have hk0 : Kept [] w w0 := by rw [hw1]; exact ((Kept.refl [] w).drew.alloc _).drewN n1
  clear hw1 c12
  have hx : y = 0 ∨ (((y : Nat) : Int) != 0) = true := by
    rcases Nat.eq_zero_or_pos y with h | h
    · exact .inl h
    · right; simp; omega
  go_upto_region 10 with fail
  go_cut [39] from 35 to 38 (fun s39 wx => s39 = .bool true ∧ wx = w0)
  case first =>
    rcases hx with hx | hx
    · subst hx
      go_wp2_with fail
      go_meet
      exact ⟨rfl, rfl⟩
    · go_wp2_with fail
      go_meet
      exact ⟨rfl, rfl⟩
  obtain ⟨rfl, rfl⟩ := hcut
  go_wp2_with fail
  refine (H2.out wc hk0).mono ?_
  rintro e w1 ⟨rfl, hk1'⟩
  have hk1 : Kept [p] w w1 := (hk0.trans hk1').more (by simp)
  have HPK1 := hid (((hk0.trans hk1').block p lp (by simp)).trans HPK.out)
  clear hk1' hk0 HPK H2 H1
  go_wp2_with fail
  have hl1 := hl.kept hk1 hbp'
  have HA := hid (beU16v b o len cap sp (packetOf sp dp tag (sackBytes s)) w1.drew (hl1.kept ((Kept.refl [] w1).drew) (by simp)) (by simp [HM.out]; omega) (by omega) (by omega) (by rw [packet_head]; exact be2_of _))
  have s0a : ((0 : Nat) : Int) ≤ (len : Int) := by omega
  have s0b : ¬ cap = 0 := by omega
  have s0c : (0 : Int) ≤ (len : Int) := by omega
  clear hl1
  go_region_held3 (fun _ => True) (trivial) ((go_at_call 86; refine HA.out.mono ?_; rintro e wc ⟨rfl, nc, hwc⟩; have hPc0 : wc.heap[p]? = some (.cells (pkC 0 0 0 (.slice none 0 0)) 169 (0, 0)) := hwc ▸ blk_alloc (w := w1.drew) _ HPK1.out; have hkc : Kept [p] w wc := hwc ▸ (hk1.drew.alloc _).drewN nc; have ec : wc.cell? ⟨p, 0, none⟩ = some (.int .u16 ((0 : Nat) : Int)) := blk_cell hPc0 rfl; have fc : wc.frozen? ⟨p, 0, none⟩ = false := blk_free hPc0; have hPc := hid hPc0; have lpc := blk_lt hPc0; clear hPc0 hwc))
  generalize hW : World.setCell _ _ _ = w2
  have HPK2 : Hid (w2.heap[p]? = some (.cells (pkC sp 0 0 (.slice none 0 0)) 169 (0, 0))) := by
    rw [← hW, blk_setCell _ hPc.out]; exact rfl
  have hk2 : Kept [p] w w2 := by rw [← hW]; exact hkc.setCell _ (.inl (by simp))
  clear hW ec fc hPc lpc hkc HA hk1 HPK1 s0a s0b s0c
  go_wp2_with fail
  have hl2 := hl.kept hk2 hbp'
  have HB_ := hid (beU16v b (o + 2) (len - 2) (cap - 2) dp ((packetOf sp dp tag (sackBytes s)).drop 2) w2.drew ((hl2.kept ((Kept.refl [] w2).drew) (by simp)).drop 2) (by simp [HM.out]; omega) (by omega) (by omega) (by rw [packet_head]; exact be2_of _))
  have s2a : ((2 : Nat) : Int) ≤ (len : Int) := by omega
  have s2b : ¬ cap = 2 := by omega
  have s2c : (2 : Int) ≤ (len : Int) := by omega
  clear hl2
  go_region_held3 (fun _ => True) (trivial) ((go_at_call 86; refine HB_.out.mono ?_; rintro e wc ⟨rfl, nc, hwc⟩; have hPc0 : wc.heap[p]? = some (.cells (pkC sp 0 0 (.slice none 0 0)) 169 (0, 0)) := hwc ▸ blk_alloc (w := w2.drew) _ HPK2.out; have hkc : Kept [p] w wc := hwc ▸ (hk2.drew.alloc _).drewN nc; have ec : wc.cell? ⟨p, 1, none⟩ = some (.int .u16 ((0 : Nat) : Int)) := blk_cell hPc0 rfl; have fc : wc.frozen? ⟨p, 1, none⟩ = false := blk_free hPc0; have hPc := hid hPc0; have lpc := blk_lt hPc0; clear hPc0 hwc))
  generalize hW : World.setCell _ _ _ = w3
  have HPK3 : Hid (w3.heap[p]? = some (.cells (pkC sp dp 0 (.slice none 0 0)) 169 (0, 0))) := by
    rw [← hW, blk_setCell _ hPc.out]; exact rfl
  have hk3 : Kept [p] w w3 := by rw [← hW]; exact hkc.setCell _ (.inl (by simp))
  clear hW ec fc hPc lpc hkc HB_ hk2 HPK2 s2a s2b s2c
  go_wp2_with fail
  have hl3 := hl.kept hk3 hbp'
  have HC := hid (beU32v b (o + 4) (len - 4) (cap - 4) tag ((packetOf sp dp tag (sackBytes s)).drop 4) w3.drew ((hl3.kept ((Kept.refl [] w3).drew) (by simp)).drop 4) (by simp [HM.out]; omega) (by omega) (by omega) (by rw [packet_head]; exact be4_of _))
  have s4a : ((4 : Nat) : Int) ≤ (len : Int) := by omega
  have s4b : ¬ cap = 4 := by omega
  have s4c : (4 : Int) ≤ (len : Int) := by omega
  clear hl3
  go_region_held3 (fun _ => True) (trivial) ((go_at_call 85; refine HC.out.mono ?_; rintro e wc ⟨rfl, nc, hwc⟩; have hPc0 : wc.heap[p]? = some (.cells (pkC sp dp 0 (.slice none 0 0)) 169 (0, 0)) := hwc ▸ blk_alloc (w := w3.drew) _ HPK3.out; have hkc : Kept [p] w wc := hwc ▸ (hk3.drew.alloc _).drewN nc; have ec : wc.cell? ⟨p, 2, none⟩ = some (.int .u32 ((0 : Nat) : Int)) := blk_cell hPc0 rfl; have fc : wc.frozen? ⟨p, 2, none⟩ = false := blk_free hPc0; have hPc := hid hPc0; have lpc := blk_lt hPc0; clear hPc0 hwc))
  generalize hW : World.setCell _ _ _ = w4
  have HPK4 : Hid (w4.heap[p]? = some (.cells (pkC sp dp tag (.slice none 0 0)) 169 (0, 0))) := by
    rw [← hW, blk_setCell _ hPc.out]; exact rfl
  have hk4 : Kept [p] w w4 := by rw [← hW]; exact hkc.setCell _ (.inl (by simp))
  clear hW ec fc hPc lpc hkc HC hk3 HPK3 s4a s4b s4c
  go_wp2_with fail
  have hl4 := hl.kept hk4 hbp'
  have c12 := hl4.cell 12 (by rw [HM.out]; omega)
  rw [show bt (packetOf sp dp tag (sackBytes s)) 12 = 3 by rw [packet_head]; rfl] at c12
  have x1 : (12 : Int) ≤ (len : Int) := by omega
  have x2 : ¬ cap = 12 := by omega
  have x3 : ¬ (((len - 12 : Nat) : Int) < 4) := by omega
  have x4 : (0 : Int) < ((len - 12 : Nat) : Int) := by omega
  refine wp_loop_rounds 2 ?_
  rw [rounds_succ]
  go_wp2_with fail
  generalize hW : World.alloc _ _ = w5
  have hk45 : Kept [] w4 w5 := by rw [← hW]; exact (Kept.refl [] w4).alloc _
  have hP5 : w5.heap[w4.heap.size]? = some (.cells (sackC 0 0 (.slice none 0 0) 0 (.slice none 0 0) (.slice none 0 0)) 149 (0, 0)) := by rw [← hW]; exact blk_new w4 _
  have hpk5 := (hk45.block p (blk_lt HPK4.out) (by simp)).trans HPK4.out
  have lb4 : b < w4.heap.size := Nat.lt_of_lt_of_le lb hk4.size
  have lp4 : p < w4.heap.size := Nat.lt_of_lt_of_le lp hk4.size
  have hcp : w.heap.size ≤ w4.heap.size := hk4.size
  clear hW c12
  generalize hC : w4.heap.size = cp at *
  have hk5 : Kept [p] w w5 := hk4.trans (hk45.more (by simp))
  have hl5 : BytesAt w5 b (o + 12) (sackBytes s) := by
    have h := (hl.kept hk5 hbp').drop 12
    rw [HT0.out] at h
    exact h
  have HU := hid (sack_unmarshal cp b (o + 12) (len - 12) (cap - 12) s w5 HS.out hP5 hl5 (by omega) (by omega) (by omega) (by omega))
  have HPK5 := hid hpk5
  clear hP5 hl5 hl4 hpk5
  refine HU.out.mono ?_
  rintro e w6 ⟨rfl, vg6, vd6, hP6, hog6, hod6, hk6⟩
  have hk6' : Kept [p] w w6 := hk5.thenNew hk6 (by intro r hr; simp at hr; subst hr; right; omega)
  have hpk6 := (hk6.block p (blk_lt HPK5.out) (by simp; omega)).trans HPK5.out
  have u6 : w6.cell? ⟨p, 3, none⟩ = some (.slice none 0 0) := blk_cell hpk6 rfl
  have HPK6 := hid hpk6; have HP6 := hid hP6; have HOG6 := hid hog6; have HOD6 := hid hod6
  have lcp6 := blk_lt hP6
  have lp6 := blk_lt hpk6
  clear hpk6 hP6 hog6 hod6 HU HPK5 HPK4 hk45 hk6 hk5
  obtain ⟨g7, cap7, w7, hr7, hg7, hc7, hc7', hx7, hk7⟩ := appendNil 167 171 16 .nilIface (.iface 147 (.pointer (some ⟨cp, 0, none⟩))) w6.heap.size 1 167 (w6.alloc (.cells #[.iface 147 (.pointer (some ⟨cp, 0, none⟩))] 171)) Tryz.underlying167 i162 rfl (by decide) (blk_cell (blk_new w6 _) rfl) rfl
  have hk67 : Kept [] w6 w7 := ((Kept.refl [] w6).alloc _).trans hk7
  have hpk7 := (hk67.block p lp6 (by simp)).trans HPK6.out
  have v7 : w7.cell? ⟨p, 3, none⟩ = some (.slice none 0 0) := blk_cell hpk7 rfl
  have f7 : w7.frozen? ⟨p, 3, none⟩ = false := blk_free hpk7
  have lp7 := blk_lt hpk7
  have HPK7 := hid hpk7; clear hpk7
  have HX7 := hid hx7; clear hx7
  go_wp2_with (at_builtin; refine wpList_append_run rfl _ _ 167 rfl _ _ _ rfl rfl hr7 ?_)
  generalize hW : World.setCell _ _ _ = w8
  have hpk8 : w8.heap[p]? = some (.cells (pkC sp dp tag (.slice (some ⟨g7, 0, none⟩) 1 cap7)) 169 (0, 0)) := by rw [← hW, blk_setCell _ HPK7.out]; rfl
  have hgs : w6.heap.size + 1 ≤ g7 := by simpa using hg7
  have hx8 : w8.cell? ⟨g7, 0, none⟩ = some (.iface 147 (.pointer (some ⟨cp, 0, none⟩))) := by rw [← hW]; exact ((Kept.refl [p] w7).setCell (p := ⟨p, 3, none⟩) _ (.inl (by simp))).cell (World.block_lt_of_cell? w7 _ HX7.out) (by simp; omega) |>.trans HX7.out
  have hk78 : Kept [p] w7 w8 := by rw [← hW]; exact (Kept.refl [p] w7).setCell _ (.inl (by simp))
  have hP8 : w8.heap[cp]? = some (.cells (sackC 3 0 (.slice (some ⟨b, o + 12 + 4, none⟩) s.len (cap - 12 - 4)) s.tsn vg6 vd6) 149 (0, 0)) := (hk78.block cp (Nat.lt_of_lt_of_le lcp6 hk67.size) (by simp; omega)).trans ((hk67.block cp lcp6 (by simp)).trans HP6.out)
  have HI8 := hid (show SackIn cp s w8 from ⟨_, _, _, vg6, vd6, hP8, ownsRow_kept (ownsRow_kept HOG6.out hk67 (by simp)) hk78 (by intro g hg; simp; intro e; subst e; exact own_far (ownsRow_kept HOG6.out hk67 (by simp)) HPK7.out (by decide) (own_mem.2 hg)), ownsRow_kept (ownsRow_kept HOD6.out hk67 (by simp)) hk78 (by intro g hg; simp; intro e; subst e; exact own_far (ownsRow_kept HOD6.out hk67 (by simp)) HPK7.out (by decide) (own_mem.2 hg))⟩)
  have hk8 : Kept [p] w w8 := (hk6'.trans (hk67.more (by simp))).trans hk78
  have HV := hid (valueLength cp 149 s.len (cap - 12 - 4) b (o + 12 + 4) _ _ w8 hP8 rfl)
  have HPK8 := hid hpk8; have HX8 := hid hx8
  clear hW v7 f7 hr7 hk7 HPK7 HX7 u6 HPK6 HP6 HOG6 HOD6 hpk8 hx8 hP8
  go_wp2_with fail
  refine HV.out.mono ?_
  rintro e w9 ⟨rfl, rfl⟩
  go_wp2_with fail
  refine (getPadding (s.len : Int) w8 (by omega) (by omega)).mono ?_
  rintro e w9 ⟨rfl, rfl⟩
  have hpe : (4 - (s.len : Int) % 4) % 4 = 0 := by have := HM4.out; omega
  rw [hpe]
  clear hpe
  generalize s.len = N at *
  go_wp2_with fail
  refine HV.out.mono ?_
  rintro e w9 ⟨rfl, rfl⟩
  go_wp2_with fail
  have y1 : ((12 : Int) + (4 + (N : Int)) < (len : Int)) = False := by simp; omega
  rw [rounds_succ]
  go_wp2_with fail
  go_ret
  exact ⟨rfl, g7, cap7, cp, HPK8.out, HX8.out, hcp, by have := hk6'.size; omega, by omega, HI8.out, hk8⟩
/-- A packet with one SACK. -/
theorem packsS (sp dp tag : Nat) (s : Sk) (hs : s.ok) (hsp : sp < 65536) (hdp : dp < 65536) :
    Packs (12 + (4 + s.len) + padN (4 + s.len)) sp dp tag (4 + s.len) (packetOf sp dp tag (sackBytes s)) (sackBytes s) := by
  intro b o cap w hl hcap hcm
  refine ZZPacket_ok 147 60 b o _ cap sp dp tag (4 + s.len) _ (sackBytes s) (fun cp => SackIn cp s) w ?_ hl ?_ (fun _ w => methS _ w) (fun _ w => callS _ w) hsp hdp
  · intro p w hpk hl hbp
    exact unmarshal_okS p b o _ cap sp dp tag s w hs hpk hl rfl hcap hcm hbp
  · intro cp w h
    exact sack_marshal' cp s w hs h
/-- Its text. -/
theorem textsS (sp dp tag : Nat) (s : Sk) (hs : s.ok) (hsp : sp < 65536) (hdp : dp < 65536) (htag : tag < 4294967296) : Texts sp dp tag (4 + s.len) (12 + (4 + s.len) + padN (4 + s.len)) (sackBytes s) := by
  intro cb ccap b o cap w hcb hl hcap hcm
  exact ZZPacketTextS cb ccap b o cap sp dp tag s w hs hcb hl hcap hcm hsp hdp htag
end Go.Proofs.Base
end
section
namespace Go.Proofs.Base
open Go Go.Proofs Go.RowKit Go.Proofs.Gaps
set_option maxRecDepth 100000
theorem tells_sk {N u : Nat} {js : List Nat} {G : List (Nat × Nat)} (h : Tells N js u G) (hN : N < 64) (f : Nat) {ds : List Nat} (hd : ds.length < 1000) (hds : ∀ x ∈ ds, x < 4294967296) : Sk.ok ⟨tsn f u, G, ds⟩ :=
  ⟨by show tsn f u < _; unfold tsn; omega, fun g hg => by have := h.are g hg; omega, hds, by have := h.few; show G.length < 1000; omega, hd⟩
set_option maxHeartbeats 4000000 in
theorem tells (s m f N base : Nat) (vn vp : Value) (js : List Nat) (w : World) (hN : N < 64) (hjs : ∀ j ∈ js, 1 ≤ j ∧ j ≤ N) (hl : js.length < 900) (hs : w.heap[s]? = some (.cells (sideC (tsn f 1) vn m vp) 38 (0, 0)))
    (hvn : w.ownsRow base 22 1 vn js.length (u32s (nums f js))) (hT : Bruijn w) :
    Calls Tryz.prog 17 #[.pointer (some ⟨s, 0, none⟩)] w fun e w' => ∃ u G vg Ad nd Cd, e = .returned (.tuple #[.agg #[.int .u32 (tsn f u : Nat), .int .u32 0, vg, .slice Ad nd Cd], .bool true]) ∧ Tells N js u G ∧ u + 1 ∉ js ∧
      w'.ownsRow w.heap.size 79 2 vg G.length (g64 G) ∧ Kept [] w w' := by
  have k1 : IntKind.u32.wrap ((tsn f 1 : Int) - 1) = ((tsn f 0 : Nat) : Int) := by rw [IntKind.wrap_u32]; unfold tsn; omega
  have a0 : w.cell? ⟨s, 0, none⟩ = some (.int .u32 (tsn f 1 : Nat)) := blk_cell hs rfl
  have a1 : w.cell? ⟨s, 1, none⟩ = some vn := blk_cell hs rfl
  have ls := blk_lt hs
  have HS := hid hs; have HVN := hid hvn; have HT := hid hT; have HJS := hid hjs
  clear hs hvn hT hjs
  go_enter Tryz.func17, Tryz.ntmps17
  go_wp2_with fail
  generalize hW : World.alloc _ _ = w1
  have hk1 : Kept [] w w1 := by rw [← hW]; exact (Kept.refl [] w).alloc _
  have hR1 : w1.heap[w.heap.size]? = some (.cells #[.int .u32 0, .int .u32 0, .slice none 0 0, .slice none 0 0] 59 (0, 0)) := by rw [← hW]; exact blk_new w _
  clear hW
  obtain ⟨An, Cn, rfl⟩ := own_form HVN.out
  have H18 : Hid (∀ wx, Kept [] w wx → Calls Tryz.prog 26 #[.int .u32 (tsn f 0 : Nat), .slice An js.length Cn] wx fun e w' => ∃ u G ds vg vd, e = .returned (.tuple #[.agg #[.int .u32 (tsn f u : Nat), .int .u32 0, vg, vd], .bool true]) ∧ Tells N js u G ∧ u + 1 ∉ js ∧
      w'.ownsRow wx.heap.size 79 2 vg G.length (g64 G) ∧ w'.ownsRow wx.heap.size 22 1 vd ds.length (u32s ds) ∧ ds.length ≤ js.length ∧ (∀ x ∈ ds, x < 4294967296) ∧ Kept [] wx w') :=
    fun wx hk => Received base f N _ js wx hN HJS.out hl (ownsRow_kept HVN.out hk (by simp)) (HT.out.kept hk (by simp))
  have ls1 : s < w1.heap.size := Nat.lt_of_lt_of_le ls hk1.size
  have hS1 := (hk1.block s ls (by simp)).trans HS.out
  have b0 : w1.cell? ⟨s, 0, none⟩ = some (.int .u32 (tsn f 1 : Nat)) := blk_cell hS1 rfl
  have b1 : w1.cell? ⟨s, 1, none⟩ = some (.slice An js.length Cn) := blk_cell hS1 rfl
  have hkd : Kept [] w w1.drew := hk1.drew
  have hkda : Kept [] w (w1.drew.alloc (.cells #[.int .u32 0, .int .u32 0, .slice none 0 0, .slice none 0 0] 59)) := hk1.drew.alloc _
  have hNew := blk_new w1.drew (.cells #[.int .u32 0, .int .u32 0, .slice none 0 0, .slice none 0 0] 59)
  have HKD := hid hkd; have HKDA := hid hkda; have HNEW := hid hNew; have HR1 := hid hR1; have HK1 := hid hk1
  have hsB : w.heap.size ≤ w1.heap.size := hk1.size
  clear hkd hkda hNew hR1 hk1 hS1 a0 a1
  have hne1 : s ≠ w1.heap.size := by omega
  have hne2 : w1.heap.size ≠ s := by omega
  go_cut [4, 5] from 12 to 24 (fun s4 s5 wx => ∃ C u G ds Ag Cg Ad Cd, s4 = .pointer (some ⟨C, 0, none⟩) ∧ s5 = .bool true ∧ Tells N js u G ∧ u + 1 ∉ js ∧ wx.heap[C]? = some (.cells #[.int .u32 (tsn f u : Nat), .int .u32 0, .slice Ag G.length Cg, .slice Ad ds.length Cd] 59 (0, 0)) ∧
    wx.ownsRow w.heap.size 79 2 (.slice Ag G.length Cg) G.length (g64 G) ∧ wx.ownsRow w.heap.size 22 1 (.slice Ad ds.length Cd) ds.length (u32s ds) ∧ ds.length ≤ js.length ∧ (∀ x ∈ ds, x < 4294967296) ∧ wx.heap[w.heap.size]? = some (.cells #[.int .u32 0, .int .u32 0, .slice none 0 0, .slice none 0 0] 59 (0, 0)) ∧ Kept [] w wx)
  case first =>
    go_region_held_law (fun w' => w'.cell? ⟨s, 0, none⟩ = some (.int .u32 (tsn f 1 : Nat)) ∧ w'.cell? ⟨s, 1, none⟩ = some (.slice An js.length Cn))
      (go_keep)
      ((go_at_call 26; refine (H18.out _ (by first | exact HKD.out | exact HKDA.out)).mono ?_; rintro e wc ⟨u, G, ds, vg, vd, rfl, hte, hnu, hog, hod, hdl, hds, hk⟩; obtain ⟨Ag, Cg, rfl⟩ := own_form hog; obtain ⟨Ad, Cd, rfl⟩ := own_form hod; have HKC := hid hk; have hkc := (by first | exact HKD.out.trans hk | exact HKDA.out.trans hk : Kept [] w wc); have hSc := (hkc.block s ls (by simp)).trans HS.out; have d0 : wc.cell? ⟨s, 0, none⟩ = some (.int .u32 (tsn f 1 : Nat)) := blk_cell hSc rfl; have d1 : wc.cell? ⟨s, 1, none⟩ = some (.slice An js.length Cn) := blk_cell hSc rfl; have lsc := blk_lt hSc; have HRC : Hid (wc.heap[w.heap.size]? = some (.cells #[.int .u32 0, .int .u32 0, .slice none 0 0, .slice none 0 0] 59 (0, 0))) := (by first | exact (hk.block w.heap.size (show w.heap.size < w1.drew.heap.size from blk_lt HR1.out) (by simp)).trans HR1.out | exact (hk.block w.heap.size (show w.heap.size < (w1.alloc (.cells #[.int .u32 0, .int .u32 0, .slice none 0 0, .slice none 0 0] 59)).heap.size by rw [World.size_alloc]; exact Nat.lt_succ_of_lt (blk_lt HR1.out)) (by simp)).trans (blk_alloc (w := w1) _ HR1.out)); (try (have hCc : wc.heap[w1.heap.size]? = some (.cells #[.int .u32 0, .int .u32 0, .slice none 0 0, .slice none 0 0] 59 (0, 0)) := (hk.block _ (blk_lt HNEW.out) (by simp)).trans HNEW.out; have z0 : wc.cell? ⟨w1.heap.size, 0, none⟩ = some (.int .u32 0) := blk_cell hCc rfl; have z1 : wc.cell? ⟨w1.heap.size, 1, none⟩ = some (.int .u32 0) := blk_cell hCc rfl; have z2 : wc.cell? ⟨w1.heap.size, 2, none⟩ = some (.slice none 0 0) := blk_cell hCc rfl; have z3 : wc.cell? ⟨w1.heap.size, 3, none⟩ = some (.slice none 0 0) := blk_cell hCc rfl; have f0 : wc.frozen? ⟨w1.heap.size, 0, none⟩ = false := blk_free hCc; have f1 : wc.frozen? ⟨w1.heap.size, 1, none⟩ = false := blk_free hCc; have f2 : wc.frozen? ⟨w1.heap.size, 2, none⟩ = false := blk_free hCc; have f3 : wc.frozen? ⟨w1.heap.size, 3, none⟩ = false := blk_free hCc; have lCc := blk_lt hCc; have HCC := hid hCc; clear hCc)); have HOG := hid hog; have HOD := hid hod; have HTE := hid hte; have HDS := hid hds; have HKW := hid hkc; clear hSc hog hod hte hds hkc hk))
    · go_wp2_with fail
      go_meet
      have h2 : w1.drew.heap.size = w1.heap.size := rfl
      have ho1 := own_base (base' := w.heap.size) (ownsRow_kept HOG.out ((Kept.refl [] wc).alloc (.cells #[.int .u32 (tsn f u : Nat), .int .u32 0, .slice Ag G.length Cg, .slice Ad ds.length Cd] 59)) (by simp)) (by omega)
      have ho2 := own_base (base' := w.heap.size) (ownsRow_kept HOD.out ((Kept.refl [] wc).alloc (.cells #[.int .u32 (tsn f u : Nat), .int .u32 0, .slice Ag G.length Cg, .slice Ad ds.length Cd] 59)) (by simp)) (by omega)
      exact ⟨wc.heap.size, u, G, ds, Ag, Cg, Ad, Cd, rfl, rfl, HTE.out, hnu, blk_new wc _, ho1, ho2, hdl, HDS.out, blk_alloc _ HRC.out, HKW.out.alloc _⟩
    · go_wp2_with fail
      go_meet
      have hbl := blk_setCell (i := 3) (.slice Ad ds.length Cd) (blk_setCell (i := 2) (.slice Ag G.length Cg) (blk_setCell (i := 1) (.int .u32 0) (blk_setCell (i := 0) (.int .u32 (tsn f u : Nat)) HCC.out)))
      have hk9 : Kept [w1.heap.size] wc ((((wc.setCell ⟨w1.heap.size, 0, none⟩ (.int .u32 (tsn f u : Nat))).setCell ⟨w1.heap.size, 1, none⟩ (.int .u32 0)).setCell ⟨w1.heap.size, 2, none⟩ (.slice Ag G.length Cg)).setCell ⟨w1.heap.size, 3, none⟩ (.slice Ad ds.length Cd)) :=
        ((((Kept.refl [w1.heap.size] wc).setCell (p := ⟨w1.heap.size, 0, none⟩) _ (.inl (by simp))).setCell (p := ⟨w1.heap.size, 1, none⟩) _ (.inl (by simp))).setCell (p := ⟨w1.heap.size, 2, none⟩) _ (.inl (by simp))).setCell (p := ⟨w1.heap.size, 3, none⟩) _ (.inl (by simp))
      have hgo : ∀ g, (Value.slice Ag G.length Cg).ownBlock = some g → g ∉ [w1.heap.size] := by
        intro g hg; have hb := own_ge HOG.out (own_mem.2 hg); have hb2 : w1.heap.size + 1 ≤ g := by rw [← World.size_alloc w1 (.cells #[.int .u32 0, .int .u32 0, .slice none 0 0, .slice none 0 0] 59)]; exact hb
        simp; omega
      have hgd : ∀ g, (Value.slice Ad ds.length Cd).ownBlock = some g → g ∉ [w1.heap.size] := by
        intro g hg; have hb := own_ge HOD.out (own_mem.2 hg); have hb2 : w1.heap.size + 1 ≤ g := by rw [← World.size_alloc w1 (.cells #[.int .u32 0, .int .u32 0, .slice none 0 0, .slice none 0 0] 59)]; exact hb
        simp; omega
      have hle : w.heap.size ≤ (w1.alloc (.cells #[.int .u32 0, .int .u32 0, .slice none 0 0, .slice none 0 0] 59)).heap.size := by rw [World.size_alloc]; exact Nat.le_succ_of_le hsB
      have ho1 := own_base (ownsRow_kept HOG.out hk9 hgo) hle
      have ho2 := own_base (ownsRow_kept HOD.out hk9 hgd) hle
      have hlr : w.heap.size < w1.heap.size := blk_lt HR1.out
      have hr9 := (hk9.block w.heap.size (blk_lt HRC.out) (by simp; omega)).trans HRC.out
      exact ⟨w1.heap.size, u, G, ds, Ag, Cg, Ad, Cd, rfl, rfl, HTE.out, hnu, hbl, ho1, ho2, hdl, HDS.out, hr9, HKW.out.thenNew hk9 (by intro r hr; simp at hr; subst hr; exact .inr hsB)⟩
  obtain ⟨C, u, G, ds, Ag, Cg, Ad, Cd, rfl, rfl, hte, hnu, hC, hog, hod, hdl, hds, hrc, hkc⟩ := hcut
  have hok := tells_sk hte hN f (ds := ds) (by omega) hds
  have c0 : wc.cell? ⟨C, 0, none⟩ = some (.int .u32 (tsn f u : Nat)) := blk_cell hC rfl
  have c1 : wc.cell? ⟨C, 1, none⟩ = some (.int .u32 0) := blk_cell hC rfl
  have c2 : wc.cell? ⟨C, 2, none⟩ = some (.slice Ag G.length Cg) := blk_cell hC rfl
  have c3 : wc.cell? ⟨C, 3, none⟩ = some (.slice Ad ds.length Cd) := blk_cell hC rfl
  have lC := blk_lt hC
  have HTE := hid hte; have HOK := hid hok; have HK1w := hid hkc; have HRC := hid hrc; have HOG := hid hog; have HOD := hid hod
  clear hte hok hC hog hod hds hrc hkc H18 HKD HKDA HNEW HR1 HK1 b0 b1
  have H19 := hid (SackText _ _ _ _ ⟨tsn f u, G, ds⟩ wc HOK.out HOG.out HOD.out)
  go_wp2_with fail
  refine H19.out.mono ?_
  rintro e w2 ⟨g2, cap2, hg2, hc2, hc2', rfl, hb2, hk2⟩
  have hsl := len_pos_sack _ HOK.out
  have H20 := hid (lawsPacket _ _ _ (textsS 5000 5001 7 _ HOK.out (by decide) (by decide) (by decide)) g2 0 cap2 w2 hb2 (len_sackBytes _) (by omega) (by omega) (by omega) (by have := HOK.out; unfold padN; omega))
  have HK2 := hid (HK1w.out.trans hk2); have HKc2 := hid hk2
  clear hb2 hk2 H19 c0 c1 c2 c3
  go_wp2_with fail
  refine H20.out.mono ?_
  rintro e w3 ⟨g3, cap3, hg3, hc3, hc3', rfl, hb3, hk3⟩
  have H21 := hid (chunk_ok g3 0 _ cap3 _ _ _ w3 (packsS 5000 5001 7 _ HOK.out (by decide) (by decide)) hb3 (by rw [len_packetOf, len_sackBytes]) (by omega) (by unfold padN; omega) (small_sackBytes _ HOK.out) (len_sackBytes _) (by omega) (by omega))
  have HK3 := hid (HK2.out.trans hk3); have HKc3 := hid (HKc2.out.trans hk3)
  clear hb3 hk3 H20
  go_wp2_with fail
  refine H21.out.mono ?_
  rintro e w4 ⟨B4, cap4, rfl, hb4, hc4, hc4', hB4, hk4⟩
  have H22 := hid (SackOf B4 0 cap4 _ w4 HOK.out hb4)
  have HK4 := hid (HK3.out.trans hk4); have HKc4 := hid (HKc3.out.trans hk4)
  clear hb4 hk4 H21
  go_wp2_with fail
  refine H22.out.mono ?_
  rintro e w5 ⟨vg, vd, rfl, hg5, hd5, hk5⟩
  obtain ⟨Ao, Co, rfl⟩ := own_form hg5
  obtain ⟨Aq, Cq, rfl⟩ := own_form hd5
  have HG5 := hid hg5; have HK5 := hid (HK4.out.trans hk5)
  have hs4 := HK4.out.size
  have hR5 := ((HKc4.out.trans hk5).block w.heap.size (blk_lt HRC.out) (by simp)).trans HRC.out
  have r0 : w5.cell? ⟨w.heap.size, 0, none⟩ = some (.int .u32 0) := blk_cell hR5 rfl
  have r1 : w5.cell? ⟨w.heap.size, 1, none⟩ = some (.int .u32 0) := blk_cell hR5 rfl
  have r2 : w5.cell? ⟨w.heap.size, 2, none⟩ = some (.slice none 0 0) := blk_cell hR5 rfl
  have r3 : w5.cell? ⟨w.heap.size, 3, none⟩ = some (.slice none 0 0) := blk_cell hR5 rfl
  have f0 : w5.frozen? ⟨w.heap.size, 0, none⟩ = false := blk_free hR5
  have f1 : w5.frozen? ⟨w.heap.size, 1, none⟩ = false := blk_free hR5
  have f2 : w5.frozen? ⟨w.heap.size, 2, none⟩ = false := blk_free hR5
  have f3 : w5.frozen? ⟨w.heap.size, 3, none⟩ = false := blk_free hR5
  have lR5 := blk_lt hR5
  have HR5 := hid hR5
  clear hg5 hd5 hk5 H22 hR5
  have hGs := fun g (hg : g ∈ own (.slice Ao G.length Co)) => own_ge HG5.out hg
  have hR4 : w.heap.size < w4.heap.size := by have h1 := blk_lt HRC.out; have h2 := HKc4.out.size; omega
  go_wp2_with fail
  generalize hW : World.setCell _ _ _ = w6
  have hbl : w6.heap[w.heap.size]? = some (.cells #[.int .u32 (tsn f u : Nat), .int .u32 0, .slice Ao G.length Co, .slice Aq ds.length Cq] 59 (0, 0)) := by
    rw [← hW]
    exact blk_setCell (i := 3) (.slice Aq ds.length Cq) (blk_setCell (i := 2) (.slice Ao G.length Co) (blk_setCell (i := 1) (.int .u32 0) (blk_setCell (i := 0) (.int .u32 (tsn f u : Nat)) HR5.out)))
  have hk56 : Kept [w.heap.size] w5 w6 := by
    rw [← hW]
    exact ((((Kept.refl [w.heap.size] w5).setCell (p := ⟨w.heap.size, 0, none⟩) _ (.inl (by simp))).setCell (p := ⟨w.heap.size, 1, none⟩) _ (.inl (by simp))).setCell (p := ⟨w.heap.size, 2, none⟩) _ (.inl (by simp))).setCell (p := ⟨w.heap.size, 3, none⟩) _ (.inl (by simp))
  clear hW
  have ho6 := own_base (base' := w.heap.size) (ownsRow_kept HG5.out hk56 (by intro g hg; have := hGs g (own_mem.2 hg); simp; omega)) (by omega)
  have hv := run_loadVar_blk (cs := #[.int .u32 (tsn f u : Nat), .int .u32 0, .slice Ao G.length Co, .slice Aq ds.length Cq]) Tryz.underlying59 sizeSack hbl
  refine bodyPost_ret (v := .tuple #[.agg #[.int .u32 (tsn f u : Nat), .int .u32 0, .slice Ao G.length Co, .slice Aq ds.length Cq], .bool true]) (results_cell_tmp2' rfl rfl rfl hv) rfl ⟨u, G, _, Aq, ds.length, Cq, rfl, HTE.out, hnu, ho6, HK5.out.thenNew hk56 (by intro r hr; simp at hr; subst hr; exact .inr (Nat.le_refl _))⟩
end Go.Proofs.Base
end
