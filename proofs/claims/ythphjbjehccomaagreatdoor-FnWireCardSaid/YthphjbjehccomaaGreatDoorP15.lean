/- A part of the proof, step P15: what the code and the plain laws of this step give. Made by AI agents; no person has read it. -/
import Derived.Test.YthphjbjehccomaaGreatDoorP14
import Derived.Deep.Cut
import Derived.Deep.CutRange
namespace Go.Proofs.Base
open Go Go.Proofs Go.RowKit
set_option maxRecDepth 100000
theorem packet_head (sp dp tag : Nat) (T : List Nat) : packetOf sp dp tag T = (sp / 256) :: (sp % 256) :: (dp / 256) :: (dp % 256) :: (tag / 16777216) :: (tag / 65536 % 256) :: (tag / 256 % 256) :: (tag % 256) ::
    (Crc.sum (rawOf sp dp tag T) % 256) :: (Crc.sum (rawOf sp dp tag T) / 256 % 256) :: (Crc.sum (rawOf sp dp tag T) / 65536 % 256) :: (Crc.sum (rawOf sp dp tag T) / 16777216) :: (T ++ List.replicate (padN T.length) 0) := rfl
theorem sum_packet (sp dp tag : Nat) (T : List Nat) : Crc.sum (packetOf sp dp tag T) = Crc.sum (rawOf sp dp tag T) := by
  unfold packetOf put4le
  rw [Crc.sum_field _ _ _ (by omega) (by omega), Crc.sum_field _ _ _ (by omega) (by omega), Crc.sum_field _ _ _ (by omega) (by omega), Crc.sum_field _ _ _ (by omega) (by omega)]
theorem le4_of (v : Nat) : le4 (v % 256) (v / 256 % 256) (v / 65536 % 256) (v / 16777216) = v := by unfold le4; omega
theorem sum_read (sp dp tag : Nat) (T : List Nat) : le4 (bt (packetOf sp dp tag T) 8) (bt (packetOf sp dp tag T) 9) (bt (packetOf sp dp tag T) 10) (bt (packetOf sp dp tag T) 11) = Crc.sum (packetOf sp dp tag T) := by
  rw [sum_packet, packet_head]; exact le4_of _
theorem packet_drop (sp dp tag : Nat) (T : List Nat) : (packetOf sp dp tag T).drop 12 = T ++ List.replicate (padN T.length) 0 := by rw [packet_head]; rfl
theorem packet_user (sp dp tag : Nat) (d : Pd) (l : List Nat) : ((packetOf sp dp tag (dataBytes d l)).drop 28).take l.length = l := by
  rw [packet_head]
  show (l ++ _).take _ = l
  simp
theorem valueLength (p e n cap : Nat) (b o : Nat) (cs : Array Value) (fr : Nat × Nat) (w : World) (h : w.heap[p]? = some (.cells cs e fr)) (h2 : cs[2]? = some (.slice (some ⟨b, o, none⟩) n cap)) :
    Calls Tryz.prog 166 #[.pointer (some ⟨p, 0, none⟩)] w fun e w' => e = .returned (.int .i64 n) ∧ w = w' := by
  have c2 : w.cell? ⟨p, 2, none⟩ = some (.slice (some ⟨b, o, none⟩) n cap) := blk_cell h h2
  go_enter Tryz.func166, Tryz.ntmps166
  go_wp2
  go_ret
  exact ⟨rfl, rfl⟩
set_option maxRecDepth 100000 in
set_option maxHeartbeats 4000000 in
theorem unmarshal_okD (p b o len cap n sp dp tag : Nat) (d : Pd) (l : List Nat) (T : List Nat) (w : World) (hT : T = dataBytes d l) (hpk : w.heap[p]? = some (.cells (pkC 0 0 0 (.slice none 0 0)) 169 (0, 0))) (hl : BytesAt w b o (packetOf sp dp tag T)) (hd : d.ok) (hn : l.length = n)
    (hlen : 12 + (16 + n) + padN (16 + n) = len) (hp : 0 < n) (hm : n < 40000) (hcap : len ≤ cap) (hcm : cap ≤ 9223372036854775807) (hbp : b ≠ p) :
    Calls Tryz.prog 83 #[.pointer (some ⟨p, 0, none⟩), .bool true, .slice (some ⟨b, o, none⟩) len cap] w fun e w' => e = .returned .nilIface ∧ ∃ g cap' cp, w'.heap[p]? = some (.cells (pkC sp dp tag (.slice (some ⟨g, 0, none⟩) 1 cap')) 169 (0, 0)) ∧
      w'.cell? ⟨g, 0, none⟩ = some (.iface 83 (.pointer (some ⟨cp, 0, none⟩))) ∧ w.heap.size ≤ cp ∧ w.heap.size ≤ g ∧ cp ≠ g ∧
      PieceIn cp 0 (flagOf d.bg d.en) b (o + 28) n (cap - 28) (.slice (some ⟨b, o + 16, none⟩) (12 + n) (cap - 16)) d l w' ∧ Kept [p] w w' := by
  have lp := blk_lt hpk
  have lb := hl.lt
  have hbp' : b ∉ [p] := by simpa using hbp
  have hTl : T.length = 16 + n := by rw [hT, len_dataBytes, hn]
  have HN := hid hn; clear hn
  have hpd : padN (16 + n) < 4 := by unfold padN; omega
  have hM : (packetOf sp dp tag T).length = len := by rw [len_packetOf, hTl]; omega
  have HM := hid hM; clear hM
  have HLEN := hid hlen
  have hlenlo : 28 + n ≤ len := by omega
  have hlenhi : len < 28 + n + 4 := by omega
  have q1 : ¬ (len : Int) < 12 := by omega
  have q2 : (16 : Int) ≤ (len : Int) := by omega
  have q3 : (12 : Int) < (len : Int) := by omega
  have c12 := hl.cell 12 (by rw [HM.out]; omega)
  have hb12 : bt (packetOf sp dp tag T) 12 = 0 := by rw [hT, packet_head]; rfl
  rw [hb12] at c12
  have s8 : (8 : Int) ≤ (len : Int) := by omega
  have s8c : (8 : Int) ≤ (cap : Int) := by omega
  have s8' : ¬ cap = 8 := by omega
  have H1 := hid (leU32 b (o + 8) (len - 8) (cap - 8) ((packetOf sp dp tag T).drop 8) w.drew ((hl.kept ((Kept.refl [] w).drew) (by simp)).drop 8) (by simp [HM.out]; omega) (by omega) (by omega))
  have hv : le4 (bt ((packetOf sp dp tag T).drop 8) 0) (bt ((packetOf sp dp tag T).drop 8) 1) (bt ((packetOf sp dp tag T).drop 8) 2) (bt ((packetOf sp dp tag T).drop 8) 3) = Crc.sum (packetOf sp dp tag T) := by simp only [bt_drop]; exact sum_read sp dp tag T
  rw [hv] at H1
  have H2 : Hid (∀ w', Kept [] w w' → Calls Tryz.prog 100 #[.slice (some ⟨b, o, none⟩) len cap] w' fun r w'' => r = .returned (.int .u32 (Crc.sum (packetOf sp dp tag T))) ∧ Kept [] w' w'') := fun w' k => checksum b o len cap _ w' (hl.kept k (by simp)) HM.out (by omega) hcap hcm
  clear hv hb12
  generalize Crc.sum (packetOf sp dp tag T) = y at *
  have HPK := hid hpk; clear hpk
  go_enter Tryz.func83, Tryz.ntmps83
  go_wp2_with fail
  go_still_tail 3, (by kernel_rfl)
  change wpList _ _ _ _ _ w.drew
  go_wp2_with fail
  refine H1.out.mono ?_
  rintro e w0 ⟨rfl, n1, hw1⟩
  have hk0 : Kept [] w w0 := by rw [hw1]; exact ((Kept.refl [] w).drew.alloc _).drewN n1
  clear hw1 c12
  have hx : y = 0 ∨ (((y : Nat) : Int) != 0) = true := by
    rcases Nat.eq_zero_or_pos y with h | h
    · exact .inl h
    · right; simp; omega
  go_upto_region 10 with fail
  go_cut [39] from 35 to 38 (fun s39 wx => s39 = .bool true ∧ wx = w0)
  case first =>
    rcases hx with hx | hx
    · subst hx
      go_wp2_with fail
      go_meet
      exact ⟨rfl, rfl⟩
    · go_wp2_with fail
      go_meet
      exact ⟨rfl, rfl⟩
  obtain ⟨rfl, rfl⟩ := hcut
  go_wp2_with fail
  refine (H2.out wc hk0).mono ?_
  rintro e w1 ⟨rfl, hk1'⟩
  have hk1 : Kept [p] w w1 := (hk0.trans hk1').more (by simp)
  have HPK1 := hid (((hk0.trans hk1').block p lp (by simp)).trans HPK.out)
  clear hk1' hk0 HPK H2 H1
  go_wp2_with fail
  have hl1 := hl.kept hk1 hbp'
  have HA := hid (beU16v b o len cap sp (packetOf sp dp tag T) w1.drew (hl1.kept ((Kept.refl [] w1).drew) (by simp)) (by simp [HM.out]; omega) (by omega) (by omega) (by rw [packet_head]; exact be2_of _))
  have s0a : ((0 : Nat) : Int) ≤ (len : Int) := by omega
  have s0b : ¬ cap = 0 := by omega
  have s0c : (0 : Int) ≤ (len : Int) := by omega
  clear hl1
  go_region_held3 (fun _ => True) (trivial) ((go_at_call 86; refine HA.out.mono ?_; rintro e wc ⟨rfl, nc, hwc⟩; have hPc0 : wc.heap[p]? = some (.cells (pkC 0 0 0 (.slice none 0 0)) 169 (0, 0)) := hwc ▸ blk_alloc (w := w1.drew) _ HPK1.out; have hkc : Kept [p] w wc := hwc ▸ (hk1.drew.alloc _).drewN nc; have ec : wc.cell? ⟨p, 0, none⟩ = some (.int .u16 ((0 : Nat) : Int)) := blk_cell hPc0 rfl; have fc : wc.frozen? ⟨p, 0, none⟩ = false := blk_free hPc0; have hPc := hid hPc0; have lpc := blk_lt hPc0; clear hPc0 hwc))
  generalize hW : World.setCell _ _ _ = w2
  have HPK2 : Hid (w2.heap[p]? = some (.cells (pkC sp 0 0 (.slice none 0 0)) 169 (0, 0))) := by
    rw [← hW, blk_setCell _ hPc.out]; exact rfl
  have hk2 : Kept [p] w w2 := by rw [← hW]; exact hkc.setCell _ (.inl (by simp))
  clear hW ec fc hPc lpc hkc HA hk1 HPK1 s0a s0b s0c
  go_wp2_with fail
  have hl2 := hl.kept hk2 hbp'
  have HB_ := hid (beU16v b (o + 2) (len - 2) (cap - 2) dp ((packetOf sp dp tag T).drop 2) w2.drew ((hl2.kept ((Kept.refl [] w2).drew) (by simp)).drop 2) (by simp [HM.out]; omega) (by omega) (by omega) (by rw [packet_head]; exact be2_of _))
  have s2a : ((2 : Nat) : Int) ≤ (len : Int) := by omega
  have s2b : ¬ cap = 2 := by omega
  have s2c : (2 : Int) ≤ (len : Int) := by omega
  clear hl2
  go_region_held3 (fun _ => True) (trivial) ((go_at_call 86; refine HB_.out.mono ?_; rintro e wc ⟨rfl, nc, hwc⟩; have hPc0 : wc.heap[p]? = some (.cells (pkC sp 0 0 (.slice none 0 0)) 169 (0, 0)) := hwc ▸ blk_alloc (w := w2.drew) _ HPK2.out; have hkc : Kept [p] w wc := hwc ▸ (hk2.drew.alloc _).drewN nc; have ec : wc.cell? ⟨p, 1, none⟩ = some (.int .u16 ((0 : Nat) : Int)) := blk_cell hPc0 rfl; have fc : wc.frozen? ⟨p, 1, none⟩ = false := blk_free hPc0; have hPc := hid hPc0; have lpc := blk_lt hPc0; clear hPc0 hwc))
  generalize hW : World.setCell _ _ _ = w3
  have HPK3 : Hid (w3.heap[p]? = some (.cells (pkC sp dp 0 (.slice none 0 0)) 169 (0, 0))) := by
    rw [← hW, blk_setCell _ hPc.out]; exact rfl
  have hk3 : Kept [p] w w3 := by rw [← hW]; exact hkc.setCell _ (.inl (by simp))
  clear hW ec fc hPc lpc hkc HB_ hk2 HPK2 s2a s2b s2c
  go_wp2_with fail
  have hl3 := hl.kept hk3 hbp'
  have HC := hid (beU32v b (o + 4) (len - 4) (cap - 4) tag ((packetOf sp dp tag T).drop 4) w3.drew ((hl3.kept ((Kept.refl [] w3).drew) (by simp)).drop 4) (by simp [HM.out]; omega) (by omega) (by omega) (by rw [packet_head]; exact be4_of _))
  have s4a : ((4 : Nat) : Int) ≤ (len : Int) := by omega
  have s4b : ¬ cap = 4 := by omega
  have s4c : (4 : Int) ≤ (len : Int) := by omega
  clear hl3
  go_region_held3 (fun _ => True) (trivial) ((go_at_call 85; refine HC.out.mono ?_; rintro e wc ⟨rfl, nc, hwc⟩; have hPc0 : wc.heap[p]? = some (.cells (pkC sp dp 0 (.slice none 0 0)) 169 (0, 0)) := hwc ▸ blk_alloc (w := w3.drew) _ HPK3.out; have hkc : Kept [p] w wc := hwc ▸ (hk3.drew.alloc _).drewN nc; have ec : wc.cell? ⟨p, 2, none⟩ = some (.int .u32 ((0 : Nat) : Int)) := blk_cell hPc0 rfl; have fc : wc.frozen? ⟨p, 2, none⟩ = false := blk_free hPc0; have hPc := hid hPc0; have lpc := blk_lt hPc0; clear hPc0 hwc))
  generalize hW : World.setCell _ _ _ = w4
  have HPK4 : Hid (w4.heap[p]? = some (.cells (pkC sp dp tag (.slice none 0 0)) 169 (0, 0))) := by
    rw [← hW, blk_setCell _ hPc.out]; exact rfl
  have hk4 : Kept [p] w w4 := by rw [← hW]; exact hkc.setCell _ (.inl (by simp))
  clear hW ec fc hPc lpc hkc HC hk3 HPK3 s4a s4b s4c
  go_wp2_with fail
  have hl4 := hl.kept hk4 hbp'
  have c12 := hl4.cell 12 (by rw [HM.out]; omega)
  rw [show bt (packetOf sp dp tag T) 12 = 0 by rw [hT, packet_head]; rfl] at c12
  have x1 : (12 : Int) ≤ (len : Int) := by omega
  have x2 : ¬ cap = 12 := by omega
  have x3 : ¬ (((len - 12 : Nat) : Int) < 4) := by omega
  have x4 : (0 : Int) < ((len - 12 : Nat) : Int) := by omega
  refine wp_loop_rounds 2 ?_
  rw [rounds_succ]
  go_wp2_with fail
  generalize hW : World.alloc _ _ = w5
  have hk45 : Kept [] w4 w5 := by rw [← hW]; exact (Kept.refl [] w4).alloc _
  have hP5 : PayAt w5 w4.heap.size 0 0 (.slice none 0 0) ⟨false, false, 0, 0, 0, 0⟩ (.slice none 0 0) := by rw [← hW]; exact blk_new w4 _
  have hpk5 := (hk45.block p (blk_lt HPK4.out) (by simp)).trans HPK4.out
  have lb4 : b < w4.heap.size := Nat.lt_of_lt_of_le lb hk4.size
  have lp4 : p < w4.heap.size := Nat.lt_of_lt_of_le lp hk4.size
  have hcp : w.heap.size ≤ w4.heap.size := hk4.size
  clear hW c12
  generalize hC : w4.heap.size = cp at *
  have hk5 : Kept [p] w w5 := hk4.trans (hk45.more (by simp))
  have hl5 : BytesAt w5 b (o + 12) (padded d l (padN (16 + n))) := by
    have h := (hl.kept hk5 hbp').drop 12
    rw [packet_drop, hTl, hT] at h
    exact h
  have HU := hid (pay_unmarshal cp b (o + 12) (len - 12) (cap - 12) n (padN (16 + n)) d l w5 hP5 hl5 HN.out (by omega) hp (by omega) hpd (by omega) (by omega) (by omega))
  have HPK5 := hid hpk5
  clear hP5 hl5 hl4 hpk5
  have HDd := hid hd; clear hd
  refine HU.out.mono ?_
  rintro e w6 ⟨rfl, hP6, hk6⟩
  have hk6' : Kept [p] w w6 := hk5.thenNew hk6 (by intro r hr; simp at hr; subst hr; right; omega)
  have hpk6 := (hk6.block p (blk_lt HPK5.out) (by simp; omega)).trans HPK5.out
  have u6 : w6.cell? ⟨p, 3, none⟩ = some (.slice none 0 0) := blk_cell hpk6 rfl
  have HPK6 := hid hpk6; have HP6 := hid hP6
  have lcp6 := blk_lt hP6
  have lp6 := blk_lt hpk6
  clear hpk6 hP6 HU HPK5 HPK4 hk45 hk6 hk5
  obtain ⟨g7, cap7, w7, hr7, hg7, hc7, hc7', hx7, hk7⟩ := appendNil 167 171 16 .nilIface (.iface 83 (.pointer (some ⟨cp, 0, none⟩))) w6.heap.size 1 167 (w6.alloc (.cells #[.iface 83 (.pointer (some ⟨cp, 0, none⟩))] 171)) Tryz.underlying167 i162 rfl (by decide) (blk_cell (blk_new w6 _) rfl) rfl
  have hk67 : Kept [] w6 w7 := ((Kept.refl [] w6).alloc _).trans hk7
  have hpk7 := (hk67.block p lp6 (by simp)).trans HPK6.out
  have v7 : w7.cell? ⟨p, 3, none⟩ = some (.slice none 0 0) := blk_cell hpk7 rfl
  have f7 : w7.frozen? ⟨p, 3, none⟩ = false := blk_free hpk7
  have lp7 := blk_lt hpk7
  have HPK7 := hid hpk7; clear hpk7
  have HX7 := hid hx7; clear hx7
  go_wp2_with (at_builtin; refine wpList_append_run rfl _ _ 167 rfl _ _ _ rfl rfl hr7 ?_)
  generalize hW : World.setCell _ _ _ = w8
  have hpk8 : w8.heap[p]? = some (.cells (pkC sp dp tag (.slice (some ⟨g7, 0, none⟩) 1 cap7)) 169 (0, 0)) := by rw [← hW, blk_setCell _ HPK7.out]; rfl
  have hgs : w6.heap.size + 1 ≤ g7 := by simpa using hg7
  have hx8 : w8.cell? ⟨g7, 0, none⟩ = some (.iface 83 (.pointer (some ⟨cp, 0, none⟩))) := by rw [← hW]; exact ((Kept.refl [p] w7).setCell (p := ⟨p, 3, none⟩) _ (.inl (by simp))).cell (World.block_lt_of_cell? w7 _ HX7.out) (by simp; omega) |>.trans HX7.out
  have hk78 : Kept [p] w7 w8 := by rw [← hW]; exact (Kept.refl [p] w7).setCell _ (.inl (by simp))
  have hP8 := (HP6.out.kept hk67 (by simp)).kept hk78 (by simp; omega)
  have hk8 : Kept [p] w w8 := (hk6'.trans (hk67.more (by simp))).trans hk78
  have HV := hid (valueLength cp 120 (12 + n) (cap - 12 - 4) b (o + 12 + 4) _ _ w8 hP8 rfl)
  have HPK8 := hid hpk8; have HX8 := hid hx8; have HP8 := hid hP8
  clear hW v7 f7 hr7 hk7 HPK7 HX7 u6 HPK6 HP6 hpk8 hx8 hP8
  go_wp2_with fail
  refine HV.out.mono ?_
  rintro e w9 ⟨rfl, rfl⟩
  go_wp2_with fail
  refine (getPadding (12 + (n : Int)) w8 (by omega) (by omega)).mono ?_
  rintro e w9 ⟨rfl, rfl⟩
  have hpe : (4 - (12 + (n:Int)) % 4) % 4 = (padN (16 + n) : Int) := by unfold padN; omega
  rw [hpe]
  clear hpe
  generalize padN (16 + n) = pd at *
  have hoff : (16 : Int) + (n : Int) + (pd : Int) + 12 = (len : Int) := by omega
  go_wp2_with fail
  refine HV.out.mono ?_
  rintro e w9 ⟨rfl, rfl⟩
  go_wp2_with fail
  have y1 : ((16 : Int) + (n : Int) + (pd : Int) + 12 < (len : Int)) = False := by rw [hoff]; simp
  have hlen' : (len : Int) = 28 + (n : Int) + (pd : Int) := by omega
  rw [rounds_succ]
  go_wp2_with fail
  go_ret
  refine ⟨rfl, g7, cap7, cp, HPK8.out, HX8.out, hcp, by have := hk6'.size; omega, by omega, ⟨?_, ?_⟩, hk8⟩
  · have h := HP8.out
    rw [Nat.add_assoc o 12 4, Nat.add_assoc o 12 16, Nat.sub_sub cap 12 4, Nat.sub_sub cap 12 16] at h
    exact h
  · have h := ((hl.kept hk8 hbp').drop 28).take l.length
    rw [hT, packet_user] at h
    exact h
end Go.Proofs.Base
