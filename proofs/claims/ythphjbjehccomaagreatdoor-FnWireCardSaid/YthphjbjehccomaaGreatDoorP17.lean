/- Parts of the proof, steps P16, P17: what the code and the plain laws of these steps give. Made by AI agents; no person has read it. -/
import Derived.Test.YthphjbjehccomaaGreatDoorP15
section
namespace Go.Proofs.Base
open Go Go.Proofs Go.RowKit
set_option maxRecDepth 100000
/-- What packet.unmarshal makes of a good packet with one chunk. -/
def Reads (td b o len cap sp dp tag : Nat) (R : List Nat) (Im : Nat → World → Prop) : Prop := ∀ (p : Nat) (w : World), w.heap[p]? = some (.cells (pkC 0 0 0 (.slice none 0 0)) 169 (0, 0)) → BytesAt w b o R → b ≠ p →
  Calls Tryz.prog 83 #[.pointer (some ⟨p, 0, none⟩), .bool true, .slice (some ⟨b, o, none⟩) len cap] w fun e w' => e = .returned .nilIface ∧ ∃ g cap' cp, w'.heap[p]? = some (.cells (pkC sp dp tag (.slice (some ⟨g, 0, none⟩) 1 cap')) 169 (0, 0)) ∧
      w'.cell? ⟨g, 0, none⟩ = some (.iface td (.pointer (some ⟨cp, 0, none⟩))) ∧ w.heap.size ≤ cp ∧ w.heap.size ≤ g ∧ cp ≠ g ∧ Im cp w' ∧ Kept [p] w w'
set_option maxRecDepth 100000 in
set_option maxHeartbeats 2000000 in
theorem ZZPacket_ok (td mf b o len cap sp dp tag N : Nat) (R T : List Nat) (Im : Nat → World → Prop) (w : World) (hu : Reads td b o len cap sp dp tag R Im) (hl : BytesAt w b o R)
    (hm : ∀ cp w, Im cp w → Calls Tryz.prog mf #[.pointer (some ⟨cp, 0, none⟩)] w fun e w' => ∃ B, w.heap.size ≤ B ∧ e = .returned (.tuple #[.slice (some ⟨B, 0, none⟩) N N, .nilIface]) ∧ OB w' B T ∧ Kept [cp] w w')
    (hmeth : ∀ cp w, (Go.method 485 td (.pointer (some ⟨cp, 0, none⟩)) "loop.example/pub-g03078/pub/sctp.marshal").run Tryz.prog w = .ok (mf, .pointer (some ⟨cp, 0, none⟩)) w)
    (hcf : ∀ cp w, (callFunc mf #[.pointer (some ⟨cp, 0, none⟩)]).run Tryz.prog w = .ok (.enter mf #[.pointer (some ⟨cp, 0, none⟩)]) w) (hsp : sp < 65536) (hdp : dp < 65536) :
    Calls Tryz.prog 50 #[.slice (some ⟨b, o, none⟩) len cap, .bool true] w fun e w' => ∃ g cap' B, e = .returned (.tuple #[.int .i64 sp, .int .i64 dp, .int .u32 tag, .slice (some ⟨g, 0, none⟩) 1 cap', .nilIface]) ∧
      w'.cell? ⟨g, 0, none⟩ = some (.slice (some ⟨B, 0, none⟩) N N) ∧ OB w' B T ∧ w.heap.size ≤ B ∧ w.heap.size ≤ g ∧ Kept [] w w' := by
  have lb := hl.lt
  have hk1 := (Kept.refl [] w).alloc (.cells (pkC 0 0 0 (.slice none 0 0)) 169)
  have HU := hid (hu w.heap.size (w.alloc (.cells (pkC 0 0 0 (.slice none 0 0)) 169)) (blk_new w _) (hl.kept hk1 (by simp)) (by omega))
  have HK1 := hid hk1; clear hk1 hu hl
  have HM := hid hm; clear hm
  have HMETH := hid hmeth; clear hmeth
  have HCF := hid hcf; clear hcf
  have e1 : IntKind.i64.wrap (sp : Int) = sp := by rw [IntKind.wrap_i64]; omega
  have e2 : IntKind.i64.wrap (dp : Int) = dp := by rw [IntKind.wrap_i64]; omega
  unfold pkC at *
  go_enter Tryz.func50, Tryz.ntmps50
  go_wp2_with fail
  refine HU.out.mono ?_
  rintro e w2 ⟨rfl, g, cap', cp, hpk, hx, hcp, hg, hne, hI, hk2⟩
  have lg : g < w2.heap.size := World.block_lt_of_cell? w2 _ hx
  simp at hcp hg
  have HK2 := hid hk2; clear hk2
  have u3 : w2.cell? ⟨w.heap.size, 3, none⟩ = some (.slice (some ⟨g, 0, none⟩) 1 cap') := blk_cell hpk rfl
  have lp2 := blk_lt hpk
  have HPK := hid hpk; have HX := hid hx; clear hpk hx
  have hx2 := HX.out
  have hmth := HMETH.out cp w2
  have hcf2 := HCF.out cp w2
  have HM2 := hid (HM.out cp w2 hI)
  clear hI HU
  go_wp2_with fail
  refine wp_loop_rounds 2 ?_
  rw [rounds_succ]
  go_wp2_with fail
  refine HM2.out.mono ?_
  rintro e w3 ⟨B, hB, rfl, hO, hk3⟩
  obtain ⟨g4, cap4, w4, hr4, hg4, hc4, hc4', hx4, hk4⟩ := appendNil 33 39 24 (.slice none 0 0) (.slice (some ⟨B, 0, none⟩) N N) w3.heap.size 1 33 (w3.alloc (.cells #[.slice (some ⟨B, 0, none⟩) N N] 39)) Tryz.underlying33 i28 rfl (by decide) (blk_cell (blk_new w3 _) rfl) rfl
  have hk34 : Kept [] w3 w4 := ((Kept.refl [] w3).alloc _).trans hk4
  clear hk4 hmth hcf2 HM2 hx2 u3
  go_wp2_with (at_builtin; refine wpList_append_run rfl _ _ 33 rfl _ _ _ rfl rfl hr4 ?_)
  rw [rounds_succ]
  go_wp2_with fail
  have hpk4 := ((hk3.trans (hk34.more (by simp))).block w.heap.size lp2 (by simp; omega)).trans HPK.out
  have v0 : w4.cell? ⟨w.heap.size, 0, none⟩ = some (.int .u16 sp) := blk_cell hpk4 rfl
  have v1 : w4.cell? ⟨w.heap.size, 1, none⟩ = some (.int .u16 dp) := blk_cell hpk4 rfl
  have v2 : w4.cell? ⟨w.heap.size, 2, none⟩ = some (.int .u32 tag) := blk_cell hpk4 rfl
  have lp4 := blk_lt hpk4
  clear hpk4
  go_quiet (fail)
  go_wp2_with fail
  go_returns
  have s1 := HK2.out.size
  have s2 := hk3.size
  simp at s1 hg4
  refine ⟨g4, cap4, B, rfl, hx4, (hO.kept hk34 (by simp)).kept ((Kept.refl [] w4).drewN _) (by simp), by omega, by omega, ?_⟩
  exact (((HK1.out.thenNew HK2.out (by intro r hr; simp at hr; subst hr; right; exact Nat.le_refl _)).thenNew hk3 (by intro r hr; simp at hr; subst hr; right; omega)).trans hk34).drewN _
set_option maxRecDepth 100000 in
set_option maxHeartbeats 2000000 in
theorem ZZPacket_bad (b o len cap : Nat) (R : List Nat) (tt : Nat) (ev : Value) (w : World) (hl : BytesAt w b o R) (hn : R.length = len) (h16 : 16 ≤ len) (hcap : len ≤ cap) (hcm : cap ≤ 9223372036854775807)
    (hg : w.cell? ⟨13, 0, none⟩ = some (.iface tt ev)) (hbad : le4 (bt R 8) (bt R 9) (bt R 10) (bt R 11) ≠ Crc.sum R) :
    Calls Tryz.prog 50 #[.slice (some ⟨b, o, none⟩) len cap, .bool true] w fun e w' => e = .returned (.tuple #[.int .i64 0, .int .i64 0, .int .u32 0, .slice none 0 0, .iface tt ev]) ∧ Kept [] w w' := by
  have hk1 := (Kept.refl [] w).alloc (.cells (pkC 0 0 0 (.slice none 0 0)) 169)
  have H := hid (unmarshal_bad w.heap.size b o len cap R (.iface tt ev) _ (hl.kept hk1 (by simp)) hn h16 hcap hcm ((hk1.cell (World.block_lt_of_cell? w _ hg) (by simp)).trans hg) hbad)
  have HK1 := hid hk1
  clear hk1 hl hbad hg
  unfold pkC at *
  go_enter Tryz.func50, Tryz.ntmps50
  go_wp2_with fail
  refine H.out.mono ?_
  rintro e w2 ⟨rfl, hk2⟩
  go_wp2_with fail
  go_returns
  exact ⟨rfl, HK1.out.trans hk2⟩
end Go.Proofs.Base
end
section
namespace Go.Proofs.Base
open Go Go.Proofs Go.RowKit
set_option maxRecDepth 100000
/-- What ZZPacket makes of a good packet with one chunk, wherever it lies. -/
def Packs (len sp dp tag N : Nat) (R T : List Nat) : Prop := ∀ (b o cap : Nat) (w : World), BytesAt w b o R → len ≤ cap → cap ≤ 9223372036854775807 →
  Calls Tryz.prog 50 #[.slice (some ⟨b, o, none⟩) len cap, .bool true] w fun e w' => ∃ g cap' B, e = .returned (.tuple #[.int .i64 sp, .int .i64 dp, .int .u32 tag, .slice (some ⟨g, 0, none⟩) 1 cap', .nilIface]) ∧
      w'.cell? ⟨g, 0, none⟩ = some (.slice (some ⟨B, 0, none⟩) N N) ∧ OB w' B T ∧ w.heap.size ≤ B ∧ w.heap.size ≤ g ∧ Kept [] w w'
set_option maxRecDepth 100000 in
set_option maxHeartbeats 2000000 in
theorem Packet_ok (b o len cap sp dp tag N : Nat) (R T : List Nat) (w : World) (hP : Packs len sp dp tag N R T) (hl : BytesAt w b o R) (hn : R.length = len) (h0 : 0 < len) (hm : len < 100000) (hT : ∀ x ∈ T, x < 256) (hN : T.length = N) (hN0 : 0 < N) (hNm : N < 100000) :
    Calls Tryz.prog 35 #[.slice (some ⟨b, o, none⟩) len cap, .bool true] w fun e w' => ∃ g cap' B Bcap, e = .returned (.tuple #[.int .i64 sp, .int .i64 dp, .int .u32 tag, .slice (some ⟨g, 0, none⟩) 1 cap', .bool true]) ∧
      w'.cell? ⟨g, 0, none⟩ = some (.slice (some ⟨B, 0, none⟩) N Bcap) ∧ BytesAt w' B 0 T ∧ N ≤ Bcap ∧ Bcap ≤ maxLen ∧ w.heap.size ≤ B ∧ w.heap.size ≤ g ∧ Kept [] w w' := by
  have H1 := hid (copied b o len cap R w hl hn h0 (by omega))
  have HP := hid hP; clear hP hl
  go_enter Tryz.func35, Tryz.ntmps35
  go_wp2_with fail
  refine H1.out.mono ?_
  rintro e w1 ⟨g1, cap1, hg1, hc1, hc1', rfl, hb1, hk1⟩
  have H2 := hid (HP.out g1 0 cap1 w1 hb1 hc1 (by unfold maxLen at hc1'; omega))
  clear H1 hb1
  go_wp2_with fail
  refine H2.out.mono ?_
  rintro e w2 ⟨g2, cap2, B2, rfl, hx2, hO2, hB2, hg2, hk2⟩
  have lg2 : g2 < w2.heap.size := World.block_lt_of_cell? w2 _ hx2
  have H3 := hid (copied B2 0 N N T w2 (hO2.bytes hT) hN hN0 (by omega))
  have HK2 := hid (hk1.trans hk2)
  clear H2 hO2 hk1 hk2
  go_wp2_with fail
  refine wp_loop_rounds 2 ?_
  rw [rounds_succ]
  go_wp2_with fail
  refine H3.out.mono ?_
  rintro e w3 ⟨B3, cap3, hB3, hc3, hc3', rfl, hb3, hk3⟩
  obtain ⟨g4, cap4, w4, hr4, hg4, hc4, hc4', hx4, hk4⟩ := appendNil 33 39 24 (.slice none 0 0) (.slice (some ⟨B3, 0, none⟩) N cap3) w3.heap.size 1 33 (w3.alloc (.cells #[.slice (some ⟨B3, 0, none⟩) N cap3] 39)) Tryz.underlying33 i28 rfl (by decide) (blk_cell (blk_new w3 _) rfl) rfl
  have hk34 : Kept [] w3 w4 := ((Kept.refl [] w3).alloc _).trans hk4
  clear hk4 hx2
  go_wp2_with (at_builtin; refine wpList_append_run rfl _ _ 33 rfl _ _ _ rfl rfl hr4 ?_)
  rw [rounds_succ]
  go_wp2_with fail
  go_returns
  have s1 := HK2.out.size
  have s2 := hk3.size
  simp at hg4
  exact ⟨g4, cap4, B3, cap3, rfl, hx4, hb3.kept hk34 (by simp), hc3, hc3', by omega, by omega, (HK2.out.trans hk3).trans hk34⟩
set_option maxRecDepth 100000 in
set_option maxHeartbeats 2000000 in
theorem Packet_bad (b o len cap : Nat) (R : List Nat) (tt : Nat) (ev : Value) (w : World) (hl : BytesAt w b o R) (hn : R.length = len) (h16 : 16 ≤ len) (hm : len < 100000)
    (hg : w.cell? ⟨13, 0, none⟩ = some (.iface tt ev)) (hbad : le4 (bt R 8) (bt R 9) (bt R 10) (bt R 11) ≠ Crc.sum R) :
    Calls Tryz.prog 35 #[.slice (some ⟨b, o, none⟩) len cap, .bool true] w fun e w' => e = .returned (.tuple #[.int .i64 0, .int .i64 0, .int .u32 0, .slice none 0 0, .bool false]) ∧ Kept [] w w' := by
  have H1 := hid (copied b o len cap R w hl hn (by omega) (by omega))
  have HG := hid hg
  have lg : 13 < w.heap.size := World.block_lt_of_cell? w _ hg
  clear hg hl
  go_enter Tryz.func35, Tryz.ntmps35
  go_wp2_with fail
  refine H1.out.mono ?_
  rintro e w1 ⟨g1, cap1, hg1, hc1, hc1', rfl, hb1, hk1⟩
  have H2 := hid (ZZPacket_bad g1 0 len cap1 R tt ev w1 hb1 hn h16 hc1 (by unfold maxLen at hc1'; omega) ((hk1.cell lg (by simp)).trans HG.out) hbad)
  clear H1 hb1
  go_wp2_with fail
  refine H2.out.mono ?_
  rintro e w2 ⟨rfl, hk2⟩
  go_wp2_with fail
  go_returns
  exact ⟨rfl, hk1.trans hk2⟩
set_option maxRecDepth 100000 in
set_option maxHeartbeats 2000000 in
theorem chunk_ok (b o len cap N : Nat) (R T : List Nat) (w : World) (hP : Packs len 5000 5001 7 N R T) (hl : BytesAt w b o R) (hn : R.length = len) (h0 : 0 < len) (hm : len < 100000) (hT : ∀ x ∈ T, x < 256) (hN : T.length = N) (hN0 : 0 < N) (hNm : N < 100000) :
    Calls Tryz.prog 24 #[.slice (some ⟨b, o, none⟩) len cap] w fun e w' => ∃ B Bcap, e = .returned (.tuple #[.slice (some ⟨B, 0, none⟩) N Bcap, .bool true]) ∧ BytesAt w' B 0 T ∧ N ≤ Bcap ∧ Bcap ≤ maxLen ∧ w.heap.size ≤ B ∧ Kept [] w w' := by
  have H1 := hid (Packet_ok b o len cap 5000 5001 7 N R T w hP hl hn h0 hm hT hN hN0 hNm)
  clear hP hl
  go_enter Tryz.func24, Tryz.ntmps24
  go_wp2_with fail
  refine H1.out.mono ?_
  rintro e w1 ⟨g, cap', B, Bcap, rfl, hx, hb, hc, hc', hB, hg, hk⟩
  have lg : g < w1.heap.size := World.block_lt_of_cell? w1 _ hx
  have Hb := hid hb; have Hk := hid hk; clear hb hk H1
  go_wp2_with fail
  go_ret2
  exact ⟨B, Bcap, rfl, Hb.out, hc, hc', hB, Hk.out⟩
set_option maxRecDepth 100000 in
set_option maxHeartbeats 2000000 in
theorem chunk_bad (b o len cap : Nat) (R : List Nat) (tt : Nat) (ev : Value) (w : World) (hl : BytesAt w b o R) (hn : R.length = len) (h16 : 16 ≤ len) (hm : len < 100000)
    (hg : w.cell? ⟨13, 0, none⟩ = some (.iface tt ev)) (hbad : le4 (bt R 8) (bt R 9) (bt R 10) (bt R 11) ≠ Crc.sum R) :
    Calls Tryz.prog 24 #[.slice (some ⟨b, o, none⟩) len cap] w fun e w' => e = .returned (.tuple #[.slice none 0 0, .bool false]) ∧ Kept [] w w' := by
  have H1 := hid (Packet_bad b o len cap R tt ev w hl hn h16 hm hg hbad)
  clear hl hg
  go_enter Tryz.func24, Tryz.ntmps24
  go_wp2_with fail
  refine H1.out.mono ?_
  rintro e w1 ⟨rfl, hk⟩
  go_wp2_with fail
  go_ret2
  exact ⟨rfl, hk⟩
/-- A packet with one DATA chunk. -/
theorem packsD (n sp dp tag : Nat) (d : Pd) (l : List Nat) (hd : d.ok) (hn : l.length = n) (hp : 0 < n) (hm : n < 40000) (hsp : sp < 65536) (hdp : dp < 65536) :
    Packs (12 + (16 + n) + padN (16 + n)) sp dp tag (16 + n) (packetOf sp dp tag (dataBytes d l)) (dataBytes d l) := by
  intro b o cap w hl hcap hcm
  refine ZZPacket_ok 83 48 b o _ cap sp dp tag (16 + n) _ (dataBytes d l) (fun cp => PieceIn cp 0 (flagOf d.bg d.en) b (o + 28) n (cap - 28) (.slice (some ⟨b, o + 16, none⟩) (12 + n) (cap - 16)) d l) w ?_ hl ?_ (fun _ w => meth44 _ w) (fun _ w => call44 _ w) hsp hdp
  · intro p w hpk hl hbp
    exact unmarshal_okD p b o _ cap n sp dp tag d l (dataBytes d l) w rfl hpk hl hd hn rfl hp hm hcap hcm hbp
  · intro cp w h
    exact pay_marshal cp 0 _ b (o + 28) n _ _ d l w hd (by decide) h.1 h.2 hn hp (by omega)
end Go.Proofs.Base
end
