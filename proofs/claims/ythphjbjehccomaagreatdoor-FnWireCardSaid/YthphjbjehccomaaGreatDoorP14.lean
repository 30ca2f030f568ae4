/- Parts of the proof, steps P12, P13, P14: what the code and the plain laws of these steps give. Made by AI agents; no person has read it. -/
import Derived.Test.YthphjbjehccomaaGreatDoorP11
import Derived.Test.YthphjbjehccomaaGreatDoorP9
import Derived.Handy
section
namespace Go.Proofs.Base
open Go Go.Proofs Go.RowKit
set_option maxRecDepth 100000
theorem i162 : (Tryz.prog.info? 171).map (fun i => (i.zero, i.size, i.bytes)) = some (some .nilIface, 1, 16) := by kernel_rfl
theorem i28 : (Tryz.prog.info? 39).map (fun i => (i.zero, i.size, i.bytes)) = some (some (.slice none 0 0), 1, 24) := by kernel_rfl
/-- append(nil, x): the one cell x of a row of the call's own. -/
theorem appendNil (t e by' : Nat) (z x : Value) (b c ty : Nat) (w : World) (ht : Tryz.prog.underlying t = some (.slice e)) (hi : (Tryz.prog.info? e).map (fun i => (i.zero, i.size, i.bytes)) = some (some z, 1, by')) (hz : z.cells.size = 1) (hb : by' ≤ 1000)
    (hx : w.cell? ⟨b, 0, none⟩ = some x) (h1 : x.oneCell' = true) :
    ∃ g cap' w', (Builtin.append_ #[t, t] ty #[.slice none 0 0, .slice (some ⟨b, 0, none⟩) 1 c]).run Tryz.prog w = .ok (.slice (some ⟨g, 0, none⟩) 1 cap') w' ∧ w.heap.size ≤ g ∧ 1 ≤ cap' ∧ cap' ≤ maxLen ∧ w'.cell? ⟨g, 0, none⟩ = some x ∧ Kept [] w w' := by
  obtain ⟨i, hi, hz', hs, hby⟩ := info_parts hi
  obtain ⟨v', w', hr, hown, hgr, hnil⟩ := run_append_own (P := Tryz.prog) w w.heap.size t ty e i z 1 by' ht hi hz' hs hby hz (by decide) (.slice none 0 0) 0 [] (World.ownsRow_nil _ _ _ _) ⟨b, 0, none⟩ 1 c [x] rfl
    (fun j u hu => by
      match j, hu with
      | 0, hu => cases hu; rw [addr_add]; exact hx) (by intro u hu; simp at hu; subst hu; exact h1) (by decide) (by omega) (Nat.le_refl _)
  rcases hown.2 with ⟨rfl, h0⟩ | ⟨g, cap', cur, rfl, k1, k2, k3, k4, k5, k6⟩
  · exact absurd (hnil.1 rfl).2 (by simp)
  · refine ⟨g, cap', w', by simpa using hr, k1, by simpa using k3, k4, ?_, grown_kept hgr (by simp [Value.ownBlock])⟩
    have := hown.cells (g := g) rfl 0 x rfl
    rwa [addr_add] at this
theorem small_dataBytes' (d : Pd) (l : List Nat) (hd : d.ok) (hl : ∀ x ∈ l, x < 256) (hm : l.length < 50000) : ∀ x ∈ dataBytes d l, x < 256 := by
  intro x hx
  simp only [dataBytes, List.mem_cons] at hx
  rcases hx with rfl | rfl | rfl | rfl | hx
  · omega
  · unfold flagOf; split <;> split <;> omega
  · omega
  · omega
  · exact small_payload d l hd hl x hx
theorem meth44 (v : Value) (w : World) : (Go.method 485 83 v "loop.example/pub-g03078/pub/sctp.marshal").run Tryz.prog w = .ok (48, v) w := by kernel_rfl
theorem call44 (v : Value) (w : World) : (callFunc 48 #[v]).run Tryz.prog w = .ok (.enter 48 #[v]) w := by kernel_rfl
/-- What a packet's text asks of its one piece. -/
def PieceIn (p typ fl b o n ucap : Nat) (raw : Value) (d : Pd) (l : List Nat) (w : World) : Prop := PayAt w p typ fl raw d (.slice (some ⟨b, o, none⟩) n ucap) ∧ BytesAt w b o l
theorem PieceIn.kept {p typ fl b o n ucap : Nat} {raw : Value} {d : Pd} {l : List Nat} {w w' : World} (h : PieceIn p typ fl b o n ucap raw d l w) (k : Kept [] w w') : PieceIn p typ fl b o n ucap raw d l w' := ⟨h.1.kept k (by simp), h.2.kept k (by simp)⟩
set_option maxRecDepth 100000 in
set_option maxHeartbeats 2000000 in
theorem ZZPacketTextD (cb ccap b o n cap sp dp tag : Nat) (d : Pd) (l : List Nat) (w : World) (hd : d.ok) (hcb : w.cell? ⟨cb, 0, none⟩ = some (.slice (some ⟨b, o, none⟩) (16 + n) cap)) (hl : BytesAt w b o (dataBytes d l)) (hn : l.length = n)
    (hp : 0 < n) (hm : n < 40000) (hcap : 16 + n ≤ cap) (hcm : cap ≤ 9223372036854775807) (hsp : sp < 65536) (hdp : dp < 65536) (htag : tag < 4294967296) :
    Calls Tryz.prog 49 #[.int .i64 sp, .int .i64 dp, .int .u32 tag, .slice (some ⟨cb, 0, none⟩) 1 ccap, .bool true] w fun e w' => ∃ g cap', w.heap.size ≤ g ∧ e = .returned (.tuple #[.slice (some ⟨g, 0, none⟩) (12 + (16 + n) + padN (16 + n)) cap', .nilIface]) ∧
      Own w' g (12 + (16 + n) + padN (16 + n)) cap' (packetOf sp dp tag (dataBytes d l)) ∧ Kept [] w w' := by
  have lcb : cb < w.heap.size := World.block_lt_of_cell? w _ hcb
  have lb := hl.lt
  have HCB := hid hcb; clear hcb
  have HN := hid hn; clear hn
  have c0 := hl.cell 0 (by rw [len_dataBytes]; omega)
  rw [Nat.add_zero, show bt (dataBytes d l) 0 = 0 from rfl] at c0
  have e1 : IntKind.u16.wrap (sp : Int) = sp := by rw [IntKind.wrap_u16]; omega
  have e2 : IntKind.u16.wrap (dp : Int) = dp := by rw [IntKind.wrap_u16]; omega
  have hcb0 := HCB.out
  have q1 : ¬ (16 : Int) + (n : Int) < 4 := by omega
  have q2 : (0 : Int) < 16 + (n : Int) := by omega
  go_enter Tryz.func49, Tryz.ntmps49
  go_wp2_with fail
  refine wp_loop_rounds 2 ?_
  rw [rounds_succ]
  go_wp2_with fail
  generalize hW : World.alloc _ _ = w2
  have hk2 : Kept [] w w2 := by rw [← hW]; exact ((Kept.refl [] w).alloc _).alloc _
  have hpk2 : w2.heap[w.heap.size]? = some (.cells (pkC sp dp tag (.slice none 0 0)) 169 (0, 0)) := by rw [← hW]; exact blk_alloc _ (blk_new w _)
  have hP2 : PayAt w2 (w.heap.size + 1) 0 0 (.slice none 0 0) ⟨false, false, 0, 0, 0, 0⟩ (.slice none 0 0) := by
    rw [← hW]
    have h := blk_new (w.alloc (.cells #[.int .u16 sp, .int .u16 dp, .int .u32 tag, .slice none 0 0] 169)) (.cells (payC 0 0 (.slice none 0 0) ⟨false, false, 0, 0, 0, 0⟩ (.slice none 0 0)) 120)
    rw [show (w.alloc (.cells #[.int .u16 sp, .int .u16 dp, .int .u32 tag, .slice none 0 0] 169)).heap.size = w.heap.size + 1 by simp] at h
    exact h
  clear hW c0 hcb0
  generalize hB : w.heap.size = B at *
  have HB := hid hB; clear hB
  have hl2 := hl.kept hk2 (by simp)
  have hPK := hid hpk2; clear hpk2
  have HU := hid (pay_unmarshal (B + 1) b o (16 + n) cap n 0 d l w2 hP2 (by rw [padded]; simpa using hl2) HN.out (by omega) hp (by omega) (by omega) hcap hcm (by omega))
  clear hP2 hl2
  have HDd := hid hd; clear hd
  refine HU.out.mono ?_
  rintro e w3 ⟨rfl, hP3, hk3⟩
  have hk3' : Kept [] w w3 := hk2.thenNew hk3 (by intro r hr; simp at hr; subst hr; right; have := HB.out; omega)
  have hpk3 := (hk3.block B (blk_lt hPK.out) (by simp)).trans hPK.out
  have u3 : w3.cell? ⟨B, 3, none⟩ = some (.slice none 0 0) := blk_cell hpk3 rfl
  have HPK3 := hid hpk3; clear hpk3 hPK
  have HP3 := hid hP3; clear hP3 HU hk3 hk2
  have lp3 := blk_lt HP3.out
  have lB3 : B < w3.heap.size := by omega
  obtain ⟨g4, cap4, w4, hr4, hg4, hc4, hc4', hx4, hk4⟩ := appendNil 167 171 16 .nilIface (.iface 83 (.pointer (some ⟨B + 1, 0, none⟩))) w3.heap.size 1 167 (w3.alloc (.cells #[.iface 83 (.pointer (some ⟨B + 1, 0, none⟩))] 171)) Tryz.underlying167 i162 rfl (by decide) (blk_cell (blk_new w3 _) rfl) rfl
  have hk4' : Kept [] w3 w4 := ((Kept.refl [] w3).alloc _).trans hk4
  have hpk4 := (hk4'.block B lB3 (by simp)).trans HPK3.out
  have v4 : w4.cell? ⟨B, 3, none⟩ = some (.slice none 0 0) := blk_cell hpk4 rfl
  have f4 : w4.frozen? ⟨B, 3, none⟩ = false := blk_free hpk4
  have lB4 := blk_lt hpk4
  have HPK4 := hid hpk4; clear hpk4
  have HX4 := hid hx4; clear hx4
  go_wp2_with (at_builtin; refine wpList_append_run rfl _ _ 167 rfl _ _ _ rfl rfl hr4 ?_)
  generalize hW : World.setCell _ _ _ = w5
  have hpk5 : w5.heap[B]? = some (.cells (pkC sp dp tag (.slice (some ⟨g4, 0, none⟩) 1 cap4)) 169 (0, 0)) := by rw [← hW, blk_setCell _ HPK4.out]; rfl
  have hgs : w3.heap.size + 1 ≤ g4 := by simpa using hg4
  have hx5 : w5.cell? ⟨g4, 0, none⟩ = some (.iface 83 (.pointer (some ⟨B + 1, 0, none⟩))) := by rw [← hW]; exact ((Kept.refl [B] w4).setCell (p := ⟨B, 3, none⟩) _ (.inl (by simp))).cell (World.block_lt_of_cell? w4 _ HX4.out) (by simp; omega) |>.trans HX4.out
  have hk45 : Kept [B] w4 w5 := by rw [← hW]; exact (Kept.refl [B] w4).setCell _ (.inl (by simp))
  have hk5 : Kept [] w w5 := (hk3'.trans hk4').thenNew hk45 (by intro r hr; simp at hr; subst hr; right; have := HB.out; omega)
  have hP5 : PayAt w5 (B + 1) 0 (flagOf d.bg d.en) (.slice (some ⟨b, o + 4, none⟩) (12 + n) (cap - 4)) d (.slice (some ⟨b, o + 16, none⟩) n (cap - 16)) := (HP3.out.kept hk4' (by simp)).kept hk45 (by simp)
  clear hW v4 f4 hr4 hk4 HPK4 HX4 u3 HPK3
  rw [rounds_succ]
  go_wp2_with fail
  have hl5 : BytesAt w5 b (o + 16) l := (hl.kept hk5 (by simp)).drop 16
  have H := packet_marshal B g4 cap4 (B + 1) (16 + n) sp dp tag 48 83 (dataBytes d l) (PieceIn (B + 1) 0 (flagOf d.bg d.en) b (o + 16) n (cap - 16) (.slice (some ⟨b, o + 4, none⟩) (12 + n) (cap - 4)) d l) w5
    (fun _ _ h k => h.kept k) ⟨hP5, hl5⟩
    (fun w h => pay_marshal (B + 1) 0 _ b (o + 16) n _ _ d l w HDd.out (by decide) h.1 h.2 HN.out hp (by omega)) (fun w => meth44 _ w) (fun w => call44 _ w)
    (by rw [len_dataBytes, HN.out]) (by omega) (by omega) (small_dataBytes' d l HDd.out hl5.small (by rw [HN.out]; omega)) (blk_lt hP5) hsp hdp htag hpk5 hx5
  refine H.mono ?_
  rintro e w6 ⟨g, cap', hg, rfl, ho, hk6⟩
  have HO := hid ho; clear ho
  clear H hpk5 hx5 hP5 hl5
  go_wp2_with fail
  go_ret2
  have h5 := hk5.size
  have hb := HB.out
  exact ⟨g, cap', by omega, rfl, HO.out, hk5.thenNew hk6 (by intro r hr; simp at hr; subst hr; right; omega)⟩
end Go.Proofs.Base
end
section
namespace Go.Proofs.Base
open Go Go.Proofs Go.RowKit
set_option maxRecDepth 100000
def Texts (sp dp tag N M : Nat) (T : List Nat) : Prop := ∀ (cb ccap b o cap : Nat) (w : World), w.cell? ⟨cb, 0, none⟩ = some (.slice (some ⟨b, o, none⟩) N cap) → BytesAt w b o T → N ≤ cap → cap ≤ 9223372036854775807 →
  Calls Tryz.prog 49 #[.int .i64 sp, .int .i64 dp, .int .u32 tag, .slice (some ⟨cb, 0, none⟩) 1 ccap, .bool true] w fun e w' => ∃ g cap', w.heap.size ≤ g ∧ e = .returned (.tuple #[.slice (some ⟨g, 0, none⟩) M cap', .nilIface]) ∧
      Own w' g M cap' (packetOf sp dp tag T) ∧ Kept [] w w'
theorem set_small {l : List Nat} (h : ∀ x ∈ l, x < 256) (i v : Nat) (hv : v < 256) : ∀ x ∈ l.set i v, x < 256 := by
  intro x hx
  rcases List.mem_or_eq_of_mem_set hx with h1 | h1
  · exact h x h1
  · subst h1; exact hv
theorem small_put4le {l : List Nat} (h : ∀ x ∈ l, x < 256) (o v : Nat) (hv : v < 4294967296) : ∀ x ∈ put4le l o v, x < 256 := by
  unfold put4le
  exact set_small (set_small (set_small (set_small h _ _ (by omega)) _ _ (by omega)) _ _ (by omega)) _ _ (by omega)
theorem small_packetOf {sp dp tag : Nat} {T : List Nat} (hsp : sp < 65536) (hdp : dp < 65536) (htag : tag < 4294967296) (hT : ∀ x ∈ T, x < 256) : ∀ x ∈ packetOf sp dp tag T, x < 256 := by
  rw [packetOf_eq rfl rfl]
  exact small_put4le (small_raw hsp hdp htag hT _) _ _ (sum_lt _)
theorem len_packetOf (sp dp tag : Nat) (T : List Nat) : (packetOf sp dp tag T).length = 12 + T.length + padN T.length := by
  rw [packetOf_eq rfl rfl]
  simp [put4le, hdr]; omega
set_option maxRecDepth 100000 in
set_option maxHeartbeats 2000000 in
theorem PacketText (sp dp tag N M : Nat) (T : List Nat) (hT : Texts sp dp tag N M T) (cb ccap b o cap : Nat) (w : World) (hcb : w.cell? ⟨cb, 0, none⟩ = some (.slice (some ⟨b, o, none⟩) N cap)) (hl : BytesAt w b o T) (hN : T.length = N)
    (hp : 0 < N) (hm : N < 60000) (hsm : ∀ x ∈ packetOf sp dp tag T, x < 256) (hM0 : 0 < M) (hM : M < 100000) :
    Calls Tryz.prog 34 #[.int .i64 sp, .int .i64 dp, .int .u32 tag, .slice (some ⟨cb, 0, none⟩) 1 ccap, .bool true] w fun e w' => ∃ g cap', w.heap.size ≤ g ∧ M ≤ cap' ∧ cap' ≤ maxLen ∧
      e = .returned (.tuple #[.slice (some ⟨g, 0, none⟩) M cap', .bool true]) ∧ BytesAt w' g 0 (packetOf sp dp tag T) ∧ Kept [] w w' := by
  have HT := hid hT; clear hT
  have HCB := hid hcb
  have HN := hid hN; clear hN
  have H1 := hid (copied b o N cap T w hl HN.out hp (by omega))
  go_enter Tryz.func34, Tryz.ntmps34
  go_wp2_with fail
  refine wp_loop_rounds 2 ?_
  rw [rounds_succ]
  go_wp2_with fail
  refine H1.out.mono ?_
  rintro e w1 ⟨g1, cap1, hg1, hc1, hc1', rfl, hb1, hk1⟩
  obtain ⟨g2, cap2, w2, hr2, hg2, hc2, hc2', hx2, hk2⟩ := appendNil 33 39 24 (.slice none 0 0) (.slice (some ⟨g1, 0, none⟩) N cap1) w1.heap.size 1 33 (w1.alloc (.cells #[.slice (some ⟨g1, 0, none⟩) N cap1] 39)) Tryz.underlying33 i28 rfl (by decide) (blk_cell (blk_new w1 _) rfl) rfl
  have hk2' : Kept [] w1 w2 := ((Kept.refl [] w1).alloc _).trans hk2
  have H2 := hid (HT.out g2 cap2 g1 0 cap1 w2 hx2 (hb1.kept hk2' (by simp)) hc1 (by unfold maxLen at hc1'; omega))
  clear H1 hx2 hk2 hb1
  go_wp2_with (at_builtin; refine wpList_append_run rfl _ _ 33 rfl _ _ _ rfl rfl hr2 ?_)
  rw [rounds_succ]
  go_wp2_with fail
  refine H2.out.mono ?_
  rintro e w3 ⟨g3, cap3, hg3, rfl, ho3, hk3⟩
  have hl3 := ho3.len
  have Hb3 := hid ((ho3.kept ((Kept.refl [] w3).drew) (by simp)).bytes hsm)
  have H3 := hid (copied g3 0 M cap3 _ w3.drew Hb3.out hl3 hM0 (by omega))
  have hk3' := hid ((hk1.trans hk2').trans hk3)
  clear H2 ho3 hl3 hr2 hk3 hk2' hk1
  go_wp2_with fail
  go_region_held3 (fun _ => True) (trivial) ((go_at_call 21; refine H3.out.mono ?_; rintro e w4 ⟨g4, cap4, hg4, hc4, hc4', rfl, hb4, hk4⟩))
  go_wp2_with fail
  go_ret2
  have h5 := hk3'.out.size
  have hg4' : w3.heap.size ≤ g4 := hg4
  exact ⟨g4, cap4, by omega, hc4, hc4', rfl, hb4, hk3'.out.drew.trans hk4⟩
set_option maxRecDepth 100000 in
set_option maxHeartbeats 2000000 in
theorem lawsPacket (N M : Nat) (T : List Nat) (hT : Texts 5000 5001 7 N M T) (b o cap : Nat) (w : World) (hl : BytesAt w b o T) (hN : T.length = N)
    (hp : 0 < N) (hm : N < 60000) (hM0 : 0 < M) (hM : M < 100000) :
    Calls Tryz.prog 23 #[.slice (some ⟨b, o, none⟩) N cap] w fun e w' => ∃ g cap', w.heap.size ≤ g ∧ M ≤ cap' ∧ cap' ≤ maxLen ∧
      e = .returned (.tuple #[.slice (some ⟨g, 0, none⟩) M cap', .bool true]) ∧ BytesAt w' g 0 (packetOf 5000 5001 7 T) ∧ Kept [] w w' := by
  have H := hid (PacketText 5000 5001 7 N M T hT w.heap.size 1 b o cap (w.alloc (.cells #[.slice (some ⟨b, o, none⟩) N cap] 39)) (blk_cell (blk_new w _) rfl) (hl.kept ((Kept.refl [] w).alloc _) (by simp)) hN hp hm
    (small_packetOf (by decide) (by decide) (by decide) hl.small) hM0 hM)
  have hk := hid ((Kept.refl [] w).alloc (.cells #[.slice (some ⟨b, o, none⟩) N cap] 39))
  clear hT hl hN
  go_enter Tryz.func23, Tryz.ntmps23
  go_wp2_with fail
  refine H.out.mono ?_
  rintro e w1 ⟨g, cap', hg, hc, hc', rfl, hb, hk1⟩
  go_wp2_with fail
  go_ret2
  simp at hg
  exact ⟨g, cap', by omega, hc, hc', rfl, hb, hk.out.trans hk1⟩
end Go.Proofs.Base
end
section
namespace Go.Proofs.Base
open Go Go.Proofs Go.RowKit
set_option maxRecDepth 100000
set_option maxRecDepth 100000 in
set_option maxHeartbeats 2000000 in
theorem unmarshal_bad (p b o len cap : Nat) (R : List Nat) (ev : Value) (w : World) (hl : BytesAt w b o R) (hn : R.length = len) (h16 : 16 ≤ len) (hcap : len ≤ cap) (hcm : cap ≤ 9223372036854775807)
    (hg : w.cell? ⟨13, 0, none⟩ = some ev) (hbad : le4 (bt R 8) (bt R 9) (bt R 10) (bt R 11) ≠ Crc.sum R) :
    Calls Tryz.prog 83 #[.pointer (some ⟨p, 0, none⟩), .bool true, .slice (some ⟨b, o, none⟩) len cap] w fun e w' => e = .returned ev ∧ Kept [] w w' := by
  have HN := hid hn; clear hn
  have lg : 13 < w.heap.size := World.block_lt_of_cell? w _ hg
  have HG := hid hg; clear hg
  have q1 : ¬ (len : Int) < 12 := by omega
  have q2 : (16 : Int) ≤ (len : Int) := by omega
  have q3 : (12 : Int) < (len : Int) := by omega
  have c12 := hl.cell 12 (by rw [HN.out]; omega)
  have s12 := hl.small
  have s8 : (8 : Int) ≤ (len : Int) := by omega
  have s8c : (8 : Int) ≤ (cap : Int) := by omega
  have s8' : ¬ cap = 8 := by omega
  have H1 := hid (leU32 b (o + 8) (len - 8) (cap - 8) (R.drop 8) w.drew ((hl.kept ((Kept.refl [] w).drew) (by simp)).drop 8) (by simp [HN.out]; omega) (by omega) (by omega))
  have hv : le4 (bt (R.drop 8) 0) (bt (R.drop 8) 1) (bt (R.drop 8) 2) (bt (R.drop 8) 3) ≠ Crc.sum R := by simpa [bt_drop] using hbad
  have H2 : Hid (∀ w', Kept [] w w' → Calls Tryz.prog 100 #[.slice (some ⟨b, o, none⟩) len cap] w' fun r w'' => r = .returned (.int .u32 (Crc.sum R)) ∧ Kept [] w' w'') := fun w' k => checksum b o len cap R w' (hl.kept k (by simp)) HN.out (by omega) hcap hcm
  clear hbad
  generalize le4 (bt (R.drop 8) 0) (bt (R.drop 8) 1) (bt (R.drop 8) 2) (bt (R.drop 8) 3) = x at *
  generalize Crc.sum R = y at *
  have hv' : (((x : Nat) : Int) != (y : Int)) = true := by simp; omega
  go_enter Tryz.func83, Tryz.ntmps83
  have hx : x = 0 ∨ (((x : Nat) : Int) != 0) = true := by
    rcases Nat.eq_zero_or_pos x with h | h
    · exact .inl h
    · right; simp; omega
  have ht : (bt R 12 = 1 ∧ bt R 12 = 1) ∨ (bt R 12 = 10 ∧ bt R 12 = 10) ∨ ((((bt R 12 : Nat) : Int) == 1) = false ∧ (((bt R 12 : Nat) : Int) == 10) = false) := by
    by_cases t1 : bt R 12 = 1
    · exact .inl ⟨t1, t1⟩
    · by_cases t2 : bt R 12 = 10
      · exact .inr (.inl ⟨t2, t2⟩)
      · exact .inr (.inr ⟨by simp; omega, by simp; omega⟩)
  rcases ht with ⟨t1, t2⟩ | ⟨t1, t2⟩ | ⟨t1, t2⟩
  · rw [t1] at c12
    clear t1 t2
    rcases hx with hx | hx
    · subst hx
      go_wp2_with fail
      go_still_tail 3, (by kernel_rfl)
      change wpList _ _ _ _ _ w.drew
      go_wp2_with fail
      refine H1.out.mono ?_
      rintro e w1 ⟨rfl, n1, hw1⟩
      have hk1 : Kept [] w w1 := by rw [hw1]; exact ((Kept.refl [] w).drew.alloc _).drewN n1
      clear hw1
      go_wp2_with fail
      refine (H2.out w1 hk1).mono ?_
      rintro e w2 ⟨rfl, hk2⟩
      have hgv : w2.cell? ⟨13, 0, none⟩ = some ev := ((hk1.trans hk2).cell lg (by simp)).trans HG.out
      go_wp2_with fail
      go_ret
      exact ⟨rfl, hk1.trans hk2⟩
    · go_wp2_with fail
      go_still_tail 3, (by kernel_rfl)
      change wpList _ _ _ _ _ w.drew
      go_wp2_with fail
      refine H1.out.mono ?_
      rintro e w1 ⟨rfl, n1, hw1⟩
      have hk1 : Kept [] w w1 := by rw [hw1]; exact ((Kept.refl [] w).drew.alloc _).drewN n1
      clear hw1
      go_wp2_with fail
      refine (H2.out w1 hk1).mono ?_
      rintro e w2 ⟨rfl, hk2⟩
      have hgv : w2.cell? ⟨13, 0, none⟩ = some ev := ((hk1.trans hk2).cell lg (by simp)).trans HG.out
      go_wp2_with fail
      go_ret
      exact ⟨rfl, hk1.trans hk2⟩
  · rw [t1] at c12
    clear t1 t2
    rcases hx with hx | hx
    · subst hx
      go_wp2_with fail
      go_still_tail 3, (by kernel_rfl)
      change wpList _ _ _ _ _ w.drew
      go_wp2_with fail
      refine H1.out.mono ?_
      rintro e w1 ⟨rfl, n1, hw1⟩
      have hk1 : Kept [] w w1 := by rw [hw1]; exact ((Kept.refl [] w).drew.alloc _).drewN n1
      clear hw1
      go_wp2_with fail
      refine (H2.out w1 hk1).mono ?_
      rintro e w2 ⟨rfl, hk2⟩
      have hgv : w2.cell? ⟨13, 0, none⟩ = some ev := ((hk1.trans hk2).cell lg (by simp)).trans HG.out
      go_wp2_with fail
      go_ret
      exact ⟨rfl, hk1.trans hk2⟩
    · go_wp2_with fail
      go_still_tail 3, (by kernel_rfl)
      change wpList _ _ _ _ _ w.drew
      go_wp2_with fail
      refine H1.out.mono ?_
      rintro e w1 ⟨rfl, n1, hw1⟩
      have hk1 : Kept [] w w1 := by rw [hw1]; exact ((Kept.refl [] w).drew.alloc _).drewN n1
      clear hw1
      go_wp2_with fail
      refine (H2.out w1 hk1).mono ?_
      rintro e w2 ⟨rfl, hk2⟩
      have hgv : w2.cell? ⟨13, 0, none⟩ = some ev := ((hk1.trans hk2).cell lg (by simp)).trans HG.out
      go_wp2_with fail
      go_ret
      exact ⟨rfl, hk1.trans hk2⟩
  · rcases hx with hx | hx
    · subst hx
      go_wp2_with fail
      go_still_tail 3, (by kernel_rfl)
      change wpList _ _ _ _ _ w.drew
      go_wp2_with fail
      refine H1.out.mono ?_
      rintro e w1 ⟨rfl, n1, hw1⟩
      have hk1 : Kept [] w w1 := by rw [hw1]; exact ((Kept.refl [] w).drew.alloc _).drewN n1
      clear hw1
      go_wp2_with fail
      refine (H2.out w1 hk1).mono ?_
      rintro e w2 ⟨rfl, hk2⟩
      have hgv : w2.cell? ⟨13, 0, none⟩ = some ev := ((hk1.trans hk2).cell lg (by simp)).trans HG.out
      go_wp2_with fail
      go_ret
      exact ⟨rfl, hk1.trans hk2⟩
    · go_wp2_with fail
      go_still_tail 3, (by kernel_rfl)
      change wpList _ _ _ _ _ w.drew
      go_wp2_with fail
      refine H1.out.mono ?_
      rintro e w1 ⟨rfl, n1, hw1⟩
      have hk1 : Kept [] w w1 := by rw [hw1]; exact ((Kept.refl [] w).drew.alloc _).drewN n1
      clear hw1
      go_wp2_with fail
      refine (H2.out w1 hk1).mono ?_
      rintro e w2 ⟨rfl, hk2⟩
      have hgv : w2.cell? ⟨13, 0, none⟩ = some ev := ((hk1.trans hk2).cell lg (by simp)).trans HG.out
      go_wp2_with fail
      go_ret
      exact ⟨rfl, hk1.trans hk2⟩
end Go.Proofs.Base
end
