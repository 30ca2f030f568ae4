/- A part of the proof, step P11: what the code and the plain laws of this step give. Made by AI agents; no person has read it. -/
import Derived.Test.YthphjbjehccomaaGreatDoorP10
namespace Go.Proofs.Base
open Go Go.Proofs Go.RowKit
set_option maxRecDepth 100000
theorem Own.cell {w : World} {g n cap : Nat} {L : List Nat} (h : Own w g n cap L) {j : Nat} (hj : j < n) : w.cell? ⟨g, j, none⟩ = some (.int .u8 (bt L j : Nat)) := by
  have hl := h.len
  have := h.cells (g := g) rfl j (.int .u8 (bt L j : Nat)) (by simp [bv, hl, hj, bt_get (show j < L.length by omega)])
  rwa [addr_add, Nat.zero_add] at this
theorem Own.free {w : World} {g n cap : Nat} {L : List Nat} (h : Own w g n cap L) (j : Nat) : w.frozen? ⟨g, j, none⟩ = false := by
  obtain ⟨cur, h1, _⟩ := h.row
  exact blk_free h1
theorem Own.set {w : World} {g n cap : Nat} {L : List Nat} (h : Own w g n cap L) (j x : Nat) : Own (w.setCell ⟨g, j, none⟩ (.int .u8 x)) g n cap (L.set j x) := by
  obtain ⟨cur, h1, h2, h3, h4, h5⟩ := h.row
  refine Own.mk (blk_setCell _ h1) h2 h3 (by simp [h4]) ?_ (by simp [h.len])
  rw [Array.toList_setIfInBounds, List.take_set, h5]
  simp [bv, List.map_set]
theorem Own.alloc {w : World} {g n cap : Nat} {L : List Nat} (h : Own w g n cap L) (o : Obj) : Own (w.alloc o) g n cap L := by
  obtain ⟨cur, h1, h2, h3, h4, h5⟩ := h.row
  exact Own.mk (blk_alloc _ h1) h2 h3 h4 h5 h.len
/-- append(s, b...): the call owns s. -/
theorem appendRun (base g n cap b o m bcap ty : Nat) (L l : List Nat) (w : World) (h : Own w g n cap L) (hg : base ≤ g) (hbase : base ≤ w.heap.size) (hl : BytesAt w b o l) (hn : l.length = m) (hm : n + m ≤ 1000000) :
    ∃ g' cap' w', (Builtin.append_ #[39, 39] ty #[.slice (some ⟨g, 0, none⟩) n cap, .slice (some ⟨b, o, none⟩) m bcap]).run Tryz.prog w = .ok (.slice (some ⟨g', 0, none⟩) (n + m) cap') w' ∧ Own w' g' (n + m) cap' (L ++ l) ∧ Kept [g] w w' ∧ base ≤ g' := by
  obtain ⟨i, hi, hz, hs, hb⟩ := info5'
  obtain ⟨cur, h1, h2, h3, h4, h5⟩ := h.row
  have hL := h.len
  have hown : w.ownsRow base 5 1 (.slice (some ⟨g, 0, none⟩) n cap) n (bv L) := ⟨by simp [hL], .inr ⟨g, cap, cur, rfl, hg, h1, h2, h3, by simpa using h4, by simpa using h5⟩⟩
  obtain ⟨v', w', hr, hown', hgr, hnil⟩ := run_append_own (P := Tryz.prog) w base 39 ty 5 i (.int .u8 0) 1 1 Tryz.underlying39 hi hz hs hb rfl (by decide) _ n _ hown ⟨b, o, none⟩ m bcap (bv l) (by simp [hn])
    (fun j u hu => by obtain ⟨hj, rfl⟩ := bv_get hu; rw [addr_add]; exact hl.cell j hj) (bv_one l) (by unfold maxLen; omega) (by omega) hbase
  rw [← bv_append] at hown'
  rcases hown'.2 with ⟨rfl, h0⟩ | ⟨g', cap', cur', rfl, k1, k2, k3, k4, k5, k6⟩
  · exact absurd (hnil.1 rfl).1 (by simp)
  · exact ⟨g', cap', w', hr, Own.mk k2 k3 k4 (by simpa using k5) (by simpa using k6) (by simp [hL, hn]), grown_kept hgr (by simp [Value.ownBlock]), k1⟩
set_option maxRecDepth 100000 in
set_option maxHeartbeats 400000 in
theorem putLE32own (b off n len cap cap' v : Nat) (l : List Nat) (w : World) (hv : v < 4294967296) (h : Own w b n cap' l) (hl : off + 4 ≤ n) (h4 : 4 ≤ len) (hm : len ≤ 9223372036854775807) :
    Calls Tryz.prog 99 #[.agg #[], .slice (some ⟨b, off, none⟩) len cap, .int .u32 v] w fun e w' => e = .returned (.tuple #[]) ∧ Own w' b n cap' (put4le l off v) ∧ Kept [b] w w' := by
  have hb := h.lt
  have l0 : (0 : Int) < (len : Int) := by omega
  have l1 : (1 : Int) < (len : Int) := by omega
  have l2 : (2 : Int) < (len : Int) := by omega
  have l3 : (3 : Int) < (len : Int) := by omega
  have c0 := h.cell (j := off) (by omega)
  have c1 := h.cell (j := off + 1) (by omega)
  have c2 := h.cell (j := off + 2) (by omega)
  have c3 := h.cell (j := off + 3) (by omega)
  have f0 := h.free off
  have f1 := h.free (off + 1)
  have f2 := h.free (off + 2)
  have f3 := h.free (off + 3)
  have H := hid h; clear h
  go_enter Tryz.func99, Tryz.ntmps99
  go_wp2
  go_end0
  refine ⟨rfl, ((((H.out.set off (v % 256)).set (off + 1) (v / 256 % 256)).set (off + 2) (v / 65536 % 256)).set (off + 3) (v / 16777216)).alloc _, ?_⟩
  exact (((((Kept.refl [b] w).setCell _ (.inl (by simp))).setCell _ (.inl (by simp))).setCell _ (.inl (by simp))).setCell _ (.inl (by simp))).alloc _
def hdr (sp dp tag : Nat) : List Nat := [sp / 256, sp % 256, dp / 256, dp % 256, tag / 16777216, tag / 65536 % 256, tag / 256 % 256, tag % 256]
def padN (n : Nat) : Nat := (4 - n % 4) % 4
/-- The bytes of a packet with one chunk, its checksum not yet in. -/
def rawOf (sp dp tag : Nat) (T : List Nat) : List Nat := hdr sp dp tag ++ ([0, 0, 0, 0] ++ (T ++ List.replicate (padN T.length) 0))
def packetOf (sp dp tag : Nat) (T : List Nat) : List Nat := put4le (rawOf sp dp tag T) 8 (Crc.sum (rawOf sp dp tag T))
theorem getPadding (n : Int) (w : World) (h0 : 0 ≤ n) (h1 : n < 1000000) :
    Calls Tryz.prog 98 #[.int .i64 n] w fun e w' => e = .returned (.int .i64 ((4 - n % 4) % 4)) ∧ w = w' := by
  go_enter Tryz.func98, Tryz.ntmps98
  go_wp2
  go_ret
  exact ⟨rfl, rfl⟩
def pkC (sp dp tag : Nat) (cs : Value) : Array Value := #[.int .u16 sp, .int .u16 dp, .int .u32 tag, cs]
theorem small_raw {sp dp tag : Nat} {T : List Nat} (hsp : sp < 65536) (hdp : dp < 65536) (htag : tag < 4294967296) (hT : ∀ x ∈ T, x < 256) (pd : Nat) : ∀ x ∈ hdr sp dp tag ++ [0, 0, 0, 0] ++ T ++ List.replicate pd 0, x < 256 := by
  intro x hx
  simp only [List.mem_append, hdr, List.mem_cons, List.not_mem_nil, or_false] at hx
  rcases hx with ((h | h) | h) | h
  · rcases h with h | h | h | h | h | h | h | h <;> subst h <;> omega
  · rcases h with h | h | h | h <;> subst h <;> omega
  · exact hT x h
  · rw [List.eq_of_mem_replicate h]; omega
theorem sum_lt (l : List Nat) : Crc.sum l < 4294967296 := Crc.upd_lt _ _
theorem packetOf_eq {sp dp tag N pd : Nat} {T : List Nat} (hN : T.length = N) (hp : padN N = pd) : packetOf sp dp tag T = put4le (hdr sp dp tag ++ [0, 0, 0, 0] ++ T ++ List.replicate pd 0) 8 (Crc.sum (hdr sp dp tag ++ [0, 0, 0, 0] ++ T ++ List.replicate pd 0)) := by
  subst hN; subst hp
  simp [packetOf, rawOf]
theorem put_hdr (sp dp tag : Nat) : put4 (put2 (put2 (List.replicate 12 0) 0 sp) 2 dp) 4 tag = hdr sp dp tag ++ [0, 0, 0, 0] := rfl

set_option maxRecDepth 100000 in
set_option maxHeartbeats 2000000 in
theorem packet_marshal (pk cb ccap cp N sp dp tag mf td : Nat) (T : List Nat) (Im : World → Prop) (w : World) (hst : ∀ w w', Im w → Kept [] w w' → Im w') (hI : Im w)
    (hm : ∀ w, Im w → Calls Tryz.prog mf #[.pointer (some ⟨cp, 0, none⟩)] w fun e w' => ∃ B, w.heap.size ≤ B ∧ e = .returned (.tuple #[.slice (some ⟨B, 0, none⟩) N N, .nilIface]) ∧ OB w' B T ∧ Kept [cp] w w')
    (hmeth : ∀ w, (Go.method 485 td (.pointer (some ⟨cp, 0, none⟩)) "loop.example/pub-g03078/pub/sctp.marshal").run Tryz.prog w = .ok (mf, .pointer (some ⟨cp, 0, none⟩)) w)
    (hcf : ∀ w, (callFunc mf #[.pointer (some ⟨cp, 0, none⟩)]).run Tryz.prog w = .ok (.enter mf #[.pointer (some ⟨cp, 0, none⟩)]) w)
    (hN : T.length = N) (hp : 0 < N) (hmx : N < 60000) (hT : ∀ x ∈ T, x < 256) (hcp' : cp < w.heap.size) (hsp : sp < 65536) (hdp : dp < 65536) (htag : tag < 4294967296)
    (hpk : w.heap[pk]? = some (.cells (pkC sp dp tag (.slice (some ⟨cb, 0, none⟩) 1 ccap)) 169 (0, 0))) (hcb : w.cell? ⟨cb, 0, none⟩ = some (.iface td (.pointer (some ⟨cp, 0, none⟩)))) :
    Calls Tryz.prog 82 #[.pointer (some ⟨pk, 0, none⟩), .bool true] w fun e w' => ∃ g cap', w.heap.size ≤ g ∧ e = .returned (.tuple #[.slice (some ⟨g, 0, none⟩) (12 + N + padN N) cap', .nilIface]) ∧
      Own w' g (12 + N + padN N) cap' (packetOf sp dp tag T) ∧ Kept [cp] w w' := by
  have lpk := blk_lt hpk
  have lcb : cb < w.heap.size := World.block_lt_of_cell? w _ hcb
  have HPK := hid hpk; clear hpk
  have HCB := hid hcb; clear hcb
  have HST := hid hst; clear hst
  have HM := hid hm; clear hm
  have HN := hid hN; clear hN
  have HI := hid hI; clear hI
  have hmk := makeB 12 12 rfl (by omega) w
  go_enter Tryz.func82, Tryz.ntmps82
  go_wp2_with fail
  generalize hW : w.alloc _ = w1
  have Hob1 : Hid (OB w1 w.heap.size (List.replicate 12 0)) := by rw [← hW]; exact blk_new w _
  have hk1 : Kept [] w w1 := by rw [← hW]; exact (Kept.refl [] w).alloc _
  clear hW hmk
  generalize hB : w.heap.size = B at *
  have HB := hid hB; clear hB
  have lpk' : pk < w.heap.size := by rw [HB.out]; exact lpk
  have lcb' : cb < w.heap.size := by rw [HB.out]; exact lcb
  have HBS : ∀ r ∈ [B], r ∈ ([] : List Nat) ∨ w.heap.size ≤ r := by intro r hr; simp at hr; subst hr; right; rw [HB.out]; exact Nat.le_refl _
  have hc1 := (hk1.block pk lpk' (by simp)).trans HPK.out
  have u1 : w1.cell? ⟨pk, 0, none⟩ = some (.int .u16 sp) := blk_cell hc1 rfl
  clear hc1
  have s0 : (0 : Int) ≤ 12 := by omega
  go_still_tail 7, (by kernel_rfl)
  change wpList _ _ _ _ _ w1.drew
  go_wp2_with fail
  refine (putU16 B 0 12 12 sp _ w1.drew (by exact hsp) Hob1.out (by simp) (by omega) (by omega)).mono ?_
  rintro e w2 ⟨rfl, Hob2', hk2'⟩
  have hk2 : Kept [] w w2 := hk1.drew.thenNew hk2' HBS
  have Hob2 : Hid (OB w2 B (put2 (List.replicate 12 0) 0 sp)) := Hob2'
  have hc2 := (hk2.block pk lpk' (by simp)).trans HPK.out
  have u2 : w2.cell? ⟨pk, 1, none⟩ = some (.int .u16 dp) := blk_cell hc2 rfl
  clear hc2 hk2' Hob2' u1 hk1 Hob1
  go_wp2_with fail
  have s2 : (2 : Int) ≤ 12 := by omega
  go_still_tail 7, (by kernel_rfl)
  change wpList _ _ _ _ _ w2.drew
  go_wp2_with fail
  refine (putU16 B 2 10 10 dp _ w2.drew (by exact hdp) Hob2.out (by simp [put2]) (by omega) (by omega)).mono ?_
  rintro e w3 ⟨rfl, Hob3', hk3'⟩
  have hk3 : Kept [] w w3 := hk2.drew.thenNew hk3' HBS
  have Hob3 : Hid (OB w3 B (put2 (put2 (List.replicate 12 0) 0 sp) 2 dp)) := Hob3'
  have hc3 := (hk3.block pk lpk' (by simp)).trans HPK.out
  have u3 : w3.cell? ⟨pk, 2, none⟩ = some (.int .u32 tag) := blk_cell hc3 rfl
  clear hc3 hk3' Hob3' u2 hk2 Hob2
  go_wp2_with fail
  have s4 : (4 : Int) ≤ 12 := by omega
  go_still_tail 7, (by kernel_rfl)
  change wpList _ _ _ _ _ w3.drew
  go_wp2_with fail
  refine (putU32 B 4 8 8 tag _ w3.drew (by exact htag) Hob3.out (by simp [put2]) (by omega) (by omega)).mono ?_
  rintro e w4 ⟨rfl, Hob4', hk4'⟩
  have hk4 : Kept [] w w4 := hk3.drew.thenNew hk4' HBS
  have Hob4 : Hid (OB w4 B (hdr sp dp tag ++ [0, 0, 0, 0])) := Hob4'
  have hc4 := (hk4.block pk lpk' (by simp)).trans HPK.out
  have u4 : w4.cell? ⟨pk, 3, none⟩ = some (.slice (some ⟨cb, 0, none⟩) 1 ccap) := blk_cell hc4 rfl
  have v4 : w4.cell? ⟨cb, 0, none⟩ = some (.iface td (.pointer (some ⟨cp, 0, none⟩))) := (hk4.cell lcb' (by simp)).trans HCB.out
  have I4 := HST.out w w4 HI.out hk4
  have HI4 := hid I4
  clear I4 hc4 hk4' Hob4' u3 hk3 Hob3
  have HM4 := hid (HM.out w4 HI4.out)
  have HMETH := hid hmeth; clear hmeth
  have HCF := hid hcf; clear hcf
  go_wp2_with fail
  refine wp_loop_rounds 2 ?_
  rw [rounds_succ]
  have hmth := HMETH.out w4
  have hcf4 := HCF.out w4
  go_wp2_with fail
  refine HM4.out.mono ?_
  rintro e w5 ⟨D, hD, rfl, HD', hk5'⟩
  have hk5 : Kept [cp] w w5 := (hk4.more (by simp)).trans hk5'
  have hBc : B ∉ [cp] := by simp; omega
  have Hob5 : OB w5 B (hdr sp dp tag ++ [0, 0, 0, 0]) := Hob4.out.kept hk5' hBc
  have hby : BytesAt w5 D 0 T := HD'.bytes hT
  obtain ⟨g6, cap6, w6, hr6, Ho6', hk6', hg6⟩ := appendRun w.heap.size B 12 12 D 0 N N 39 _ T w5 (Hob5.own (by simp [hdr, maxLen])) (by have := HB.out; omega) hk5.size hby HN.out (by omega)
  have hk6 : Kept [cp] w w6 := hk5.thenNew hk6' (by intro r hr; simp at hr; subst hr; right; have := HB.out; omega)
  have Ho6 := hid Ho6'
  clear hby Hob5 Ho6' hk6' hk5' HD' hk4 Hob4 u4 v4 HM4 hmth hcf4 hBc
  have Hr6 := hr6
  go_wp2_with (at_builtin; refine wpList_append_run rfl _ _ 39 rfl _ _ _ rfl rfl hr6 ?_)
  refine (getPadding (12 + (N : Int)) w6 (by omega) (by omega)).mono ?_
  rintro e w6b ⟨rfl, rfl⟩
  have hpd : (4 - (12 + (N:Int)) % 4) % 4 = (padN N : Int) := by unfold padN; omega
  rw [hpd]
  have hpl : padN N < 4 := by unfold padN; omega
  clear hpd hr6 Hr6
  generalize hpe : padN N = pd at *
  have HPE := hid hpe; clear hpe
  have hF : ∃ g7 cap7 w7, Own w7 g7 (12 + N + pd) cap7 (hdr sp dp tag ++ [0, 0, 0, 0] ++ T ++ List.replicate pd 0) ∧ Kept [cp] w w7 ∧ w.heap.size ≤ g7 ∧
     ((pd = 0 ∧ g7 = g6 ∧ cap7 = cap6 ∧ w7 = w6) ∨ (pd ≠ 0 ∧ (Builtin.append_ #[39, 3] 39 #[.slice (some ⟨g6, 0, none⟩) (12 + N) cap6, .int .i64 pd]).run Tryz.prog w6 = .ok (.slice (some ⟨g7, 0, none⟩) (12 + N + pd) cap7) w7)) := by
    by_cases hz : pd = 0
    · exact ⟨g6, cap6, w6, by subst hz; simpa using Ho6.out, hk6, hg6, .inl ⟨hz, rfl, rfl, rfl⟩⟩
    · obtain ⟨g7, cap7, w7, hr7, Ho7', hk7', hg7⟩ := zerosRun g6 (12 + N) cap6 pd 39 _ w6 Ho6.out (by omega) (by omega)
      exact ⟨g7, cap7, w7, Ho7', hk6.thenNew hk7' (by intro r hr; simp at hr; subst hr; right; omega), by have := hk6.size; omega, .inr ⟨hz, hr7⟩⟩
  obtain ⟨g7, cap7, w7, Ho7', hk7, hg7, hway⟩ := hF
  have Ho7 := hid Ho7'
  clear Ho7' Ho6
  have Hsm : Hid (∀ x ∈ hdr sp dp tag ++ [0, 0, 0, 0] ++ T ++ List.replicate pd 0, x < 256) := small_raw hsp hdp htag hT pd
  rcases hway with ⟨hz, rfl, rfl, rfl⟩ | ⟨hz, hr7⟩
  · subst hz
    go_wp2_with fail
    rw [rounds_succ]
    go_wp2_with fail
    have t8 : (8 : Int) ≤ 12 + (N : Int) := by omega
    have hcc := Ho7.out.cap
    have hcm : cap7 ≤ 9223372036854775807 := by have := hcc.2; unfold maxLen at this; omega
    have t8' : ¬ cap7 = 8 := by omega
    have lg := Ho7.out.lt
    have Hod := hid (Ho7.out.kept ((Kept.refl [] w7).drew) (by simp))
    have hsl := sum_lt (hdr sp dp tag ++ [0, 0, 0, 0] ++ T ++ List.replicate 0 0)
    have HC := hid (checksum g7 0 (12 + N) cap7 _ w7.drew (Hod.out.bytes (Hsm.out)) Hod.out.len (by omega) (by omega) hcm)
    generalize hs : Crc.sum (hdr sp dp tag ++ [0, 0, 0, 0] ++ T ++ List.replicate 0 0) = cs at *
    have HS := hid hs; clear hs
    have HPUT : Hid (∀ w8, Kept [] w7.drew w8 → Calls Tryz.prog 99 #[.agg #[], .slice (some ⟨g7, 8, none⟩) (12 + N - 8) (cap7 - 8), .int .u32 cs] w8 fun e w' => e = .returned (.tuple #[]) ∧ Own w' g7 (12 + N) cap7 (put4le (hdr sp dp tag ++ [0, 0, 0, 0] ++ T ++ List.replicate 0 0) 8 cs) ∧ Kept [g7] w8 w') :=
      fun w8 k => putLE32own g7 8 (12 + N) (12 + N - 8) (cap7 - 8) cap7 cs _ w8 hsl (Hod.out.kept k (by simp)) (by omega) (by omega) (by omega)
    clear Hsm
    go_region_held3 (fun _ => True) (trivial) ((first | (go_at_call 100; refine HC.out.mono ?_; rintro e w8 ⟨rfl, hk8⟩) | (go_at_call 99; refine (HPUT.out w8 hk8).mono ?_; rintro e w9 ⟨rfl, Ho9, hk9⟩)))
    have hk8' := hk7.drew.trans (hk8.more (by simp))
    have HO := hid (hk8'.thenNew hk9 (by intro r hr; simp at hr; subst hr; right; omega))
    have HO9 := hid Ho9
    clear Ho9 hk9
    go_wp2_with fail
    go_ret2
    refine ⟨g7, cap7, by omega, ?_, ?_, HO.out⟩
    · rw [HPE.out]; rfl
    · rw [HPE.out, packetOf_eq HN.out HPE.out, HS.out]
      exact HO9.out
  · have hzi : ¬ ((pd : Int) = 0) := by omega
    go_wp2_with (at_builtin; refine Lib.wpList_append_run _ rfl _ _ 39 3 rfl _ _ rfl rfl _ _ hr7 ?_)
    rw [rounds_succ]
    go_wp2_with fail
    clear hr7
    have t8 : (8 : Int) ≤ 12 + (N : Int) + (pd : Int) := by omega
    have hcc := Ho7.out.cap
    have hcm : cap7 ≤ 9223372036854775807 := by have := hcc.2; unfold maxLen at this; omega
    have t8' : ¬ cap7 = 8 := by omega
    have lg := Ho7.out.lt
    have Hod := hid (Ho7.out.kept ((Kept.refl [] w7).drew) (by simp))
    have hsl := sum_lt (hdr sp dp tag ++ [0, 0, 0, 0] ++ T ++ List.replicate pd 0)
    have HC := hid (checksum g7 0 (12 + N + pd) cap7 _ w7.drew (Hod.out.bytes (Hsm.out)) Hod.out.len (by omega) (by omega) hcm)
    generalize hs : Crc.sum (hdr sp dp tag ++ [0, 0, 0, 0] ++ T ++ List.replicate pd 0) = cs at *
    have HS := hid hs; clear hs
    have HPUT : Hid (∀ w8, Kept [] w7.drew w8 → Calls Tryz.prog 99 #[.agg #[], .slice (some ⟨g7, 8, none⟩) (12 + N + pd - 8) (cap7 - 8), .int .u32 cs] w8 fun e w' => e = .returned (.tuple #[]) ∧ Own w' g7 (12 + N + pd) cap7 (put4le (hdr sp dp tag ++ [0, 0, 0, 0] ++ T ++ List.replicate pd 0) 8 cs) ∧ Kept [g7] w8 w') :=
      fun w8 k => putLE32own g7 8 (12 + N + pd) (12 + N + pd - 8) (cap7 - 8) cap7 cs _ w8 hsl (Hod.out.kept k (by simp)) (by omega) (by omega) (by omega)
    clear Hsm
    go_region_held3 (fun _ => True) (trivial) ((first | (go_at_call 100; refine HC.out.mono ?_; rintro e w8 ⟨rfl, hk8⟩) | (go_at_call 99; refine (HPUT.out w8 hk8).mono ?_; rintro e w9 ⟨rfl, Ho9, hk9⟩)))
    have hk8' := hk7.drew.trans (hk8.more (by simp))
    have HO := hid (hk8'.thenNew hk9 (by intro r hr; simp at hr; subst hr; right; omega))
    have HO9 := hid Ho9
    clear Ho9 hk9
    go_wp2_with fail
    go_ret2
    refine ⟨g7, cap7, by omega, ?_, ?_, HO.out⟩
    · rw [HPE.out]; rfl
    · rw [HPE.out, packetOf_eq HN.out HPE.out, HS.out]
      exact HO9.out
end Go.Proofs.Base
