/- Parts of the proof, steps T14, T15: what the code and the plain laws of these steps give. Made by AI agents; no person has read it. -/
import Derived.Test.YthphjbjehccomaaGreatDoorT13
import Derived.Test.YthphjbjehccomaaGreatDoorG3
section
namespace Go.Proofs.Base
open Go Go.Proofs Go.RowKit Go.Proofs.Gaps
set_option maxRecDepth 100000
def sackC (typ fl : Nat) (raw : Value) (tsn : Nat) (vg vd : Value) : Array Value := #[.int .u8 typ, .int .u8 fl, raw, .int .u32 tsn, .int .u32 0, vg, vd]
theorem head_list (tsn g d r : Nat) : put2 (put2 (put4 (put4 (List.replicate (12 + r) 0) 0 tsn) 4 0) 8 g) 10 d = four tsn ++ (four 0 ++ (two g ++ two d)) ++ List.replicate r 0 := by
  have e1 : put4 (List.replicate (12 + r) 0) 0 tsn = four tsn ++ List.replicate (8 + r) 0 := by
    have := put4_zeros [] (8 + r) tsn 0 rfl
    rw [show 4 + (8 + r) = 12 + r by omega] at this
    simpa using this
  have e2 : put4 (four tsn ++ List.replicate (8 + r) 0) 4 0 = four tsn ++ four 0 ++ List.replicate (4 + r) 0 := by
    rw [show 8 + r = 4 + (4 + r) by omega]; exact put4_zeros _ _ _ _ rfl
  have e3 : put2 (four tsn ++ four 0 ++ List.replicate (4 + r) 0) 8 g = four tsn ++ four 0 ++ two g ++ List.replicate (2 + r) 0 := by
    rw [show 4 + r = 2 + (2 + r) by omega]; exact put2_zeros _ _ _ _ rfl
  have e4 : put2 (four tsn ++ four 0 ++ two g ++ List.replicate (2 + r) 0) 10 d = four tsn ++ four 0 ++ two g ++ two d ++ List.replicate r 0 := put2_zeros _ _ _ _ rfl
  rw [e1, e2, e3, e4]
  simp
set_option maxHeartbeats 6000000 in
theorem sack_marshal (p typ bg bd : Nat) (raw vg vd : Value) (s : Sk) (w : World) (hs : s.ok) (h : w.heap[p]? = some (.cells (sackC typ 0 raw s.tsn vg vd) 149 (0, 0)))
    (hg : w.ownsRow bg 151 2 vg s.gaps.length (g16 s.gaps)) (hd : w.ownsRow bd 22 1 vd s.dups.length (u32s s.dups)) :
    Calls Tryz.prog 60 #[.pointer (some ⟨p, 0, none⟩)] w fun e w' => ∃ B, w.heap.size ≤ B ∧ e = .returned (.tuple #[.slice (some ⟨B, 0, none⟩) (4 + s.len) (4 + s.len), .nilIface]) ∧
      OB w' B (sackBytes s) ∧ Kept [p] w w' := by
  obtain ⟨Ag, Cg, rfl⟩ := own_form hg
  obtain ⟨Ad, Cd, rfl⟩ := own_form hd
  have lp := blk_lt h
  have c5 : w.cell? ⟨p, 5, none⟩ = some (.slice Ag s.gaps.length Cg) := blk_cell h rfl
  have c6 : w.cell? ⟨p, 6, none⟩ = some (.slice Ad s.dups.length Cd) := blk_cell h rfl
  have hn1 := hs.few; have hn2 := hs.fewd
  have hmk := makeB s.len (12 + (4 * (s.gaps.length : Int) + 4 * (s.dups.length : Int))) (by unfold Sk.len; omega) (by unfold Sk.len; omega) w.drew
  have hlen : s.len = 12 + (4 * s.gaps.length + 4 * s.dups.length) := by unfold Sk.len; omega
  rw [hlen] at hmk ⊢
  generalize hr : 4 * s.gaps.length + 4 * s.dups.length = r at *
  have HR := hid hr; have HLEN := hid hlen
  have HMK := hid hmk
  clear hmk hr hlen
  have m1 : wrap64 (4 * (s.gaps.length : Int)) = 4 * (s.gaps.length : Int) := by unfold wrap64; omega
  have H := hid h; have HG := hid hg; have HD := hid hd; have HS := hid hs
  clear h hg hd hs m1
  go_enter Tryz.func60, Tryz.ntmps60
  go_wp2_with fail
  go_still_tail 14, (by kernel_rfl)
  change wpList _ _ _ _ _ w.drew
  go_wp2_with fail
  rw [HMK.out]
  go_wp2_with fail
  generalize hW : World.drew _ = w1
  have Hob1 : Hid (OB w1 w.heap.size (List.replicate (12 + r) 0)) := by rw [← hW]; exact blk_new w _
  have hk1 : Kept [] w w1 := by rw [← hW]; exact ((Kept.refl [] w).alloc _).drew
  clear hW c5 c6 HMK
  generalize hB : w.heap.size = B at *
  have HB := hid hB; clear hB
  have HBS : ∀ r ∈ [B], r ∈ ([] : List Nat) ∨ w.heap.size ≤ r := by intro r hr; simp at hr; subst hr; right; rw [HB.out]; exact Nat.le_refl _
  have hH1 := (hk1.block p (by rw [HB.out]; exact lp) (by simp)).trans H.out
  have u1 : w1.cell? ⟨p, 3, none⟩ = some (.int .u32 s.tsn) := blk_cell hH1 rfl
  have lp1 := blk_lt hH1
  clear hH1
  have s0 : (0 : Int) ≤ 12 + (r : Int) := by omega
  have s0' : ¬ (12 + r) = 0 := by omega
  have hrs : r < 8000 := by have := HR.out; omega
  go_still_tail 7, (by kernel_rfl)
  change wpList _ _ _ _ _ w1.drew
  go_wp2_with fail
  refine (putU32 B 0 (12 + r) (12 + r) s.tsn _ w1.drew HS.out.tsn Hob1.out (by simp <;> omega) (by omega) (by omega)).mono ?_
  rintro e w2 ⟨rfl, Hob2', hk2'⟩
  have hk2 : Kept [] w w2 := hk1.drew.thenNew hk2' HBS
  have Hob2 : Hid (OB w2 B (put4 (List.replicate (12 + r) 0) 0 s.tsn)) := Hob2'
  have hH2 := (hk2.block p (by rw [HB.out]; exact lp) (by simp)).trans H.out
  have u2 : w2.cell? ⟨p, 4, none⟩ = some (.int .u32 ((0 : Nat) : Int)) := blk_cell hH2 rfl
  have lp2 := blk_lt hH2
  clear hH2 hk2' Hob2' u1 hk1 Hob1 s0 s0' lp1
  go_wp2_with fail
  have s4 : (4 : Int) ≤ 12 + (r : Int) := by omega
  have s4' : ¬ (12 + r) = 4 := by omega
  go_still_tail 7, (by kernel_rfl)
  change wpList _ _ _ _ _ w2.drew
  go_wp2_with fail
  refine (putU32 B 4 (12 + r - 4) (12 + r - 4) 0 _ w2.drew (by omega) Hob2.out (by simp <;> omega) (by omega) (by omega)).mono ?_
  rintro e w3 ⟨rfl, Hob3', hk3'⟩
  have hk3 : Kept [] w w3 := hk2.drew.thenNew hk3' HBS
  have Hob3 : Hid (OB w3 B (put4 (put4 (List.replicate (12 + r) 0) 0 s.tsn) 4 0)) := Hob3'
  have hH3 := (hk3.block p (by rw [HB.out]; exact lp) (by simp)).trans H.out
  have u3 : w3.cell? ⟨p, 5, none⟩ = some (.slice Ag s.gaps.length Cg) := blk_cell hH3 rfl
  have lp3 := blk_lt hH3
  clear hH3 hk3' Hob3' u2 hk2 Hob2 s4 s4' lp2
  go_wp2_with fail
  have s8 : (8 : Int) ≤ 12 + (r : Int) := by omega
  have s8' : ¬ (12 + r) = 8 := by omega
  have n1 : IntKind.u16.wrap (s.gaps.length : Int) = (s.gaps.length : Int) := u16_id (by omega)
  have n2 : IntKind.u16.wrap (s.dups.length : Int) = (s.dups.length : Int) := u16_id (by omega)
  go_still_tail 9, (by kernel_rfl)
  change wpList _ _ _ _ _ w3.drew
  go_wp2_with fail
  refine (putU16 B 8 (12 + r - 8) (12 + r - 8) s.gaps.length _ w3.drew (by omega) Hob3.out (by simp <;> omega) (by omega) (by omega)).mono ?_
  rintro e w4 ⟨rfl, Hob4', hk4'⟩
  have hk4 : Kept [] w w4 := hk3.drew.thenNew hk4' HBS
  have Hob4 : Hid (OB w4 B (put2 (put4 (put4 (List.replicate (12 + r) 0) 0 s.tsn) 4 0) 8 s.gaps.length)) := Hob4'
  have hH4 := (hk4.block p (by rw [HB.out]; exact lp) (by simp)).trans H.out
  have u4 : w4.cell? ⟨p, 6, none⟩ = some (.slice Ad s.dups.length Cd) := blk_cell hH4 rfl
  have lp4 := blk_lt hH4
  clear hH4 hk4' Hob4' u3 hk3 Hob3 s8 s8' lp3
  go_wp2_with fail
  have s10 : (10 : Int) ≤ 12 + (r : Int) := by omega
  have s10' : ¬ (12 + r) = 10 := by omega
  go_still_tail 9, (by kernel_rfl)
  change wpList _ _ _ _ _ w4.drew
  go_wp2_with fail
  refine (putU16 B 10 (12 + r - 10) (12 + r - 10) s.dups.length _ w4.drew (by omega) Hob4.out (by simp <;> omega) (by omega) (by omega)).mono ?_
  rintro e w5 ⟨rfl, Hob5', hk5'⟩
  have hk5 : Kept [] w w5 := hk4.drew.thenNew hk5' HBS
  have Hob5 : Hid (OB w5 B (four s.tsn ++ (four 0 ++ (two s.gaps.length ++ two s.dups.length)) ++ List.replicate r 0)) := by rw [← head_list]; exact Hob5'
  have hH5 := (hk5.block p (by rw [HB.out]; exact lp) (by simp)).trans H.out
  have u5 : w5.cell? ⟨p, 5, none⟩ = some (.slice Ag s.gaps.length Cg) := blk_cell hH5 rfl
  have lp5 := blk_lt hH5
  clear hH5 hk5' Hob5' u4 hk4 Hob4 s10 s10' lp4 n1 n2
  go_wp2_with fail
  have HK5 := hid hk5
  have HDR := hid (show (four s.tsn ++ (four 0 ++ (two s.gaps.length ++ two s.dups.length))).length = 12 by simp)
  generalize hhd : four s.tsn ++ (four 0 ++ (two s.gaps.length ++ two s.dups.length)) = hd at *
  have HHD := hid hhd
  have HLP := hid lp
  clear hk5 hhd u5 lp5 lp
  go_loopw [5, 66] (fun s5 s66 wx => ∃ i o : Nat, i ≤ s.gaps.length ∧ o = 12 + 4 * i ∧ s5 = .int .i64 o ∧ s66 = .int .i64 i ∧ Hid (OB wx B (hd ++ gapB (s.gaps.take i) ++ List.replicate (r - 4 * i) 0)) ∧ Hid (Kept [] w wx)) (fun _ s66 _ => s.gaps.length - (intOf s66).toNat)
  case atStart => exact ⟨0, 12, by omega, rfl, rfl, rfl, hid (by simpa [gapB] using Hob5.out), HK5⟩
  case round =>
    obtain ⟨i, o, hi, ho, rfl, rfl, HO, HK⟩ := hrel
    by_cases hlt : i < s.gaps.length
    · have hlt' : (i : Int) < (s.gaps.length : Int) := by omega
      have h0' : (0 : Int) ≤ (i : Int) := by omega
      obtain ⟨g, cap', hv, _, hcm⟩ := own_some HG.out (by omega)
      simp only [Value.slice.injEq, true_and] at hv
      obtain ⟨rfl, rfl⟩ := hv
      have lg := (HG.out.lt g rfl).2
      have hHg := ownsRow_kept HG.out HK.out (by simp)
      have hget := flat2_get s.gaps (fun g => Value.int .u16 (g.1 : Nat)) (fun g => Value.int .u16 (g.2 : Nat)) i hlt
      have c0 : wr.cell? ⟨g, i * 2, none⟩ = some (.int .u16 ((s.gaps[i]).1 : Nat)) := by
        have := hHg.cells (g := g) rfl (i * 2) _ hget.1
        rwa [addr_add, Nat.zero_add] at this
      have c1 : wr.cell? ⟨g, i * 2 + 1, none⟩ = some (.int .u16 ((s.gaps[i]).2 : Nat)) := by
        have := hHg.cells (g := g) rfl (i * 2 + 1) _ hget.2
        rwa [addr_add, Nat.zero_add] at this
      have lgr : g < wr.heap.size := Nat.lt_of_lt_of_le lg HK.out.size
      have HTK := hid (take_snoc' hlt)
      have hgs := hid (HS.out.gaps s.gaps[i] (List.getElem_mem hlt))
      obtain ⟨q, hq⟩ : ∃ q, r - 4 * i = 2 + (2 + q) := ⟨r - 4 * i - 4, by have := HR.out; omega⟩
      have hpre : (hd ++ gapB (s.gaps.take i)).length = o := by rw [List.length_append, HDR.out, len_gapB, List.length_take]; omega
      have hob : OB wr B (hd ++ gapB (s.gaps.take i) ++ List.replicate (2 + (2 + q)) 0) := by rw [← hq]; exact HO.out
      generalize hG1 : s.gaps[i] = gp at *
      have HQ := hid hq; have HPRE := hid hpre; have HOB := hid hob; have HO12 := hid ho
      have o0 : (0 : Int) ≤ (o : Int) := by omega
      have o1 : (o : Int) ≤ 12 + (r : Int) := by omega
      have o2 : ¬ (12 + r) = o := by omega
      have hro : o + 4 ≤ 12 + r := by omega
      have HRO := hid hro
      clear hHg hget hq hpre hob HO lg ho hcm hro
      go_wp2_with fail
      generalize hWE : wr.alloc _ = wE
      have hkE : Kept [] wr wE := by rw [← hWE]; exact (Kept.refl [] wr).alloc _
      have hE : wE.heap[wr.heap.size]? = some (.cells #[.int .u16 (gp.1 : Nat), .int .u16 (gp.2 : Nat)] 151 (0, 0)) := by rw [← hWE]; exact blk_new wr _
      have HOE := hid (HOB.out.kept hkE (by simp)); have HKE := hid (HK.out.trans hkE)
      have lBr := HOB.out.lt
      have hneE : B ≠ wr.heap.size := by omega
      clear hWE c0 c1 hkE
      generalize hEn : wr.heap.size = E at *
      have e0 : wE.cell? ⟨E, 0, none⟩ = some (.int .u16 (gp.1 : Nat)) := blk_cell hE rfl
      have lE := blk_lt hE
      have HE := hid hE; clear hE
      go_still_tail 6, (by kernel_rfl)
      change wpList _ _ _ _ _ wE.drew
      go_wp2_with fail
      have hro := HRO.out
      have hL : (hd ++ gapB (s.gaps.take i) ++ List.replicate (2 + (2 + q)) 0).length = o + (2 + (2 + q)) := by rw [List.length_append, HPRE.out, List.length_replicate]
      refine (putU16 B o (12 + r - o) (12 + r - o) gp.1 _ wE.drew hgs.out.1 HOE.out (by rw [hL]; omega) (by omega) (by omega)).mono ?_
      rintro e w6 ⟨rfl, hob6, hk6⟩
      rw [put2_zeros _ _ _ _ HPRE.out] at hob6
      have HO6 := hid hob6
      have HK6 := hid (HKE.out.drew.thenNew hk6 HBS)
      have hE6 := (hk6.block E lE (by simp; omega)).trans HE.out
      have e1 : w6.cell? ⟨E, 1, none⟩ = some (.int .u16 (gp.2 : Nat)) := blk_cell hE6 rfl
      have lE6 := blk_lt hE6
      clear hob6 hk6 hE6 e0 hL hro
      have w2 : IntKind.i64.wrap ((o : Int) + 2) = (o : Int) + 2 := by rw [IntKind.wrap_i64]; have := HRO.out; omega
      have p0 : (0 : Int) ≤ (o : Int) + 2 := by omega
      have p1 : (o : Int) + 2 ≤ 12 + (r : Int) := by have := HQ.out; have := HO12.out; omega
      have p2 : ¬ (12 + r) = o + 2 := by have := HQ.out; have := HO12.out; omega
      have p3 : ((o : Int) + 2).toNat = o + 2 := by omega
      go_wp2_with fail
      go_still_tail 7, (by kernel_rfl)
      change wpList _ _ _ _ _ w6.drew
      go_wp2_with fail
      have hro := HRO.out
      have hpre2 : (hd ++ gapB (s.gaps.take i) ++ two gp.1).length = o + 2 := by rw [List.length_append, HPRE.out]; rfl
      have hL : (hd ++ gapB (s.gaps.take i) ++ two gp.1 ++ List.replicate (2 + q) 0).length = o + 2 + (2 + q) := by rw [List.length_append, hpre2, List.length_replicate]
      refine (putU16 B (o + 2) (12 + r - (o + 2)) (12 + r - (o + 2)) gp.2 _ w6.drew hgs.out.2 HO6.out (by rw [hL]; omega) (by omega) (by omega)).mono ?_
      rintro e w7 ⟨rfl, hob7, hk7⟩
      rw [put2_zeros _ _ _ _ hpre2] at hob7
      have HO7 := hid hob7
      have HK7 := hid (HK6.out.drew.thenNew hk7 HBS)
      have w4' : IntKind.i64.wrap ((o : Int) + 4) = ((o + 4 : Nat) : Int) := by rw [IntKind.wrap_i64]; omega
      clear hob7 hk7 hL hpre2 hro e1 p0 p1 p2 p3 w2 o0 o1 o2
      go_wp2_with fail
      go_roundw
      case rel =>
        refine ⟨i + 1, o + 4, by omega, by have := HO12.out; omega, by go_num, by go_num, hid ?_, HK7⟩
        have h7 := HO7.out
        rw [HTK.out, gapB_snoc, show r - 4 * (i + 1) = q by have := HQ.out; omega]
        simpa using h7
      case measure => simp [intOf]; omega
    · have hlt' : ¬ (i : Int) < (s.gaps.length : Int) := by omega
      obtain rfl : i = s.gaps.length := by omega
      have hH6 := (HK.out.block p (by rw [HB.out]; exact HLP.out) (by simp)).trans H.out
      have u6 : wr.cell? ⟨p, 6, none⟩ = some (.slice Ad s.dups.length Cd) := blk_cell hH6 rfl
      have lp6 := blk_lt hH6
      have hob := HO.out
      rw [List.take_length, show r - 4 * s.gaps.length = 4 * s.dups.length by have := HR.out; omega] at hob
      have HOB := hid hob
      clear hH6 hob HO
      go_wp2_with fail
      have hpre0 : (hd ++ gapB s.gaps).length = 12 + 4 * s.gaps.length := by rw [List.length_append, HDR.out, len_gapB]
      generalize hpr : hd ++ gapB s.gaps = hg2 at *
      have HPR := hid hpr; have HPRE0 := hid hpre0
      have HKr := HK
      clear hpr hpre0 u6 lp6 ho
      go_loopw [5, 93] (fun s5 s93 wx => ∃ k o : Nat, k ≤ s.dups.length ∧ o = 12 + 4 * s.gaps.length + 4 * k ∧ s5 = .int .i64 o ∧ s93 = .int .i64 k ∧ Hid (OB wx B (hg2 ++ dupB (s.dups.take k) ++ List.replicate (4 * s.dups.length - 4 * k) 0)) ∧ Hid (Kept [] w wx)) (fun _ s93 _ => s.dups.length - (intOf s93).toNat)
      case atStart => exact ⟨0, 12 + 4 * s.gaps.length, by omega, by omega, by first | rfl | simp, rfl, hid (by simpa [dupB] using HOB.out), HKr⟩
      case round =>
        obtain ⟨k, o, hk, ho, rfl, rfl, HO, HK⟩ := hrel
        by_cases hlt : k < s.dups.length
        · have hlt' : (k : Int) < (s.dups.length : Int) := by omega
          have h0' : (0 : Int) ≤ (k : Int) := by omega
          obtain ⟨g, cap', hv, _, hcm⟩ := own_some HD.out (by omega)
          simp only [Value.slice.injEq, true_and] at hv
          obtain ⟨rfl, rfl⟩ := hv
          have lg := (HD.out.lt g rfl).2
          have hHg := ownsRow_kept HD.out HK.out (by simp)
          have c0 : wr.cell? ⟨g, k, none⟩ = some (.int .u32 (s.dups[k] : Nat)) := by
            have := hHg.cells (g := g) rfl k (.int .u32 (s.dups[k] : Nat)) (by simp [u32s, hlt])
            rwa [addr_add, Nat.zero_add] at this
          have lgr : g < wr.heap.size := Nat.lt_of_lt_of_le lg HK.out.size
          have HTK := hid (take_snoc' hlt)
          have hgs := hid (HS.out.dups s.dups[k] (List.getElem_mem hlt))
          obtain ⟨q, hq⟩ : ∃ q, 4 * s.dups.length - 4 * k = 4 + q := ⟨4 * s.dups.length - 4 * k - 4, by omega⟩
          have hpre : (hg2 ++ dupB (s.dups.take k)).length = o := by rw [List.length_append, HPRE0.out, len_dupB, List.length_take]; omega
          have hob : OB wr B (hg2 ++ dupB (s.dups.take k) ++ List.replicate (4 + q) 0) := by rw [← hq]; exact HO.out
          generalize hG1 : s.dups[k] = dd at *
          have hR := HR.out
          have HQ := hid hq; have HPRE := hid hpre; have HOB2 := hid hob; have HO12 := hid ho
          have o0 : (0 : Int) ≤ (o : Int) := by omega
          have o1 : (o : Int) ≤ 12 + (r : Int) := by omega
          have o2 : ¬ (12 + r) = o := by omega
          have hro : o + 4 ≤ 12 + r := by omega
          have HRO := hid hro
          clear hHg hq hpre hob HO lg ho hcm hro hR
          go_wp2_with fail
          go_still_tail 5, (by kernel_rfl)
          change wpList _ _ _ _ _ wr.drew
          go_wp2_with fail
          have hro := HRO.out
          have hL : (hg2 ++ dupB (s.dups.take k) ++ List.replicate (4 + q) 0).length = o + (4 + q) := by rw [List.length_append, HPRE.out, List.length_replicate]
          refine (putU32 B o (12 + r - o) (12 + r - o) dd _ wr.drew hgs.out HOB2.out (by rw [hL]; omega) (by omega) (by omega)).mono ?_
          rintro e w6 ⟨rfl, hob6, hk6⟩
          rw [put4_zeros _ _ _ _ HPRE.out] at hob6
          have HO6 := hid hob6
          have HK6 := hid (HK.out.drew.thenNew hk6 HBS)
          have w4' : IntKind.i64.wrap ((o : Int) + 4) = ((o + 4 : Nat) : Int) := by rw [IntKind.wrap_i64]; omega
          clear hob6 hk6 hL hro c0 o0 o1 o2
          go_wp2_with fail
          go_roundw
          case rel =>
            refine ⟨k + 1, o + 4, by omega, by have := HO12.out; omega, by go_num, by go_num, hid ?_, HK6⟩
            have h7 := HO6.out
            rw [HTK.out, dupB_snoc, show 4 * s.dups.length - 4 * (k + 1) = q by have := HQ.out; omega]
            simpa using h7
          case measure => simp [intOf]; omega
        · have hlt' : ¬ (k : Int) < (s.dups.length : Int) := by omega
          obtain rfl : k = s.dups.length := by omega
          have hH6 := (HK.out.block p (by rw [HB.out]; exact HLP.out) (by simp)).trans H.out
          have lp6 := blk_lt hH6
          have f0 : wr.frozen? ⟨p, 0, none⟩ = false := blk_free hH6
          have f2 : wr.frozen? ⟨p, 2, none⟩ = false := blk_free hH6
          have c0 : wr.cell? ⟨p, 0, none⟩ = some (.int .u8 typ) := blk_cell hH6 rfl
          have c2 : wr.cell? ⟨p, 2, none⟩ = some raw := blk_cell hH6 rfl
          have hob : OB wr B (sackPay s) := by
            have h := HO.out
            rw [List.take_length, Nat.sub_self, List.replicate_zero, List.append_nil, ← HPR.out, ← HHD.out] at h
            simpa [sackPay] using h
          have HOB3 := hid hob; have HH6 := hid hH6
          clear hob HO hH6
          go_wp2_with fail
          generalize hW8 : World.setCell _ _ _ = w8
          have hpB : B ≠ p := by have := HLP.out; omega
          have hH8 : w8.heap[p]? = some (.cells (sackC 3 0 (.slice (some ⟨B, 0, none⟩) (12 + r) (12 + r)) s.tsn (.slice Ag s.gaps.length Cg) (.slice Ad s.dups.length Cd)) 149 (0, 0)) := by
            rw [← hW8, blk_setCell _ (blk_setCell _ HH6.out)]; rfl
          have hob8 : OB w8 B (sackPay s) := by rw [← hW8]; exact (HOB3.out.keep_set ⟨p, 0, none⟩ _ hpB).keep_set ⟨p, 2, none⟩ _ hpB
          have hk8 : Kept [p] w w8 := by
            rw [← hW8]
            exact ((HK.out.more (R := [p]) (by simp)).setCell (p := ⟨p, 0, none⟩) _ (.inl (by simp))).setCell (p := ⟨p, 2, none⟩) _ (.inl (by simp))
          have hsp : (sackPay s).length = 12 + r := by rw [len_sackPay, HLEN.out]
          refine (header_marshal p B 0 (12 + r) (12 + r) 3 0 (sackPay s) w8 (blk_cell hH8 rfl) (blk_cell hH8 rfl) (blk_cell hH8 rfl) (hob8.bytes (small_sackPay s HS.out)) hsp (by omega) (by omega)).mono ?_
          rintro e w9 ⟨rfl, hob9, hk9⟩
          have hsz := hk8.size
          have HOB9 := hid hob9; have HK9 := hid (hk8.thenNew hk9 (by simp))
          have HSZ := hid hsz
          clear hob9 hk9 hk8 hob8 hH8 hW8 hsz
          generalize w8.heap.size = B9 at *
          go_wp2_with fail
          go_ret2
          refine ⟨B9, HSZ.out, rfl, ?_, HK9.out⟩
          have h9 := HOB9.out
          unfold sackBytes
          rw [HLEN.out]
          exact h9
end Go.Proofs.Base
end
section
namespace Go.Proofs.Base
open Go Go.Proofs Go.RowKit Go.Proofs.Gaps
set_option maxRecDepth 100000
set_option maxHeartbeats 6000000 in
theorem ZZSackText (bg bd : Nat) (vg vd : Value) (s : Sk) (w : World) (hs : s.ok) (hg : w.ownsRow bg 146 2 vg s.gaps.length (g16 s.gaps)) (hd : w.ownsRow bd 22 1 vd s.dups.length (u32s s.dups)) :
    Calls Tryz.prog 39 #[.agg #[.int .u32 s.tsn, .int .u32 0, vg, vd]] w fun e w' => ∃ B, w.heap.size ≤ B ∧ e = .returned (.tuple #[.slice (some ⟨B, 0, none⟩) (4 + s.len) (4 + s.len), .nilIface]) ∧
      OB w' B (sackBytes s) ∧ Kept [] w w' := by
  obtain ⟨Ag, Cg, rfl⟩ := own_form hg
  obtain ⟨Ad, Cd, rfl⟩ := own_form hd
  have hn1 := hs.few
  have HG := hid hg; have HD := hid hd; have HS := hid hs
  clear hg hd hs
  go_enter Tryz.func39, Tryz.ntmps39
  go_wp2_with fail
  generalize hW : World.alloc _ _ = w1
  have hP1 : w1.heap[w.heap.size + 1]? = some (.cells (sackC 0 0 (.slice none 0 0) s.tsn (.slice none 0 0) (.slice Ad s.dups.length Cd)) 149 (0, 0)) := by
    rw [← hW]
    have h := blk_new (w.alloc (.cells #[.int .u32 s.tsn, .int .u32 0, .slice Ag s.gaps.length Cg, .slice Ad s.dups.length Cd] 104)) (.cells (sackC 0 0 (.slice none 0 0) s.tsn (.slice none 0 0) (.slice Ad s.dups.length Cd)) 149)
    simp only [World.size_alloc] at h
    exact h
  have hk1 : Kept [] w w1 := by rw [← hW]; exact ((Kept.refl [] w).alloc _).alloc _
  have HP1 := hid hP1; have HK1 := hid hk1
  have N0 := hid (World.ownsRow_nil w1 w.heap.size 151 2)
  clear hW hP1 hk1
  generalize hBe : w.heap.size = B at *
  have HB := hid hBe; clear hBe
  go_loopw [18] (fun s18 wx => ∃ (i : Nat) (vg : Value), i ≤ s.gaps.length ∧ s18 = .int .i64 i ∧ Hid (wx.heap[B + 1]? = some (.cells (sackC 0 0 (.slice none 0 0) s.tsn vg (.slice Ad s.dups.length Cd)) 149 (0, 0))) ∧ Hid (wx.ownsRow B 151 2 vg i (g16 (s.gaps.take i))) ∧ Hid (Kept [] w wx)) (fun s18 _ => s.gaps.length - (intOf s18).toNat)
  case atStart => exact ⟨0, _, by omega, rfl, HP1, N0, HK1⟩
  case round =>
    obtain ⟨i, vg, hi, rfl, HP, HO, HK⟩ := hrel
    by_cases hlt : i < s.gaps.length
    · have hlt' : (i : Int) < (s.gaps.length : Int) := by omega
      have h0' : (0 : Int) ≤ (i : Int) := by omega
      obtain ⟨g, cap', hv, _, _⟩ := own_some HG.out (by omega)
      simp only [Value.slice.injEq, true_and] at hv
      obtain ⟨rfl, rfl⟩ := hv
      have lg := (HG.out.lt g rfl).2
      have hHg := ownsRow_kept HG.out HK.out (by simp)
      have hget := flat2_get s.gaps (fun g => Value.int .u16 (g.1 : Nat)) (fun g => Value.int .u16 (g.2 : Nat)) i hlt
      have c0 : wr.cell? ⟨g, i * 2, none⟩ = some (.int .u16 ((s.gaps[i]).1 : Nat)) := by
        have := hHg.cells (g := g) rfl (i * 2) _ hget.1
        rwa [addr_add, Nat.zero_add] at this
      have c1 : wr.cell? ⟨g, i * 2 + 1, none⟩ = some (.int .u16 ((s.gaps[i]).2 : Nat)) := by
        have := hHg.cells (g := g) rfl (i * 2 + 1) _ hget.2
        rwa [addr_add, Nat.zero_add] at this
      have lgr : g < wr.heap.size := Nat.lt_of_lt_of_le lg HK.out.size
      have HTK := hid (take_snoc' hlt)
      generalize s.gaps[i] = gp at *
      clear hHg hget lg
      go_wp2_with fail
      generalize hWE : wr.alloc _ = wE
      have hkE : Kept [] wr wE := by rw [← hWE]; exact (Kept.refl [] wr).alloc _
      have hE : wE.heap[wr.heap.size]? = some (.cells #[.int .u16 (gp.1 : Nat), .int .u16 (gp.2 : Nat)] 146 (0, 0)) := by rw [← hWE]; exact blk_new wr _
      have hPE := (hkE.block (B + 1) (blk_lt HP.out) (by simp)).trans HP.out
      have hOE := ownsRow_kept HO.out hkE (by simp)
      have hKE := HK.out.trans hkE
      have hsz := HK.out.size
      have lP := blk_lt HP.out
      clear hWE c0 c1 hkE lgr
      generalize hEn : wr.heap.size = E at *
      have e0 : wE.cell? ⟨E, 0, none⟩ = some (.int .u16 (gp.1 : Nat)) := blk_cell hE rfl
      have e1 : wE.cell? ⟨E, 1, none⟩ = some (.int .u16 (gp.2 : Nat)) := blk_cell hE rfl
      have q5 : wE.cell? ⟨B + 1, 5, none⟩ = some vg := blk_cell hPE rfl
      have lE := blk_lt hE
      have lPE := blk_lt hPE
      have hB0 := HB.out
      have hkD : Kept [] wE (wE.drew.alloc (.cells #[.int .u16 (gp.1 : Nat), .int .u16 (gp.2 : Nat)] 151)) := ((Kept.refl [] wE).drew).alloc _
      obtain ⟨g6, cap6, w6, hr6, ho6, hgr6⟩ := appendOwnOne 143 151 2 4 i wE.heap.size 1 143 B (.agg #[.int .u16 0, .int .u16 0]) vg (g16 (s.gaps.take i)) #[.int .u16 (gp.1 : Nat), .int .u16 (gp.2 : Nat)] (wE.drew.alloc (.cells #[.int .u16 (gp.1 : Nat), .int .u16 (gp.2 : Nat)] 151)) Tryz.underlying143 iGap rfl (by omega) (by omega) (by omega) (ownsRow_kept hOE hkD (by simp))
        (by have := hkD.size; omega) rfl (by intro u hu; simp at hu; rcases hu with rfl | rfl <;> rfl) (blk_new wE.drew _)
      have hgk : Kept (own vg) (wE.drew.alloc (.cells #[.int .u16 (gp.1 : Nat), .int .u16 (gp.2 : Nat)] 151)) w6 := grown_kept hgr6 (by intro k hk; rw [own_mem]; exact hk)
      have hk56 : Kept (own vg) wE w6 := (hkD.more (by simp)).trans hgk
      have hPo : B + 1 ∉ own vg := own_far hOE hPE (by decide)
      have hP6 := (hk56.block (B + 1) lPE hPo).trans hPE
      have p6 : w6.cell? ⟨B + 1, 5, none⟩ = some vg := blk_cell hP6 rfl
      have pf6 : w6.frozen? ⟨B + 1, 5, none⟩ = false := blk_free hP6
      have lP6 := blk_lt hP6
      have hK6 : Kept [] w w6 := hKE.thenNew hk56 (by intro r hr; right; have := own_ge hOE hr; omega)
      have HP6 := hid hP6; have HK6 := hid hK6; have HO6 := hid ho6
      clear hP6 hK6 ho6 hgr6 hgk hk56 hPo hOE hPE hE hkD hKE
      go_region_law (refine step_append_run rfl _ _ 143 rfl _ _ _ rfl rfl hr6 ?_)
      all_goals
        go_wp2_with fail
        go_roundw
        case rel =>
          have hkS : Kept [B + 1] w6 (w6.setCell ⟨B + 1, 5, none⟩ (.slice (some ⟨g6, 0, none⟩) (i + 1) cap6)) := (Kept.refl [B + 1] w6).setCell _ (.inl (by simp))
          refine ⟨i + 1, .slice (some ⟨g6, 0, none⟩) (i + 1) cap6, by omega, by go_num, hid ?_, hid ?_, hid (HK6.out.thenNew hkS (by intro r hr; right; simp at hr; omega))⟩
          · rw [blk_setCell _ HP6.out]; rfl
          · rw [HTK.out, g16_snoc]
            exact ownsRow_kept HO6.out hkS (by intro g hg; simp; intro e; subst e; exact own_far HO6.out HP6.out (by decide) (own_mem.2 hg))
        case measure => simp [intOf]; omega
    · have hlt' : ¬ (i : Int) < (s.gaps.length : Int) := by omega
      obtain rfl : i = s.gaps.length := by omega
      have ho := HO.out
      rw [List.take_length] at ho
      have H5 := hid (sack_marshal (B + 1) 0 B bd (.slice none 0 0) vg (.slice Ad s.dups.length Cd) s wr HS.out HP.out ho (ownsRow_kept HD.out HK.out (by simp)))
      clear ho
      go_wp2_with fail
      refine H5.out.mono ?_
      rintro e w5 ⟨B5, hB5, rfl, hob5, hk5⟩
      have hsz := HK.out.size
      have hb0 := HB.out
      have HOB5 := hid hob5
      have HK5 := hid (HK.out.thenNew hk5 (by intro r hr; right; simp at hr; omega))
      clear hob5 hk5
      go_wp2_with fail
      go_ret2
      exact ⟨B5, by omega, rfl, HOB5.out, HK5.out⟩
end Go.Proofs.Base
end
