/- Parts of the proof, steps T27, T29: what the code and the plain laws of these steps give. Made by AI agents; no person has read it. -/
import Derived.Test.YthphjbjehccomaaGreatDoorP28
import Derived.Deep.Cut
import Derived.Deep.CutRange
import Derived.Test.YthphjbjehccomaaGreatDoorH3
section
namespace Go.Proofs.Base
open Go Go.Proofs Go.RowKit Go.Proofs.Gaps
set_option maxRecDepth 100000
theorem makeMapRun (w : World) : (Instr.makeMap 36 none).run Tryz.prog w = .ok (.map (some w.heap.size)) (w.alloc (.map #[] 0)) := by kernel_rfl
theorem alloc3 (w : World) (a b c : Obj) : (((w.alloc a).alloc b).alloc c).drew.heap[w.heap.size]? = some a ∧ (((w.alloc a).alloc b).alloc c).drew.heap[w.heap.size + 1]? = some b ∧ (((w.alloc a).alloc b).alloc c).drew.heap[w.heap.size + 1 + 1]? = some c ∧ Kept [] w (((w.alloc a).alloc b).alloc c).drew := by
  have h1 := blk_new (w.alloc a) b
  have h2 := blk_new ((w.alloc a).alloc b) c
  simp only [World.size_alloc] at h1 h2
  exact ⟨blk_alloc _ (blk_alloc _ (blk_new w a)), blk_alloc _ h1, h2, (((Kept.refl [] w).alloc a).alloc b).alloc c |>.drew⟩
/-- All the pieces have come. -/
def Done (w w' : World) (f n s : Nat) (D : Nat → Pd) (LS : Nat → List Nat) : Prop := ∃ m js ks vn vp us, St w w' f n s m D LS js ks vn vp us ∧ (∀ j, 1 ≤ j → j ≤ n → j ∈ js) ∧ js.length ≤ 360
/-- A round at hand. -/
structure RoundAt (w : World) (R ab ao an ac : Nat) (a : Nat → Int) (turn bit : Nat) (lost : Bool) : Prop where
  cells : w.heap[R]? = some (.cells #[.slice (some ⟨ab, ao, none⟩) an ac, .int .i64 turn, .int .i64 bit, .bool lost] 49 (0, 0))
  at' : ∀ j, j < an → w.cell? ⟨ab, ao + j, none⟩ = some (.int .i64 (a j))
  lt : ab < w.heap.size
  act : ∀ j, j < an → 0 ≤ a j ∧ a j ≤ 3
  few : 0 < an ∧ an ≤ 20
  cap : an ≤ ac
  turn : turn < 9223372036854775808
  bit : bit < 9223372036854775808
set_option maxHeartbeats 8000000 in
theorem over (gp n cp f rl rc tt : Nat) (RA : Option Addr) (A : Nat → Option Addr) (L C : Nat → Nat) (act : Nat → Nat → Int) (tu bi : Nat → Int) (lo : Nat → Bool) (D : Nat → Pd) (LS : Nat → List Nat) (ev : Value) (w : World) (hP : Sheaf w gp n f D LS) (hn : n ≤ 30)
    (hR : 0 < rl → ∃ rb ro, RA = some ⟨rb, ro, none⟩ ∧ RndsIn w rb ro rl A L C tu bi lo) (hA : ActsIn w rl A L C act) (hRo : Rounds rl L act tu bi) (hb63 : ∀ i, i < rl → tu i < 9223372036854775808 ∧ bi i < 9223372036854775808) (hT : Bruijn w)
    (hg : w.cell? ⟨13, 0, none⟩ = some (.iface tt ev)) :
    Calls Tryz.prog 7 #[.int .u32 (tsn f 1 : Nat), .slice (some ⟨gp, 0, none⟩) n cp, .slice RA rl rc] w fun e w' => ∃ s, e = .returned (.tuple #[.pointer (some ⟨s, 0, none⟩), .bool true]) ∧ Done w w' f n s D LS := by
  have HP := hid hP; have HR := hid hR; have HA := hid hA; have HRO := hid hRo; have HB63 := hid hb63; have HT := hid hT; have HG := hid hg
  clear hP hR hA hRo hb63 hT hg
  have hmk := makeMapRun
  have hmb := makeBools n (by omega)
  go_enter Tryz.func7, Tryz.ntmps7
  go_wp2_with fail
  go_cut [8, 9] from 24 to 30 (fun s8 s9 wx => ∃ s m kb, s8 = .pointer (some ⟨s, 0, none⟩) ∧ s9 = .slice (some ⟨kb, 0, none⟩) n n ∧ w.heap.size ≤ s ∧ w.heap.size ≤ m ∧ w.heap.size ≤ kb ∧ wx.heap[s]? = some (.cells (sideC (tsn f 1) (.slice none 0 0) m (.slice none 0 0)) 38 (0, 0)) ∧
    wx.heap[m]? = some (.map (metE []) ([] : List Nat).length) ∧ wx.heap[kb]? = some (.cells (bl n fun _ => false) 4 (0, 0)) ∧ Kept [] w wx)
  case first =>
    go_region_law (fail)
    all_goals (go_wp2_with fail; go_meet)
    · have h := alloc3 w (.map #[] 0) (.cells #[.int .u32 (tsn f 1 : Nat), .slice none 0 0, .map (some w.heap.size), .slice none 0 0] 38) (.cells (bl n fun _ => false) 4)
      exact ⟨_, _, _, rfl, rfl, by omega, Nat.le_refl _, by omega, h.2.1, h.1, h.2.2.1, h.2.2.2⟩
    · have h := alloc3 w (.map #[] 0) (.cells (bl n fun _ => false) 4) (.cells #[.int .u32 (tsn f 1 : Nat), .slice none 0 0, .map (some w.heap.size), .slice none 0 0] 38)
      exact ⟨_, _, _, rfl, rfl, by omega, Nat.le_refl _, by omega, h.2.2.1, h.1, h.2.1, h.2.2.2⟩
    · have h := alloc3 w (.cells (bl n fun _ => false) 4) (.map #[] 0) (.cells #[.int .u32 (tsn f 1 : Nat), .slice none 0 0, .map (some (w.heap.size + 1)), .slice none 0 0] 38)
      exact ⟨_, _, _, rfl, rfl, by omega, by omega, Nat.le_refl _, h.2.2.1, h.2.1, h.1, h.2.2.2⟩
  obtain ⟨s, m, kb, rfl, rfl, hsb, hmb', hkbb, hS, hM, hK, hk⟩ := hcut
  clear hmk hmb
  go_wp2_with fail
  generalize hW : (wc.alloc _).alloc _ = w1
  have hLA : w1.heap[wc.heap.size]? = some (.cells #[.int .i64 1] 3 (0, 0)) := by rw [← hW]; exact blk_alloc _ (blk_new wc _)
  have hLR : w1.heap[wc.heap.size + 1]? = some (.cells #[.slice (some ⟨wc.heap.size, 0, none⟩) 1 1, .int .i64 0, .int .i64 0, .bool false] 49 (0, 0)) := by
    rw [← hW]
    have h := blk_new (wc.alloc (.cells #[.int .i64 1] 3)) (.cells #[.slice (some ⟨wc.heap.size, 0, none⟩) 1 1, .int .i64 0, .int .i64 0, .bool false] 49)
    simp only [World.size_alloc] at h
    exact h
  have hk1 : Kept [] wc w1 := by rw [← hW]; exact ((Kept.refl [] wc).alloc _).alloc _
  have hcs := hk.size
  clear hW
  generalize wc.heap.size = LA at *
  have HST := hid ((St.start (n := n) (D := D) (LS := LS) hS hM hsb hmb' hk).keep hk1)
  have HKB := hid ((hk1.block kb (blk_lt hK) (by simp)).trans hK)
  have HLA := hid hLA; have HLR := hid hLR
  have lS1 := blk_lt HST.out.side
  clear hS hM hK hk hLA hLR hk1
  have hrl := HRO.out.1
  go_loopw [9, 11] (fun s9 s11 wx => ∃ (i : Nat) (js ks : List Nat) (known : Nat → Bool) (kb : Nat) (vn vp : Value) (us : List (Nat × Nat)), i ≤ rl + 1 ∧ s9 = .slice (some ⟨kb, 0, none⟩) n n ∧ s11 = .int .i64 i ∧ Hid (St w wx f n s m D LS js ks vn vp us) ∧
    Hid (wx.heap[kb]? = some (.cells (bl n known) 4 (0, 0))) ∧ Hid (∀ j, j < n → known j = true → j + 1 ∈ js) ∧ js.length ≤ 60 * i ∧ Hid (i = rl + 1 → ∀ j, 1 ≤ j → j ≤ n → j ∈ js) ∧ Hid (TF w1 wx)) (fun _ s11 _ => rl + 1 - (intOf s11).toNat)
  case atStart => exact ⟨0, [], [], _, kb, _, _, [], by omega, rfl, rfl, HST, HKB, hid (by intro j hj h; simp at h), by simp, hid (by intro h; omega), hid (TF.refl _)⟩
  case round =>
    obtain ⟨i, js, ks, known, kb, vn, vp, us, hi, rfl, rfl, HSx, HKx, HKN, hjl, HEND, HTF⟩ := hrel
    by_cases hlt : i ≤ rl
    · have hlt' : (i : Int) ≤ (rl : Int) := by omega
      have hLRx := HTF.out _ _ _ _ HLR.out (by decide) (by decide) (by decide)
      have l0 : wr.cell? ⟨LA + 1, 0, none⟩ = some (.slice (some ⟨LA, 0, none⟩) 1 1) := blk_cell hLRx rfl
      have l1 : wr.cell? ⟨LA + 1, 1, none⟩ = some (.int .i64 0) := blk_cell hLRx rfl
      have l2 : wr.cell? ⟨LA + 1, 2, none⟩ = some (.int .i64 0) := blk_cell hLRx rfl
      have l3 : wr.cell? ⟨LA + 1, 3, none⟩ = some (.bool false) := blk_cell hLRx rfl
      have lLR := blk_lt hLRx
      have hLAx := HTF.out _ _ _ _ HLA.out (by decide) (by decide) (by decide)
      have hRnew := blk_new wr (.cells #[.slice (some ⟨LA, 0, none⟩) 1 1, .int .i64 0, .int .i64 0, .bool false] 49)
      have hkR : Kept [] wr (wr.alloc (.cells #[.slice (some ⟨LA, 0, none⟩) 1 1, .int .i64 0, .int .i64 0, .bool false] 49)) := (Kept.refl [] wr).alloc _
      have HRN := hid hRnew; have HKR := hid hkR; have HLAX := hid hLAx; have HLRX := hid hLRx
      clear hRnew hkR hLAx hLRx
      go_upto_if 43 with fail
      generalize wr.alloc _ = w2 at *
      generalize hRe : wr.heap.size = R at *
      have HRe := hid hRe; clear hRe
      have q0 : w2.cell? ⟨R, 0, none⟩ = some (.slice (some ⟨LA, 0, none⟩) 1 1) := blk_cell HRN.out rfl
      have q1 : w2.cell? ⟨R, 1, none⟩ = some (.int .i64 0) := blk_cell HRN.out rfl
      have q2 : w2.cell? ⟨R, 2, none⟩ = some (.int .i64 0) := blk_cell HRN.out rfl
      have q3 : w2.cell? ⟨R, 3, none⟩ = some (.bool false) := blk_cell HRN.out rfl
      have g0 : ∀ j, w2.frozen? ⟨R, j, none⟩ = false := fun j => blk_free HRN.out
      have lR2 := blk_lt HRN.out
      have hkw2 := HSx.out.kept.trans HKR.out
      go_cut [] from 33 to 47 (fun wx => ∃ ab ao an ac a turn bit lost, RoundAt wx R ab ao an ac a turn bit lost ∧ (i = rl → an = 1 ∧ a = (fun _ => 1) ∧ turn = 0) ∧ Kept [R] w2 wx)
      case first =>
        by_cases hir : i < rl
        · have hir' : (i : Int) < (rl : Int) := by omega
          have h0i : (0 : Int) ≤ (i : Int) := by omega
          obtain ⟨rb, ro, rfl, hRI⟩ := HR.out (by omega)
          have hRI2 := hRI.kept hkw2
          have hga := HRO.out.2 i hir
          obtain ⟨hL1, hL2, hL3⟩ := HA.out i hir
          obtain ⟨ab, ao, hAi, hin0⟩ := hL3 hga.1
          have hin := hin0.kept hkw2 (by simp)
          have habR : ab ≠ R := by have h1 := hin0.lt; have h2 := HSx.out.kept.size; have h3 := HRe.out; omega
          clear hin0
          have c0 := hRI2.c0 i hir
          have c1 := hRI2.c1 i hir
          have c2 := hRI2.c2 i hir
          have c3 := hRI2.c3 i hir
          rw [hAi] at c0
          have lrb := hRI2.lt
          obtain ⟨tn, htn⟩ : ∃ tn : Nat, tu i = (tn : Int) := ⟨(tu i).toNat, by have := hga.2.2.1; omega⟩
          obtain ⟨bn, hbn⟩ : ∃ bn : Nat, bi i = (bn : Int) := ⟨(bi i).toNat, by have := hga.2.2.2.1; omega⟩
          rw [htn] at c1
          rw [hbn] at c2
          have HGA := hid hga; have HIN := hid hin; have HTN := hid htn; have HBN := hid hbn
          clear hga hin htn hbn hAi hL3 hRI hRI2
          go_wp2_with fail
          go_meet
          have hbl := blk_setCell (i := 3) (.bool (lo i)) (blk_setCell (i := 2) (.int .i64 bn) (blk_setCell (i := 1) (.int .i64 tn) (blk_setCell (i := 0) (.slice (some ⟨ab, ao, none⟩) (L i) (C i)) HRN.out)))
          have hk9 : Kept [R] w2 ((((w2.setCell ⟨R, 0, none⟩ (.slice (some ⟨ab, ao, none⟩) (L i) (C i))).setCell ⟨R, 1, none⟩ (.int .i64 tn)).setCell ⟨R, 2, none⟩ (.int .i64 bn)).setCell ⟨R, 3, none⟩ (.bool (lo i))) :=
            ((((Kept.refl [R] w2).setCell (p := ⟨R, 0, none⟩) _ (.inl (by simp))).setCell (p := ⟨R, 1, none⟩) _ (.inl (by simp))).setCell (p := ⟨R, 2, none⟩) _ (.inl (by simp))).setCell (p := ⟨R, 3, none⟩) _ (.inl (by simp))
          have hin2 := HIN.out.kept hk9 (by simpa using habR)
          have h63 := HB63.out i hir
          exact ⟨ab, ao, L i, C i, act i, tn, bn, lo i, ⟨hbl, hin2.cell, hin2.lt, HGA.out.2.2.2.2, ⟨HGA.out.1, HGA.out.2.1⟩, hL1, by have := HTN.out; omega, by have := HBN.out; omega⟩, fun h => by omega, hk9⟩
        · have hir' : ¬ (i : Int) < (rl : Int) := by omega
          go_wp2_with fail
          go_meet
          refine ⟨LA, 0, 1, 1, fun _ => 1, 0, 0, false, ⟨HRN.out, fun j hj => ?_, by have := blk_lt HLAX.out; have := HKR.out.size; omega, fun j _ => by simp, by omega, by omega, by omega, by omega⟩, fun _ => ⟨rfl, rfl, rfl⟩, Kept.refl _ _⟩
          obtain rfl : j = 0 := by omega
          exact blk_cell ((HKR.out.block LA (blk_lt HLAX.out) (by simp)).trans HLAX.out) rfl
      obtain ⟨ab, ao, an, ac, a, turn, bit, lost, hRA, hlast, hk2⟩ := hcut
      have r0 : wc.cell? ⟨R, 0, none⟩ = some (.slice (some ⟨ab, ao, none⟩) an ac) := blk_cell hRA.cells rfl
      have r1 : wc.cell? ⟨R, 1, none⟩ = some (.int .i64 turn) := blk_cell hRA.cells rfl
      have r2 : wc.cell? ⟨R, 2, none⟩ = some (.int .i64 bit) := blk_cell hRA.cells rfl
      have r3 : wc.cell? ⟨R, 3, none⟩ = some (.bool lost) := blk_cell hRA.cells rfl
      have lRc := blk_lt hRA.cells
      have hkc : Kept [] wr wc := HKR.out.thenNew hk2 (by intro r hr; simp at hr; subst hr; right; rw [HRe.out]; exact Nat.le_refl _)
      have hKBc := (hkc.block kb (blk_lt HKx.out) (by simp)).trans HKx.out
      have H14 := hid (Came ab ao an ac kb n a turn bit lost known wc hRA.at' hRA.lt hRA.act hRA.few.1 hRA.few.2 hRA.cap ⟨blk_lt hKBc, fun j hj => blk_cell hKBc (bl_get hj)⟩ (by omega) hRA.turn)
      have HRA := hid hRA; have HLAST := hid hlast; have HKC := hid hkc
      clear hRA hlast hkc hk2 hKBc q0 q1 q2 q3 g0 lR2 hkw2 HRN HKR HLAX HLRX
      go_wp2_with fail
      refine H14.out.mono ?_
      rintro e w4 ⟨vo, vb, rfl, hvo, hvb, hk4⟩
      have hcl := came_length (unknown known n) a an turn (unknown known n).length
      have hul := unknown_length known n
      have hcm : ∀ x ∈ came (unknown known n) a an turn (unknown known n).length, x.1 < n := by
        intro x hx
        by_cases h0 : unknown known n = []
        · rw [h0] at hx; simp [came] at hx
        · exact (unknown_mem.1 (came_mem h0 hx)).1
      have hla : i = rl → came (unknown known n) a an turn (unknown known n).length = (unknown known n).map fun i => (i, false) := by
        intro h
        obtain ⟨h1, h2, h3⟩ := HLAST.out h
        rw [h1, h2, h3, came_last (Nat.le_refl _), List.take_length]
      have HCM := hid hcm; have HLA2 := hid hla
      generalize hcme : came (unknown known n) a an turn (unknown known n).length = cm at *
      have hcl60 : cm.length ≤ 60 := by omega
      clear hcm hla hcl hcme H14 r0 r1 r2 r3 lRc
      have hkr4 := HKC.out.trans hk4
      have HS4 := hid (HSx.out.keep hkr4)
      have hR4 := (hk4.block R (blk_lt HRA.out.cells) (by simp)).trans HRA.out.cells
      have HKB4 := hid ((hkr4.block kb (blk_lt HKx.out) (by simp)).trans HKx.out)
      have HTF4 := hid (HTF.out.trans (TF.of hkr4))
      have hbit := HRA.out.bit
      have HR4 := hid hR4; have HVO := hid hvo; have HVB := hid hvb
      obtain ⟨Ao, Co, rfl⟩ := own_form hvo
      obtain ⟨Ab, Cb, rfl⟩ := own_form hvb
      clear hR4 hvo hvb hk4 hkr4 HSx HKx HTF HKC HRA HLAST hul
      go_wp2_with fail
      have hfin : js ++ good (cm.take 0) = js := by simp [good]
      go_loopw [56] (fun s56 wx => ∃ (k : Nat) (ks : List Nat) (vn vp : Value) (us : List (Nat × Nat)), k ≤ cm.length ∧ s56 = .int .i64 k ∧ Hid (St w wx f n s m D LS (js ++ good (cm.take k)) ks vn vp us) ∧ Hid (TF w4 wx)) (fun s56 _ => cm.length - (intOf s56).toNat)
      case atStart => exact ⟨0, ks, vn, vp, us, by omega, rfl, by rw [hfin]; exact HS4, hid (TF.refl _)⟩
      case round =>
        obtain ⟨k, ks, vn, vp, us, hk, rfl, HSk, HTk⟩ := hrel
        by_cases hltk : k < cm.length
        · have hltk' : (k : Int) < (cm.length : Int) := by omega
          have h0k : (0 : Int) ≤ (k : Int) := by omega
          have hVOk := HTk.out.row HVO.out (by decide) (by decide) (by decide)
          have hVBk := HTk.out.row HVB.out (by decide) (by decide) (by decide)
          have hRk := HTk.out _ _ _ _ HR4.out (by decide) (by decide) (by decide)
          obtain ⟨go, co, hvo, hco1, hco2⟩ := own_some hVOk (by omega)
          simp only [Value.slice.injEq, true_and] at hvo
          obtain ⟨rfl, rfl⟩ := hvo
          obtain ⟨gb, cb, hvb, hcb1, hcb2⟩ := own_some hVBk (by omega)
          simp only [Value.slice.injEq, true_and] at hvb
          obtain ⟨rfl, rfl⟩ := hvb
          have hgt := good_take (a := cm) (k := k) hltk
          have hx := HCM.out cm[k] (List.getElem_mem hltk)
          have co0 : wr.cell? ⟨go, k, none⟩ = some (.int .i64 ((cm[k]).1 : Nat)) := by
            have := hVOk.cells (g := go) rfl k (.int .i64 ((cm[k]).1 : Nat)) (by simp [i64s, hltk])
            rwa [addr_add, Nat.zero_add] at this
          have cb0 : wr.cell? ⟨gb, k, none⟩ = some (.bool (cm[k]).2) := by
            have := hVBk.cells (g := gb) rfl k (.bool (cm[k]).2) (by simp [bls, hltk])
            rwa [addr_add, Nat.zero_add] at this
          have hkw := HSk.out.kept
          have hPk := HP.out.kept hkw
          obtain ⟨ub, uo, uc, hcell, hby⟩ := hPk.cell ((cm[k]).1 + 1) (by omega) (by omega)
          have hlen := HP.out.len ((cm[k]).1 + 1) (by omega) (by omega)
          have hokd := HP.out.ok ((cm[k]).1 + 1) (by omega) (by omega)
          rw [Nat.add_sub_cancel] at hcell
          have lgo := (hVOk.lt go rfl).2
          have lgb := (hVBk.lt gb rfl).2
          have lgp := hPk.lt
          have lRk := blk_lt hRk
          have rb2 : wr.cell? ⟨R, 2, none⟩ = some (.int .i64 bit) := blk_cell hRk rfl
          have HGT := hid hgt; have HVBk := hid hVBk; have HRk := hid hRk
          clear hgt hVOk hVBk hRk hPk
          obtain ⟨x, hxe⟩ : ∃ x, x = cm[k] := ⟨_, rfl⟩
          rw [← hxe] at HGT hx co0 cb0 hcell hby hlen hokd
          have HXE := hid hxe; clear hxe
          obtain ⟨pl, bt'⟩ := x
          dsimp only at *
          generalize hDe : D (pl + 1) = d at *
          generalize hLe : LS (pl + 1) = l at *
          have q0 := hcell 0 _ rfl
          have q1 := hcell 1 _ rfl
          have q2 := hcell 2 _ rfl
          have q3 := hcell 3 _ rfl
          have q4 := hcell 4 _ rfl
          have q5 := hcell 5 _ rfl
          have q6 := hcell 6 _ rfl
          have q7 := hcell 7 _ rfl
          have q8 := hcell 8 _ rfl
          rw [Nat.add_zero] at q0
          have p0 : (0 : Int) ≤ (pl : Int) := by omega
          have p1 : (pl : Int) < (n : Int) := by omega
          have H15 := hid (sent d ub uo l.length uc l wr hokd.1 hby rfl hlen.1 (by omega))
          unfold dC at H15
          have HBY := hid hby; have HOKD := hid hokd; have HDe := hid hDe; have HLe := hid hLe; have HKW := hid hkw
          clear hcell hby hokd hDe hLe hkw
          go_wp2_with fail
          refine H15.out.mono ?_
          rintro e w5 ⟨g4, cap4, rfl, hb4, hc4, hc4', hg4, hk5⟩
          have hplen := len_packetOf 5000 5001 7 (dataBytes d l)
          rw [len_dataBytes] at hplen
          have hpd := padN_lt (16 + l.length)
          have hsm := small_packetOf (sp := 5000) (dp := 5001) (tag := 7) (by decide) (by decide) (by decide) (small_dataBytes d l HOKD.out.1 HBY.out.small (by omega))
          have hbd : BytesAt w5.drew g4 0 (packetOf 5000 5001 7 (dataBytes d l)) := hb4.kept ((Kept.refl [] w5).drew) (by simp)
          have hSd := (HSk.out.keep hk5).keep ((Kept.refl [] w5).drew)
          have hkwd := hSd.kept
          have lg := World.block_lt_of_cell? w _ HG.out
          have hnl : (nums f (js ++ good (cm.take k))).length = (js ++ good (cm.take k)).length := by simp [nums]
          have hgl : (good (cm.take k)).length ≤ 60 := by have h1 := good_length (cm.take k); rw [List.length_take] at h1; omega
          have HC := hid (show Calls Tryz.prog 16 #[.pointer (some ⟨s, 0, none⟩), .slice (some ⟨g4, 0, none⟩) (12 + (16 + l.length) + padN (16 + l.length)) cap4, .bool bt', .int .i64 bit] w5.drew fun e w' => e = .returned (.bool true) ∧ (∃ ks vn vp us, St w w' f n s m D LS (js ++ good (cm.take (k + 1))) ks vn vp us) ∧ TF w5.drew w' from by
            rw [HGT.out]
            cases bt' with
            | true =>
              refine (comes_bent s g4 0 (12 + (16 + l.length) + padN (16 + l.length)) cap4 bit (packetOf 5000 5001 7 (dataBytes d l)) tt ev w5.drew hbd hplen (by omega) (by omega) ((hkwd.cell lg (by simp)).trans HG.out) hbit
                (fun i v hi hv hne => turned _ hsm (sum_read 5000 5001 7 (dataBytes d l)) i v (by rw [hplen]; exact hi) hv hne)).mono ?_
              rintro e w6 ⟨rfl, hk6⟩
              exact ⟨rfl, ⟨ks, vn, vp, us, by rw [if_pos rfl, List.append_nil]; exact hSd.keep hk6⟩, TF.of hk6⟩
            | false =>
              refine (comes_ok (bit := bit) s m (tsn f 1) g4 0 l.length cap4 (12 + (16 + l.length) + padN (16 + l.length)) w.heap.size ks.length vn vp (nums f (js ++ good (cm.take k))) (ks.map (tsn f)) (gotCells D LS ks us) d l (packetOf 5000 5001 7 (dataBytes d l)) w5.drew HOKD.out.1 hplen (by omega) (by omega)
                (packsD l.length 5000 5001 7 d l HOKD.out.1 rfl hlen.1 (by omega) (by decide) (by decide)) hbd rfl hlen.1 (by omega) HBY.out.small hSd.side hSd.map (by rw [hnl]; exact hSd.numR) hSd.pcs hkwd.size (by rw [hnl, List.length_append]; omega) (by have h1 := hSd.le; rw [List.length_append] at h1; omega)).mono ?_
              rintro e w6 ⟨rfl, vn', vp', g', cap', hs1, hs2, hs3, hs4, hs5, hs6, hs7, hs8, hs9⟩
              have hst := St.step (j := pl + 1) hSd (by omega) (by omega) (by omega) (by rw [HDe.out]; exact HOKD.out.2) hs1 (by rw [HDe.out]; exact hs2) (by rw [HDe.out]; exact hs3) (by rw [HDe.out, HLe.out]; exact hs4) (by rw [HLe.out]; exact hs5) (by rw [HLe.out]; exact hs6) hs7 hs8 hs9
              obtain ⟨⟨ks', vn'', vp'', us', h1⟩, h2⟩ := hst
              exact ⟨rfl, ⟨ks', vn'', vp'', us', by rw [if_neg (by simp), ← List.append_assoc]; exact h1⟩, h2⟩)
          have htd : TF wr w5.drew := TF.of (hk5.trans ((Kept.refl [] w5).drew))
          have cb5 : w5.cell? ⟨gb, k, none⟩ = some (.bool bt') := (hk5.cell (p := ⟨gb, k, none⟩) lgb (by simp)).trans cb0
          have rb5 : w5.cell? ⟨R, 2, none⟩ = some (.int .i64 bit) := (hk5.cell (p := ⟨R, 2, none⟩) lRk (by simp)).trans rb2
          have lgb5 := Nat.lt_of_lt_of_le lgb hk5.size
          have lR5 := Nat.lt_of_lt_of_le lRk hk5.size
          have HTD := hid htd; have HTk' := hid (HTk.out.trans htd)
          have HCBX := hid (fun (w6 : World) (h : TF w5.drew w6) => (show w6.cell? ⟨gb, k, none⟩ = some (.bool bt') from by
            have := ((htd.trans h).row HVBk.out (by decide) (by decide) (by decide)).cells (g := gb) rfl k (.bool bt') (by rw [show bt' = (cm[k]).2 by rw [← HXE.out]]; simp [bls, hltk])
            rwa [addr_add, Nat.zero_add] at this))
          have HRX := hid (fun (w6 : World) (h : TF w5.drew w6) => (htd.trans h) _ _ _ _ HRk.out (by decide) (by decide) (by decide))
          clear q0 q1 q2 q3 q4 q5 q6 q7 q8 co0 cb0 rb2 hb4 hk5 hplen hpd hsm hbd hSd hkwd lg hnl hgl htd H15
          go_wp2_with fail
          go_region_held3 (fun w' => w'.cell? ⟨gb, k, none⟩ = some (.bool bt') ∧ w'.cell? ⟨R, 2, none⟩ = some (.int .i64 bit))
            (first | go_keep | exact ⟨HCBX.out _ htf6, blk_cell (HRX.out _ htf6) rfl⟩)
            ((go_at_call 16; refine HC.out.mono ?_; rintro e w6 ⟨rfl, hst6, htf6⟩; have HST6 := hid hst6; clear hst6))
          go_wp2_with fail
          obtain ⟨ks6, vn6, vp6, us6, hs6⟩ := HST6.out
          have HS6 := hid hs6; have HT6 := hid (HTk'.out.trans htf6)
          clear hs6 HST6 htf6 HC HCBX HRX HTk'
          go_roundw
          case rel => exact ⟨k + 1, ks6, vn6, vp6, us6, by omega, by go_num, HS6, HT6⟩
          case measure => simp [intOf]; omega
        · have hltk' : ¬ (k : Int) < (cm.length : Int) := by omega
          obtain rfl : k = cm.length := by omega
          have HSE := HSk.out
          rw [List.take_length] at HSE
          have HSF := hid HSE
          have hgl := good_length cm
          have hJl : (js ++ good cm).length ≤ 60 * i + 60 := by rw [List.length_append]; omega
          have HJL := hid hJl
          have H9 := hid (tells s m f n w.heap.size vn vp (js ++ good cm) wr (by omega) HSE.ki.all (by omega) HSE.side HSE.numR (HT.out.kept HSE.kept (by simp)))
          have HTFr := hid (HTF4.out.trans HTk.out)
          have HKBr := hid (HTk.out _ _ _ _ HKB4.out (by decide) (by decide) (by decide))
          have HRr := hid (HTk.out _ _ _ _ HR4.out (by decide) (by decide) (by decide))
          clear HSE hgl hJl HTk HTF4 HKB4 HR4 HVO HVB HCM hfin HS4
          go_wp2_with fail
          refine H9.out.mono ?_
          rintro e w7 ⟨u, G, vg, Ad, nd, Cd, rfl, hte, hnu, hog, hk7⟩
          obtain ⟨Ag, Cg, rfl⟩ := own_form hog
          have HS7 := hid (HSF.out.keep hk7)
          have HTF7 := hid (HTFr.out.trans (TF.of hk7))
          have HKB7 := hid ((hk7.block kb (blk_lt HKBr.out) (by simp)).trans HKBr.out)
          have HR7 := hid ((hk7.block R (blk_lt HRr.out) (by simp)).trans HRr.out)
          have HTE := hid hte; have HOG := hid hog
          clear hte hog hk7 H9 HSF HTFr HKBr HRr
          have H17 := hid (fun (wx : World) (hx : Kept [] w7 wx) => Told _ f n u (.slice Ag G.length Cg) (.slice Ad nd Cd) (js ++ good cm) G wx (by omega) HTE.out (ownsRow_kept HOG.out hx (by simp)))
          go_wp2_with fail
          refine (H17.out _ ((Kept.refl [] w7).alloc _)).mono ?_
          rintro e w8 ⟨TB, hTB, rfl, hTC, hk8⟩
          have hk78 := ((Kept.refl [] w7).alloc _).trans hk8
          have HS8 := hid (HS7.out.keep hk78)
          have HTF8 := hid (HTF7.out.trans (TF.of hk78))
          have HKB8 := hid ((hk78.block kb (blk_lt HKB7.out) (by simp)).trans HKB7.out)
          have HR8 := hid ((hk78.block R (blk_lt HR7.out) (by simp)).trans HR7.out)
          have HTC := hid hTC
          have lTB := blk_lt hTC
          clear hTC hk8 hk78 H17 HS7 HTF7 HKB7 HR7 HOG hTB
          go_wp2_with fail
          go_loopw [103] (fun s103 wx => ∃ k : Nat, k ≤ n ∧ s103 = .int .i64 k ∧ Hid (Kept [] w8 wx)) (fun s103 _ => n - (intOf s103).toNat)
          case atStart => exact ⟨0, by omega, rfl, hid (Kept.refl [] w8)⟩
          case round =>
            obtain ⟨k, hk, rfl, HKk⟩ := hrel
            by_cases hltk : k < n
            · have hltk' : (k : Int) < (n : Int) := by omega
              have h0k : (0 : Int) ≤ (k : Int) := by omega
              have hTk := (HKk.out.block TB lTB (by simp)).trans HTC.out
              have hSk := HS8.out.keep HKk.out
              have t0 : wr.cell? ⟨TB, k, none⟩ = some (.bool (decide (k + 1 ∈ js ++ good cm))) := blk_cell hTk (bl_get hltk)
              have t1 : wr.cell? ⟨s, 2, none⟩ = some (.map (some m)) := blk_cell hSk.side rfl
              have lTk := blk_lt hTk
              have lsk := blk_lt hSk.side
              have e1 : IntKind.u32.wrap (k : Int) = (k : Int) := by rw [IntKind.wrap_u32]; omega
              have e2 : IntKind.u32.wrap ((tsn f 1 : Int) + (k : Int)) = ((tsn f (k + 1) : Nat) : Int) := by rw [IntKind.wrap_u32]; unfold tsn; omega
              have hmem : decide (tsn f (k + 1) ∈ ks.map (tsn f)) = decide (k + 1 ∈ js ++ good cm) := by
                have h1 : tsn f (k + 1) ∈ ks.map (tsn f) ↔ k + 1 ∈ js ++ good cm := by
                  rw [mem_keys (fun j hj => by have := hSk.ki.all j ((hSk.ki.mem j).1 hj); omega) (by omega)]
                  exact hSk.ki.mem (k + 1)
                exact decide_eq_decide.2 h1
              have hl1 := lookMet (ks.map (tsn f)) m (tsn f (k + 1)) wr hSk.map
              have hl2 := lookMet (ks.map (tsn f)) m (tsn f (k + 1)) wr.drew hSk.map
              rw [hmem] at hl1 hl2
              generalize tsn f (k + 1) = key at *
              generalize decide (k + 1 ∈ js ++ good cm) = c at *
              clear hmem hTk hSk
              cases c
              · go_wp2_with fail
                go_region_held3 (fun w' => w'.cell? ⟨TB, k, none⟩ = some (.bool false) ∧ w'.cell? ⟨s, 2, none⟩ = some (.map (some m))) (go_keep) (fail)
                go_wp2_with fail
                go_roundw
                case rel => exact ⟨k + 1, by omega, by go_num, hid HKk.out.drew⟩
                case measure => simp [intOf]; omega
              · go_wp2_with fail
                go_region_held3 (fun w' => w'.cell? ⟨TB, k, none⟩ = some (.bool true) ∧ w'.cell? ⟨s, 2, none⟩ = some (.map (some m))) (go_keep) (fail)
                go_wp2_with fail
                go_roundw
                case rel => exact ⟨k + 1, by omega, by go_num, hid HKk.out.drew⟩
                case measure => simp [intOf]; omega
            · have hltk' : ¬ (k : Int) < (n : Int) := by omega
              have HS9 := hid (HS8.out.keep HKk.out)
              have HKB9 := hid ((HKk.out.block kb (blk_lt HKB8.out) (by simp)).trans HKB8.out)
              have HTC9 := hid ((HKk.out.block TB lTB (by simp)).trans HTC.out)
              have HTF9 := hid (HTF8.out.trans (TF.of HKk.out))
              have hR9 := (HKk.out.block R (blk_lt HR8.out) (by simp)).trans HR8.out
              have r3 : wr.cell? ⟨R, 3, none⟩ = some (.bool lost) := blk_cell hR9 rfl
              have lR9 := blk_lt hR9
              have HEND2 := hid (show i + 1 = rl + 1 → ∀ j, 1 ≤ j → j ≤ n → j ∈ js ++ good cm from by
                intro h j h1 h2
                rw [HLA2.out (by omega), List.mem_append]
                cases hkj : known (j - 1) with
                | true => left; have h3 := HKN.out (j - 1) (by omega) hkj; rwa [Nat.sub_add_cancel h1] at h3
                | false => right; have h3 := good_all (s := unknown known n) (i := j - 1) (unknown_mem.2 ⟨by omega, hkj⟩); rwa [Nat.sub_add_cancel h1] at h3)
              have HJ2 := hid (show (js ++ good cm).length ≤ 60 * (i + 1) from by have := HJL.out; omega)
              clear HS8 HKB8 HTC HTF8 hR9 HR8 HKk
              cases lost
              · go_wp2_with fail
                go_roundw
                case rel => exact ⟨i + 1, js ++ good cm, ks, fun k => decide (k + 1 ∈ js ++ good cm), TB, vn, vp, us, by omega, rfl, by go_num, HS9, HTC9, hid (fun j hj h => by simpa using h), HJ2.out, HEND2, HTF9⟩
                case measure => simp [intOf]; omega
              · go_wp2_with fail
                go_roundw
                case rel => exact ⟨i + 1, js ++ good cm, ks, known, kb, vn, vp, us, by omega, rfl, by go_num, HS9, HKB9, hid (fun j hj h => List.mem_append.2 (.inl (HKN.out j hj h))), HJ2.out, HEND2, HTF9⟩
                case measure => simp [intOf]; omega
    · have hlt' : ¬ (i : Int) ≤ (rl : Int) := by omega
      go_wp2_with fail
      go_ret2
      exact ⟨s, rfl, m, js, ks, vn, vp, us, HSx.out, HEND.out (by omega), by omega⟩
end Go.Proofs.Base
end
section
namespace Go.Proofs.Base
open Go Go.Proofs Go.RowKit Go.Proofs.Gaps
set_option maxRecDepth 100000
/-- The texts that lie somewhere are bytes. -/
def BytesIn (w : World) (len : Nat) (A : Nat → Option Addr) (L : Nat → Nat) : Prop := ∀ i, i < len → 1 ≤ L i → ∀ b o, A i = some ⟨b, o, none⟩ → ∃ l : List Nat, l.length = L i ∧ BytesAt w b o l
theorem msgPieces_tsn {first size idx st num L C ab ao : Nat} : ∀ (f k count q : Nat) (h : q < (msgPieces first size idx st num L C ab ao f k count).length), ((msgPieces first size idx st num L C ab ao f k count)[q]).d.tsn = (first + (count + q)) % 4294967296
  | 0, _, _, q, h => by simp [msgPieces] at h
  | f + 1, k, count, q, h => by
    by_cases hk : k < L
    · have e : msgPieces first size idx st num L C ab ao (f + 1) k count = pieceAt first idx st num L C ab ao k (min (k + size) L) count :: msgPieces first size idx st num L C ab ao f (k + size) (count + 1) := by rw [msgPieces, if_pos hk]
      cases q with
      | zero => simp only [e, List.getElem_cons_zero]; rfl
      | succ q =>
        simp only [e, List.getElem_cons_succ]
        have h' : q < (msgPieces first size idx st num L C ab ao f (k + size) (count + 1)).length := by rw [e] at h; simpa using h
        rw [msgPieces_tsn f (k + size) (count + 1) q h', show count + 1 + q = count + (q + 1) by omega]
    · have e : msgPieces first size idx st num L C ab ao (f + 1) k count = [] := by rw [msgPieces, if_neg hk]
      rw [e] at h; simp at h
theorem allPieces_tsn {first size len : Nat} {st L C ab ao : Nat → Nat} : ∀ (f i : Nat) (nums : Nat → Nat) (count q : Nat) (h : q < (allPieces first size len st L C ab ao f i nums count).length), ((allPieces first size len st L C ab ao f i nums count)[q]).d.tsn = (first + (count + q)) % 4294967296
  | 0, _, _, _, q, h => by simp [allPieces] at h
  | f + 1, i, nums, count, q, h => by
    by_cases hi : i < len
    · have e : allPieces first size len st L C ab ao (f + 1) i nums count = msgPieces first size i (st i) (nums (st i)) (L i) (C i) (ab i) (ao i) (L i) 0 count ++
        allPieces first size len st L C ab ao f (i + 1) (bump nums (st i)) (count + (msgPieces first size i (st i) (nums (st i)) (L i) (C i) (ab i) (ao i) (L i) 0 count).length) := by rw [allPieces, if_pos hi]
      by_cases hq : q < (msgPieces first size i (st i) (nums (st i)) (L i) (C i) (ab i) (ao i) (L i) 0 count).length
      · simp only [e]
        rw [List.getElem_append_left hq]
        exact msgPieces_tsn _ _ _ _ hq
      · simp only [e]
        rw [e, List.length_append] at h
        rw [List.getElem_append_right (by omega), allPieces_tsn f (i + 1) _ _ _ (by omega)]
        congr 2
        omega
    · have e : allPieces first size len st L C ab ao (f + 1) i nums count = [] := by rw [allPieces, if_neg hi]
      rw [e] at h; simp at h
theorem zzFits3Any (rl rc : Nat) (RA : Option Addr) (A : Nat → Option Addr) (L C : Nat → Nat) (tu bi : Nat → Int) (lo : Nat → Bool) (w : World) (hR : 0 < rl → ∃ rb ro, RA = some ⟨rb, ro, none⟩ ∧ RndsIn w rb ro rl A L C tu bi lo) :
    Calls Tryz.prog 5 #[.slice RA rl rc] w fun e w' => IsBool e ∧ Kept [] w w' := by
  rcases Nat.eq_zero_or_pos rl with rfl | h
  · refine (zzFits3Nil RA rc w).mono ?_
    rintro e w' ⟨rfl, hk⟩
    exact ⟨⟨true, rfl⟩, hk⟩
  · obtain ⟨rb, ro, rfl, h1⟩ := hR h
    exact zzFits3 rb ro rl rc A L C tu bi lo w h1
theorem AreRoundsAny (rl rc : Nat) (RA : Option Addr) (A : Nat → Option Addr) (L C : Nat → Nat) (act : Nat → Nat → Int) (tu bi : Nat → Int) (lo : Nat → Bool) (w : World) (hR : 0 < rl → ∃ rb ro, RA = some ⟨rb, ro, none⟩ ∧ RndsIn w rb ro rl A L C tu bi lo) (hA : ActsIn w rl A L C act) (hl63 : (rl : Int) ≤ 9223372036854775807) :
    Calls Tryz.prog 13 #[.slice RA rl rc] w fun e w' => Says e (Rounds rl L act tu bi) ∧ Kept [] w w' := by
  rcases Nat.eq_zero_or_pos rl with rfl | h
  · refine (AreRoundsNone RA rc w).mono ?_
    rintro e w' ⟨rfl, hk⟩
    exact ⟨⟨true, rfl, fun _ => ⟨by omega, fun i hi => by omega⟩⟩, hk⟩
  · obtain ⟨rb, ro, rfl, h1⟩ := hR h
    exact AreRounds rb ro rl rc A L C tu bi lo act w h1 hA hl63
def dOf (ps : List Pc) (j : Nat) : Pd := match ps[j - 1]? with
  | some p => p.d
  | none => ⟨false, false, 0, 0, 0, 0⟩
theorem dOf_get {ps : List Pc} {q : Nat} (h : q < ps.length) : dOf ps (q + 1) = ps[q].d := by
  unfold dOf
  rw [Nat.add_sub_cancel, List.getElem?_eq_getElem h]
/-- The pieces that spec.Pieces makes are such a sheaf. -/
theorem sheafOf (gp cp f base : Nat) (ps : List Pc) (T : Nat → List Nat) (w : World) (ho : w.ownsRow base 41 9 (.slice (some ⟨gp, 0, none⟩) ps.length cp) ps.length (pcCells ps))
    (hp : ∀ q (h : q < ps.length), (T (q + 1)).length = ps[q].n ∧ 0 < ps[q].n ∧ ps[q].n ≤ 200 ∧ BytesAt w ps[q].b ps[q].o (T (q + 1)) ∧ ps[q].d.ok ∧ ps[q].d.tsn = tsn f (q + 1)) : Sheaf w gp ps.length f (dOf ps) T where
  lt := (ho.lt gp rfl).2
  cell := fun j h1 h2 => by
    obtain ⟨q, rfl⟩ : ∃ q, j = q + 1 := ⟨j - 1, by omega⟩
    have hq : q < ps.length := by omega
    obtain ⟨a1, a2, a3, a4, a5, a6⟩ := hp q hq
    refine ⟨ps[q].b, ps[q].o, ps[q].cap, fun c v hv => ?_, a4⟩
    rw [dOf_get hq, a1] at hv
    have hc : c < 9 := by
      rcases Nat.lt_or_ge c 9 with h | h
      · exact h
      · rw [List.getElem?_eq_none (by simpa [dC] using h)] at hv; cases hv
    have := ho.cells (g := gp) rfl (q * 9 + c) v ((pcCells_get ps q c hq hc).trans hv)
    rwa [addr_add, Nat.zero_add] at this
  len := fun j h1 h2 => by
    obtain ⟨q, rfl⟩ : ∃ q, j = q + 1 := ⟨j - 1, by omega⟩
    obtain ⟨a1, a2, a3, a4, a5, a6⟩ := hp q (by omega)
    omega
  ok := fun j h1 h2 => by
    obtain ⟨q, rfl⟩ : ∃ q, j = q + 1 := ⟨j - 1, by omega⟩
    obtain ⟨a1, a2, a3, a4, a5, a6⟩ := hp q (by omega)
    rw [dOf_get (by omega)]
    exact ⟨a5, a6⟩
end Go.Proofs.Base
end
