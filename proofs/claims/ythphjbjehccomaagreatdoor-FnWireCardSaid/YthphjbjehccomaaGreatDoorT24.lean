/- Parts of the proof, steps T21, T23, T24: what the code and the plain laws of these steps give. Made by AI agents; no person has read it. -/
import Derived.Test.YthphjbjehccomaaGreatDoorT20
import Derived.Test.YthphjbjehccomaaGreatDoorP14
import Derived.Handy
section
namespace Go.Proofs.Base
open Go Go.Proofs Go.RowKit Go.Proofs.Gaps
set_option maxRecDepth 100000
theorem sizeZZ : (Tryz.prog.info? 104).map (·.size) = some 4 := by kernel_rfl
set_option maxHeartbeats 4000000 in
theorem ZZSackOf (b o cap : Nat) (s : Sk) (w : World) (hs : s.ok) (hl : BytesAt w b o (sackBytes s)) (hcap : 4 + s.len ≤ cap) (hcm : cap ≤ 9223372036854775807) :
    Calls Tryz.prog 41 #[.slice (some ⟨b, o, none⟩) (4 + s.len) cap] w fun e w' => ∃ vg vd, e = .returned (.tuple #[.agg #[.int .u32 s.tsn, .int .u32 0, vg, vd], .nilIface]) ∧
      w'.ownsRow w.heap.size 146 2 vg s.gaps.length (g16 s.gaps) ∧ w'.ownsRow w.heap.size 22 1 vd s.dups.length (u32s s.dups) ∧ Kept [] w w' := by
  have lb := hl.lt
  have HS := hid hs; clear hs
  go_enter Tryz.func41, Tryz.ntmps41
  go_wp2_with fail
  generalize hW : World.alloc _ _ = w1
  have hk1 : Kept [] w w1 := by rw [← hW]; exact ((Kept.refl [] w).alloc _).alloc _
  have hZ : w1.heap[w.heap.size]? = some (.cells #[.int .u32 0, .int .u32 0, .slice none 0 0, .slice none 0 0] 104 (0, 0)) := by rw [← hW]; exact blk_alloc _ (blk_new w _)
  have hP1 : w1.heap[w.heap.size + 1]? = some (.cells (sackC 0 0 (.slice none 0 0) 0 (.slice none 0 0) (.slice none 0 0)) 149 (0, 0)) := by
    rw [← hW]
    have h := blk_new (w.alloc (.cells #[.int .u32 0, .int .u32 0, .slice none 0 0, .slice none 0 0] 104)) (.cells (sackC 0 0 (.slice none 0 0) 0 (.slice none 0 0) (.slice none 0 0)) 149)
    simp only [World.size_alloc] at h
    exact h
  clear hW
  generalize hB : w.heap.size = B at *
  have HB := hid hB; clear hB
  have HU := hid (sack_unmarshal (B + 1) b o (4 + s.len) cap s w1 HS.out hP1 (hl.kept hk1 (by simp)) rfl hcap hcm (by omega))
  have HZ := hid hZ; have HK1 := hid hk1
  have hs1 := hk1.size
  have lP1 := blk_lt hP1
  clear hP1 hZ hk1
  refine HU.out.mono ?_
  rintro e w2 ⟨rfl, vg, vd, hP2, hog, hod, hk2⟩
  have hZ2 := (hk2.block B (blk_lt HZ.out) (by simp)).trans HZ.out
  have c3 : w2.cell? ⟨B + 1, 3, none⟩ = some (.int .u32 s.tsn) := blk_cell hP2 rfl
  have c4 : w2.cell? ⟨B + 1, 4, none⟩ = some (.int .u32 0) := blk_cell hP2 rfl
  have c5 : w2.cell? ⟨B + 1, 5, none⟩ = some vg := blk_cell hP2 rfl
  have c6 : w2.cell? ⟨B + 1, 6, none⟩ = some vd := blk_cell hP2 rfl
  have lP2 := blk_lt hP2
  have lB2 := blk_lt hZ2
  have HZ2 := hid hZ2; have HP2 := hid hP2; have HOG := hid hog; have HOD := hid hod; have HK2 := hid hk2
  clear hZ2 hP2 hog hod hk2 HU HZ
  go_wp2_with fail
  obtain ⟨Ag, Cg, rfl⟩ := own_form HOG.out
  obtain ⟨Ad, Cd, rfl⟩ := own_form HOD.out
  have hw2 := HK2.out.size
  have hw1 := HK1.out.size
  have hB0 := HB.out
  have HBs : Hid (∀ r, r ∈ [B + 1] → r ∈ ([] : List Nat) ∨ w.heap.size ≤ r) := by intro r hr; simp at hr; subst hr; right; omega
  have hKw2 := hid (HK1.out.thenNew HK2.out HBs.out)
  have hBW2 : B ≤ w1.heap.size := by omega
  generalize hpe : B + 1 = p at *
  have hne1 : B ≠ p := by omega
  have hne2 : p ≠ B := by omega
  have HPE := hid hpe; clear hpe
  have H41 := hid (zzGaps _ _ s.gaps w2.drew (ownsRow_kept HOG.out ((Kept.refl [] w2).drew) (by simp)) HS.out.few)
  go_region_held3 (fun w' => w'.cell? ⟨p, 3, none⟩ = some (.int .u32 s.tsn) ∧ w'.cell? ⟨p, 4, none⟩ = some (.int .u32 0) ∧ w'.cell? ⟨p, 5, none⟩ = some (.slice Ag s.gaps.length Cg) ∧ w'.cell? ⟨p, 6, none⟩ = some (.slice Ad s.dups.length Cd))
    (go_keep)
    ((go_at_call 57; refine H41.out.mono ?_; rintro e w3 ⟨vo, rfl, hov, hk3⟩; obtain ⟨Ao, Co, rfl⟩ := own_form hov; have hk23 := ((Kept.refl [] w2).drew).trans hk3; have hP3 := (hk23.block p lP2 (by simp)).trans HP2.out; have hZ3 := (hk23.block B lB2 (by simp)).trans HZ2.out; have d3 : w3.cell? ⟨p, 3, none⟩ = some (.int .u32 s.tsn) := blk_cell hP3 rfl; have d4 : w3.cell? ⟨p, 4, none⟩ = some (.int .u32 0) := blk_cell hP3 rfl; have d5 : w3.cell? ⟨p, 5, none⟩ = some (.slice Ag s.gaps.length Cg) := blk_cell hP3 rfl; have d6 : w3.cell? ⟨p, 6, none⟩ = some (.slice Ad s.dups.length Cd) := blk_cell hP3 rfl; have e0 : w3.cell? ⟨B, 0, none⟩ = some (.int .u32 0) := blk_cell hZ3 rfl; have e1 : w3.cell? ⟨B, 1, none⟩ = some (.int .u32 0) := blk_cell hZ3 rfl; have e2 : w3.cell? ⟨B, 2, none⟩ = some (.slice none 0 0) := blk_cell hZ3 rfl; have e3 : w3.cell? ⟨B, 3, none⟩ = some (.slice none 0 0) := blk_cell hZ3 rfl; have f0 : w3.frozen? ⟨B, 0, none⟩ = false := blk_free hZ3; have f1 : w3.frozen? ⟨B, 1, none⟩ = false := blk_free hZ3; have f2 : w3.frozen? ⟨B, 2, none⟩ = false := blk_free hZ3; have f3 : w3.frozen? ⟨B, 3, none⟩ = false := blk_free hZ3; have lZ3 := blk_lt hZ3; have HZ3 := hid hZ3; have HOV := hid hov; have HK23 := hid hk23; clear hP3 hZ3 hov hk23 hk3))
  go_wp2_with fail
  generalize hW : World.setCell _ _ _ = w5
  have hbl : w5.heap[B]? = some (.cells #[.int .u32 s.tsn, .int .u32 0, .slice Ao s.gaps.length Co, .slice Ad s.dups.length Cd] 104 (0, 0)) := by
    rw [← hW]
    exact blk_setCell (i := 3) (.slice Ad s.dups.length Cd) (blk_setCell (i := 2) (.slice Ao s.gaps.length Co) (blk_setCell (i := 1) (.int .u32 0) (blk_setCell (i := 0) (.int .u32 s.tsn) HZ3.out)))
  have hk35 : Kept [B] w3 w5 := by
    rw [← hW]
    exact ((((Kept.refl [B] w3).setCell (p := ⟨B, 0, none⟩) _ (.inl (by simp))).setCell (p := ⟨B, 1, none⟩) _ (.inl (by simp))).setCell (p := ⟨B, 2, none⟩) _ (.inl (by simp))).setCell (p := ⟨B, 3, none⟩) _ (.inl (by simp))
  clear hW
  have hBle : w.heap.size ≤ B := by omega
  have hkk : Kept [] w w5 := (hKw2.out.trans HK23.out).thenNew hk35 (by intro r hr; simp at hr; subst hr; exact .inr hBle)
  have hg1 := own_base (ownsRow_kept HOV.out hk35 (by intro g hg; simp; intro e; have := own_ge HOV.out (own_mem.2 hg); have h2 : w2.drew.heap.size = w2.heap.size := rfl; omega)) (show w.heap.size ≤ w2.drew.heap.size by have h2 : w2.drew.heap.size = w2.heap.size := rfl; omega)
  have hd1 := own_base (ownsRow_kept (ownsRow_kept HOD.out HK23.out (by simp)) hk35 (by intro g hg; simp; intro e; have := own_ge HOD.out (own_mem.2 hg); have := HPE.out; omega)) (show w.heap.size ≤ w1.heap.size by omega)
  have hv := run_loadVar_blk (cs := #[.int .u32 s.tsn, .int .u32 0, .slice Ao s.gaps.length Co, .slice Ad s.dups.length Cd]) Tryz.underlying104 sizeZZ hbl
  refine bodyPost_ret (v := .tuple #[.agg #[.int .u32 s.tsn, .int .u32 0, .slice Ao s.gaps.length Co, .slice Ad s.dups.length Cd], .nilIface]) (results_cell_tmp2' rfl rfl rfl hv) rfl ⟨_, _, rfl, hg1, hd1, hkk⟩
end Go.Proofs.Base
end
section
namespace Go.Proofs.Base
open Go Go.Proofs Go.RowKit Go.Proofs.Gaps
set_option maxRecDepth 100000
set_option maxHeartbeats 4000000 in
theorem SackOf (b o cap : Nat) (s : Sk) (w : World) (hs : s.ok) (hl : BytesAt w b o (sackBytes s)) :
    Calls Tryz.prog 28 #[.slice (some ⟨b, o, none⟩) (4 + s.len) cap] w fun e w' => ∃ vg vd, e = .returned (.tuple #[.agg #[.int .u32 s.tsn, .int .u32 0, vg, vd], .bool true]) ∧
      w'.ownsRow w.heap.size 79 2 vg s.gaps.length (g64 s.gaps) ∧ w'.ownsRow w.heap.size 22 1 vd s.dups.length (u32s s.dups) ∧ Kept [] w w' := by
  have lb := hl.lt
  have HS := hid hs
  have hsl := len_pos_sack s hs
  have hn2 := hs.fewd
  have hkA := (Kept.refl [] w).alloc (.cells #[.int .u32 0, .int .u32 0, .slice none 0 0, .slice none 0 0] 59)
  have hA := blk_new w (.cells #[.int .u32 0, .int .u32 0, .slice none 0 0, .slice none 0 0] 59)
  have H1 := hid (copied b o (4 + s.len) cap (sackBytes s) (w.alloc (.cells #[.int .u32 0, .int .u32 0, .slice none 0 0, .slice none 0 0] 59)) (hl.kept hkA (by simp)) (len_sackBytes s) (by omega) (by omega))
  have HKA := hid hkA; have HA := hid hA
  clear hs hkA hA
  go_enter Tryz.func28, Tryz.ntmps28
  go_wp2_with fail
  refine H1.out.mono ?_
  rintro e w1 ⟨g1, cap1, hg1, hc1, hc1', rfl, hb1, hk1⟩
  have hk01 := HKA.out.trans hk1
  have hA1 := (hk1.block w.heap.size (blk_lt HA.out) (by simp)).trans HA.out
  have H2 := hid (ZZSackOf g1 0 cap1 s w1 HS.out hb1 hc1 (by unfold maxLen at hc1'; omega))
  have HA1 := hid hA1; have HK1 := hid hk01
  clear H1 hA1 hk01 hb1 hk1
  go_wp2_with fail
  refine H2.out.mono ?_
  rintro e w2 ⟨vg, vd, rfl, hog, hod, hk2⟩
  obtain ⟨Ag, Cg, rfl⟩ := own_form hog
  obtain ⟨Ad, Cd, rfl⟩ := own_form hod
  have HOG := hid hog; have HOD := hid hod; have HK2 := hid (HK1.out.trans hk2)
  have HA2 := hid ((hk2.block _ (blk_lt HA1.out) (by simp)).trans HA1.out)
  clear hog hod hk2 H2
  go_wp2_with fail
  generalize hW : World.alloc _ _ = w3
  have hC : w3.heap[w2.heap.size]? = some (.cells #[.int .u32 s.tsn, .int .u32 0, .slice Ag s.gaps.length Cg, .slice Ad s.dups.length Cd] 104 (0, 0)) := by rw [← hW]; exact blk_new w2 _
  have hk23 : Kept [] w2 w3 := by rw [← hW]; exact (Kept.refl [] w2).alloc _
  clear hW
  have hw1 := HKA.out.size
  have hs01 := HK1.out.size
  have hs2 := HK2.out.size
  have lA2 := blk_lt HA2.out
  have hA3 := hid ((hk23.block _ lA2 (by simp)).trans HA2.out)
  have hog3 := hid (ownsRow_kept HOG.out hk23 (by simp))
  have hod3 := hid (ownsRow_kept HOD.out hk23 (by simp))
  have hK3 := hid (HK2.out.trans hk23)
  have hk3s := hk23.size
  generalize hAe : w.heap.size = A at *
  generalize hCe : w2.heap.size = C at *
  have hne1 : A ≠ C := by omega
  have hne2 : C ≠ A := by omega
  have hAle : w.heap.size ≤ A := by omega
  have HAE := hid hAe
  clear hk23 hAe
  have c0 : w3.cell? ⟨C, 0, none⟩ = some (.int .u32 s.tsn) := blk_cell hC rfl
  have c1 : w3.cell? ⟨C, 1, none⟩ = some (.int .u32 0) := blk_cell hC rfl
  have c2 : w3.cell? ⟨C, 2, none⟩ = some (.slice Ag s.gaps.length Cg) := blk_cell hC rfl
  have c3 : w3.cell? ⟨C, 3, none⟩ = some (.slice Ad s.dups.length Cd) := blk_cell hC rfl
  have lC := blk_lt hC
  have HC := hid hC
  have hn1 := HS.out.few
  clear hC
  have H26 := hid (pairs _ _ s.gaps w3.drew (ownsRow_kept hog3.out ((Kept.refl [] w3).drew) (by simp)) HS.out.few HS.out.gaps)
  go_region_held_law (fun w' => w'.cell? ⟨C, 0, none⟩ = some (.int .u32 s.tsn) ∧ w'.cell? ⟨C, 1, none⟩ = some (.int .u32 0) ∧ w'.cell? ⟨C, 2, none⟩ = some (.slice Ag s.gaps.length Cg) ∧ w'.cell? ⟨C, 3, none⟩ = some (.slice Ad s.dups.length Cd))
    (go_keep)
    (first
      | (go_at_call 38; refine H26.out.mono ?_; rintro e w4 ⟨vo, rfl, hov, hk4⟩; obtain ⟨Ao, Co, rfl⟩ := own_form hov; have hk04 := ((Kept.refl [] w3).drew).trans hk4; obtain ⟨v5, w5, hr5, ho5, hk5⟩ := copy32 35 _ _ s.dups w4 (ownsRow_kept hod3.out hk04 (by simp)) (by omega); obtain ⟨Aq, Cq, rfl⟩ := own_form ho5; have hC4 := (hk04.block C lC (by simp)).trans HC.out; have hC5 := (hk5.block C (blk_lt hC4) (by simp)).trans hC4; have hA4 := (hk04.block A (blk_lt hA3.out) (by simp)).trans hA3.out; have hA5 := (hk5.block A (blk_lt hA4) (by simp)).trans hA4; have d0 : w4.cell? ⟨C, 0, none⟩ = some (.int .u32 s.tsn) := blk_cell hC4 rfl; have d1 : w4.cell? ⟨C, 1, none⟩ = some (.int .u32 0) := blk_cell hC4 rfl; have d2 : w4.cell? ⟨C, 2, none⟩ = some (.slice Ag s.gaps.length Cg) := blk_cell hC4 rfl; have d3 : w4.cell? ⟨C, 3, none⟩ = some (.slice Ad s.dups.length Cd) := blk_cell hC4 rfl; have e0 : w5.cell? ⟨C, 0, none⟩ = some (.int .u32 s.tsn) := blk_cell hC5 rfl; have e1 : w5.cell? ⟨C, 1, none⟩ = some (.int .u32 0) := blk_cell hC5 rfl; have e2 : w5.cell? ⟨C, 2, none⟩ = some (.slice Ag s.gaps.length Cg) := blk_cell hC5 rfl; have e3 : w5.cell? ⟨C, 3, none⟩ = some (.slice Ad s.dups.length Cd) := blk_cell hC5 rfl; have z0 : w5.cell? ⟨A, 0, none⟩ = some (.int .u32 0) := blk_cell hA5 rfl; have z1 : w5.cell? ⟨A, 1, none⟩ = some (.int .u32 0) := blk_cell hA5 rfl; have z2 : w5.cell? ⟨A, 2, none⟩ = some (.slice none 0 0) := blk_cell hA5 rfl; have z3 : w5.cell? ⟨A, 3, none⟩ = some (.slice none 0 0) := blk_cell hA5 rfl; have f0 : w5.frozen? ⟨A, 0, none⟩ = false := blk_free hA5; have f1 : w5.frozen? ⟨A, 1, none⟩ = false := blk_free hA5; have f2 : w5.frozen? ⟨A, 2, none⟩ = false := blk_free hA5; have f3 : w5.frozen? ⟨A, 3, none⟩ = false := blk_free hA5; have lA5 := blk_lt hA5; have HA5 := hid hA5; have HOV := hid (ownsRow_kept hov hk5 (by simp)); have HO5 := hid ho5; have HK35 := hid (hk04.trans hk5); have hs34 := hk04.size; clear hC4 hC5 hA4 hA5 hk04 hk4 hk5 hov ho5)
      | (refine step_append_run rfl _ _ 35 rfl _ _ _ rfl rfl hr5 ?_))
  go_wp2_with fail
  generalize hW : World.setCell _ _ _ = w6
  have hbl : w6.heap[A]? = some (.cells #[.int .u32 s.tsn, .int .u32 0, .slice Ao s.gaps.length Co, .slice Aq s.dups.length Cq] 59 (0, 0)) := by
    rw [← hW]
    exact blk_setCell (i := 3) (.slice Aq s.dups.length Cq) (blk_setCell (i := 2) (.slice Ao s.gaps.length Co) (blk_setCell (i := 1) (.int .u32 0) (blk_setCell (i := 0) (.int .u32 s.tsn) HA5.out)))
  have hk56 : Kept [A] w5 w6 := by
    rw [← hW]
    exact ((((Kept.refl [A] w5).setCell (p := ⟨A, 0, none⟩) _ (.inl (by simp))).setCell (p := ⟨A, 1, none⟩) _ (.inl (by simp))).setCell (p := ⟨A, 2, none⟩) _ (.inl (by simp))).setCell (p := ⟨A, 3, none⟩) _ (.inl (by simp))
  clear hW
  have hkk : Kept [] w w6 := (hK3.out.trans HK35.out).thenNew hk56 (by intro r hr; simp at hr; subst hr; exact .inr hAle)
  have h2 : w3.drew.heap.size = w3.heap.size := rfl
  have hg1 := own_base (ownsRow_kept HOV.out hk56 (by intro g hg; simp; intro e; have := own_ge HOV.out (own_mem.2 hg); omega)) (show w.heap.size ≤ w3.drew.heap.size by omega)
  have hd1 := own_base (ownsRow_kept HO5.out hk56 (by intro g hg; simp; intro e; have := own_ge HO5.out (own_mem.2 hg); omega)) (show w.heap.size ≤ w4.heap.size by omega)
  have hv := run_loadVar_blk (cs := #[.int .u32 s.tsn, .int .u32 0, .slice Ao s.gaps.length Co, .slice Aq s.dups.length Cq]) Tryz.underlying59 sizeSack hbl
  refine bodyPost_ret (v := .tuple #[.agg #[.int .u32 s.tsn, .int .u32 0, .slice Ao s.gaps.length Co, .slice Aq s.dups.length Cq], .bool true]) (results_cell_tmp2' rfl rfl rfl hv) rfl ⟨_, _, rfl, hg1, hd1, hkk⟩
end Go.Proofs.Base
end
section
namespace Go.Proofs.Base
open Go Go.Proofs Go.RowKit Go.Proofs.Gaps
set_option maxRecDepth 100000
theorem methS (v : Value) (w : World) : (Go.method 485 147 v "loop.example/pub-g03078/pub/sctp.marshal").run Tryz.prog w = .ok (60, v) w := by kernel_rfl
theorem callS (v : Value) (w : World) : (callFunc 60 #[v]).run Tryz.prog w = .ok (.enter 60 #[v]) w := by kernel_rfl
/-- A SACK that was read, in memory. -/
def SackIn (p : Nat) (s : Sk) (w : World) : Prop := ∃ raw bg bd vg vd, w.heap[p]? = some (.cells (sackC 3 0 raw s.tsn vg vd) 149 (0, 0)) ∧ w.ownsRow bg 151 2 vg s.gaps.length (g16 s.gaps) ∧ w.ownsRow bd 22 1 vd s.dups.length (u32s s.dups)
theorem SackIn.kept {p : Nat} {s : Sk} {w w' : World} (h : SackIn p s w) (k : Kept [] w w') : SackIn p s w' := by
  obtain ⟨raw, bg, bd, vg, vd, h1, h2, h3⟩ := h
  exact ⟨raw, bg, bd, vg, vd, (k.block p (blk_lt h1) (by simp)).trans h1, ownsRow_kept h2 k (by simp), ownsRow_kept h3 k (by simp)⟩
theorem SackIn.lt {p : Nat} {s : Sk} {w : World} (h : SackIn p s w) : p < w.heap.size := by obtain ⟨_, _, _, _, _, h1, _⟩ := h; exact blk_lt h1
theorem sack_marshal' (p : Nat) (s : Sk) (w : World) (hs : s.ok) (h : SackIn p s w) :
    Calls Tryz.prog 60 #[.pointer (some ⟨p, 0, none⟩)] w fun e w' => ∃ B, w.heap.size ≤ B ∧ e = .returned (.tuple #[.slice (some ⟨B, 0, none⟩) (4 + s.len) (4 + s.len), .nilIface]) ∧
      OB w' B (sackBytes s) ∧ Kept [p] w w' := by
  obtain ⟨raw, bg, bd, vg, vd, h1, h2, h3⟩ := h
  exact sack_marshal p 3 bg bd raw vg vd s w hs h1 h2 h3
set_option maxRecDepth 100000 in
set_option maxHeartbeats 2000000 in
theorem ZZPacketTextS (cb ccap b o cap sp dp tag : Nat) (s : Sk) (w : World) (hs : s.ok) (hcb : w.cell? ⟨cb, 0, none⟩ = some (.slice (some ⟨b, o, none⟩) (4 + s.len) cap)) (hl : BytesAt w b o (sackBytes s))
    (hcap : 4 + s.len ≤ cap) (hcm : cap ≤ 9223372036854775807) (hsp : sp < 65536) (hdp : dp < 65536) (htag : tag < 4294967296) :
    Calls Tryz.prog 49 #[.int .i64 sp, .int .i64 dp, .int .u32 tag, .slice (some ⟨cb, 0, none⟩) 1 ccap, .bool true] w fun e w' => ∃ g cap', w.heap.size ≤ g ∧ e = .returned (.tuple #[.slice (some ⟨g, 0, none⟩) (12 + (4 + s.len) + padN (4 + s.len)) cap', .nilIface]) ∧
      Own w' g (12 + (4 + s.len) + padN (4 + s.len)) cap' (packetOf sp dp tag (sackBytes s)) ∧ Kept [] w w' := by
  have lcb : cb < w.heap.size := World.block_lt_of_cell? w _ hcb
  have lb := hl.lt
  have HCB := hid hcb; clear hcb
  have HS := hid hs; clear hs
  have hsl := len_pos_sack s HS.out
  have HSL := hid (show 12 ≤ s.len by unfold Sk.len; omega)
  have c0 := hl.cell 0 (by rw [len_sackBytes]; omega)
  rw [Nat.add_zero, show bt (sackBytes s) 0 = 3 from rfl] at c0
  have e1 : IntKind.u16.wrap (sp : Int) = sp := by rw [IntKind.wrap_u16]; omega
  have e2 : IntKind.u16.wrap (dp : Int) = dp := by rw [IntKind.wrap_u16]; omega
  have hcb0 := HCB.out
  have q1 : ¬ (4 : Int) + (s.len : Int) < 4 := by omega
  have q2 : (0 : Int) < 4 + (s.len : Int) := by omega
  go_enter Tryz.func49, Tryz.ntmps49
  go_wp2_with fail
  refine wp_loop_rounds 2 ?_
  rw [rounds_succ]
  go_wp2_with fail
  generalize hW : World.alloc _ _ = w2
  have hk2 : Kept [] w w2 := by rw [← hW]; exact ((Kept.refl [] w).alloc _).alloc _
  have hpk2 : w2.heap[w.heap.size]? = some (.cells (pkC sp dp tag (.slice none 0 0)) 169 (0, 0)) := by rw [← hW]; exact blk_alloc _ (blk_new w _)
  have hP2 : w2.heap[w.heap.size + 1]? = some (.cells (sackC 0 0 (.slice none 0 0) 0 (.slice none 0 0) (.slice none 0 0)) 149 (0, 0)) := by
    rw [← hW]
    have h := blk_new (w.alloc (.cells #[.int .u16 sp, .int .u16 dp, .int .u32 tag, .slice none 0 0] 169)) (.cells (sackC 0 0 (.slice none 0 0) 0 (.slice none 0 0) (.slice none 0 0)) 149)
    rw [show (w.alloc (.cells #[.int .u16 sp, .int .u16 dp, .int .u32 tag, .slice none 0 0] 169)).heap.size = w.heap.size + 1 by simp] at h
    exact h
  clear hW c0 hcb0
  generalize hB : w.heap.size = B at *
  have HB := hid hB; clear hB
  have hl2 := hl.kept hk2 (by simp)
  have hPK := hid hpk2; clear hpk2
  have HU := hid (sack_unmarshal (B + 1) b o (4 + s.len) cap s w2 HS.out hP2 hl2 rfl hcap hcm (by omega))
  clear hP2 hl2
  refine HU.out.mono ?_
  rintro e w3 ⟨rfl, vg, vd, hP3', hog3, hod3, hk3⟩
  have hP3 : SackIn (B + 1) s w3 := ⟨_, _, _, vg, vd, hP3', hog3, hod3⟩
  clear hP3' hog3 hod3
  have hk3' : Kept [] w w3 := hk2.thenNew hk3 (by intro r hr; simp at hr; subst hr; right; have := HB.out; omega)
  have hpk3 := (hk3.block B (blk_lt hPK.out) (by simp)).trans hPK.out
  have u3 : w3.cell? ⟨B, 3, none⟩ = some (.slice none 0 0) := blk_cell hpk3 rfl
  have HPK3 := hid hpk3; clear hpk3 hPK
  have HP3 := hid hP3; clear hP3 HU hk3 hk2
  have lp3 := HP3.out.lt
  have lB3 : B < w3.heap.size := by omega
  obtain ⟨g4, cap4, w4, hr4, hg4, hc4, hc4', hx4, hk4⟩ := appendNil 167 171 16 .nilIface (.iface 147 (.pointer (some ⟨B + 1, 0, none⟩))) w3.heap.size 1 167 (w3.alloc (.cells #[.iface 147 (.pointer (some ⟨B + 1, 0, none⟩))] 171)) Tryz.underlying167 i162 rfl (by decide) (blk_cell (blk_new w3 _) rfl) rfl
  have hk4' : Kept [] w3 w4 := ((Kept.refl [] w3).alloc _).trans hk4
  have hpk4 := (hk4'.block B lB3 (by simp)).trans HPK3.out
  have v4 : w4.cell? ⟨B, 3, none⟩ = some (.slice none 0 0) := blk_cell hpk4 rfl
  have f4 : w4.frozen? ⟨B, 3, none⟩ = false := blk_free hpk4
  have lB4 := blk_lt hpk4
  have HPK4 := hid hpk4; clear hpk4
  have HX4 := hid hx4; clear hx4
  go_wp2_with (at_builtin; refine wpList_append_run rfl _ _ 167 rfl _ _ _ rfl rfl hr4 ?_)
  generalize hW : World.setCell _ _ _ = w5
  have hpk5 : w5.heap[B]? = some (.cells (pkC sp dp tag (.slice (some ⟨g4, 0, none⟩) 1 cap4)) 169 (0, 0)) := by rw [← hW, blk_setCell _ HPK4.out]; rfl
  have hgs : w3.heap.size + 1 ≤ g4 := by simpa using hg4
  have hx5 : w5.cell? ⟨g4, 0, none⟩ = some (.iface 147 (.pointer (some ⟨B + 1, 0, none⟩))) := by rw [← hW]; exact ((Kept.refl [B] w4).setCell (p := ⟨B, 3, none⟩) _ (.inl (by simp))).cell (World.block_lt_of_cell? w4 _ HX4.out) (by simp; omega) |>.trans HX4.out
  have hk45 : Kept [B] w4 w5 := by rw [← hW]; exact (Kept.refl [B] w4).setCell _ (.inl (by simp))
  have hk5 : Kept [] w w5 := (hk3'.trans hk4').thenNew hk45 (by intro r hr; simp at hr; subst hr; right; have := HB.out; omega)
  have hP5 : SackIn (B + 1) s w5 := by
    obtain ⟨raw, bg, bd, vg, vd, h1, h2, h3⟩ := HP3.out.kept hk4'
    exact ⟨raw, bg, bd, vg, vd, (hk45.block (B + 1) (blk_lt h1) (by simp)).trans h1, ownsRow_kept h2 hk45 (by intro g hg; simp; intro e; subst e; exact own_far h2 HPK4.out (by decide) (own_mem.2 hg)), ownsRow_kept h3 hk45 (by intro g hg; simp; intro e; subst e; exact own_far h3 HPK4.out (by decide) (own_mem.2 hg))⟩
  clear hW v4 f4 hr4 hk4 HPK4 HX4 u3 HPK3
  rw [rounds_succ]
  go_wp2_with fail
  have H := packet_marshal B g4 cap4 (B + 1) (4 + s.len) sp dp tag 60 147 (sackBytes s) (SackIn (B + 1) s) w5
    (fun _ _ h k => h.kept k) hP5
    (fun w h => sack_marshal' (B + 1) s w HS.out h) (fun w => methS _ w) (fun w => callS _ w)
    (len_sackBytes s) (by omega) (by omega) (small_sackBytes s HS.out) hP5.lt hsp hdp htag hpk5 hx5
  refine H.mono ?_
  rintro e w6 ⟨g, cap', hg, rfl, ho, hk6⟩
  have HO := hid ho; clear ho
  clear H hpk5 hx5 hP5
  go_wp2_with fail
  go_ret2
  have h5 := hk5.size
  have hb := HB.out
  exact ⟨g, cap', by omega, rfl, HO.out, hk5.thenNew hk6 (by intro r hr; simp at hr; subst hr; right; omega)⟩
end Go.Proofs.Base
end
