/- Parts of the proof, steps T29, T30, T31: what the code and the plain laws of these steps give. Made by AI agents; no person has read it. -/
import Derived.Test.YtmmangoeknaenaaGreatDoorT27
import Derived.Test.YtmmangoeknaenaaGreatDoorT18
section
namespace Go.Proofs.Base
open Go Go.Proofs Go.RowKit Go.Proofs.Gaps
set_option maxRecDepth 100000
/-- The texts that lie somewhere are bytes. -/
def BytesIn (w : World) (len : Nat) (A : Nat → Option Addr) (L : Nat → Nat) : Prop := ∀ i, i < len → 1 ≤ L i → ∀ b o, A i = some ⟨b, o, none⟩ → ∃ l : List Nat, l.length = L i ∧ BytesAt w b o l
theorem msgPieces_tsn {first size idx st num L C ab ao : Nat} : ∀ (f k count q : Nat) (h : q < (msgPieces first size idx st num L C ab ao f k count).length), ((msgPieces first size idx st num L C ab ao f k count)[q]).d.tsn = (first + (count + q)) % 4294967296
  | 0, _, _, q, h => by simp [msgPieces] at h
  | f + 1, k, count, q, h => by
    by_cases hk : k < L
    · have e : msgPieces first size idx st num L C ab ao (f + 1) k count = pieceAt first idx st num L C ab ao k (min (k + size) L) count :: msgPieces first size idx st num L C ab ao f (k + size) (count + 1) := by rw [msgPieces, if_pos hk]
      cases q with
      | zero => simp only [e, List.getElem_cons_zero]; rfl
      | succ q =>
        simp only [e, List.getElem_cons_succ]
        have h' : q < (msgPieces first size idx st num L C ab ao f (k + size) (count + 1)).length := by rw [e] at h; simpa using h
        rw [msgPieces_tsn f (k + size) (count + 1) q h', show count + 1 + q = count + (q + 1) by omega]
    · have e : msgPieces first size idx st num L C ab ao (f + 1) k count = [] := by rw [msgPieces, if_neg hk]
      rw [e] at h; simp at h
theorem allPieces_tsn {first size len : Nat} {st L C ab ao : Nat → Nat} : ∀ (f i : Nat) (nums : Nat → Nat) (count q : Nat) (h : q < (allPieces first size len st L C ab ao f i nums count).length), ((allPieces first size len st L C ab ao f i nums count)[q]).d.tsn = (first + (count + q)) % 4294967296
  | 0, _, _, _, q, h => by simp [allPieces] at h
  | f + 1, i, nums, count, q, h => by
    by_cases hi : i < len
    · have e : allPieces first size len st L C ab ao (f + 1) i nums count = msgPieces first size i (st i) (nums (st i)) (L i) (C i) (ab i) (ao i) (L i) 0 count ++
        allPieces first size len st L C ab ao f (i + 1) (bump nums (st i)) (count + (msgPieces first size i (st i) (nums (st i)) (L i) (C i) (ab i) (ao i) (L i) 0 count).length) := by rw [allPieces, if_pos hi]
      by_cases hq : q < (msgPieces first size i (st i) (nums (st i)) (L i) (C i) (ab i) (ao i) (L i) 0 count).length
      · simp only [e]
        rw [List.getElem_append_left hq]
        exact msgPieces_tsn _ _ _ _ hq
      · simp only [e]
        rw [e, List.length_append] at h
        rw [List.getElem_append_right (by omega), allPieces_tsn f (i + 1) _ _ _ (by omega)]
        congr 2
        omega
    · have e : allPieces first size len st L C ab ao (f + 1) i nums count = [] := by rw [allPieces, if_neg hi]
      rw [e] at h; simp at h
theorem zzFits3Any (rl rc : Nat) (RA : Option Addr) (A : Nat → Option Addr) (L C : Nat → Nat) (tu bi : Nat → Int) (lo : Nat → Bool) (w : World) (hR : 0 < rl → ∃ rb ro, RA = some ⟨rb, ro, none⟩ ∧ RndsIn w rb ro rl A L C tu bi lo) :
    Calls Tryz.prog 5 #[.slice RA rl rc] w fun e w' => IsBool e ∧ Kept [] w w' := by
  rcases Nat.eq_zero_or_pos rl with rfl | h
  · refine (zzFits3Nil RA rc w).mono ?_
    rintro e w' ⟨rfl, hk⟩
    exact ⟨⟨true, rfl⟩, hk⟩
  · obtain ⟨rb, ro, rfl, h1⟩ := hR h
    exact zzFits3 rb ro rl rc A L C tu bi lo w h1
theorem AreRoundsAny (rl rc : Nat) (RA : Option Addr) (A : Nat → Option Addr) (L C : Nat → Nat) (act : Nat → Nat → Int) (tu bi : Nat → Int) (lo : Nat → Bool) (w : World) (hR : 0 < rl → ∃ rb ro, RA = some ⟨rb, ro, none⟩ ∧ RndsIn w rb ro rl A L C tu bi lo) (hA : ActsIn w rl A L C act) (hl63 : (rl : Int) ≤ 9223372036854775807) :
    Calls Tryz.prog 13 #[.slice RA rl rc] w fun e w' => Says e (Rounds rl L act tu bi) ∧ Kept [] w w' := by
  rcases Nat.eq_zero_or_pos rl with rfl | h
  · refine (AreRoundsNone RA rc w).mono ?_
    rintro e w' ⟨rfl, hk⟩
    exact ⟨⟨true, rfl, fun _ => ⟨by omega, fun i hi => by omega⟩⟩, hk⟩
  · obtain ⟨rb, ro, rfl, h1⟩ := hR h
    exact AreRounds rb ro rl rc A L C tu bi lo act w h1 hA hl63
def dOf (ps : List Pc) (j : Nat) : Pd := match ps[j - 1]? with
  | some p => p.d
  | none => ⟨false, false, 0, 0, 0, 0⟩
theorem dOf_get {ps : List Pc} {q : Nat} (h : q < ps.length) : dOf ps (q + 1) = ps[q].d := by
  unfold dOf
  rw [Nat.add_sub_cancel, List.getElem?_eq_getElem h]
/-- The pieces that spec.Pieces makes are such a sheaf. -/
theorem sheafOf (gp cp f base : Nat) (ps : List Pc) (T : Nat → List Nat) (w : World) (ho : w.ownsRow base 53 9 (.slice (some ⟨gp, 0, none⟩) ps.length cp) ps.length (pcCells ps))
    (hp : ∀ q (h : q < ps.length), (T (q + 1)).length = ps[q].n ∧ 0 < ps[q].n ∧ ps[q].n ≤ 200 ∧ BytesAt w ps[q].b ps[q].o (T (q + 1)) ∧ ps[q].d.ok ∧ ps[q].d.tsn = tsn f (q + 1)) : Sheaf w gp ps.length f (dOf ps) T where
  lt := (ho.lt gp rfl).2
  cell := fun j h1 h2 => by
    obtain ⟨q, rfl⟩ : ∃ q, j = q + 1 := ⟨j - 1, by omega⟩
    have hq : q < ps.length := by omega
    obtain ⟨a1, a2, a3, a4, a5, a6⟩ := hp q hq
    refine ⟨ps[q].b, ps[q].o, ps[q].cap, fun c v hv => ?_, a4⟩
    rw [dOf_get hq, a1] at hv
    have hc : c < 9 := by
      rcases Nat.lt_or_ge c 9 with h | h
      · exact h
      · rw [List.getElem?_eq_none (by simpa [dC] using h)] at hv; cases hv
    have := ho.cells (g := gp) rfl (q * 9 + c) v ((pcCells_get ps q c hq hc).trans hv)
    rwa [addr_add, Nat.zero_add] at this
  len := fun j h1 h2 => by
    obtain ⟨q, rfl⟩ : ∃ q, j = q + 1 := ⟨j - 1, by omega⟩
    obtain ⟨a1, a2, a3, a4, a5, a6⟩ := hp q (by omega)
    omega
  ok := fun j h1 h2 => by
    obtain ⟨q, rfl⟩ : ∃ q, j = q + 1 := ⟨j - 1, by omega⟩
    obtain ⟨a1, a2, a3, a4, a5, a6⟩ := hp q (by omega)
    rw [dOf_get (by omega)]
    exact ⟨a5, a6⟩
end Go.Proofs.Base
end
section
namespace Go.Proofs.Base
open Go Go.Proofs Go.RowKit Go.Proofs.Gaps
set_option maxRecDepth 100000
/-- What is known of the rounds that are given. -/
structure RoundsGiven (w : World) (rl : Nat) (RA : Option Addr) (A : Nat → Option Addr) (L C : Nat → Nat) (act : Nat → Nat → Int) (tu bi : Nat → Int) (lo : Nat → Bool) : Prop where
  at' : 0 < rl → ∃ rb ro, RA = some ⟨rb, ro, none⟩ ∧ RndsIn w rb ro rl A L C tu bi lo
  acts : ActsIn w rl A L C act
  b63 : ∀ i, i < rl → tu i < 9223372036854775808 ∧ bi i < 9223372036854775808
  l63 : (rl : Int) ≤ 9223372036854775807
theorem RoundsGiven.kept {w w' : World} {rl : Nat} {RA : Option Addr} {A : Nat → Option Addr} {L C : Nat → Nat} {act : Nat → Nat → Int} {tu bi : Nat → Int} {lo : Nat → Bool} (h : RoundsGiven w rl RA A L C act tu bi lo) (k : Kept [] w w') : RoundsGiven w' rl RA A L C act tu bi lo where
  at' := fun h0 => by obtain ⟨rb, ro, h1, h2⟩ := h.at' h0; exact ⟨rb, ro, h1, h2.kept k⟩
  acts := h.acts.kept k
  b63 := h.b63
  l63 := h.l63
set_option maxHeartbeats 8000000 in
theorem FnTold (b off len cap first rl rc : Nat) (size : Int) (st : Nat → Int) (A : Nat → Option Addr) (L C : Nat → Nat) (RA : Option Addr) (rA : Nat → Option Addr) (rL rC : Nat → Nat) (act : Nat → Nat → Int) (tu bi : Nat → Int) (lo : Nat → Bool) (tt : Nat) (ev : Value) (w : World)
    (hf : first < 4294967296) (hM : MsgsIn w b off len st A L C) (hT : TextsAt len A L C) (hBy : BytesIn w len A L) (hl63 : (len : Int) ≤ 9223372036854775807) (hR : RoundsGiven w rl RA rA rL rC act tu bi lo) (hBr : Bruijn w)
    (hg : w.cell? ⟨10, 0, none⟩ = some (.iface tt ev)) :
    Calls Tryz.prog 3 #[.int .u32 first, .slice (some ⟨b, off, none⟩) len cap, .int .i64 size, .slice RA rl rc] w fun e w' => e = .returned (.bool true) ∧ Kept [] w w' := by
  have HM := hid hM; have HT := hid hT; have HBy := hid hBy; have HG := hid hg; have HR := hid hR; have HBR := hid hBr
  have H1 := hid (zzFits1 b off len cap st A L C w hM)
  clear hM hT hBy hg hR hBr
  go_enter Tryz.func3, Tryz.ntmps3
  go_wp2_with fail
  refine H1.out.mono ?_
  rintro e w1 ⟨⟨c, rfl⟩, hk1⟩
  clear H1
  cases c
  · go_wp2_with fail
    go_ret
    exact ⟨rfl, hk1⟩
  · have H2 := hid (zzFits3Any rl rc RA rA rL rC tu bi lo w1 (HR.out.kept hk1).at')
    go_wp2_with fail
    refine H2.out.mono ?_
    rintro e w2 ⟨⟨c, rfl⟩, hk2⟩
    have hk12 := hk1.trans hk2
    clear H2
    cases c
    · go_wp2_with fail
      go_ret
      exact ⟨rfl, hk12⟩
    · have H3 := hid (isAsked b off len cap size st A L C (.slice RA rl rc) (Rounds rl rL act tu bi) w2 (HM.out.kept hk12) HT.out hl63 (fun wx hx => AreRoundsAny rl rc RA rA rL rC act tu bi lo wx (HR.out.kept (hk12.trans hx)).at' (HR.out.kept (hk12.trans hx)).acts HR.out.l63))
      go_wp2_with fail
      refine H3.out.mono ?_
      rintro e w3 ⟨⟨c, rfl, hc⟩, hk3⟩
      have hk13 := hk12.trans hk3
      have Hc := hid hc; clear hc H3
      cases c
      · go_wp2_with fail
        go_ret
        exact ⟨rfl, hk13⟩
      · obtain ⟨hmes, hrou, hs1, hs2, h30⟩ := Hc.out rfl
        have HMES := hid hmes; have HROU := hid hrou; clear hmes hrou Hc
        obtain ⟨sz, rfl⟩ : ∃ sz : Nat, size = sz := ⟨size.toNat, by omega⟩
        have H4 := hid (PiecesAny b off len cap first sz st A L C w3 (HM.out.kept hk13) HT.out HMES.out (by omega) (by omega))
        rw [Int.toNat_natCast, allPieces_len 1 first sz len (fun i => (st i).toNat) L C (abOf A) (aoOf A) len 0 (fun _ => 0) (fun _ => 0) 0 0] at h30
        have H30 := hid h30; clear h30
        go_wp2_with fail
        refine H4.out.mono ?_
        rintro e w4 ⟨vp, rfl, ho, hk4⟩
        clear H4
        have hpos := allPieces_some (first := first) (size := sz) (st := fun i => (st i).toNat) (C := C) (ab := abOf A) (ao := aoOf A) HMES.out.1 (HMES.out.2.2 0 (by have := HMES.out.1; omega)).2.2.1
        have hprop := allPieces_prop (first := first) (C := C) (ab := abOf A) (ao := aoOf A) (st := fun i => (st i).toNat) (show 1 ≤ sz by omega) HMES.out.2.1 (fun i hi => (HMES.out.2.2 i hi).2.2.2) (fun i hi => by have h := HMES.out.2.2 i hi; have := h.2.1; show (st i).toNat ≤ 2; omega) len 0 (fun _ => 0) 0 (fun _ => Nat.le_refl _)
        have htsn := allPieces_tsn (first := first) (size := sz) (len := len) (st := fun i => (st i).toNat) (L := L) (C := C) (ab := abOf A) (ao := aoOf A) len 0 (fun _ => 0) 0
        have h30 := H30.out
        generalize allPieces first sz len (fun i => (st i).toNat) L C (abOf A) (aoOf A) len 0 (fun _ => 0) 0 = ps at *
        clear H30
        have hk14 := hk13.trans hk4
        have hex : ∀ q (h : q < ps.length), ∃ l : List Nat, l.length = ps[q].n ∧ 0 < ps[q].n ∧ ps[q].n ≤ 200 ∧ BytesAt w4 ps[q].b ps[q].o l ∧ ps[q].d.ok ∧ ps[q].d.tsn = tsn (first + 4294967295) (q + 1) := by
          intro q hq
          obtain ⟨m, k, hm, hkn, hn0, hpb, hpo, hpc, hdok⟩ := hprop ps[q] (List.getElem_mem hq)
          obtain ⟨bm, om, hAm⟩ := (HT.out m hm).2.2 (by omega)
          obtain ⟨lm, hlm, hby⟩ := HBy.out m hm (by omega) bm om hAm
          have hab : abOf A m = bm := by simp [abOf, hAm]
          have hao : aoOf A m = om := by simp [aoOf, hAm]
          rw [hab] at hpb; rw [hao] at hpo
          refine ⟨(lm.drop k).take ps[q].n, by simp [hlm]; omega, hn0, by have := (HMES.out.2.2 m hm).2.2.2; omega, by rw [hpb, hpo]; exact ((hby.kept hk14 (by simp)).drop k).take ps[q].n, hdok, ?_⟩
          rw [htsn q hq]; unfold tsn; omega
        obtain ⟨gp, cp, rfl, _, _⟩ := own_some ho (by omega)
        have hsh := sheafOf gp cp (first + 4294967295) _ ps (fun j => if h : j - 1 < ps.length then Classical.choose (hex (j - 1) h) else []) w4 ho (fun q h => by
          have h1 := Classical.choose_spec (hex q h)
          have e : (if h : q + 1 - 1 < ps.length then Classical.choose (hex (q + 1 - 1) h) else []) = Classical.choose (hex q h) := by rw [dif_pos (by omega)]
          rw [e]
          exact ⟨h1.1, h1.2.1, h1.2.2.1, h1.2.2.2⟩)
        generalize (fun j => if h : j - 1 < ps.length then Classical.choose (hex (j - 1) h) else []) = LS at *
        generalize dOf ps = D at *
        have hft : tsn (first + 4294967295) 1 = first := by unfold tsn; omega
        have hr4 := HR.out.kept hk14
        have lg := World.block_lt_of_cell? w _ HG.out
        have H5 := over gp ps.length cp (first + 4294967295) rl rc tt RA rA rL rC act tu bi lo D LS ev w4 hsh h30 hr4.at' hr4.acts HROU.out hr4.b63 (HBR.out.kept hk14 (by simp)) ((hk14.cell lg (by simp)).trans HG.out)
        rw [hft] at H5
        have HK14 := hid hk14
        have H5' := hid H5
        have hlast : ((first : Int) + (ps.length : Int) - 1) % 4294967296 = ((tsn (first + 4294967295) ps.length : Nat) : Int) := by unfold tsn; omega
        generalize first + 4294967295 = f at *
        have HLAST := hid hlast
        clear hft hlast
        clear hex htsn hprop ho hsh hr4 H5 hk14 hk13 hk12 hk4 hk3 hk2 hk1
        go_wp2_with fail
        refine H5'.out.mono ?_
        rintro e w5 ⟨s, rfl, m, js, ks, vn, vq, us, hst, hall, hj360⟩
        have HST := hid hst; have HALL := hid hall
        have H6 := hid (tells s m f ps.length w4.heap.size vn vq js w5 (by omega) hst.ki.all (by omega) hst.side hst.numR (HBR.out.kept (HK14.out.trans hst.kept) (by simp)))
        clear hst hall H5'
        go_wp2_with fail
        refine H6.out.mono ?_
        rintro e w6 ⟨u, G, vg, Ad, nd, Cd, rfl, hte, hnu, hog, hk6⟩
        obtain ⟨rfl, rfl⟩ := hte.whole hnu HALL.out
        obtain ⟨Ag, Cg, rfl⟩ := own_form hog
        have hst6 := HST.out.keep hk6
        have hfull := hst6.ki.full HALL.out
        have hpcs := hst6.pcs
        rw [hfull] at hpcs
        obtain ⟨Aq, Cq, rfl⟩ := own_form hpcs
        have HST6 := hid hst6
        clear hpcs hfull hst6 hog hte hnu HST HALL H6
        have u3 : w6.cell? ⟨s, 3, none⟩ = some (.slice Aq ps.length Cq) := blk_cell HST6.out.side rfl
        have ls6 := blk_lt HST6.out.side
        have hq := HLAST.out
        have hkk := hid (HK14.out.trans HST6.out.kept)
        go_wp2_with fail
        go_ret
        exact ⟨rfl, hkk.out.alloc _⟩
end Go.Proofs.Base
end
section
namespace Go.Proofs.Base
open Go Go.Proofs Go.RowKit Go.Proofs.Gaps
set_option maxRecDepth 100000
set_option maxHeartbeats 400000 in
theorem zzFits1None (A : Option Addr) (C : Nat) (w : World) : Calls Tryz.prog 4 #[.slice A 0 C] w fun e w' => e = .returned (.bool true) ∧ Kept [] w w' := by
  go_enter Tryz.func4, Tryz.ntmps4
  go_wp2_with fail
  refine wp_loop_rounds 2 ?_
  rw [rounds_succ]
  go_wp2_with fail
  go_ret
  exact ⟨rfl, Kept.refl [] w⟩
set_option maxHeartbeats 2000000 in
theorem FnToldNil (Am : Option Addr) (Cm first rl rc : Nat) (size : Int) (RA : Option Addr) (rA : Nat → Option Addr) (rL rC : Nat → Nat) (act : Nat → Nat → Int) (tu bi : Nat → Int) (lo : Nat → Bool) (w : World) (hR : RoundsGiven w rl RA rA rL rC act tu bi lo) :
    Calls Tryz.prog 3 #[.int .u32 first, .slice Am 0 Cm, .int .i64 size, .slice RA rl rc] w fun e w' => e = .returned (.bool true) ∧ Kept [] w w' := by
  have HR := hid hR
  clear hR
  go_enter Tryz.func3, Tryz.ntmps3
  go_wp2_with fail
  refine (zzFits1None Am Cm w).mono ?_
  rintro e w1 ⟨rfl, hk1⟩
  have H2 := hid (zzFits3Any rl rc RA rA rL rC tu bi lo w1 (HR.out.kept hk1).at')
  go_wp2_with fail
  refine H2.out.mono ?_
  rintro e w2 ⟨⟨c, rfl⟩, hk2⟩
  have hk12 := hk1.trans hk2
  clear H2
  cases c
  · go_wp2_with fail
    go_ret
    exact ⟨rfl, hk12⟩
  · go_wp2_with fail
    refine (isAskedNoMsg Am Cm size (.slice RA rl rc) w2).mono ?_
    rintro e w3 ⟨rfl, hk3⟩
    go_wp2_with fail
    go_ret
    exact ⟨rfl, hk12.trans hk3⟩
end Go.Proofs.Base
end
