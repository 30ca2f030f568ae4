/- Parts of the proof, steps H5, U20, U21, U22: what the code and the plain laws of these steps give. Made by AI agents; no person has read it. -/
import Derived.Test.YthphjbjehccomaaGreatDoorU19
import Derived.Test.YthphjbjehccomaaGreatDoorT29
import Derived.Laws.BytesArg
section
namespace Go.Proofs.Base
open Go Go.Proofs Go.RowKit Go.Proofs.Gaps
set_option maxRecDepth 100000
/-- The text of the piece at a place. -/
noncomputable def textOf (size len : Nat) (L : Nat → Nat) (TX : Nat → List Nat) (j : Nat) : List Nat :=
  open Classical in
  if h : ∃ mr : Nat × Nat, mr.1 < len ∧ mr.2 < cntP size (L mr.1) ∧ j = offP size L mr.1 + mr.2 + 1 then ((TX (Classical.choose h).1).drop ((Classical.choose h).2 * size)).take size else []
theorem textOf_at {size len : Nat} {L : Nat → Nat} {TX : Nat → List Nat} {m r : Nat} (hm : m < len) (hr : r < cntP size (L m)) : textOf size len L TX (offP size L m + r + 1) = ((TX m).drop (r * size)).take size := by
  have h : ∃ mr : Nat × Nat, mr.1 < len ∧ mr.2 < cntP size (L mr.1) ∧ offP size L m + r + 1 = offP size L mr.1 + mr.2 + 1 := ⟨(m, r), hm, hr, rfl⟩
  have hs := Classical.choose_spec h
  obtain ⟨e1, e2⟩ := place_inj (size := size) (L := L) hr hs.2.1 (by omega)
  unfold textOf
  rw [dif_pos h, ← e1, ← e2]
theorem beqCast (a b : Nat) : ((a : Int) == (b : Int)) = (a == b) := by
  rw [Bool.eq_iff_iff]; simp; omega
section
variable {first size len : Nat} {st L C ab ao : Nat → Nat} {TX : Nat → List Nat}
theorem piece_at (hs : 1 ≤ size) {m r : Nat} (hm : m < len) (hr : r < cntP size (L m)) : (allPieces first size len st L C ab ao len 0 (fun _ => 0) 0)[offP size L m + r]? = some (pieceAt first m (st m) (numP st (st m) m) (L m) (C m) (ab m) (ao m) (r * size) (min (r * size + size) (L m)) (offP size L m + r)) := by
  have h := allPieces_at (first := first) (size := size) (len := len) (st := st) (L := L) (C := C) (ab := ab) (ao := ao) hs len 0 (fun _ => 0) (by omega) (fun _ => rfl) m (by omega) hm r hr
  have e : offP size L 0 = 0 := rfl
  rw [e, Nat.sub_zero] at h
  exact h
theorem pieces_cnt (hs : 1 ≤ size) : (allPieces first size len st L C ab ao len 0 (fun _ => 0) 0).length = offP size L len := by
  have h := allPieces_cnt (first := first) (size := size) (len := len) (st := st) (L := L) (C := C) (ab := ab) (ao := ao) hs len 0 (fun _ => 0) 0 (by omega)
  have e : offP size L 0 = 0 := rfl
  omega
theorem dOf_at (hs : 1 ≤ size) {m r : Nat} (hm : m < len) (hr : r < cntP size (L m)) : dOf (allPieces first size len st L C ab ao len 0 (fun _ => 0) 0) (offP size L m + r + 1) = (pieceAt first m (st m) (numP st (st m) m) (L m) (C m) (ab m) (ao m) (r * size) (min (r * size + size) (L m)) (offP size L m + r)).d := by
  unfold dOf
  rw [Nat.add_sub_cancel, piece_at hs hm hr]
theorem cutsOf (hs : 1 ≤ size) (hlen : len ≤ 6) (h30 : (allPieces first size len st L C ab ao len 0 (fun _ => 0) 0).length ≤ 30) (htext : ∀ m, m < len → (TX m).length = L m ∧ 1 ≤ L m ∧ L m ≤ 200 ∧ st m ≤ 2) :
    Cuts (first + 4294967295) size len st L TX (dOf (allPieces first size len st L C ab ao len 0 (fun _ => 0) 0)) (textOf size len L TX) where
  size1 := hs
  len6 := hlen
  all := by rw [← pieces_cnt (first := first) (st := st) (C := C) (ab := ab) (ao := ao) hs]; exact h30
  text := htext
  at' := fun m r hm hr => by
    rw [dOf_at hs hm hr, textOf_at hm hr]
    refine ⟨?_, ?_, ?_, rfl, rfl, rfl, rfl⟩
    · exact beqCast (r * size) 0
    · exact beqCast _ _
    · show (first + (offP size L m + r)) % 4294967296 = _
      unfold tsn; omega
theorem sheafCuts {gp cp base : Nat} {w : World} (hs : 1 ≤ size) (hlen : len ≤ 6) (h30 : (allPieces first size len st L C ab ao len 0 (fun _ => 0) 0).length ≤ 30) (htext : ∀ m, m < len → (TX m).length = L m ∧ 1 ≤ L m ∧ L m ≤ 200 ∧ st m ≤ 2) (hB : ∀ m, m < len → BytesAt w (ab m) (ao m) (TX m))
    (ho : w.ownsRow base 41 9 (.slice (some ⟨gp, 0, none⟩) (allPieces first size len st L C ab ao len 0 (fun _ => 0) 0).length cp) (allPieces first size len st L C ab ao len 0 (fun _ => 0) 0).length (pcCells (allPieces first size len st L C ab ao len 0 (fun _ => 0) 0))) :
    Sheaf w gp (allPieces first size len st L C ab ao len 0 (fun _ => 0) 0).length (first + 4294967295) (dOf (allPieces first size len st L C ab ao len 0 (fun _ => 0) 0)) (textOf size len L TX) := by
  have hc := cutsOf (first := first) (C := C) (ab := ab) (ao := ao) hs hlen h30 htext
  refine sheafOf gp cp _ base _ _ w ho (fun q hq => ?_)
  have hq' := hq
  rw [pieces_cnt hs] at hq'
  obtain ⟨m, r, hm, hr, rfl⟩ := place_of hq'
  have hp := piece_at (first := first) (st := st) (C := C) (ab := ab) (ao := ao) hs hm hr
  rw [List.getElem?_eq_getElem hq] at hp
  have hp' := Option.some.inj hp
  have hl := hc.textLen hm hr
  have h1 := (cntP_iff hs).1 hr
  have h2 := htext m hm
  have hok := hc.okd hm hr
  have hts := (hc.at' m r hm hr).2.2.1
  rw [dOf_at hs hm hr, ← hp'] at hok hts
  refine ⟨?_, ?_, ?_, ?_, hok, hts⟩
  · rw [hl, hp']; show min size (L m - r * size) = min (r * size + size) (L m) - r * size; omega
  · rw [hp']; show 0 < min (r * size + size) (L m) - r * size; omega
  · rw [hp']; show min (r * size + size) (L m) - r * size ≤ 200; omega
  · rw [hp', textOf_at hm hr]
    exact ((hB m hm).drop (r * size)).take size
end
end Go.Proofs.Base
end
section
namespace Go.Proofs.Base
open Go Go.Proofs Go.RowKit Go.Proofs.Gaps
set_option maxRecDepth 100000
/-- What is known of the rounds that are given. -/
structure RoundsGiven (w : World) (rl : Nat) (RA : Option Addr) (A : Nat → Option Addr) (L C : Nat → Nat) (act : Nat → Nat → Int) (tu bi : Nat → Int) (lo : Nat → Bool) : Prop where
  at' : 0 < rl → ∃ rb ro, RA = some ⟨rb, ro, none⟩ ∧ RndsIn w rb ro rl A L C tu bi lo
  acts : ActsIn w rl A L C act
  b63 : ∀ i, i < rl → tu i < 9223372036854775808 ∧ bi i < 9223372036854775808
  l63 : (rl : Int) ≤ 9223372036854775807
theorem RoundsGiven.kept {w w' : World} {rl : Nat} {RA : Option Addr} {A : Nat → Option Addr} {L C : Nat → Nat} {act : Nat → Nat → Int} {tu bi : Nat → Int} {lo : Nat → Bool} (h : RoundsGiven w rl RA A L C act tu bi lo) (k : Kept [] w w') : RoundsGiven w' rl RA A L C act tu bi lo where
  at' := fun h0 => by obtain ⟨rb, ro, h1, h2⟩ := h.at' h0; exact ⟨rb, ro, h1, h2.kept k⟩
  acts := h.acts.kept k
  b63 := h.b63
  l63 := h.l63
/-- append of a piece to a row of the call's own, behind one other new block. -/
theorem dataBehind (B i : Nat) (Ao : Option Addr) (Co : Nat) (xs : List Value) (o1 : Obj) (d : Pd) (u : Value) (w : World) (hu : u.oneCell' = true) (hO : w.ownsRow B 41 9 (.slice Ao i Co) i xs) (hB : B ≤ w.heap.size) (hin : i < 1000) :
    ∃ g cap w6, (Builtin.append_ #[31, 31] 31 #[.slice Ao i Co, .slice (some ⟨w.heap.size + 1, 0, none⟩) 1 1]).run Tryz.prog ((w.alloc o1).alloc (.cells (dC d u) 41)) = .ok (.slice (some ⟨g, 0, none⟩) (i + 1) cap) w6 ∧
      w6.ownsRow B 41 9 (.slice (some ⟨g, 0, none⟩) (i + 1) cap) (i + 1) (xs ++ (dC d u).toList) ∧ Kept (own (.slice Ao i Co)) w w6 := by
  have hk5 : Kept [] w ((w.alloc o1).alloc (.cells (dC d u) 41)) := ((Kept.refl [] w).alloc _).alloc _
  have hnew := blk_new (w.alloc o1) (.cells (dC d u) 41)
  simp only [World.size_alloc] at hnew
  obtain ⟨g, cap, w6, hr, ho, hgr⟩ := appendOwnOne 31 41 9 56 i (w.heap.size + 1) 1 31 B (.agg zero32) (.slice Ao i Co) xs (dC d u) ((w.alloc o1).alloc (.cells (dC d u) 41)) Tryz.underlying31 i32 rfl (by omega) (by omega) (by omega) (ownsRow_kept hO hk5 (by simp))
    (Nat.le_trans hB hk5.size) rfl (dC_one d u hu) hnew
  exact ⟨g, cap, w6, hr, ho, (hk5.more (by simp)).trans (grown_kept hgr (by intro k hk; rw [own_mem]; exact hk))⟩
/-- append of one value to a row of the call's own, behind one other new block. -/
theorem oneBehind (t e by' B i : Nat) (z v : Value) (Ao : Option Addr) (Co : Nat) (xs : List Value) (o1 : Obj) (w : World) (ht : Tryz.prog.underlying t = some (.slice e)) (hi : (Tryz.prog.info? e).map (fun i => (i.zero, i.size, i.bytes)) = some (some z, 1, by')) (hz : z.cells.size = 1) (hby : by' ≤ 1000)
    (hO : w.ownsRow B e 1 (.slice Ao i Co) i xs) (hB : B ≤ w.heap.size) (hin : i < 1000) (h1 : v.oneCell' = true) :
    ∃ g cap w6, (Builtin.append_ #[t, t] t #[.slice Ao i Co, .slice (some ⟨w.heap.size + 1, 0, none⟩) 1 1]).run Tryz.prog ((w.alloc o1).alloc (.cells #[v] e)) = .ok (.slice (some ⟨g, 0, none⟩) (i + 1) cap) w6 ∧
      w6.ownsRow B e 1 (.slice (some ⟨g, 0, none⟩) (i + 1) cap) (i + 1) (xs ++ [v]) ∧ Kept (own (.slice Ao i Co)) w w6 := by
  have hk5 : Kept [] w ((w.alloc o1).alloc (.cells #[v] e)) := ((Kept.refl [] w).alloc _).alloc _
  have hnew := blk_new (w.alloc o1) (.cells #[v] e)
  simp only [World.size_alloc] at hnew
  obtain ⟨g, cap, w6, hr, ho, hk⟩ := appendOwnK t e by' i 1 (w.heap.size + 1) 1 t B z (.slice Ao i Co) xs [v] ((w.alloc o1).alloc (.cells #[v] e)) ht hi hz hby (by omega) (by decide) (by decide) (ownsRow_kept hO hk5 (by simp))
    (Nat.le_trans hB hk5.size) rfl (by intro u hu; simp at hu; subst hu; exact h1) hnew
  exact ⟨g, cap, w6, hr, ho, (hk5.more (by simp)).trans hk⟩
/-- What make([]int, n + 1) holds when the first i are set. -/
def szA (n i : Nat) : Array Value := ((List.range (n + 1)).map fun x => if x < i then Value.int .i64 4096 else .int .i64 0).toArray
theorem szA_get {n i x : Nat} (hx : x < n + 1) : (szA n i)[x]? = some (if x < i then Value.int .i64 4096 else .int .i64 0) := by simp [szA, hx]
theorem szA_set {n i : Nat} (hi : i < n + 1) : (szA n i).setIfInBounds i (.int .i64 4096) = szA n (i + 1) := by
  apply Array.ext_getElem?
  intro x
  rw [Array.getElem?_setIfInBounds]
  by_cases hx : x < n + 1
  · rw [szA_get hx, szA_get hx]
    by_cases e : i = x
    · subst e; simp [szA, hx]
    · rw [if_neg e]
      by_cases h2 : x < i
      · rw [if_pos h2, if_pos (by omega)]
      · rw [if_neg h2, if_neg (by omega)]
  · have e : i ≠ x := by omega
    rw [if_neg e]
    simp [szA, hx]
theorem makeInts (n : Nat) (hN : n ≤ 1000) (w : World) : (Instr.makeSlice 34 (.int .i64 ((n : Int) + 1)) (.int .i64 ((n : Int) + 1))).run Tryz.prog w = .ok (.slice (some ⟨w.heap.size, 0, none⟩) (n + 1) (n + 1)) (w.alloc (.cells (szA n 0) 3)) := by
  rw [show ((n : Int) + 1) = ((n + 1 : Nat) : Int) by omega, run_make_row' (P := Tryz.prog) 34 3 (.int .i64 0) 8 Tryz.underlying34 iInt rfl .i64 .i64 (n + 1) (by omega) (by omega) w]
  congr 3
  apply Array.ext'
  rw [toList_madeCells_one]
  simp [szA, List.map_const']
theorem alloc3' (w : World) (a b c : Obj) : (((w.alloc a).alloc b).alloc c).heap[w.heap.size]? = some a ∧ (((w.alloc a).alloc b).alloc c).heap[w.heap.size + 1]? = some b ∧ (((w.alloc a).alloc b).alloc c).heap[w.heap.size + 1 + 1]? = some c ∧ Kept [] w (((w.alloc a).alloc b).alloc c) := by
  have h1 := blk_new w a
  have h2 := blk_new (w.alloc a) b
  have h3 := blk_new ((w.alloc a).alloc b) c
  simp only [World.size_alloc] at h2 h3
  exact ⟨blk_alloc _ (blk_alloc _ h1), blk_alloc _ h2, h3, (((Kept.refl [] w).alloc _).alloc _).alloc _⟩
/-- The string of bytes. -/
def strOf (l : List Nat) : ByteArray := strOfNums (l.map fun x : Nat => (x : Int))
theorem convText (b o n cap : Nat) (l : List Nat) (w : World) (h : BytesAt w b o l) (hn : l.length = n) : (convert 39 9 (.slice (some ⟨b, o, none⟩) n cap)).run Tryz.prog w = .ok (.string (strOf l)) w :=
  run_convert_bytes_arg (P := Tryz.prog) w 39 5 Tryz.underlying39 Tryz.underlying5 b o n cap (l.map fun x : Nat => (x : Int)) (by simpa using hn) (fun i hi => by
    rw [h.cell i (by omega)]
    simp [bt, List.getD_eq_getElem?_getD, show i < l.length by omega]) 9 Tryz.underlying9
end Go.Proofs.Base
end
section
namespace Go.Proofs.Base
open Go Go.Proofs Go.RowKit Go.Proofs.Gaps
set_option maxRecDepth 100000
set_option maxHeartbeats 8000000 in
theorem FnWire (b off len cap first rl rc : Nat) (size : Int) (st : Nat → Int) (A : Nat → Option Addr) (L C : Nat → Nat) (RA : Option Addr) (rA : Nat → Option Addr) (rL rC : Nat → Nat) (act : Nat → Nat → Int) (tu bi : Nat → Int) (lo : Nat → Bool) (tt ta : Nat) (ev ea : Value) (w : World)
    (hf : first < 4294967296) (hM : MsgsIn w b off len st A L C) (hT : TextsAt len A L C) (hBy : ∀ i, i < len → 1 ≤ L i → ∀ b o, A i = some ⟨b, o, none⟩ → ∃ l : List Nat, l.length = L i ∧ BytesAt w b o l) (hl63 : (len : Int) ≤ 9223372036854775807) (hR : RoundsGiven w rl RA rA rL rC act tu bi lo) (hBr : Bruijn w)
    (hg : w.cell? ⟨13, 0, none⟩ = some (.iface tt ev)) (hga : w.cell? ⟨0, 0, none⟩ = some (.iface ta ea)) :
    Calls Tryz.prog 3 #[.int .u32 first, .slice (some ⟨b, off, none⟩) len cap, .int .i64 size, .slice RA rl rc] w fun e w' => e = .returned (.bool true) ∧ Kept [] w w' := by
  have HM := hid hM; have HT := hid hT; have HBy := hid hBy; have HG := hid hg; have HR := hid hR; have HBR := hid hBr; have HGA := hid hga
  have H1 := hid (zzFits1 b off len cap st A L C w hM)
  clear hM hT hBy hg hR hBr hga
  go_enter Tryz.func3, Tryz.ntmps3
  go_wp2_with fail
  refine H1.out.mono ?_
  rintro e w1 ⟨⟨c, rfl⟩, hk1⟩
  clear H1
  cases c
  · go_wp2_with fail
    go_ret
    exact ⟨rfl, hk1⟩
  · have H2 := hid (zzFits3Any rl rc RA rA rL rC tu bi lo w1 (HR.out.kept hk1).at')
    go_wp2_with fail
    refine H2.out.mono ?_
    rintro e w2 ⟨⟨c, rfl⟩, hk2⟩
    have hk12 := hk1.trans hk2
    clear H2
    cases c
    · go_wp2_with fail
      go_ret
      exact ⟨rfl, hk12⟩
    · have H3 := hid (isAsked b off len cap size st A L C (.slice RA rl rc) (Rounds rl rL act tu bi) w2 (HM.out.kept hk12) HT.out hl63 (fun wx hx => AreRoundsAny rl rc RA rA rL rC act tu bi lo wx (HR.out.kept (hk12.trans hx)).at' (HR.out.kept (hk12.trans hx)).acts HR.out.l63))
      go_wp2_with fail
      refine H3.out.mono ?_
      rintro e w3 ⟨⟨c, rfl, hc⟩, hk3⟩
      have hk13 := hk12.trans hk3
      have Hc := hid hc; clear hc H3
      cases c
      · go_wp2_with fail
        go_ret
        exact ⟨rfl, hk13⟩
      · obtain ⟨hmes, hrou, hs1, hs2, h30⟩ := Hc.out rfl
        have HMES := hid hmes; have HROU := hid hrou; clear hmes hrou Hc
        obtain ⟨sz, rfl⟩ : ∃ sz : Nat, size = sz := ⟨size.toNat, by omega⟩
        have H4 := hid (PiecesAny b off len cap first sz st A L C w3 (HM.out.kept hk13) HT.out HMES.out (by omega) (by omega))
        rw [Int.toNat_natCast, allPieces_len 1 first sz len (fun i => (st i).toNat) L C (abOf A) (aoOf A) len 0 (fun _ => 0) (fun _ => 0) 0 0] at h30
        have H30 := hid h30; clear h30
        go_wp2_with fail
        refine H4.out.mono ?_
        rintro e w4 ⟨vp, rfl, ho, hk4⟩
        clear H4
        generalize hsn : (fun i => (st i).toNat) = sn at *
        have hsn' : ∀ i, sn i = (st i).toNat := fun i => by rw [← hsn]
        have HSN := hid hsn'; clear hsn hsn'
        have hpos := allPieces_some (first := first) (size := sz) (st := sn) (C := C) (ab := abOf A) (ao := aoOf A) HMES.out.1 (HMES.out.2.2 0 (by have := HMES.out.1; omega)).2.2.1
        have hk14 := hk13.trans hk4
        have hAm : ∀ m, m < len → A m = some ⟨abOf A m, aoOf A m, none⟩ := fun m hm => by
          obtain ⟨bm, om, h⟩ := (HT.out m hm).2.2 ((HMES.out.2.2 m hm).2.2.1)
          simp [abOf, aoOf, h]
        obtain ⟨TX, hTX⟩ : ∃ TX : Nat → List Nat, ∀ m, m < len → (TX m).length = L m ∧ BytesAt w (abOf A m) (aoOf A m) (TX m) := by
          have h : ∀ m, ∃ l : List Nat, m < len → l.length = L m ∧ BytesAt w (abOf A m) (aoOf A m) l := fun m => by
            by_cases hm : m < len
            · obtain ⟨l, h1⟩ := HBy.out m hm ((HMES.out.2.2 m hm).2.2.1) _ _ (hAm m hm)
              exact ⟨l, fun _ => h1⟩
            · exact ⟨[], fun h => absurd h hm⟩
          obtain ⟨TX, h2⟩ := Classical.axiomOfChoice h
          exact ⟨TX, h2⟩
        have htext : ∀ m, m < len → (TX m).length = L m ∧ 1 ≤ L m ∧ L m ≤ 200 ∧ sn m ≤ 2 := fun m hm => by
          obtain ⟨a1, a2, a3, a4⟩ := HMES.out.2.2 m hm
          exact ⟨(hTX m hm).1, a3, a4, by have := HSN.out m; omega⟩
        obtain ⟨gp, cp, rfl, _, _⟩ := own_some ho (by omega)
        have hcuts := cutsOf (first := first) (size := sz) (st := sn) (C := C) (ab := abOf A) (ao := aoOf A) (TX := TX) (by omega) HMES.out.2.1 H30.out htext
        have hsh := sheafCuts (first := first) (size := sz) (st := sn) (C := C) (ab := abOf A) (ao := aoOf A) (TX := TX) (by omega) HMES.out.2.1 H30.out htext (fun m hm => (hTX m hm).2.kept hk14 (by simp)) ho
        have hcnt := pieces_cnt (first := first) (size := sz) (len := len) (st := sn) (L := L) (C := C) (ab := abOf A) (ao := aoOf A) (by omega)
        have h30 := H30.out
        clear H30 ho
        generalize allPieces first sz len sn L C (abOf A) (aoOf A) len 0 (fun _ => 0) 0 = ps at *
        generalize textOf sz len L TX = LS at *
        generalize dOf ps = D at *
        have hft : tsn (first + 4294967295) 1 = first := by unfold tsn; omega
        have hr4 := HR.out.kept hk14
        have lg := World.block_lt_of_cell? w _ HG.out
        have H5 := over gp ps.length cp (first + 4294967295) rl rc tt RA rA rL rC act tu bi lo D LS ev w4 hsh h30 hr4.at' hr4.acts HROU.out hr4.b63 (HBR.out.kept hk14 (by simp)) ((hk14.cell lg (by simp)).trans HG.out)
        rw [hft] at H5
        have HK14 := hid hk14
        have H5' := hid H5
        generalize first + 4294967295 = f at *
        have HCUTS := hid hcuts; have HCNT := hid hcnt; have HAM := hid hAm; have HTX := hid hTX
        clear hft hcuts hcnt hAm hTX htext hsh hr4 H5 hk14 hk13 hk12 hk4 hk3 hk2 hk1
        go_wp2_with fail
        refine H5'.out.mono ?_
        rintro e w5 ⟨s, rfl, m, js, ks, vn, vq, us, hst, hall, hj360⟩
        have hfull := hst.ki.full hall
        have hknd := hst.ki.nodup
        have hkmem : ∀ j, j ∈ ks ↔ 1 ≤ j ∧ j ≤ offP sz L len := fun j => by
          rw [hst.ki.mem]
          exact ⟨fun h => by have := hst.ki.all j h; have := HCNT.out; omega, fun h => hall j h.1 (by have := HCNT.out; omega)⟩
        have hpcs := hst.pcs
        obtain ⟨gq, cq, rfl, hcq1, hcq2⟩ := own_some hpcs (by omega)
        have hside := hst.side
        have HST := hid hst; have HKND := hid hknd; have HKM := hid hkmem; have HFULL := hid hfull; have HPCS := hid hpcs
        have lq5 := (hpcs.lt gq rfl).2
        have ls5 := blk_lt hside
        have u3 : w5.cell? ⟨s, 3, none⟩ = some (.slice (some ⟨gq, 0, none⟩) ks.length cq) := blk_cell hside rfl
        have hkl30 : ks.length ≤ 30 := by omega
        have hkl0 : 0 < ks.length := by omega
        have HK5 := hid (HK14.out.trans hst.kept)
        have HKK := hid (Kept.refl [] w5)
        clear hall hfull hknd hkmem hpcs hside H5' hst hcq2
        go_wp2_with fail
        go_loopw [11] (fun s11 wx => ∃ k : Nat, k ≤ 3 ∧ s11 = .int .i64 k ∧ Hid (Kept [] w5 wx)) (fun s11 _ => 3 - (intOf s11).toNat)
        case atStart => exact ⟨0, by omega, rfl, HKK⟩
        case round =>
          obtain ⟨k, hk, rfl, HK⟩ := hrel
          by_cases hlt : k < 3
          · have hlt' : (k : Int) < 3 := by omega
            have h0k : (0 : Int) ≤ (k : Int) := by omega
            have u3' := (HK.out.cell (p := ⟨s, 3, none⟩) ls5 (by simp)).trans u3
            have ls' := Nat.lt_of_lt_of_le ls5 HK.out.size
            obtain ⟨hb0, hb1, hb2, hkA⟩ := alloc3' wr (.cells #[] 41) (.cells #[] 39) (.cells #[] 3)
            have HB0 := hid hb0; have HB1 := hid hb1; have HB2 := hid hb2; have HKA := hid hkA
            have hu3 := (hkA.cell (p := ⟨s, 3, none⟩) ls' (by simp)).trans u3'
            have hlA := Nat.lt_of_lt_of_le ls' hkA.size
            clear hb0 hb1 hb2 hkA u3' ls'
            go_upto_region 12 with fail
            generalize ((wr.alloc _).alloc _).alloc _ = wA at *
            have HWB5 := hid HK.out.size
            generalize hBe : wr.heap.size = B at *
            have HP0 := hid (show wA.ownsRow B 41 9 (.slice (some ⟨B, 0, none⟩) 0 0) 0 [] from ⟨rfl, .inr ⟨B, 0, #[], rfl, Nat.le_refl _, HB0.out, Nat.le_refl _, by unfold maxLen; omega, rfl, rfl⟩⟩)
            have HW0 := hid (show wA.ownsRow B 39 1 (.slice (some ⟨B + 1, 0, none⟩) 0 0) 0 [] from ⟨rfl, .inr ⟨B + 1, 0, #[], rfl, by omega, HB1.out, Nat.le_refl _, by unfold maxLen; omega, rfl, rfl⟩⟩)
            have HQ0 := hid (show wA.ownsRow B 3 1 (.slice (some ⟨B + 1 + 1, 0, none⟩) 0 0) 0 [] from ⟨rfl, .inr ⟨B + 1 + 1, 0, #[], rfl, by omega, HB2.out, Nat.le_refl _, by unfold maxLen; omega, rfl, rfl⟩⟩)
            generalize hwb : wr = wb at *
            have HWB := hid hwb; have HBE := hid hBe
            clear hwb hBe HB0 HB1 HB2
            go_wp2_with fail
            clear hu3 hlA
            go_loopw [12, 63] (fun s12 s63 wx => ∃ (i : Nat) (Xs : List Nat) (us' : List (Nat × Nat)), i ≤ ks.length ∧ s63 = .int .i64 i ∧ Xs.length ≤ i ∧ Hid (Xs = (ks.take i).filter fun j => (D j).si == k) ∧ Hid (wx.ownsRow B 41 9 s12 Xs.length (gotCells D LS Xs us')) ∧ Hid (Got wx w4.heap.size LS Xs us') ∧
              Hid (wx.ownsRow B 39 1 (.slice (some ⟨B + 1, 0, none⟩) 0 0) 0 []) ∧ Hid (wx.ownsRow B 3 1 (.slice (some ⟨B + 1 + 1, 0, none⟩) 0 0) 0 []) ∧ Hid (Kept [] wb wx)) (fun _ s63 _ => ks.length - (intOf s63).toNat)
            case atStart => exact ⟨0, [], [], by omega, rfl, by simp, hid (by simp), HP0, hid ⟨rfl, fun i k u h => by simp at h⟩, HW0, HQ0, HKA⟩
            case round =>
              obtain ⟨i, Xs, us', hi, rfl, hxl, HX, HPx, HGx, HWx, HQx, HKx⟩ := hrel
              by_cases hil : i < ks.length
              · have hil' : (i : Int) < (ks.length : Int) := by omega
                have h0i : (0 : Int) ≤ (i : Int) := by omega
                have hiu : i < us.length := by rw [HST.out.got.len]; exact hil
                have hk5r := HK.out.trans HKx.out
                obtain ⟨hbb, hcap1, hcap2, hubase⟩ := HST.out.got.at' i ks[i] us[i] (List.getElem?_eq_getElem hil) (List.getElem?_eq_getElem hiu)
                have hcell : ∀ c v, (dC (D ks[i]) (.slice (some ⟨(us[i]).1, 0, none⟩) (LS ks[i]).length (us[i]).2)).toList[c]? = some v → c < 9 → wr.cell? ⟨gq, i * 9 + c, none⟩ = some v := fun c v hv hc => by
                  have h1 := HPCS.out.cells (g := gq) rfl (i * 9 + c) v ((gotCells_get D LS ks us i c hil hiu hc).trans hv)
                  rw [addr_add, Nat.zero_add] at h1
                  exact (hk5r.cell (p := ⟨gq, i * 9 + c, none⟩) lq5 (by simp)).trans h1
                have hti : ks.take (i + 1) = ks.take i ++ [ks[i]] := List.take_succ_eq_append_getElem hil
                have lqr := Nat.lt_of_lt_of_le lq5 hk5r.size
                have HTI := hid hti
                have hbb' := hbb.kept hk5r (by simp)
                generalize ks[i] = j at *
                generalize us[i] = u at *
                generalize hdj : D j = d at *
                obtain ⟨bg, en, tsn', si, ssn, ppi⟩ := d
                have HDJ := hid hdj
                have x0 := hcell 0 (.bool false) rfl (by omega)
                have x1 := hcell 1 (.bool bg) rfl (by omega)
                have x2 := hcell 2 (.bool en) rfl (by omega)
                have x3 := hcell 3 (.bool false) rfl (by omega)
                have x4 := hcell 4 (.int .u32 tsn') rfl (by omega)
                have x5 := hcell 5 (.int .i64 si) rfl (by omega)
                have x6 := hcell 6 (.int .i64 ssn) rfl (by omega)
                have x7 := hcell 7 (.int .u32 ppi) rfl (by omega)
                have x8 := hcell 8 (.slice (some ⟨u.1, 0, none⟩) (LS j).length u.2) rfl (by omega)
                rw [Nat.add_zero] at x0
                have HBB := hid hbb'; have HCAP := hid (And.intro hcap1 (And.intro hcap2 hubase))
                clear hcell hbb hbb' hk5r hti hdj hcap1 hcap2 hubase
                obtain ⟨Ap, Cp, hform⟩ := own_form HPx.out
                subst hform
                by_cases hsk : si = k
                · subst hsk
                  obtain ⟨g6, cap6, w6, hr6, ho6, hk6⟩ := dataBehind B Xs.length Ap Cp (gotCells D LS Xs us') (.cells (dC ⟨bg, en, tsn', si, ssn, ppi⟩ (.slice (some ⟨u.1, 0, none⟩) (LS j).length u.2)) 41) ⟨bg, en, tsn', si, ssn, ppi⟩ (.slice (some ⟨u.1, 0, none⟩) (LS j).length u.2) wr rfl HPx.out (by have := HKx.out.size; have := HBE.out; omega) (by omega)
                  have HO6 := hid ho6; have HK6 := hid hk6
                  clear ho6 hk6
                  unfold dC at hr6
                  dsimp only at hr6
                  go_wp2_with (at_builtin; refine wpList_append_run rfl _ _ 31 rfl _ _ _ rfl rfl hr6 ?_)
                  go_roundw
                  case rel =>
                    have hk6 := HK6.out
                    refine ⟨i + 1, Xs ++ [j], us' ++ [u], by omega, by go_num, by simp; omega, hid ?_, hid ?_, hid ?_, hid ?_, hid ?_, hid ?_⟩
                    · rw [HTI.out, List.filter_append, ← HX.out]
                      simp [HDJ.out]
                    · rw [gotCells_snoc D LS j u Xs us' HGx.out.len, List.length_append, HDJ.out]; exact HO6.out
                    · have hg6 := HGx.out.kept hk6 (fun g cs hg => own_far HPx.out hg (by decide))
                      obtain ⟨cs, hcs⟩ := HBB.out.2
                      exact hg6.snoc (HBB.out.kept hk6 (own_far HPx.out hcs (by decide))) HCAP.out.1 HCAP.out.2.1 HCAP.out.2.2
                    · exact ownsRow_kept HWx.out hk6 (own_apart HWx.out HPx.out (by decide))
                    · exact ownsRow_kept HQx.out hk6 (own_apart HQx.out HPx.out (by decide))
                    · exact HKx.out.thenNew hk6 (fun r hr => .inr (by have := own_ge HPx.out hr; have := HBE.out; omega))
                  case measure => simp [intOf]; omega
                · have hsk' : ¬ (si : Int) = (k : Int) := by omega
                  have HSK := hid hsk
                  clear hsk
                  go_wp2_with fail
                  go_roundw
                  case rel =>
                    refine ⟨i + 1, Xs, us', by omega, by go_num, by omega, hid ?_, hid (ownsRow_kept HPx.out ((Kept.refl [] wr).alloc _) (by simp)), hid (HGx.out.kept ((Kept.refl [] wr).alloc _) (by simp)), hid (ownsRow_kept HWx.out ((Kept.refl [] wr).alloc _) (by simp)), hid (ownsRow_kept HQx.out ((Kept.refl [] wr).alloc _) (by simp)), hid (HKx.out.alloc _)⟩
                    rw [HTI.out, List.filter_append, ← HX.out]
                    simp [HDJ.out, HSK.out]
                  case measure => simp [intOf]; omega
              · have hil' : ¬ (i : Int) < (ks.length : Int) := by omega
                have hie : i = ks.length := by omega
                subst hie
                have hX := HX.out
                rw [List.take_length] at hX
                have HXE := hid hX
                have hxl30 : Xs.length ≤ 30 := by omega
                obtain ⟨Ap, Cp, hform⟩ := own_form HPx.out
                subst hform
                have HZ1 := hid (show wr.ownsRow B 39 1 (.slice (some ⟨B + 1, 0, none⟩) 0 0) (numP sn k 0) (((msgsOf sn k 0).map fun m => Value.slice (A m) (L m) (C m))) from HWx.out)
                have HZ2 := hid (show wr.ownsRow B 3 1 (.slice (some ⟨B + 1 + 1, 0, none⟩) 0 0) (numP sn k 0) (i64s ((msgsOf sn k 0).map fun m => 50 + m)) from HQx.out)
                clear hX HX hxl HWx HQx hil hi
                go_wp2_with fail
                have hlen6 : len ≤ 6 := HMES.out.2.1
                go_loopw [13, 14, 78] (fun s13 s14 s78 wx => ∃ i : Nat, i ≤ len ∧ s78 = .int .i64 i ∧ Hid (wx.ownsRow B 39 1 s13 (numP sn k i) ((msgsOf sn k i).map fun m => Value.slice (A m) (L m) (C m))) ∧ Hid (wx.ownsRow B 3 1 s14 (numP sn k i) (i64s ((msgsOf sn k i).map fun m => 50 + m))) ∧
                  Hid (wx.ownsRow B 41 9 (.slice Ap Xs.length Cp) Xs.length (gotCells D LS Xs us')) ∧ Hid (Got wx w4.heap.size LS Xs us') ∧ Hid (Kept [] wb wx)) (fun _ _ s78 _ => len - (intOf s78).toNat)
                case atStart => exact ⟨0, by omega, rfl, HZ1, HZ2, HPx, HGx, HKx⟩
                case round =>
                  obtain ⟨i, hi, rfl, HWr, HQr, HPr, HGr, HKr⟩ := hrel
                  by_cases hil : i < len
                  · have hil' : (i : Int) < (len : Int) := by omega
                    have h0i : (0 : Int) ≤ (i : Int) := by omega
                    have hMr := HM.out.kept (((HK5.out.trans HK.out)).trans HKr.out)
                    have c0 := hMr.c0 i hil
                    have c1 := hMr.c1 i hil
                    have lbr := hMr.lt
                    have hsti : st i = (sn i : Int) := by have h1 := (HMES.out.2.2 i hil).1; have h2 := HSN.out i; omega
                    rw [hsti] at c0
                    have hnp := numP_le sn k i
                    have hms := msgsOf_succ sn k i
                    have hns : numP sn k (i + 1) = numP sn k i + if sn i = k then 1 else 0 := rfl
                    have e3 : IntKind.i64.wrap (50 + (i : Int)) = 50 + (i : Int) := by rw [IntKind.wrap_i64]; omega
                    have hBr : B ≤ wr.heap.size := by have := HKr.out.size; have := HBE.out; omega
                    obtain ⟨Aw, Cw, hf1⟩ := own_form HWr.out
                    obtain ⟨Aq, Cq, hf2⟩ := own_form HQr.out
                    subst hf1 hf2
                    clear hMr hsti
                    by_cases hsk : sn i = k
                    · rw [hsk] at c0
                      rw [if_pos hsk] at hms hns
                      have HMS := hid hms; have HNS := hid hns
                      clear hms hns hsk
                      obtain ⟨g6, p6, w6, hr6, ho6, hk6⟩ := oneBehind 33 39 24 B (numP sn k i) (.slice none 0 0) (.slice (A i) (L i) (C i)) Aw Cw _ (.cells #[.int .i64 (k : Nat), .slice (A i) (L i) (C i)] 43) wr Tryz.underlying33 i28 rfl (by decide) HWr.out hBr (by omega) rfl
                      have hkA7 : Kept [] w6 (w6.alloc (.cells #[.int .i64 (50 + (i : Int))] 3)) := (Kept.refl [] w6).alloc _
                      have hq6 := ownsRow_kept HQr.out hk6 (own_apart HQr.out HWr.out (by decide))
                      obtain ⟨g8, p8, w8, hr8, ho8, hk8⟩ := appendOwnK 34 3 8 (numP sn k i) 1 w6.heap.size 1 34 B (.int .i64 0) (.slice Aq (numP sn k i) Cq) _ [.int .i64 (50 + (i : Int))] (w6.alloc (.cells #[.int .i64 (50 + (i : Int))] 3)) Tryz.underlying34 iInt rfl (by decide) (by omega) (by decide) (by decide)
                        (ownsRow_kept hq6 hkA7 (by simp)) (by have := hkA7.size; have := hk6.size; omega) rfl (by intro u hu; simp at hu; subst hu; rfl) (blk_new w6 _)
                      have hk68 : Kept (own (.slice Aq (numP sn k i) Cq)) w6 w8 := (hkA7.more (by simp)).trans hk8
                      have HH := hid (And.intro hk6 (And.intro hk68 (And.intro hq6 (And.intro ho6 ho8))))
                      clear hk6 hk68 ho6 ho8 hkA7 hq6 hk8 hBr
                      go_wp2_with (at_builtin; first | (refine wpList_append_run rfl _ _ 33 rfl _ _ _ rfl rfl hr6 ?_) | (refine wpList_append_run rfl _ _ 34 rfl _ _ _ rfl rfl hr8 ?_))
                      go_roundw
                      case rel =>
                        obtain ⟨hk6, hk68, hq6, ho6, ho8⟩ := HH.out
                        have hp6 := ownsRow_kept HPr.out hk6 (own_apart HPr.out HWr.out (by decide))
                        have hg6 := HGr.out.kept hk6 (fun g cs hg => own_far HWr.out hg (by decide))
                        refine ⟨i + 1, by omega, by go_num, hid ?_, hid ?_, hid (ownsRow_kept hp6 hk68 (own_apart hp6 hq6 (by decide))), hid (hg6.kept hk68 (fun g cs hg => own_far hq6 hg (by decide))), hid ?_⟩
                        · rw [HNS.out, HMS.out, List.map_append]
                          exact ownsRow_kept ho6 hk68 (own_apart ho6 hq6 (by decide))
                        · rw [HNS.out, HMS.out, List.map_append, i64s_append]
                          exact ho8
                        · exact (HKr.out.thenNew hk6 (fun r hr => .inr (by have := own_ge HWr.out hr; have := HBE.out; omega))).thenNew hk68 (fun r hr => .inr (by have := own_ge hq6 hr; have := HBE.out; omega))
                      case measure => simp [intOf]; omega
                    · have hsk' : ¬ (sn i : Int) = (k : Int) := by omega
                      rw [if_neg hsk] at hms hns
                      rw [List.append_nil] at hms
                      rw [Nat.add_zero] at hns
                      have HMS := hid hms; have HNS := hid hns
                      clear hms hns hsk e3
                      go_wp2_with fail
                      go_roundw
                      case rel =>
                        refine ⟨i + 1, by omega, by go_num, hid ?_, hid ?_, hid (ownsRow_kept HPr.out ((Kept.refl [] wr).alloc _) (by simp)), hid (HGr.out.kept ((Kept.refl [] wr).alloc _) (by simp)), hid (HKr.out.alloc _)⟩
                        · rw [HNS.out, HMS.out]; exact ownsRow_kept HWr.out ((Kept.refl [] wr).alloc _) (by simp)
                        · rw [HNS.out, HMS.out]; exact ownsRow_kept HQr.out ((Kept.refl [] wr).alloc _) (by simp)
                      case measure => simp [intOf]; omega
                  · have hil' : ¬ (i : Int) < (len : Int) := by omega
                    have hie : len = i := by omega
                    subst hie
                    obtain ⟨Aw, Cw, hf1⟩ := own_form HWr.out
                    obtain ⟨Aq, Cq, hf2⟩ := own_form HQr.out
                    subst hf1 hf2
                    have hnp := numP_le sn k len
                    rcases Nat.eq_zero_or_pos (numP sn k len) with h0 | hpos
                    · have hxe : Xs = [] := by rw [HXE.out]; exact HCUTS.out.none HKM.out h0
                      subst hxe
                      rw [h0]
                      clear h0 hnp
                      go_wp2_with fail
                      go_roundw
                      case rel => exact ⟨k + 1, by omega, by go_num, hid (HK.out.trans HKr.out)⟩
                      case measure => simp [intOf]; omega
                    · have hplan := HCUTS.out.plan (s := k) (by omega) HKND.out HKM.out hpos
                      rw [← HXE.out] at hplan
                      have hMx : ∀ x, x < numP sn k len → (msgsOf sn k len)[x]? = some ((msgsOf sn k len).getD x 0) ∧ (msgsOf sn k len).getD x 0 < len := fun x hx => by
                        have hl := msgsOf_len sn k len
                        have h1 : (msgsOf sn k len)[x]? = some ((msgsOf sn k len).getD x 0) := by rw [List.getD_eq_getElem?_getD, List.getElem?_eq_getElem (by omega)]; rfl
                        exact ⟨h1, (msgsOf_get h1).1⟩
                      have HPL := hid hplan; have HMX := hid hMx
                      clear hplan hMx
                      generalize numP sn k len = nk at *
                      generalize msgsOf sn k len = ML at *
                      have hxp := HPL.out.pos
                      have hnk0 : ¬ (nk : Int) = 0 := by omega
                      obtain ⟨gx, cx, hv, hcx1, -⟩ := own_some HPr.out (by omega)
                      simp only [Value.slice.injEq, true_and] at hv
                      obtain ⟨rfl, rfl⟩ := hv
                      obtain ⟨gw, cw, hv, hcw1, -⟩ := own_some HWr.out (by omega)
                      simp only [Value.slice.injEq, true_and] at hv
                      obtain ⟨rfl, rfl⟩ := hv
                      obtain ⟨gr, cr, hv, hcr1, -⟩ := own_some HQr.out (by omega)
                      simp only [Value.slice.injEq, true_and] at hv
                      obtain ⟨rfl, rfl⟩ := hv
                      have hmk := makeInts nk (by omega) wr
                      have HZ := hid (blk_new wr (.cells (szA nk 0) 3))
                      have HKZ := hid (show Kept [] wr (wr.alloc (.cells (szA nk 0) 3)) from (Kept.refl [] wr).alloc _)
                      go_wp2_with fail
                      generalize wr.alloc _ = wz at *
                      generalize hZe : wr.heap.size = Z at *
                      have HZE := hid hZe
                      have HKZ0 := hid (Kept.refl [Z] wz)
                      clear hZe hmk
                      go_loopw [110] (fun s110 wx => ∃ i : Nat, i ≤ nk + 1 ∧ s110 = .int .i64 i ∧ Hid (wx.heap[Z]? = some (.cells (szA nk i) 3 (0, 0))) ∧ Hid (Kept [Z] wz wx)) (fun s110 _ => nk + 1 - (intOf s110).toNat)
                      case atStart => exact ⟨0, by omega, rfl, HZ, HKZ0⟩
                      case round =>
                        obtain ⟨i, hi, rfl, HZi, HKi⟩ := hrel
                        by_cases hil : i < nk + 1
                        · have hil' : (i : Int) < ((nk + 1 : Nat) : Int) := by omega
                          have hil'' : (i : Int) < (nk : Int) + 1 := by omega
                          have h0i : (0 : Int) ≤ (i : Int) := by omega
                          have zc : wr.cell? ⟨Z, i, none⟩ = some (if i < i then Value.int .i64 4096 else .int .i64 0) := blk_cell HZi.out (szA_get hil)
                          rw [if_neg (by omega)] at zc
                          have zf : wr.frozen? ⟨Z, i, none⟩ = false := blk_free HZi.out
                          have lz := blk_lt HZi.out
                          have hset := blk_setCell (i := i) (.int .i64 4096) HZi.out
                          rw [szA_set hil] at hset
                          have HSET := hid hset
                          clear hset
                          go_wp2_with fail
                          go_roundw
                          case rel => exact ⟨i + 1, by omega, by go_num, HSET, hid (HKi.out.setCell (p := ⟨Z, i, none⟩) _ (.inl (by simp)))⟩
                          case measure => simp [intOf]; omega
                        · have hil' : ¬ (i : Int) < ((nk + 1 : Nat) : Int) := by omega
                          have hil'' : ¬ (i : Int) < (nk : Int) + 1 := by omega
                          have hie : nk + 1 = i := by omega
                          subst hie
                          have hkz := HKZ.out.thenNew HKi.out (fun r hr => .inr (by rw [List.mem_singleton.1 hr]; exact Nat.le_of_eq HZE.out))
                          have hkr := HK.out.trans (HKr.out.trans hkz)
                          have hkall := HK5.out.trans hkr
                          have hsz : ∀ x, x < nk + 1 → wr.cell? ⟨Z, x, none⟩ = some (.int .i64 4096) := fun x hx => by
                            have h := blk_cell HZi.out (szA_get (i := nk + 1) hx)
                            rwa [if_pos hx] at h
                          have lga := World.block_lt_of_cell? w _ HGA.out
                          have HRE := hid (Reassemble wr B w4.heap.size gx Cp Z (nk + 1) f k nk D LS Xs us' _ _ _ ta ea HPL.out (ownsRow_kept HPr.out hkz (by simp)) (HGr.out.kept hkz (by simp)) hsz ((hkall.cell (p := ⟨0, 0, none⟩) lga (by simp)).trans HGA.out))
                          have HWz := hid (ownsRow_kept HWr.out hkz (by simp))
                          have HQz := hid (ownsRow_kept HQr.out hkz (by simp))
                          have HKz := hid hkr
                          clear hkz hkr hkall hsz
                          go_wp2_with fail
                          refine HRE.out.mono ?_
                          rintro e w7 ⟨⟨ov, pv, bs, cs, rfl, hRI⟩, hk7⟩
                          obtain ⟨go, co, hov, hco1, -⟩ := own_some hRI.out (by omega)
                          obtain ⟨gn, cn, hpv, hcn1, -⟩ := own_some hRI.nums (by omega)
                          subst hov hpv
                          have cgn := hRI.out.cells (g := go) rfl nk (.slice none 0 0) (by simp)
                          rw [addr_add, Nat.zero_add] at cgn
                          have lgo := (hRI.out.lt go rfl).2
                          have lgn := (hRI.nums.lt gn rfl).2
                          have hw7 := ownsRow_kept HWz.out hk7 (by simp)
                          have hq7 := ownsRow_kept HQz.out hk7 (by simp)
                          have lgw := (hw7.lt gw rfl).2
                          have lgr := (hq7.lt gr rfl).2
                          have HW7 := hid hw7; have HQ7 := hid hq7; have HRI := hid hRI
                          have HK7 := hid (HKz.out.trans hk7)
                          have HK77 := hid (Kept.refl [] w7)
                          clear hw7 hq7 hRI hk7 HRE
                          have hnk1 : ((nk : Nat) : Int) < ((nk + 1 : Nat) : Int) := by omega
                          have hnk2 : (nk : Int) < (nk : Int) + 1 := by omega
                          have hnk3 : (0 : Int) ≤ (nk : Int) := by omega
                          go_wp2_with fail
                          clear cgn hnk1 hnk2 hnk3
                          go_loopw [151] (fun s151 wx => ∃ i : Nat, i ≤ nk ∧ s151 = .int .i64 i ∧ Hid (Kept [] w7 wx)) (fun s151 _ => nk - (intOf s151).toNat)
                          case atStart => exact ⟨0, by omega, rfl, HK77⟩
                          case round =>
                            obtain ⟨i, hi, rfl, HKf⟩ := hrel
                            by_cases hil : i < nk
                            · have hil' : (i : Int) < (nk : Int) := by omega
                              have hil2 : (i : Int) < ((nk + 1 : Nat) : Int) := by omega
                              have hil3 : (i : Int) < (nk : Int) + 1 := by omega
                              have h0i : (0 : Int) ≤ (i : Int) := by omega
                              obtain ⟨hML, hmlt⟩ := HMX.out i hil
                              have cgo := HRI.out.out.cells (g := go) rfl i (.slice (some ⟨bs i, 0, none⟩) (TX (ML.getD i 0)).length (cs i)) (by simp [hil, show i < nk + 1 by omega])
                              have cgn := HRI.out.nums.cells (g := gn) rfl i (.int .i64 ((50 + ML.getD i 0 : Nat) : Int)) (by simp [i64s, hil, show i < nk + 1 by omega])
                              have cgw := HW7.out.cells (g := gw) rfl i (.slice (A (ML.getD i 0)) (L (ML.getD i 0)) (C (ML.getD i 0))) (by rw [List.getElem?_map, hML]; rfl)
                              have cgr := HQ7.out.cells (g := gr) rfl i (.int .i64 ((50 + ML.getD i 0 : Nat) : Int)) (by rw [i64s, List.getElem?_map, List.getElem?_map, hML]; rfl)
                              rw [addr_add, Nat.zero_add] at cgo cgn cgw cgr
                              obtain ⟨-, hbi, -, -⟩ := HRI.out.text i (by omega) hil
                              have htx := HTX.out _ hmlt
                              rw [HAM.out _ hmlt, ← htx.1] at cgw
                              have hbi' := (hbi.kept HKf.out (by simp)).1
                              have hbm' := htx.2.kept (HK5.out.trans (HK7.out.trans HKf.out)) (by simp)
                              have cv1 : ∀ q, (convert 39 9 (.slice (some ⟨bs i, 0, none⟩) (TX (ML.getD i 0)).length (cs i))).run Tryz.prog (wr.drewN q) = .ok (.string (strOf (TX (ML.getD i 0)))) (wr.drewN q) := fun q => convText _ _ _ _ _ _ (hbi'.kept ((Kept.refl [] wr).drewN q) (by simp)) rfl
                              have cv2 : ∀ q, (convert 39 9 (.slice (some ⟨abOf A (ML.getD i 0), aoOf A (ML.getD i 0), none⟩) (TX (ML.getD i 0)).length (C (ML.getD i 0)))).run Tryz.prog (wr.drewN q) = .ok (.string (strOf (TX (ML.getD i 0)))) (wr.drewN q) := fun q => convText _ _ _ _ _ _ (hbm'.kept ((Kept.refl [] wr).drewN q) (by simp)) rfl
                              have hcell := fun (p : Addr) (v : Value) (hl : p.block < w7.heap.size) (hv : w7.cell? p = some v) => (HKf.out.cell (p := p) hl (by simp)).trans hv
                              have dgo := hcell _ _ lgo cgo; have dgn := hcell _ _ lgn cgn; have dgw := hcell _ _ lgw cgw; have dgr := hcell _ _ lgr cgr
                              have lgo' := Nat.lt_of_lt_of_le lgo HKf.out.size; have lgn' := Nat.lt_of_lt_of_le lgn HKf.out.size; have lgw' := Nat.lt_of_lt_of_le lgw HKf.out.size; have lgr' := Nat.lt_of_lt_of_le lgr HKf.out.size
                              clear hcell hbi hbi' hbm' htx cgo cgn cgw cgr hML hmlt
                              generalize hSe : strOf (TX (ML.getD i 0)) = S at *
                              generalize (TX (ML.getD i 0)).length = tl at *
                              generalize abOf A (ML.getD i 0) = ab at *
                              generalize aoOf A (ML.getD i 0) = ao at *
                              generalize C (ML.getD i 0) = ccp at *
                              generalize (50 + ML.getD i 0) = pn at *
                              clear hSe
                              go_wp2_with fail
                              go_quiet (fail)
                              go_wp2_with fail
                              go_roundw
                              case rel => exact ⟨i + 1, by omega, by go_num, hid (HKf.out.drewN _)⟩
                              case measure => simp [intOf]; omega
                            · have hil' : ¬ (i : Int) < (nk : Int) := by omega
                              go_wp2_with fail
                              go_roundw
                              case rel => exact ⟨k + 1, by omega, by go_num, hid (HK7.out.trans HKf.out)⟩
                              case measure => simp [intOf]; omega
          · have hlt' : ¬ (k : Int) < 3 := by omega
            go_wp2_with fail
            go_ret
            exact ⟨rfl, HK5.out.trans HK.out⟩
end Go.Proofs.Base
end
section
namespace Go.Proofs.Base
open Go Go.Proofs Go.RowKit Go.Proofs.Gaps
set_option maxRecDepth 100000
set_option maxHeartbeats 400000 in
theorem zzFits1None (A : Option Addr) (C : Nat) (w : World) : Calls Tryz.prog 4 #[.slice A 0 C] w fun e w' => e = .returned (.bool true) ∧ Kept [] w w' := by
  go_enter Tryz.func4, Tryz.ntmps4
  go_wp2_with fail
  refine wp_loop_rounds 2 ?_
  rw [rounds_succ]
  go_wp2_with fail
  go_ret
  exact ⟨rfl, Kept.refl [] w⟩
set_option maxHeartbeats 2000000 in
theorem FnWireNil (Am : Option Addr) (Cm first rl rc : Nat) (size : Int) (RA : Option Addr) (rA : Nat → Option Addr) (rL rC : Nat → Nat) (act : Nat → Nat → Int) (tu bi : Nat → Int) (lo : Nat → Bool) (w : World) (hR : RoundsGiven w rl RA rA rL rC act tu bi lo) :
    Calls Tryz.prog 3 #[.int .u32 first, .slice Am 0 Cm, .int .i64 size, .slice RA rl rc] w fun e w' => e = .returned (.bool true) ∧ Kept [] w w' := by
  have HR := hid hR
  clear hR
  go_enter Tryz.func3, Tryz.ntmps3
  go_wp2_with fail
  refine (zzFits1None Am Cm w).mono ?_
  rintro e w1 ⟨rfl, hk1⟩
  have H2 := hid (zzFits3Any rl rc RA rA rL rC tu bi lo w1 (HR.out.kept hk1).at')
  go_wp2_with fail
  refine H2.out.mono ?_
  rintro e w2 ⟨⟨c, rfl⟩, hk2⟩
  have hk12 := hk1.trans hk2
  clear H2
  cases c
  · go_wp2_with fail
    go_ret
    exact ⟨rfl, hk12⟩
  · go_wp2_with fail
    refine (isAskedNoMsg Am Cm size (.slice RA rl rc) w2).mono ?_
    rintro e w3 ⟨rfl, hk3⟩
    go_wp2_with fail
    go_ret
    exact ⟨rfl, hk12.trans hk3⟩
end Go.Proofs.Base
end
