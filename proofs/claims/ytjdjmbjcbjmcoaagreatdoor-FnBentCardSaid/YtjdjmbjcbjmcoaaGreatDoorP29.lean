/- A part of the proof, step P29: what the code and the plain laws of this step give. Made by AI agents; no person has read it. -/
import Derived.Test.YtjdjmbjcbjmcoaaGreatDoorP28
namespace Go.Proofs.Base
open Go Go.Proofs Go.RowKit
/-- The texts that lie somewhere are bytes. -/
def BytesIn (w : World) (len : Nat) (A : Nat → Option Addr) (L : Nat → Nat) : Prop := ∀ i, i < len → 1 ≤ L i → ∀ b o, A i = some ⟨b, o, none⟩ → ∃ l : List Nat, l.length = L i ∧ BytesAt w b o l
theorem makeMapRun (w : World) : (Instr.makeMap 34 none).run Tryz.prog w = .ok (.map (some w.heap.size)) (w.alloc (.map #[] 0)) := by kernel_rfl
set_option maxRecDepth 100000 in
set_option maxHeartbeats 2000000 in
theorem FnBent (b off len cap first : Nat) (size nn at' : Int) (st : Nat → Int) (A : Nat → Option Addr) (L C : Nat → Nat) (tt : Nat) (ev : Value) (w : World) (hM : MsgsIn w b off len st A L C) (hT : TextsAt len A L C) (hBy : BytesIn w len A L) (hl63 : (len : Int) ≤ 9223372036854775807)
    (hg : w.cell? ⟨7, 0, none⟩ = some (.iface tt ev)) (hnn : nn < 9223372036854775808) (hat : at' < 9223372036854775808) :
    Calls Tryz.prog 3 #[.int .u32 first, .slice (some ⟨b, off, none⟩) len cap, .int .i64 size, .int .i64 nn, .int .i64 at'] w fun e w' => e = .returned (.bool true) ∧ Kept [] w w' := by
  have HM := hid hM; have HT := hid hT; have HBy := hid hBy; have HG := hid hg
  have lg : 7 < w.heap.size := World.block_lt_of_cell? w _ hg
  have H1 := hid (zzFits1 b off len cap st A L C w hM)
  clear hM hT hBy hg
  go_enter Tryz.func3, Tryz.ntmps3
  go_wp2_with fail
  refine H1.out.mono ?_
  rintro e w1 ⟨⟨c, rfl⟩, hk1⟩
  clear H1
  cases c
  · go_wp2_with fail
    go_ret
    exact ⟨rfl, hk1⟩
  · have H2 := hid (isAskedNil b off len cap size st A L C w1 (HM.out.kept hk1) HT.out hl63)
    go_wp2_with fail
    refine H2.out.mono ?_
    rintro e w2 ⟨⟨c, rfl, hc⟩, hk2⟩
    have hk12 := hk1.trans hk2
    have Hc := hid hc; clear hc H2
    cases c
    · go_wp2_with fail
      go_ret
      exact ⟨rfl, hk12⟩
    · obtain ⟨hmes, hs1, hs2⟩ := Hc.out rfl
      have HMES := hid hmes; clear hmes Hc
      by_cases n0 : nn < 0
      · go_wp2_with fail
        go_ret
        exact ⟨rfl, hk12⟩
      · by_cases a0 : at' < 0
        · go_wp2_with fail
          go_ret
          exact ⟨rfl, hk12⟩
        · obtain ⟨sz, rfl⟩ : ∃ sz : Nat, size = sz := ⟨size.toNat, by omega⟩
          have H3 := hid (PiecesAny b off len cap first sz st A L C w2 (HM.out.kept hk12) HT.out HMES.out (by omega) (by omega))
          go_wp2_with fail
          refine H3.out.mono ?_
          rintro e w3 ⟨vp, rfl, ho, hk3⟩
          clear H3
          obtain ⟨nj, rfl⟩ : ∃ nj : Nat, nn = nj := ⟨nn.toNat, by omega⟩
          obtain ⟨a, rfl⟩ : ∃ a : Nat, at' = a := ⟨at'.toNat, by omega⟩
          have HA := hid (show a < 9223372036854775808 by omega)
          clear hnn hat n0 a0
          have hpos := allPieces_some (first := first) (size := sz) (st := fun i => (st i).toNat) (C := C) (ab := abOf A) (ao := aoOf A) HMES.out.1 (HMES.out.2.2 0 (by have := HMES.out.1; omega)).2.2.1
          have hprop := allPieces_prop (first := first) (C := C) (ab := abOf A) (ao := aoOf A) (st := fun i => (st i).toNat) (show 1 ≤ sz by omega) HMES.out.2.1 (fun i hi => (HMES.out.2.2 i hi).2.2.2) (fun i hi => by have h := HMES.out.2.2 i hi; have := h.2.1; show (st i).toNat ≤ 2; omega) len 0 (fun _ => 0) 0 (fun _ => Nat.le_refl _)
          generalize allPieces first sz len (fun i => (st i).toNat) L C (abOf A) (aoOf A) len 0 (fun _ => 0) 0 = ps at *
          have hjlt : nj % ps.length < ps.length := Nat.mod_lt _ hpos
          have hji : (nj : Int) % (ps.length : Int) = ((nj % ps.length : Nat) : Int) := by simp
          generalize nj % ps.length = j at *
          obtain ⟨m, k, hm, hkn, hn0, hpb, hpo, hpc, hdok⟩ := hprop ps[j] (List.getElem_mem hjlt)
          rcases ho.2 with ⟨rfl, h0⟩ | ⟨gp, capp, curp, rfl, _, hgp, hcapp, hcapm, _, _⟩
          · omega
          have hcell := fun c (hc : c < 9) v (hv : (dC ps[j].d ps[j].user).toList[c]? = some v) => ho.cells (g := gp) rfl (j * 9 + c) v ((pcCells_get ps j c hjlt hc).trans hv)
          have q0 := hcell 0 (by omega) _ rfl
          have q1 := hcell 1 (by omega) _ rfl
          have q2 := hcell 2 (by omega) _ rfl
          have q3 := hcell 3 (by omega) _ rfl
          have q4 := hcell 4 (by omega) _ rfl
          have q5 := hcell 5 (by omega) _ rfl
          have q6 := hcell 6 (by omega) _ rfl
          have q7 := hcell 7 (by omega) _ rfl
          have q8 := hcell 8 (by omega) _ rfl
          rw [addr_add, Nat.zero_add, Nat.add_zero] at q0
          rw [addr_add, Nat.zero_add] at q1 q2 q3 q4 q5 q6 q7 q8
          clear hcell
          obtain ⟨bm, om, hAm⟩ := (HT.out m hm).2.2 (by omega)
          obtain ⟨lm, hlm, hby⟩ := HBy.out m hm (by omega) bm om hAm
          have hab : abOf A m = bm := by simp [abOf, hAm]
          have hao : aoOf A m = om := by simp [aoOf, hAm]
          rw [hab] at hpb; rw [hao] at hpo
          have hk13 := hk12.trans hk3
          have hbp : BytesAt w3 ps[j].b ps[j].o ((lm.drop k).take ps[j].n) := by rw [hpb, hpo]; exact ((hby.kept hk13 (by simp)).drop k).take ps[j].n
          have hlp : ((lm.drop k).take ps[j].n).length = ps[j].n := by simp [hlm]; omega
          have hn200 : ps[j].n ≤ 200 := by have := (HMES.out.2.2 m hm).2.2.2; omega
          generalize hp : ps[j] = p at *
          generalize (lm.drop k).take p.n = l at *
          have HL := hid hlp; have HBP := hid hbp; have HD := hid hdok
          clear hprop hp hpb hpo hpc hdok hlp hbp hby ho hgp
          have hp1 : ¬ (ps.length : Int) = 0 := by omega
          have hp2 : ¬ ps.length = 0 := by omega
          have j0 : (0 : Int) ≤ (j : Int) := by omega
          have j1 : (j : Int) < (ps.length : Int) := by omega
          have lgp := World.block_lt_of_cell? w3 _ q0
          simp only [Pc.user] at q8
          have H4 := hid (sent p.d p.b p.o p.n p.cap l w3 HD.out HBP.out HL.out hn0 (by omega))
          unfold dC at H4
          go_wp2_with fail
          refine H4.out.mono ?_
          rintro e w4 ⟨g4, cap4, rfl, hb4, hc4, hc4', hg4, hk4⟩
          clear q0 q1 q2 q3 q4 q5 q6 q7 q8 H4
          have HB4 := hid hb4; clear hb4
          have hmk := makeMapRun w4
          go_wp2_with fail
          generalize hW : World.alloc _ _ = w5
          have hS5 : w5.heap[w4.heap.size + 1]? = some (.cells (sideC first (.slice none 0 0) w4.heap.size (.slice none 0 0)) 37 (0, 0)) := by
            rw [← hW]
            have h := blk_new (w4.alloc (.map #[] 0)) (.cells (sideC first (.slice none 0 0) w4.heap.size (.slice none 0 0)) 37)
            simp only [World.size_alloc] at h
            exact h
          have hM5 : w5.heap[w4.heap.size]? = some (.map (metE []) ([] : List Nat).length) := by rw [← hW]; exact blk_alloc _ (blk_new w4 _)
          have hk45 : Kept [] w4 w5 := by rw [← hW]; exact ((Kept.refl [] w4).alloc _).alloc _
          clear hW hmk
          have hk15 := (hk13.trans hk4).trans hk45
          have hlen := len_packetOf 5000 5001 7 (dataBytes p.d l)
          rw [len_dataBytes, HL.out] at hlen
          have hpd := padN_lt (16 + p.n)
          have hsm := small_packetOf (sp := 5000) (dp := 5001) (tag := 7) (by decide) (by decide) (by decide) (small_dataBytes p.d l HD.out HBP.out.small (by rw [HL.out]; omega))
          have hb5 : BytesAt w5 g4 0 (packetOf 5000 5001 7 (dataBytes p.d l)) := HB4.out.kept hk45 (by simp)
          have HBENT := hid (fun s => comes_bent s g4 0 (12 + (16 + p.n) + padN (16 + p.n)) cap4 a (packetOf 5000 5001 7 (dataBytes p.d l)) tt ev w5 hb5 hlen (by omega) (by omega) ((hk15.cell lg (by simp)).trans HG.out) HA.out
            (fun i v hi hv hne => turned _ hsm (sum_read 5000 5001 7 (dataBytes p.d l)) i v (by rw [hlen]; exact hi) hv hne))
          have HH := hid hk15; have HS5 := hid hS5; have HM5 := hid hM5; have HB5 := hid hb5; have HLEN := hid hlen
          have hs45 := hk45.size
          clear hk15 hS5 hM5 hb5 hsm hk45 hlen
          generalize hH4 : w4.heap.size = H at *
          refine (HBENT.out (H + 1)).mono ?_
          rintro e w6 ⟨rfl, hk6⟩
          have hS6 := (hk6.block (H + 1) (blk_lt HS5.out) (by simp)).trans HS5.out
          have hM6 := (hk6.block H (blk_lt HM5.out) (by simp)).trans HM5.out
          have HOK := hid (comes_ok (H + 1) H first g4 0 p.n cap4 (12 + (16 + p.n) + padN (16 + p.n)) w6.heap.size 0 (.slice none 0 0) (.slice none 0 0) [] [] [] p.d l (packetOf 5000 5001 7 (dataBytes p.d l)) w6 HD.out HLEN.out (by omega) (by omega)
            (packsD p.n 5000 5001 7 p.d l HD.out HL.out hn0 (by omega) (by decide) (by decide)) (HB5.out.kept hk6 (by simp)) HL.out hn0 (by omega) HBP.out.small hS6 hM6 (World.ownsRow_nil _ _ _ _) (World.ownsRow_nil _ _ _ _) (Nat.le_refl _) (by simp) (by omega))
          have HH6 := hid (HH.out.trans hk6)
          clear hS6 hM6 hk6 HBENT HS5 HM5 HB5 HH
          go_wp2_with fail
          refine HOK.out.mono ?_
          rintro e w7 ⟨rfl, vn', vp', g7, cap7, hS7, _, _, hnot, _, _, _, _, hk7⟩
          obtain ⟨_, hvp7⟩ := hnot (by simp)
          obtain ⟨Ap, Cp, rfl⟩ := own_form hvp7
          have u7 : w7.cell? ⟨H + 1, 3, none⟩ = some (.slice Ap (0 + 1) Cp) := blk_cell hS7 rfl
          have lS7 := blk_lt hS7
          have hlast := hid (HH6.out.thenNew hk7 (by
            intro r hr
            have h5 := HH6.out.size
            have hsz := (hk13.trans hk4).size
            simp [own, Value.ownBlock] at hr
            rcases hr with rfl | rfl <;> right <;> omega))
          clear hS7 hnot hvp7 hk7 HOK
          go_wp2_with fail
          go_ret
          exact ⟨rfl, hlast.out⟩
end Go.Proofs.Base
