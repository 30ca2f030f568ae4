/- A part of the proof, step P2: what the code and the plain laws of this step give. Made by AI agents; no person has read it. -/
import Derived.Test.YtjdjmbjcbjmcoaaGreatDoorP1
import Derived.StillTailTactics
import Derived.Deep.OwnRows
import Derived.Laws.CopyOwn
namespace Go.Proofs.Base
open Go Go.Proofs Go.RowKit
theorem info5 : (Tryz.prog.info? 5).map (fun i => (i.zero, i.size, i.bytes)) = some (some (.int .u8 0), 1, 1) := by kernel_rfl
theorem size5 : (Tryz.prog.info? 5).map (·.size) = some 1 := by kernel_rfl
/-- make([]byte, N). -/
theorem makeB (N : Nat) (z : Int) (hz : z = N) (hN : N ≤ 140737488355328) (w : World) :
    (Instr.makeSlice 28 (.int .i64 z) (.int .i64 z)).run Tryz.prog w = .ok (.slice (some ⟨w.heap.size, 0, none⟩) N N) (w.alloc (.cells (ba (List.replicate N 0)) 5)) := by
  subst hz
  rw [run_make_row' (P := Tryz.prog) 28 5 (.int .u8 0) 1 Tryz.underlying28 info5 rfl .i64 .i64 N (by omega) (by omega) w]
  congr 3
  apply Array.ext'
  rw [toList_madeCells_one]
  simp [ba]
theorem OB.setRow {w : World} {g : Nat} {l : List Nat} (h : OB w g l) (l' : List Nat) : OB (w.setRow g (ba l')) g l' := setRow_heap w g _ _ _ _ h
theorem Kept.setRow {S : List Nat} {a w : World} (h : Kept S a w) (g : Nat) (c : Array Value) (hp : g ∈ S ∨ a.heap.size ≤ g) : Kept S a (w.setRow g c) :=
  ⟨h.os, h.tape, h.output, Nat.le_trans h.size (by simp [World.setRow]), fun k hk hs => (setRow_other w g k c (fun e => by subst e; rcases hp with h1 | h1; exact hs h1; omega)).trans (h.block k hk hs)⟩
theorem addr_add (b o j : Nat) : (⟨b, o, none⟩ : Addr).add j = ⟨b, o + j, none⟩ := by unfold Addr.add; split <;> simp_all
/-- copy of bytes into a block of the call's own. -/
theorem copyB (w : World) (ty g off dLen dCap b o sLen sCap : Nat) (cur l : List Nat) (hg : OB w g cur) (hl : BytesAt w b o l) (hn : l.length = sLen) (hle : sLen ≤ dLen) (hfit : off + sLen ≤ cur.length) :
    ∃ w', (Builtin.copy_ #[28, 28] ty #[.slice (some ⟨g, off, none⟩) dLen dCap, .slice (some ⟨b, o, none⟩) sLen sCap]).run Tryz.prog w = .ok (.int .i64 sLen) w' ∧ OB w' g (splice cur off l) ∧ Kept [g] w w' := by
  have h := run_copy_row (P := Tryz.prog) w 28 28 ty 5 g off dLen dCap ⟨b, o, none⟩ sLen sCap (ba cur) 5 (l.map fun x : Nat => Value.int .u8 (x : Int)) Tryz.underlying28 size5 hg
    (by rw [List.length_map, hn]; exact (Nat.min_eq_left hle).symm) (fun j v hv => by
      rw [addr_add]
      have hj : j < l.length := by
        rcases Nat.lt_or_ge j l.length with h1 | h1
        · exact h1
        · rw [List.getElem?_eq_none (by simpa using h1)] at hv; cases hv
      rw [hl.cell j hj]
      simp [hj] at hv
      rw [bt_get hj, ← hv]) (by simp [ba_size, hn]; omega) (by intro v hv; simp at hv; obtain ⟨x, _, rfl⟩ := hv; rfl)
  have e : ((ba cur).toList.take off ++ (l.map fun x : Nat => Value.int .u8 (x : Int)) ++ (ba cur).toList.drop (off + (l.map fun x : Nat => Value.int .u8 (x : Int)).length)).toArray = ba (splice cur off l) := by
    simp [ba, splice, List.map_take, List.map_drop]
  rw [e] at h
  refine ⟨_, h.trans ?_, hg.setRow _, (Kept.refl [g] w).setRow _ _ (.inl (by simp))⟩
  rw [List.length_map, hn]; rfl
theorem zero_cell (N j : Nat) (h : j < N) : (ba (List.replicate N 0))[j]? = some (.int .u8 0) := by
  rw [ba_get (by simpa using h)]; simp [bt, h]
set_option maxRecDepth 100000 in
set_option maxHeartbeats 400000 in
theorem header_marshal (p r ro n cap typ fl : Nat) (l : List Nat) (w : World) (h0 : w.cell? ⟨p, 0, none⟩ = some (.int .u8 typ)) (h1 : w.cell? ⟨p, 1, none⟩ = some (.int .u8 fl))
    (h2 : w.cell? ⟨p, 2, none⟩ = some (.slice (some ⟨r, ro, none⟩) n cap)) (hl : BytesAt w r ro l) (hn : l.length = n) (hp : 0 < n) (hm : n < 60000) :
    Calls Tryz.prog 30 #[.pointer (some ⟨p, 0, none⟩)] w fun e w' => e = .returned (.tuple #[.slice (some ⟨w.heap.size, 0, none⟩) (4 + n) (4 + n), .nilIface]) ∧
      OB w' w.heap.size (typ :: fl :: ((4 + n) / 256) :: ((4 + n) % 256) :: l) ∧ Kept [] w w' := by
  have lp : p < w.heap.size := World.block_lt_of_cell? w _ h0
  have hmk := makeB (4 + n) (4 + (n : Int)) (by omega) (by omega) w
  have HN := hid hn; clear hn
  have z0 := zero_cell (4 + n) 0 (by omega)
  have z1 := zero_cell (4 + n) 1 (by omega)
  go_enter Tryz.func30, Tryz.ntmps30
  go_wp2
  generalize hW : w.alloc _ = w1
  have Hob : Hid (OB w1 w.heap.size (typ :: fl :: 0 :: 0 :: List.replicate n 0)) := by
    rw [← hW, ba_set, ba_set, show List.replicate (4 + n) 0 = 0 :: 0 :: 0 :: 0 :: List.replicate n 0 by rw [Nat.add_comm]; rfl]
    exact blk_new w _
  have hk1 : Kept [] w w1 := by rw [← hW]; exact (Kept.refl [] w).alloc _
  clear hW z0 z1 hmk
  have g0 : w1.cell? ⟨p, 0, none⟩ = some (.int .u8 typ) := by rw [hk1.cell lp (by simp)]; exact h0
  have g2 : w1.cell? ⟨p, 2, none⟩ = some (.slice (some ⟨r, ro, none⟩) n cap) := by rw [hk1.cell lp (by simp)]; exact h2
  generalize hB : w.heap.size = B at *
  have HB := hid hB; clear hB
  have lp' : p < w.heap.size := by rw [HB.out]; exact lp
  have H2 := hid h2
  clear h0 h1 h2
  have s2 : (2 : Int) ≤ 4 + (n : Int) := by omega
  have s2' : ¬ (4 + n) = 2 := by omega
  go_still_tail 10, (by kernel_rfl)
  change wpList _ _ _ _ _ w1.drew
  have Hob2 : OB w1.drew B (typ :: fl :: 0 :: 0 :: List.replicate n 0) := Hob.out
  have hk2 : Kept [] w w1.drew := hk1.drew
  generalize w1.drew = w2 at *
  clear Hob hk1 g0
  go_wp2_with fail
  refine (putU16 B 2 (4 + n - 2) (4 + n - 2) (n + 4) _ w2 (by omega) Hob2 (by simp) (by omega) (by omega)).mono ?_
  rintro e w3 ⟨rfl, Hob3, hk3'⟩
  have hk3 : Kept [] w w3 := (hk2.thenNew hk3' (by intro r hr; simp at hr; subst hr; right; rw [HB.out]; exact Nat.le_refl _))
  have g3 : w3.cell? ⟨p, 2, none⟩ = some (.slice (some ⟨r, ro, none⟩) n cap) := by rw [hk3.cell lp' (by simp)]; exact H2.out
  clear hk3' hk2 g2
  have s4 : (4 : Int) ≤ 4 + (n : Int) := by omega
  have s4' : ¬ (4 + n) = 4 := by omega
  have Hob3 := hid Hob3
  go_wp2_with fail
  go_still_tail 6, (by kernel_rfl)
  change wpList _ _ _ _ _ w3.drew
  have hk4 : Kept [] w w3.drew := hk3.drew
  obtain ⟨w5, hcp, Hob5, hk5'⟩ := copyB w3.drew 3 B 4 n n r ro n cap (put2 (typ :: fl :: 0 :: 0 :: List.replicate n 0) 2 (n + 4)) l Hob3.out (hl.kept hk4 (by simp)) HN.out (by omega) (by simp [put2]; omega)
  clear Hob3 s2 s2' s4 s4' Hob2 g3 hk3
  have Hob5 := hid Hob5
  go_wp2_with fail
  go_ret2
  have e5 : splice (put2 (typ :: fl :: 0 :: 0 :: List.replicate n 0) 2 (n + 4)) 4 l = typ :: fl :: ((4 + n) / 256) :: ((4 + n) % 256) :: l := by
    have hn := HN.out
    simp [splice, put2, hn, Nat.add_comm]
  have hB := HB.out
  subst hB
  refine ⟨rfl, by rw [← e5]; exact Hob5.out, hk4.thenNew hk5' (by intro r hr; simp at hr; subst hr; right; exact Nat.le_refl _)⟩
end Go.Proofs.Base
