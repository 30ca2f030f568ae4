/- Parts of the proof, steps P1, P2, P4, P10: what the code and the plain laws of these steps give. Made by AI agents; no person has read it. -/
import Derived.Test.YthphjbjehccomaaGreatDoorC6
import Derived.StillTailTactics
import Derived.Deep.OwnRows
import Derived.Laws.CopyOwn
import Derived.Lib.AppendZerosOnto
section
namespace Go.Proofs.Base
open Go Go.Proofs Go.RowKit
set_option maxRecDepth 100000
/-- Bytes as cells. -/
def ba (l : List Nat) : Array Value := (l.map fun x : Nat => Value.int .u8 (x : Int)).toArray
theorem ba_size (l : List Nat) : (ba l).size = l.length := by simp [ba]
theorem ba_get {l : List Nat} {j : Nat} (h : j < l.length) : (ba l)[j]? = some (.int .u8 (bt l j : Nat)) := by
  simp [ba, bt_get h, h]
theorem ba_set (l : List Nat) (j x : Nat) : (ba l).setIfInBounds j (.int .u8 (x : Int)) = ba (l.set j x) := by
  simp [ba, List.map_set]
/-- A block of bytes, of the call's own, whole. -/
def OB (w : World) (b : Nat) (l : List Nat) : Prop := w.heap[b]? = some (.cells (ba l) 5 (0, 0))
theorem OB.lt {w : World} {b : Nat} {l : List Nat} (h : OB w b l) : b < w.heap.size := blk_lt h
theorem OB.cell {w : World} {b : Nat} {l : List Nat} (h : OB w b l) {j : Nat} (hj : j < l.length) : w.cell? ⟨b, j, none⟩ = some (.int .u8 (bt l j : Nat)) := blk_cell h (ba_get hj)
theorem OB.free {w : World} {b : Nat} {l : List Nat} (h : OB w b l) (j : Nat) : w.frozen? ⟨b, j, none⟩ = false := blk_free h
theorem OB.set {w : World} {b : Nat} {l : List Nat} (h : OB w b l) (j x : Nat) : OB (w.setCell ⟨b, j, none⟩ (.int .u8 (x : Int))) b (l.set j x) := by
  unfold OB; rw [blk_setCell _ h, ba_set]
theorem OB.alloc {w : World} {b : Nat} {l : List Nat} (h : OB w b l) (o : Obj) : OB (w.alloc o) b l := blk_alloc o h
theorem OB.kept {S : List Nat} {w w' : World} {b : Nat} {l : List Nat} (h : OB w b l) (k : Kept S w w') (hb : b ∉ S) : OB w' b l := (k.block b h.lt hb).trans h
theorem OB.bytes {w : World} {b : Nat} {l : List Nat} (h : OB w b l) (hs : ∀ x ∈ l, x < 256) : BytesAt w b 0 l :=
  ⟨h.lt, hs, fun j hj => by rw [Nat.zero_add]; exact h.cell hj⟩
def put2 (l : List Nat) (o v : Nat) : List Nat := (l.set o (v / 256)).set (o + 1) (v % 256)
def put4 (l : List Nat) (o v : Nat) : List Nat := (((l.set o (v / 16777216)).set (o + 1) (v / 65536 % 256)).set (o + 2) (v / 256 % 256)).set (o + 3) (v % 256)
def put4le (l : List Nat) (o v : Nat) : List Nat := (((l.set o (v % 256)).set (o + 1) (v / 256 % 256)).set (o + 2) (v / 65536 % 256)).set (o + 3) (v / 16777216)

set_option maxRecDepth 100000 in
set_option maxHeartbeats 400000 in
theorem putU32 (b off len cap v : Nat) (l : List Nat) (w : World) (hv : v < 4294967296) (h : OB w b l) (hl : off + 4 ≤ l.length) (h4 : 4 ≤ len) (hm : len ≤ 9223372036854775807) :
    Calls Tryz.prog 79 #[.agg #[], .slice (some ⟨b, off, none⟩) len cap, .int .u32 v] w fun e w' => e = .returned (.tuple #[]) ∧ OB w' b (put4 l off v) ∧ Kept [b] w w' := by
  have hb := h.lt
  have l0 : (0 : Int) < (len : Int) := by omega
  have l1 : (1 : Int) < (len : Int) := by omega
  have l2 : (2 : Int) < (len : Int) := by omega
  have l3 : (3 : Int) < (len : Int) := by omega
  have c0 := h.cell (j := off) (by omega)
  have c1 := h.cell (j := off + 1) (by omega)
  have c2 := h.cell (j := off + 2) (by omega)
  have c3 := h.cell (j := off + 3) (by omega)
  have f0 := h.free off
  have f1 := h.free (off + 1)
  have f2 := h.free (off + 2)
  have f3 := h.free (off + 3)
  have H := hid h; clear h
  go_enter Tryz.func79, Tryz.ntmps79
  go_wp2
  go_end0
  refine ⟨rfl, ((((H.out.set off (v / 16777216)).set (off + 1) (v / 65536 % 256)).set (off + 2) (v / 256 % 256)).set (off + 3) (v % 256)).alloc _, ?_⟩
  exact (((((Kept.refl [b] w).setCell _ (.inl (by simp))).setCell _ (.inl (by simp))).setCell _ (.inl (by simp))).setCell _ (.inl (by simp))).alloc _

set_option maxRecDepth 100000 in
set_option maxHeartbeats 400000 in
theorem putLE32 (b off len cap v : Nat) (l : List Nat) (w : World) (hv : v < 4294967296) (h : OB w b l) (hl : off + 4 ≤ l.length) (h4 : 4 ≤ len) (hm : len ≤ 9223372036854775807) :
    Calls Tryz.prog 99 #[.agg #[], .slice (some ⟨b, off, none⟩) len cap, .int .u32 v] w fun e w' => e = .returned (.tuple #[]) ∧ OB w' b (put4le l off v) ∧ Kept [b] w w' := by
  have hb := h.lt
  have l0 : (0 : Int) < (len : Int) := by omega
  have l1 : (1 : Int) < (len : Int) := by omega
  have l2 : (2 : Int) < (len : Int) := by omega
  have l3 : (3 : Int) < (len : Int) := by omega
  have c0 := h.cell (j := off) (by omega)
  have c1 := h.cell (j := off + 1) (by omega)
  have c2 := h.cell (j := off + 2) (by omega)
  have c3 := h.cell (j := off + 3) (by omega)
  have f0 := h.free off
  have f1 := h.free (off + 1)
  have f2 := h.free (off + 2)
  have f3 := h.free (off + 3)
  have H := hid h; clear h
  go_enter Tryz.func99, Tryz.ntmps99
  go_wp2
  go_end0
  refine ⟨rfl, ((((H.out.set off (v % 256)).set (off + 1) (v / 256 % 256)).set (off + 2) (v / 65536 % 256)).set (off + 3) (v / 16777216)).alloc _, ?_⟩
  exact (((((Kept.refl [b] w).setCell _ (.inl (by simp))).setCell _ (.inl (by simp))).setCell _ (.inl (by simp))).setCell _ (.inl (by simp))).alloc _

set_option maxRecDepth 100000 in
set_option maxHeartbeats 400000 in
theorem putU16 (b off len cap v : Nat) (l : List Nat) (w : World) (hv : v < 65536) (h : OB w b l) (hl : off + 2 ≤ l.length) (h4 : 2 ≤ len) (hm : len ≤ 9223372036854775807) :
    Calls Tryz.prog 80 #[.agg #[], .slice (some ⟨b, off, none⟩) len cap, .int .u16 v] w fun e w' => e = .returned (.tuple #[]) ∧ OB w' b (put2 l off v) ∧ Kept [b] w w' := by
  have hb := h.lt
  have l0 : (0 : Int) < (len : Int) := by omega
  have l1 : (1 : Int) < (len : Int) := by omega
  have c0 := h.cell (j := off) (by omega)
  have c1 := h.cell (j := off + 1) (by omega)
  have f0 := h.free off
  have f1 := h.free (off + 1)
  have H := hid h; clear h
  go_enter Tryz.func80, Tryz.ntmps80
  go_wp2
  go_end0
  refine ⟨rfl, ((H.out.set off (v / 256)).set (off + 1) (v % 256)).alloc _, ?_⟩
  exact (((Kept.refl [b] w).setCell _ (.inl (by simp))).setCell _ (.inl (by simp))).alloc _

def be4 (x0 x1 x2 x3 : Nat) : Nat := le4 x3 x2 x1 x0
def be2 (x0 x1 : Nat) : Nat := 256 * x0 + x1
theorem or_be2 (x0 x1 : Nat) (h0 : x0 < 256) (h1 : x1 < 256) : bits BinOp.or IntKind.u16 (x1 : Int) ((x0 : Int) * 256) = ((be2 x0 x1 : Nat) : Int) := by
  rw [show (x0 : Int) * 256 = ((256 * x0 : Nat) : Int) by omega]
  rw [u16_or_nat _ _ (by omega) (by omega), Nat.or_comm, nat_join 8 _ _ (by omega) (by omega)]
  rfl

set_option maxRecDepth 100000 in
theorem beU32 (b off len cap : Nat) (l : List Nat) (w : World) (h : BytesAt w b off l) (h4 : 4 ≤ l.length) (hl : 4 ≤ len) (hm : len ≤ 9223372036854775807) :
    Calls Tryz.prog 85 #[.agg #[], .slice (some ⟨b, off, none⟩) len cap] w fun e w' => e = .returned (.int .u32 (be4 (bt l 0) (bt l 1) (bt l 2) (bt l 3))) ∧ ∃ n, w' = (w.alloc (.cells #[] 163)).drewN n := by
  have l0 : (0 : Int) < (len : Int) := by omega
  have l1 : (1 : Int) < (len : Int) := by omega
  have l2 : (2 : Int) < (len : Int) := by omega
  have l3 : (3 : Int) < (len : Int) := by omega
  have hb := h.lt
  have c0 := h.cell 0 (by omega)
  have c1 := h.cell 1 (by omega)
  have c2 := h.cell 2 (by omega)
  have c3 := h.cell 3 (by omega)
  have ho := or_le4 (bt l 3) (bt l 2) (bt l 1) (bt l 0) (h.blt 3) (h.blt 2) (h.blt 1) (h.blt 0)
  have b0 := h.blt 0
  have b1 := h.blt 1
  have b2 := h.blt 2
  have b3 := h.blt 3
  simp only [Nat.add_zero] at c0
  generalize bt l 0 = x0 at *
  generalize bt l 1 = x1 at *
  generalize bt l 2 = x2 at *
  generalize bt l 3 = x3 at *
  clear h
  go_enter Tryz.func85, Tryz.ntmps85
  go_wp2
  go_quiet (fail)
  go_wp2
  go_ret
  exact ⟨rfl, _, rfl⟩

set_option maxRecDepth 100000 in
theorem beU16 (b off len cap : Nat) (l : List Nat) (w : World) (h : BytesAt w b off l) (h4 : 2 ≤ l.length) (hl : 2 ≤ len) (hm : len ≤ 9223372036854775807) :
    Calls Tryz.prog 86 #[.agg #[], .slice (some ⟨b, off, none⟩) len cap] w fun e w' => e = .returned (.int .u16 (be2 (bt l 0) (bt l 1))) ∧ ∃ n, w' = (w.alloc (.cells #[] 163)).drewN n := by
  have l0 : (0 : Int) < (len : Int) := by omega
  have l1 : (1 : Int) < (len : Int) := by omega
  have hb := h.lt
  have c0 := h.cell 0 (by omega)
  have c1 := h.cell 1 (by omega)
  have ho := or_be2 (bt l 0) (bt l 1) (h.blt 0) (h.blt 1)
  have b0 := h.blt 0
  have b1 := h.blt 1
  simp only [Nat.add_zero] at c0
  generalize bt l 0 = x0 at *
  generalize bt l 1 = x1 at *
  clear h
  go_enter Tryz.func86, Tryz.ntmps86
  go_wp2
  go_quiet (fail)
  go_wp2
  go_ret
  exact ⟨rfl, _, rfl⟩

set_option maxRecDepth 100000 in
theorem leU32 (b off len cap : Nat) (l : List Nat) (w : World) (h : BytesAt w b off l) (h4 : 4 ≤ l.length) (hl : 4 ≤ len) (hm : len ≤ 9223372036854775807) :
    Calls Tryz.prog 101 #[.agg #[], .slice (some ⟨b, off, none⟩) len cap] w fun e w' => e = .returned (.int .u32 (le4 (bt l 0) (bt l 1) (bt l 2) (bt l 3))) ∧ ∃ n, w' = (w.alloc (.cells #[] 231)).drewN n := by
  have l0 : (0 : Int) < (len : Int) := by omega
  have l1 : (1 : Int) < (len : Int) := by omega
  have l2 : (2 : Int) < (len : Int) := by omega
  have l3 : (3 : Int) < (len : Int) := by omega
  have hb := h.lt
  have c0 := h.cell 0 (by omega)
  have c1 := h.cell 1 (by omega)
  have c2 := h.cell 2 (by omega)
  have c3 := h.cell 3 (by omega)
  have ho := or_le4 (bt l 0) (bt l 1) (bt l 2) (bt l 3) (h.blt 0) (h.blt 1) (h.blt 2) (h.blt 3)
  have b0 := h.blt 0
  have b1 := h.blt 1
  have b2 := h.blt 2
  have b3 := h.blt 3
  simp only [Nat.add_zero] at c0
  generalize bt l 0 = x0 at *
  generalize bt l 1 = x1 at *
  generalize bt l 2 = x2 at *
  generalize bt l 3 = x3 at *
  clear h
  go_enter Tryz.func101, Tryz.ntmps101
  go_wp2
  go_quiet (fail)
  go_wp2
  go_ret
  exact ⟨rfl, _, rfl⟩
end Go.Proofs.Base
end
section
namespace Go.Proofs.Base
open Go Go.Proofs Go.RowKit
set_option maxRecDepth 100000
theorem info5 : (Tryz.prog.info? 5).map (fun i => (i.zero, i.size, i.bytes)) = some (some (.int .u8 0), 1, 1) := by kernel_rfl
theorem size5 : (Tryz.prog.info? 5).map (·.size) = some 1 := by kernel_rfl
/-- make([]byte, N). -/
theorem makeB (N : Nat) (z : Int) (hz : z = N) (hN : N ≤ 140737488355328) (w : World) :
    (Instr.makeSlice 39 (.int .i64 z) (.int .i64 z)).run Tryz.prog w = .ok (.slice (some ⟨w.heap.size, 0, none⟩) N N) (w.alloc (.cells (ba (List.replicate N 0)) 5)) := by
  subst hz
  rw [run_make_row' (P := Tryz.prog) 39 5 (.int .u8 0) 1 Tryz.underlying39 info5 rfl .i64 .i64 N (by omega) (by omega) w]
  congr 3
  apply Array.ext'
  rw [toList_madeCells_one]
  simp [ba]
theorem OB.setRow {w : World} {g : Nat} {l : List Nat} (h : OB w g l) (l' : List Nat) : OB (w.setRow g (ba l')) g l' := setRow_heap w g _ _ _ _ h
theorem Kept.setRow {S : List Nat} {a w : World} (h : Kept S a w) (g : Nat) (c : Array Value) (hp : g ∈ S ∨ a.heap.size ≤ g) : Kept S a (w.setRow g c) :=
  ⟨h.os, h.tape, h.output, Nat.le_trans h.size (by simp [World.setRow]), fun k hk hs => (setRow_other w g k c (fun e => by subst e; rcases hp with h1 | h1; exact hs h1; omega)).trans (h.block k hk hs)⟩
theorem addr_add (b o j : Nat) : (⟨b, o, none⟩ : Addr).add j = ⟨b, o + j, none⟩ := by unfold Addr.add; split <;> simp_all
/-- copy of bytes into a block of the call's own. -/
theorem copyB (w : World) (ty g off dLen dCap b o sLen sCap : Nat) (cur l : List Nat) (hg : OB w g cur) (hl : BytesAt w b o l) (hn : l.length = sLen) (hle : sLen ≤ dLen) (hfit : off + sLen ≤ cur.length) :
    ∃ w', (Builtin.copy_ #[39, 39] ty #[.slice (some ⟨g, off, none⟩) dLen dCap, .slice (some ⟨b, o, none⟩) sLen sCap]).run Tryz.prog w = .ok (.int .i64 sLen) w' ∧ OB w' g (splice cur off l) ∧ Kept [g] w w' := by
  have h := run_copy_row (P := Tryz.prog) w 39 39 ty 5 g off dLen dCap ⟨b, o, none⟩ sLen sCap (ba cur) 5 (l.map fun x : Nat => Value.int .u8 (x : Int)) Tryz.underlying39 size5 hg
    (by rw [List.length_map, hn]; exact (Nat.min_eq_left hle).symm) (fun j v hv => by
      rw [addr_add]
      have hj : j < l.length := by
        rcases Nat.lt_or_ge j l.length with h1 | h1
        · exact h1
        · rw [List.getElem?_eq_none (by simpa using h1)] at hv; cases hv
      rw [hl.cell j hj]
      simp [hj] at hv
      rw [bt_get hj, ← hv]) (by simp [ba_size, hn]; omega) (by intro v hv; simp at hv; obtain ⟨x, _, rfl⟩ := hv; rfl)
  have e : ((ba cur).toList.take off ++ (l.map fun x : Nat => Value.int .u8 (x : Int)) ++ (ba cur).toList.drop (off + (l.map fun x : Nat => Value.int .u8 (x : Int)).length)).toArray = ba (splice cur off l) := by
    simp [ba, splice, List.map_take, List.map_drop]
  rw [e] at h
  refine ⟨_, h.trans ?_, hg.setRow _, (Kept.refl [g] w).setRow _ _ (.inl (by simp))⟩
  rw [List.length_map, hn]; rfl
theorem zero_cell (N j : Nat) (h : j < N) : (ba (List.replicate N 0))[j]? = some (.int .u8 0) := by
  rw [ba_get (by simpa using h)]; simp [bt, h]
set_option maxRecDepth 100000 in
set_option maxHeartbeats 400000 in
theorem header_marshal (p r ro n cap typ fl : Nat) (l : List Nat) (w : World) (h0 : w.cell? ⟨p, 0, none⟩ = some (.int .u8 typ)) (h1 : w.cell? ⟨p, 1, none⟩ = some (.int .u8 fl))
    (h2 : w.cell? ⟨p, 2, none⟩ = some (.slice (some ⟨r, ro, none⟩) n cap)) (hl : BytesAt w r ro l) (hn : l.length = n) (hp : 0 < n) (hm : n < 60000) :
    Calls Tryz.prog 81 #[.pointer (some ⟨p, 0, none⟩)] w fun e w' => e = .returned (.tuple #[.slice (some ⟨w.heap.size, 0, none⟩) (4 + n) (4 + n), .nilIface]) ∧
      OB w' w.heap.size (typ :: fl :: ((4 + n) / 256) :: ((4 + n) % 256) :: l) ∧ Kept [] w w' := by
  have lp : p < w.heap.size := World.block_lt_of_cell? w _ h0
  have hmk := makeB (4 + n) (4 + (n : Int)) (by omega) (by omega) w
  have HN := hid hn; clear hn
  have z0 := zero_cell (4 + n) 0 (by omega)
  have z1 := zero_cell (4 + n) 1 (by omega)
  go_enter Tryz.func81, Tryz.ntmps81
  go_wp2
  generalize hW : w.alloc _ = w1
  have Hob : Hid (OB w1 w.heap.size (typ :: fl :: 0 :: 0 :: List.replicate n 0)) := by
    rw [← hW, ba_set, ba_set, show List.replicate (4 + n) 0 = 0 :: 0 :: 0 :: 0 :: List.replicate n 0 by rw [Nat.add_comm]; rfl]
    exact blk_new w _
  have hk1 : Kept [] w w1 := by rw [← hW]; exact (Kept.refl [] w).alloc _
  clear hW z0 z1 hmk
  have g0 : w1.cell? ⟨p, 0, none⟩ = some (.int .u8 typ) := by rw [hk1.cell lp (by simp)]; exact h0
  have g2 : w1.cell? ⟨p, 2, none⟩ = some (.slice (some ⟨r, ro, none⟩) n cap) := by rw [hk1.cell lp (by simp)]; exact h2
  generalize hB : w.heap.size = B at *
  have HB := hid hB; clear hB
  have lp' : p < w.heap.size := by rw [HB.out]; exact lp
  have H2 := hid h2
  clear h0 h1 h2
  have s2 : (2 : Int) ≤ 4 + (n : Int) := by omega
  have s2' : ¬ (4 + n) = 2 := by omega
  go_still_tail 10, (by kernel_rfl)
  change wpList _ _ _ _ _ w1.drew
  have Hob2 : OB w1.drew B (typ :: fl :: 0 :: 0 :: List.replicate n 0) := Hob.out
  have hk2 : Kept [] w w1.drew := hk1.drew
  generalize w1.drew = w2 at *
  clear Hob hk1 g0
  go_wp2_with fail
  refine (putU16 B 2 (4 + n - 2) (4 + n - 2) (n + 4) _ w2 (by omega) Hob2 (by simp) (by omega) (by omega)).mono ?_
  rintro e w3 ⟨rfl, Hob3, hk3'⟩
  have hk3 : Kept [] w w3 := (hk2.thenNew hk3' (by intro r hr; simp at hr; subst hr; right; rw [HB.out]; exact Nat.le_refl _))
  have g3 : w3.cell? ⟨p, 2, none⟩ = some (.slice (some ⟨r, ro, none⟩) n cap) := by rw [hk3.cell lp' (by simp)]; exact H2.out
  clear hk3' hk2 g2
  have s4 : (4 : Int) ≤ 4 + (n : Int) := by omega
  have s4' : ¬ (4 + n) = 4 := by omega
  have Hob3 := hid Hob3
  go_wp2_with fail
  go_still_tail 6, (by kernel_rfl)
  change wpList _ _ _ _ _ w3.drew
  have hk4 : Kept [] w w3.drew := hk3.drew
  obtain ⟨w5, hcp, Hob5, hk5'⟩ := copyB w3.drew 3 B 4 n n r ro n cap (put2 (typ :: fl :: 0 :: 0 :: List.replicate n 0) 2 (n + 4)) l Hob3.out (hl.kept hk4 (by simp)) HN.out (by omega) (by simp [put2]; omega)
  clear Hob3 s2 s2' s4 s4' Hob2 g3 hk3
  have Hob5 := hid Hob5
  go_wp2_with fail
  go_ret2
  have e5 : splice (put2 (typ :: fl :: 0 :: 0 :: List.replicate n 0) 2 (n + 4)) 4 l = typ :: fl :: ((4 + n) / 256) :: ((4 + n) % 256) :: l := by
    have hn := HN.out
    simp [splice, put2, hn, Nat.add_comm]
  have hB := HB.out
  subst hB
  refine ⟨rfl, by rw [← e5]; exact Hob5.out, hk4.thenNew hk5' (by intro r hr; simp at hr; subst hr; right; exact Nat.le_refl _)⟩
end Go.Proofs.Base
end
section
namespace Go.Proofs.Base
open Go Go.Proofs Go.RowKit
set_option maxRecDepth 100000
theorem info5' : ∃ i, Tryz.prog.info? 5 = some i ∧ i.zero = some (.int .u8 0) ∧ i.size = 1 ∧ i.bytes = 1 := info_parts info5
theorem grown_kept {w w' : World} {row : Option Nat} {S : List Nat} (h : w.grownBy w' row) (hS : ∀ k, row = some k → k ∈ S) : Kept S w w' :=
  ⟨h.os, h.tape, h.output, h.size, fun k hk hs => h.block k hk (fun e => hs (hS k e.symm))⟩
/-- Bytes as values. -/
def bv (l : List Nat) : List Value := l.map fun x : Nat => Value.int .u8 (x : Int)
@[simp] theorem bv_length (l : List Nat) : (bv l).length = l.length := by simp [bv]
theorem bv_get {l : List Nat} {j : Nat} {u : Value} (h : (bv l)[j]? = some u) : j < l.length ∧ u = .int .u8 (bt l j : Nat) := by
  have hj : j < l.length := by
    rcases Nat.lt_or_ge j l.length with h1 | h1
    · exact h1
    · rw [List.getElem?_eq_none (by simpa using h1)] at h; cases h
  refine ⟨hj, ?_⟩
  simp [bv, hj] at h
  rw [bt_get hj, ← h]
theorem bv_one (l : List Nat) : ∀ u ∈ bv l, u.oneCell' = true := by
  intro v hv; simp [bv] at hv; obtain ⟨x, _, rfl⟩ := hv; rfl
/-- A slice of bytes that owns its row. -/
theorem owns_bytes {w : World} {base g n cap : Nat} {l : List Nat} (h : w.ownsRow base 5 1 (.slice (some ⟨g, 0, none⟩) n cap) n (bv l)) (hs : ∀ x ∈ l, x < 256) : BytesAt w g 0 l := by
  have hlt := h.lt g rfl
  refine ⟨hlt.2, hs, fun j hj => ?_⟩
  have := h.cells (g := g) rfl j (.int .u8 (bt l j : Nat)) (by simp [bv, hj, bt_get hj])
  rwa [addr_add] at this
/-- append([]byte(nil), b...), append([]byte{}, b...): a copy. -/
theorem copyRun (b o n cap : Nat) (l : List Nat) (w : World) (ty base : Nat) (v : Value) (hv : w.ownsRow base 5 1 v 0 []) (hbase : base ≤ w.heap.size)
    (hl : BytesAt w b o l) (hn : l.length = n) (hp : 0 < n) (hm : n ≤ 140737488355328) :
    ∃ g cap' w', (Builtin.append_ #[39, 39] ty #[v, .slice (some ⟨b, o, none⟩) n cap]).run Tryz.prog w = .ok (.slice (some ⟨g, 0, none⟩) n cap') w' ∧ n ≤ cap' ∧ cap' ≤ maxLen ∧ base ≤ g ∧
      w'.ownsRow base 5 1 (.slice (some ⟨g, 0, none⟩) n cap') n (bv l) ∧ BytesAt w' g 0 l ∧ w.grownBy w' v.ownBlock := by
  obtain ⟨i, hi, hz, hs, hb⟩ := info5'
  obtain ⟨v', w', hr, hown, hg, hnil⟩ := run_append_own (P := Tryz.prog) w base 39 ty 5 i (.int .u8 0) 1 1 Tryz.underlying39 hi hz hs hb rfl (by decide) v 0 [] hv ⟨b, o, none⟩ n cap (bv l) (by simp [hn])
    (fun j u hu => by obtain ⟨hj, rfl⟩ := bv_get hu; rw [addr_add]; exact hl.cell j hj) (bv_one l) (by unfold maxLen; omega) (by omega) hbase
  have hown0 := hown
  rw [Nat.zero_add, List.nil_append] at hown
  rcases hown.2 with ⟨rfl, h0⟩ | ⟨g, cap', cur, rfl, h1, h2, h3, h4, _⟩
  · omega
  · exact ⟨g, cap', w', by simpa using hr, h3, h4, h1, hown, owns_bytes hown hl.small, hg⟩

/-- An append whose run is known. -/
theorem wpList_append_run {P : Program} {w w' : World} {ops : Array Oper} {rest : List Oper} {o : Oper} {a : Act} {Q : Exit → Act → World → Prop} (hgd : o.guard = none) (s x : Operand) (t : TypeId)
    (ho : o.op = .call { callee := .builtin .append, args := #[s, x], argTypes := #[t, t] }) (v u v' : Value) (hs : a.eval s = v) (hx : a.eval x = u)
    (hr : (Builtin.append_ #[t, t] o.type #[v, u]).run P w = .ok v' w') (h : wpList P ops Q rest (a.put o.dst v') w') : wpList P ops Q (o :: rest) a w := by
  refine wpList_plain hgd fun K hK => ?_
  unfold Oper.wp
  simp [execOp, ho, resolve, invoke, builtin, hs, hx, hr, Result.andThen]
  exact hK _ _ h
/-- Bytes that fill the front of a block of bytes. -/
def BB (w : World) (g : Nat) (l : List Nat) : Prop := BytesAt w g 0 l ∧ ∃ cs, w.heap[g]? = some (.cells cs 5 (0, 0))
theorem BB.kept {S : List Nat} {w w' : World} {g : Nat} {l : List Nat} (h : BB w g l) (k : Kept S w w') (hb : g ∉ S) : BB w' g l := by
  obtain ⟨h1, cs, h2⟩ := h
  exact ⟨h1.kept k hb, cs, (k.block g (blk_lt h2) hb).trans h2⟩
theorem owns_BB {w : World} {base g n cap : Nat} {l : List Nat} (h : w.ownsRow base 5 1 (.slice (some ⟨g, 0, none⟩) n cap) n (bv l)) (hs : ∀ x ∈ l, x < 256) : BB w g l := by
  refine ⟨owns_bytes h hs, ?_⟩
  rcases h.2 with ⟨h0, _⟩ | ⟨g', cap', cur, h1, _, h2, _⟩
  · cases h0
  · cases h1; exact ⟨cur, h2⟩
set_option maxRecDepth 100000 in
set_option maxHeartbeats 400000 in
/-- copied. -/
theorem copied' (b o n cap : Nat) (l : List Nat) (w : World) (hl : BytesAt w b o l) (hn : l.length = n) (hp : 0 < n) (hm : n ≤ 140737488355328) :
    Calls Tryz.prog 21 #[.slice (some ⟨b, o, none⟩) n cap] w fun e w' => ∃ g cap', w.heap.size ≤ g ∧ n ≤ cap' ∧ cap' ≤ maxLen ∧ e = .returned (.slice (some ⟨g, 0, none⟩) n cap') ∧ BB w' g l ∧ Kept [] w w' := by
  obtain ⟨g, cap', w', hr, hc1, hc2, hg, hown, _, hgr⟩ := copyRun b o n cap l w 39 w.heap.size (.slice none 0 0) (World.ownsRow_nil _ _ _ _) (Nat.le_refl _) hl hn hp hm
  have Hby := hid (owns_BB hown hl.small)
  clear hown
  go_enter Tryz.func21, Tryz.ntmps21
  go_wp2_with (at_builtin; refine wpList_append_run rfl _ _ 39 rfl _ _ _ rfl rfl hr ?_)
  go_ret
  exact ⟨g, cap', hg, hc1, hc2, rfl, Hby.out, grown_kept hgr (by simp [Value.ownBlock])⟩
theorem copied (b o n cap : Nat) (l : List Nat) (w : World) (hl : BytesAt w b o l) (hn : l.length = n) (hp : 0 < n) (hm : n ≤ 140737488355328) :
    Calls Tryz.prog 21 #[.slice (some ⟨b, o, none⟩) n cap] w fun e w' => ∃ g cap', w.heap.size ≤ g ∧ n ≤ cap' ∧ cap' ≤ maxLen ∧ e = .returned (.slice (some ⟨g, 0, none⟩) n cap') ∧ BytesAt w' g 0 l ∧ Kept [] w w' :=
  (copied' b o n cap l w hl hn hp hm).mono fun _ _ ⟨g, cap', h1, h2, h3, h4, h5, h6⟩ => ⟨g, cap', h1, h2, h3, h4, h5.1, h6⟩
end Go.Proofs.Base
end
section
namespace Go.Proofs.Base
open Go Go.Proofs Go.RowKit
set_option maxRecDepth 100000
/-- A slice of bytes from a row's head that the call owns. -/
def Own (w : World) (g n cap : Nat) (L : List Nat) : Prop := w.ownsRow 0 5 1 (.slice (some ⟨g, 0, none⟩) n cap) n (bv L)
theorem Own.len {w : World} {g n cap : Nat} {L : List Nat} (h : Own w g n cap L) : L.length = n := by have := h.1; simpa using this
theorem Own.row {w : World} {g n cap : Nat} {L : List Nat} (h : Own w g n cap L) : ∃ cur, w.heap[g]? = some (.cells cur 5 (0, 0)) ∧ n ≤ cap ∧ cap ≤ maxLen ∧ cur.size = cap ∧ cur.toList.take n = bv L := by
  rcases h.2 with ⟨h1, _⟩ | ⟨g', cap', cur, h1, _, h3, h4, h5, h6, h7⟩
  · cases h1
  · cases h1
    exact ⟨cur, h3, h4, h5, by simpa using h6, by simpa using h7⟩
theorem Own.mk {w : World} {g n cap : Nat} {L : List Nat} {cur : Array Value} (h1 : w.heap[g]? = some (.cells cur 5 (0, 0))) (h2 : n ≤ cap) (h3 : cap ≤ maxLen) (h4 : cur.size = cap) (h5 : cur.toList.take n = bv L) (h6 : L.length = n) : Own w g n cap L :=
  ⟨by simp [h6], .inr ⟨g, cap, cur, rfl, Nat.zero_le _, h1, h2, h3, by simpa using h4, by simpa using h5⟩⟩
theorem Own.lt {w : World} {g n cap : Nat} {L : List Nat} (h : Own w g n cap L) : g < w.heap.size := by obtain ⟨cur, h1, _⟩ := h.row; exact blk_lt h1
theorem Own.kept {S : List Nat} {w w' : World} {g n cap : Nat} {L : List Nat} (h : Own w g n cap L) (k : Kept S w w') (hg : g ∉ S) : Own w' g n cap L := by
  obtain ⟨cur, h1, h2, h3, h4, h5⟩ := h.row
  exact Own.mk ((k.block g (blk_lt h1) hg).trans h1) h2 h3 h4 h5 h.len
theorem Own.bytes {w : World} {g n cap : Nat} {L : List Nat} (h : Own w g n cap L) (hs : ∀ x ∈ L, x < 256) : BytesAt w g 0 L := owns_bytes h hs
theorem Own.cap {w : World} {g n cap : Nat} {L : List Nat} (h : Own w g n cap L) : n ≤ cap ∧ cap ≤ maxLen := by obtain ⟨cur, _, h2, h3, _⟩ := h.row; exact ⟨h2, h3⟩
theorem OB.own {w : World} {g : Nat} {L : List Nat} (h : OB w g L) (hm : L.length ≤ maxLen) : Own w g L.length L.length L :=
  Own.mk h (Nat.le_refl _) hm (by rw [ba_size]) (by rw [List.take_of_length_le (by simp [ba])]; simp [ba, bv]) rfl
theorem zeros_toList (k : Nat) : (Builtin.zeroCells (Value.int .u8 0).cells k).toList = List.replicate k (Value.int .u8 0) := by
  apply List.ext_getElem?
  intro j
  by_cases hj : j < k
  · simp [Builtin.zeroCells, Value.cells, hj, Nat.mod_one]
  · simp [Builtin.zeroCells, Value.cells, hj]
theorem bv_zeros (k : Nat) : bv (List.replicate k 0) = List.replicate k (Value.int .u8 0) := by simp [bv]
theorem bv_append (a b : List Nat) : bv (a ++ b) = bv a ++ bv b := by simp [bv]
theorem zeros_room {P : Program} (w : World) (t tn ty e : TypeId) (i : TypeInfo) (z : Value) (kq kn : IntKind) (ht : P.underlying t = some (.slice e)) (htn : P.underlying tn = some (.int kn)) (hi : P.info? e = some i) (hz : i.zero = some z) (hs : i.size = 1) (hz1 : z.cells = #[z]) (h1z : z.oneCell' = true)
    (g n cap k : Nat) (cur : Array Value) (hg : w.heap[g]? = some (.cells cur e (0, 0))) (h0 : 0 < k) (hroom : n + k ≤ cap) (hfit : n + k ≤ cur.size) (hk : k ≤ 1000000) (h48 : k * i.bytes ≤ 281474976710656) :
    (Builtin.append_ #[t, tn] ty #[.slice (some ⟨g, 0, none⟩) n cap, .int kq k]).run P w =
      .ok (.slice (some ⟨g, 0, none⟩) (n + k) cap) (w.setRow g (cur.toList.take n ++ List.replicate k z ++ cur.toList.drop (n + k)).toArray) := by
  have hst := run_storeCells_at P g n e (List.replicate k z) 0 cur w hg (by simpa using hfit) (by intro v hv; rw [List.eq_of_mem_replicate hv]; exact h1z)
  have hw : IntKind.i64.wrap (k : Int) = k := by rw [IntKind.wrap_i64]; omega
  have hneg : ¬ ((k : Int) < 0) := by omega
  have h48i : ¬ (281474976710656 < (k : Int) * (i.bytes : Int)) := by
    rw [← Int.natCast_mul]; omega
  have hk0 : k ≠ 0 := by omega
  have hzl : (Builtin.zeroCells z.cells k).toList = List.replicate k z := by
    apply List.ext_getElem?
    intro j
    by_cases hj : j < k
    · simp [Builtin.zeroCells, hz1, hj, Nat.mod_one]
    · simp [Builtin.zeroCells, hz1, hj]
  simp only [Nat.add_zero, List.length_replicate] at hst
  simp [Builtin.append_, run_underlying ht, run_underlying htn, sizeOf, typeInfo, zeroValue, hi, hz, hs, asInt, asIntOf, hw, hneg, h48i, hroom, hk0, hzl, addr_add, hst]
theorem take_zeros {α : Type} (xs ys zs : List α) (n : Nat) (h : xs.length = n) : ((xs ++ ys ++ zs).take (n + ys.length)) = xs ++ ys := by
  rw [List.take_append_of_le_length (by simp [h]), List.take_of_length_le (by simp [h])]
/-- append(s, make([]byte, k)...). -/
theorem zerosRun (g n cap k ty : Nat) (L : List Nat) (w : World) (h : Own w g n cap L) (h0 : 0 < k) (hb : n + k ≤ 1000000) :
    ∃ g' cap' w', (Builtin.append_ #[39, 3] ty #[.slice (some ⟨g, 0, none⟩) n cap, .int .i64 k]).run Tryz.prog w = .ok (.slice (some ⟨g', 0, none⟩) (n + k) cap') w' ∧ Own w' g' (n + k) cap' (L ++ List.replicate k 0) ∧
      Kept [g] w w' ∧ (g' = g ∨ w.heap.size ≤ g') := by
  obtain ⟨cur, h1, h2, h3, h4, h5⟩ := h.row
  obtain ⟨i, hi, hz, hs, hby⟩ := info5'
  have hll := h.len
  by_cases hroom : n + k ≤ cap
  · refine ⟨g, cap, _, zeros_room w 39 3 ty 5 i (.int .u8 0) .i64 .i64 Tryz.underlying39 Tryz.underlying3 hi hz hs rfl rfl g n cap k cur h1 h0 hroom (by omega) (by omega) (by rw [hby]; omega), ?_, (Kept.refl [g] w).setRow _ _ (.inl (by simp)), .inl rfl⟩
    refine Own.mk (setRow_heap w g _ _ _ _ h1) hroom h3 (by simp [h4]; omega) ?_ (by simp [hll])
    rw [bv_append, bv_zeros, ← h5]
    have := take_zeros (cur.toList.take n) (List.replicate k (Value.int .u8 0)) (cur.toList.drop (n + k)) n (by simp; omega)
    simpa using this
  · have hold := run_firstCells_some (P := Tryz.prog) (w := w.drew) 1 n ⟨g, 0, none⟩ n cap (bv L) (by simp [hll]) (fun j v hv => by
      obtain ⟨hj, rfl⟩ := bv_get hv
      have hx := h.cells (g := g) rfl j _ hv
      exact hx)
    have hnc := nextslicecap_le (need := n + k) (old := cap) (by omega)
    refine ⟨w.heap.size, _, _, Lib.run_append_grow_zeros w 39 3 ty 5 i (.int .u8 0) .i64 .i64 Tryz.underlying39 Tryz.underlying3 hi hz (some ⟨g, 0, none⟩) n cap (bv L) (by rw [hs]; exact hold) k h0 (by omega) (by omega) (by omega) (by rw [hby]; omega) (by rw [hby]; omega), ?_, (Kept.refl [g] w).drew.alloc _, .inr (Nat.le_refl _)⟩
    have hge := grownCap_ge w (n + k) cap 5
    refine Own.mk (blk_new w.drew _) hge (grownCap_le_maxLen w _ _ _ (by unfold maxLen; omega)) ?_ ?_ (by simp [hll])
    · simp [size_zeroCells, Value.cells, hll]; omega
    · rw [bv_append, bv_zeros]
      have := take_zeros (bv L) (List.replicate k (Value.int .u8 0)) (Builtin.zeroCells (Value.int .u8 0).cells (grownCap w (n + k) cap 5 - (n + k))).toList n (by simp [hll])
      simpa [zeros_toList] using this
end Go.Proofs.Base
end
