/- A part of the proof, step P1: what the code and the plain laws of this step give. Made by AI agents; no person has read it. -/
import Derived.Test.YtjdjmbjcbjmcoaaGreatDoorC6
namespace Go.Proofs.Base
open Go Go.Proofs Go.RowKit
/-- Bytes as cells. -/
def ba (l : List Nat) : Array Value := (l.map fun x : Nat => Value.int .u8 (x : Int)).toArray
theorem ba_size (l : List Nat) : (ba l).size = l.length := by simp [ba]
theorem ba_get {l : List Nat} {j : Nat} (h : j < l.length) : (ba l)[j]? = some (.int .u8 (bt l j : Nat)) := by
  simp [ba, bt_get h, h]
theorem ba_set (l : List Nat) (j x : Nat) : (ba l).setIfInBounds j (.int .u8 (x : Int)) = ba (l.set j x) := by
  simp [ba, List.map_set]
/-- A block of bytes, of the call's own, whole. -/
def OB (w : World) (b : Nat) (l : List Nat) : Prop := w.heap[b]? = some (.cells (ba l) 5 (0, 0))
theorem OB.lt {w : World} {b : Nat} {l : List Nat} (h : OB w b l) : b < w.heap.size := blk_lt h
theorem OB.cell {w : World} {b : Nat} {l : List Nat} (h : OB w b l) {j : Nat} (hj : j < l.length) : w.cell? ⟨b, j, none⟩ = some (.int .u8 (bt l j : Nat)) := blk_cell h (ba_get hj)
theorem OB.free {w : World} {b : Nat} {l : List Nat} (h : OB w b l) (j : Nat) : w.frozen? ⟨b, j, none⟩ = false := blk_free h
theorem OB.set {w : World} {b : Nat} {l : List Nat} (h : OB w b l) (j x : Nat) : OB (w.setCell ⟨b, j, none⟩ (.int .u8 (x : Int))) b (l.set j x) := by
  unfold OB; rw [blk_setCell _ h, ba_set]
theorem OB.alloc {w : World} {b : Nat} {l : List Nat} (h : OB w b l) (o : Obj) : OB (w.alloc o) b l := blk_alloc o h
theorem OB.kept {S : List Nat} {w w' : World} {b : Nat} {l : List Nat} (h : OB w b l) (k : Kept S w w') (hb : b ∉ S) : OB w' b l := (k.block b h.lt hb).trans h
theorem OB.bytes {w : World} {b : Nat} {l : List Nat} (h : OB w b l) (hs : ∀ x ∈ l, x < 256) : BytesAt w b 0 l :=
  ⟨h.lt, hs, fun j hj => by rw [Nat.zero_add]; exact h.cell hj⟩
def put2 (l : List Nat) (o v : Nat) : List Nat := (l.set o (v / 256)).set (o + 1) (v % 256)
def put4 (l : List Nat) (o v : Nat) : List Nat := (((l.set o (v / 16777216)).set (o + 1) (v / 65536 % 256)).set (o + 2) (v / 256 % 256)).set (o + 3) (v % 256)
def put4le (l : List Nat) (o v : Nat) : List Nat := (((l.set o (v % 256)).set (o + 1) (v / 256 % 256)).set (o + 2) (v / 65536 % 256)).set (o + 3) (v / 16777216)

set_option maxRecDepth 100000 in
set_option maxHeartbeats 400000 in
theorem putU32 (b off len cap v : Nat) (l : List Nat) (w : World) (hv : v < 4294967296) (h : OB w b l) (hl : off + 4 ≤ l.length) (h4 : 4 ≤ len) (hm : len ≤ 9223372036854775807) :
    Calls Tryz.prog 28 #[.agg #[], .slice (some ⟨b, off, none⟩) len cap, .int .u32 v] w fun e w' => e = .returned (.tuple #[]) ∧ OB w' b (put4 l off v) ∧ Kept [b] w w' := by
  have hb := h.lt
  have l0 : (0 : Int) < (len : Int) := by omega
  have l1 : (1 : Int) < (len : Int) := by omega
  have l2 : (2 : Int) < (len : Int) := by omega
  have l3 : (3 : Int) < (len : Int) := by omega
  have c0 := h.cell (j := off) (by omega)
  have c1 := h.cell (j := off + 1) (by omega)
  have c2 := h.cell (j := off + 2) (by omega)
  have c3 := h.cell (j := off + 3) (by omega)
  have f0 := h.free off
  have f1 := h.free (off + 1)
  have f2 := h.free (off + 2)
  have f3 := h.free (off + 3)
  have H := hid h; clear h
  go_enter Tryz.func28, Tryz.ntmps28
  go_wp2
  go_end0
  refine ⟨rfl, ((((H.out.set off (v / 16777216)).set (off + 1) (v / 65536 % 256)).set (off + 2) (v / 256 % 256)).set (off + 3) (v % 256)).alloc _, ?_⟩
  exact (((((Kept.refl [b] w).setCell _ (.inl (by simp))).setCell _ (.inl (by simp))).setCell _ (.inl (by simp))).setCell _ (.inl (by simp))).alloc _

set_option maxRecDepth 100000 in
set_option maxHeartbeats 400000 in
theorem putLE32 (b off len cap v : Nat) (l : List Nat) (w : World) (hv : v < 4294967296) (h : OB w b l) (hl : off + 4 ≤ l.length) (h4 : 4 ≤ len) (hm : len ≤ 9223372036854775807) :
    Calls Tryz.prog 37 #[.agg #[], .slice (some ⟨b, off, none⟩) len cap, .int .u32 v] w fun e w' => e = .returned (.tuple #[]) ∧ OB w' b (put4le l off v) ∧ Kept [b] w w' := by
  have hb := h.lt
  have l0 : (0 : Int) < (len : Int) := by omega
  have l1 : (1 : Int) < (len : Int) := by omega
  have l2 : (2 : Int) < (len : Int) := by omega
  have l3 : (3 : Int) < (len : Int) := by omega
  have c0 := h.cell (j := off) (by omega)
  have c1 := h.cell (j := off + 1) (by omega)
  have c2 := h.cell (j := off + 2) (by omega)
  have c3 := h.cell (j := off + 3) (by omega)
  have f0 := h.free off
  have f1 := h.free (off + 1)
  have f2 := h.free (off + 2)
  have f3 := h.free (off + 3)
  have H := hid h; clear h
  go_enter Tryz.func37, Tryz.ntmps37
  go_wp2
  go_end0
  refine ⟨rfl, ((((H.out.set off (v % 256)).set (off + 1) (v / 256 % 256)).set (off + 2) (v / 65536 % 256)).set (off + 3) (v / 16777216)).alloc _, ?_⟩
  exact (((((Kept.refl [b] w).setCell _ (.inl (by simp))).setCell _ (.inl (by simp))).setCell _ (.inl (by simp))).setCell _ (.inl (by simp))).alloc _

set_option maxRecDepth 100000 in
set_option maxHeartbeats 400000 in
theorem putU16 (b off len cap v : Nat) (l : List Nat) (w : World) (hv : v < 65536) (h : OB w b l) (hl : off + 2 ≤ l.length) (h4 : 2 ≤ len) (hm : len ≤ 9223372036854775807) :
    Calls Tryz.prog 29 #[.agg #[], .slice (some ⟨b, off, none⟩) len cap, .int .u16 v] w fun e w' => e = .returned (.tuple #[]) ∧ OB w' b (put2 l off v) ∧ Kept [b] w w' := by
  have hb := h.lt
  have l0 : (0 : Int) < (len : Int) := by omega
  have l1 : (1 : Int) < (len : Int) := by omega
  have c0 := h.cell (j := off) (by omega)
  have c1 := h.cell (j := off + 1) (by omega)
  have f0 := h.free off
  have f1 := h.free (off + 1)
  have H := hid h; clear h
  go_enter Tryz.func29, Tryz.ntmps29
  go_wp2
  go_end0
  refine ⟨rfl, ((H.out.set off (v / 256)).set (off + 1) (v % 256)).alloc _, ?_⟩
  exact (((Kept.refl [b] w).setCell _ (.inl (by simp))).setCell _ (.inl (by simp))).alloc _

def be4 (x0 x1 x2 x3 : Nat) : Nat := le4 x3 x2 x1 x0
def be2 (x0 x1 : Nat) : Nat := 256 * x0 + x1
theorem or_be2 (x0 x1 : Nat) (h0 : x0 < 256) (h1 : x1 < 256) : bits BinOp.or IntKind.u16 (x1 : Int) ((x0 : Int) * 256) = ((be2 x0 x1 : Nat) : Int) := by
  rw [show (x0 : Int) * 256 = ((256 * x0 : Nat) : Int) by omega]
  rw [u16_or_nat _ _ (by omega) (by omega), Nat.or_comm, nat_join 8 _ _ (by omega) (by omega)]
  rfl

set_option maxRecDepth 100000 in
theorem beU32 (b off len cap : Nat) (l : List Nat) (w : World) (h : BytesAt w b off l) (h4 : 4 ≤ l.length) (hl : 4 ≤ len) (hm : len ≤ 9223372036854775807) :
    Calls Tryz.prog 34 #[.agg #[], .slice (some ⟨b, off, none⟩) len cap] w fun e w' => e = .returned (.int .u32 (be4 (bt l 0) (bt l 1) (bt l 2) (bt l 3))) ∧ ∃ n, w' = (w.alloc (.cells #[] 83)).drewN n := by
  have l0 : (0 : Int) < (len : Int) := by omega
  have l1 : (1 : Int) < (len : Int) := by omega
  have l2 : (2 : Int) < (len : Int) := by omega
  have l3 : (3 : Int) < (len : Int) := by omega
  have hb := h.lt
  have c0 := h.cell 0 (by omega)
  have c1 := h.cell 1 (by omega)
  have c2 := h.cell 2 (by omega)
  have c3 := h.cell 3 (by omega)
  have ho := or_le4 (bt l 3) (bt l 2) (bt l 1) (bt l 0) (h.blt 3) (h.blt 2) (h.blt 1) (h.blt 0)
  have b0 := h.blt 0
  have b1 := h.blt 1
  have b2 := h.blt 2
  have b3 := h.blt 3
  simp only [Nat.add_zero] at c0
  generalize bt l 0 = x0 at *
  generalize bt l 1 = x1 at *
  generalize bt l 2 = x2 at *
  generalize bt l 3 = x3 at *
  clear h
  go_enter Tryz.func34, Tryz.ntmps34
  go_wp2
  go_quiet (fail)
  go_wp2
  go_ret
  exact ⟨rfl, _, rfl⟩

set_option maxRecDepth 100000 in
theorem beU16 (b off len cap : Nat) (l : List Nat) (w : World) (h : BytesAt w b off l) (h4 : 2 ≤ l.length) (hl : 2 ≤ len) (hm : len ≤ 9223372036854775807) :
    Calls Tryz.prog 35 #[.agg #[], .slice (some ⟨b, off, none⟩) len cap] w fun e w' => e = .returned (.int .u16 (be2 (bt l 0) (bt l 1))) ∧ ∃ n, w' = (w.alloc (.cells #[] 83)).drewN n := by
  have l0 : (0 : Int) < (len : Int) := by omega
  have l1 : (1 : Int) < (len : Int) := by omega
  have hb := h.lt
  have c0 := h.cell 0 (by omega)
  have c1 := h.cell 1 (by omega)
  have ho := or_be2 (bt l 0) (bt l 1) (h.blt 0) (h.blt 1)
  have b0 := h.blt 0
  have b1 := h.blt 1
  simp only [Nat.add_zero] at c0
  generalize bt l 0 = x0 at *
  generalize bt l 1 = x1 at *
  clear h
  go_enter Tryz.func35, Tryz.ntmps35
  go_wp2
  go_quiet (fail)
  go_wp2
  go_ret
  exact ⟨rfl, _, rfl⟩

set_option maxRecDepth 100000 in
theorem leU32 (b off len cap : Nat) (l : List Nat) (w : World) (h : BytesAt w b off l) (h4 : 4 ≤ l.length) (hl : 4 ≤ len) (hm : len ≤ 9223372036854775807) :
    Calls Tryz.prog 39 #[.agg #[], .slice (some ⟨b, off, none⟩) len cap] w fun e w' => e = .returned (.int .u32 (le4 (bt l 0) (bt l 1) (bt l 2) (bt l 3))) ∧ ∃ n, w' = (w.alloc (.cells #[] 147)).drewN n := by
  have l0 : (0 : Int) < (len : Int) := by omega
  have l1 : (1 : Int) < (len : Int) := by omega
  have l2 : (2 : Int) < (len : Int) := by omega
  have l3 : (3 : Int) < (len : Int) := by omega
  have hb := h.lt
  have c0 := h.cell 0 (by omega)
  have c1 := h.cell 1 (by omega)
  have c2 := h.cell 2 (by omega)
  have c3 := h.cell 3 (by omega)
  have ho := or_le4 (bt l 0) (bt l 1) (bt l 2) (bt l 3) (h.blt 0) (h.blt 1) (h.blt 2) (h.blt 3)
  have b0 := h.blt 0
  have b1 := h.blt 1
  have b2 := h.blt 2
  have b3 := h.blt 3
  simp only [Nat.add_zero] at c0
  generalize bt l 0 = x0 at *
  generalize bt l 1 = x1 at *
  generalize bt l 2 = x2 at *
  generalize bt l 3 = x3 at *
  clear h
  go_enter Tryz.func39, Tryz.ntmps39
  go_wp2
  go_quiet (fail)
  go_wp2
  go_ret
  exact ⟨rfl, _, rfl⟩
end Go.Proofs.Base
