/- A part of the proof, step P10: what the code and the plain laws of this step give. Made by AI agents; no person has read it. -/
import Derived.Test.YtjdjmbjcbjmcoaaGreatDoorP4
import Derived.Lib.AppendZerosOnto
namespace Go.Proofs.Base
open Go Go.Proofs Go.RowKit
/-- A slice of bytes from a row's head that the call owns. -/
def Own (w : World) (g n cap : Nat) (L : List Nat) : Prop := w.ownsRow 0 5 1 (.slice (some ⟨g, 0, none⟩) n cap) n (bv L)
theorem Own.len {w : World} {g n cap : Nat} {L : List Nat} (h : Own w g n cap L) : L.length = n := by have := h.1; simpa using this
theorem Own.row {w : World} {g n cap : Nat} {L : List Nat} (h : Own w g n cap L) : ∃ cur, w.heap[g]? = some (.cells cur 5 (0, 0)) ∧ n ≤ cap ∧ cap ≤ maxLen ∧ cur.size = cap ∧ cur.toList.take n = bv L := by
  rcases h.2 with ⟨h1, _⟩ | ⟨g', cap', cur, h1, _, h3, h4, h5, h6, h7⟩
  · cases h1
  · cases h1
    exact ⟨cur, h3, h4, h5, by simpa using h6, by simpa using h7⟩
theorem Own.mk {w : World} {g n cap : Nat} {L : List Nat} {cur : Array Value} (h1 : w.heap[g]? = some (.cells cur 5 (0, 0))) (h2 : n ≤ cap) (h3 : cap ≤ maxLen) (h4 : cur.size = cap) (h5 : cur.toList.take n = bv L) (h6 : L.length = n) : Own w g n cap L :=
  ⟨by simp [h6], .inr ⟨g, cap, cur, rfl, Nat.zero_le _, h1, h2, h3, by simpa using h4, by simpa using h5⟩⟩
theorem Own.lt {w : World} {g n cap : Nat} {L : List Nat} (h : Own w g n cap L) : g < w.heap.size := by obtain ⟨cur, h1, _⟩ := h.row; exact blk_lt h1
theorem Own.kept {S : List Nat} {w w' : World} {g n cap : Nat} {L : List Nat} (h : Own w g n cap L) (k : Kept S w w') (hg : g ∉ S) : Own w' g n cap L := by
  obtain ⟨cur, h1, h2, h3, h4, h5⟩ := h.row
  exact Own.mk ((k.block g (blk_lt h1) hg).trans h1) h2 h3 h4 h5 h.len
theorem Own.bytes {w : World} {g n cap : Nat} {L : List Nat} (h : Own w g n cap L) (hs : ∀ x ∈ L, x < 256) : BytesAt w g 0 L := owns_bytes h hs
theorem Own.cap {w : World} {g n cap : Nat} {L : List Nat} (h : Own w g n cap L) : n ≤ cap ∧ cap ≤ maxLen := by obtain ⟨cur, _, h2, h3, _⟩ := h.row; exact ⟨h2, h3⟩
theorem OB.own {w : World} {g : Nat} {L : List Nat} (h : OB w g L) (hm : L.length ≤ maxLen) : Own w g L.length L.length L :=
  Own.mk h (Nat.le_refl _) hm (by rw [ba_size]) (by rw [List.take_of_length_le (by simp [ba])]; simp [ba, bv]) rfl
theorem zeros_toList (k : Nat) : (Builtin.zeroCells (Value.int .u8 0).cells k).toList = List.replicate k (Value.int .u8 0) := by
  apply List.ext_getElem?
  intro j
  by_cases hj : j < k
  · simp [Builtin.zeroCells, Value.cells, hj, Nat.mod_one]
  · simp [Builtin.zeroCells, Value.cells, hj]
theorem bv_zeros (k : Nat) : bv (List.replicate k 0) = List.replicate k (Value.int .u8 0) := by simp [bv]
theorem bv_append (a b : List Nat) : bv (a ++ b) = bv a ++ bv b := by simp [bv]
theorem zeros_room {P : Program} (w : World) (t tn ty e : TypeId) (i : TypeInfo) (z : Value) (kq kn : IntKind) (ht : P.underlying t = some (.slice e)) (htn : P.underlying tn = some (.int kn)) (hi : P.info? e = some i) (hz : i.zero = some z) (hs : i.size = 1) (hz1 : z.cells = #[z]) (h1z : z.oneCell' = true)
    (g n cap k : Nat) (cur : Array Value) (hg : w.heap[g]? = some (.cells cur e (0, 0))) (h0 : 0 < k) (hroom : n + k ≤ cap) (hfit : n + k ≤ cur.size) (hk : k ≤ 1000000) (h48 : k * i.bytes ≤ 281474976710656) :
    (Builtin.append_ #[t, tn] ty #[.slice (some ⟨g, 0, none⟩) n cap, .int kq k]).run P w =
      .ok (.slice (some ⟨g, 0, none⟩) (n + k) cap) (w.setRow g (cur.toList.take n ++ List.replicate k z ++ cur.toList.drop (n + k)).toArray) := by
  have hst := run_storeCells_at P g n e (List.replicate k z) 0 cur w hg (by simpa using hfit) (by intro v hv; rw [List.eq_of_mem_replicate hv]; exact h1z)
  have hw : IntKind.i64.wrap (k : Int) = k := by rw [IntKind.wrap_i64]; omega
  have hneg : ¬ ((k : Int) < 0) := by omega
  have h48i : ¬ (281474976710656 < (k : Int) * (i.bytes : Int)) := by
    rw [← Int.natCast_mul]; omega
  have hk0 : k ≠ 0 := by omega
  have hzl : (Builtin.zeroCells z.cells k).toList = List.replicate k z := by
    apply List.ext_getElem?
    intro j
    by_cases hj : j < k
    · simp [Builtin.zeroCells, hz1, hj, Nat.mod_one]
    · simp [Builtin.zeroCells, hz1, hj]
  simp only [Nat.add_zero, List.length_replicate] at hst
  simp [Builtin.append_, run_underlying ht, run_underlying htn, sizeOf, typeInfo, zeroValue, hi, hz, hs, asInt, asIntOf, hw, hneg, h48i, hroom, hk0, hzl, addr_add, hst]
theorem take_zeros {α : Type} (xs ys zs : List α) (n : Nat) (h : xs.length = n) : ((xs ++ ys ++ zs).take (n + ys.length)) = xs ++ ys := by
  rw [List.take_append_of_le_length (by simp [h]), List.take_of_length_le (by simp [h])]
/-- append(s, make([]byte, k)...). -/
theorem zerosRun (g n cap k ty : Nat) (L : List Nat) (w : World) (h : Own w g n cap L) (h0 : 0 < k) (hb : n + k ≤ 1000000) :
    ∃ g' cap' w', (Builtin.append_ #[28, 3] ty #[.slice (some ⟨g, 0, none⟩) n cap, .int .i64 k]).run Tryz.prog w = .ok (.slice (some ⟨g', 0, none⟩) (n + k) cap') w' ∧ Own w' g' (n + k) cap' (L ++ List.replicate k 0) ∧
      Kept [g] w w' ∧ (g' = g ∨ w.heap.size ≤ g') := by
  obtain ⟨cur, h1, h2, h3, h4, h5⟩ := h.row
  obtain ⟨i, hi, hz, hs, hby⟩ := info5'
  have hll := h.len
  by_cases hroom : n + k ≤ cap
  · refine ⟨g, cap, _, zeros_room w 28 3 ty 5 i (.int .u8 0) .i64 .i64 Tryz.underlying28 Tryz.underlying3 hi hz hs rfl rfl g n cap k cur h1 h0 hroom (by omega) (by omega) (by rw [hby]; omega), ?_, (Kept.refl [g] w).setRow _ _ (.inl (by simp)), .inl rfl⟩
    refine Own.mk (setRow_heap w g _ _ _ _ h1) hroom h3 (by simp [h4]; omega) ?_ (by simp [hll])
    rw [bv_append, bv_zeros, ← h5]
    have := take_zeros (cur.toList.take n) (List.replicate k (Value.int .u8 0)) (cur.toList.drop (n + k)) n (by simp; omega)
    simpa using this
  · have hold := run_firstCells_some (P := Tryz.prog) (w := w.drew) 1 n ⟨g, 0, none⟩ n cap (bv L) (by simp [hll]) (fun j v hv => by
      obtain ⟨hj, rfl⟩ := bv_get hv
      have hx := h.cells (g := g) rfl j _ hv
      exact hx)
    have hnc := nextslicecap_le (need := n + k) (old := cap) (by omega)
    refine ⟨w.heap.size, _, _, Lib.run_append_grow_zeros w 28 3 ty 5 i (.int .u8 0) .i64 .i64 Tryz.underlying28 Tryz.underlying3 hi hz (some ⟨g, 0, none⟩) n cap (bv L) (by rw [hs]; exact hold) k h0 (by omega) (by omega) (by omega) (by rw [hby]; omega) (by rw [hby]; omega), ?_, (Kept.refl [g] w).drew.alloc _, .inr (Nat.le_refl _)⟩
    have hge := grownCap_ge w (n + k) cap 5
    refine Own.mk (blk_new w.drew _) hge (grownCap_le_maxLen w _ _ _ (by unfold maxLen; omega)) ?_ ?_ (by simp [hll])
    · simp [size_zeroCells, Value.cells, hll]; omega
    · rw [bv_append, bv_zeros]
      have := take_zeros (bv L) (List.replicate k (Value.int .u8 0)) (Builtin.zeroCells (Value.int .u8 0).cells (grownCap w (n + k) cap 5 - (n + k))).toList n (by simp [hll])
      simpa [zeros_toList] using this
end Go.Proofs.Base
