/- Parts of the proof, steps T28, P28: what the code and the plain laws of these steps give. Made by AI agents; no person has read it. -/
import Derived.Test.YthphjbjehccomaaGreatDoorT26
import Derived.Test.YthphjbjehccomaaGreatDoorT22
import Derived.Test.YthphjbjehccomaaGreatDoorH3
section
namespace Go.Proofs.Base
open Go Go.Proofs Go.RowKit Go.Proofs.Gaps
set_option maxRecDepth 100000
/-- The pieces in memory: place j has what D j says, and the text LS j. -/
structure Sheaf (w : World) (gp n f : Nat) (D : Nat → Pd) (LS : Nat → List Nat) : Prop where
  lt : gp < w.heap.size
  cell : ∀ j, 1 ≤ j → j ≤ n → ∃ ub uo uc, (∀ c v, (dC (D j) (.slice (some ⟨ub, uo, none⟩) (LS j).length uc)).toList[c]? = some v → w.cell? ⟨gp, (j - 1) * 9 + c, none⟩ = some v) ∧ BytesAt w ub uo (LS j)
  len : ∀ j, 1 ≤ j → j ≤ n → 0 < (LS j).length ∧ (LS j).length ≤ 200
  ok : ∀ j, 1 ≤ j → j ≤ n → (D j).ok ∧ (D j).tsn = tsn f j
theorem Sheaf.kept {w w' : World} {gp n f : Nat} {D : Nat → Pd} {LS : Nat → List Nat} (h : Sheaf w gp n f D LS) (k : Kept [] w w') : Sheaf w' gp n f D LS where
  lt := Nat.lt_of_lt_of_le h.lt k.size
  cell := fun j h1 h2 => by
    obtain ⟨ub, uo, uc, h3, h4⟩ := h.cell j h1 h2
    exact ⟨ub, uo, uc, fun c v hv => (k.cell (p := ⟨gp, (j - 1) * 9 + c, none⟩) h.lt (by simp)).trans (h3 c v hv), h4.kept k (by simp)⟩
  len := h.len
  ok := h.ok
/-- Blocks of cells that are neither a side's, nor numbers of 32 bits, nor pieces, are as they were. -/
def TF (a b : World) : Prop := ∀ (k : Nat) (cs : Array Value) (e : TypeId) (fr : Nat × Nat), a.heap[k]? = some (.cells cs e fr) → e ≠ 38 → e ≠ 22 → e ≠ 41 → b.heap[k]? = some (.cells cs e fr)
theorem TF.refl (a : World) : TF a a := fun _ _ _ _ h _ _ _ => h
theorem TF.trans {a b c : World} (h : TF a b) (k : TF b c) : TF a c := fun i cs e fr h0 h1 h2 h3 => k i cs e fr (h i cs e fr h0 h1 h2 h3) h1 h2 h3
theorem TF.of {a b : World} (k : Kept [] a b) : TF a b := fun i _ _ _ h0 _ _ _ => (k.block i (blk_lt h0) (by simp)).trans h0
theorem TF.row {a b : World} (h : TF a b) {base e sz n : Nat} {v : Value} {xs : List Value} (ho : a.ownsRow base e sz v n xs) (h1 : e ≠ 38) (h2 : e ≠ 22) (h3 : e ≠ 41) : b.ownsRow base e sz v n xs := by
  refine ⟨ho.1, ?_⟩
  rcases ho.2 with h4 | ⟨g, cap, cur, rfl, k1, k2, k3⟩
  · exact .inl h4
  · exact .inr ⟨g, cap, cur, rfl, k1, h _ _ _ _ k2 h1 h2 h3, k3⟩
/-- The cells of the pieces that came: place k's text lies at u. -/
def gotCells (D : Nat → Pd) (LS : Nat → List Nat) : List Nat → List (Nat × Nat) → List Value
  | k :: ks, u :: us => (dC (D k) (.slice (some ⟨u.1, 0, none⟩) (LS k).length u.2)).toList ++ gotCells D LS ks us
  | _, _ => []
theorem gotCells_snoc (D : Nat → Pd) (LS : Nat → List Nat) (k : Nat) (u : Nat × Nat) : ∀ (ks : List Nat) (us : List (Nat × Nat)), us.length = ks.length → gotCells D LS (ks ++ [k]) (us ++ [u]) = gotCells D LS ks us ++ (dC (D k) (.slice (some ⟨u.1, 0, none⟩) (LS k).length u.2)).toList
  | [], [], _ => by simp [gotCells]
  | a :: ks, b :: us, h => by
    simp only [List.cons_append, gotCells]
    rw [gotCells_snoc D LS k u ks us (by simpa using h), List.append_assoc]
  | [], b :: us, h => by simp at h
  | a :: ks, [], h => by simp at h
structure Got (w : World) (base : Nat) (LS : Nat → List Nat) (ks : List Nat) (us : List (Nat × Nat)) : Prop where
  len : us.length = ks.length
  at' : ∀ (i k : Nat) (u : Nat × Nat), ks[i]? = some k → us[i]? = some u → BB w u.1 (LS k) ∧ (LS k).length ≤ u.2 ∧ u.2 ≤ maxLen ∧ base ≤ u.1
theorem Got.kept {w w' : World} {S : List Nat} {base : Nat} {LS : Nat → List Nat} {ks : List Nat} {us : List (Nat × Nat)} (h : Got w base LS ks us) (k : Kept S w w') (hS : ∀ g cs, w.heap[g]? = some (.cells cs 5 (0, 0)) → g ∉ S) : Got w' base LS ks us :=
  ⟨h.len, fun i j u h1 h2 => by
    obtain ⟨h3, h4⟩ := h.at' i j u h1 h2
    obtain ⟨cs, h5⟩ := h3.2
    exact ⟨h3.kept k (hS u.1 cs h5), h4⟩⟩
theorem Got.snoc {w : World} {base : Nat} {LS : Nat → List Nat} {ks : List Nat} {us : List (Nat × Nat)} (h : Got w base LS ks us) {k : Nat} {u : Nat × Nat} (h1 : BB w u.1 (LS k)) (h2 : (LS k).length ≤ u.2) (h3 : u.2 ≤ maxLen) (h4 : base ≤ u.1) : Got w base LS (ks ++ [k]) (us ++ [u]) := by
  refine ⟨by simp [h.len], fun i j v hi hv => ?_⟩
  by_cases hlt : i < ks.length
  · rw [List.getElem?_append_left hlt] at hi
    rw [List.getElem?_append_left (by rw [h.len]; exact hlt)] at hv
    exact h.at' i j v hi hv
  · rw [List.getElem?_append_right (by omega)] at hi
    rw [List.getElem?_append_right (by rw [h.len]; omega)] at hv
    have h5 := h.len
    rw [h5] at hv
    cases hc : i - ks.length with
    | zero => rw [hc] at hi hv; simp at hi hv; subst hi hv; exact ⟨h1, h2, h3, h4⟩
    | succ q => rw [hc] at hi; simp at hi
/-- A side that receives, in memory: the numbers js came, the places ks once each. -/
structure St (w0 w : World) (f n s m : Nat) (D : Nat → Pd) (LS : Nat → List Nat) (js ks : List Nat) (vn vp : Value) (us : List (Nat × Nat)) : Prop where
  side : w.heap[s]? = some (.cells (sideC (tsn f 1) vn m vp) 38 (0, 0))
  map : w.heap[m]? = some (.map (metE (ks.map (tsn f))) (ks.map (tsn f)).length)
  numR : w.ownsRow w0.heap.size 22 1 vn js.length (u32s (nums f js))
  pcs : w.ownsRow w0.heap.size 41 9 vp ks.length (gotCells D LS ks us)
  got : Got w w0.heap.size LS ks us
  ki : KI n js ks
  le : ks.length ≤ js.length
  sb : w0.heap.size ≤ s
  mb : w0.heap.size ≤ m
  kept : Kept [] w0 w
theorem St.keep {w0 w w' : World} {f n s m : Nat} {D : Nat → Pd} {LS : Nat → List Nat} {js ks : List Nat} {vn vp : Value} {us : List (Nat × Nat)} (h : St w0 w f n s m D LS js ks vn vp us) (k : Kept [] w w') : St w0 w' f n s m D LS js ks vn vp us :=
  ⟨(k.block s (blk_lt h.side) (by simp)).trans h.side, (k.block m (blk_lt h.map) (by simp)).trans h.map, ownsRow_kept h.numR k (by simp), ownsRow_kept h.pcs k (by simp), h.got.kept k (by simp), h.ki, h.le, h.sb, h.mb, h.kept.trans k⟩
theorem St.apart {w0 w : World} {f n s m : Nat} {D : Nat → Pd} {LS : Nat → List Nat} {js ks : List Nat} {vn vp : Value} {us : List (Nat × Nat)} (h : St w0 w f n s m D LS js ks vn vp us) {g e : Nat} {cs : Array Value} {fr : Nat × Nat} (hg : w.heap[g]? = some (.cells cs e fr)) (h1 : e ≠ 38) (h2 : e ≠ 22) (h3 : e ≠ 41) : g ∉ s :: m :: (own vn ++ own vp) := by
  intro hm
  simp only [List.mem_cons, List.mem_append] at hm
  rcases hm with rfl | rfl | hm | hm
  · have := h.side; rw [hg] at this; simp only [Option.some.injEq, Obj.cells.injEq] at this; exact h1 this.2.1
  · have := h.map; rw [hg] at this; simp at this
  · exact own_far h.numR hg h2 hm
  · exact own_far h.pcs hg h3 hm
theorem St.start {w0 w : World} {f n s m : Nat} {D : Nat → Pd} {LS : Nat → List Nat} (h1 : w.heap[s]? = some (.cells (sideC (tsn f 1) (.slice none 0 0) m (.slice none 0 0)) 38 (0, 0))) (h2 : w.heap[m]? = some (.map (metE []) ([] : List Nat).length)) (hs : w0.heap.size ≤ s) (hm : w0.heap.size ≤ m) (k : Kept [] w0 w) : St w0 w f n s m D LS [] [] (.slice none 0 0) (.slice none 0 0) [] :=
  ⟨h1, h2, World.ownsRow_nil _ _ _ _, World.ownsRow_nil _ _ _ _, ⟨rfl, fun i k u h => by simp at h⟩, KI.start n, Nat.le_refl _, hs, hm, k⟩
theorem nums_snoc (f : Nat) (js : List Nat) (j : Nat) : nums f (js ++ [j]) = nums f js ++ [tsn f j] := by simp [nums]
/-- A piece comes: what comes_ok says, as the side's state. -/
theorem St.step {w0 w w' : World} {f n s m j : Nat} {D : Nat → Pd} {LS : Nat → List Nat} {js ks : List Nat} {vn vp : Value} {us : List (Nat × Nat)} (h : St w0 w f n s m D LS js ks vn vp us) (hn : n < 64) (hj1 : 1 ≤ j) (hj2 : j ≤ n) (ht : (D j).tsn = tsn f j) {vn' vp' : Value} {g cap' : Nat}
    (hS : w'.heap[s]? = some (.cells (sideC (tsn f 1) vn' m vp') 38 (0, 0))) (hN : w'.ownsRow w0.heap.size 22 1 vn' ((nums f js).length + 1) (u32s (nums f js ++ [(D j).tsn])))
    (hin : (D j).tsn ∈ ks.map (tsn f) → w'.heap[m]? = some (.map (metE (ks.map (tsn f))) (ks.map (tsn f)).length) ∧ vp' = vp ∧ w'.ownsRow w0.heap.size 41 9 vp' ks.length (gotCells D LS ks us))
    (hout : (D j).tsn ∉ ks.map (tsn f) → w'.heap[m]? = some (.map (metE (ks.map (tsn f) ++ [(D j).tsn])) (ks.map (tsn f) ++ [(D j).tsn]).length) ∧ w'.ownsRow w0.heap.size 41 9 vp' (ks.length + 1) (gotCells D LS ks us ++ (dC (D j) (.slice (some ⟨g, 0, none⟩) (LS j).length cap')).toList))
    (hb : BB w' g (LS j)) (hc : (LS j).length ≤ cap') (hc' : cap' ≤ maxLen) (hg : w.heap.size ≤ g) (hk : Kept (s :: m :: (own vn ++ own vp)) w w') :
    (∃ ks' vn' vp' us', St w0 w' f n s m D LS (js ++ [j]) ks' vn' vp' us') ∧ TF w w' := by
  have hkm : ∀ k ∈ ks, k < 64 := fun k hk => by have := h.ki.all k ((h.ki.mem k).1 hk); omega
  have hk0 : Kept [] w0 w' := h.kept.thenNew hk (by
    intro r hr
    right
    simp only [List.mem_cons, List.mem_append] at hr
    rcases hr with rfl | rfl | hr | hr
    · exact h.sb
    · exact h.mb
    · exact own_ge h.numR hr
    · exact own_ge h.pcs hr)
  have hgot : Got w' w0.heap.size LS ks us := h.got.kept hk (fun g cs hg => h.apart hg (by decide) (by decide) (by decide))
  have hlen : (nums f js).length = js.length := by simp [nums]
  rw [hlen, ht, ← nums_snoc, show js.length + 1 = (js ++ [j]).length by simp] at hN
  refine ⟨?_, fun k cs e fr h0 h1 h2 h3 => (hk.block k (blk_lt h0) (h.apart h0 h1 h2 h3)).trans h0⟩
  rw [ht] at hin hout
  by_cases hm : j ∈ ks
  · obtain ⟨h1, rfl, h3⟩ := hin ((mem_keys hkm (by omega)).2 hm)
    exact ⟨ks, vn', vp', us, hS, h1, hN, h3, hgot, h.ki.again hm, by have := h.le; simp; omega, h.sb, h.mb, hk0⟩
  · obtain ⟨h1, h3⟩ := hout (fun hx => hm ((mem_keys hkm (by omega)).1 hx))
    have e : ks.map (tsn f) ++ [tsn f j] = (ks ++ [j]).map (tsn f) := by simp
    rw [e] at h1
    have hs := h.kept.size
    refine ⟨ks ++ [j], vn', vp', us ++ [(g, cap')], hS, h1, hN, ?_, hgot.snoc hb hc hc' (show w0.heap.size ≤ g by omega), h.ki.add hm hj1 hj2, by have := h.le; simp; omega, h.sb, h.mb, hk0⟩
    rw [gotCells_snoc D LS j (g, cap') ks us h.got.len, List.length_append]
    exact h3
end Go.Proofs.Base
end
section
namespace Go.Proofs.Base
open Go Go.Proofs Go.RowKit
set_option maxRecDepth 100000
theorem bt_set (R : List Nat) (i v j : Nat) (hi : i < R.length) : bt (R.set i v) j = if i = j then v else bt R j := by
  unfold bt
  by_cases h : i = j
  · subst h; simp [hi]
  · simp [h]
/-- THE PLAIN LAW: a packet with one byte turned does not bear its checksum. -/
theorem turned (R : List Nat) (hR : ∀ x ∈ R, x < 256) (hsum : le4 (bt R 8) (bt R 9) (bt R 10) (bt R 11) = Crc.sum R) (i v : Nat) (hi : i < R.length) (hv : v < 256) (hne : v ≠ bt R i) :
    le4 (bt (R.set i v) 8) (bt (R.set i v) 9) (bt (R.set i v) 10) (bt (R.set i v) 11) ≠ Crc.sum (R.set i v) := by
  have hne' : R[i] ≠ v := by rw [← bt_get hi]; exact fun h => hne h.symm
  rw [bt_set R i v 8 hi, bt_set R i v 9 hi, bt_set R i v 10 hi, bt_set R i v 11 hi]
  have b8 := bt_lt hR 8
  have b9 := bt_lt hR 9
  have b10 := bt_lt hR 10
  have b11 := bt_lt hR 11
  by_cases hin : 8 ≤ i ∧ i < 12
  · rw [Crc.sum_field R i v hin.1 hin.2, ← hsum]
    obtain rfl | rfl | rfl | rfl : i = 8 ∨ i = 9 ∨ i = 10 ∨ i = 11 := by omega
    all_goals simp [le4]; omega
  · rw [if_neg (by omega), if_neg (by omega), if_neg (by omega), if_neg (by omega), hsum]
    exact fun h => Crc.sum_turn R hR i v hi hv hne' (by omega) h.symm
theorem msgPieces_prop {first size idx st num L C ab ao : Nat} (hs1 : 1 ≤ size) (hL : L ≤ 200) (hst : st ≤ 2) (hnum : num ≤ 6) (hidx : idx ≤ 6) : ∀ (f k count : Nat), ∀ p ∈ msgPieces first size idx st num L C ab ao f k count, ∃ k', k' + p.n ≤ L ∧ 0 < p.n ∧ p.b = ab ∧ p.o = ao + k' ∧ p.cap = C - k' ∧ p.d.ok
  | 0, _, _, p, hp => by simp [msgPieces] at hp
  | f + 1, k, count, p, hp => by
    rw [msgPieces] at hp
    by_cases hk : k < L
    · rw [if_pos hk] at hp
      rcases List.mem_cons.1 hp with rfl | hp
      · refine ⟨k, ?_, ?_, rfl, rfl, rfl, ?_, ?_, ?_, ?_⟩ <;> simp only [pieceAt] <;> omega
      · exact msgPieces_prop hs1 hL hst hnum hidx f _ _ p hp
    · rw [if_neg hk] at hp; cases hp
theorem allPieces_prop {first size len : Nat} {st L C ab ao : Nat → Nat} (hs1 : 1 ≤ size) (hlen : len ≤ 6) (hL : ∀ i, i < len → L i ≤ 200) (hst : ∀ i, i < len → st i ≤ 2) : ∀ (f i : Nat) (nums : Nat → Nat) (count : Nat), (∀ j, nums j ≤ i) → ∀ p ∈ allPieces first size len st L C ab ao f i nums count,
    ∃ m k, m < len ∧ k + p.n ≤ L m ∧ 0 < p.n ∧ p.b = ab m ∧ p.o = ao m + k ∧ p.cap = C m - k ∧ p.d.ok
  | 0, _, _, _, _, p, hp => by simp [allPieces] at hp
  | f + 1, i, nums, count, hn, p, hp => by
    rw [allPieces] at hp
    by_cases hi : i < len
    · rw [if_pos hi] at hp
      rcases List.mem_append.1 hp with hp | hp
      · obtain ⟨k, h⟩ := msgPieces_prop hs1 (hL i hi) (hst i hi) (by have := hn (st i); omega) (by omega) _ _ _ p hp
        exact ⟨i, k, hi, h⟩
      · exact allPieces_prop hs1 hlen hL hst f (i + 1) _ _ (fun j => by have := hn j; unfold bump; split <;> omega) p hp
    · rw [if_neg hi] at hp; cases hp
theorem allPieces_some {first size len : Nat} {st L C ab ao : Nat → Nat} (hlen : 1 ≤ len) (hL : 1 ≤ L 0) : 0 < (allPieces first size len st L C ab ao len 0 (fun _ => 0) 0).length := by
  obtain ⟨n, rfl⟩ : ∃ n, len = n + 1 := ⟨len - 1, by omega⟩
  obtain ⟨m, hm⟩ : ∃ m, L 0 = m + 1 := ⟨L 0 - 1, by omega⟩
  rw [allPieces, if_pos (by omega), hm, msgPieces, if_pos (by omega)]
  simp
theorem pcCells_get : ∀ (ps : List Pc) (j c : Nat) (hj : j < ps.length), c < 9 → (pcCells ps)[j * 9 + c]? = (dC ps[j].d ps[j].user).toList[c]?
  | p :: ps, 0, c, _, hc => by
    simp only [pcCells, List.flatMap_cons, Nat.zero_mul, Nat.zero_add, List.getElem_cons_zero]
    rw [List.getElem?_append_left (by simpa [dC] using hc)]
  | p :: ps, j + 1, c, hj, hc => by
    have ih := pcCells_get ps j c (by simpa using hj) hc
    simp only [pcCells, List.flatMap_cons, List.getElem_cons_succ] at ih ⊢
    rw [List.getElem?_append_right (by simp [dC]; omega)]
    rw [← ih]
    congr 1
    simp [dC]; omega
end Go.Proofs.Base
end
