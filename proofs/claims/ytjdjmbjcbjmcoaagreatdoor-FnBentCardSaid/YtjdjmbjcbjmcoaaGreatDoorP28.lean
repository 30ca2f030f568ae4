/- A part of the proof, step P28: what the code and the plain laws of this step give. Made by AI agents; no person has read it. -/
import Derived.Test.YtjdjmbjcbjmcoaaGreatDoorP27
namespace Go.Proofs.Base
open Go Go.Proofs Go.RowKit
theorem bt_set (R : List Nat) (i v j : Nat) (hi : i < R.length) : bt (R.set i v) j = if i = j then v else bt R j := by
  unfold bt
  by_cases h : i = j
  · subst h; simp [hi]
  · simp [h]
/-- THE PLAIN LAW: a packet with one byte turned does not bear its checksum. -/
theorem turned (R : List Nat) (hR : ∀ x ∈ R, x < 256) (hsum : le4 (bt R 8) (bt R 9) (bt R 10) (bt R 11) = Crc.sum R) (i v : Nat) (hi : i < R.length) (hv : v < 256) (hne : v ≠ bt R i) :
    le4 (bt (R.set i v) 8) (bt (R.set i v) 9) (bt (R.set i v) 10) (bt (R.set i v) 11) ≠ Crc.sum (R.set i v) := by
  have hne' : R[i] ≠ v := by rw [← bt_get hi]; exact fun h => hne h.symm
  rw [bt_set R i v 8 hi, bt_set R i v 9 hi, bt_set R i v 10 hi, bt_set R i v 11 hi]
  have b8 := bt_lt hR 8
  have b9 := bt_lt hR 9
  have b10 := bt_lt hR 10
  have b11 := bt_lt hR 11
  by_cases hin : 8 ≤ i ∧ i < 12
  · rw [Crc.sum_field R i v hin.1 hin.2, ← hsum]
    obtain rfl | rfl | rfl | rfl : i = 8 ∨ i = 9 ∨ i = 10 ∨ i = 11 := by omega
    all_goals simp [le4]; omega
  · rw [if_neg (by omega), if_neg (by omega), if_neg (by omega), if_neg (by omega), hsum]
    exact fun h => Crc.sum_turn R hR i v hi hv hne' (by omega) h.symm
theorem msgPieces_prop {first size idx st num L C ab ao : Nat} (hs1 : 1 ≤ size) (hL : L ≤ 200) (hst : st ≤ 2) (hnum : num ≤ 6) (hidx : idx ≤ 6) : ∀ (f k count : Nat), ∀ p ∈ msgPieces first size idx st num L C ab ao f k count, ∃ k', k' + p.n ≤ L ∧ 0 < p.n ∧ p.b = ab ∧ p.o = ao + k' ∧ p.cap = C - k' ∧ p.d.ok
  | 0, _, _, p, hp => by simp [msgPieces] at hp
  | f + 1, k, count, p, hp => by
    rw [msgPieces] at hp
    by_cases hk : k < L
    · rw [if_pos hk] at hp
      rcases List.mem_cons.1 hp with rfl | hp
      · refine ⟨k, ?_, ?_, rfl, rfl, rfl, ?_, ?_, ?_, ?_⟩ <;> simp only [pieceAt] <;> omega
      · exact msgPieces_prop hs1 hL hst hnum hidx f _ _ p hp
    · rw [if_neg hk] at hp; cases hp
theorem allPieces_prop {first size len : Nat} {st L C ab ao : Nat → Nat} (hs1 : 1 ≤ size) (hlen : len ≤ 6) (hL : ∀ i, i < len → L i ≤ 200) (hst : ∀ i, i < len → st i ≤ 2) : ∀ (f i : Nat) (nums : Nat → Nat) (count : Nat), (∀ j, nums j ≤ i) → ∀ p ∈ allPieces first size len st L C ab ao f i nums count,
    ∃ m k, m < len ∧ k + p.n ≤ L m ∧ 0 < p.n ∧ p.b = ab m ∧ p.o = ao m + k ∧ p.cap = C m - k ∧ p.d.ok
  | 0, _, _, _, _, p, hp => by simp [allPieces] at hp
  | f + 1, i, nums, count, hn, p, hp => by
    rw [allPieces] at hp
    by_cases hi : i < len
    · rw [if_pos hi] at hp
      rcases List.mem_append.1 hp with hp | hp
      · obtain ⟨k, h⟩ := msgPieces_prop hs1 (hL i hi) (hst i hi) (by have := hn (st i); omega) (by omega) _ _ _ p hp
        exact ⟨i, k, hi, h⟩
      · exact allPieces_prop hs1 hlen hL hst f (i + 1) _ _ (fun j => by have := hn j; unfold bump; split <;> omega) p hp
    · rw [if_neg hi] at hp; cases hp
theorem allPieces_some {first size len : Nat} {st L C ab ao : Nat → Nat} (hlen : 1 ≤ len) (hL : 1 ≤ L 0) : 0 < (allPieces first size len st L C ab ao len 0 (fun _ => 0) 0).length := by
  obtain ⟨n, rfl⟩ : ∃ n, len = n + 1 := ⟨len - 1, by omega⟩
  obtain ⟨m, hm⟩ : ∃ m, L 0 = m + 1 := ⟨L 0 - 1, by omega⟩
  rw [allPieces, if_pos (by omega), hm, msgPieces, if_pos (by omega)]
  simp
theorem pcCells_get : ∀ (ps : List Pc) (j c : Nat) (hj : j < ps.length), c < 9 → (pcCells ps)[j * 9 + c]? = (dC ps[j].d ps[j].user).toList[c]?
  | p :: ps, 0, c, _, hc => by
    simp only [pcCells, List.flatMap_cons, Nat.zero_mul, Nat.zero_add, List.getElem_cons_zero]
    rw [List.getElem?_append_left (by simpa [dC] using hc)]
  | p :: ps, j + 1, c, hj, hc => by
    have ih := pcCells_get ps j c (by simpa using hj) hc
    simp only [pcCells, List.flatMap_cons, List.getElem_cons_succ] at ih ⊢
    rw [List.getElem?_append_right (by simp [dC]; omega)]
    rw [← ih]
    congr 1
    simp [dC]; omega
end Go.Proofs.Base
