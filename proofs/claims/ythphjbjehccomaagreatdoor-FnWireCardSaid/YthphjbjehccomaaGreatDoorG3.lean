/- A part of the proof, step G3: what the code and the plain laws of this step give. Made by AI agents; no person has read it. -/
import Derived.Test.YthphjbjehccomaaGreatDoorP9
namespace Go.Proofs.Base
open Go Go.Proofs Go.RowKit
set_option maxRecDepth 100000
/-- What a chunk that tells what came holds. -/
structure Sk where
  tsn : Nat
  gaps : List (Nat × Nat)
  dups : List Nat
structure Sk.ok (s : Sk) : Prop where
  tsn : s.tsn < 4294967296
  gaps : ∀ g ∈ s.gaps, g.1 < 65536 ∧ g.2 < 65536
  dups : ∀ d ∈ s.dups, d < 4294967296
  few : s.gaps.length < 1000
  fewd : s.dups.length < 1000
def two (v : Nat) : List Nat := [v / 256, v % 256]
def four (v : Nat) : List Nat := [v / 16777216, v / 65536 % 256, v / 256 % 256, v % 256]
def gapB (l : List (Nat × Nat)) : List Nat := l.flatMap fun g => two g.1 ++ two g.2
def dupB (l : List Nat) : List Nat := l.flatMap four
/-- The value of such a chunk. -/
def sackPay (s : Sk) : List Nat := four s.tsn ++ (four 0 ++ (two s.gaps.length ++ (two s.dups.length ++ (gapB s.gaps ++ dupB s.dups))))
def Sk.len (s : Sk) : Nat := 12 + 4 * s.gaps.length + 4 * s.dups.length
def sackBytes (s : Sk) : List Nat := 3 :: 0 :: ((4 + s.len) / 256) :: ((4 + s.len) % 256) :: sackPay s
@[simp] theorem len_two (v : Nat) : (two v).length = 2 := rfl
@[simp] theorem len_four (v : Nat) : (four v).length = 4 := rfl
theorem gapB_cons (g : Nat × Nat) (r : List (Nat × Nat)) : gapB (g :: r) = two g.1 ++ two g.2 ++ gapB r := by simp [gapB]
theorem dupB_cons (d : Nat) (r : List Nat) : dupB (d :: r) = four d ++ dupB r := by simp [dupB]
theorem len_gapB (l : List (Nat × Nat)) : (gapB l).length = 4 * l.length := by
  induction l with
  | nil => rfl
  | cons g r ih => rw [gapB_cons]; simp [ih]; omega
theorem len_dupB (l : List Nat) : (dupB l).length = 4 * l.length := by
  induction l with
  | nil => rfl
  | cons g r ih => rw [dupB_cons]; simp [ih]; omega
theorem len_sackPay (s : Sk) : (sackPay s).length = s.len := by
  simp only [sackPay, List.length_append, len_gapB, len_dupB, Sk.len]
  simp only [four, two, List.length_cons, List.length_nil]; omega
theorem len_sackBytes (s : Sk) : (sackBytes s).length = 4 + s.len := by simp only [sackBytes, List.length_cons, len_sackPay]; omega
theorem small_two {v : Nat} (h : v < 65536) : ∀ x ∈ two v, x < 256 := by intro x hx; simp [two] at hx; omega
theorem small_four {v : Nat} (h : v < 4294967296) : ∀ x ∈ four v, x < 256 := by intro x hx; simp [four] at hx; omega
theorem small_sackPay (s : Sk) (h : s.ok) : ∀ x ∈ sackPay s, x < 256 := by
  intro x hx
  simp only [sackPay, List.mem_append] at hx
  rcases hx with hx | hx | hx | hx | hx | hx
  · exact small_four h.tsn x hx
  · exact small_four (by omega) x hx
  · exact small_two (by have := h.few; omega) x hx
  · exact small_two (by have := h.fewd; omega) x hx
  · obtain ⟨g, hg, hx⟩ := List.mem_flatMap.1 hx
    have := h.gaps g hg
    rcases List.mem_append.1 hx with hx | hx
    · exact small_two this.1 x hx
    · exact small_two this.2 x hx
  · obtain ⟨d, hd, hx⟩ := List.mem_flatMap.1 hx
    exact small_four (h.dups d hd) x hx
theorem small_sackBytes (s : Sk) (h : s.ok) : ∀ x ∈ sackBytes s, x < 256 := by
  intro x hx
  have h1 := h.few
  have h2 := h.fewd
  simp only [sackBytes, List.mem_cons, Sk.len] at hx
  rcases hx with rfl | rfl | rfl | rfl | hx
  · omega
  · omega
  · omega
  · omega
  · exact small_sackPay s h x hx
/-- Numbers put behind what stands. -/
theorem put2_at (pre rest : List Nat) (a b v o : Nat) (h : pre.length = o) : put2 (pre ++ a :: b :: rest) o v = pre ++ (two v ++ rest) := by
  subst h
  simp [put2, two, List.set_append_right]
theorem put4_at (pre rest : List Nat) (a b c d v o : Nat) (h : pre.length = o) : put4 (pre ++ a :: b :: c :: d :: rest) o v = pre ++ (four v ++ rest) := by
  subst h
  simp [put4, four, List.set_append_right]
theorem rep_two (n : Nat) : List.replicate (2 + n) 0 = 0 :: 0 :: List.replicate n 0 := by rw [Nat.add_comm]; rfl
theorem rep_four (n : Nat) : List.replicate (4 + n) 0 = 0 :: 0 :: 0 :: 0 :: List.replicate n 0 := by rw [Nat.add_comm]; rfl
theorem put2_zeros (pre : List Nat) (n v o : Nat) (h : pre.length = o) : put2 (pre ++ List.replicate (2 + n) 0) o v = pre ++ two v ++ List.replicate n 0 := by rw [rep_two, put2_at _ _ _ _ _ _ h, List.append_assoc]
theorem put4_zeros (pre : List Nat) (n v o : Nat) (h : pre.length = o) : put4 (pre ++ List.replicate (4 + n) 0) o v = pre ++ four v ++ List.replicate n 0 := by rw [rep_four, put4_at _ _ _ _ _ _ _ _ h, List.append_assoc]
theorem gapB_snoc (l : List (Nat × Nat)) (g : Nat × Nat) : gapB (l ++ [g]) = gapB l ++ two g.1 ++ two g.2 := by simp [gapB]
theorem dupB_snoc (l : List Nat) (d : Nat) : dupB (l ++ [d]) = dupB l ++ four d := by simp [dupB]
theorem gapB_drop (l : List (Nat × Nat)) (i : Nat) : (gapB l).drop (4 * i) = gapB (l.drop i) := by
  induction i generalizing l with
  | zero => rfl
  | succ i ih =>
    cases l with
    | nil => simp [gapB]
    | cons g r =>
      have e : gapB (g :: r) = (two g.1 ++ two g.2) ++ gapB r := by simp [gapB]
      rw [e, show 4 * (i + 1) = 4 + 4 * i by omega, ← List.drop_drop, List.drop_left' (by simp [two]), List.drop_succ_cons]
      exact ih r
theorem dupB_drop (l : List Nat) (i : Nat) : (dupB l).drop (4 * i) = dupB (l.drop i) := by
  induction i generalizing l with
  | zero => rfl
  | succ i ih =>
    cases l with
    | nil => simp [dupB]
    | cons g r =>
      have e : dupB (g :: r) = four g ++ dupB r := by simp [dupB]
      rw [e, show 4 * (i + 1) = 4 + 4 * i by omega, ← List.drop_drop, List.drop_left' (by simp [four]), List.drop_succ_cons]
      exact ih r
/-- What stands at the place of a gap. -/
theorem pay_gap (s : Sk) (i : Nat) (hi : i < s.gaps.length) : (sackPay s).drop (12 + 4 * i) = two (s.gaps[i]).1 ++ two (s.gaps[i]).2 ++ (gapB (s.gaps.drop (i + 1)) ++ dupB s.dups) := by
  have e : sackPay s = (four s.tsn ++ (four 0 ++ (two s.gaps.length ++ two s.dups.length))) ++ (gapB s.gaps ++ dupB s.dups) := by simp [sackPay]
  rw [e, ← List.drop_drop, List.drop_left' (by simp [four, two]), List.drop_append_of_le_length (by rw [len_gapB]; omega), gapB_drop, List.drop_eq_getElem_cons hi, gapB_cons]
  simp
theorem pay_dup (s : Sk) (i : Nat) (hi : i < s.dups.length) : (sackPay s).drop (12 + 4 * s.gaps.length + 4 * i) = four (s.dups[i]) ++ dupB (s.dups.drop (i + 1)) := by
  have e : sackPay s = (four s.tsn ++ (four 0 ++ (two s.gaps.length ++ (two s.dups.length ++ gapB s.gaps)))) ++ dupB s.dups := by simp [sackPay]
  rw [e, ← List.drop_drop, List.drop_left' (by simp [four, two, len_gapB]; omega), dupB_drop, List.drop_eq_getElem_cons hi, dupB_cons]
end Go.Proofs.Base
