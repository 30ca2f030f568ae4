/- Parts of the proof, steps G1, G2, G4, G5, G6: what the code and the plain laws of these steps give. Made by AI agents; no person has read it. -/
import Derived.Lib.TrailingZeros
section
namespace Go.Proofs.Gaps
open Go
theorem ctz_spec (x : Nat) (hx : x < 2 ^ 64) : (x = 0 ∧ Lib.ctz 64 x = 64) ∨ (Lib.ctz 64 x < 64 ∧ x.testBit (Lib.ctz 64 x) = true ∧ ∀ j, j < Lib.ctz 64 x → x.testBit j = false) := by
  by_cases h : x = 0
  · left; exact ⟨h, by simp [Lib.ctz, h]⟩
  · right
    obtain ⟨m, hm, hk⟩ := Lib.ctzFrom_spec 64 x (by omega) hx
    have e : Lib.ctz 64 x = Lib.ctzFrom 64 x := by simp [Lib.ctz, h]
    rw [e]
    generalize Lib.ctzFrom 64 x = k at *
    have tb : ∀ j, x.testBit j = (decide (j ≥ k) && (2 * m + 1).testBit (j - k)) := fun j => by rw [hm, Nat.testBit_two_pow_mul]
    refine ⟨hk, ?_, fun j hj => ?_⟩
    · rw [tb]; simp
    · rw [tb]; simp; omega
theorem bit_lt {x j : Nat} (hx : x < 2 ^ 64) (h : x.testBit j = true) : j < 64 := by
  rcases Nat.lt_or_ge j 64 with h1 | h1
  · exact h1
  · rw [Nat.testBit_lt_two_pow (Nat.lt_of_lt_of_le hx (Nat.pow_le_pow_right (by omega) h1))] at h; cases h
/-- The number that getFirstNonZeroBit tells, from s on. -/
def firstOne (x s : Nat) : Nat := Lib.ctz 64 (x >>> s) + s
theorem firstOne_spec {x s : Nat} (hx : x < 2 ^ 64) (hs : s < 64) :
    (64 ≤ firstOne x s ∧ ∀ j, s ≤ j → x.testBit j = false) ∨ (firstOne x s < 64 ∧ s ≤ firstOne x s ∧ x.testBit (firstOne x s) = true ∧ ∀ j, s ≤ j → j < firstOne x s → x.testBit j = false) := by
  have hsx : x >>> s < 2 ^ 64 := by rw [Nat.shiftRight_eq_div_pow]; exact Nat.lt_of_le_of_lt (Nat.div_le_self _ _) hx
  unfold firstOne
  rcases ctz_spec (x >>> s) hsx with ⟨h0, h1⟩ | ⟨h1, h2, h3⟩
  · left
    refine ⟨by omega, fun j hj => ?_⟩
    have : (x >>> s).testBit (j - s) = false := by rw [h0]; simp
    rw [Nat.testBit_shiftRight, show s + (j - s) = j by omega] at this
    exact this
  · right
    rw [Nat.testBit_shiftRight] at h2
    have hl := bit_lt hx h2
    refine ⟨by omega, by omega, by rw [Nat.add_comm]; exact h2, fun j hj hj' => ?_⟩
    have := h3 (j - s) (by omega)
    rw [Nat.testBit_shiftRight, show s + (j - s) = j by omega] at this
    exact this
/-- All bits turned. -/
def flip (x : Nat) : Nat := 18446744073709551615 - x
theorem flip_lt (x : Nat) : flip x < 2 ^ 64 := by unfold flip; omega
theorem flip_bit {x j : Nat} (hx : x < 2 ^ 64) (hj : j < 64) : (flip x).testBit j = !x.testBit j := by
  have e : flip x = 2 ^ 64 - (x + 1) := by unfold flip; omega
  rw [e, Nat.testBit_two_pow_sub_succ hx]
  simp [hj]
theorem or_bit (x o j : Nat) : (x ||| 2 ^ o).testBit j = (x.testBit j || decide (o = j)) := by rw [Nat.testBit_or, Nat.testBit_two_pow]
theorem off_bit {x o j : Nat} (hx : x < 2 ^ 64) (ho : o < 64) : (x &&& flip (2 ^ o)).testBit j = (x.testBit j && !decide (o = j)) := by
  have h2 : 2 ^ o < 2 ^ 64 := Nat.pow_lt_pow_right (by omega) ho
  rw [Nat.testBit_and]
  by_cases hj : j < 64
  · rw [flip_bit h2 hj, Nat.testBit_two_pow]
  · have : x.testBit j = false := by
      cases h : x.testBit j with
      | false => rfl
      | true => exact absurd (bit_lt hx h) hj
    simp [this]
theorem and_bit (x o : Nat) : (x &&& 2 ^ o = 0) ↔ x.testBit o = false := by
  constructor
  · intro h
    have : (x &&& 2 ^ o).testBit o = false := by rw [h]; simp
    rw [Nat.testBit_and, Nat.testBit_two_pow_self, Bool.and_true] at this
    exact this
  · intro h
    apply Nat.eq_of_testBit_eq
    intro j
    rw [Nat.testBit_and, Nat.testBit_two_pow, Nat.zero_testBit]
    by_cases e : o = j
    · subst e; simp [h]
    · simp [e]
theorem or_lt {x o : Nat} (hx : x < 2 ^ 64) (ho : o < 64) : x ||| 2 ^ o < 2 ^ 64 := Nat.or_lt_two_pow hx (Nat.pow_lt_pow_right (by omega) ho)
theorem and_lt {x y : Nat} (hx : x < 2 ^ 64) : x &&& y < 2 ^ 64 := Nat.lt_of_le_of_lt Nat.and_le_left hx
end Go.Proofs.Gaps
end
section
namespace Go.Proofs.Gaps
/-- The number j behind f, in 32 bits. -/
def tsn (f j : Nat) : Nat := (f + j) % 4294967296
def idx (f j : Nat) : Nat := tsn f j / 64 % 625
def off (f j : Nat) : Nat := tsn f j % 64
theorem tsn_lt (f j : Nat) : tsn f j < 4294967296 := Nat.mod_lt _ (by omega)
theorem off_lt (f j : Nat) : off f j < 64 := Nat.mod_lt _ (by omega)
theorem idx_lt (f j : Nat) : idx f j < 625 := Nat.mod_lt _ (by omega)
theorem tsn_tsn (f i j : Nat) : tsn (tsn f i) j = tsn f (i + j) := by unfold tsn; omega
/-- How far a number stands behind f. -/
def rel (f t : Nat) : Nat := (t + (4294967296 - f % 4294967296)) % 4294967296
theorem rel_tsn {f j : Nat} (hj : j < 4294967296) : rel f (tsn f j) = j := by unfold rel tsn; omega
theorem tsn_inj {f i j : Nat} (hi : i < 64) (hj : j < 64) (h : tsn f i = tsn f j) : i = j := by unfold tsn at h; omega
theorem div_near {a b i j F : Nat} (hi : i < 64) (hj : j < 64) (hF : F < 4294967296) (ha : a = (F + i) % 4294967296) (hb : b = (F + j) % 4294967296) (h : a / 64 % 625 = b / 64 % 625) : a / 64 = b / 64 := by
  rcases Nat.lt_or_ge (F + i) 4294967296 with h1 | h1 <;> rcases Nat.lt_or_ge (F + j) 4294967296 with h2 | h2
  · rw [Nat.mod_eq_of_lt h1] at ha
    rw [Nat.mod_eq_of_lt h2] at hb
    omega
  · rw [Nat.mod_eq_of_lt h1] at ha
    have hb' : b = F + j - 4294967296 := by omega
    have e1 : b / 64 = 0 := by omega
    have e2 : a / 64 = 67108863 := by omega
    rw [e1, e2] at h
    omega
  · rw [Nat.mod_eq_of_lt h2] at hb
    have ha' : a = F + i - 4294967296 := by omega
    have e1 : a / 64 = 0 := by omega
    have e2 : b / 64 = 67108863 := by omega
    rw [e1, e2] at h
    omega
  · have ha' : a = F + i - 4294967296 := by omega
    have hb' : b = F + j - 4294967296 := by omega
    have e1 : a / 64 = 0 := by omega
    have e2 : b / 64 = 0 := by omega
    rw [e1, e2]
/-- Numbers that are near each other have different bits. -/
theorem bits_inj {f i j : Nat} (hi : i < 64) (hj : j < 64) (h1 : idx f i = idx f j) (h2 : off f i = off f j) : i = j := by
  refine tsn_inj (f := f) hi hj ?_
  have hq : tsn f i / 64 = tsn f j / 64 := div_near (F := f % 4294967296) hi hj (Nat.mod_lt _ (by omega)) (by unfold tsn; omega) (by unfold tsn; omega) h1
  have e1 := Nat.div_add_mod (tsn f i) 64
  have e2 := Nat.div_add_mod (tsn f j) 64
  unfold off at h2
  rw [← e1, ← e2, hq, h2]
/-- The next numbers in the same word. -/
theorem same_word {f p i : Nat} (h : off f p + i < 64) : idx f (p + i) = idx f p ∧ off f (p + i) = off f p + i := by
  unfold idx off at *
  have e : tsn f (p + i) = tsn (tsn f p) i := (tsn_tsn f p i).symm
  have hl := tsn_lt f p
  rw [e]
  generalize tsn f p = t at *
  have : tsn t i = t + i := by unfold tsn; omega
  rw [this]
  constructor
  · congr 1; omega
  · omega
/-- The words hold just the bits of the numbers that are queued. -/
def Words (f N : Nat) (S : Nat → Bool) (W : Nat → Nat) : Prop := (∀ k, k < 625 → W k < 2 ^ 64) ∧ ∀ j, j ≤ N → (W (idx f j)).testBit (off f j) = S j
theorem Words.push {f N : Nat} {S : Nat → Bool} {W : Nat → Nat} (h : Words f N S W) (hN : N < 64) {t : Nat} (ht : t ≤ N) :
    Words f N (fun j => S j || decide (j = t)) (fun k => if k = idx f t then W k ||| 2 ^ off f t else W k) := by
  refine ⟨fun k hk => ?_, fun j hj => ?_⟩
  · by_cases e : k = idx f t
    · simp only [e, if_true]; exact or_lt (h.1 _ (idx_lt f t)) (off_lt f t)
    · simp only [e, if_false]; exact h.1 k hk
  · by_cases e : idx f j = idx f t
    · simp only [e, if_true]
      rw [or_bit, ← e, h.2 j hj]
      congr 1
      by_cases e2 : off f t = off f j
      · have := bits_inj (by omega) (by omega) e e2.symm
        simp [e2, this]
      · have : j ≠ t := fun e3 => e2 (by rw [e3])
        simp [e2, this]
    · simp only [e, if_false]
      rw [h.2 j hj]
      have : j ≠ t := fun e3 => e (by rw [e3])
      simp [this]
theorem Words.pop {f N : Nat} {S : Nat → Bool} {W : Nat → Nat} (h : Words f N S W) (hN : N < 64) {t : Nat} (ht : t ≤ N) :
    Words f N (fun j => S j && !decide (j = t)) (fun k => if k = idx f t then W k &&& flip (2 ^ off f t) else W k) := by
  refine ⟨fun k hk => ?_, fun j hj => ?_⟩
  · by_cases e : k = idx f t
    · simp only [e, if_true]; exact and_lt (h.1 _ (idx_lt f t))
    · simp only [e, if_false]; exact h.1 k hk
  · by_cases e : idx f j = idx f t
    · simp only [e, if_true]
      rw [off_bit (h.1 _ (idx_lt f t)) (off_lt f t), ← e, h.2 j hj]
      congr 2
      by_cases e2 : off f t = off f j
      · have := bits_inj (by omega) (by omega) e e2.symm
        simp [e2, this]
      · have : j ≠ t := fun e3 => e2 (by rw [e3])
        simp [e2, this]
    · simp only [e, if_false]
      rw [h.2 j hj]
      have : j ≠ t := fun e3 => e (by rw [e3])
      simp [this]
/-- The first queued number from p on, in p's word. -/
theorem Words.one {f N v p : Nat} {S : Nat → Bool} {W : Nat → Nat} (h : Words f N S W) (hv : v ≤ N) (hS : S v = true) (hp : p ≤ v) :
    (64 ≤ firstOne (W (idx f p)) (off f p) ∧ p + (64 - off f p) ≤ v ∧ ∀ j, p ≤ j → j < p + (64 - off f p) → S j = false) ∨
    ∃ i, firstOne (W (idx f p)) (off f p) = off f p + i ∧ off f p + i < 64 ∧ p + i ≤ v ∧ S (p + i) = true ∧ ∀ j, p ≤ j → j < p + i → S j = false := by
  have ho := off_lt f p
  have inw : ∀ j, p ≤ j → j < p + (64 - off f p) → j ≤ N → (W (idx f p)).testBit (off f p + (j - p)) = S j := fun j h1 h2 h3 => by
    obtain ⟨e1, e2⟩ := same_word (f := f) (p := p) (i := j - p) (by omega)
    rw [show p + (j - p) = j by omega] at e1 e2
    rw [← e1, ← e2, h.2 j h3]
  rcases firstOne_spec (h.1 _ (idx_lt f p)) ho with ⟨h1, h2⟩ | ⟨h1, h2, h3, h4⟩
  · left
    have hlt : p + (64 - off f p) ≤ v := by
      rcases Nat.lt_or_ge v (p + (64 - off f p)) with h5 | h5
      · have := inw v hp h5 hv
        rw [h2 _ (by omega), hS] at this; cases this
      · exact h5
    exact ⟨h1, hlt, fun j h5 h6 => by rw [← inw j h5 h6 (by omega)]; exact h2 _ (by omega)⟩
  · right
    obtain ⟨i, hi⟩ : ∃ i, firstOne (W (idx f p)) (off f p) = off f p + i := ⟨_, (Nat.add_sub_cancel' h2).symm⟩
    rw [hi] at h1 h3 h4
    have hle : p + i ≤ v := by
      rcases Nat.lt_or_ge v (p + i) with h5 | h5
      · have := inw v hp (by omega) hv
        rw [h4 _ (by omega) (by omega), hS] at this; cases this
      · exact h5
    refine ⟨i, hi, h1, hle, ?_, fun j h5 h6 => ?_⟩
    · rw [← inw (p + i) (by omega) (by omega) (by omega), show off f p + (p + i - p) = off f p + i by omega]; exact h3
    · rw [← inw j h5 (by omega) (by omega)]; exact h4 _ (by omega) (by omega)
theorem of_not {b : Bool} (h : false = !b) : b = true := by cases b <;> simp_all
theorem of_not' {b : Bool} (h : true = !b) : b = false := by cases b <;> simp_all
/-- The first number from p on that is not queued, in p's word. -/
theorem Words.zero {f N p : Nat} {S : Nat → Bool} {W : Nat → Nat} (h : Words f N S W) :
    (64 ≤ firstOne (flip (W (idx f p))) (off f p) ∧ ∀ j, p ≤ j → j < p + (64 - off f p) → j ≤ N → S j = true) ∨
    ∃ i, firstOne (flip (W (idx f p))) (off f p) = off f p + i ∧ off f p + i < 64 ∧ (p + i ≤ N → S (p + i) = false) ∧ ∀ j, p ≤ j → j < p + i → j ≤ N → S j = true := by
  have ho := off_lt f p
  have inw : ∀ j, p ≤ j → j < p + (64 - off f p) → j ≤ N → (flip (W (idx f p))).testBit (off f p + (j - p)) = !S j := fun j h1 h2 h3 => by
    obtain ⟨e1, e2⟩ := same_word (f := f) (p := p) (i := j - p) (by omega)
    rw [show p + (j - p) = j by omega] at e1 e2
    rw [flip_bit (h.1 _ (idx_lt f p)) (by omega), ← e1, ← e2, h.2 j h3]
  rcases firstOne_spec (flip_lt (W (idx f p))) ho with ⟨h1, h2⟩ | ⟨h1, h2, h3, h4⟩
  · left
    refine ⟨h1, fun j h5 h6 h7 => ?_⟩
    have := inw j h5 h6 h7
    rw [h2 _ (by omega)] at this
    exact of_not this
  · right
    obtain ⟨i, hi⟩ : ∃ i, firstOne (flip (W (idx f p))) (off f p) = off f p + i := ⟨_, (Nat.add_sub_cancel' h2).symm⟩
    rw [hi] at h1 h3 h4
    refine ⟨i, hi, h1, fun h5 => ?_, fun j h5 h6 h7 => ?_⟩
    · have := inw (p + i) (by omega) (by omega) h5
      rw [show off f p + (p + i - p) = off f p + i by omega, h3] at this
      exact of_not' this
    · have := inw j h5 (by omega) h7
      rw [h4 _ (by omega) (by omega)] at this
      exact of_not this
/-- The blocks, counted from u, cover just the queued numbers between u and p. -/
def Cov (u p : Nat) (S : Nat → Bool) (G : List (Nat × Nat)) : Prop :=
  (∀ j, u < j → j < p → (S j = true ↔ ∃ g ∈ G, g.1 ≤ j - u ∧ j - u ≤ g.2)) ∧ ∀ g ∈ G, 1 ≤ g.1 ∧ g.1 ≤ g.2 ∧ u + g.2 < p
theorem Cov.nil (u : Nat) (S : Nat → Bool) : Cov u (u + 1) S [] := ⟨fun j h1 h2 => by omega, fun g hg => by cases hg⟩
theorem Cov.skip {u p p' : Nat} {S : Nat → Bool} {G : List (Nat × Nat)} (h : Cov u p S G) (hp : p ≤ p') (hn : ∀ j, p ≤ j → j < p' → S j = false) : Cov u p' S G := by
  refine ⟨fun j h1 h2 => ?_, fun g hg => by have := h.2 g hg; omega⟩
  rcases Nat.lt_or_ge j p with h3 | h3
  · exact h.1 j h1 h3
  · refine ⟨fun h4 => by (rw [hn j h3 h2] at h4; cases h4), fun ⟨g, hg, h4, h5⟩ => ?_⟩
    have := h.2 g hg; omega
theorem Cov.add {u a e : Nat} {S : Nat → Bool} {G : List (Nat × Nat)} (h : Cov u a S G) (hu : u < a) (he : a ≤ e) (hn : ∀ j, a ≤ j → j ≤ e → S j = true) : Cov u (e + 1) S (G ++ [(a - u, e - u)]) := by
  refine ⟨fun j h1 h2 => ?_, fun g hg => ?_⟩
  · rcases Nat.lt_or_ge j a with h3 | h3
    · rw [h.1 j h1 h3]
      constructor
      · rintro ⟨g, hg, h4⟩; exact ⟨g, by simp [hg], h4⟩
      · rintro ⟨g, hg, h4, h5⟩
        rcases List.mem_append.1 hg with h6 | h6
        · exact ⟨g, h6, h4, h5⟩
        · simp at h6; subst h6; simp at h4 h5; omega
    · exact ⟨fun _ => ⟨(a - u, e - u), by simp, by simp; omega, by simp; omega⟩, fun _ => hn j h3 (by omega)⟩
  · rcases List.mem_append.1 hg with h6 | h6
    · have := h.2 g h6; omega
    · simp at h6; subst h6; simp; omega
end Go.Proofs.Gaps
end
section
namespace Go.Proofs.Gaps
/-- How many of the numbers up to N are queued. -/
def cnt (S : Nat → Bool) : Nat → Nat
  | 0 => if S 0 then 1 else 0
  | N + 1 => cnt S N + if S (N + 1) then 1 else 0
theorem cnt_congr {S T : Nat → Bool} : ∀ {N : Nat}, (∀ j, j ≤ N → S j = T j) → cnt S N = cnt T N
  | 0, h => by simp [cnt, h 0 (Nat.le_refl _)]
  | N + 1, h => by simp only [cnt]; rw [cnt_congr (fun j hj => h j (by omega)), h (N + 1) (Nat.le_refl _)]
theorem cnt_add {S : Nat → Bool} {t : Nat} : ∀ {N : Nat}, t ≤ N → S t = false → cnt (fun j => S j || decide (j = t)) N = cnt S N + 1
  | 0, h, hs => by obtain rfl : t = 0 := by omega
                   simp [cnt, hs]
  | N + 1, h, hs => by
    simp only [cnt]
    by_cases e : t = N + 1
    · subst e
      rw [cnt_congr (T := S) (fun j hj => by have : j ≠ N + 1 := by omega
                                             simp [this])]
      simp [hs]
    · rw [cnt_add (by omega) hs]
      have : ¬ (N + 1 = t) := fun h => e h.symm
      simp [this]; omega
theorem cnt_del {S : Nat → Bool} {t : Nat} : ∀ {N : Nat}, t ≤ N → S t = true → cnt (fun j => S j && !decide (j = t)) N + 1 = cnt S N
  | 0, h, hs => by obtain rfl : t = 0 := by omega
                   simp [cnt, hs]
  | N + 1, h, hs => by
    simp only [cnt]
    by_cases e : t = N + 1
    · subst e
      rw [cnt_congr (T := S) (fun j hj => by have : j ≠ N + 1 := by omega
                                             simp [this])]
      simp [hs]
    · have := cnt_del (N := N) (by omega) hs
      have e2 : ¬ (N + 1 = t) := fun h => e h.symm
      simp [e2]; omega
theorem cnt_zero {S : Nat → Bool} : ∀ {N : Nat}, cnt S N = 0 → ∀ j, j ≤ N → S j = false
  | 0, h, j, hj => by
    obtain rfl : j = 0 := by omega
    simpa [cnt] using h
  | N + 1, h, j, hj => by
    simp only [cnt] at h
    by_cases e : j = N + 1
    · subst e
      cases hs : S (N + 1) with
      | false => rfl
      | true => simp [hs] at h
    · exact cnt_zero (N := N) (by omega) j (by omega)
theorem cnt_none {S : Nat → Bool} : ∀ {N : Nat}, (∀ j, j ≤ N → S j = false) → cnt S N = 0
  | 0, h => by simp [cnt, h 0 (Nat.le_refl _)]
  | N + 1, h => by simp only [cnt]; rw [cnt_none (fun j hj => h j (by omega)), h (N + 1) (Nat.le_refl _)]; rfl
theorem cnt_le (S : Nat → Bool) : ∀ N, cnt S N ≤ N + 1
  | 0 => by simp only [cnt]; split <;> omega
  | N + 1 => by simp only [cnt]; have := cnt_le S N; split <;> omega
/-- The queue behind the numbers js: it has come to u; S tells what is queued; the last one is v. -/
structure QS (N : Nat) (js : List Nat) (u v : Nat) (S : Nat → Bool) : Prop where
  all : ∀ j ∈ js, 1 ≤ j ∧ j ≤ N
  low : ∀ j, 1 ≤ j → j ≤ u → j ∈ js
  are : ∀ j, S j = true ↔ (j ∈ js ∧ u < j)
  tail : ∀ j, S j = true → j ≤ v
  top : cnt S N ≠ 0 → S v = true
  none : cnt S N = 0 → v ≤ u
  uN : u ≤ N
  vN : v ≤ N
theorem QS.start (N : Nat) : QS N [] 0 0 (fun _ => false) :=
  ⟨fun _ h => (nomatch h), fun j h1 h2 => by omega, fun j => by simp, fun _ h => (nomatch h), fun h => absurd (cnt_none (fun _ _ => rfl)) h, fun _ => Nat.le_refl _, Nat.zero_le _, Nat.zero_le _⟩
theorem QS.again {N : Nat} {js : List Nat} {u v j : Nat} {S : Nat → Bool} (h : QS N js u v S) (hj : j ∈ js) : QS N (js ++ [j]) u v S := by
  have e : ∀ k, k ∈ js ++ [j] ↔ k ∈ js := fun k => by
    rw [List.mem_append, List.mem_singleton]
    exact ⟨fun h => by rcases h with h | rfl <;> assumption, Or.inl⟩
  exact ⟨fun k hk => h.all k ((e k).1 hk), fun k h1 h2 => (e k).2 (h.low k h1 h2), fun k => by rw [e]; exact h.are k, h.tail, h.top, h.none, h.uN, h.vN⟩
/-- Is the number there already? -/
theorem QS.known {N : Nat} {js : List Nat} {u v j : Nat} {S : Nat → Bool} (h : QS N js u v S) (hj : 1 ≤ j) : (j ≤ u ∨ S j = true) ↔ j ∈ js := by
  rw [h.are]
  constructor
  · rintro (h1 | h1)
    · exact h.low j hj h1
    · exact h1.1
  · intro h1
    rcases Nat.lt_or_ge u j with h2 | h2
    · exact .inr ⟨h1, h2⟩
    · exact .inl h2
theorem QS.push {N : Nat} {js : List Nat} {u v j : Nat} {S : Nat → Bool} (h : QS N js u v S) (hj1 : 1 ≤ j) (hjN : j ≤ N) (hj : j ∉ js) : QS N (js ++ [j]) u (if v < j then j else v) (fun k => S k || decide (k = j)) := by
  have hu : u < j := by
    rcases Nat.lt_or_ge u j with h2 | h2
    · exact h2
    · exact absurd (h.low j hj1 h2) hj
  refine ⟨fun k hk => ?_, fun k h1 h2 => by simp [h.low k h1 h2], fun k => ?_, fun k hk => ?_, fun _ => ?_, fun h0 => ?_, h.uN, ?_⟩
  · rw [List.mem_append, List.mem_singleton] at hk
    rcases hk with hk | rfl
    · exact h.all k hk
    · exact ⟨hj1, hjN⟩
  · rw [Bool.or_eq_true, h.are, decide_eq_true_eq, List.mem_append, List.mem_singleton]
    constructor
    · rintro (⟨h1, h2⟩ | rfl)
      · exact ⟨.inl h1, h2⟩
      · exact ⟨.inr rfl, hu⟩
    · rintro ⟨h1 | h1, h2⟩
      · exact .inl ⟨h1, h2⟩
      · exact .inr h1
  · rw [Bool.or_eq_true, decide_eq_true_eq] at hk
    rcases hk with hk | rfl
    · have := h.tail k hk; split <;> omega
    · split <;> omega
  · split
    · simp
    · rename_i hv
      rw [Bool.or_eq_true, decide_eq_true_eq]
      by_cases e : v = j
      · exact .inr e
      · left
        refine h.top fun h0 => ?_
        have := h.none h0
        omega
  · exfalso
    have h1 := cnt_zero h0 j hjN
    simp at h1
  · split
    · exact hjN
    · exact h.vN
theorem QS.pop {N : Nat} {js : List Nat} {u v : Nat} {S : Nat → Bool} (h : QS N js u v S) (hs : S (u + 1) = true) : QS N js (u + 1) v (fun k => S k && !decide (k = u + 1)) := by
  have hin := (h.are (u + 1)).1 hs
  have hN := (h.all _ hin.1).2
  have hv := h.tail _ hs
  have hc := cnt_del hN hs
  refine ⟨h.all, fun k h1 h2 => ?_, fun k => ?_, fun k hk => ?_, fun h0 => ?_, fun h0 => ?_, hN, h.vN⟩
  · by_cases e : k = u + 1
    · subst e; exact hin.1
    · exact h.low k h1 (by omega)
  · rw [Bool.and_eq_true, h.are, Bool.not_eq_true', decide_eq_false_iff_not]
    constructor
    · rintro ⟨⟨h1, h2⟩, h3⟩; exact ⟨h1, by omega⟩
    · rintro ⟨h1, h2⟩; exact ⟨⟨h1, by omega⟩, by omega⟩
  · rw [Bool.and_eq_true] at hk
    exact h.tail k hk.1
  · have ht := h.top (by omega)
    rw [Bool.and_eq_true, Bool.not_eq_true', decide_eq_false_iff_not]
    refine ⟨ht, fun e => h0 (cnt_none fun j hj => ?_)⟩
    cases hsj : S j with
    | false => rfl
    | true =>
      have h1 := h.tail j hsj
      have h2 := ((h.are j).1 hsj).2
      obtain rfl : j = u + 1 := by omega
      simp
  · have ht := h.top (by omega)
    have h1 := cnt_zero h0 v h.vN
    simp only [ht, Bool.true_and, Bool.not_eq_false', decide_eq_true_eq] at h1
    omega
/-- What is told: all up to u, and those in the gaps behind it. -/
structure Tells (N : Nat) (js : List Nat) (u : Nat) (G : List (Nat × Nat)) : Prop where
  uN : u ≤ N
  low : ∀ j, 1 ≤ j → j ≤ u → j ∈ js
  gap : ∀ j, u < j → (j ∈ js ↔ ∃ g ∈ G, g.1 ≤ j - u ∧ j - u ≤ g.2)
  are : ∀ g ∈ G, 1 ≤ g.1 ∧ g.1 ≤ g.2 ∧ u + g.2 ≤ N
  few : G.length ≤ N
theorem QS.tells {N : Nat} {js : List Nat} {u v : Nat} {S : Nat → Bool} {G : List (Nat × Nat)} (h : QS N js u v S) (hc : Cov u (v + 1) S G) (hG : G.length ≤ N) : Tells N js u G := by
  have hv := h.vN
  refine ⟨h.uN, h.low, fun j hj => ?_, fun g hg => ?_, hG⟩
  · rcases Nat.lt_or_ge v j with h1 | h1
    · constructor
      · intro h2
        have := h.tail j ((h.are j).2 ⟨h2, hj⟩)
        omega
      · rintro ⟨g, hg, h2, h3⟩
        have := hc.2 g hg
        omega
    · rw [← hc.1 j hj (by omega), h.are]
      exact ⟨fun h2 => ⟨h2, hj⟩, fun h2 => h2.1⟩
  · have := hc.2 g hg
    exact ⟨this.1, this.2.1, by omega⟩
theorem QS.tells_nil {N : Nat} {js : List Nat} {u v : Nat} {S : Nat → Bool} (h : QS N js u v S) (h0 : cnt S N = 0) : Tells N js u [] := by
  refine ⟨h.uN, h.low, fun j hj => ⟨fun h1 => ?_, fun ⟨_, hg, _⟩ => (nomatch hg)⟩, fun _ hg => (nomatch hg), Nat.zero_le _⟩
  have h2 := (h.are j).2 ⟨h1, hj⟩
  rw [cnt_zero h0 j (h.all j h1).2] at h2
  cases h2
/-- At the end all is told, without gaps. -/
theorem Tells.whole {N : Nat} {js : List Nat} {u : Nat} {G : List (Nat × Nat)} (h : Tells N js u G) (hs : u + 1 ∉ js) (ha : ∀ j, 1 ≤ j → j ≤ N → j ∈ js) : u = N ∧ G = [] := by
  have hu := h.uN
  have e : u = N := by
    rcases Nat.lt_or_ge u N with h1 | h1
    · exact absurd (ha (u + 1) (by omega) (by omega)) hs
    · omega
  refine ⟨e, ?_⟩
  cases hG : G with
  | nil => rfl
  | cons g r =>
    have := h.are g (by rw [hG]; exact List.mem_cons_self)
    omega
end Go.Proofs.Gaps
end
section
namespace Go.Proofs.Gaps
/-- The pieces that aren't known to have come, from the first i on. -/
def unknown (known : Nat → Bool) (n : Nat) : List Nat := (List.range n).filter fun i => !known i
theorem unknown_mem {known : Nat → Bool} {n i : Nat} : i ∈ unknown known n ↔ i < n ∧ known i = false := by simp [unknown]
theorem unknown_succ (known : Nat → Bool) (n : Nat) : unknown known (n + 1) = unknown known n ++ if known n then [] else [n] := by
  simp only [unknown, List.range_succ, List.filter_append, List.filter_cons, List.filter_nil]
  cases known n <;> rfl
theorem unknown_length (known : Nat → Bool) : ∀ n, (unknown known n).length ≤ n
  | 0 => by simp [unknown]
  | n + 1 => by rw [unknown_succ, List.length_append]; have := unknown_length known n; split <;> simp <;> omega
/-- What comes of the k-th piece sent. -/
def part (act : Int) (i : Nat) : List (Nat × Bool) := if act = 1 then [(i, false)] else if act = 2 then [(i, false), (i, false)] else if act = 3 then [(i, true)] else []
def sentAt (sent : List Nat) (turn k : Nat) : Nat := sent.getD ((k + turn % sent.length) % sent.length) 0
def came (sent : List Nat) (act : Nat → Int) (na turn : Nat) : Nat → List (Nat × Bool)
  | 0 => []
  | k + 1 => came sent act na turn k ++ part (act (k % na)) (sentAt sent turn k)
theorem part_length (act : Int) (i : Nat) : (part act i).length ≤ 2 := by unfold part; split <;> (try split) <;> (try split) <;> simp
theorem part_mem {act : Int} {i : Nat} {x : Nat × Bool} (h : x ∈ part act i) : x.1 = i := by
  unfold part at h
  split at h
  · simp at h; rw [h]
  · split at h
    · simp at h; rw [h]
    · split at h
      · simp at h; rw [h]
      · cases h
theorem sentAt_mem {sent : List Nat} (turn k : Nat) (h : sent ≠ []) : sentAt sent turn k ∈ sent := by
  have h0 : 0 < sent.length := List.length_pos_iff.2 h
  have hlt : (k + turn % sent.length) % sent.length < sent.length := Nat.mod_lt _ h0
  unfold sentAt
  rw [List.getD_eq_getElem?_getD, List.getElem?_eq_getElem hlt]
  exact List.getElem_mem _
theorem came_length (sent : List Nat) (act : Nat → Int) (na turn : Nat) : ∀ k, (came sent act na turn k).length ≤ 2 * k
  | 0 => by simp [came]
  | k + 1 => by
    have := came_length sent act na turn k
    have := part_length (act (k % na)) (sentAt sent turn k)
    simp only [came, List.length_append]
    omega
theorem came_mem {sent : List Nat} {act : Nat → Int} {na turn : Nat} (h0 : sent ≠ []) : ∀ {k : Nat} {x : Nat × Bool}, x ∈ came sent act na turn k → x.1 ∈ sent
  | 0, _, h => nomatch h
  | k + 1, x, h => by
    simp only [came, List.mem_append] at h
    rcases h with h | h
    · exact came_mem h0 h
    · rw [part_mem h]; exact sentAt_mem turn k h0
/-- In the last round nothing is lost or bent: just the pieces sent come, once each. -/
theorem came_last {sent : List Nat} : ∀ {k : Nat}, k ≤ sent.length → came sent (fun _ => 1) 1 0 k = (sent.take k).map fun i => (i, false)
  | 0, _ => rfl
  | k + 1, h => by
    have hk : k < sent.length := by omega
    have hs : sentAt sent 0 k = sent[k] := by
      unfold sentAt
      rw [Nat.zero_mod, Nat.add_zero, Nat.mod_eq_of_lt hk, List.getD_eq_getElem?_getD, List.getElem?_eq_getElem hk]
      rfl
    simp only [came]
    rw [came_last (by omega), List.take_succ_eq_append_getElem hk, List.map_append, hs]
    rfl
end Go.Proofs.Gaps
end
section
namespace Go.Proofs.Gaps
/-- The numbers that come whole. -/
def good : List (Nat × Bool) → List Nat
  | [] => []
  | x :: r => if x.2 then good r else (x.1 + 1) :: good r
theorem good_append : ∀ (a b : List (Nat × Bool)), good (a ++ b) = good a ++ good b
  | [], _ => rfl
  | x :: r, b => by
    simp only [List.cons_append, good, good_append r b]
    split <;> simp
theorem good_length : ∀ a : List (Nat × Bool), (good a).length ≤ a.length
  | [] => Nat.le_refl _
  | x :: r => by
    have := good_length r
    simp only [good]
    split <;> simp <;> omega
theorem good_mem : ∀ {a : List (Nat × Bool)} {j : Nat}, j ∈ good a → ∃ x ∈ a, j = x.1 + 1
  | [], _, h => nomatch h
  | x :: r, j, h => by
    simp only [good] at h
    split at h
    · obtain ⟨y, hy, e⟩ := good_mem h
      exact ⟨y, List.mem_cons_of_mem _ hy, e⟩
    · rcases List.mem_cons.1 h with e | h
      · exact ⟨x, List.mem_cons_self, e⟩
      · obtain ⟨y, hy, e⟩ := good_mem h
        exact ⟨y, List.mem_cons_of_mem _ hy, e⟩
theorem good_take {a : List (Nat × Bool)} {k : Nat} (h : k < a.length) : good (a.take (k + 1)) = good (a.take k) ++ (if (a[k]).2 then [] else [(a[k]).1 + 1]) := by
  rw [List.take_succ_eq_append_getElem h, good_append]
  simp [good]
theorem good_all {s : List Nat} {i : Nat} (h : i ∈ s) : i + 1 ∈ good (s.map fun i => (i, false)) := by
  induction s with
  | nil => cases h
  | cons a r ih =>
    simp only [List.map_cons, good]
    rcases List.mem_cons.1 h with rfl | h
    · simp
    · simp [ih h]
/-- A list without repetitions of just the numbers from 1 to n has n of them. -/
theorem length_full : ∀ {n : Nat} {ks : List Nat}, ks.Nodup → (∀ j, j ∈ ks ↔ 1 ≤ j ∧ j ≤ n) → ks.length = n
  | 0, ks, _, h => by
    cases ks with
    | nil => rfl
    | cons a r => have := (h a).1 List.mem_cons_self; omega
  | n + 1, ks, hd, h => by
    have hm : n + 1 ∈ ks := (h (n + 1)).2 ⟨by omega, by omega⟩
    have hl := List.length_erase_of_mem hm
    have hp : 0 < ks.length := List.length_pos_of_mem hm
    have := length_full (n := n) (ks := ks.erase (n + 1)) (hd.erase _) (fun j => by
      rw [hd.mem_erase_iff, h]
      omega)
    omega
/-- Which numbers came: js in order, ks those that came first. -/
structure KI (n : Nat) (js ks : List Nat) : Prop where
  all : ∀ j ∈ js, 1 ≤ j ∧ j ≤ n
  nodup : ks.Nodup
  mem : ∀ j, j ∈ ks ↔ j ∈ js
theorem KI.start (n : Nat) : KI n [] [] := ⟨fun _ h => (nomatch h), List.nodup_nil, fun _ => Iff.rfl⟩
theorem KI.again {n : Nat} {js ks : List Nat} {j : Nat} (h : KI n js ks) (hj : j ∈ ks) : KI n (js ++ [j]) ks := by
  have h2 := (h.mem j).1 hj
  refine ⟨fun k hk => ?_, h.nodup, fun k => ?_⟩
  · rcases List.mem_append.1 hk with hk | hk
    · exact h.all k hk
    · simp at hk; subst hk; exact h.all k h2
  · rw [h.mem, List.mem_append, List.mem_singleton]
    exact ⟨Or.inl, fun h3 => by rcases h3 with h3 | rfl <;> assumption⟩
theorem KI.add {n : Nat} {js ks : List Nat} {j : Nat} (h : KI n js ks) (hj : j ∉ ks) (h1 : 1 ≤ j) (h2 : j ≤ n) : KI n (js ++ [j]) (ks ++ [j]) := by
  refine ⟨fun k hk => ?_, ?_, fun k => ?_⟩
  · rcases List.mem_append.1 hk with hk | hk
    · exact h.all k hk
    · simp at hk; subst hk; exact ⟨h1, h2⟩
  · rw [List.nodup_append]
    exact ⟨h.nodup, by simp, fun a ha b hb => by simp at hb; subst hb; intro e; subst e; exact hj ha⟩
  · rw [List.mem_append, List.mem_append, h.mem]
theorem KI.full {n : Nat} {js ks : List Nat} (h : KI n js ks) (ha : ∀ j, 1 ≤ j → j ≤ n → j ∈ js) : ks.length = n :=
  length_full h.nodup fun j => by
    rw [h.mem]
    exact ⟨h.all j, fun h1 => ha j h1.1 h1.2⟩
/-- A number is among the keys just where its place is. -/
theorem mem_keys {f j : Nat} {ks : List Nat} (hk : ∀ k ∈ ks, k < 64) (hj : j < 64) : tsn f j ∈ ks.map (tsn f) ↔ j ∈ ks := by
  rw [List.mem_map]
  constructor
  · rintro ⟨k, h1, h2⟩
    have := tsn_inj (hk k h1) hj h2
    exact this ▸ h1
  · intro h; exact ⟨j, h, rfl⟩
end Go.Proofs.Gaps
end
