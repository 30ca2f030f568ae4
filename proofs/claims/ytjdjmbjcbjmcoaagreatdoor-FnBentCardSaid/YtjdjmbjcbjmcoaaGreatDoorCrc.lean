/- A part of the proof, step Crc: what the code and the plain laws of this step give. Made by AI agents; no person has read it. -/
namespace Crc

def poly : Nat := 0x82f63b78
def st (c : Nat) : Nat := if c % 2 = 1 then (c / 2) ^^^ poly else c / 2
def st8 (c : Nat) : Nat := st (st (st (st (st (st (st (st c)))))))
def bs (c b : Nat) : Nat := st8 (c ^^^ b)
def fold (c : Nat) (l : List Nat) : Nat := l.foldl bs c
def inv (c : Nat) : Nat := 4294967295 - c
def upd (c : Nat) (l : List Nat) : Nat := inv (fold (inv c) l)
def sum (raw : List Nat) : Nat := upd (upd (upd 0 (raw.take 8)) [0, 0, 0, 0]) (raw.drop 12)

theorem xor_div (a b k : Nat) : (a ^^^ b) / 2 ^ k = (a / 2 ^ k) ^^^ (b / 2 ^ k) := by
  apply Nat.eq_of_testBit_eq; intro i
  simp [Nat.testBit_div_two_pow, Nat.testBit_xor]
theorem xor_mod (a b k : Nat) : (a ^^^ b) % 2 ^ k = (a % 2 ^ k) ^^^ (b % 2 ^ k) := Nat.xor_mod_two_pow
theorem xor_lcomm (a b c : Nat) : a ^^^ (b ^^^ c) = b ^^^ (a ^^^ c) := by rw [← Nat.xor_assoc, Nat.xor_comm a b, Nat.xor_assoc]
theorem xor_zero_iff (a b : Nat) (h : a ^^^ b = 0) : a = b := by
  have h2 : (a ^^^ b) ^^^ b = 0 ^^^ b := by rw [h]
  simpa [Nat.xor_assoc] using h2
theorem xor_cancel_left (a b : Nat) : a ^^^ (a ^^^ b) = b := by rw [← Nat.xor_assoc, Nat.xor_self, Nat.zero_xor]
theorem st_xor (a b : Nat) : st (a ^^^ b) = st a ^^^ st b := by
  have h2 : (a ^^^ b) / 2 = (a / 2) ^^^ (b / 2) := by simpa using xor_div a b 1
  have hm : (a ^^^ b) % 2 = (a % 2) ^^^ (b % 2) := by simpa using xor_mod a b 1
  unfold st
  rw [h2, hm]
  rcases Nat.mod_two_eq_zero_or_one a with ha | ha <;> rcases Nat.mod_two_eq_zero_or_one b with hb | hb <;> rw [ha, hb]
  · simp
  · simp [Nat.xor_assoc]
  · simp [Nat.xor_assoc]; rw [Nat.xor_comm (b / 2) poly]
  · simp [Nat.xor_assoc]; rw [xor_lcomm poly (b / 2) poly]; simp
theorem st8_xor (a b : Nat) : st8 (a ^^^ b) = st8 a ^^^ st8 b := by simp only [st8, st_xor]
theorem st_lt (c : Nat) (h : c < 4294967296) : st c < 4294967296 := by
  unfold st poly
  split
  · exact Nat.xor_lt_two_pow (n := 32) (by omega) (by omega)
  · omega
theorem st8_lt (c : Nat) (h : c < 4294967296) : st8 c < 4294967296 := by
  unfold st8; repeat (first | exact h | apply st_lt)
theorem st_zero (d : Nat) (h : d < 4294967296) (e : st d = 0) : d = 0 := by
  unfold st at e
  split at e
  · have : d / 2 = poly := xor_zero_iff _ _ e
    unfold poly at this; omega
  · omega
theorem st8_zero (d : Nat) (h : d < 4294967296) (e : st8 d = 0) : d = 0 := by
  unfold st8 at e
  have l (c : Nat) (h : c < 4294967296) := st_lt c h
  have z (c : Nat) (h : c < 4294967296) := st_zero c h
  have h1 := l _ h; have h2 := l _ h1; have h3 := l _ h2; have h4 := l _ h3; have h5 := l _ h4; have h6 := l _ h5; have h7 := l _ h6
  exact z _ h (z _ h1 (z _ h2 (z _ h3 (z _ h4 (z _ h5 (z _ h6 (z _ h7 e)))))))
theorem st8_inj (a b : Nat) (ha : a < 4294967296) (hb : b < 4294967296) (e : st8 a = st8 b) : a = b := by
  have : st8 (a ^^^ b) = 0 := by rw [st8_xor, e, Nat.xor_self]
  exact xor_zero_iff _ _ (st8_zero _ (Nat.xor_lt_two_pow (n := 32) ha hb) this)
theorem st_even (x : Nat) : st (2 * x) = x := by unfold st; rw [if_neg (by omega)]; omega
theorem st8_shift (x : Nat) : st8 (256 * x) = x := by
  unfold st8
  rw [show 256 * x = 2 * (2 * (2 * (2 * (2 * (2 * (2 * (2 * x))))))) by omega]
  simp only [st_even]
theorem xor_low (c : Nat) : c = (c % 256) ^^^ (256 * (c / 256)) := by
  apply Nat.eq_of_testBit_eq; intro i
  rw [Nat.testBit_xor, show (256 : Nat) = 2 ^ 8 from rfl, Nat.testBit_mod_two_pow, Nat.testBit_two_pow_mul, Nat.testBit_div_two_pow]
  by_cases h : i < 8
  · simp [h, show ¬ 8 ≤ i by omega]
  · have h3 : i - 8 + 8 = i := by omega
    simp [h, show 8 ≤ i by omega, h3]
/-- The table's step. -/
theorem st8_table (c : Nat) : st8 (c % 256) ^^^ (c / 256) = st8 c := by
  conv => rhs; rw [xor_low c, st8_xor, st8_shift]
theorem bs_table (c b : Nat) (hb : b < 256) : st8 ((c % 256) ^^^ b) ^^^ (c / 256) = bs c b := by
  unfold bs
  rw [← st8_table (c ^^^ b)]
  have h1 : (c ^^^ b) % 256 = (c % 256) ^^^ b := by
    rw [show (256 : Nat) = 2 ^ 8 from rfl, xor_mod, show b % 2 ^ 8 = b from Nat.mod_eq_of_lt hb]
  have h2 : (c ^^^ b) / 256 = c / 256 := by
    rw [show (256 : Nat) = 2 ^ 8 from rfl, xor_div]; rw [show b / 2 ^ 8 = 0 from Nat.div_eq_of_lt hb]; simp
  rw [h1, h2]
def t (j : Nat) (i : Nat) : Nat := match j with | 0 => st8 i | j + 1 => st8 (t j i)
theorem t_xor (j a b : Nat) : t j (a ^^^ b) = t j a ^^^ t j b := by
  induction j with
  | zero => exact st8_xor a b
  | succ j ih => simp only [t, ih, st8_xor]
theorem t_shift (j x : Nat) : t (j + 1) (256 * x) = t j x := by
  induction j with
  | zero => simp only [t, st8_shift]
  | succ j ih => rw [t, ih, t]
theorem t_lt (j c : Nat) (h : c < 4294967296) : t j c < 4294967296 := by
  induction j with
  | zero => exact st8_lt c h
  | succ j ih => exact st8_lt _ ih
theorem le4 (c : Nat) : c = (c % 256) ^^^ (256 * ((c / 256 % 256) ^^^ (256 * ((c / 65536 % 256) ^^^ (256 * (c / 16777216)))))) := by
  have a := xor_low c
  have b := xor_low (c / 256)
  have d := xor_low (c / 256 / 256)
  rw [show c / 65536 = c / 256 / 256 by omega, show c / 16777216 = c / 256 / 256 / 256 by omega]
  rw [← d, ← b, ← a]
theorem t7 (c : Nat) : t 7 (c % 256) ^^^ (t 6 (c / 256 % 256) ^^^ (t 5 (c / 65536 % 256) ^^^ t 4 (c / 16777216))) = t 7 c := by
  conv => rhs; rw [le4 c]
  simp only [t_xor, t_shift]
/-- Eight bytes at once. -/
theorem slice8 (c p0 p1 p2 p3 p4 p5 p6 p7 : Nat) :
    t 0 p7 ^^^ (t 1 p6 ^^^ (t 2 p5 ^^^ (t 3 p4 ^^^ (t 7 (c ^^^ (p0 ^^^ (256 * p1) ^^^ (65536 * p2) ^^^ (16777216 * p3))))))) =
      bs (bs (bs (bs (bs (bs (bs (bs c p0) p1) p2) p3) p4) p5) p6) p7 := by
  have e1 : t 7 (256 * p1) = t 6 p1 := t_shift 6 p1
  have e2 : t 7 (65536 * p2) = t 5 p2 := by rw [show 65536 * p2 = 256 * (256 * p2) by omega, t_shift, t_shift]
  have e3 : t 7 (16777216 * p3) = t 4 p3 := by rw [show 16777216 * p3 = 256 * (256 * (256 * p3)) by omega, t_shift, t_shift, t_shift]
  simp only [t_xor, e1, e2, e3]
  simp only [bs, st8_xor, t]
  generalize st8 (st8 (st8 (st8 (st8 (st8 (st8 (st8 c))))))) = x0
  generalize st8 (st8 (st8 (st8 (st8 (st8 (st8 (st8 p0))))))) = x1
  generalize st8 (st8 (st8 (st8 (st8 (st8 (st8 p1)))))) = x2
  generalize st8 (st8 (st8 (st8 (st8 (st8 p2))))) = x3
  generalize st8 (st8 (st8 (st8 (st8 p3)))) = x4
  generalize st8 (st8 (st8 (st8 p4))) = x5
  generalize st8 (st8 (st8 p5)) = x6
  generalize st8 (st8 p6) = x7
  generalize st8 p7 = x8
  ac_rfl

theorem bs_lt (c b : Nat) (h : c < 4294967296) (hb : b < 256) : bs c b < 4294967296 := st8_lt _ (Nat.xor_lt_two_pow (n := 32) h (by omega))
theorem fold_lt (l : List Nat) : ∀ c, c < 4294967296 → (∀ b ∈ l, b < 256) → fold c l < 4294967296 := by
  induction l with
  | nil => intro c h _; exact h
  | cons a l ih => intro c h hl; exact ih _ (bs_lt _ _ h (hl a (by simp))) (fun b hb => hl b (by simp [hb]))
theorem bs_inj_c (c c' b : Nat) (h : c < 4294967296) (h' : c' < 4294967296) (hb : b < 256) (e : bs c b = bs c' b) : c = c' := by
  have := st8_inj _ _ (Nat.xor_lt_two_pow (n := 32) h (by omega)) (Nat.xor_lt_two_pow (n := 32) h' (by omega)) e
  have h2 : (c ^^^ b) ^^^ b = (c' ^^^ b) ^^^ b := by rw [this]
  simpa [Nat.xor_assoc] using h2
theorem bs_inj_b (c b b' : Nat) (h : c < 4294967296) (hb : b < 256) (hb' : b' < 256) (e : bs c b = bs c b') : b = b' := by
  have := st8_inj _ _ (Nat.xor_lt_two_pow (n := 32) h (by omega)) (Nat.xor_lt_two_pow (n := 32) h (by omega)) e
  have h2 : c ^^^ (c ^^^ b) = c ^^^ (c ^^^ b') := by rw [this]
  simpa [← Nat.xor_assoc] using h2
theorem fold_inj (l : List Nat) : ∀ c c', c < 4294967296 → c' < 4294967296 → (∀ b ∈ l, b < 256) → fold c l = fold c' l → c = c' := by
  induction l with
  | nil => intro c c' _ _ _ e; exact e
  | cons a l ih =>
    intro c c' h h' hl e
    have ha := hl a (by simp)
    exact bs_inj_c _ _ _ h h' ha (ih _ _ (bs_lt _ _ h ha) (bs_lt _ _ h' ha) (fun b hb => hl b (by simp [hb])) e)
theorem fold_append (c : Nat) (l m : List Nat) : fold c (l ++ m) = fold (fold c l) m := by simp [fold]
/-- One byte turned: another fold. -/
theorem fold_turn (pre post : List Nat) (a a' c : Nat) (hc : c < 4294967296) (hp : ∀ b ∈ pre, b < 256) (ha : a < 256) (ha' : a' < 256) (hq : ∀ b ∈ post, b < 256)
    (e : fold c (pre ++ a :: post) = fold c (pre ++ a' :: post)) : a = a' := by
  rw [fold_append, fold_append] at e
  have hf := fold_lt pre c hc hp
  have := fold_inj post _ _ (bs_lt _ _ hf ha) (bs_lt _ _ hf ha') hq e
  exact bs_inj_b _ _ _ hf ha ha' this
theorem inv_lt (c : Nat) : inv c < 4294967296 := by unfold inv; omega
theorem inv_inv (c : Nat) (h : c < 4294967296) : inv (inv c) = c := by unfold inv; omega
theorem inv_inj (a b : Nat) (ha : a < 4294967296) (hb : b < 4294967296) (e : inv a = inv b) : a = b := by unfold inv at e; omega
theorem upd_lt (c : Nat) (l : List Nat) : upd c l < 4294967296 := inv_lt _
theorem upd_nil (c : Nat) (h : c < 4294967296) : upd c [] = c := inv_inv c h
theorem upd_upd (c : Nat) (l m : List Nat) (hl : ∀ b ∈ l, b < 256) : upd (upd c l) m = upd c (l ++ m) := by
  unfold upd; rw [inv_inv _ (fold_lt l _ (inv_lt _) hl), fold_append]
theorem sum_eq (raw : List Nat) (h : ∀ b ∈ raw, b < 256) : sum raw = upd 0 (raw.take 8 ++ ([0, 0, 0, 0] ++ raw.drop 12)) := by
  unfold sum
  rw [upd_upd _ _ _ (fun b hb => h b (List.mem_of_mem_take hb)), upd_upd]
  · simp
  · intro b hb
    rcases List.mem_append.1 hb with hb | hb
    · exact h b (List.mem_of_mem_take hb)
    · simp at hb; omega
theorem upd_turn (pre post : List Nat) (a a' : Nat) (hp : ∀ b ∈ pre, b < 256) (ha : a < 256) (ha' : a' < 256) (hq : ∀ b ∈ post, b < 256)
    (e : upd 0 (pre ++ a :: post) = upd 0 (pre ++ a' :: post)) : a = a' := by
  unfold upd at e
  refine fold_turn pre post a a' (inv 0) (inv_lt _) hp ha ha' hq (inv_inj _ _ ?_ ?_ e)
  · refine fold_lt _ _ (inv_lt _) ?_
    intro b hb; rcases List.mem_append.1 hb with hb | hb
    · exact hp b hb
    · rcases List.mem_cons.1 hb with rfl | hb; exact ha; exact hq b hb
  · refine fold_lt _ _ (inv_lt _) ?_
    intro b hb; rcases List.mem_append.1 hb with hb | hb
    · exact hp b hb
    · rcases List.mem_cons.1 hb with rfl | hb; exact ha'; exact hq b hb
/-- The checksum of bytes with one byte turned, outside the field of the checksum, is another one. -/
theorem sum_turn (raw : List Nat) (h : ∀ b ∈ raw, b < 256) (i v : Nat) (hi : i < raw.length) (hv : v < 256) (hne : raw[i] ≠ v) (hout : i < 8 ∨ 12 ≤ i) :
    sum (raw.set i v) ≠ sum raw := by
  intro e
  have h' : ∀ b ∈ raw.set i v, b < 256 := by
    intro b hb; rcases List.mem_or_eq_of_mem_set hb with hb | rfl; exact h b hb; exact hv
  rw [sum_eq _ h, sum_eq _ h'] at e
  have hd : raw = raw.take i ++ raw[i] :: raw.drop (i + 1) := by simp
  have hs : raw.set i v = raw.take i ++ v :: raw.drop (i + 1) := by rw [List.set_eq_take_append_cons_drop]; simp [hi]
  have hri := h raw[i] (List.getElem_mem hi)
  rcases hout with ho | ho
  · have e1 : (raw.set i v).drop 12 = raw.drop 12 := by rw [List.drop_set_of_lt (by omega)]
    have e2 : (raw.set i v).take 8 = (raw.take 8).set i v := by rw [List.take_set]
    rw [e1, e2] at e
    have hl : i < (raw.take 8).length := by simp; omega
    have e3 : raw.take 8 = (raw.take 8).take i ++ raw[i] :: (raw.take 8).drop (i + 1) := by
      have := (List.take_append_drop i (raw.take 8)).symm
      rw [List.drop_eq_getElem_cons hl] at this
      simpa using this
    have e4 : (raw.take 8).set i v = (raw.take 8).take i ++ v :: (raw.take 8).drop (i + 1) := by rw [List.set_eq_take_append_cons_drop, if_pos hl]
    rw [e4] at e
    conv at e => rhs; rw [e3]
    simp only [List.append_assoc, List.cons_append] at e
    refine hne (upd_turn _ _ v raw[i] ?_ hv hri ?_ e).symm
    · intro b hb; exact h b (List.mem_of_mem_take (List.mem_of_mem_take hb))
    · intro b hb
      simp only [List.mem_append] at hb
      rcases hb with hb | hb
      · exact h b (List.mem_of_mem_take (List.mem_of_mem_drop hb))
      · simp at hb
        rcases hb with hb | hb
        · omega
        · exact h b (List.mem_of_mem_drop hb)
  · have e1 : (raw.set i v).take 8 = raw.take 8 := by rw [List.take_set_of_le (by omega)]
    have e2 : (raw.set i v).drop 12 = (raw.drop 12).set (i - 12) v := by
      rw [List.drop_set]; rw [if_neg (by omega)]
    rw [e1, e2] at e
    have hl : i - 12 < (raw.drop 12).length := by simp; omega
    have e3 : raw.drop 12 = (raw.drop 12).take (i - 12) ++ raw[i] :: (raw.drop 12).drop (i - 12 + 1) := by
      have := (List.take_append_drop (i - 12) (raw.drop 12)).symm
      rw [List.drop_eq_getElem_cons hl] at this
      simpa [show 12 + (i - 12) = i by omega] using this
    have e4 : (raw.drop 12).set (i - 12) v = (raw.drop 12).take (i - 12) ++ v :: (raw.drop 12).drop (i - 12 + 1) := by rw [List.set_eq_take_append_cons_drop]; rw [if_pos hl]
    rw [e4] at e
    conv at e => rhs; rw [e3]
    rw [← List.append_assoc, ← List.append_assoc, ← List.append_assoc, ← List.append_assoc] at e
    refine hne (upd_turn _ _ v raw[i] ?_ hv hri ?_ e).symm
    · intro b hb
      simp only [List.mem_append] at hb
      rcases hb with (hb | hb) | hb
      · exact h b (List.mem_of_mem_take hb)
      · simp at hb; omega
      · exact h b (List.mem_of_mem_drop (List.mem_of_mem_take hb))
    · intro b hb; exact h b (List.mem_of_mem_drop (List.mem_of_mem_drop hb))
/-- A byte turned inside the field of the checksum leaves the checksum as it is. -/
theorem sum_field (raw : List Nat) (i v : Nat) (h1 : 8 ≤ i) (h2 : i < 12) : sum (raw.set i v) = sum raw := by
  unfold sum
  rw [List.take_set_of_le (by omega), List.drop_set_of_lt (by omega)]
end Crc
