/- Parts of the proof, steps Crc, C1, C2, C3, C4, C5, C6: what the code and the plain laws of these steps give. Made by AI agents; no person has read it. -/
import Derived.Test.YthphjbjehccomaaGreatDoorBase
section
namespace Crc

def poly : Nat := 0x82f63b78
def st (c : Nat) : Nat := if c % 2 = 1 then (c / 2) ^^^ poly else c / 2
def st8 (c : Nat) : Nat := st (st (st (st (st (st (st (st c)))))))
def bs (c b : Nat) : Nat := st8 (c ^^^ b)
def fold (c : Nat) (l : List Nat) : Nat := l.foldl bs c
def inv (c : Nat) : Nat := 4294967295 - c
def upd (c : Nat) (l : List Nat) : Nat := inv (fold (inv c) l)
def sum (raw : List Nat) : Nat := upd (upd (upd 0 (raw.take 8)) [0, 0, 0, 0]) (raw.drop 12)

theorem xor_div (a b k : Nat) : (a ^^^ b) / 2 ^ k = (a / 2 ^ k) ^^^ (b / 2 ^ k) := by
  apply Nat.eq_of_testBit_eq; intro i
  simp [Nat.testBit_div_two_pow, Nat.testBit_xor]
theorem xor_mod (a b k : Nat) : (a ^^^ b) % 2 ^ k = (a % 2 ^ k) ^^^ (b % 2 ^ k) := Nat.xor_mod_two_pow
theorem xor_lcomm (a b c : Nat) : a ^^^ (b ^^^ c) = b ^^^ (a ^^^ c) := by rw [← Nat.xor_assoc, Nat.xor_comm a b, Nat.xor_assoc]
theorem xor_zero_iff (a b : Nat) (h : a ^^^ b = 0) : a = b := by
  have h2 : (a ^^^ b) ^^^ b = 0 ^^^ b := by rw [h]
  simpa [Nat.xor_assoc] using h2
theorem xor_cancel_left (a b : Nat) : a ^^^ (a ^^^ b) = b := by rw [← Nat.xor_assoc, Nat.xor_self, Nat.zero_xor]
theorem st_xor (a b : Nat) : st (a ^^^ b) = st a ^^^ st b := by
  have h2 : (a ^^^ b) / 2 = (a / 2) ^^^ (b / 2) := by simpa using xor_div a b 1
  have hm : (a ^^^ b) % 2 = (a % 2) ^^^ (b % 2) := by simpa using xor_mod a b 1
  unfold st
  rw [h2, hm]
  rcases Nat.mod_two_eq_zero_or_one a with ha | ha <;> rcases Nat.mod_two_eq_zero_or_one b with hb | hb <;> rw [ha, hb]
  · simp
  · simp [Nat.xor_assoc]
  · simp [Nat.xor_assoc]; rw [Nat.xor_comm (b / 2) poly]
  · simp [Nat.xor_assoc]; rw [xor_lcomm poly (b / 2) poly]; simp
theorem st8_xor (a b : Nat) : st8 (a ^^^ b) = st8 a ^^^ st8 b := by simp only [st8, st_xor]
theorem st_lt (c : Nat) (h : c < 4294967296) : st c < 4294967296 := by
  unfold st poly
  split
  · exact Nat.xor_lt_two_pow (n := 32) (by omega) (by omega)
  · omega
theorem st8_lt (c : Nat) (h : c < 4294967296) : st8 c < 4294967296 := by
  unfold st8; repeat (first | exact h | apply st_lt)
theorem st_zero (d : Nat) (h : d < 4294967296) (e : st d = 0) : d = 0 := by
  unfold st at e
  split at e
  · have : d / 2 = poly := xor_zero_iff _ _ e
    unfold poly at this; omega
  · omega
theorem st8_zero (d : Nat) (h : d < 4294967296) (e : st8 d = 0) : d = 0 := by
  unfold st8 at e
  have l (c : Nat) (h : c < 4294967296) := st_lt c h
  have z (c : Nat) (h : c < 4294967296) := st_zero c h
  have h1 := l _ h; have h2 := l _ h1; have h3 := l _ h2; have h4 := l _ h3; have h5 := l _ h4; have h6 := l _ h5; have h7 := l _ h6
  exact z _ h (z _ h1 (z _ h2 (z _ h3 (z _ h4 (z _ h5 (z _ h6 (z _ h7 e)))))))
theorem st8_inj (a b : Nat) (ha : a < 4294967296) (hb : b < 4294967296) (e : st8 a = st8 b) : a = b := by
  have : st8 (a ^^^ b) = 0 := by rw [st8_xor, e, Nat.xor_self]
  exact xor_zero_iff _ _ (st8_zero _ (Nat.xor_lt_two_pow (n := 32) ha hb) this)
theorem st_even (x : Nat) : st (2 * x) = x := by unfold st; rw [if_neg (by omega)]; omega
theorem st8_shift (x : Nat) : st8 (256 * x) = x := by
  unfold st8
  rw [show 256 * x = 2 * (2 * (2 * (2 * (2 * (2 * (2 * (2 * x))))))) by omega]
  simp only [st_even]
theorem xor_low (c : Nat) : c = (c % 256) ^^^ (256 * (c / 256)) := by
  apply Nat.eq_of_testBit_eq; intro i
  rw [Nat.testBit_xor, show (256 : Nat) = 2 ^ 8 from rfl, Nat.testBit_mod_two_pow, Nat.testBit_two_pow_mul, Nat.testBit_div_two_pow]
  by_cases h : i < 8
  · simp [h, show ¬ 8 ≤ i by omega]
  · have h3 : i - 8 + 8 = i := by omega
    simp [h, show 8 ≤ i by omega, h3]
/-- The table's step. -/
theorem st8_table (c : Nat) : st8 (c % 256) ^^^ (c / 256) = st8 c := by
  conv => rhs; rw [xor_low c, st8_xor, st8_shift]
theorem bs_table (c b : Nat) (hb : b < 256) : st8 ((c % 256) ^^^ b) ^^^ (c / 256) = bs c b := by
  unfold bs
  rw [← st8_table (c ^^^ b)]
  have h1 : (c ^^^ b) % 256 = (c % 256) ^^^ b := by
    rw [show (256 : Nat) = 2 ^ 8 from rfl, xor_mod, show b % 2 ^ 8 = b from Nat.mod_eq_of_lt hb]
  have h2 : (c ^^^ b) / 256 = c / 256 := by
    rw [show (256 : Nat) = 2 ^ 8 from rfl, xor_div]; rw [show b / 2 ^ 8 = 0 from Nat.div_eq_of_lt hb]; simp
  rw [h1, h2]
def t (j : Nat) (i : Nat) : Nat := match j with | 0 => st8 i | j + 1 => st8 (t j i)
theorem t_xor (j a b : Nat) : t j (a ^^^ b) = t j a ^^^ t j b := by
  induction j with
  | zero => exact st8_xor a b
  | succ j ih => simp only [t, ih, st8_xor]
theorem t_shift (j x : Nat) : t (j + 1) (256 * x) = t j x := by
  induction j with
  | zero => simp only [t, st8_shift]
  | succ j ih => rw [t, ih, t]
theorem t_lt (j c : Nat) (h : c < 4294967296) : t j c < 4294967296 := by
  induction j with
  | zero => exact st8_lt c h
  | succ j ih => exact st8_lt _ ih
theorem le4 (c : Nat) : c = (c % 256) ^^^ (256 * ((c / 256 % 256) ^^^ (256 * ((c / 65536 % 256) ^^^ (256 * (c / 16777216)))))) := by
  have a := xor_low c
  have b := xor_low (c / 256)
  have d := xor_low (c / 256 / 256)
  rw [show c / 65536 = c / 256 / 256 by omega, show c / 16777216 = c / 256 / 256 / 256 by omega]
  rw [← d, ← b, ← a]
theorem t7 (c : Nat) : t 7 (c % 256) ^^^ (t 6 (c / 256 % 256) ^^^ (t 5 (c / 65536 % 256) ^^^ t 4 (c / 16777216))) = t 7 c := by
  conv => rhs; rw [le4 c]
  simp only [t_xor, t_shift]
/-- Eight bytes at once. -/
theorem slice8 (c p0 p1 p2 p3 p4 p5 p6 p7 : Nat) :
    t 0 p7 ^^^ (t 1 p6 ^^^ (t 2 p5 ^^^ (t 3 p4 ^^^ (t 7 (c ^^^ (p0 ^^^ (256 * p1) ^^^ (65536 * p2) ^^^ (16777216 * p3))))))) =
      bs (bs (bs (bs (bs (bs (bs (bs c p0) p1) p2) p3) p4) p5) p6) p7 := by
  have e1 : t 7 (256 * p1) = t 6 p1 := t_shift 6 p1
  have e2 : t 7 (65536 * p2) = t 5 p2 := by rw [show 65536 * p2 = 256 * (256 * p2) by omega, t_shift, t_shift]
  have e3 : t 7 (16777216 * p3) = t 4 p3 := by rw [show 16777216 * p3 = 256 * (256 * (256 * p3)) by omega, t_shift, t_shift, t_shift]
  simp only [t_xor, e1, e2, e3]
  simp only [bs, st8_xor, t]
  generalize st8 (st8 (st8 (st8 (st8 (st8 (st8 (st8 c))))))) = x0
  generalize st8 (st8 (st8 (st8 (st8 (st8 (st8 (st8 p0))))))) = x1
  generalize st8 (st8 (st8 (st8 (st8 (st8 (st8 p1)))))) = x2
  generalize st8 (st8 (st8 (st8 (st8 (st8 p2))))) = x3
  generalize st8 (st8 (st8 (st8 (st8 p3)))) = x4
  generalize st8 (st8 (st8 (st8 p4))) = x5
  generalize st8 (st8 (st8 p5)) = x6
  generalize st8 (st8 p6) = x7
  generalize st8 p7 = x8
  ac_rfl

theorem bs_lt (c b : Nat) (h : c < 4294967296) (hb : b < 256) : bs c b < 4294967296 := st8_lt _ (Nat.xor_lt_two_pow (n := 32) h (by omega))
theorem fold_lt (l : List Nat) : ∀ c, c < 4294967296 → (∀ b ∈ l, b < 256) → fold c l < 4294967296 := by
  induction l with
  | nil => intro c h _; exact h
  | cons a l ih => intro c h hl; exact ih _ (bs_lt _ _ h (hl a (by simp))) (fun b hb => hl b (by simp [hb]))
theorem bs_inj_c (c c' b : Nat) (h : c < 4294967296) (h' : c' < 4294967296) (hb : b < 256) (e : bs c b = bs c' b) : c = c' := by
  have := st8_inj _ _ (Nat.xor_lt_two_pow (n := 32) h (by omega)) (Nat.xor_lt_two_pow (n := 32) h' (by omega)) e
  have h2 : (c ^^^ b) ^^^ b = (c' ^^^ b) ^^^ b := by rw [this]
  simpa [Nat.xor_assoc] using h2
theorem bs_inj_b (c b b' : Nat) (h : c < 4294967296) (hb : b < 256) (hb' : b' < 256) (e : bs c b = bs c b') : b = b' := by
  have := st8_inj _ _ (Nat.xor_lt_two_pow (n := 32) h (by omega)) (Nat.xor_lt_two_pow (n := 32) h (by omega)) e
  have h2 : c ^^^ (c ^^^ b) = c ^^^ (c ^^^ b') := by rw [this]
  simpa [← Nat.xor_assoc] using h2
theorem fold_inj (l : List Nat) : ∀ c c', c < 4294967296 → c' < 4294967296 → (∀ b ∈ l, b < 256) → fold c l = fold c' l → c = c' := by
  induction l with
  | nil => intro c c' _ _ _ e; exact e
  | cons a l ih =>
    intro c c' h h' hl e
    have ha := hl a (by simp)
    exact bs_inj_c _ _ _ h h' ha (ih _ _ (bs_lt _ _ h ha) (bs_lt _ _ h' ha) (fun b hb => hl b (by simp [hb])) e)
theorem fold_append (c : Nat) (l m : List Nat) : fold c (l ++ m) = fold (fold c l) m := by simp [fold]
/-- One byte turned: another fold. -/
theorem fold_turn (pre post : List Nat) (a a' c : Nat) (hc : c < 4294967296) (hp : ∀ b ∈ pre, b < 256) (ha : a < 256) (ha' : a' < 256) (hq : ∀ b ∈ post, b < 256)
    (e : fold c (pre ++ a :: post) = fold c (pre ++ a' :: post)) : a = a' := by
  rw [fold_append, fold_append] at e
  have hf := fold_lt pre c hc hp
  have := fold_inj post _ _ (bs_lt _ _ hf ha) (bs_lt _ _ hf ha') hq e
  exact bs_inj_b _ _ _ hf ha ha' this
theorem inv_lt (c : Nat) : inv c < 4294967296 := by unfold inv; omega
theorem inv_inv (c : Nat) (h : c < 4294967296) : inv (inv c) = c := by unfold inv; omega
theorem inv_inj (a b : Nat) (ha : a < 4294967296) (hb : b < 4294967296) (e : inv a = inv b) : a = b := by unfold inv at e; omega
theorem upd_lt (c : Nat) (l : List Nat) : upd c l < 4294967296 := inv_lt _
theorem upd_nil (c : Nat) (h : c < 4294967296) : upd c [] = c := inv_inv c h
theorem upd_upd (c : Nat) (l m : List Nat) (hl : ∀ b ∈ l, b < 256) : upd (upd c l) m = upd c (l ++ m) := by
  unfold upd; rw [inv_inv _ (fold_lt l _ (inv_lt _) hl), fold_append]
theorem sum_eq (raw : List Nat) (h : ∀ b ∈ raw, b < 256) : sum raw = upd 0 (raw.take 8 ++ ([0, 0, 0, 0] ++ raw.drop 12)) := by
  unfold sum
  rw [upd_upd _ _ _ (fun b hb => h b (List.mem_of_mem_take hb)), upd_upd]
  · simp
  · intro b hb
    rcases List.mem_append.1 hb with hb | hb
    · exact h b (List.mem_of_mem_take hb)
    · simp at hb; omega
theorem upd_turn (pre post : List Nat) (a a' : Nat) (hp : ∀ b ∈ pre, b < 256) (ha : a < 256) (ha' : a' < 256) (hq : ∀ b ∈ post, b < 256)
    (e : upd 0 (pre ++ a :: post) = upd 0 (pre ++ a' :: post)) : a = a' := by
  unfold upd at e
  refine fold_turn pre post a a' (inv 0) (inv_lt _) hp ha ha' hq (inv_inj _ _ ?_ ?_ e)
  · refine fold_lt _ _ (inv_lt _) ?_
    intro b hb; rcases List.mem_append.1 hb with hb | hb
    · exact hp b hb
    · rcases List.mem_cons.1 hb with rfl | hb; exact ha; exact hq b hb
  · refine fold_lt _ _ (inv_lt _) ?_
    intro b hb; rcases List.mem_append.1 hb with hb | hb
    · exact hp b hb
    · rcases List.mem_cons.1 hb with rfl | hb; exact ha'; exact hq b hb
/-- The checksum of bytes with one byte turned, outside the field of the checksum, is another one. -/
theorem sum_turn (raw : List Nat) (h : ∀ b ∈ raw, b < 256) (i v : Nat) (hi : i < raw.length) (hv : v < 256) (hne : raw[i] ≠ v) (hout : i < 8 ∨ 12 ≤ i) :
    sum (raw.set i v) ≠ sum raw := by
  intro e
  have h' : ∀ b ∈ raw.set i v, b < 256 := by
    intro b hb; rcases List.mem_or_eq_of_mem_set hb with hb | rfl; exact h b hb; exact hv
  rw [sum_eq _ h, sum_eq _ h'] at e
  have hd : raw = raw.take i ++ raw[i] :: raw.drop (i + 1) := by simp
  have hs : raw.set i v = raw.take i ++ v :: raw.drop (i + 1) := by rw [List.set_eq_take_append_cons_drop]; simp [hi]
  have hri := h raw[i] (List.getElem_mem hi)
  rcases hout with ho | ho
  · have e1 : (raw.set i v).drop 12 = raw.drop 12 := by rw [List.drop_set_of_lt (by omega)]
    have e2 : (raw.set i v).take 8 = (raw.take 8).set i v := by rw [List.take_set]
    rw [e1, e2] at e
    have hl : i < (raw.take 8).length := by simp; omega
    have e3 : raw.take 8 = (raw.take 8).take i ++ raw[i] :: (raw.take 8).drop (i + 1) := by
      have := (List.take_append_drop i (raw.take 8)).symm
      rw [List.drop_eq_getElem_cons hl] at this
      simpa using this
    have e4 : (raw.take 8).set i v = (raw.take 8).take i ++ v :: (raw.take 8).drop (i + 1) := by rw [List.set_eq_take_append_cons_drop, if_pos hl]
    rw [e4] at e
    conv at e => rhs; rw [e3]
    simp only [List.append_assoc, List.cons_append] at e
    refine hne (upd_turn _ _ v raw[i] ?_ hv hri ?_ e).symm
    · intro b hb; exact h b (List.mem_of_mem_take (List.mem_of_mem_take hb))
    · intro b hb
      simp only [List.mem_append] at hb
      rcases hb with hb | hb
      · exact h b (List.mem_of_mem_take (List.mem_of_mem_drop hb))
      · simp at hb
        rcases hb with hb | hb
        · omega
        · exact h b (List.mem_of_mem_drop hb)
  · have e1 : (raw.set i v).take 8 = raw.take 8 := by rw [List.take_set_of_le (by omega)]
    have e2 : (raw.set i v).drop 12 = (raw.drop 12).set (i - 12) v := by
      rw [List.drop_set]; rw [if_neg (by omega)]
    rw [e1, e2] at e
    have hl : i - 12 < (raw.drop 12).length := by simp; omega
    have e3 : raw.drop 12 = (raw.drop 12).take (i - 12) ++ raw[i] :: (raw.drop 12).drop (i - 12 + 1) := by
      have := (List.take_append_drop (i - 12) (raw.drop 12)).symm
      rw [List.drop_eq_getElem_cons hl] at this
      simpa [show 12 + (i - 12) = i by omega] using this
    have e4 : (raw.drop 12).set (i - 12) v = (raw.drop 12).take (i - 12) ++ v :: (raw.drop 12).drop (i - 12 + 1) := by rw [List.set_eq_take_append_cons_drop]; rw [if_pos hl]
    rw [e4] at e
    conv at e => rhs; rw [e3]
    rw [← List.append_assoc, ← List.append_assoc, ← List.append_assoc, ← List.append_assoc] at e
    refine hne (upd_turn _ _ v raw[i] ?_ hv hri ?_ e).symm
    · intro b hb
      simp only [List.mem_append] at hb
      rcases hb with (hb | hb) | hb
      · exact h b (List.mem_of_mem_take hb)
      · simp at hb; omega
      · exact h b (List.mem_of_mem_drop (List.mem_of_mem_take hb))
    · intro b hb; exact h b (List.mem_of_mem_drop (List.mem_of_mem_drop hb))
/-- A byte turned inside the field of the checksum leaves the checksum as it is. -/
theorem sum_field (raw : List Nat) (i v : Nat) (h1 : 8 ≤ i) (h2 : i < 12) : sum (raw.set i v) = sum raw := by
  unfold sum
  rw [List.take_set_of_le (by omega), List.drop_set_of_lt (by omega)]
end Crc
end
section
namespace Go.Proofs.Base
open Go Go.Proofs Go.RowKit
set_option maxRecDepth 100000

def stn : Nat → Nat → Nat
  | 0, c => c
  | n + 1, c => Crc.st (stn n c)
theorem stn8 (c : Nat) : stn 8 c = Crc.st8 c := rfl
theorem stn_lt (n c : Nat) (h : c < 4294967296) : stn n c < 4294967296 := by
  induction n with
  | zero => exact h
  | succ n ih => exact Crc.st_lt _ ih
theorem u32_xor_lit (a : Nat) (ha : a < 4294967296) : bits .xor .u32 (a : Int) 2197175160 = ((a ^^^ Crc.poly : Nat) : Int) := u32_xor_nat a 2197175160 ha (by decide)
theorem u32_and_one (a : Nat) (ha : a < 4294967296) : bits .and .u32 (a : Int) 1 = ((a % 2 : Nat) : Int) := by
  rw [show (1 : Int) = ((1 : Nat) : Int) from rfl, u32_and_nat a 1 ha (by decide), nat_mask1]

theorem u32_half_xor (c : Nat) (h : c < 4294967296) (ho : c % 2 = 1) : Value.int .u32 (bits .xor .u32 ((c : Int) / 2) 2197175160) = .int .u32 (Crc.st c) := by
  rw [show (c : Int) / 2 = ((c / 2 : Nat) : Int) by omega, u32_xor_lit _ (by omega), Crc.st, if_pos ho]
theorem st_even (c : Nat) (h : ¬ c % 2 = 1) : Value.int .u32 ((c : Int) / 2) = .int .u32 (Crc.st c) := by
  rw [show (c : Int) / 2 = ((c / 2 : Nat) : Int) by omega, Crc.st, if_neg h]
theorem set_below {cs : Array Value} {k : Nat} {f : Nat → Value} (hk : k < cs.size) (h : ∀ j, j < k → cs[j]? = some (f j)) : ∀ j, j < k + 1 → (cs.setIfInBounds k (f k))[j]? = some (f j) := by
  intro j hj
  rw [Array.getElem?_setIfInBounds]
  by_cases e : k = j
  · subst e; simp [hk]
  · rw [if_neg e]; exact h j (by omega)
set_option maxRecDepth 100000 in
set_option maxHeartbeats 400000 in
theorem populate (T : Nat) (cs : Array Value) (e : TypeId) (w : World) (hT : w.heap[T]? = some (.cells cs e (0, 0))) (hs : 256 ≤ cs.size) :
    Calls Tryz.prog 147 #[.int .u32 2197175160, .pointer (some ⟨T, 0, none⟩)] w fun r w' => r = .returned (.tuple #[]) ∧ Kept [T] w w' ∧
      ∃ cs', w'.heap[T]? = some (.cells cs' e (0, 0)) ∧ cs'.size = cs.size ∧ ∀ k, k < 256 → cs'[k]? = some (.int .u32 (Crc.t 0 k)) := by
  go_enter Tryz.func147, Tryz.ntmps147
  go_wp2
  go_loopw [4, 5, 6] (fun i _ _ wr => ∃ k : Nat, k ≤ 256 ∧ i = .int .i64 k ∧ Kept [T] w wr ∧ ∃ cs', wr.heap[T]? = some (.cells cs' e (0, 0)) ∧ cs'.size = cs.size ∧ ∀ j, j < k → cs'[j]? = some (.int .u32 (Crc.t 0 j)))
    (fun i _ _ _ => 256 - (intOf i).toNat)
  case atStart => exact ⟨0, by omega, rfl, Kept.refl _ _, cs, hT, rfl, fun j hj => by omega⟩
  case round =>
    obtain ⟨k, hk, rfl, hkept, cs', hT', hs', hc⟩ := hrel
    by_cases hlt : k < 256
    · have hlt' : (k : Int) < 256 := by omega
      have hk32 : k < 4294967296 := by omega
      have hcell : wr.cell? ⟨T, k, none⟩ = some cs'[k] := blk_cell hT' (by simp)
      have hfree : wr.frozen? ⟨T, k, none⟩ = false := blk_free hT'
      go_wp2
      go_loop [5, 6] (fun c j => ∃ n : Nat, n ≤ 8 ∧ j = .int .i64 n ∧ c = .int .u32 (stn n k)) (fun _ j => 8 - (intOf j).toNat)
      case atStart => exact ⟨0, by omega, rfl, rfl⟩
      case round =>
        obtain ⟨n, hn, rfl, rfl⟩ := hrel
        have hlt2 := stn_lt n k hk32
        generalize hc0 : stn n k = c at *
        have Hc0 := hid hc0; clear hc0
        by_cases hn8 : n < 8
        · have hn8' : (n : Int) < 8 := by omega
          by_cases hodd : c % 2 = 1
          · have ht : (bits BinOp.and IntKind.u32 (c : Int) 1 == 1) = true := by rw [u32_and_one c hlt2, hodd]; rfl
            go_wp2
            go_round
            case rel => exact ⟨n + 1, by omega, by go_num, by rw [stn, Hc0.out, u32_half_xor c hlt2 hodd]⟩
            case measure => simp [intOf]; omega
          · have ht : (bits BinOp.and IntKind.u32 (c : Int) 1 == 1) = false := by rw [u32_and_one c hlt2, show c % 2 = 0 by omega]; rfl
            go_wp2
            go_round
            case rel => exact ⟨n + 1, by omega, by go_num, by rw [stn, Hc0.out, st_even c hodd]⟩
            case measure => simp [intOf]; omega
        · have en : n = 8 := by omega
          go_wp2
          go_roundw
          case rel =>
            subst en
            have e8 : c = Crc.t 0 k := by rw [← Hc0.out]; exact stn8 k
            refine ⟨k + 1, by omega, by go_num, hkept.setCell _ (.inl (by simp)), cs'.setIfInBounds k (.int .u32 c), blk_setCell _ hT', by simp [hs'], fun j hj => ?_⟩
            rw [e8]
            exact set_below (by omega) hc j hj
          case measure => simp [intOf]; omega
    · go_wp2
      go_end0
      exact ⟨rfl, hkept, cs', hT', hs', fun j hj => hc j (by omega)⟩
end Go.Proofs.Base
end
section
namespace Go.Proofs.Base
open Go Go.Proofs Go.RowKit
set_option maxRecDepth 100000
theorem size271 : Tryz.zeroCells276.size = 2048 := by kernel_rfl
theorem u32_and_255 (a : Nat) (ha : a < 4294967296) : bits .and .u32 (a : Int) 255 = ((a % 256 : Nat) : Int) := by
  rw [show (255 : Int) = ((255 : Nat) : Int) from rfl, u32_and_nat a 255 ha (by decide), nat_mask8]
/-- What the table holds: the first rows whole up to column k, in column k the first j rows. -/
def Tab (cs : Array Value) (k j : Nat) : Prop :=
  cs.size = 2048 ∧ (∀ i, i < 256 → cs[i]? = some (.int .u32 (Crc.t 0 i))) ∧ (∀ r, r < 8 → ∀ i, i < k → cs[256 * r + i]? = some (.int .u32 (Crc.t r i))) ∧ ∀ r, r < j → cs[256 * r + k]? = some (.int .u32 (Crc.t r k))
theorem Tab.set {cs : Array Value} {k j : Nat} (h : Tab cs k j) (hk : k < 256) (hj : j < 8) (h1 : 1 ≤ j) : Tab (cs.setIfInBounds (256 * j + k) (.int .u32 (Crc.t j k))) k (j + 1) := by
  obtain ⟨hs, ha, hb, hc⟩ := h
  refine ⟨by simp [hs], fun i hi => ?_, fun r hr i hi => ?_, fun r hr => ?_⟩
  · rw [Array.getElem?_setIfInBounds, if_neg (by omega)]; exact ha i hi
  · rw [Array.getElem?_setIfInBounds, if_neg (by omega)]; exact hb r hr i hi
  · rw [Array.getElem?_setIfInBounds]
    by_cases e : r = j
    · subst e; simp [hs]; omega
    · rw [if_neg (by omega)]; exact hc r (by omega)
theorem Tab.next {cs : Array Value} {k : Nat} (h : Tab cs k 8) : Tab cs (k + 1) 0 := by
  obtain ⟨hs, ha, hb, hc⟩ := h
  refine ⟨hs, ha, fun r hr i hi => ?_, fun r hr => by omega⟩
  by_cases e : i = k
  · subst e; exact hc r hr
  · exact hb r hr i (by omega)
theorem Tab.first {cs : Array Value} {k : Nat} (h : Tab cs k 0) (hk : k < 256) : Tab cs k 1 := by
  obtain ⟨hs, ha, hb, hc⟩ := h
  refine ⟨hs, ha, hb, fun r hr => ?_⟩
  obtain rfl : r = 0 := by omega
  simpa using ha k hk
set_option maxRecDepth 100000 in
set_option maxHeartbeats 400000 in
theorem makeTable (w : World) :
    Calls Tryz.prog 138 #[.int .u32 2197175160] w fun r w' => r = .returned (.pointer (some ⟨w.heap.size, 0, none⟩)) ∧ Kept [] w w' ∧
      ∃ cs', w'.heap[w.heap.size]? = some (.cells cs' 276 (0, 0)) ∧ Tab cs' 256 0 := by
  have hz := size271
  generalize hB : w.heap.size = B
  have HB := hid hB; clear hB
  go_enter Tryz.func138, Tryz.ntmps138
  go_wp2_with fail
  simp only [HB.out]
  refine (populate B Tryz.zeroCells276 276 _ (by rw [← HB.out]; exact blk_new _ _) (by omega)).mono ?_
  rintro e wp ⟨rfl, hkp, cs1, hT1, hs1, hc1⟩
  have hkp' : Kept [] w wp := ((Kept.refl [B] w).alloc _).trans hkp |>.more (by intro s hs; simp at hs; subst hs; right; rw [HB.out]; exact Nat.le_refl _)
  clear hkp
  have ht1 : Tab cs1 0 0 := ⟨hs1.trans hz, hc1, fun r hr i hi => by omega, fun r hr => by omega⟩
  clear hs1 hc1 hz
  go_wp2_with fail
  go_loopw [4, 5, 6] (fun i _ _ wr => ∃ k : Nat, k ≤ 256 ∧ i = .int .i64 k ∧ Kept [] w wr ∧ ∃ cs', wr.heap[B]? = some (.cells cs' 276 (0, 0)) ∧ Tab cs' k 0)
    (fun i _ _ _ => 256 - (intOf i).toNat)
  case atStart => exact ⟨0, by omega, rfl, hkp', cs1, hT1, ht1⟩
  case round =>
    obtain ⟨k, hk, rfl, hkept, cs2, hT2, ht2⟩ := hrel
    clear hkp' hT1 ht1
    obtain ⟨wo, rfl⟩ : ∃ wo : World, wo = wr := ⟨_, rfl⟩
    by_cases hlt : k < 256
    · have hlt' : (k : Int) < 256 := by omega
      have hk0 : (0 : Int) ≤ (k : Int) := by omega
      have hcell : wo.cell? ⟨B, k, none⟩ = some (.int .u32 (Crc.t 0 k)) := blk_cell hT2 (ht2.2.1 k hlt)
      go_wp2_with fail
      go_loopw [5, 6] (fun c j wr => ∃ n : Nat, 1 ≤ n ∧ n ≤ 8 ∧ j = .int .i64 n ∧ c = .int .u32 (Crc.t (n - 1) k) ∧ Kept [] w wr ∧ ∃ cs', wr.heap[B]? = some (.cells cs' 276 (0, 0)) ∧ Tab cs' k n) (fun _ j _ => 8 - (intOf j).toNat)
      case atStart => exact ⟨1, by omega, by omega, rfl, rfl, hkept, cs2, hT2, ht2.first hlt⟩
      case round =>
        obtain ⟨n, hn1, hn8, rfl, rfl, hkept3, cs3, hT3, ht3⟩ := hrel
        clear hkept hT2 ht2 hcell
        have hlt2 := Crc.t_lt (n - 1) k (by omega)
        generalize hc0 : Crc.t (n - 1) k = c at *
        have Hc0 := hid hc0; clear hc0
        by_cases hn : n < 8
        · have hn' : (n : Int) < 8 := by omega
          have hn0 : (0 : Int) ≤ (n : Int) := by omega
          have hand := u32_and_255 c hlt2
          have hm0 : (0 : Int) ≤ ((c % 256 : Nat) : Int) := by omega
          have hm1 : ((c % 256 : Nat) : Int) < 256 := by omega
          have hcell : wr.cell? ⟨B, c % 256, none⟩ = some (.int .u32 (Crc.t 0 (c % 256))) := blk_cell hT3 (ht3.2.1 _ (by omega))
          have hcell2 : wr.cell? ⟨B, n * 256 + k, none⟩ = some (cs3[n * 256 + k]'(by rw [ht3.1]; omega)) := blk_cell hT3 (by simp)
          have hfree : wr.frozen? ⟨B, n * 256 + k, none⟩ = false := blk_free hT3
          go_wp2_with fail
          go_roundw
          case rel =>
            have e1 : Value.int IntKind.u32 (bits BinOp.xor IntKind.u32 (↑(Crc.t 0 (c % 256))) (↑c / 256)) = .int .u32 (Crc.t n k) := by
              rw [show (c : Int) / 256 = ((c / 256 : Nat) : Int) by omega, u32_xor_nat _ _ (Crc.t_lt 0 _ (by omega)) (by omega)]
              rw [show Crc.t 0 (c % 256) ^^^ c / 256 = Crc.t n k from ?_]
              obtain ⟨m, rfl⟩ : ∃ m, n = m + 1 := ⟨n - 1, by omega⟩
              have hc1 : Crc.t m k = c := Hc0.out
              rw [show Crc.t (m + 1) k = Crc.st8 (Crc.t m k) from rfl, hc1, ← Crc.st8_table c]; rfl
            rw [e1]
            refine ⟨n + 1, by omega, by omega, by go_num, rfl, hkept3.setCell _ (.inr (by simp [HB.out])), _, blk_setCell _ hT3, ?_⟩
            rw [show n * 256 + k = 256 * n + k by omega]
            exact ht3.set hlt hn hn1
          case measure => simp [intOf]; omega
        · obtain rfl : n = 8 := by omega
          go_wp2_with fail
          go_roundw
          case rel => exact ⟨k + 1, by omega, by go_num, hkept3, cs3, hT3, ht3.next⟩
          case measure => simp [intOf]; omega
    · obtain rfl : k = 256 := by omega
      go_wp2_with fail
      go_ret
      exact ⟨rfl, hkept, cs2, hT2, ht2⟩
end Go.Proofs.Base
end
section
namespace Go.Proofs.Base
open Go Go.Proofs Go.RowKit
set_option maxRecDepth 100000
/-- The byte at j. -/
def bt (l : List Nat) (j : Nat) : Nat := l.getD j 0
theorem bt_get {l : List Nat} {j : Nat} (h : j < l.length) : bt l j = l[j] := by simp [bt, h]
theorem bt_drop (l : List Nat) (k j : Nat) : bt (l.drop k) j = bt l (k + j) := by simp [bt]
theorem bt_take {l : List Nat} {k j : Nat} (h : j < k) : bt (l.take k) j = bt l j := by simp [bt, h]
structure BytesAt (w : World) (b off : Nat) (l : List Nat) : Prop where
  lt : b < w.heap.size
  small : ∀ x ∈ l, x < 256
  cell : ∀ j, j < l.length → w.cell? ⟨b, off + j, none⟩ = some (.int .u8 (bt l j : Nat))
theorem bt_lt {l : List Nat} (h : ∀ x ∈ l, x < 256) (j : Nat) : bt l j < 256 := by
  by_cases hj : j < l.length
  · rw [bt_get hj]; exact h _ (List.getElem_mem hj)
  · simp [bt, List.getElem?_eq_none (by omega : l.length ≤ j)]
theorem BytesAt.kept {S : List Nat} {w w' : World} {b off : Nat} {l : List Nat} (h : BytesAt w b off l) (k : Kept S w w') (hb : b ∉ S) : BytesAt w' b off l :=
  ⟨Nat.lt_of_lt_of_le h.lt k.size, h.small, fun j hj => (k.cell (p := ⟨b, off + j, none⟩) h.lt hb).trans (h.cell j hj)⟩
theorem BytesAt.drop {w : World} {b off : Nat} {l : List Nat} (h : BytesAt w b off l) (k : Nat) : BytesAt w b (off + k) (l.drop k) :=
  ⟨h.lt, fun x hx => h.small x (List.mem_of_mem_drop hx), fun j hj => by
    rw [bt_drop, Nat.add_assoc]; exact h.cell (k + j) (by simp at hj; omega)⟩
theorem BytesAt.take {w : World} {b off : Nat} {l : List Nat} (h : BytesAt w b off l) (k : Nat) : BytesAt w b off (l.take k) :=
  ⟨h.lt, fun x hx => h.small x (List.mem_of_mem_take hx), fun j hj => by
    simp at hj
    rw [bt_take (by omega)]; exact h.cell j (by omega)⟩
theorem BytesAt.blt {w : World} {b off : Nat} {l : List Nat} (h : BytesAt w b off l) (j : Nat) : bt l j < 256 := bt_lt h.small j
theorem take_snoc {l : List Nat} {k : Nat} (h : k < l.length) : l.take (k + 1) = l.take k ++ [bt l k] := by
  rw [List.take_succ_eq_append_getElem h, bt_get h]
theorem fold_snoc (c : Nat) {l : List Nat} {k : Nat} (h : k < l.length) : Crc.fold c (l.take (k + 1)) = Crc.bs (Crc.fold c (l.take k)) (bt l k) := by
  rw [take_snoc h, Crc.fold_append]; rfl
theorem fold_take_lt (c k : Nat) (l : List Nat) (hc : c < 4294967296) (h : ∀ x ∈ l, x < 256) : Crc.fold c (l.take k) < 4294967296 := Crc.fold_lt _ _ hc (fun b hb => h b (List.mem_of_mem_take hb))

theorem u32_inv (c : Nat) (h : c < 4294967296) : bits .xor .u32 IntKind.u32.max (c : Int) = ((Crc.inv c : Nat) : Int) := by
  rw [show IntKind.u32.max = ((4294967295 : Nat) : Int) from rfl, u32_xor_nat _ _ (by decide) h]
  congr 1
  unfold Crc.inv
  have h2 : (BitVec.allOnes 32 ^^^ BitVec.ofNat 32 c).toNat = (~~~ (BitVec.ofNat 32 c)).toNat := by rw [BitVec.allOnes_xor]
  rw [BitVec.toNat_xor, BitVec.toNat_not, BitVec.toNat_allOnes, BitVec.toNat_ofNat, Nat.mod_eq_of_lt h] at h2
  simpa using h2
set_option maxRecDepth 100000 in
set_option maxHeartbeats 400000 in
theorem simpleUpdate (c T b off len cap : Nat) (l : List Nat) (w : World) (hc : c < 4294967296) (hT : ∀ k, k < 256 → w.cell? ⟨T, k, none⟩ = some (.int .u32 (Crc.t 0 k))) (hl : BytesAt w b off l) (hlen : l.length = len) (hm : len ≤ 9223372036854775807) :
    Calls Tryz.prog 146 #[.int .u32 c, .pointer (some ⟨T, 0, none⟩), .slice (some ⟨b, off, none⟩) len cap] w fun r w' => r = .returned (.int .u32 (Crc.upd c l)) ∧ w = w' := by
  have HL := hid hlen; clear hlen
  have hi := u32_inv c hc
  go_enter Tryz.func146, Tryz.ntmps146
  go_wp2
  go_loop [0, 8, 13] (fun v _ i => ∃ k : Nat, k ≤ len ∧ i = .int .i64 k ∧ v = .int .u32 (Crc.fold (Crc.inv c) (l.take k))) (fun _ _ i => len - (intOf i).toNat)
  case atStart => exact ⟨0, by omega, rfl, by simp [Crc.fold]⟩
  case round =>
    obtain ⟨k, hk, rfl, rfl⟩ := hrel
    have hf := fold_take_lt (Crc.inv c) k l (Crc.inv_lt c) hl.small
    by_cases hlt : k < len
    · have Hs := hid (fold_snoc (Crc.inv c) (by rw [HL.out]; exact hlt : k < l.length))
      have hcb := hl.cell k (by rw [HL.out]; exact hlt)
      have hb := hl.blt k
      generalize bt l k = x at *
      generalize Crc.fold (Crc.inv c) (List.take k l) = f at *
      have hk0 : (0 : Int) ≤ (k : Int) := by omega
      have hk1 : (k : Int) < (len : Int) := by omega
      clear hi
      obtain ⟨i, hi, hix⟩ : ∃ i, i < 256 ∧ i = (f % 256) ^^^ x := ⟨_, Nat.xor_lt_two_pow (n := 8) (by omega) hb, rfl⟩
      have he1 : bits BinOp.xor IntKind.u8 ((f : Int) % 256) (x : Int) = (i : Int) := by
        rw [hix, show ((f : Int) % 256) = ((f % 256 : Nat) : Int) by omega, u8_xor_nat _ _ (by omega) hb]
      have he2 : bits BinOp.xor IntKind.u32 ((Crc.t 0 i : Nat) : Int) ((f : Int) / 256) = ((Crc.bs f x : Nat) : Int) := by
        rw [show ((f : Int) / 256) = ((f / 256 : Nat) : Int) by omega, u32_xor_nat _ _ (Crc.t_lt 0 _ (by omega)) (by omega), hix, ← Crc.bs_table f x hb]; rfl
      have hi0 : (0 : Int) ≤ (i : Int) := by omega
      have hi1 : (i : Int) < 256 := by omega
      have hti := hT i hi
      clear hix hT
      go_wp2
      go_round
      case rel => exact ⟨k + 1, by omega, by go_num, by rw [Hs.out]⟩
      case measure => simp [intOf]; omega
    · obtain rfl : k = len := by omega
      have hi2 := u32_inv _ hf
      clear hi hT
      go_wp2
      go_ret
      exact ⟨by rw [List.take_of_length_le (by rw [HL.out]; omega)]; rfl, rfl⟩
end Go.Proofs.Base
end
section
namespace Go.Proofs.Base
open Go Go.Proofs Go.RowKit
set_option maxRecDepth 100000
def le4 (x0 x1 x2 x3 : Nat) : Nat := x0 + 256 * x1 + 65536 * x2 + 16777216 * x3
theorem or_le4 (x0 x1 x2 x3 : Nat) (h0 : x0 < 256) (h1 : x1 < 256) (h2 : x2 < 256) (h3 : x3 < 256) :
    bits BinOp.or IntKind.u32 (bits BinOp.or IntKind.u32 (bits BinOp.or IntKind.u32 (x0 : Int) ((x1 : Int) * 256)) ((x2 : Int) * 65536)) ((x3 : Int) * 16777216) = ((le4 x0 x1 x2 x3 : Nat) : Int) := by
  rw [show (x1 : Int) * 256 = ((256 * x1 : Nat) : Int) by omega, show (x2 : Int) * 65536 = ((65536 * x2 : Nat) : Int) by omega, show (x3 : Int) * 16777216 = ((16777216 * x3 : Nat) : Int) by omega]
  rw [u32_or_nat _ _ (by omega) (by omega), Nat.or_comm, nat_join 8 _ _ (by omega) (by omega)]
  rw [u32_or_nat _ _ (by omega) (by omega), Nat.or_comm, nat_join 16 _ _ (by omega) (by omega)]
  rw [u32_or_nat _ _ (by omega) (by omega), Nat.or_comm, nat_join 24 _ _ (by omega) (by omega)]
  congr 1; unfold le4; omega
theorem le4_xor (x0 x1 x2 x3 : Nat) (h0 : x0 < 256) (h1 : x1 < 256) (h2 : x2 < 256) : x0 ^^^ (256 * x1) ^^^ (65536 * x2) ^^^ (16777216 * x3) = le4 x0 x1 x2 x3 := by
  have join (i x y : Nat) (hx : x < 2 ^ i) : x ^^^ (2 ^ i * y) = x + 2 ^ i * y := by
    rw [Nat.add_comm, Nat.two_pow_add_eq_or_of_lt hx]
    apply Nat.eq_of_testBit_eq; intro j
    rw [Nat.testBit_xor, Nat.testBit_or, Nat.testBit_two_pow_mul]
    by_cases hj : j < i
    · simp [show ¬ i ≤ j by omega]
    · rw [Nat.testBit_lt_two_pow (Nat.lt_of_lt_of_le hx (Nat.pow_le_pow_right (by decide) (by omega)))]; simp
  have a := join 8 x0 x1 (by omega)
  have b := join 16 (x0 + 256 * x1) x2 (by omega)
  have c := join 24 (x0 + 256 * x1 + 65536 * x2) x3 (by omega)
  simp at a b c
  rw [a, b, c]; rfl
theorem le4_lt (x0 x1 x2 x3 : Nat) (h0 : x0 < 256) (h1 : x1 < 256) (h2 : x2 < 256) (h3 : x3 < 256) : le4 x0 x1 x2 x3 < 4294967296 := by unfold le4; omega

set_option maxRecDepth 100000 in
theorem leUint32 (b off len cap : Nat) (x0 x1 x2 x3 : Nat) (w : World) (hl : (4 : Int) ≤ (len : Int)) (hm : (len : Int) ≤ 9223372036854775807)
    (h0 : x0 < 256) (h1 : x1 < 256) (h2 : x2 < 256) (h3 : x3 < 256)
    (c0 : w.cell? ⟨b, off, none⟩ = some (.int .u8 x0)) (c1 : w.cell? ⟨b, off+1, none⟩ = some (.int .u8 x1)) (c2 : w.cell? ⟨b, off+2, none⟩ = some (.int .u8 x2)) (c3 : w.cell? ⟨b, off+3, none⟩ = some (.int .u8 x3)) :
    Calls Tryz.prog 145 #[.slice (some ⟨b, off, none⟩) len cap] w fun e w' => e = .returned (.int .u32 (le4 x0 x1 x2 x3)) ∧ ∃ n, w' = w.drewN n := by
  have l0 : (0 : Int) < (len : Int) := by omega
  have l1 : (1 : Int) < (len : Int) := by omega
  have l2 : (2 : Int) < (len : Int) := by omega
  have l3 : (3 : Int) < (len : Int) := by omega
  have ho := or_le4 x0 x1 x2 x3 h0 h1 h2 h3
  go_enter Tryz.func145, Tryz.ntmps145
  go_wp2
  go_quiet (fail)
  go_wp2
  go_ret
  exact ⟨rfl, _, rfl⟩
end Go.Proofs.Base
end
section
namespace Go.Proofs.Base
open Go Go.Proofs Go.RowKit
set_option maxRecDepth 100000
theorem u32_and_255' (a : Int) (n : Nat) (h : a = n) (ha : n < 4294967296) : bits .and .u32 a 255 = ((n % 256 : Nat) : Int) := by rw [h]; exact u32_and_255 n ha
/-- What slicing by eight holds of the bytes that it has passed: c has run over them. -/
theorem fold_eight (c : Nat) (l : List Nat) (h : 8 ≤ l.length) : Crc.fold c (l.take 8) = Crc.bs (Crc.bs (Crc.bs (Crc.bs (Crc.bs (Crc.bs (Crc.bs (Crc.bs c (bt l 0)) (bt l 1)) (bt l 2)) (bt l 3)) (bt l 4)) (bt l 5)) (bt l 6)) (bt l 7) := by
  match l, h with
  | a0 :: a1 :: a2 :: a3 :: a4 :: a5 :: a6 :: a7 :: r, _ => rfl
theorem fold_split (c : Nat) (l : List Nat) (k : Nat) : Crc.fold c l = Crc.fold (Crc.fold c (l.take k)) (l.drop k) := by
  rw [← Crc.fold_append, List.take_append_drop]

theorem xor_step (a b : Nat) (ha : a < 4294967296) (hb : b < 4294967296) : ∃ z : Nat, z < 4294967296 ∧ Hid (z = a ^^^ b) ∧ bits .xor .u32 (a : Int) (b : Int) = (z : Int) :=
  ⟨a ^^^ b, Nat.xor_lt_two_pow (n := 32) ha hb, rfl, u32_xor_nat a b ha hb⟩
theorem tab_cell {w : World} {T : Nat} {cs : Array Value} (hT : w.heap[T]? = some (.cells cs 276 (0, 0))) (ht : Tab cs 256 0) (r i : Nat) (hr : r < 8) (hi : i < 256) :
    ∃ y : Nat, y < 4294967296 ∧ Hid (y = Crc.t r i) ∧ w.cell? ⟨T, 256 * r + i, none⟩ = some (.int .u32 y) :=
  ⟨_, Crc.t_lt r i (by omega), rfl, blk_cell hT (ht.2.2.1 r hr i hi)⟩
set_option maxRecDepth 100000 in
set_option maxHeartbeats 8000000 in
theorem slicingUpdate (c T b off len cap : Nat) (l : List Nat) (cs : Array Value) (w : World) (hc : c < 4294967296) (hT : w.heap[T]? = some (.cells cs 276 (0, 0))) (htab : Tab cs 256 0) (hl : BytesAt w b off l) (hlen : l.length = len) (hm : len ≤ 9223372036854775807) (hcap : len ≤ cap) (_hcm : cap ≤ 9223372036854775807) :
    Calls Tryz.prog 137 #[.int .u32 c, .pointer (some ⟨T, 0, none⟩), .slice (some ⟨b, off, none⟩) len cap] w fun r w' => r = .returned (.int .u32 (Crc.upd c l)) ∧ ∃ n, w' = w.drewN n := by
  have HL := hid hlen; clear hlen
  have HT := hid hT; clear hT
  have hi := u32_inv c hc
  by_cases h16 : 16 ≤ len
  · have h16' : (16 : Int) ≤ (len : Int) := by omega
    go_enter Tryz.func137, Tryz.ntmps137
    go_wp2_with fail
    clear hi
    go_loopw [0, 2] (fun v p wr => ∃ k : Nat, k ≤ len ∧ 1 ≤ len - k ∧ p = .slice (some ⟨b, off + k, none⟩) (len - k) (cap - k) ∧ v = .int .u32 (Crc.fold (Crc.inv c) (l.take k)) ∧ ∃ n, wr = w.drewN n)
      (fun _ p _ => match p with | .slice _ n _ => n | _ => 0)
    case atStart => exact ⟨0, by omega, by omega, rfl, by simp [Crc.fold], 0, rfl⟩
    case round =>
      obtain ⟨k, hk, hk1, rfl, rfl, nr, rfl⟩ := hrel
      have HW : Hid (∃ n, w.drewN nr = w.drewN n) := hid ⟨nr, rfl⟩
      have hlr : BytesAt (w.drewN nr) b off l := hl.kept ((Kept.refl [] w).drewN nr) (by simp)
      have HTr : Hid ((w.drewN nr).heap[T]? = some (.cells cs 276 (0, 0))) := HT
      generalize w.drewN nr = wr at *
      clear hl HT
      have hf := fold_take_lt (Crc.inv c) k l (Crc.inv_lt c) hlr.small
      by_cases hlt : 8 < len - k
      · have c0 := hlr.cell k (by rw [HL.out]; omega)
        have c1 := hlr.cell (k + 1) (by rw [HL.out]; omega)
        have c2 := hlr.cell (k + 2) (by rw [HL.out]; omega)
        have c3 := hlr.cell (k + 3) (by rw [HL.out]; omega)
        have c4 := hlr.cell (k + 4) (by rw [HL.out]; omega)
        have c5 := hlr.cell (k + 5) (by rw [HL.out]; omega)
        have c6 := hlr.cell (k + 6) (by rw [HL.out]; omega)
        have c7 := hlr.cell (k + 7) (by rw [HL.out]; omega)
        rw [← Nat.add_assoc] at c1 c2 c3 c4 c5 c6 c7
        have b0 := hlr.blt k
        have b1 := hlr.blt (k + 1)
        have b2 := hlr.blt (k + 2)
        have b3 := hlr.blt (k + 3)
        have b4 := hlr.blt (k + 4)
        have b5 := hlr.blt (k + 5)
        have b6 := hlr.blt (k + 6)
        have b7 := hlr.blt (k + 7)
        have HF : Hid (Crc.fold (Crc.inv c) (l.take (k + 8)) = Crc.bs (Crc.bs (Crc.bs (Crc.bs (Crc.bs (Crc.bs (Crc.bs (Crc.bs (Crc.fold (Crc.inv c) (l.take k)) (bt l k)) (bt l (k + 1))) (bt l (k + 2))) (bt l (k + 3))) (bt l (k + 4))) (bt l (k + 5))) (bt l (k + 6))) (bt l (k + 7))) := by
          have h := HL.out
          rw [fold_snoc _ (by omega : k + 7 < l.length), fold_snoc _ (by omega : k + 6 < l.length), fold_snoc _ (by omega : k + 5 < l.length), fold_snoc _ (by omega : k + 4 < l.length), fold_snoc _ (by omega : k + 3 < l.length), fold_snoc _ (by omega : k + 2 < l.length), fold_snoc _ (by omega : k + 1 < l.length), fold_snoc _ (by omega : k < l.length)]
          rfl
        generalize bt l k = x0 at *
        generalize bt l (k + 1) = x1 at *
        generalize bt l (k + 2) = x2 at *
        generalize bt l (k + 3) = x3 at *
        generalize bt l (k + 4) = x4 at *
        generalize bt l (k + 5) = x5 at *
        generalize bt l (k + 6) = x6 at *
        generalize bt l (k + 7) = x7 at *
        generalize hf0 : Crc.fold (Crc.inv c) (l.take k) = f at *
        clear hf0
        have Hx := hid (le4_xor x0 x1 x2 x3 b0 b1 b2)
        have hle := le4_lt x0 x1 x2 x3 b0 b1 b2 b3
        have hcall := leUint32 b (off + k) (len - k) (cap - k) x0 x1 x2 x3 wr (by omega) (by omega) b0 b1 b2 b3 c0 c1 c2 c3
        generalize le4 x0 x1 x2 x3 = le at *
        obtain ⟨c1', hc1', Hc1, ec1⟩ := xor_step f le hf hle
        have lk : (8 : Int) < ((len - k : Nat) : Int) := by omega
        have Hcall := hid hcall
        clear hcall c0 c1 c2 c3
        go_wp2_with fail
        refine Hcall.out.mono ?_
        rintro e w2 ⟨rfl, n2, rfl⟩
        have HW2 : Hid (∃ n, wr.drewN n2 = w.drewN n) := by obtain ⟨n, hn⟩ := HW.out; exact ⟨n + n2, by rw [hn, World.drewN_drewN]⟩
        have d4 : (wr.drewN n2).cell? ⟨b, off + k + 4, none⟩ = _ := c4
        have d5 : (wr.drewN n2).cell? ⟨b, off + k + 5, none⟩ = _ := c5
        have d6 : (wr.drewN n2).cell? ⟨b, off + k + 6, none⟩ = _ := c6
        have d7 : (wr.drewN n2).cell? ⟨b, off + k + 7, none⟩ = _ := c7
        have hT2 : (wr.drewN n2).heap[T]? = some (.cells cs 276 (0, 0)) := HTr.out
        generalize wr.drewN n2 = w2 at *
        clear c4 c5 c6 c7 HW hlr
        obtain ⟨y0, hy0, Y0, q0⟩ := tab_cell hT2 htab 0 x7 (by omega) b7
        obtain ⟨y1, hy1, Y1, q1⟩ := tab_cell hT2 htab 1 x6 (by omega) b6
        obtain ⟨y2, hy2, Y2, q2⟩ := tab_cell hT2 htab 2 x5 (by omega) b5
        obtain ⟨y3, hy3, Y3, q3⟩ := tab_cell hT2 htab 3 x4 (by omega) b4
        obtain ⟨y4, hy4, Y4, q4⟩ := tab_cell hT2 htab 4 (c1' / 16777216) (by omega) (by omega)
        obtain ⟨y5, hy5, Y5, q5⟩ := tab_cell hT2 htab 5 (c1' / 65536 % 256) (by omega) (by omega)
        obtain ⟨y6, hy6, Y6, q6⟩ := tab_cell hT2 htab 6 (c1' / 256 % 256) (by omega) (by omega)
        obtain ⟨y7, hy7, Y7, q7⟩ := tab_cell hT2 htab 7 (c1' % 256) (by omega) (by omega)
        obtain ⟨z1, hz1, Z1, ez1⟩ := xor_step y0 y1 hy0 hy1
        obtain ⟨z2, hz2, Z2, ez2⟩ := xor_step z1 y2 hz1 hy2
        obtain ⟨z3, hz3, Z3, ez3⟩ := xor_step z2 y3 hz2 hy3
        obtain ⟨z4, hz4, Z4, ez4⟩ := xor_step z3 y4 hz3 hy4
        obtain ⟨z5, hz5, Z5, ez5⟩ := xor_step z4 y5 hz4 hy5
        obtain ⟨z6, hz6, Z6, ez6⟩ := xor_step z5 y6 hz5 hy6
        obtain ⟨z7, hz7, Z7, ez7⟩ := xor_step z6 y7 hz6 hy7
        have a5 := u32_and_255' ((c1' : Int) / 65536) (c1' / 65536) (by omega) (by omega)
        have a6 := u32_and_255' ((c1' : Int) / 256) (c1' / 256) (by omega) (by omega)
        have a7 := u32_and_255' (c1' : Int) c1' rfl hc1'
        have i4 : (c1' : Int) / 16777216 < 256 := by omega
        have l4 : (4 : Int) < ((len - k : Nat) : Int) := by omega
        have l5 : (5 : Int) < ((len - k : Nat) : Int) := by omega
        have l6 : (6 : Int) < ((len - k : Nat) : Int) := by omega
        have l7 : (7 : Int) < ((len - k : Nat) : Int) := by omega
        have g7 : (x7 : Int) < 256 := by omega
        have g6 : (x6 : Int) < 256 := by omega
        have g5 : (x5 : Int) < 256 := by omega
        have g4 : (x4 : Int) < 256 := by omega
        have kc : ¬ cap - k = 8 := by omega
        have kc2 : (8 : Int) ≤ ((cap - k : Nat) : Int) := by omega
        simp only [Nat.mul_zero, Nat.zero_add, Nat.mul_one, Nat.reduceMul] at q0 q1 q2 q3 q4 q5 q6 q7
        clear hT2
        go_wp2_with fail
        go_quiet (fail)
        go_wp2_with fail
        go_roundw
        case rel =>
          obtain ⟨n5, hn5⟩ := HW2.out
          refine ⟨k + 8, by omega, by omega, ?_, ?_, n5 + nq, by rw [hn5, World.drewN_drewN]⟩
          · rw [show off + k + 8 = off + (k + 8) by omega, show len - k - 8 = len - (k + 8) by omega, show cap - k - 8 = cap - (k + 8) by omega]
          · rw [HF.out, ← Crc.slice8 f x0 x1 x2 x3 x4 x5 x6 x7, Hx.out, ← Hc1.out, ← Crc.t7 c1']
            rw [Z7.out, Z6.out, Z5.out, Z4.out, Z3.out, Z2.out, Z1.out, Y0.out, Y1.out, Y2.out, Y3.out, Y4.out, Y5.out, Y6.out, Y7.out]
            congr 2
            generalize Crc.t 0 x7 = a0
            generalize Crc.t 1 x6 = a1
            generalize Crc.t 2 x5 = a2
            generalize Crc.t 3 x4 = a3
            generalize Crc.t 4 (c1' / 16777216) = a4
            generalize Crc.t 5 (c1' / 65536 % 256) = a5
            generalize Crc.t 6 (c1' / 256 % 256) = a6
            generalize Crc.t 7 (c1' % 256) = a7
            ac_rfl
        case measure => simp; omega
      · generalize hf0 : Crc.fold (Crc.inv c) (l.take k) = f at *
        have Hf0 := hid hf0; clear hf0
        have hi3 := u32_inv f hf
        have hf' := Crc.inv_lt f
        have l8 : ¬ (8 : Int) < ((len - k : Nat) : Int) := by omega
        have l0 : (((len - k : Nat) : Int) == 0) = false := by simp; omega
        have Hcall := hid (simpleUpdate (Crc.inv f) T b (off + k) (len - k) (cap - k) (l.drop k) wr (Crc.inv_lt _) (fun i hi => by simpa using blk_cell HTr.out (htab.2.1 i hi)) (hlr.drop k) (by simp [HL.out]) (by omega))
        go_wp2_with fail
        refine Hcall.out.mono ?_
        rintro e w2 ⟨rfl, rfl⟩
        go_wp2_with fail
        go_ret
        refine ⟨?_, HW.out⟩
        have e1 : Crc.upd (Crc.inv f) (l.drop k) = Crc.upd c l := by
          unfold Crc.upd
          rw [Crc.inv_inv f hf, ← Hf0.out, ← fold_split]
        exact congrArg (fun z : Nat => Ending.returned (.int .u32 z)) e1
  · have h16' : ¬ (16 : Int) ≤ (len : Int) := by omega
    clear hi
    by_cases h0 : len = 0
    · have l0 : ((len : Int) == 0) = true := by simp [h0]
      go_enter Tryz.func137, Tryz.ntmps137
      go_wp2_with fail
      go_ret
      have hl0 : l = [] := List.eq_nil_of_length_eq_zero (by rw [HL.out]; exact h0)
      refine ⟨?_, 0, rfl⟩
      have e1 : c = Crc.upd c l := by rw [hl0, Crc.upd_nil c hc]
      exact congrArg (fun z : Nat => Ending.returned (.int .u32 z)) e1
    · have l0 : ((len : Int) == 0) = false := by simp; omega
      have Hcall := hid (simpleUpdate c T b off len cap l w hc (fun i hi => by simpa using blk_cell HT.out (htab.2.1 i hi)) hl HL.out hm)
      go_enter Tryz.func137, Tryz.ntmps137
      go_wp2_with fail
      refine Hcall.out.mono ?_
      rintro e w2 ⟨rfl, rfl⟩
      go_wp2_with fail
      go_ret
      exact ⟨rfl, 0, rfl⟩
end Go.Proofs.Base
end
section
namespace Go.Proofs.Base
open Go Go.Proofs Go.RowKit
set_option maxRecDepth 100000
set_option maxRecDepth 100000 in
set_option maxHeartbeats 400000 in
theorem SlicingUpdate (c b off len cap : Nat) (l : List Nat) (w : World) (hc : c < 4294967296) (hl : BytesAt w b off l) (hlen : l.length = len) (hm : len ≤ 9223372036854775807) (hcap : len ≤ cap) (hcm : cap ≤ 9223372036854775807) :
    Calls Tryz.prog 114 #[.int .u32 c, .int .u32 2197175160, .slice (some ⟨b, off, none⟩) len cap] w fun r w' => r = .returned (.int .u32 (Crc.upd c l)) ∧ Kept [] w w' := by
  go_enter Tryz.func114, Tryz.ntmps114
  go_wp2_with fail
  refine (makeTable w).mono ?_
  rintro e w1 ⟨rfl, hk, cs, hT, ht⟩
  have Hcall := hid (slicingUpdate c w.heap.size b off len cap l cs w1 hc hT ht (hl.kept hk (by simp)) hlen hm hcap hcm)
  clear hT
  go_wp2_with fail
  refine Hcall.out.mono ?_
  rintro e w2 ⟨rfl, n, rfl⟩
  go_wp2_with fail
  go_ret
  exact ⟨rfl, hk.drewN n⟩
theorem zeros4 (w : World) : BytesAt (w.alloc (.cells #[.int .u8 0, .int .u8 0, .int .u8 0, .int .u8 0] 5)) w.heap.size 0 [0, 0, 0, 0] :=
  ⟨by simp, by simp, fun j hj => by
    refine blk_cell (blk_new w _) ?_
    match j, hj with
    | 0, _ => rfl
    | 1, _ => rfl
    | 2, _ => rfl
    | 3, _ => rfl⟩
set_option maxRecDepth 100000 in
set_option maxHeartbeats 400000 in
theorem checksum (b off len cap : Nat) (l : List Nat) (w : World) (hl : BytesAt w b off l) (hlen : l.length = len) (h12 : 12 < len) (hcap : len ≤ cap) (hcm : cap ≤ 9223372036854775807) :
    Calls Tryz.prog 100 #[.slice (some ⟨b, off, none⟩) len cap] w fun r w' => r = .returned (.int .u32 (Crc.sum l)) ∧ Kept [] w w' := by
  have h8 : (8 : Int) ≤ (cap : Int) := by omega
  have h12' : (12 : Int) ≤ (len : Int) := by omega
  have hc12 : ¬ cap = 12 := by omega
  have hc8 : ¬ cap = 8 := by omega
  have HL := hid hlen; clear hlen
  have H1 := hid (SlicingUpdate 0 b off 8 cap (l.take 8) w (by decide) (hl.take 8) (by simp [HL.out]; omega) (by omega) (by omega) hcm)
  have s1 := Crc.upd_lt 0 (l.take 8)
  have hmk : ∀ w, (Instr.makeSlice 39 (.int .i64 4) (.int .i64 4)).run Tryz.prog w = .ok (.slice (some ⟨w.heap.size, 0, none⟩) 4 4) (w.alloc (.cells #[.int .u8 0, .int .u8 0, .int .u8 0, .int .u8 0] 5)) := fun _ => by kernel_rfl
  go_enter Tryz.func100, Tryz.ntmps100
  go_wp2_with fail
  refine H1.out.mono ?_
  rintro e w1 ⟨rfl, hk1⟩
  generalize hs1 : Crc.upd 0 (l.take 8) = c1 at *
  have Hs1 := hid hs1; clear hs1 H1
  have H2 := hid (SlicingUpdate c1 w1.heap.size 0 4 4 [0, 0, 0, 0] _ s1 (zeros4 w1) rfl (by omega) (by omega) (by omega))
  go_wp2_with fail
  refine H2.out.mono ?_
  rintro e w2 ⟨rfl, hk2⟩
  have hk2' := hk1.trans (((Kept.refl [] w1).alloc _).trans hk2)
  clear hk2 hk1
  have s2 := Crc.upd_lt c1 [0, 0, 0, 0]
  generalize hs2 : Crc.upd c1 [0, 0, 0, 0] = c2 at *
  have Hs2 := hid hs2; clear hs2 H2
  have H3 := hid (SlicingUpdate c2 b (off + 12) (len - 12) (cap - 12) (l.drop 12) w2 s2 ((hl.kept hk2' (by simp)).drop 12) (by simp [HL.out]) (by omega) (by omega) (by omega))
  go_wp2_with fail
  refine H3.out.mono ?_
  rintro e w3 ⟨rfl, hk3⟩
  go_wp2_with fail
  go_ret
  have e1 : Crc.upd c2 (l.drop 12) = Crc.sum l := by rw [Crc.sum, Hs1.out, Hs2.out]
  exact ⟨congrArg (fun z : Nat => Ending.returned (.int .u32 z)) e1, hk2'.trans hk3⟩
end Go.Proofs.Base
end
