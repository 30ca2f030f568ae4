/- Parts of the proof, steps H4, U18, U19: what the code and the plain laws of these steps give. Made by AI agents; no person has read it. -/
import Derived.Test.YthphjbjehccomaaGreatDoorU17
import Derived.Test.YthphjbjehccomaaGreatDoorP28
import Derived.Test.YthphjbjehccomaaGreatDoorT22
section
namespace Go.Proofs.Base
open Go Go.Proofs Go.RowKit Go.Proofs.Gaps
set_option maxRecDepth 100000
/-- All that the queue wants to know of the pieces of one stream. -/
structure Plan (f si n : Nat) (D : Nat → Pd) (LS : Nat → List Nat) (Ks : List Nat) (T PF : Nat → List Nat) (pf : Nat → Nat) : Prop where
  pos : 0 < Ks.length
  le : Ks.length ≤ 40
  si : ∀ j ∈ Ks, (D j).si = si
  nodup : Ks.Nodup
  at' : ∀ j ∈ Ks, j < 40 ∧ (D j).tsn = tsn f j ∧ (D j).ssn < 100 ∧ (LS j).length ≤ 200 ∧ 0 < (LS j).length ∧ (D j).ok
  n1 : 0 < n
  n6 : n ≤ 6
  ssns : ∀ x, (∃ j ∈ Ks, (D j).ssn = x) ↔ x < n
  sorted : ∀ x, x < n → (PF x).Pairwise (· < ·)
  mem : ∀ x, x < n → ∀ j, j ∈ PF x ↔ j ∈ Ks ∧ (D j).ssn = x
  ppi : ∀ x, x < n → ∀ j ∈ PF x, (D j).ppi = pf x
  full : ∀ x, x < n → FullSet D (PF x)
  text : ∀ x, x < n → (PF x).flatMap LS = T x ∧ 0 < (T x).length ∧ (T x).length ≤ 200
  fit : ∀ j ∈ Ks, ∀ k ∈ Ks, k ≠ j → (D k).ssn = (D j).ssn → ((D k).bg && (D k).en) = false ∧ ((D j).bg && (D j).en) = false ∧ (D k).ppi = (D j).ppi
  small : ∀ x, x < n → pf x < 1000
/-- Pieces that are those of messages: place offP m + r + 1 is piece r of message m. -/
structure Cuts (f size len : Nat) (st L : Nat → Nat) (TX : Nat → List Nat) (D : Nat → Pd) (LS : Nat → List Nat) : Prop where
  size1 : 1 ≤ size
  len6 : len ≤ 6
  all : offP size L len ≤ 30
  text : ∀ m, m < len → (TX m).length = L m ∧ 1 ≤ L m ∧ L m ≤ 200 ∧ st m ≤ 2
  at' : ∀ m r, m < len → r < cntP size (L m) → (D (offP size L m + r + 1)).bg = ((r * size : Nat) == 0) ∧ (D (offP size L m + r + 1)).en = (min (r * size + size) (L m) == L m) ∧ (D (offP size L m + r + 1)).tsn = tsn f (offP size L m + r + 1) ∧
    (D (offP size L m + r + 1)).si = st m ∧ (D (offP size L m + r + 1)).ssn = numP st (st m) m ∧ (D (offP size L m + r + 1)).ppi = 50 + m ∧ LS (offP size L m + r + 1) = ((TX m).drop (r * size)).take size
theorem numP_le (st : Nat → Nat) (s : Nat) : ∀ m, numP st s m ≤ m
  | 0 => Nat.le_refl _
  | m + 1 => by have := numP_le st s m; simp only [numP]; split <;> omega
theorem range'_getD (a c i : Nat) (h : i < c) : (List.range' a c).getD i 0 = a + i := by
  rw [List.getD_eq_getElem?_getD, List.getElem?_range' h]; simp
theorem range'_head (a c : Nat) (h : 0 < c) : (List.range' a c).headD 0 = a := by
  obtain ⟨c', rfl⟩ : ∃ c', c = c' + 1 := ⟨c - 1, by omega⟩
  rw [List.range'_succ]; rfl
theorem range'_last (a c : Nat) (h : 0 < c) : (List.range' a c).getLastD 0 = a + (c - 1) := by
  obtain ⟨c', rfl⟩ : ∃ c', c = c' + 1 := ⟨c - 1, by omega⟩
  rw [List.range'_concat, List.getLastD_concat]; simp
section
variable {f size len : Nat} {st L : Nat → Nat} {TX : Nat → List Nat} {D : Nat → Pd} {LS : Nat → List Nat}
theorem Cuts.place (_h : Cuts f size len st L TX D LS) {j : Nat} (h1 : 1 ≤ j) (h2 : j ≤ offP size L len) : ∃ m r, m < len ∧ r < cntP size (L m) ∧ j = offP size L m + r + 1 := by
  obtain ⟨m, r, a, b, c⟩ := place_of (size := size) (L := L) (len := len) (q := j - 1) (by omega)
  exact ⟨m, r, a, b, by omega⟩
theorem Cuts.okd (h : Cuts f size len st L TX D LS) {m r : Nat} (hm : m < len) (hr : r < cntP size (L m)) : (D (offP size L m + r + 1)).ok := by
  obtain ⟨a1, a2, a3, a4, a5, a6, a7⟩ := h.at' m r hm hr
  have h1 := (h.text m hm).2.2.2
  have h2 := numP_le st (st m) m
  have h3 := h.len6
  refine ⟨?_, ?_, ?_, ?_⟩
  · rw [a3]; unfold tsn; omega
  · rw [a4]; omega
  · rw [a5]; omega
  · rw [a6]; omega
theorem Cuts.textLen (h : Cuts f size len st L TX D LS) {m r : Nat} (hm : m < len) (hr : r < cntP size (L m)) : (LS (offP size L m + r + 1)).length = min size (L m - r * size) := by
  rw [(h.at' m r hm hr).2.2.2.2.2.2, List.length_take, List.length_drop, (h.text m hm).1]
/-- The pieces of one stream. -/
theorem Cuts.plan (h : Cuts f size len st L TX D LS) {ks : List Nat} (hkl : ks.length ≤ 40) (hnd : ks.Nodup) (hk : ∀ j, j ∈ ks ↔ 1 ≤ j ∧ j ≤ offP size L len) {s : Nat} (hs : 0 < numP st s len) :
    Plan f s (numP st s len) D LS (ks.filter fun j => (D j).si == s) (fun x => TX ((msgsOf st s len).getD x 0)) (fun x => List.range' (offP size L ((msgsOf st s len).getD x 0) + 1) (cntP size (L ((msgsOf st s len).getD x 0)))) (fun x => 50 + (msgsOf st s len).getD x 0) := by
  have hmsg : ∀ x, x < numP st s len → (msgsOf st s len).getD x 0 < len ∧ st ((msgsOf st s len).getD x 0) = s ∧ numP st s ((msgsOf st s len).getD x 0) = x := fun x hx => by
    have hl := msgsOf_len st s len
    have h1 : (msgsOf st s len)[x]? = some ((msgsOf st s len).getD x 0) := by rw [List.getD_eq_getElem?_getD, List.getElem?_eq_getElem (by omega)]; rfl
    exact msgsOf_get h1
  have hcnt : ∀ m, m < len → 0 < cntP size (L m) := fun m hm => (cntP_iff h.size1).2 (by have := (h.text m hm).2.1; omega)
  have hin : ∀ j, j ∈ ks.filter (fun j => (D j).si == s) ↔ ∃ m r, m < len ∧ r < cntP size (L m) ∧ j = offP size L m + r + 1 ∧ st m = s := fun j => by
    rw [List.mem_filter, hk]
    constructor
    · rintro ⟨⟨a, b⟩, c⟩
      obtain ⟨m, r, e1, e2, rfl⟩ := h.place a b
      have c' := eq_of_beq c
      rw [(h.at' m r e1 e2).2.2.2.1] at c'
      exact ⟨m, r, e1, e2, rfl, c'⟩
    · rintro ⟨m, r, e1, e2, rfl, e4⟩
      have := place_lt (size := size) (L := L) e1 e2
      refine ⟨⟨by omega, by omega⟩, ?_⟩
      rw [(h.at' m r e1 e2).2.2.2.1]
      exact beq_iff_eq.2 e4
  have hmem : ∀ x, x < numP st s len → ∀ j, j ∈ List.range' (offP size L ((msgsOf st s len).getD x 0) + 1) (cntP size (L ((msgsOf st s len).getD x 0))) ↔ j ∈ ks.filter (fun j => (D j).si == s) ∧ (D j).ssn = x := fun x hx j => by
    obtain ⟨a, b, c⟩ := hmsg x hx
    rw [List.mem_range'_1, hin]
    constructor
    · rintro ⟨h1, h2⟩
      have hr : j - 1 - offP size L ((msgsOf st s len).getD x 0) < cntP size (L ((msgsOf st s len).getD x 0)) := by omega
      have hj : j = offP size L ((msgsOf st s len).getD x 0) + (j - 1 - offP size L ((msgsOf st s len).getD x 0)) + 1 := by omega
      refine ⟨⟨_, _, a, hr, hj, b⟩, ?_⟩
      rw [hj, (h.at' _ _ a hr).2.2.2.2.1, b, c]
    · rintro ⟨⟨m, r, e1, e2, rfl, e4⟩, e5⟩
      rw [(h.at' m r e1 e2).2.2.2.2.1, e4] at e5
      have e : m = (msgsOf st s len).getD x 0 := numP_inj e4 b (by rw [e5, c])
      rw [← e]
      omega
  have hperm : ∀ j ∈ ks.filter (fun j => (D j).si == s), j < 40 := fun j hj => by
    have := (hk j).1 (List.mem_filter.1 hj).1
    have := h.all
    omega
  exact {
    pos := by
      obtain ⟨a, b, c⟩ := hmsg 0 hs
      have := (hin _).2 ⟨_, 0, a, hcnt _ a, rfl, b⟩
      exact List.length_pos_iff.2 (List.ne_nil_of_mem this)
    le := by have := List.length_filter_le (fun j => (D j).si == s) ks; omega
    si := fun j hj => eq_of_beq (List.mem_filter.1 hj).2
    nodup := hnd.sublist List.filter_sublist
    at' := fun j hj => by
      obtain ⟨m, r, e1, e2, rfl, e4⟩ := (hin j).1 hj
      have hl := h.textLen e1 e2
      have h3 := (cntP_iff h.size1).1 e2
      have h4 := h.text m e1
      have h5 := h.size1
      refine ⟨hperm _ hj, (h.at' m r e1 e2).2.2.1, ?_, by omega, by omega, h.okd e1 e2⟩
      rw [(h.at' m r e1 e2).2.2.2.2.1]
      have := numP_le st (st m) m
      have := h.len6
      omega
    n1 := hs
    n6 := by have := numP_le st s len; have := h.len6; omega
    ssns := fun x => by
      constructor
      · rintro ⟨j, hj, rfl⟩
        obtain ⟨m, r, e1, e2, rfl, e4⟩ := (hin j).1 hj
        rw [(h.at' m r e1 e2).2.2.2.2.1, e4]
        exact numP_lt e1 e4
      · intro hx
        obtain ⟨a, b, c⟩ := hmsg x hx
        exact ⟨_, ((hmem x hx _).1 (List.mem_range'_1.2 ⟨Nat.le_refl _, by have := hcnt _ a; omega⟩))⟩
    sorted := fun x _ => List.pairwise_lt_range'
    mem := hmem
    ppi := fun x hx j hj => by
      obtain ⟨⟨m, r, e1, e2, rfl, e4⟩, e5⟩ := (hmem x hx j).1 hj |>.imp (hin j).1 id
      obtain ⟨a, b, c⟩ := hmsg x hx
      rw [(h.at' m r e1 e2).2.2.2.2.1, e4] at e5
      have e : m = (msgsOf st s len).getD x 0 := numP_inj e4 b (by rw [e5, c])
      rw [(h.at' m r e1 e2).2.2.2.2.2.1, e]
    full := fun x hx => by
      obtain ⟨a, b, c⟩ := hmsg x hx
      generalize (msgsOf st s len).getD x 0 = m at *
      have hc := hcnt m a
      refine ⟨?_, ?_, fun i hi => ?_⟩
      · rw [range'_head _ _ hc]
        have := (h.at' m 0 a hc).1
        rw [Nat.add_zero] at this
        rw [this, Nat.zero_mul]; rfl
      · rw [range'_last _ _ hc]
        have h1 := (h.at' m (cntP size (L m) - 1) a (by omega)).2.1
        rw [show offP size L m + 1 + (cntP size (L m) - 1) = offP size L m + (cntP size (L m) - 1) + 1 by omega, h1]
        have h2 : ¬ cntP size (L m) * size < L m := fun hlt => by have := (cntP_iff h.size1).2 hlt; omega
        have h3 : (cntP size (L m) - 1) * size + size = cntP size (L m) * size := by
          rw [← Nat.succ_mul]; congr 1; omega
        rw [h3, Nat.min_eq_right (by omega)]
        exact beq_self_eq_true _
      · rw [List.length_range'] at hi
        rw [range'_getD _ _ _ hi, range'_getD _ _ _ (by omega)]; omega
    text := fun x hx => by
      obtain ⟨a, b, c⟩ := hmsg x hx
      generalize (msgsOf st s len).getD x 0 = m at *
      have h1 := h.text m a
      have h2 : ¬ cntP size (L m) * size < L m := fun hlt => by have := (cntP_iff h.size1).2 hlt; omega
      have h3 := cut_join size (TX m) LS (offP size L m + 1) (cntP size (L m)) 0 (by rw [Nat.zero_mul, Nat.zero_add, h1.1]; omega) (fun k hk' => by
        rw [Nat.zero_add, ← (h.at' m k a hk').2.2.2.2.2.2]; congr 1; omega)
      rw [Nat.add_zero, Nat.zero_mul, List.drop_zero] at h3
      exact ⟨h3, by omega, by omega⟩
    fit := fun j hj k hk' hne hssn => by
      obtain ⟨m, r, e1, e2, rfl, e4⟩ := (hin j).1 hj
      obtain ⟨m', r', f1, f2, rfl, f4⟩ := (hin k).1 hk'
      have A := h.at' m r e1 e2
      have B := h.at' m' r' f1 f2
      rw [A.2.2.2.2.1, B.2.2.2.2.1, e4, f4] at hssn
      have e : m' = m := numP_inj f4 e4 hssn
      subst e
      have hrr : r ≠ r' := fun e => hne (by rw [e])
      have c1 := (cntP_iff h.size1).1 e2
      have c2 := (cntP_iff h.size1).1 f2
      have hone : ∀ a b : Nat, b ≠ a → a * size < L m' → b * size < L m' → (((a * size : Nat) == 0) && (min (a * size + size) (L m') == L m')) = false := fun a b hab ha hb => by
        rw [Bool.and_eq_false_iff]
        rcases Nat.eq_zero_or_pos a with rfl | h0
        · right
          rw [Nat.zero_mul, Nat.zero_add, beq_eq_false_iff_ne]
          have h1 : 1 * size ≤ b * size := Nat.mul_le_mul_right _ (by omega)
          omega
        · left
          have h1 : 1 * size ≤ a * size := Nat.mul_le_mul_right _ h0
          have := h.size1
          rw [beq_eq_false_iff_ne]; omega
      refine ⟨?_, ?_, ?_⟩
      · rw [B.1, B.2.1]; exact hone r' r hrr c2 c1
      · rw [A.1, A.2.1]; exact hone r r' (Ne.symm hrr) c1 c2
      · rw [A.2.2.2.2.2.1, B.2.2.2.2.2.1]
    small := fun x hx => by
      have := (hmsg x hx).1
      have := h.len6
      show 50 + (msgsOf st s len).getD x 0 < 1000
      omega }
theorem Cuts.none (h : Cuts f size len st L TX D LS) {ks : List Nat} (hk : ∀ j, j ∈ ks ↔ 1 ≤ j ∧ j ≤ offP size L len) {s : Nat} (hs : numP st s len = 0) : (ks.filter fun j => (D j).si == s) = [] := by
  rw [List.filter_eq_nil_iff]
  intro j hj hc
  obtain ⟨a, b⟩ := (hk j).1 hj
  obtain ⟨m, r, e1, e2, rfl⟩ := h.place a b
  have c' := eq_of_beq hc
  rw [(h.at' m r e1 e2).2.2.2.1] at c'
  have := numP_lt e1 c'
  omega
end
end Go.Proofs.Base
end
section
namespace Go.Proofs.Base
open Go Go.Proofs Go.RowKit Go.Proofs.Gaps
set_option maxRecDepth 100000
theorem flat_get {α : Type} (g : α → List Value) (n : Nat) (hn : ∀ a, (g a).length = n) : ∀ (l : List α) (k c : Nat) (hk : k < l.length), c < n → (l.flatMap g)[k * n + c]? = (g l[k])[c]?
  | a :: l, 0, c, _, hc => by
    rw [List.flatMap_cons, Nat.zero_mul, Nat.zero_add, List.getElem?_append_left (by rw [hn]; exact hc)]; rfl
  | a :: l, k + 1, c, hk, hc => by
    have ih := flat_get g n hn l k c (by simpa using hk) hc
    rw [List.flatMap_cons, List.getElem?_append_right (by rw [hn, Nat.add_mul]; omega), hn, List.getElem_cons_succ, ← ih]
    congr 1
    rw [Nat.add_mul]; omega
/-- The cells of the pieces as the queue takes them. -/
def zzRow (D : Nat → Pd) (LS : Nat → List Nat) (G C : Nat → Nat) (Ks : List Nat) : List Value := Ks.flatMap fun j => (zzC (D j) (.slice (some ⟨G j, 0, none⟩) (LS j).length (C j))).toList
theorem zzRow_snoc {D : Nat → Pd} {LS : Nat → List Nat} {G G' C C' : Nat → Nat} {Ks : List Nat} {j : Nat} (hG : ∀ i ∈ Ks, G' i = G i) (hC : ∀ i ∈ Ks, C' i = C i) : zzRow D LS G' C' (Ks ++ [j]) = zzRow D LS G C Ks ++ (zzC (D j) (.slice (some ⟨G' j, 0, none⟩) (LS j).length (C' j))).toList := by
  have h : Ks.flatMap (fun j => (zzC (D j) (.slice (some ⟨G' j, 0, none⟩) (LS j).length (C' j))).toList) = Ks.flatMap (fun j => (zzC (D j) (.slice (some ⟨G j, 0, none⟩) (LS j).length (C j))).toList) := by
    rw [List.flatMap_def, List.flatMap_def]
    congr 1
    exact List.map_congr_left fun i hi => by rw [hG i hi, hC i hi]
  simp only [zzRow, List.flatMap_append, h, List.flatMap_cons, List.flatMap_nil, List.append_nil]
theorem gotCells_get (D : Nat → Pd) (LS : Nat → List Nat) : ∀ (ks : List Nat) (us : List (Nat × Nat)) (k c : Nat) (hk : k < ks.length) (hu : k < us.length), c < 9 → (gotCells D LS ks us)[k * 9 + c]? = (dC (D ks[k]) (.slice (some ⟨(us[k]).1, 0, none⟩) (LS ks[k]).length (us[k]).2)).toList[c]?
  | a :: ks, u :: us, 0, c, _, _, hc => by
    rw [gotCells, Nat.zero_mul, Nat.zero_add, List.getElem?_append_left (by simpa [dC] using hc)]; rfl
  | a :: ks, u :: us, k + 1, c, hk, hu, hc => by
    have ih := gotCells_get D LS ks us k c (by simpa using hk) (by simpa using hu) hc
    rw [gotCells, List.getElem?_append_right (by simp [dC]; omega), List.getElem_cons_succ, List.getElem_cons_succ, ← ih]
    congr 1
    simp [dC]; omega
theorem iZZ : (Tryz.prog.info? 68).map (fun i => (i.zero, i.size, i.bytes)) = some (some (.agg #[.bool false, .bool false, .bool false, .bool false, .int .u32 0, .int .u16 0, .int .u16 0, .int .u32 0, .slice none 0 0]), 9, 40) := by kernel_rfl
theorem zzC_one (d : Pd) (u : Value) (hu : u.oneCell' = true) : ∀ v ∈ (zzC d u).toList, v.oneCell' = true := by
  intro v hv
  simp [zzC] at hv
  rcases hv with h | h | h | h | h | h | h | h <;> first | (subst h; rfl) | (rcases h with h | h <;> subst h <;> first | rfl | exact hu)
/-- append([]int(nil), sizes...): a copy. -/
theorem copyInts (ty sb cap n : Nat) (z : Nat) (w : World) (hn : 0 < n) (hn' : n ≤ 1000) (hs : ∀ k, k < n → w.cell? ⟨sb, k, none⟩ = some (.int .i64 (z : Nat))) :
    ∃ g cap' w', (Builtin.append_ #[34, 34] ty #[.slice none 0 0, .slice (some ⟨sb, 0, none⟩) n cap]).run Tryz.prog w = .ok (.slice (some ⟨g, 0, none⟩) n cap') w' ∧ w'.ownsRow w.heap.size 3 1 (.slice (some ⟨g, 0, none⟩) n cap') n (i64s (List.replicate n z)) ∧ Kept [] w w' := by
  obtain ⟨i, hi, hz, hs', hb⟩ := info_parts iInt
  obtain ⟨v', w', hr, hown, hg, hnil⟩ := run_append_own (P := Tryz.prog) w w.heap.size 34 ty 3 i (.int .i64 0) 1 8 Tryz.underlying34 hi hz hs' hb rfl (by decide) (.slice none 0 0) 0 [] (World.ownsRow_nil _ _ _ _) ⟨sb, 0, none⟩ n cap (i64s (List.replicate n z)) (by simp [i64s])
    (fun j u hu => by
      have hj : j < n := by
        rcases Nat.lt_or_ge j n with h | h
        · exact h
        · rw [List.getElem?_eq_none (by simpa [i64s] using h)] at hu; cases hu
      rw [addr_add, Nat.zero_add, hs j hj]
      rw [← hu]; simp [i64s, hj]) (by intro u hu; simp [i64s] at hu; rw [hu.2]; rfl) (by unfold maxLen; omega) (by omega) (Nat.le_refl _)
  rw [Nat.zero_add, List.nil_append] at hown
  obtain ⟨g, cap', rfl, h1, h2⟩ := own_some hown (by omega)
  exact ⟨g, cap', w', hr, hown, grown_kept hg (by simp [Value.ownBlock])⟩
set_option maxRecDepth 100000 in
set_option maxHeartbeats 400000 in
/-- copied: of nothing. -/
theorem copiedNil (w : World) : Calls Tryz.prog 21 #[.slice none 0 0] w fun e w' => e = .returned (.slice none 0 0) ∧ Kept [] w w' := by
  have hr : (Builtin.append_ #[39, 39] 39 #[.slice none 0 0, .slice none 0 0]).run Tryz.prog w = .ok (.slice none 0 0) w := by rfl
  go_enter Tryz.func21, Tryz.ntmps21
  go_wp2_with (at_builtin; refine wpList_append_run rfl _ _ 39 rfl _ _ _ rfl rfl hr ?_)
  go_ret
  exact ⟨rfl, Kept.refl [] w⟩
/-- What impl.Reassemble gives: i texts of n, then a nil. -/
structure ReadIn (w0 w : World) (i n : Nat) (ov pv : Value) (bs cs : Nat → Nat) (T : Nat → List Nat) (pf : Nat → Nat) : Prop where
  out : w.ownsRow w0.heap.size 39 1 ov i ((List.range i).map fun x => if x < n then Value.slice (some ⟨bs x, 0, none⟩) (T x).length (cs x) else .slice none 0 0)
  nums : w.ownsRow w0.heap.size 3 1 pv i (i64s ((List.range i).map fun x => if x < n then pf x else 0))
  text : ∀ x, x < i → x < n → w0.heap.size ≤ bs x ∧ BB w (bs x) (T x) ∧ (T x).length ≤ cs x ∧ cs x ≤ maxLen
theorem ReadIn.kept {w0 w w' : World} {i n : Nat} {ov pv : Value} {bs cs : Nat → Nat} {T : Nat → List Nat} {pf : Nat → Nat} (h : ReadIn w0 w i n ov pv bs cs T pf) (k : Kept [] w w') : ReadIn w0 w' i n ov pv bs cs T pf :=
  ⟨ownsRow_kept h.out k (by simp), ownsRow_kept h.nums k (by simp), fun x hi hn => by
    obtain ⟨a, b, c⟩ := h.text x hi hn
    exact ⟨a, b.kept k (by simp), c⟩⟩
theorem ReadIn.base {w0 w1 w : World} {i n : Nat} {ov pv : Value} {bs cs : Nat → Nat} {T : Nat → List Nat} {pf : Nat → Nat} (h : ReadIn w1 w i n ov pv bs cs T pf) (hb : w0.heap.size ≤ w1.heap.size) : ReadIn w0 w i n ov pv bs cs T pf :=
  ⟨own_base h.out hb, own_base h.nums hb, fun x hi hn => by
    obtain ⟨a, b⟩ := h.text x hi hn
    exact ⟨Nat.le_trans hb a, b⟩⟩
theorem ReadIn.snoc {w0 w4 w6 w8 : World} {i n p : Nat} {ov pv ov' pv' v : Value} {bs bs' cs cs' : Nat → Nat} {T : Nat → List Nat} {pf : Nat → Nat} (h : ReadIn w0 w4 i n ov pv bs cs T pf) (hk46 : Kept (own ov) w4 w6) (hk68 : Kept (own pv) w6 w8)
    (ho6 : w6.ownsRow w0.heap.size 39 1 ov' (i + 1) (((List.range i).map fun x => if x < n then Value.slice (some ⟨bs x, 0, none⟩) (T x).length (cs x) else .slice none 0 0) ++ [v]))
    (ho8 : w8.ownsRow w0.heap.size 3 1 pv' (i + 1) (i64s ((List.range i).map fun x => if x < n then pf x else 0) ++ [.int .i64 (p : Nat)]))
    (hb : ∀ x, x < i → bs' x = bs x ∧ cs' x = cs x) (hv : v = if i < n then .slice (some ⟨bs' i, 0, none⟩) (T i).length (cs' i) else .slice none 0 0) (hp : p = if i < n then pf i else 0)
    (ht : i < n → w0.heap.size ≤ bs' i ∧ BB w4 (bs' i) (T i) ∧ (T i).length ≤ cs' i ∧ cs' i ≤ maxLen) : ReadIn w0 w8 (i + 1) n ov' pv' bs' cs' T pf := by
  have hnum6 := ownsRow_kept h.nums hk46 (own_apart h.nums h.out (by decide))
  have keepB : ∀ b l, BB w4 b l → BB w8 b l := fun b l hB => by
    obtain ⟨c, hc⟩ := hB.2
    have h6 : BB w6 b l := hB.kept hk46 (own_far h.out hc (by decide))
    obtain ⟨c', hc'⟩ := h6.2
    exact h6.kept hk68 (own_far hnum6 hc' (by decide))
  refine ⟨?_, ?_, fun x hx hxn => ?_⟩
  · have h8 := ownsRow_kept ho6 hk68 (own_apart ho6 hnum6 (by decide))
    rw [List.range_succ, List.map_append, List.map_singleton, ← hv]
    rw [show ((List.range i).map fun x => if x < n then Value.slice (some ⟨bs' x, 0, none⟩) (T x).length (cs' x) else .slice none 0 0) = ((List.range i).map fun x => if x < n then Value.slice (some ⟨bs x, 0, none⟩) (T x).length (cs x) else .slice none 0 0) from List.map_congr_left fun x hx => by rw [(hb x (List.mem_range.1 hx)).1, (hb x (List.mem_range.1 hx)).2]]
    exact h8
  · rw [List.range_succ, List.map_append, List.map_singleton, ← hp]
    simpa [i64s] using ho8
  · rcases Nat.lt_or_ge x i with h1 | h1
    · obtain ⟨a, b, c⟩ := h.text x h1 hxn
      rw [(hb x h1).1, (hb x h1).2]
      exact ⟨a, keepB _ _ b, c⟩
    · have e : x = i := by omega
      subst e
      obtain ⟨a, b, c⟩ := ht hxn
      exact ⟨a, keepB _ _ b, c⟩
end Go.Proofs.Base
end
section
namespace Go.Proofs.Base
open Go Go.Proofs Go.RowKit Go.Proofs.Gaps
set_option maxRecDepth 100000
theorem OB.front {w : World} {b : Nat} {cur l : List Nat} (h : OB w b cur) (ht : cur.take l.length = l) (hl : l.length ≤ cur.length) (hs : ∀ x ∈ l, x < 256) : BytesAt w b 0 l where
  lt := h.lt
  small := hs
  cell := fun j hj => by
    rw [Nat.zero_add, h.cell (j := j) (by omega), ← bt_take (l := cur) hj, ht]
theorem Plan.small' {f si n : Nat} {D : Nat → Pd} {LS : Nat → List Nat} {Ks : List Nat} {T PF : Nat → List Nat} {pf : Nat → Nat} (h : Plan f si n D LS Ks T PF pf) (hs : ∀ j ∈ Ks, ∀ x ∈ LS j, x < 256) : ∀ x, x < n → ∀ y ∈ T x, y < 256 := fun x hx y hy => by
  rw [← (h.text x hx).1] at hy
  obtain ⟨j, hj, hy⟩ := List.mem_flatMap.1 hy
  exact hs j ((h.mem x hx j).1 hj).1 y hy
theorem Chunks.kept {w w' : World} {cb N0 : Nat} {D : Nat → Pd} {G N C : Nat → Nat} {Ks : List Nat} (h : Chunks w cb N0 D G N C Ks) (k : Kept [] w w') : Chunks w' cb N0 D G N C Ks :=
  ⟨fun i hi c v hv => (k.cell (p := ⟨cb, i * N0 + c, none⟩) h.lt (by simp)).trans (h.cell i hi c v hv), Nat.lt_of_lt_of_le h.lt k.size⟩
/-- What impl.Reassemble gives. -/
def ReadAll (w w' : World) (e : Ending) (n : Nat) (T : Nat → List Nat) (pf : Nat → Nat) : Prop := ∃ ov pv bs cs, e = .returned (.tuple #[ov, pv, .bool true]) ∧ ReadIn w w' (n + 1) n ov pv bs cs T pf
set_option maxHeartbeats 8000000 in
theorem Reassemble (w : World) (base base' cb cc sb sc f si n : Nat) (D : Nat → Pd) (LS : Nat → List Nat) (Ks : List Nat) (us : List (Nat × Nat)) (T PF : Nat → List Nat) (pf : Nat → Nat) (tt : Nat) (ev : Value) (hP : Plan f si n D LS Ks T PF pf)
    (hrow : w.ownsRow base 41 9 (.slice (some ⟨cb, 0, none⟩) Ks.length cc) Ks.length (gotCells D LS Ks us)) (hgot : Got w base' LS Ks us) (hS : ∀ k, k < n + 1 → w.cell? ⟨sb, k, none⟩ = some (.int .i64 4096))
    (hg : w.cell? ⟨0, 0, none⟩ = some (.iface tt ev)) :
    Calls Tryz.prog 9 #[.slice (some ⟨cb, 0, none⟩) Ks.length cc, .slice (some ⟨sb, 0, none⟩) (n + 1 : Nat) sc] w fun e w' => ReadAll w w' e n T pf ∧ Kept [] w w' := by
  have HP := hid hP; have HROW := hid hrow; have HGOT := hid hgot; have HS := hid hS; have HGT := hid hg
  have hn6 := hP.n6; have hn1 := hP.n1; have hkl := hP.le; have hk0 := hP.pos
  have lcb := (hrow.lt cb rfl).2
  have lgt := World.block_lt_of_cell? w _ hg
  clear hP hrow hgot hS hg
  go_enter Tryz.func9, Tryz.ntmps9
  go_wp2_with fail
  go_loopw [20] (fun s20 wx => ∃ k : Nat, k ≤ n + 1 ∧ s20 = .int .i64 k ∧ Hid (wx = w)) (fun s20 _ => n + 1 - (intOf s20).toNat)
  case atStart => exact ⟨0, by omega, rfl, hid rfl⟩
  case round =>
    obtain ⟨k, hk, rfl, HW⟩ := hrel
    obtain rfl : wr = w := HW.out
    by_cases hlt : k < n + 1
    · have hlt' : (k : Int) < ((n + 1 : Nat) : Int) := by omega
      have hlt'' : (k : Int) < (n : Int) + 1 := by omega
      have h0' : (0 : Int) ≤ (k : Int) := by omega
      have csz := HS.out k hlt
      have lsb := World.block_lt_of_cell? wr _ csz
      go_wp2_with fail
      go_roundw
      case rel => exact ⟨k + 1, by omega, by go_num, hid (by first | trivial | rfl)⟩
      case measure => simp [intOf]; omega
    · have hlt' : ¬ (k : Int) < ((n + 1 : Nat) : Int) := by omega
      have hlt'' : ¬ (k : Int) < (n : Int) + 1 := by omega
      clear hk hlt
      go_wp2_with fail
      have HST := hid (World.ownsRow_nil wr wr.heap.size 68 9)
      have HK0 := hid (Kept.refl [] wr)
      generalize hwb : wr = wb at *
      have HWB := hid hwb
      clear hwb hlt' hlt'' HW
      go_loopw [9, 33] (fun s9 s33 wx => ∃ (k : Nat) (G C : Nat → Nat), k ≤ Ks.length ∧ s33 = .int .i64 k ∧ Hid (wx.ownsRow wb.heap.size 68 9 s9 k (zzRow D LS G C (Ks.take k))) ∧ Hid (∀ j ∈ Ks.take k, BB wx (G j) (LS j) ∧ wb.heap.size ≤ G j) ∧ Hid (Kept [] wb wx)) (fun _ s33 _ => Ks.length - (intOf s33).toNat)
      case atStart => exact ⟨0, fun _ => 0, fun _ => 0, by omega, rfl, hid HST.out, hid (fun j hj => by simp at hj), HK0⟩
      case round =>
        obtain ⟨k, G, C, hk, rfl, HO, HB, HK⟩ := hrel
        by_cases hlt : k < Ks.length
        · have hlt' : (k : Int) < (Ks.length : Int) := by omega
          have h0' : (0 : Int) ≤ (k : Int) := by omega
          have hul : k < us.length := by rw [HGOT.out.len]; exact hlt
          have hmem : Ks[k] ∈ Ks := List.getElem_mem hlt
          obtain ⟨hbb, -⟩ := HGOT.out.at' k Ks[k] us[k] (List.getElem?_eq_getElem hlt) (List.getElem?_eq_getElem hul)
          have hcell : ∀ c v, (dC (D Ks[k]) (.slice (some ⟨(us[k]).1, 0, none⟩) (LS Ks[k]).length (us[k]).2)).toList[c]? = some v → c < 9 → wr.cell? ⟨cb, k * 9 + c, none⟩ = some v := fun c v hv hc => by
            have h1 := HROW.out.cells (g := cb) rfl (k * 9 + c) v ((gotCells_get D LS Ks us k c hlt hul hc).trans hv)
            rw [addr_add, Nat.zero_add] at h1
            exact (HK.out.cell (p := ⟨cb, k * 9 + c, none⟩) lcb (by simp)).trans h1
          have x0 := hcell 0 (.bool false) rfl (by omega)
          have x1 := hcell 1 (.bool (D Ks[k]).bg) rfl (by omega)
          have x2 := hcell 2 (.bool (D Ks[k]).en) rfl (by omega)
          have x3 := hcell 3 (.bool false) rfl (by omega)
          have x4 := hcell 4 (.int .u32 (D Ks[k]).tsn) rfl (by omega)
          have x5 := hcell 5 (.int .i64 (D Ks[k]).si) rfl (by omega)
          have x6 := hcell 6 (.int .i64 (D Ks[k]).ssn) rfl (by omega)
          have x7 := hcell 7 (.int .u32 (D Ks[k]).ppi) rfl (by omega)
          have x8 := hcell 8 (.slice (some ⟨(us[k]).1, 0, none⟩) (LS Ks[k]).length (us[k]).2) rfl (by omega)
          rw [Nat.add_zero] at x0
          have lcr := Nat.lt_of_lt_of_le lcb HK.out.size
          obtain ⟨hj1, -, hj3, hj4, hj5, hj6⟩ := HP.out.at' Ks[k] hmem
          have hjn : Ks[k] ∉ Ks.take k := fun h => by
            obtain ⟨i, hi, hie⟩ := List.getElem_of_mem h
            rw [List.getElem_take] at hie
            rw [List.length_take] at hi
            have h2 : i = k := (List.getElem?_inj (by omega) HP.out.nodup).1 (by rw [List.getElem?_eq_getElem (by omega), List.getElem?_eq_getElem hlt, hie])
            omega
          have htk : Ks.take (k + 1) = Ks.take k ++ [Ks[k]] := List.take_succ_eq_append_getElem hlt
          have HBB := hid (hbb.kept HK.out (by simp))
          obtain ⟨Al, Cl, hform⟩ := own_form HO.out
          subst hform
          have HTK := hid htk; have HJN := hid hjn; have HMEM := hid hmem; have HOK := hid hj6
          clear hcell htk hjn hmem hbb hj6
          generalize Ks[k] = j at *
          generalize us[k] = u at *
          have HDO := hid (fun (wx : World) (hx : Kept [] wr wx) => dataOf' (D j) u.1 0 (LS j).length u.2 (LS j) wx HOK.out (HBB.out.kept hx (by simp)).1 rfl hj5 (by omega))
          unfold dC at HDO
          go_wp2_with fail
          refine Calls.mono (HDO.out _ ?kk) ?_
          case kk => exact (Kept.refl [] wr).alloc _
          rintro e w3 ⟨g, cap', hc1, hg, hc2, rfl, hb3, hk3⟩
          have hk3r : Kept [] wr w3 := ((Kept.refl [] wr).alloc _).trans hk3
          have hgr : wr.heap.size ≤ g := Nat.le_trans ((Kept.refl [] wr).alloc _).size hg
          have hkA : Kept [] w3 (w3.alloc (.cells (zzC (D j) (.slice (some ⟨g, 0, none⟩) (LS j).length cap')) 68)) := (Kept.refl [] w3).alloc _
          obtain ⟨g6, cap6, w6, hr6, ho6, hgr6⟩ := appendOwnOne 65 68 9 40 k w3.heap.size 1 65 wb.heap.size (.agg #[.bool false, .bool false, .bool false, .bool false, .int .u32 0, .int .u16 0, .int .u16 0, .int .u32 0, .slice none 0 0]) (.slice Al k Cl) (zzRow D LS G C (Ks.take k)) (zzC (D j) (.slice (some ⟨g, 0, none⟩) (LS j).length cap')) (w3.alloc (.cells (zzC (D j) (.slice (some ⟨g, 0, none⟩) (LS j).length cap')) 68)) Tryz.underlying65 iZZ rfl (by decide) (by decide) (by omega)
            (ownsRow_kept HO.out (hk3r.trans hkA) (by simp)) (Nat.le_trans HK.out.size (hk3r.trans hkA).size) rfl (zzC_one _ _ rfl) (blk_new w3 _)
          have hgk : Kept (own (.slice Al k Cl)) (w3.alloc (.cells (zzC (D j) (.slice (some ⟨g, 0, none⟩) (LS j).length cap')) 68)) w6 := grown_kept hgr6 (by intro k hk; rw [own_mem]; exact hk)
          have hkr6 : Kept (own (.slice Al k Cl)) wr w6 := ((hk3r.trans hkA).more (by simp)).trans hgk
          have HK6 := hid (HK.out.thenNew hkr6 (fun r hr => .inr (own_ge HO.out hr)))
          have hB6 : ∀ i ∈ Ks.take (k + 1), BB w6 (putAt G j g i) (LS i) ∧ wb.heap.size ≤ putAt G j g i := fun i hi => by
            rw [HTK.out, List.mem_append, List.mem_singleton] at hi
            rcases hi with hi | rfl
            · rw [putAt_ne G g (fun e => HJN.out (by rw [← e]; exact hi))]
              obtain ⟨b1, b2⟩ := HB.out i hi
              obtain ⟨cs, hc⟩ := b1.2
              exact ⟨b1.kept hkr6 (own_far HO.out hc (by decide)), b2⟩
            · rw [putAt_same]
              have b1 := hb3.kept hkA (by simp)
              obtain ⟨cs, hc⟩ := b1.2
              exact ⟨b1.kept hgk (own_far (ownsRow_kept HO.out (hk3r.trans hkA) (by simp)) hc (by decide)), Nat.le_trans HK.out.size hgr⟩
          have ho6' : w6.ownsRow wb.heap.size 68 9 (.slice (some ⟨g6, 0, none⟩) (k + 1) cap6) (k + 1) (zzRow D LS (putAt G j g) (putAt C j cap') (Ks.take (k + 1))) := by
            rw [HTK.out, zzRow_snoc (G := G) (C := C) (fun i hi => putAt_ne G g (fun e => HJN.out (by rw [← e]; exact hi))) (fun i hi => putAt_ne C cap' (fun e => HJN.out (by rw [← e]; exact hi))), putAt_same, putAt_same]
            exact ho6
          have HB6 := hid hB6; have HO6 := hid ho6'
          clear ho6 ho6' hB6 hkr6 hgk hgr6 hkA hk3r hk3 hb3 HDO x0 x1 x2 x3 x4 x5 x6 x7 x8
          unfold zzC at hr6
          unfold zzC
          dsimp only
          go_wp2_with (at_builtin; refine wpList_append_run rfl _ _ 65 rfl _ _ _ rfl rfl hr6 ?_)
          go_roundw
          case rel => exact ⟨k + 1, putAt G j g, putAt C j cap', by omega, by go_num, HO6, HB6, HK6⟩
          case measure => simp [intOf]; omega
        · have hlt' : ¬ (k : Int) < (Ks.length : Int) := by omega
          have hkk : k = Ks.length := by omega
          subst hkk
          have hrow := HO.out
          rw [List.take_length] at hrow
          obtain ⟨gl, cl, hform, hcl1, hcl2⟩ := own_some hrow (by omega)
          subst hform
          have hB := HB.out
          rw [List.take_length] at hB
          have hCh : Chunks wr gl 9 D G (fun j => (LS j).length) C Ks := ⟨fun k hk c v hv => by
            have hc : c < 9 := by
              rcases Nat.lt_or_ge c 9 with h | h
              · exact h
              · rw [Array.getElem?_eq_none (by simpa [zzC] using h)] at hv; cases hv
            have h1 := hrow.cells (g := gl) rfl (k * 9 + c) v (by
              rw [zzRow, flat_get _ 9 (fun _ => rfl) Ks k c hk hc, Array.getElem?_toList]; exact hv)
            rwa [addr_add, Nat.zero_add] at h1, (hrow.lt gl rfl).2⟩
          obtain ⟨gs, cs2, w2, hr2, ho2, hk2⟩ := copyInts 34 sb sc (n + 1) 4096 wr (by omega) (by omega) (fun k hk => (HK.out.cell (p := ⟨sb, k, none⟩) (World.block_lt_of_cell? wb _ (HS.out k hk)) (by simp)).trans (HS.out k hk))
          have hs2 : ∀ k, k < n + 1 → w2.cell? ⟨gs, k, none⟩ = some (.int .i64 4096) := fun k hk => by
            have h1 := ho2.cells (g := gs) rfl k (.int .i64 4096) (by simp [i64s, hk])
            rwa [addr_add, Nat.zero_add] at h1
          have hk02 := HK.out.trans hk2
          have hp := HP.out
          have hsm : ∀ x, x < n → ∀ y ∈ T x, y < 256 := hp.small' (fun j hj => (hB j hj).1.1.small)
          have HZ := hid (ZZReassemble w2 gl cl gs cs2 f si n D G (fun j => (LS j).length) C Ks (hCh.kept hk2) hs2 hk0 hkl hp.si hp.nodup (fun j hj => have h := hp.at' j hj; ⟨h.1, h.2.1, h.2.2.1, h.2.2.2.1⟩) T PF LS pf tt ev hn1 hn6 hp.ssns hp.sorted hp.mem hp.ppi hp.full
            (fun x hx => ⟨(hp.text x hx).1, (hp.text x hx).2.2⟩) (fun j hj => ⟨rfl, (hB j hj).1.kept hk2 (by simp)⟩) ((hk02.cell (p := ⟨0, 0, none⟩) lgt (by simp)).trans HGT.out) hp.fit)
          have HSM := hid hsm; have HK02 := hid hk02
          clear hrow hB hCh ho2 hs2 hk02 hp hsm hk2 HO HB HK
          go_wp2_with (at_builtin; refine wpList_append_run rfl _ _ 34 rfl _ _ _ rfl rfl hr2 ?_)
          refine HZ.out.mono ?_
          rintro e w3 ⟨⟨ov, pv, bs, rfl, hO⟩, hk3⟩
          obtain ⟨go, co, hov, hco1, -⟩ := own_some hO.out (by omega)
          obtain ⟨gp, cp, hpv, hcp1, -⟩ := own_some hO.nums (by omega)
          subst hov hpv
          have HOU := hid hO; have HK3 := hid hk3
          have HST3 := hid (show ReadIn w3 w3 0 n (.slice none 0 0) (.slice none 0 0) (fun _ => 0) (fun _ => 0) T pf from ⟨World.ownsRow_nil _ _ _ _, World.ownsRow_nil _ _ _ _, fun x h => by omega⟩)
          have lgo := (hO.out.lt go rfl).2
          have lgp := (hO.nums.lt gp rfl).2
          have HK33 := hid (Kept.refl [] w3)
          clear hO hk3 HZ hr2
          go_wp2_with fail
          go_loopw [14, 15, 52] (fun s14 s15 s52 wx => ∃ (i : Nat) (bs' cs' : Nat → Nat), i ≤ n + 1 ∧ s52 = .int .i64 i ∧ Hid (Kept [] w3 wx) ∧ Hid (ReadIn w3 wx i n s14 s15 bs' cs' T pf)) (fun _ _ s52 _ => n + 1 - (intOf s52).toNat)
          case atStart => exact ⟨0, fun _ => 0, fun _ => 0, by omega, rfl, HK33, HST3⟩
          case round =>
            obtain ⟨i, bs', cs', hi, rfl, HKw, HR⟩ := hrel
            obtain ⟨Ao, Co, hf1⟩ := own_form HR.out.out
            obtain ⟨Ap, Cp, hf2⟩ := own_form HR.out.nums
            subst hf1 hf2
            by_cases hlt : i < n + 1
            · have hlt' : (i : Int) < ((n + 1 : Nat) : Int) := by omega
              have hlt'' : (i : Int) < (n : Int) + 1 := by omega
              have h0' : (0 : Int) ≤ (i : Int) := by omega
              have co0 := HOU.out.out.cells (g := go) rfl i (if i < n then Value.slice (some ⟨bs i, 0, none⟩) (T i).length 4096 else .slice none 0 0) (by simp [hlt])
              have cp0 := HOU.out.nums.cells (g := gp) rfl i (.int .u32 ((if i < n then pf i else 0 : Nat) : Int)) (by simp [u32s, hlt])
              rw [addr_add, Nat.zero_add] at co0 cp0
              by_cases hin : i < n
              · rw [if_pos hin] at co0 cp0
                have lgo' := Nat.lt_of_lt_of_le lgo HKw.out.size
                have lgp' := Nat.lt_of_lt_of_le lgp HKw.out.size
                have co1 := (HKw.out.cell (p := ⟨go, i, none⟩) lgo (by simp)).trans co0
                have cp1 := (HKw.out.cell (p := ⟨gp, i, none⟩) lgp (by simp)).trans cp0
                obtain ⟨hbs, cur, hob, hcl, hct⟩ := HOU.out.text i hlt hin
                have ht := HP.out.text i hin
                have hbt := ((OB.front hob hct (by omega) (HSM.out i hin)).kept HKw.out (by simp))
                have HCO := hid (copied' (bs i) 0 (T i).length 4096 (T i) wr hbt rfl ht.2.1 (by omega))
                have hpf := HP.out.small i hin
                have u1 : IntKind.i64.wrap (pf i : Int) = (pf i : Int) := by rw [IntKind.wrap_i64]; omega
                have t1 : ((T i).length : Int) ≤ 4096 := by omega
                have t2 : (0 : Int) ≤ ((T i).length : Int) := by omega
                clear hbt hob hcl hct ht co0 cp0 hbs
                go_wp2_with fail
                refine HCO.out.mono ?_
                rintro e w4 ⟨g4, c4, hg4, hc4, hc4', rfl, hb4, hk4⟩
                have hR4 := HR.out.kept hk4
                have hbase4 : w3.heap.size ≤ w4.heap.size := Nat.le_trans HKw.out.size hk4.size
                have hkA5 : Kept [] w4 (w4.alloc (.cells #[.slice (some ⟨g4, 0, none⟩) (T i).length c4] 39)) := (Kept.refl [] w4).alloc _
                obtain ⟨g6, p6, w6, hr6, ho6, hk6⟩ := appendOwnK 33 39 24 i 1 w4.heap.size 1 33 w3.heap.size (.slice none 0 0) (.slice Ao i Co) _ [.slice (some ⟨g4, 0, none⟩) (T i).length c4] (w4.alloc (.cells #[.slice (some ⟨g4, 0, none⟩) (T i).length c4] 39)) Tryz.underlying33 i28 rfl (by decide) (by omega) (by decide) (by decide)
                  (ownsRow_kept hR4.out hkA5 (by simp)) (by have := hkA5.size; omega) rfl (by intro u hu; simp at hu; subst hu; rfl) (blk_new w4 _)
                have hk46 : Kept (own (.slice Ao i Co)) w4 w6 := (hkA5.more (by simp)).trans hk6
                have hkA7 : Kept [] w6 (w6.alloc (.cells #[.int .i64 (pf i : Nat)] 3)) := (Kept.refl [] w6).alloc _
                have hnum6 := ownsRow_kept hR4.nums hk46 (own_apart hR4.nums hR4.out (by decide))
                obtain ⟨g8, p8, w8, hr8, ho8, hk8⟩ := appendOwnK 34 3 8 i 1 w6.heap.size 1 34 w3.heap.size (.int .i64 0) (.slice Ap i Cp) _ [.int .i64 (pf i : Nat)] (w6.alloc (.cells #[.int .i64 (pf i : Nat)] 3)) Tryz.underlying34 iInt rfl (by decide) (by omega) (by decide) (by decide)
                  (ownsRow_kept hnum6 hkA7 (by simp)) (by have := hkA7.size; have := hk46.size; omega) rfl (by intro u hu; simp at hu; subst hu; rfl) (blk_new w6 _)
                have hk68 : Kept (own (.slice Ap i Cp)) w6 w8 := (hkA7.more (by simp)).trans hk8
                have lgp4 := Nat.lt_of_lt_of_le lgp' hk4.size
                have cp4 := (hk4.cell (p := ⟨gp, i, none⟩) lgp' (by simp)).trans cp1
                have hgpf : gp ∉ own (.slice Ao i Co) := by
                  have hcs := (HOU.out.nums.2)
                  intro hm
                  have h1 := own_ge HR.out.out hm
                  omega
                have lgp6 := Nat.lt_of_lt_of_le lgp4 hk46.size
                have cp6 := (hk46.cell (p := ⟨gp, i, none⟩) lgp4 hgpf).trans cp4
                have HH := hid (And.intro hk4 (And.intro hR4 (And.intro hk46 (And.intro hk68 (And.intro ho6 ho8)))))
                have HB4 := hid hb4
                have hgb4 : w3.heap.size ≤ g4 := Nat.le_trans HKw.out.size hg4
                clear hb4 hk4 hR4 hbase4 hkA5 ho6 hk6 hk46 hkA7 hnum6 ho8 hk8 hk68 HCO co1 cp1 cp4
                go_wp2_with (at_builtin; first | (refine wpList_append_run rfl _ _ 33 rfl _ _ _ rfl rfl hr6 ?_) | (refine wpList_append_run rfl _ _ 34 rfl _ _ _ rfl rfl hr8 ?_))
                go_roundw
                case rel =>
                  obtain ⟨hk4, hR4, hk46, hk68, ho6, ho8⟩ := HH.out
                  refine ⟨i + 1, putAt bs' i g4, putAt cs' i c4, by omega, by go_num, hid ?_, hid ?_⟩
                  · exact ((HKw.out.trans hk4).thenNew hk46 (fun r hr => .inr (own_ge HR.out.out hr))).thenNew hk68 (fun r hr => .inr (own_ge HR.out.nums hr))
                  · exact hR4.snoc hk46 hk68 ho6 ho8 (fun x hx => ⟨putAt_ne _ _ (by omega), putAt_ne _ _ (by omega)⟩) (by rw [if_pos hin, putAt_same, putAt_same]) (by rw [if_pos hin]) (fun _ => by
                      rw [putAt_same, putAt_same]; exact ⟨hgb4, HB4.out, hc4, hc4'⟩)
                case measure => simp [intOf]; omega
              · have hni : i = n := by omega
                subst hni
                rw [if_neg hin] at co0 cp0
                have lgo' := Nat.lt_of_lt_of_le lgo HKw.out.size
                have lgp' := Nat.lt_of_lt_of_le lgp HKw.out.size
                have co1 := (HKw.out.cell (p := ⟨go, i, none⟩) lgo (by simp)).trans co0
                have cp1 := (HKw.out.cell (p := ⟨gp, i, none⟩) lgp (by simp)).trans cp0
                clear co0 cp0
                simp only [Int.natCast_zero] at cp1
                go_wp2_with fail
                refine (copiedNil wr).mono ?_
                rintro e w4 ⟨rfl, hk4⟩
                have hR4 := HR.out.kept hk4
                have hbase4 : w3.heap.size ≤ w4.heap.size := Nat.le_trans HKw.out.size hk4.size
                have hkA5 : Kept [] w4 (w4.alloc (.cells #[.slice none 0 0] 39)) := (Kept.refl [] w4).alloc _
                obtain ⟨g6, p6, w6, hr6, ho6, hk6⟩ := appendOwnK 33 39 24 i 1 w4.heap.size 1 33 w3.heap.size (.slice none 0 0) (.slice Ao i Co) _ [.slice none 0 0] (w4.alloc (.cells #[.slice none 0 0] 39)) Tryz.underlying33 i28 rfl (by decide) (by omega) (by decide) (by decide)
                  (ownsRow_kept hR4.out hkA5 (by simp)) (by have := hkA5.size; omega) rfl (by intro u hu; simp at hu; subst hu; rfl) (blk_new w4 _)
                have hk46 : Kept (own (.slice Ao i Co)) w4 w6 := (hkA5.more (by simp)).trans hk6
                have hkA7 : Kept [] w6 (w6.alloc (.cells #[.int .i64 ((0 : Nat) : Int)] 3)) := (Kept.refl [] w6).alloc _
                have hnum6 := ownsRow_kept hR4.nums hk46 (own_apart hR4.nums hR4.out (by decide))
                obtain ⟨g8, p8, w8, hr8, ho8, hk8⟩ := appendOwnK 34 3 8 i 1 w6.heap.size 1 34 w3.heap.size (.int .i64 0) (.slice Ap i Cp) _ [.int .i64 ((0 : Nat) : Int)] (w6.alloc (.cells #[.int .i64 ((0 : Nat) : Int)] 3)) Tryz.underlying34 iInt rfl (by decide) (by omega) (by decide) (by decide)
                  (ownsRow_kept hnum6 hkA7 (by simp)) (by have := hkA7.size; have := hk46.size; omega) rfl (by intro u hu; simp at hu; subst hu; rfl) (blk_new w6 _)
                have hk68 : Kept (own (.slice Ap i Cp)) w6 w8 := (hkA7.more (by simp)).trans hk8
                have lgp4 := Nat.lt_of_lt_of_le lgp' hk4.size
                have cp4 := (hk4.cell (p := ⟨gp, i, none⟩) lgp' (by simp)).trans cp1
                have hgpf : gp ∉ own (.slice Ao i Co) := by
                  intro hm
                  have h1 := own_ge HR.out.out hm
                  omega
                have lgp6 := Nat.lt_of_lt_of_le lgp4 hk46.size
                have cp6 := (hk46.cell (p := ⟨gp, i, none⟩) lgp4 hgpf).trans cp4
                have HH := hid (And.intro hk4 (And.intro hR4 (And.intro hk46 (And.intro hk68 (And.intro ho6 ho8)))))
                clear hk4 hR4 hbase4 hkA5 ho6 hk6 hk46 hkA7 hnum6 ho8 hk8 hk68 co1 cp1 cp4
                simp only [Int.natCast_zero] at hr8
                go_wp2_with (at_builtin; first | (refine wpList_append_run rfl _ _ 33 rfl _ _ _ rfl rfl hr6 ?_) | (refine wpList_append_run rfl _ _ 34 rfl _ _ _ rfl rfl hr8 ?_))
                go_roundw
                case rel =>
                  obtain ⟨hk4, hR4, hk46, hk68, ho6, ho8⟩ := HH.out
                  refine ⟨i + 1, bs', cs', by omega, by go_num, hid ?_, hid ?_⟩
                  · exact ((HKw.out.trans hk4).thenNew hk46 (fun r hr => .inr (own_ge HR.out.out hr))).thenNew hk68 (fun r hr => .inr (own_ge HR.out.nums hr))
                  · exact hR4.snoc (p := 0) hk46 hk68 ho6 ho8 (fun x hx => ⟨rfl, rfl⟩) (by rw [if_neg (by omega)]) (by rw [if_neg (by omega)]) (fun h => by omega)
                case measure => simp [intOf]
            · have hlt' : ¬ (i : Int) < ((n + 1 : Nat) : Int) := by omega
              have hlt'' : ¬ (i : Int) < (n : Int) + 1 := by omega
              have hin1 : i = n + 1 := by omega
              subst hin1
              go_wp2_with fail
              go_returns
              rw [HWB.out]
              exact ⟨⟨_, _, bs', cs', rfl, HR.out.base (Nat.le_trans HK02.out.size HK3.out.size)⟩, (HK02.out.trans HK3.out).trans HKw.out⟩
end Go.Proofs.Base
end
