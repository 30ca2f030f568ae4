/- Parts of the proof, steps U9, U10, U11, U12: what the code and the plain laws of these steps give. Made by AI agents; no person has read it. -/
import Derived.Test.YthphjbjehccomaaGreatDoorU8
import Derived.Test.YthphjbjehccomaaGreatDoorU3
import Derived.Deep.Cut
import Derived.Deep.CutRange
section
namespace Go.Proofs.Base
open Go Go.Proofs Go.RowKit Go.Proofs.Gaps
set_option maxRecDepth 100000
theorem headD_get (l : List Nat) (h : 0 < l.length) : l.headD 0 = l[0] := by
  cases l with
  | nil => simp at h
  | cons a r => rfl
theorem sorted_len : ∀ (l : List Nat) (a n : Nat), l.Pairwise (· < ·) → (∀ x ∈ l, a ≤ x ∧ x < n) → l.length ≤ n - a
  | [], _, _, _, _ => by simp
  | x :: l, a, n, h, hb => by
    have h1 := hb x (by simp)
    have h2 := sorted_len l (x + 1) n (List.pairwise_cons.1 h).2 (fun y hy => ⟨(List.pairwise_cons.1 h).1 y hy, (hb y (by simp [hy])).2⟩)
    simp only [List.length_cons]; omega
def putAt {α : Type} (f : Nat → α) (z : Nat) (v : α) : Nat → α := fun x => if x = z then v else f x
theorem putAt_same {α : Type} (f : Nat → α) (z : Nat) (v : α) : putAt f z v z = v := if_pos rfl
theorem putAt_ne {α : Type} (f : Nat → α) {x z : Nat} (v : α) (h : x ≠ z) : putAt f z v x = f x := if_neg h
theorem ptrs_putAt (f : Nat → Nat) (z v : Nat) (X : List Nat) (h : z ∉ X) : ptrs (putAt f z v) X = ptrs f X := by
  unfold ptrs
  exact List.map_congr_left fun x hx => by rw [putAt_ne _ _ (fun e => h (by rw [← e]; exact hx))]
/-- The queue in memory: the places K came; the sets X by their numbers, those of Z may be empty; set x lies at sb x and holds the places PL x. -/
structure RQ (w0 w : World) (q f si nx : Nat) (D : Nat → Pd) (B G N C : Nat → Nat) (K X Z : List Nat) (sb pp : Nat → Nat) (vc : Nat → Value) (PL : Nat → List Nat) (vo : Value) (nB : Nat) : Prop where
  cells : ∃ g4 v6 v7 m1 m2, w.heap[q]? = some (.cells (qC si nx vo (.slice (some ⟨g4, 0, none⟩) 0 0) (.slice none 0 0) v6 v7 m1 m2 nB) 113 (0, 0))
  row : w.ownsRow w0.heap.size 121 1 vo X.length (ptrs sb X)
  sorted : X.Pairwise (· < ·)
  small : ∀ x ∈ X, x < 100
  sets : ∀ x ∈ X, SetAt w w0.heap.size (sb x) x (pp x) (vc x) B (PL x) ∧ w0.heap.size ≤ sb x
  pl : ∀ x ∈ X, (PL x).Pairwise (· < ·) ∧ (x ∉ Z → PL x ≠ []) ∧ (∀ j, j ∈ PL x ↔ j ∈ K ∧ (D j).ssn = x) ∧ ∀ j ∈ PL x, (D j).ppi = pp x
  disj : ∀ x ∈ X, ∀ y ∈ X, x ≠ y → ∀ g ∈ own (vc x), g ∉ own (vc y)
  cover : ∀ j ∈ K, (D j).ssn ∈ X
  ch : ∀ j ∈ K, ChAt w (B j) (D j) (G j) (N j) (C j) ∧ (D j).tsn = tsn f j ∧ w0.heap.size ≤ B j ∧ j < 40
  qb : w0.heap.size ≤ q
  base : w0.heap.size ≤ w.heap.size
  kept : Kept [] w0 w
section
variable {w0 w : World} {q f si nx : Nat} {D : Nat → Pd} {B G N C : Nat → Nat} {K X Z : List Nat} {sb pp : Nat → Nat} {vc : Nat → Value} {PL : Nat → List Nat} {vo : Value} {nB : Nat}
theorem RQ.sb_inj (h : RQ w0 w q f si nx D B G N C K X Z sb pp vc PL vo nB) {x y : Nat} (hx : x ∈ X) (hy : y ∈ X) (e : sb x = sb y) : x = y := by
  have h1 := (h.sets x hx).1.cells
  have h2 := (h.sets y hy).1.cells
  rw [e, h2] at h1
  simp only [Option.some.injEq, Obj.cells.injEq] at h1
  have := h1.1
  simp only [Array.mk.injEq, List.cons.injEq, Value.int.injEq, true_and] at this
  omega
theorem RQ.b_inj (h : RQ w0 w q f si nx D B G N C K X Z sb pp vc PL vo nB) {j k : Nat} (hj : j ∈ K) (hk : k ∈ K) (e : B j = B k) : j = k := by
  obtain ⟨h1, t1, -, b1⟩ := h.ch j hj
  obtain ⟨h2, t2, -, b2⟩ := h.ch k hk
  have e1 : w.cell? ⟨B j, 8, none⟩ = some (.int .u32 (D j).tsn) := blk_cell h1.pay rfl
  have e2 : w.cell? ⟨B k, 8, none⟩ = some (.int .u32 (D k).tsn) := blk_cell h2.pay rfl
  rw [e, e2] at e1
  simp only [Option.some.injEq, Value.int.injEq, true_and, Int.natCast_inj] at e1
  rw [t1, t2] at e1
  exact tsn_inj (by omega) (by omega) e1.symm
theorem RQ.kept' (h : RQ w0 w q f si nx D B G N C K X Z sb pp vc PL vo nB) {w' : World} (k : Kept [] w w') : RQ w0 w' q f si nx D B G N C K X Z sb pp vc PL vo nB := by
  obtain ⟨g4, v6, v7, m1, m2, hq⟩ := h.cells
  exact { h with
    cells := ⟨g4, v6, v7, m1, m2, (k.block q (blk_lt hq) (by simp)).trans hq⟩
    row := ownsRow_kept h.row k (by simp)
    sets := fun x hx => ⟨(h.sets x hx).1.kept k (by simp) (by simp), (h.sets x hx).2⟩
    ch := fun j hj => ⟨(h.ch j hj).1.kept k (by simp), (h.ch j hj).2⟩
    base := Nat.le_trans h.base k.size
    kept := h.kept.trans k }
/-- A new set stands in the row. -/
theorem RQ.addSet (h : RQ w0 w q f si nx D B G N C K X [] sb pp vc PL vo nB) {z p s g : Nat} (hz : z ∉ X) (hz1 : z < 100) {w' : World} {X' : List Nat} {vo' : Value} (hP : X'.Perm (X ++ [z])) (hs : X'.Pairwise (· < ·))
    (hk : Kept (q :: own vo) w w') (hq : ∃ g4 v6 v7 m1 m2, w'.heap[q]? = some (.cells (qC si nx vo' (.slice (some ⟨g4, 0, none⟩) 0 0) (.slice none 0 0) v6 v7 m1 m2 nB) 113 (0, 0)))
    (hrow : w'.ownsRow w0.heap.size 121 1 vo' X'.length (ptrs (putAt sb z s) X')) (hset : SetAt w' w0.heap.size s z p (.slice (some ⟨g, 0, none⟩) 0 0) B []) (hsn : w.heap.size ≤ s) (hgn : w.heap.size ≤ g) :
    RQ w0 w' q f si nx D B G N C K X' [z] (putAt sb z s) (putAt pp z p) (putAt vc z (.slice (some ⟨g, 0, none⟩) 0 0)) (putAt PL z []) vo' nB := by
  obtain ⟨g4, v6, v7, m1, m2, hqw⟩ := h.cells
  have hmem : ∀ x, x ∈ X' ↔ x ∈ X ∨ x = z := fun x => by rw [hP.mem_iff]; simp
  have hne : ∀ x ∈ X, x ≠ z := fun x hx e => hz (by rw [← e]; exact hx)
  have hfar : ∀ x ∈ X, ∀ g ∈ own (vc x), g ∉ q :: own vo := fun x hx g hg => by
    have hr := (h.sets x hx).1.row
    simp only [List.mem_cons, not_or]
    exact ⟨fun e => own_far hr (by rw [e] at *; exact hqw) (by decide) hg, own_apart hr h.row (by decide) g (own_mem.1 hg)⟩
  have hB : ∀ j ∈ K, B j ∉ q :: own vo := fun j hj => by
    have hp := (h.ch j hj).1.pay
    simp only [List.mem_cons, not_or]
    exact ⟨fun e => by unfold PayAt at hp; rw [e, hqw] at hp; simp at hp, own_far h.row hp (by decide)⟩
  have hsb : ∀ x ∈ X, sb x ∉ q :: own vo := fun x hx => by
    have hp := (h.sets x hx).1.cells
    simp only [List.mem_cons, not_or]
    exact ⟨fun e => by rw [e, hqw] at hp; simp at hp, own_far h.row hp (by decide)⟩
  have hzK : ∀ j ∈ K, (D j).ssn ≠ z := fun j hj e => hz (by rw [← e]; exact h.cover j hj)
  exact {
    cells := hq
    row := hrow
    sorted := hs
    small := fun x hx => by
      rcases (hmem x).1 hx with hx | rfl
      · exact h.small x hx
      · exact hz1
    sets := fun x hx => by
      rcases (hmem x).1 hx with hx | rfl
      · rw [putAt_ne _ _ (hne x hx), putAt_ne _ _ (hne x hx), putAt_ne _ _ (hne x hx), putAt_ne _ _ (hne x hx)]
        exact ⟨(h.sets x hx).1.kept hk (hsb x hx) (fun g hg => hfar x hx g (own_mem.2 hg)), (h.sets x hx).2⟩
      · rw [putAt_same, putAt_same, putAt_same, putAt_same]
        exact ⟨hset, Nat.le_trans h.base hsn⟩
    pl := fun x hx => by
      rcases (hmem x).1 hx with hx | rfl
      · rw [putAt_ne _ _ (hne x hx), putAt_ne _ _ (hne x hx)]
        obtain ⟨a1, a2, a3, a4⟩ := h.pl x hx
        exact ⟨a1, fun _ => a2 (by simp), a3, a4⟩
      · rw [putAt_same, putAt_same]
        exact ⟨List.Pairwise.nil, fun e => absurd (List.mem_singleton.2 rfl) e, fun j => by simp; exact fun hj => hzK j hj, by simp⟩
    disj := fun x hx y hy hxy g' hg' => by
      rcases (hmem x).1 hx with hx | rfl
      · rw [putAt_ne _ _ (hne x hx)] at hg'
        rcases (hmem y).1 hy with hy | rfl
        · rw [putAt_ne _ _ (hne y hy)]
          exact h.disj x hx y hy hxy g' hg'
        · rw [putAt_same]
          have := own_lt (h.sets x hx).1.row hg'
          intro e; simp [own, Value.ownBlock] at e; omega
      · rw [putAt_same] at hg'
        rcases (hmem y).1 hy with hy | rfl
        · rw [putAt_ne _ _ (hne y hy)]
          intro e
          have := own_lt (h.sets y hy).1.row e
          simp [own, Value.ownBlock] at hg'; omega
        · exact absurd rfl hxy
    cover := fun j hj => (hmem _).2 (.inl (h.cover j hj))
    ch := fun j hj => ⟨(h.ch j hj).1.kept hk (hB j hj), (h.ch j hj).2⟩
    qb := h.qb
    base := Nat.le_trans h.base hk.size
    kept := h.kept.thenNew hk (fun r hr => .inr (by
      rcases List.mem_cons.1 hr with rfl | hr
      · exact h.qb
      · exact own_ge h.row hr)) }
end
theorem ch_tsn {w : World} {p : Nat} {d d' : Pd} {g n c g' n' c' : Nat} (h1 : ChAt w p d g n c) (h2 : ChAt w p d' g' n' c') : d.tsn = d'.tsn := by
  have e1 : w.cell? ⟨p, 8, none⟩ = some (.int .u32 d.tsn) := blk_cell h1.pay rfl
  have e2 : w.cell? ⟨p, 8, none⟩ = some (.int .u32 d'.tsn) := blk_cell h2.pay rfl
  rw [e1] at e2
  simp only [Option.some.injEq, Value.int.injEq, true_and, Int.natCast_inj] at e2
  exact e2
/-- Where two sets that are not empty keep their chunks. -/
theorem set_head {w : World} {base sb ssn ppi : Nat} {vc : Value} {B : Nat → Nat} {L : List Nat} (h : SetAt w base sb ssn ppi vc B L) (hne : L ≠ []) {g : Nat} (hg : g ∈ own vc) : ∃ j ∈ L, w.cell? ⟨g, 0, none⟩ = some (.pointer (some ⟨B j, 0, none⟩)) := by
  have hpos := List.length_pos_iff.2 hne
  obtain ⟨g', c, he, -, -⟩ := own_some h.row (by omega)
  have h1 : g = g' := by rw [he] at hg; simpa [own, Value.ownBlock] using hg
  subst h1
  have h3 := h.row.cells (g := g) (by rw [he]; rfl) 0 (.pointer (some ⟨B L[0], 0, none⟩)) (by simp [ptrs, hpos])
  rw [addr_add, Nat.zero_add] at h3
  exact ⟨L[0], List.getElem_mem hpos, h3⟩
section
variable {w0 w : World} {q f si nx : Nat} {D : Nat → Pd} {B G N C : Nat → Nat} {K X Z : List Nat} {sb pp : Nat → Nat} {vc : Nat → Value} {PL : Nat → List Nat} {vo : Value} {nB : Nat}
/-- Only the queue's own cells are written. -/
theorem RQ.setQ (h : RQ w0 w q f si nx D B G N C K X Z sb pp vc PL vo nB) {w' : World} {nx' nB' : Nat} (hk : Kept [q] w w')
    (hq : ∃ g4 v6 v7 m1 m2, w'.heap[q]? = some (.cells (qC si nx' vo (.slice (some ⟨g4, 0, none⟩) 0 0) (.slice none 0 0) v6 v7 m1 m2 nB') 113 (0, 0))) : RQ w0 w' q f si nx' D B G N C K X Z sb pp vc PL vo nB' := by
  obtain ⟨g4, v6, v7, m1, m2, hqw⟩ := h.cells
  exact { h with
    cells := hq
    row := ownsRow_kept h.row hk (fun g hg e => own_far h.row hqw (by decide) (by rw [← List.mem_singleton.1 e]; exact own_mem.2 hg))
    sets := fun x hx => by
      have hs := (h.sets x hx).1
      refine ⟨hs.kept hk (fun e => ?_) (fun g hg e => own_far hs.row hqw (by decide) (by rw [← List.mem_singleton.1 e]; exact own_mem.2 hg)), (h.sets x hx).2⟩
      have hp := hs.cells
      rw [List.mem_singleton.1 e, hqw] at hp; simp at hp
    ch := fun j hj => by
      refine ⟨(h.ch j hj).1.kept hk (fun e => ?_), (h.ch j hj).2⟩
      have hp := (h.ch j hj).1.pay
      unfold PayAt at hp
      rw [List.mem_singleton.1 e, hqw] at hp; simp at hp
    base := Nat.le_trans h.base hk.size
    kept := h.kept.thenNew hk (fun r hr => .inr (by rw [List.mem_singleton.1 hr]; exact h.qb)) }
/-- A chunk comes into its set. -/
theorem RQ.push (h : RQ w0 w q f si nx D B G N C K X Z sb pp vc PL vo nB) {j z : Nat} {w' : World} {vc' : Value} {L' : List Nat} (hzX : z ∈ X) (hZ : ∀ x ∈ X, x ≠ z → x ∉ Z) (hz : (D j).ssn = z) (hjK : j ∉ K) (hj : j < 40) (ht : (D j).tsn = tsn f j) (hb : w0.heap.size ≤ B j) (hpp : (D j).ppi = pp z)
    (hc : ChAt w (B j) (D j) (G j) (N j) (C j)) (hset : SetAt w' w0.heap.size (sb z) z (pp z) vc' B L') (hperm : L'.Perm (PL z ++ [j])) (hsort : L'.Pairwise (· < ·)) (hk : Kept (sb z :: own (vc z)) w w') :
    RQ w0 w' q f si nx D B G N C (K ++ [j]) X [] sb pp (putAt vc z vc') (putAt PL z L') vo nB := by
  obtain ⟨g4, v6, v7, m1, m2, hqw⟩ := h.cells
  have hz1 := (h.sets z hzX).1
  have hmemK : ∀ k, k ∈ K ++ [j] ↔ k ∈ K ∨ k = j := fun k => by simp
  have hall : ∀ k ∈ K ++ [j], ChAt w (B k) (D k) (G k) (N k) (C k) ∧ (D k).tsn = tsn f k ∧ w0.heap.size ≤ B k ∧ k < 40 := fun k hk' => by
    rcases (hmemK k).1 hk' with hk' | rfl
    · exact h.ch k hk'
    · exact ⟨hc, ht, hb, hj⟩
  have hfarB : ∀ k ∈ K ++ [j], B k ∉ sb z :: own (vc z) := fun k hk' => by
    have hp := (hall k hk').1.pay
    simp only [List.mem_cons, not_or]
    refine ⟨fun e => ?_, own_far hz1.row hp (by decide)⟩
    have h2 := hz1.cells
    unfold PayAt at hp
    rw [← e, hp] at h2; simp at h2
  have hch' : ∀ k ∈ K ++ [j], ChAt w' (B k) (D k) (G k) (N k) (C k) ∧ (D k).tsn = tsn f k ∧ w0.heap.size ≤ B k ∧ k < 40 := fun k hk' => ⟨(hall k hk').1.kept hk (hfarB k hk'), (hall k hk').2⟩
  have hinj : ∀ k ∈ K ++ [j], ∀ l ∈ K ++ [j], B k = B l → k = l := fun k hk' l hl e => by
    obtain ⟨a1, a2, -, a3⟩ := hall k hk'
    obtain ⟨b1, b2, -, b3⟩ := hall l hl
    rw [← e] at b1
    have := ch_tsn a1 b1
    rw [a2, b2] at this
    exact tsn_inj (by omega) (by omega) this
  have hsetX : ∀ x ∈ X, x ≠ z → SetAt w' w0.heap.size (sb x) x (pp x) (vc x) B (PL x) := fun x hx hxz => by
    have hs := (h.sets x hx).1
    refine hs.kept hk ?_ (fun g hg => ?_)
    · simp only [List.mem_cons, not_or]
      exact ⟨fun e => hxz (h.sb_inj hx hzX e), own_far hz1.row hs.cells (by decide)⟩
    · simp only [List.mem_cons, not_or]
      exact ⟨fun e => own_far hs.row hz1.cells (by decide) (by rw [← e]; exact own_mem.2 hg), h.disj x hx z hzX hxz g (own_mem.2 hg)⟩
  have hL' : ∀ k, k ∈ L' ↔ k ∈ K ++ [j] ∧ (D k).ssn = z := fun k => by
    rw [hperm.mem_iff, List.mem_append, (h.pl z hzX).2.2.1 k, hmemK k]
    simp only [List.mem_singleton]
    constructor
    · rintro (⟨a, b⟩ | rfl)
      · exact ⟨.inl a, b⟩
      · exact ⟨.inr rfl, hz⟩
    · rintro ⟨a | rfl, b⟩
      · exact .inl ⟨a, b⟩
      · exact .inr rfl
  have hPX : ∀ x ∈ X, x ≠ z → ∀ k, k ∈ PL x ↔ k ∈ K ++ [j] ∧ (D k).ssn = x := fun x hx hxz k => by
    rw [(h.pl x hx).2.2.1 k, hmemK k]
    constructor
    · rintro ⟨a, b⟩; exact ⟨.inl a, b⟩
    · rintro ⟨a | rfl, b⟩
      · exact ⟨a, b⟩
      · exact absurd (b.symm.trans hz) hxz
  have hne' : L' ≠ [] := fun e => by rw [e] at hperm; have := hperm.length_eq; simp at this
  have hapart : ∀ x ∈ X, x ≠ z → ∀ g ∈ own vc', g ∉ own (vc x) := fun x hx hxz g hg hg' => by
    obtain ⟨k, hk1, e1⟩ := set_head hset hne' hg
    obtain ⟨l, hl1, e2⟩ := set_head (hsetX x hx hxz) ((h.pl x hx).2.1 (hZ x hx hxz)) hg'
    rw [e1] at e2
    simp only [Option.some.injEq, Value.pointer.injEq, Addr.mk.injEq, and_true] at e2
    obtain ⟨a1, a2⟩ := (hL' k).1 hk1
    obtain ⟨b1, b2⟩ := (hPX x hx hxz l).1 hl1
    rw [← hinj k a1 l b1 e2] at b2
    exact hxz (b2.symm.trans a2)
  exact {
    cells := ⟨g4, v6, v7, m1, m2, (hk.block q (blk_lt hqw) (by
      simp only [List.mem_cons, not_or]
      refine ⟨fun e => ?_, own_far hz1.row hqw (by decide)⟩
      have h2 := hz1.cells
      rw [← e, hqw] at h2; simp at h2)).trans hqw⟩
    row := ownsRow_kept h.row hk (fun g hg => by
      simp only [List.mem_cons, not_or]
      exact ⟨fun e => own_far h.row hz1.cells (by decide) (by rw [← e]; exact own_mem.2 hg), own_apart h.row hz1.row (by decide) g hg⟩)
    sorted := h.sorted
    small := h.small
    sets := fun x hx => by
      by_cases hxz : x = z
      · subst hxz
        rw [putAt_same, putAt_same]; exact ⟨hset, (h.sets x hx).2⟩
      · rw [putAt_ne _ _ hxz, putAt_ne _ _ hxz]; exact ⟨hsetX x hx hxz, (h.sets x hx).2⟩
    pl := fun x hx => by
      by_cases hxz : x = z
      · subst hxz
        rw [putAt_same]
        refine ⟨hsort, fun _ => hne', hL', fun k hk' => ?_⟩
        rcases List.mem_append.1 (hperm.mem_iff.1 hk') with h1 | h1
        · exact (h.pl x hx).2.2.2 k h1
        · rw [List.mem_singleton.1 h1]; exact hpp
      · rw [putAt_ne _ _ hxz]
        obtain ⟨a1, a2, a3, a4⟩ := h.pl x hx
        exact ⟨a1, fun _ => a2 (hZ x hx hxz), hPX x hx hxz, a4⟩
    disj := fun x hx y hy hxy g hg => by
      by_cases hxz : x = z
      · subst hxz
        rw [putAt_same] at hg
        rw [putAt_ne _ _ (fun e => hxy e.symm)]
        exact hapart y hy (fun e => hxy e.symm) g hg
      · rw [putAt_ne _ _ hxz] at hg
        by_cases hyz : y = z
        · subst hyz
          rw [putAt_same]
          exact fun hg' => hapart x hx hxz g hg' hg
        · rw [putAt_ne _ _ hyz]
          exact h.disj x hx y hy hxy g hg
    cover := fun k hk' => by
      rcases (hmemK k).1 hk' with h1 | rfl
      · exact h.cover k h1
      · rw [hz]; exact hzX
    ch := hch'
    qb := h.qb
    base := Nat.le_trans h.base hk.size
    kept := h.kept.thenNew hk (fun r hr => .inr (by
      rcases List.mem_cons.1 hr with rfl | hr
      · exact (h.sets z hzX).2
      · exact own_ge hz1.row hr)) }
end
end Go.Proofs.Base
end
section
namespace Go.Proofs.Base
open Go Go.Proofs Go.RowKit Go.Proofs.Gaps
set_option maxRecDepth 100000
/-- The queue with the places K, its sets unsaid. -/
def RQx (w0 w : World) (q f si nx : Nat) (D : Nat → Pd) (B G N C : Nat → Nat) (K : List Nat) (nB : Nat) : Prop := ∃ X sb pp vc PL vo, RQ w0 w q f si nx D B G N C K X [] sb pp vc PL vo nB
/-- The set that takes the next chunk stands at s. -/
def Mid (w0 w : World) (q f si : Nat) (D : Nat → Pd) (B G N C : Nat → Nat) (K : List Nat) (nB j s : Nat) : Prop :=
  ∃ X Z sb pp vc PL vo, RQ w0 w q f si 0 D B G N C K X Z sb pp vc PL vo nB ∧ s = sb (D j).ssn ∧ (D j).ssn ∈ X ∧ (∀ x ∈ X, x ≠ (D j).ssn → x ∉ Z) ∧ (D j).ppi = pp (D j).ssn
theorem iPtrS : (Tryz.prog.info? 121).map (fun i => (i.zero, i.size, i.bytes)) = some (some (.pointer none), 1, 8) := by kernel_rfl
set_option maxHeartbeats 8000000 in
theorem pushWithError (w0 w : World) (q f si j : Nat) (D : Nat → Pd) (B G N C : Nat → Nat) (K X : List Nat) (sb pp : Nat → Nat) (vc : Nat → Value) (PL : Nat → List Nat) (vo : Value) (nB : Nat) (h : RQ w0 w q f si 0 D B G N C K X [] sb pp vc PL vo nB) (hc : ChAt w (B j) (D j) (G j) (N j) (C j)) (ht : (D j).tsn = tsn f j) (hj : j < 40) (hjK : j ∉ K) (hb : w0.heap.size ≤ B j) (hsi : (D j).si = si) (hssn : (D j).ssn < 100)
    (hfrag : ∀ k ∈ K, (D k).ssn = (D j).ssn → ((D k).bg && (D k).en) = false ∧ ((D j).bg && (D j).en) = false ∧ (D k).ppi = (D j).ppi) (hN : N j ≤ 1000) (hnB : nB < 1000000) :
    Calls Tryz.prog 42 #[.pointer (some ⟨q, 0, none⟩), .pointer (some ⟨B j, 0, none⟩)] w fun e w' => (∃ b, e = .returned (.tuple #[.bool b, .nilIface])) ∧ RQx w0 w' q f si 0 D B G N C (K ++ [j]) (nB + N j) := by
  obtain ⟨g4, v6, v7, m1, m2, hq⟩ := h.cells
  obtain ⟨Ao, Co, rfl⟩ := own_form h.row
  have q0 : w.cell? ⟨q, 0, none⟩ = some (.int .u16 si) := blk_cell hq rfl
  have q1 : w.cell? ⟨q, 1, none⟩ = some (.int .u16 ((0 : Nat) : Int)) := blk_cell hq rfl
  have q3 : w.cell? ⟨q, 3, none⟩ = some (.slice Ao X.length Co) := blk_cell hq rfl
  have q11 : w.cell? ⟨q, 11, none⟩ = some (.int .u64 nB) := blk_cell hq rfl
  have q12 : w.cell? ⟨q, 12, none⟩ = some (.int .u32 0) := blk_cell hq rfl
  have z11 : w.frozen? ⟨q, 11, none⟩ = false := blk_free hq
  have z3 : w.frozen? ⟨q, 3, none⟩ = false := blk_free hq
  have lq := blk_lt hq
  have c4 : w.cell? ⟨B j, 4, none⟩ = some (.bool false) := blk_cell hc.pay rfl
  have c8 : w.cell? ⟨B j, 8, none⟩ = some (.int .u32 (D j).tsn) := blk_cell hc.pay rfl
  have c9 : w.cell? ⟨B j, 9, none⟩ = some (.int .u16 (D j).si) := blk_cell hc.pay rfl
  have c10 : w.cell? ⟨B j, 10, none⟩ = some (.int .u16 (D j).ssn) := blk_cell hc.pay rfl
  have c13 : w.cell? ⟨B j, 13, none⟩ = some (.int .u32 (D j).ppi) := blk_cell hc.pay rfl
  have c14 : w.cell? ⟨B j, 14, none⟩ = some (.slice (some ⟨G j, 0, none⟩) (N j) (C j)) := blk_cell hc.pay rfl
  have lb := blk_lt hc.pay
  rw [hsi] at c9
  rw [ht] at c8
  have HQ := hid h; have HCH := hid hc; have HQC := hid hq
  have HI := hid (isIData (B j) (G j) (N j) (C j) (D j) w hc)
  have HL := hid (fun wx => sna16LT (D j).ssn 0 wx hssn (by omega))
  have h100 : X.length ≤ 100 := by have := sorted_len X 0 100 h.sorted (fun x hx => ⟨Nat.zero_le x, h.small x hx⟩); omega
  clear h hc hq
  go_enter Tryz.func42, Tryz.ntmps42
  go_wp2_with fail
  refine HI.out.mono ?_
  rintro e w1 ⟨rfl, rfl⟩
  dsimp only
  go_wp2_with fail
  go_quiet (fail)
  go_wp2_with fail
  have hk2 : Kept [] w1 (w1.drewN nq) := (Kept.refl [] w1).drewN nq
  generalize w1.drewN nq = w2 at *
  have hcell := fun (p : Addr) (v : Value) (hv : w1.cell? p = some v) => (hk2.cell (World.block_lt_of_cell? w1 _ hv) (by simp)).trans hv
  have q1' := hcell _ _ q1; have q3' := hcell _ _ q3; have q11' := hcell _ _ q11; have q12' := hcell _ _ q12
  have c4' := hcell _ _ c4; have c8' := hcell _ _ c8; have c10' := hcell _ _ c10; have c13' := hcell _ _ c13; have c14' := hcell _ _ c14
  have lq' := Nat.lt_of_lt_of_le lq hk2.size
  have lb' := Nat.lt_of_lt_of_le lb hk2.size
  have HK2 := hid hk2
  clear hcell q0 q1 q3 q11 q12 z11 z3 c4 c8 c9 c10 c13 c14 lq lb hk2
  go_region_held3 (fun w' => w'.cell? ⟨B j, 10, none⟩ = some (.int .u16 (D j).ssn) ∧ w'.cell? ⟨q, 1, none⟩ = some (.int .u16 ((0 : Nat) : Int)))
    (go_keep) ((go_at_call 70; refine (HL.out w2.drew).mono ?_; rintro e wx ⟨rfl, rfl⟩))
  go_wp2_with fail
  have HFR := hid hfrag
  have hcw : ChAt w2.drew (B j) (D j) (G j) (N j) (C j) := (HCH.out.kept HK2.out (by simp)).kept ((Kept.refl [] w2).drew) (by simp)
  refine (isFragmented (B j) (G j) (N j) (C j) (D j) w2.drew hcw).mono ?_
  rintro e w3 ⟨rfl, hw3⟩
  dsimp only
  have hk3 : Kept [] w1 w3 := by rw [hw3]; exact HK2.out.drew
  have hcell := fun (p : Addr) (v : Value) (hv : w2.cell? p = some v) => show w3.cell? p = some v from by rw [hw3]; exact hv
  have q1 := hcell _ _ q1'; have q3 := hcell _ _ q3'; have q11 := hcell _ _ q11'; have q12 := hcell _ _ q12'
  have c4 := hcell _ _ c4'; have c8 := hcell _ _ c8'; have c10 := hcell _ _ c10'; have c13 := hcell _ _ c13'; have c14 := hcell _ _ c14'
  have lq := blk_lt (by exact (hk3.block q (blk_lt HQC.out) (by simp)).trans HQC.out)
  have lb := blk_lt (by exact (hk3.block (B j) (blk_lt HCH.out.pay) (by simp)).trans HCH.out.pay)
  have HK3 := hid hk3
  clear hcell hk3 hfrag hcw hw3 q1' q3' q11' q12' c4' c8' c10' c13' c14' lq' lb' HK2
  go_upto_if 90 with fail
  generalize hfr : (!((D j).bg && (D j).en)) = fr at *
  have HFRE := hid hfr; clear hfr
  go_cut [6] from 89 to 128 (fun s6 wx => s6 = (if (D j).ssn ∈ X then .pointer (some ⟨sb (D j).ssn, 0, none⟩) else .pointer none) ∧ Kept [] w3 wx)
  case first =>
    cases fr
    · go_wp2_with fail
      go_meet
      refine ⟨?_, Kept.refl [] w3⟩
      rw [if_neg]
      intro hx
      obtain ⟨-, hne', hmem, -⟩ := HQ.out.pl _ hx
      have hne := hne' (by simp)
      obtain ⟨y, hy⟩ := List.exists_mem_of_ne_nil _ hne
      have := (HFR.out y ((hmem y).1 hy).1 ((hmem y).1 hy).2).2.1
      rw [this] at HFRE
      exact absurd HFRE.out (by decide)
    · go_wp2_with fail
      have HRow : Hid (∀ k (h : k < X.length), ∃ gA cA, Ao = some ⟨gA, 0, none⟩ ∧ Co = cA ∧ (X.length : Int) ≤ cA ∧ w3.cell? ⟨gA, k, none⟩ = some (.pointer (some ⟨sb X[k], 0, none⟩)) ∧ gA < w3.heap.size) := hid fun k h => by
        have hr := ownsRow_kept HQ.out.row HK3.out (by simp)
        obtain ⟨gA, cA, he, h1, h2⟩ := own_some hr (by omega)
        have h3 := hr.cells (g := gA) (by rw [he]; rfl) k (.pointer (some ⟨sb X[k], 0, none⟩)) (by simp [ptrs, h])
        rw [addr_add, Nat.zero_add] at h3
        simp only [Value.slice.injEq] at he
        exact ⟨gA, cA, he.1, he.2.2, by omega, h3, World.block_lt_of_cell? w3 _ h3⟩
      have HSet : Hid (∀ k (h : k < X.length), ∃ (g c y : Nat), PL X[k] ≠ [] ∧ y = (PL X[k]).headD 0 ∧ y ∈ K ∧ (D y).ssn = X[k] ∧ (0 : Int) < (PL X[k]).length ∧ ((PL X[k]).length : Int) ≤ c ∧ w3.cell? ⟨sb X[k], 0, none⟩ = some (.int .u16 (X[k] : Nat)) ∧ w3.cell? ⟨sb X[k], 2, none⟩ = some (.slice (some ⟨g, 0, none⟩) (PL X[k]).length c) ∧ w3.cell? ⟨g, 0, none⟩ = some (.pointer (some ⟨B y, 0, none⟩)) ∧ sb X[k] < w3.heap.size ∧ g < w3.heap.size ∧ ChAt w3 (B y) (D y) (G y) (N y) (C y)) := hid fun k h => by
        have hx : X[k] ∈ X := List.getElem_mem h
        have hs := (HQ.out.sets _ hx).1.kept HK3.out (by simp) (by simp)
        obtain ⟨-, hne', hmem, -⟩ := HQ.out.pl _ hx
        have hne := hne' (by simp)
        have hpos : 0 < (PL X[k]).length := List.length_pos_iff.2 hne
        obtain ⟨g, c, he, h1, h2⟩ := own_some hs.row (by omega)
        have h0 : (PL X[k]).headD 0 = (PL X[k])[0] := headD_get _ hpos
        have h3 := hs.row.cells (g := g) (by rw [he]; rfl) 0 (.pointer (some ⟨B ((PL X[k])[0]), 0, none⟩)) (by simp [ptrs, hpos])
        rw [addr_add, Nat.zero_add] at h3
        have hy := (hmem _).1 (List.getElem_mem hpos)
        have hcs := hs.cells
        rw [he] at hcs
        exact ⟨g, c, (PL X[k])[0], hne, h0.symm, hy.1, hy.2, by omega, by omega, blk_cell hcs rfl, blk_cell hcs rfl, h3, blk_lt hcs, World.block_lt_of_cell? w3 _ h3, (HQ.out.ch _ hy.1).1.kept HK3.out (by simp)⟩
      go_loopw [6, 96] (fun s6 s96 wx => ∃ k : Nat, k ≤ X.length ∧ s96 = .int .i64 k ∧ s6 = .pointer none ∧ Hid (∀ i (h : i < X.length), i < k → X[i] ≠ (D j).ssn) ∧ Hid (Kept [] w3 wx)) (fun _ s96 _ => X.length - (intOf s96).toNat)
      case atStart => exact ⟨0, by omega, rfl, rfl, hid (fun i h hi => by omega), hid (Kept.refl [] w3)⟩
      case round =>
        obtain ⟨k, hk, rfl, rfl, HNo, HK⟩ := hrel
        by_cases hlt : k < X.length
        · have hlt' : (k : Int) < (X.length : Int) := by omega
          have h0' : (0 : Int) ≤ (k : Int) := by omega
          obtain ⟨gA, cA, rfl, rfl, e1, r1, lgA⟩ := HRow.out k hlt
          obtain ⟨g, c, y, hne, hyh, hyK, hyx, e2, e3, r2, r3, r4, lsb, lg, hcy⟩ := HSet.out k hlt
          have hcell := fun (p : Addr) (v : Value) (hl : p.block < w3.heap.size) (hv : w3.cell? p = some v) => (HK.out.cell (p := p) hl (by simp)).trans hv
          have r1' := hcell _ _ lgA r1; have r2' := hcell _ _ lsb r2; have r3' := hcell _ _ lsb r3; have r4' := hcell _ _ lg r4; have c10' := hcell _ _ lb c10
          have lgA' := Nat.lt_of_lt_of_le lgA HK.out.size; have lsb' := Nat.lt_of_lt_of_le lsb HK.out.size; have lg' := Nat.lt_of_lt_of_le lg HK.out.size; have lb' := Nat.lt_of_lt_of_le lb HK.out.size
          have HCY := hid (hcy.kept HK.out (by simp))
          have HY := hid (And.intro hyK hyx)
          have hxs : X[k] < 100 := HQ.out.small _ (List.getElem_mem hlt)
          clear hcell r1 r2 r3 r4 hcy hne hyh hyK hyx
          generalize hSB : sb X[k] = SB at *
          generalize hPN : (PL X[k]).length = pn at *
          by_cases hx : X[k] = (D j).ssn
          · rw [hx] at r2'
            have HX := hid hx
            have HSB := hid hSB
            have HIF := hid (fun n => show Calls Tryz.prog 71 #[.pointer (some ⟨B y, 0, none⟩)] (wr.drewN n) fun e w' => e = .returned (.bool true) ∧ w' = wr.drewN n from by
              have h1 := isFragmented (B y) (G y) (N y) (C y) (D y) _ (HCY.out.kept ((Kept.refl [] wr).drewN n) (by simp))
              rw [(HFR.out y HY.out.1 (HY.out.2.trans hx)).1] at h1
              exact h1)
            clear hx hxs hSB hPN
            go_wp2_with fail
            go_quiet ((go_at_call 71; exact Calls.quiet_of_same (HIF.out _)))
            go_wp2_with fail
            go_meet
            refine ⟨?_, HK.out.drewN _⟩
            rw [if_pos (by rw [← HX.out]; exact List.getElem_mem hlt), ← HX.out, HSB.out]
          · have hd : decide (((X[k] : Nat) : Int) = ((D j).ssn : Int)) = false := by simpa using (fun e : ((X[k] : Nat) : Int) = ((D j).ssn : Int) => hx (by omega))
            have hx' : ¬ ((X[k] : Nat) : Int) = ((D j).ssn : Int) := by omega
            have HX := hid hx
            clear hx hxs hSB hPN
            have HNo' : Hid (∀ i (h : i < X.length), i < k + 1 → X[i] ≠ (D j).ssn) := hid fun i h hi => by
              rcases Nat.lt_or_ge i k with h1 | h1
              · exact HNo.out i h h1
              · have e : i = k := by omega
                subst e; exact HX.out
            clear HX HY
            generalize X[k] = xk at *
            go_wp2_with fail
            go_quiet (fail)
            go_wp2_with fail
            go_roundw
            case rel => exact ⟨k + 1, by omega, by go_num, rfl, HNo', hid (HK.out.drewN _)⟩
            case measure => simp [intOf]; omega
        · have hlt' : ¬ (k : Int) < (X.length : Int) := by omega
          go_wp2_with fail
          go_meet
          refine ⟨?_, HK.out⟩
          rw [if_neg]
          intro hx
          obtain ⟨i, hi, he⟩ := List.getElem_of_mem hx
          exact HNo.out i hi (by omega) he
  obtain ⟨rfl, hkc⟩ := hcut
  have hk1c : Kept [] w1 wc := HK3.out.trans hkc
  have hcell := fun (p : Addr) (v : Value) (hl : p.block < w3.heap.size) (hv : w3.cell? p = some v) => (hkc.cell (p := p) hl (by simp)).trans hv
  have q3' := hcell _ _ lq q3; have q11' := hcell _ _ lq q11; have q12' := hcell _ _ lq q12
  have c4' := hcell _ _ lb c4; have c8' := hcell _ _ lb c8; have c10' := hcell _ _ lb c10; have c13' := hcell _ _ lb c13; have c14' := hcell _ _ lb c14
  have lq' := Nat.lt_of_lt_of_le lq hkc.size
  have lb' := Nat.lt_of_lt_of_le lb hkc.size
  have HQc := hid (HQ.out.kept' hk1c)
  have HCHc := hid (HCH.out.kept hk1c (by simp))
  clear hcell q1 q3 q11 q12 c4 c8 c10 c13 c14 lq lb hkc hk1c
  have hwu : IntKind.u64.wrap ((N j : Nat) : Int) = ((N j : Nat) : Int) := by rw [IntKind.wrap_u64]; omega
  have hws : IntKind.u64.wrap ((nB : Int) + ((N j : Nat) : Int)) = ((nB + N j : Nat) : Int) := by rw [IntKind.wrap_u64]; omega
  have hadd := fun (wx : World) (hx : wx.cell? ⟨q, 11, none⟩ = some (.int .u64 nB)) (hz : wx.frozen? ⟨q, 11, none⟩ = false) => addU64 ⟨q, 11, none⟩ nB (N j : Nat) ((nB + N j : Nat) : Int) wx hx hz (by
    have h1 : (Op.intArith .add .u64 (nB : Int) ((N j : Nat) : Int)).run Tryz.prog wx = .ok (.int .u64 (IntKind.u64.wrap ((nB : Int) + ((N j : Nat) : Int)))) wx := rfl
    rw [hws] at h1; exact h1)
  have HADD := hid hadd
  clear hadd hws
  by_cases hX : (D j).ssn ∈ X
  · rw [if_pos hX]
    have HXM := hid hX
    clear hX
    generalize hSB : sb (D j).ssn = SB at *
    have HSB := hid hSB
    clear hSB
    go_wp2_with fail
    obtain ⟨p1, p2, p3, p4⟩ := HQc.out.pl _ HXM.out
    have hlen := sorted_len (PL (D j).ssn) 0 40 p1 (fun k hk => ⟨Nat.zero_le k, (HQc.out.ch k ((p3 k).1 hk).1).2.2.2⟩)
    have hpos : 1 ≤ (PL (D j).ssn).length := List.length_pos_iff.2 (p2 (by simp))
    refine (hasTSN w0.heap.size SB (D j).ssn (pp (D j).ssn) f j (vc (D j).ssn) B G N C D (PL (D j).ssn) wc (by have := (HQc.out.sets _ HXM.out).1; rwa [HSB.out] at this) hpos (by omega) (fun k hk => have h := HQc.out.ch k ((p3 k).1 hk).1; ⟨h.1, h.2.1⟩)
      (fun k hk => by have h := HQc.out.ch k ((p3 k).1 hk).1; omega) (by omega) (fun hk => hjK ((p3 j).1 hk).1)).mono ?_
    rintro e w4 ⟨rfl, hk4⟩
    dsimp only
    have HL60 := hid hlen; have HPP := hid p3; have HP4 := hid p4; have HP1 := hid p1; have HPOS := hid hpos
    clear hlen p1 p2 p3 p4 hpos
    have HQ4 := hid (HQc.out.kept' hk4)
    have HCH4 := hid (HCHc.out.kept hk4 (by simp))
    obtain ⟨g4', v6', v7', m1', m2', hq4⟩ := HQ4.out.cells
    have q11 : w4.cell? ⟨q, 11, none⟩ = some (.int .u64 nB) := blk_cell hq4 rfl
    have q12 : w4.cell? ⟨q, 12, none⟩ = some (.int .u32 0) := blk_cell hq4 rfl
    have z11 : w4.frozen? ⟨q, 11, none⟩ = false := blk_free hq4
    have c14 : w4.cell? ⟨B j, 14, none⟩ = some (.slice (some ⟨G j, 0, none⟩) (N j) (C j)) := blk_cell HCH4.out.pay rfl
    have lq := blk_lt hq4
    have lb := blk_lt HCH4.out.pay
    have ha := HADD.out w4.drew q11 z11
    have hjq : B j ≠ q := fun e => by
      have hp := HCH4.out.pay
      unfold PayAt at hp
      rw [e, hq4] at hp; simp at hp
    have hqj : q ≠ B j := fun e => hjq e.symm
    have HQQ4 := hid hq4
    clear hk4 hq4 q3' q11' q12' c4' c8' c10' c13' c14' lq' lb'
    go_wp2_with fail
    refine (hasDataLimit q w4 q12).mono ?_
    rintro e w5 ⟨rfl, hw5⟩
    subst hw5
    dsimp only
    go_wp2_with fail
    go_region_held3 (fun w' => w'.cell? ⟨B j, 14, none⟩ = some (.slice (some ⟨G j, 0, none⟩) (N j) (C j))) (go_keep) (fail)
    go_wp2_with fail
    generalize hW : World.drew _ = W5
    have hq5 : W5.heap[q]? = some (.cells (qC si 0 (.slice Ao X.length Co) (.slice (some ⟨g4', 0, none⟩) 0 0) (.slice none 0 0) v6' v7' m1' m2' (nB + N j)) 113 (0, 0)) := by
      have h1 := blk_setCell (w := w5) (i := 11) (.int .u64 ((nB : Int) + ((N j : Nat) : Int))) HQQ4.out
      rw [← Int.natCast_add] at h1
      rw [← hW]; exact h1
    have hk5 : Kept [q] w5 W5 := by rw [← hW]; exact ((Kept.refl [q] w5).setCell _ (.inl (by simp))).drew
    have HQ5 := hid (HQ4.out.setQ hk5 ⟨g4', v6', v7', m1', m2', hq5⟩)
    have HCH5 := hid (HCH4.out.kept hk5 (by simpa using hjq))
    clear hW hq5 hk5
    have hset5 := (HQ5.out.sets _ HXM.out).1
    refine (pushNoDuplicate w0.heap.size SB (D j).ssn (pp (D j).ssn) f j (vc (D j).ssn) B G N C D (PL (D j).ssn) W5 (by rwa [HSB.out] at hset5) HQ5.out.base (by have := HL60.out; omega) ?_ ?_ ?_).mono ?_
    · refine List.nodup_append.2 ⟨HP1.out.imp (fun h => Nat.ne_of_lt h), by simp, fun a ha b hb => ?_⟩
      rw [List.mem_singleton.1 hb]
      exact fun e => hjK (by rw [← e]; exact ((HPP.out a).1 ha).1)
    · intro k hk
      rcases List.mem_append.1 hk with hk | hk
      · have h := HQ5.out.ch k ((HPP.out k).1 hk).1; exact ⟨h.1, h.2.1⟩
      · rw [List.mem_singleton.1 hk]; exact ⟨HCH5.out, ht⟩
    · intro k hk
      rcases List.mem_append.1 hk with hk | hk
      · have h := HQ5.out.ch k ((HPP.out k).1 hk).1; omega
      · rw [List.mem_singleton.1 hk]; omega
    rintro e w6 ⟨⟨b, rfl⟩, ⟨vc', L', hset', hperm, hsort⟩, hk6⟩
    dsimp only
    go_wp2_with fail
    go_ret2
    rw [← HSB.out] at hset' hk6
    exact ⟨⟨_, rfl⟩, X, sb, pp, _, _, _, HQ5.out.push HXM.out (fun _ _ _ => by simp) rfl hjK hj ht hb (by
      obtain ⟨k, hk⟩ := List.exists_mem_of_length_pos HPOS.out
      rw [← HP4.out k hk, ← (HFR.out k ((HPP.out k).1 hk).1 ((HPP.out k).1 hk).2).2.2]) HCH5.out hset' hperm hsort hk6⟩
  · rw [if_neg hX]
    have HXM := hid hX
    clear hX
    go_wp2_with fail
    refine (hasDataLimit q wc q12').mono ?_
    rintro e w5 ⟨rfl, hw5⟩
    subst hw5
    dsimp only
    go_wp2_with fail
    go_region_held3 (fun w' => w'.cell? ⟨B j, 10, none⟩ = some (.int .u16 (D j).ssn) ∧ w'.cell? ⟨B j, 13, none⟩ = some (.int .u32 (D j).ppi)) (go_keep)
      ((go_at_call 74; refine (newChunkSet (D j).ssn (D j).ppi w5.drew).mono ?_; rintro e w7 ⟨rfl, hs7, hg7, hk7⟩; have c10n := (hk7.cell (p := ⟨B j, 10, none⟩) lb' (by simp)).trans c10'; have c13n := (hk7.cell (p := ⟨B j, 13, none⟩) lb' (by simp)).trans c13'; have HS7 := hid hs7; have HG7 := hid hg7; have HK7 := hid hk7; clear hs7 hg7 hk7))
    go_upto_region 33 with fail
    have hk57 : Kept [] w5 w7 := ((Kept.refl [] w5).drew).trans HK7.out
    have HQ7 := hid (HQc.out.kept' hk57)
    have HCH7 := hid (HCHc.out.kept hk57 (by simp))
    have HS7' := hid (show w7.heap[w5.heap.size + 1]? = some (.cells #[.int .u16 (D j).ssn, .int .u32 (D j).ppi, .slice (some ⟨w5.heap.size, 0, none⟩) 0 0] 130 (0, 0)) from HS7.out)
    have HG7' := hid (show w7.heap[w5.heap.size]? = some (.cells #[] 83 (0, 0)) from HG7.out)
    clear HS7 HG7
    obtain ⟨g4', v6', v7', m1', m2', hq7⟩ := HQ7.out.cells
    have hrow7 := HQ7.out.row
    have hX100 := sorted_len X 0 100 HQ7.out.sorted (fun x hx => ⟨Nat.zero_le x, HQ7.out.small x hx⟩)
    have hkA : Kept [] w7 (w7.alloc (.cells #[.pointer (some ⟨w5.heap.size + 1, 0, none⟩)] 121)) := (Kept.refl [] w7).alloc _
    have hbase7 := HQ7.out.base
    obtain ⟨g6, p6, w6, hr6, ho6, hk6⟩ := appendOwnK 107 121 8 X.length 1 w7.heap.size 1 107 w0.heap.size (.pointer none) (.slice Ao X.length Co) (ptrs sb X) [.pointer (some ⟨w5.heap.size + 1, 0, none⟩)] (w7.alloc (.cells #[.pointer (some ⟨w5.heap.size + 1, 0, none⟩)] 121)) Tryz.underlying107 iPtrS rfl (by decide) (by omega) (by decide) (by decide)
      (ownsRow_kept hrow7 hkA (by simp)) (by have := hkA.size; omega) rfl (by intro u hu; simp at hu; subst hu; rfl) (blk_new w7 _)
    have hwhere := appendWhere 107 121 8 X.length 1 w7.heap.size 1 107 w0.heap.size (.pointer none) (.slice Ao X.length Co) (ptrs sb X) [.pointer (some ⟨w5.heap.size + 1, 0, none⟩)] (w7.alloc (.cells #[.pointer (some ⟨w5.heap.size + 1, 0, none⟩)] 121)) Tryz.underlying107 iPtrS (by decide) (by omega) (by decide) (by decide)
      (ownsRow_kept hrow7 hkA (by simp)) rfl (by intro u hu; simp at hu; subst hu; rfl) (blk_new w7 _) hr6
    rw [World.size_alloc] at hwhere
    have hk76 : Kept (own (.slice Ao X.length Co)) w7 w6 := (hkA.more (by simp)).trans hk6
    have hq6 := (hk76.block q (blk_lt hq7) (own_far hrow7 hq7 (by decide))).trans hq7
    have e3 : w6.cell? ⟨q, 3, none⟩ = some (.slice Ao X.length Co) := blk_cell hq6 rfl
    have f3 : w6.frozen? ⟨q, 3, none⟩ = false := blk_free hq6
    have l6 := blk_lt hq6
    have q37 : w7.cell? ⟨q, 3, none⟩ = some (.slice Ao X.length Co) := blk_cell hq7 rfl
    have lq7 := blk_lt hq7
    have HHQ6 := hid hq6; have HO6 := hid ho6; have HK76 := hid hk76; have HWH := hid hwhere; have HROW7 := hid hrow7; have HX100 := hid hX100; have HB7 := hid hbase7; have HK57 := hid hk57; have hk6' := hid hk6
    clear hq6 ho6 hk76 hwhere hrow7 hX100 hbase7 hk57 hk6 hkA hq7 q3' q11' q12' c4' c8' c10' c13' c14' lq' lb' c10n c13n
    go_upto_region 34 with (at_builtin; refine wpList_append_run rfl _ _ 107 rfl _ _ _ rfl rfl hr6 ?_)
    generalize hW : World.setCell _ _ _ = w8
    have hq8 : w8.heap[q]? = some (.cells (qC si 0 (.slice (some ⟨g6, 0, none⟩) (X.length + 1) p6) (.slice (some ⟨g4', 0, none⟩) 0 0) (.slice none 0 0) v6' v7' m1' m2' nB) 113 (0, 0)) := by rw [← hW, blk_setCell _ HHQ6.out]; rfl
    have hk68 : Kept [q] w6 w8 := by rw [← hW]; exact (Kept.refl [q] w6).setCell _ (.inl (by simp))
    clear hW
    have hrow8 := ownsRow_kept HO6.out hk68 (fun g hg e => own_far HO6.out HHQ6.out (by decide) (by rw [← List.mem_singleton.1 e]; exact own_mem.2 hg))
    rw [show ptrs sb X ++ [Value.pointer (some ⟨w5.heap.size + 1, 0, none⟩)] = ptrs (putAt sb (D j).ssn (w5.heap.size + 1)) (X ++ [(D j).ssn]) by
      rw [← ptrs_putAt sb (D j).ssn (w5.heap.size + 1) X HXM.out]; simp [ptrs, putAt_same]] at hrow8
    have hlen : X.length + 1 = (X ++ [(D j).ssn]).length := by simp
    rw [hlen] at hrow8 hq8
    have hk58 : Kept (q :: own (.slice Ao X.length Co)) w5 w8 := ((HK57.out.more (by simp)).thenNew HK76.out (fun r hr => .inl (by simp [hr]))).thenNew hk68 (fun r hr => .inl (by simp at hr; simp [hr]))
    obtain ⟨g45, v65, v75, m15, m25, hq5⟩ := HQc.out.cells
    have hnotB : B j ∉ q :: own (.slice Ao X.length Co) := by
      have hp := HCHc.out.pay
      simp only [List.mem_cons, not_or]
      exact ⟨fun e => by unfold PayAt at hp; rw [e, hq5] at hp; simp at hp, own_far HQc.out.row hp (by decide)⟩
    have hch8 := HCHc.out.kept hk58 hnotB
    have hset8 : ∀ x ∈ X, w8.heap[sb x]? = some (.cells #[.int .u16 x, .int .u32 (pp x), vc x] 130 (0, 0)) := fun x hx => by
      have hp := (HQc.out.sets x hx).1.cells
      refine (hk58.block (sb x) (blk_lt hp) ?_).trans hp
      simp only [List.mem_cons, not_or]
      exact ⟨fun e => by rw [e, hq5] at hp; simp at hp, own_far HQc.out.row hp (by decide)⟩
    have hk78 : Kept (q :: own (.slice Ao X.length Co)) w7 w8 := (HK76.out.more (fun r hr => .inl (by simp [hr]))).thenNew hk68 (fun r hr => .inl (by simp at hr; simp [hr]))
    have hsz8 : w8.heap[w5.heap.size + 1]? = some (.cells #[.int .u16 (D j).ssn, .int .u32 (D j).ppi, .slice (some ⟨w5.heap.size, 0, none⟩) 0 0] 130 (0, 0)) := by
      refine (hk78.block _ (blk_lt HS7'.out) ?_).trans HS7'.out
      simp only [List.mem_cons, not_or]
      exact ⟨fun e => by have := blk_lt hq5; omega, fun e => by have := own_lt HQc.out.row e; omega⟩
    have hgz8 : w8.heap[w5.heap.size]? = some (.cells #[] 83 (0, 0)) := by
      refine (hk78.block _ (blk_lt HG7'.out) ?_).trans HG7'.out
      simp only [List.mem_cons, not_or]
      exact ⟨fun e => by have := blk_lt hq5; omega, fun e => by have := own_lt HQc.out.row e; omega⟩
    have hcells8 : ∀ x ∈ X ++ [(D j).ssn], x < 100 ∧ putAt sb (D j).ssn (w5.heap.size + 1) x ≠ g6 ∧ w8.cell? ⟨putAt sb (D j).ssn (w5.heap.size + 1) x, 0, none⟩ = some (.int .u16 (x : Nat)) := fun x hx => by
      rcases List.mem_append.1 hx with hx | hx
      · rw [putAt_ne _ _ (fun e => HXM.out (by rw [← e]; exact hx))]
        exact ⟨HQc.out.small x hx, fun e => own_far hrow8 (hset8 x hx) (by decide) (by rw [e]; simp [own, Value.ownBlock]), blk_cell (hset8 x hx) rfl⟩
      · rw [List.mem_singleton.1 hx, putAt_same]
        exact ⟨hssn, fun e => own_far hrow8 hsz8 (by decide) (by rw [e]; simp [own, Value.ownBlock]), blk_cell hsz8 rfl⟩
    have hnd : (X ++ [(D j).ssn]).Nodup := List.nodup_append.2 ⟨HQc.out.sorted.imp (fun h => Nat.ne_of_lt h), by simp, fun a ha b hb => by
      rw [List.mem_singleton.1 hb]; exact fun e => HXM.out (by rw [← e]; exact ha)⟩
    have hl1 : 1 ≤ (X ++ [(D j).ssn]).length := by simp
    have hl2 : (X ++ [(D j).ssn]).length ≤ 1000 := by have := HX100.out; simp; omega
    have HSRT := hid (sortSSN g6 p6 w0.heap.size (X ++ [(D j).ssn]) (putAt sb (D j).ssn (w5.heap.size + 1)) w8 hl1 hl2 hrow8 hcells8 hnd)
    have q38 : w8.cell? ⟨q, 3, none⟩ = some (.slice (some ⟨g6, 0, none⟩) (X ++ [(D j).ssn]).length p6) := blk_cell hq8 rfl
    have lq8 := blk_lt hq8
    have c48 : w8.cell? ⟨B j, 4, none⟩ = some (.bool false) := blk_cell hch8.pay rfl
    have lb8 := blk_lt hch8.pay
    have hg6q : q ≠ g6 := fun e => own_far hrow8 hq8 (by decide) (by rw [e]; simp [own, Value.ownBlock])
    have hB6 : B j ≠ g6 := fun e => own_far hrow8 hch8.pay (by decide) (by rw [e]; simp [own, Value.ownBlock])
    have hs6 : w5.heap.size + 1 ≠ g6 := fun e => own_far hrow8 hsz8 (by decide) (by rw [e]; simp [own, Value.ownBlock])
    have HG6 := hid hg6q; have HB6 := hid hB6; have HS6 := hid hs6
    have HROW8 := hid hrow8; have HQ8 := hid hq8; have HK58 := hid hk58; have HCH8 := hid hch8; have HSZ8 := hid hsz8; have HGZ8 := hid hgz8
    clear hrow8 hq8 hk58 hch8 hset8 hk78 hsz8 hgz8 hcells8 hnd hl1 hl2 hk68 hq5 hnotB hlen hg6q hB6 hs6 e3 f3 l6 q37 lq7 hr6
    have HXL := hid (List.Perm.refl (X ++ [(D j).ssn]))
    generalize hXLe : X ++ [(D j).ssn] = XL at HROW8 HQ8 HSRT q38
    have HXLE := hid hXLe
    clear hXLe HXL
    go_wp2_with fail
    refine HSRT.out.mono ?_
    rintro e w9 ⟨rfl, X', hP, hS', hrow9, hk89⟩
    dsimp only
    have hk59 : Kept (q :: own (.slice Ao X.length Co)) w5 w9 := HK58.out.thenNew hk89 (fun r hr => by
      rw [List.mem_singleton.1 hr]
      rcases HWH.out with h | h
      · exact .inl (by simp [h])
      · right; have := HK57.out.size; omega)
    have hq9 := (hk89.block q (blk_lt HQ8.out) (by simpa using HG6.out)).trans HQ8.out
    have hsz9 := (hk89.block _ (blk_lt HSZ8.out) (by simpa using HS6.out)).trans HSZ8.out
    have hgz9 := (hk89.block _ (blk_lt HGZ8.out) (by
      rw [List.mem_singleton]
      exact fun e => own_far HROW8.out HGZ8.out (by decide) (by rw [e]; simp [own, Value.ownBlock]))).trans HGZ8.out
    have hch9 := HCH8.out.kept hk89 (by simpa using HB6.out)
    have hset9 : SetAt w9 w0.heap.size (w5.heap.size + 1) (D j).ssn (D j).ppi (.slice (some ⟨w5.heap.size, 0, none⟩) 0 0) B [] :=
      ⟨hsz9, by simp [ptrs], .inr ⟨w5.heap.size, 0, #[], rfl, HQc.out.base, hgz9, by simp, by simp [maxLen], by simp, by simp [ptrs]⟩⟩
    rw [← hP.length_eq] at hrow9 hq9
    have HQ9 := hid (HQc.out.addSet HXM.out hssn (by rw [HXLE.out]; exact hP) hS' hk59 ⟨_, _, _, _, _, hq9⟩ hrow9 hset9 (by omega) (Nat.le_refl _))
    have HPX := hid (show (D j).ssn ∈ X' from by rw [hP.mem_iff, ← HXLE.out]; simp)
    have HCH9 := hid hch9
    have q11 : w9.cell? ⟨q, 11, none⟩ = some (.int .u64 nB) := blk_cell hq9 rfl
    have z11 : w9.frozen? ⟨q, 11, none⟩ = false := blk_free hq9
    have c14 : w9.cell? ⟨B j, 14, none⟩ = some (.slice (some ⟨G j, 0, none⟩) (N j) (C j)) := blk_cell hch9.pay rfl
    have lq := blk_lt hq9
    have lb := blk_lt hch9.pay
    have ha := HADD.out w9.drew q11 z11
    have hqj : q ≠ B j := fun e => by
      have hp := hch9.pay
      unfold PayAt at hp
      rw [← e, hq9] at hp; simp at hp
    have HHQ9 := hid hq9
    clear hq9 hsz9 hgz9 hch9 hset9 hrow9 hk59 hk89 hP hS' q38 lq8 c48 lb8 HSRT HROW8 HQ8 HK58 HCH8 HSZ8 HGZ8 HROW7 HO6 HK76 HHQ6
    generalize hSBe : putAt sb (D j).ssn (w5.heap.size + 1) = sb' at *
    generalize hPPe : putAt pp (D j).ssn (D j).ppi = pp' at *
    have HSB := hid (show sb' (D j).ssn = w5.heap.size + 1 by rw [← hSBe, putAt_same])
    have HPP := hid (show pp' (D j).ssn = (D j).ppi by rw [← hPPe, putAt_same])
    clear hSBe hPPe
    generalize hVCe : putAt vc (D j).ssn (.slice (some ⟨w5.heap.size, 0, none⟩) 0 0) = vc' at *
    generalize hPLe : putAt PL (D j).ssn [] = PL' at *
    have HPL := hid (show PL' (D j).ssn = [] by rw [← hPLe, putAt_same])
    clear hVCe hPLe
    go_wp2_with fail
    go_region_held3 (fun w' => w'.cell? ⟨B j, 14, none⟩ = some (.slice (some ⟨G j, 0, none⟩) (N j) (C j))) (go_keep) (fail)
    go_wp2_with fail
    generalize hW : World.drew _ = W5
    have hq5 : W5.heap[q]? = some (.cells (qC si 0 (.slice (some ⟨g6, 0, none⟩) X'.length p6) (.slice (some ⟨g4', 0, none⟩) 0 0) (.slice none 0 0) v6' v7' m1' m2' (nB + N j)) 113 (0, 0)) := by
      have h1 := blk_setCell (w := w9) (i := 11) (.int .u64 ((nB : Int) + ((N j : Nat) : Int))) HHQ9.out
      rw [← Int.natCast_add] at h1
      rw [← hW]; exact h1
    have hk5 : Kept [q] w9 W5 := by rw [← hW]; exact ((Kept.refl [q] w9).setCell _ (.inl (by simp))).drew
    have HQ5 := hid (HQ9.out.setQ hk5 ⟨g4', v6', v7', m1', m2', hq5⟩)
    have HCH5 := hid (HCH9.out.kept hk5 (by simpa using fun e => hqj e.symm))
    clear hW hq5 hk5
    have hset5 := (HQ5.out.sets _ HPX.out).1
    have HSET5 := hid hset5
    rw [HSB.out, HPP.out, HPL.out] at hset5
    refine (pushNoDuplicate w0.heap.size (w5.heap.size + 1) (D j).ssn (D j).ppi f j (vc' (D j).ssn) B G N C D [] W5 hset5 HQ5.out.base (by simp) (by simp) ?_ ?_).mono ?_
    · intro k hk
      rw [List.mem_singleton.1 hk]; exact ⟨HCH5.out, ht⟩
    · intro k hk
      rw [List.mem_singleton.1 hk]; omega
    rintro e w10 ⟨⟨b, rfl⟩, ⟨vc'', L', hset', hperm, hsort⟩, hk6⟩
    dsimp only
    go_wp2_with fail
    go_ret2
    rw [← HPP.out] at hset'
    rw [← HSB.out] at hset' hk6
    exact ⟨⟨_, rfl⟩, X', sb', pp', _, _, _, HQ5.out.push HPX.out (fun x _ hx => by simpa using hx) rfl hjK hj ht hb HPP.out.symm HCH5.out hset' (by rw [HPL.out]; exact hperm) hsort hk6⟩
end Go.Proofs.Base
end
section
namespace Go.Proofs.Base
open Go Go.Proofs Go.RowKit Go.Proofs.Gaps
set_option maxRecDepth 100000
set_option maxHeartbeats 1000000 in
theorem push (w0 w : World) (q f si j : Nat) (D : Nat → Pd) (B G N C : Nat → Nat) (K : List Nat) (nB : Nat) (h : RQx w0 w q f si 0 D B G N C K nB) (hc : ChAt w (B j) (D j) (G j) (N j) (C j)) (ht : (D j).tsn = tsn f j) (hj : j < 40) (hjK : j ∉ K) (hb : w0.heap.size ≤ B j) (hsi : (D j).si = si) (hssn : (D j).ssn < 100)
    (hfrag : ∀ k ∈ K, (D k).ssn = (D j).ssn → ((D k).bg && (D k).en) = false ∧ ((D j).bg && (D j).en) = false ∧ (D k).ppi = (D j).ppi) (hN : N j ≤ 1000) (hnB : nB < 1000000) :
    Calls Tryz.prog 30 #[.pointer (some ⟨q, 0, none⟩), .pointer (some ⟨B j, 0, none⟩)] w fun e w' => IsBool e ∧ RQx w0 w' q f si 0 D B G N C (K ++ [j]) (nB + N j) := by
  obtain ⟨X, sb, pp, vc, PL, vo, h⟩ := h
  have H := hid (pushWithError w0 w q f si j D B G N C K X sb pp vc PL vo nB h hc ht hj hjK hb hsi hssn hfrag hN hnB)
  clear h hc hfrag
  go_enter Tryz.func30, Tryz.ntmps30
  go_wp2_with fail
  refine H.out.mono ?_
  rintro e w1 ⟨⟨b, rfl⟩, h⟩
  dsimp only
  have HH := hid h; clear h
  go_wp2_with fail
  go_ret
  exact ⟨⟨b, rfl⟩, HH.out⟩
end Go.Proofs.Base
end
section
namespace Go.Proofs.Base
open Go Go.Proofs Go.RowKit Go.Proofs.Gaps
set_option maxRecDepth 100000
theorem storeU64 (a : Addr) (y : Int) (u : Value) (w : World) (hc : w.cell? a = some u) (hz : w.frozen? a = false) : (callFunc 78 #[.pointer (some a), .int .u64 y]).run Tryz.prog w = .ok (.value (.tuple #[])) (w.setCell a (.int .u64 y)) :=
  run_call_store Tryz.func78 (by kernel_rfl) (by kernel_rfl) (by kernel_rfl) (by kernel_rfl) hc hz
set_option maxHeartbeats 2000000 in
theorem subtractAny (q nB n : Nat) (w : World) (h : w.cell? ⟨q, 11, none⟩ = some (.int .u64 nB)) (hf : w.frozen? ⟨q, 11, none⟩ = false) (hn : n < 1000000) (hB : nB < 1000000) :
    Calls Tryz.prog 45 #[.pointer (some ⟨q, 0, none⟩), .int .i64 n] w fun e w' => e = .returned (.tuple #[]) ∧ ∃ m, m ≤ nB ∧ w' = w.setCell ⟨q, 11, none⟩ (.int .u64 (m : Nat)) := by
  by_cases hle : n ≤ nB
  · refine (subtractNumBytes q nB n w h hf hle hB).mono ?_
    rintro e w' ⟨rfl, hw⟩
    exact ⟨rfl, nB - n, by omega, hw⟩
  · have lq := World.block_lt_of_cell? w _ h
    have hl := loadU64 ⟨q, 11, none⟩ nB w h
    have hs := storeU64 ⟨q, 11, none⟩ 0 _ w h hf
    have e1 : ¬ (n : Int) ≤ (nB : Int) := by omega
    have e2 : (nB : Int) < (n : Int) := by omega
    clear hle
    go_enter Tryz.func45, Tryz.ntmps45
    go_wp2_with fail
    go_end0
    exact ⟨rfl, 0, by omega, rfl⟩
end Go.Proofs.Base
end
