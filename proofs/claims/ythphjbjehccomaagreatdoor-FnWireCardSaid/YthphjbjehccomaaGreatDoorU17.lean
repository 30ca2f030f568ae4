/- Parts of the proof, steps U15, U16, U17: what the code and the plain laws of these steps give. Made by AI agents; no person has read it. -/
import Derived.Test.YthphjbjehccomaaGreatDoorU14
import Derived.Test.YthphjbjehccomaaGreatDoorH3
import Derived.Deep.Cut
import Derived.Deep.CutRange
import Derived.Test.YthphjbjehccomaaGreatDoorP7
section
namespace Go.Proofs.Base
open Go Go.Proofs Go.RowKit Go.Proofs.Gaps
set_option maxRecDepth 100000
section
variable {w0 w : World} {q f si nx : Nat} {D : Nat → Pd} {B G N C : Nat → Nat} {K X Z : List Nat} {sb pp : Nat → Nat} {vc : Nat → Value} {PL : Nat → List Nat} {vo : Value} {nB : Nat}
/-- Only where the chunks that came lie counts. -/
theorem RQ.congr (h : RQ w0 w q f si nx D B G N C K X Z sb pp vc PL vo nB) {B' : Nat → Nat} (e : ∀ j ∈ K, B' j = B j) : RQ w0 w q f si nx D B' G N C K X Z sb pp vc PL vo nB := by
  have hp : ∀ x ∈ X, ptrs B' (PL x) = ptrs B (PL x) := fun x hx => List.map_congr_left fun j hj => by rw [e j (((h.pl x hx).2.2.1 j).1 hj).1]
  exact { h with
    sets := fun x hx => by
      obtain ⟨⟨h1, h2⟩, h3⟩ := h.sets x hx
      exact ⟨⟨h1, by rw [hp x hx]; exact h2⟩, h3⟩
    ch := fun j hj => by rw [e j hj]; exact h.ch j hj }
/-- A new queue. -/
theorem RQ.start {v3 v4 v6 v7 : Value} {m1 m2 : Nat} (hq : w.heap[q]? = some (.cells (qC si 0 v3 v4 (.slice none 0 0) v6 v7 m1 m2 0) 113 (0, 0))) (h3 : SetsV w0 w v3) (h4 : AnyS v4) (hqb : w0.heap.size ≤ q) (hk : Kept [] w0 w) :
    RQ w0 w q f si 0 D B G N C [] [] [] (fun _ => 0) (fun _ => 0) (fun _ => .slice none 0 0) (fun _ => []) v3 0 := by
  obtain ⟨g, rfl, hg, hgc⟩ := h3
  obtain ⟨g4, rfl⟩ := h4
  exact {
    cells := ⟨g4, v6, v7, m1, m2, hq⟩
    row := ⟨by simp [ptrs], .inr ⟨g, 0, #[], rfl, hg, hgc, by simp, by simp [maxLen], by simp, by simp [ptrs]⟩⟩
    sorted := List.Pairwise.nil
    small := fun x hx => by simp at hx
    sets := fun x hx => by simp at hx
    pl := fun x hx => by simp at hx
    disj := fun x hx => by simp at hx
    cover := fun x hx => by simp at hx
    ch := fun x hx => by simp at hx
    qb := hqb
    base := hk.size
    kept := hk }
end
/-- What the queue holds when all the pieces of a stream came. -/
theorem RQ.whole {w0 w : World} {q f si nx : Nat} {D : Nat → Pd} {B G N C : Nat → Nat} {K X : List Nat} {sb pp : Nat → Nat} {vc : Nat → Value} {PL : Nat → List Nat} {vo : Value} {nB n : Nat} (h : RQ w0 w q f si nx D B G N C K X [] sb pp vc PL vo nB) {PF : Nat → List Nat} {pf : Nat → Nat}
    (hX : ∀ x, (∃ j ∈ K, (D j).ssn = x) ↔ x < n) (hS : ∀ x, x < n → (PF x).Pairwise (· < ·)) (hM : ∀ x, x < n → ∀ j, j ∈ PF x ↔ j ∈ K ∧ (D j).ssn = x) (hp : ∀ x, x < n → ∀ j ∈ PF x, (D j).ppi = pf x) :
    X = List.range n ∧ ∀ x, x < n → PL x = PF x ∧ pp x = pf x := by
  have hXe : X = List.range n := sorted_ext X (List.range n) h.sorted (List.pairwise_lt_range) (fun x => by
    rw [List.mem_range, ← hX x]
    constructor
    · intro hx
      obtain ⟨-, h2, h3, -⟩ := h.pl x hx
      obtain ⟨j, hj⟩ := List.exists_mem_of_ne_nil _ (h2 (by simp))
      exact ⟨j, (h3 j).1 hj⟩
    · rintro ⟨j, hj, rfl⟩
      exact h.cover j hj)
  refine ⟨hXe, fun x hx => ?_⟩
  have hxX : x ∈ X := by rw [hXe]; exact List.mem_range.2 hx
  obtain ⟨h1, h2, h3, h4⟩ := h.pl x hxX
  have he : PL x = PF x := sorted_ext _ _ h1 (hS x hx) (fun j => (h3 j).trans (hM x hx j).symm)
  refine ⟨he, ?_⟩
  obtain ⟨j, hj⟩ := List.exists_mem_of_ne_nil _ (h2 (by simp))
  rw [← h4 j hj, ← hp x hx j (by rw [← he]; exact hj)]
/-- What is read so far: i texts of n, then a nil. -/
structure Outs (w0 w : World) (i n : Nat) (ov pv : Value) (bs : Nat → Nat) (T : Nat → List Nat) (pf : Nat → Nat) : Prop where
  out : w.ownsRow w0.heap.size 39 1 ov i ((List.range i).map fun x => if x < n then Value.slice (some ⟨bs x, 0, none⟩) (T x).length 4096 else .slice none 0 0)
  nums : w.ownsRow w0.heap.size 22 1 pv i (u32s ((List.range i).map fun x => if x < n then pf x else 0))
  text : ∀ x, x < i → x < n → w0.heap.size ≤ bs x ∧ ∃ cur, OB w (bs x) cur ∧ cur.length = 4096 ∧ cur.take (T x).length = T x
theorem Outs.kept {w0 w w' : World} {i n : Nat} {ov pv : Value} {bs : Nat → Nat} {T : Nat → List Nat} {pf : Nat → Nat} (h : Outs w0 w i n ov pv bs T pf) {S : List Nat} (k : Kept S w w') (h1 : ∀ g, ov.ownBlock = some g → g ∉ S) (h2 : ∀ g, pv.ownBlock = some g → g ∉ S) (h3 : ∀ x, x < i → x < n → bs x ∉ S) : Outs w0 w' i n ov pv bs T pf :=
  ⟨ownsRow_kept h.out k h1, ownsRow_kept h.nums k h2, fun x hi hn => by
    obtain ⟨a, cur, b, c⟩ := h.text x hi hn
    exact ⟨a, cur, (k.block _ (blk_lt b) (h3 x hi hn)).trans b, c⟩⟩
theorem Outs.snoc {w0 w4 w6 w8 : World} {i n p : Nat} {ov pv ov' pv' v : Value} {bs bs' : Nat → Nat} {T : Nat → List Nat} {pf : Nat → Nat} (h : Outs w0 w4 i n ov pv bs T pf) (hk46 : Kept (own ov) w4 w6) (hk68 : Kept (own pv) w6 w8)
    (ho6 : w6.ownsRow w0.heap.size 39 1 ov' (i + 1) (((List.range i).map fun x => if x < n then Value.slice (some ⟨bs x, 0, none⟩) (T x).length 4096 else .slice none 0 0) ++ [v]))
    (ho8 : w8.ownsRow w0.heap.size 22 1 pv' (i + 1) (u32s ((List.range i).map fun x => if x < n then pf x else 0) ++ [.int .u32 (p : Nat)]))
    (hb : ∀ x, x < i → bs' x = bs x) (hv : v = if i < n then .slice (some ⟨bs' i, 0, none⟩) (T i).length 4096 else .slice none 0 0) (hp : p = if i < n then pf i else 0)
    (ht : i < n → w0.heap.size ≤ bs' i ∧ ∃ cur, OB w4 (bs' i) cur ∧ cur.length = 4096 ∧ cur.take (T i).length = T i) : Outs w0 w8 (i + 1) n ov' pv' bs' T pf := by
  have hnum6 := ownsRow_kept h.nums hk46 (own_apart h.nums h.out (by decide))
  have keepB : ∀ b cur, OB w4 b cur → OB w8 b cur := fun b cur hB => by
    have h6 : OB w6 b cur := (hk46.block b (blk_lt hB) (own_far h.out hB (by decide))).trans hB
    exact (hk68.block b (blk_lt h6) (own_far hnum6 h6 (by decide))).trans h6
  refine ⟨?_, ?_, fun x hx hxn => ?_⟩
  · have h8 := ownsRow_kept ho6 hk68 (own_apart ho6 hnum6 (by decide))
    rw [List.range_succ, List.map_append, List.map_singleton, ← hv]
    rw [show ((List.range i).map fun x => if x < n then Value.slice (some ⟨bs' x, 0, none⟩) (T x).length 4096 else .slice none 0 0) = ((List.range i).map fun x => if x < n then Value.slice (some ⟨bs x, 0, none⟩) (T x).length 4096 else .slice none 0 0) from List.map_congr_left fun x hx => by rw [hb x (List.mem_range.1 hx)]]
    exact h8
  · rw [List.range_succ, List.map_append, List.map_singleton, ← hp]
    simpa [u32s] using ho8
  · rcases Nat.lt_or_ge x i with h1 | h1
    · obtain ⟨a, cur, b, c⟩ := h.text x h1 hxn
      rw [hb x h1]
      exact ⟨a, cur, keepB _ _ b, c⟩
    · have e : x = i := by omega
      subst e
      obtain ⟨a, cur, b, c⟩ := ht hxn
      exact ⟨a, cur, keepB _ _ b, c⟩
theorem RD.kept {w w' : World} {q si i n g c nB : Nat} (h : RD w q si i n g c nB) {S : List Nat} (k : Kept S w w') (hS : q ∉ S) : RD w' q si i n g c nB := by
  obtain ⟨o, ho, g4, v6, v7, m1, m2, hq⟩ := h
  exact ⟨o, ho, g4, v6, v7, m1, m2, (k.block q (blk_lt hq) hS).trans hq⟩
theorem Outs.base {w0 w1 w : World} {i n : Nat} {ov pv : Value} {bs : Nat → Nat} {T : Nat → List Nat} {pf : Nat → Nat} (h : Outs w1 w i n ov pv bs T pf) (hb : w0.heap.size ≤ w1.heap.size) : Outs w0 w i n ov pv bs T pf :=
  ⟨own_base h.out hb, own_base h.nums hb, fun x hi hn => by
    obtain ⟨a, b⟩ := h.text x hi hn
    exact ⟨Nat.le_trans hb a, b⟩⟩
/-- What ZZReassemble gives. -/
def ReadOuts (w w' : World) (e : Ending) (n : Nat) (T : Nat → List Nat) (pf : Nat → Nat) : Prop := ∃ ov pv bs, e = .returned (.tuple #[ov, pv]) ∧ Outs w w' (n + 1) n ov pv bs T pf
/-- The pieces of one stream as they are handed to the queue. -/
structure Chunks (w : World) (cb N0 : Nat) (D : Nat → Pd) (G N C : Nat → Nat) (Ks : List Nat) : Prop where
  cell : ∀ k (h : k < Ks.length), ∀ c v, (zzC (D Ks[k]) (.slice (some ⟨G Ks[k], 0, none⟩) (N Ks[k]) (C Ks[k])))[c]? = some v → w.cell? ⟨cb, k * N0 + c, none⟩ = some v
  lt : cb < w.heap.size
end Go.Proofs.Base
end
section
namespace Go.Proofs.Base
open Go Go.Proofs Go.RowKit Go.Proofs.Gaps
set_option maxRecDepth 100000
set_option maxHeartbeats 8000000 in
theorem ZZReassemble (w : World) (cb cc sb sc f si n : Nat) (D : Nat → Pd) (G N C : Nat → Nat) (Ks : List Nat) (hC : Chunks w cb 9 D G N C Ks) (hS : ∀ k, k < n + 1 → w.cell? ⟨sb, k, none⟩ = some (.int .i64 4096)) (hn0 : 0 < Ks.length) (hn40 : Ks.length ≤ 40) (hsi : ∀ j ∈ Ks, (D j).si = si) (hnd : Ks.Nodup) (hj : ∀ j ∈ Ks, j < 40 ∧ (D j).tsn = tsn f j ∧ (D j).ssn < 100 ∧ N j ≤ 200)
    (T PF : Nat → List Nat) (LS : Nat → List Nat) (pf : Nat → Nat) (tt : Nat) (ev : Value) (hn1 : 0 < n) (hn6 : n ≤ 6) (hX : ∀ x, (∃ j ∈ Ks, (D j).ssn = x) ↔ x < n) (hPS : ∀ x, x < n → (PF x).Pairwise (· < ·)) (hPM : ∀ x, x < n → ∀ j, j ∈ PF x ↔ j ∈ Ks ∧ (D j).ssn = x) (hPp : ∀ x, x < n → ∀ j ∈ PF x, (D j).ppi = pf x)
    (hFull : ∀ x, x < n → FullSet D (PF x)) (hT : ∀ x, x < n → (PF x).flatMap LS = T x ∧ (T x).length ≤ 200) (hL : ∀ j ∈ Ks, (LS j).length = N j ∧ BB w (G j) (LS j)) (hg : w.cell? ⟨0, 0, none⟩ = some (.iface tt ev))
    (hfit : ∀ j ∈ Ks, ∀ k ∈ Ks, k ≠ j → (D k).ssn = (D j).ssn → ((D k).bg && (D k).en) = false ∧ ((D j).bg && (D j).en) = false ∧ (D k).ppi = (D j).ppi) :
    Calls Tryz.prog 20 #[.slice (some ⟨cb, 0, none⟩) Ks.length cc, .slice (some ⟨sb, 0, none⟩) (n + 1 : Nat) sc] w fun e w' => ReadOuts w w' e n T pf ∧ Kept [] w w' := by
  have c0 : w.cell? ⟨cb, 5, none⟩ = some (.int .u16 si) := by
    have h := hC.cell 0 hn0 5 (.int .u16 si) (by simp [zzC, hsi _ (List.getElem_mem hn0)])
    rwa [Nat.zero_mul, Nat.zero_add] at h
  have lc := hC.lt
  have HC := hid hC; have HS := hid hS; have HSI := hid hsi; have HND := hid hnd; have HJ := hid hj; have HFIT := hid hfit; have HX := hid hX; have HPS := hid hPS; have HPM := hid hPM; have HPP := hid hPp; have HFULL := hid hFull; have HT := hid hT; have HL := hid hL; have HGT := hid hg
  have lgt := World.block_lt_of_cell? w _ hg
  have e1 : (0 : Int) < (Ks.length : Int) := by omega
  have e2 : ¬ Ks.length = 0 := by omega
  have e3 : (0 : Int) ≤ (Ks.length : Int) := by omega
  clear hC hS hsi hnd hj hfit hX hPS hPM hPp hFull hT hL hg
  go_enter Tryz.func20, Tryz.ntmps20
  go_wp2_with fail
  refine (newReassemblyQueue si w).mono ?_
  rintro e w1 ⟨q, v3, v4, v6, v7, m1, m2, rfl, hq, hq1, h3, h4, -, -, hk1⟩
  dsimp only
  have HR := hid (RQ.start (f := f) (D := D) (B := fun _ => 0) (G := G) (N := N) (C := C) hq1 h3 h4 hq hk1)
  have HK1 := hid hk1
  have lq := blk_lt hq1
  clear hq1 h3 h4 hk1
  go_wp2_with fail
  clear c0 lq
  go_loopw [29] (fun s29 wx => ∃ (k nB : Nat) (B : Nat → Nat), k ≤ Ks.length ∧ s29 = .int .i64 k ∧ nB ≤ 1000 * k ∧ Hid (RQx w wx q f si 0 D B G N C (Ks.take k) nB)) (fun s29 _ => Ks.length - (intOf s29).toNat)
  case atStart => exact ⟨0, 0, fun _ => 0, by omega, rfl, by omega, hid ⟨_, _, _, _, _, _, HR.out⟩⟩
  case round =>
    obtain ⟨k, nB, B, hk, rfl, hnB, HRQ⟩ := hrel
    by_cases hlt : k < Ks.length
    · have hlt' : (k : Int) < (Ks.length : Int) := by omega
      have h0' : (0 : Int) ≤ (k : Int) := by omega
      have hmem : Ks[k] ∈ Ks := List.getElem_mem hlt
      have hkr : Kept [] w wr := by obtain ⟨X, sb', pp, vc, PL, vo, h⟩ := HRQ.out; exact h.kept
      have hcell := fun c v hv => (hkr.cell (p := ⟨cb, k * 9 + c, none⟩) HC.out.lt (by simp)).trans (HC.out.cell k hlt c v hv)
      have x0 := hcell 0 (.bool false) rfl
      have x1 := hcell 1 (.bool (D Ks[k]).bg) rfl
      have x2 := hcell 2 (.bool (D Ks[k]).en) rfl
      have x3 := hcell 3 (.bool false) rfl
      have x4 := hcell 4 (.int .u32 (D Ks[k]).tsn) rfl
      have x5 := hcell 5 (.int .u16 (D Ks[k]).si) rfl
      have x6 := hcell 6 (.int .u16 (D Ks[k]).ssn) rfl
      have x7 := hcell 7 (.int .u32 (D Ks[k]).ppi) rfl
      have x8 := hcell 8 (.slice (some ⟨G Ks[k], 0, none⟩) (N Ks[k]) (C Ks[k])) rfl
      rw [Nat.add_zero] at x0
      have lcr := Nat.lt_of_lt_of_le lc hkr.size
      have HMEM := hid hmem; have HKR := hid hkr
      have HPAY := hid (fun wx => zzPayload (D Ks[k]) (some ⟨G Ks[k], 0, none⟩) (N Ks[k]) (C Ks[k]) wx)
      unfold zzC at HPAY
      clear hcell hmem hkr
      go_wp2_with fail
      generalize hjd : Ks[k] = j at *
      have HJD := hid hjd
      clear hjd
      refine (HPAY.out _).mono ?_
      rintro e w3 ⟨rfl, hp, hk3⟩
      dsimp only
      have hkA : Kept [] wr w3 := ((Kept.refl [] wr).alloc _).trans hk3
      generalize hpb : (wr.alloc _).heap.size + 1 = pb at *
      have hpb' : wr.heap.size ≤ pb := by rw [← hpb, World.size_alloc]; omega
      have hjn : j ∉ Ks.take k := fun h => by
        obtain ⟨i, hi, hie⟩ := List.getElem_of_mem h
        rw [List.getElem_take] at hie
        rw [List.length_take] at hi
        have h2 : i = k := (List.getElem?_inj (by omega) HND.out).1 (by rw [List.getElem?_eq_getElem (by omega), List.getElem?_eq_getElem hlt, hie, HJD.out])
        omega
      have hR3 : RQx w w3 q f si 0 D (putAt B j pb) G N C (Ks.take k) nB := by
        obtain ⟨X, sb', pp, vc, PL, vo, h⟩ := HRQ.out
        exact ⟨X, sb', pp, vc, PL, vo, (h.kept' hkA).congr fun i hi => putAt_ne B pb (fun e => hjn (by rw [← e]; exact hi))⟩
      obtain ⟨hj1, hj2, hj3, hj4⟩ := HJ.out j HMEM.out
      have HPU := hid (push w w3 q f si j D (putAt B j pb) G N C (Ks.take k) nB hR3 ⟨by rw [putAt_same]; exact hp⟩ hj2 hj1 hjn (by rw [putAt_same]; exact Nat.le_trans HKR.out.size hpb') (HSI.out j HMEM.out) hj3
        (fun i hi hs => HFIT.out j HMEM.out i (List.mem_of_mem_take hi) (fun e => hjn (by rw [← e]; exact hi)) hs) (by omega) (by omega))
      rw [putAt_same] at HPU
      clear hp hk3 hkA hpb hpb' hjn hR3 hj1 hj2 hj3 hj4 HPAY x0 x1 x2 x3 x4 x5 x6 x7 x8
      go_wp2_with fail
      refine HPU.out.mono ?_
      rintro e w4 ⟨⟨b, rfl⟩, hR4⟩
      dsimp only
      have HR4 := hid hR4
      clear hR4 HPU
      go_wp2_with fail
      go_roundw
      case rel => exact ⟨k + 1, nB + N j, putAt B j pb, by omega, by go_num, by have := (HJ.out j HMEM.out).2.2.2; omega, hid (by rw [List.take_add_one, List.getElem?_eq_getElem hlt, HJD.out]; exact HR4.out)⟩
      case measure => simp [intOf]; omega
    · have hlt' : ¬ (k : Int) < (Ks.length : Int) := by omega
      have hkl : k = Ks.length := by omega
      subst hkl
      obtain ⟨X, sb', pp, vc, PL, vo, hRQ⟩ := HRQ.out
      rw [List.take_length] at hRQ
      obtain ⟨hXe, hwh⟩ := hRQ.whole HX.out HPS.out HPM.out HPP.out
      subst hXe
      have hrow := hRQ.row
      obtain ⟨gv, cv, hvo, hcv, -⟩ := own_some hrow (by simp; omega)
      rw [List.length_range] at hvo hcv
      subst hvo
      have hkw := hRQ.kept
      obtain ⟨g4, v60, v70, m10, m20, hqr⟩ := hRQ.cells
      have HRQW := hid hRQ; have HWH := hid hwh; have HKW := hid hkw
      have HST := hid (show Outs wr wr 0 n (.slice none 0 0) (.slice none 0 0) (fun _ => 0) T pf from ⟨World.ownsRow_nil _ _ _ _, World.ownsRow_nil _ _ _ _, fun x h => by omega⟩)
      have HRD := hid (show RD wr q si 0 n gv cv nB from ⟨0, fun _ => rfl, g4, v60, v70, m10, m20, hqr⟩)
      clear hRQ hwh hrow hkw hqr HRQ HR HK1
      go_wp2_with fail
      generalize hwb : wr = wb at *
      clear hwb
      go_loopw [10, 11, 40] (fun s10 s11 s40 wx => ∃ (i m : Nat) (bs : Nat → Nat), i ≤ n + 1 ∧ s40 = .int .i64 i ∧ m < 1000000 ∧ Hid (Kept [q] wb wx) ∧ Hid (RD wx q si (min i n) n gv cv m) ∧ Hid (Outs wb wx i n s10 s11 bs T pf)) (fun _ _ s40 _ => n + 1 - (intOf s40).toNat)
      case atStart => exact ⟨0, nB, fun _ => 0, by omega, rfl, by omega, hid (Kept.refl [q] wb), hid (by rw [Nat.zero_min]; exact HRD.out), HST⟩
      case round =>
        obtain ⟨i, m, bs, hi, rfl, hm, HK, HRDi, HO⟩ := hrel
        obtain ⟨Ao, Co, rfl⟩ := own_form HO.out.out
        obtain ⟨Ap, Cp, rfl⟩ := own_form HO.out.nums
        by_cases hlt : i < n + 1
        · have hlt' : (i : Int) < ((n + 1 : Nat) : Int) := by omega
          have hlt'' : (i : Int) < (n : Int) + 1 := by omega
          have h0' : (0 : Int) ≤ (i : Int) := by omega
          have csz0 := HS.out i hlt
          have hsbw := World.block_lt_of_cell? w _ csz0
          have hsbq : sb ≠ q := fun e => by have : sb < w.heap.size := hsbw; omega
          have csz := (HK.out.cell (p := ⟨sb, i, none⟩) (Nat.lt_of_lt_of_le hsbw HKW.out.size) (by simpa using hsbq)).trans ((HKW.out.cell (p := ⟨sb, i, none⟩) hsbw (by simp)).trans csz0)
          have lsb := World.block_lt_of_cell? wr _ csz
          have hmk := makeB 4096 4096 rfl (by omega) wr
          have hkA : Kept [] wr (wr.alloc (.cells (ba (List.replicate 4096 0)) 5)) := (Kept.refl [] wr).alloc _
          have hOB : OB (wr.alloc (.cells (ba (List.replicate 4096 0)) 5)) wr.heap.size (List.replicate 4096 0) := blk_new wr _
          have hRDA : RD (wr.alloc (.cells (ba (List.replicate 4096 0)) 5)) q si (min i n) n gv cv m := by
            obtain ⟨o, ho, g4, v60, v70, m10, m20, hqr⟩ := HRDi.out
            exact ⟨o, ho, g4, v60, v70, m10, m20, (hkA.block q (blk_lt hqr) (by simp)).trans hqr⟩
          have hqlt : q < wr.heap.size := by
            obtain ⟨o, ho, g4, v60, v70, m10, m20, hqr⟩ := HRDi.out
            exact blk_lt hqr
          have HKA := hid hkA
          obtain ⟨oq, hoq, gq4, vq6, vq7, mq1, mq2, hqr⟩ := HRDi.out
          have HQR := hid hqr
          clear hqr hoq
          clear csz0 hsbw hsbq hkA
          by_cases hin : i < n
          · have hPLi := HWH.out i hin
            rw [Nat.min_eq_left (by omega)] at hRDA
            have HREAD := hid (read w wb _ q f si i n gv cv wr.heap.size m nB D B G N C Ks sb' pp vc PL LS HRQW.out hin hcv ((HK.out).trans (HKA.out.more (by simp))) hRDA hOB HK.out.size (by rw [hPLi.1]; exact HFULL.out i hin)
              (fun j hj => by
                rw [hPLi.1] at hj
                obtain ⟨a1, a2⟩ := HL.out j ((HPM.out i hin j).1 hj).1
                exact ⟨a1, a2.kept HKW.out (by simp)⟩) (by rw [hPLi.1, (HT.out i hin).1]; exact (HT.out i hin).2) hm)
            rw [hPLi.1, (HT.out i hin).1, hPLi.2] at HREAD
            clear hOB hRDA hPLi
            go_wp2_with fail
            refine HREAD.out.mono ?_
            rintro e w4 ⟨rfl, hk4, ⟨m', hrd4, hm'⟩, cur, hob4, hcl, hct⟩
            dsimp only
            have HQ4 := hid (And.intro hrd4 hm'); have HOB4 := hid hob4; have HCC := hid (And.intro hcl hct)
            have hk4r : Kept [q] wr w4 := (((Kept.refl [q] wr).alloc _).thenNew hk4 (fun r hr => by
              simp only [List.mem_cons, List.mem_nil_iff, or_false] at hr
              rcases hr with rfl | rfl
              · exact .inl (by simp)
              · exact .inr (Nat.le_refl _)))
            have hO4 := HO.out.kept hk4r (fun g hg e => by
                have := own_far HO.out.out (HQR.out) (by decide)
                rw [List.mem_singleton.1 e] at hg; exact this (own_mem.2 hg)) (fun g hg e => by
                have := own_far HO.out.nums (HQR.out) (by decide)
                rw [List.mem_singleton.1 e] at hg; exact this (own_mem.2 hg)) (fun x hx hxn e => by
                obtain ⟨-, cur', hb', -⟩ := HO.out.text x hx hxn
                have hb'' := HQR.out
                unfold OB at hb'
                rw [List.mem_singleton.1 e, hb''] at hb'; simp at hb')
            have hT200 := (HT.out i hin).2
            have t1 : ((T i).length : Int) ≤ 4096 := by omega
            have t2 : (0 : Int) ≤ ((T i).length : Int) := by omega
            have hbase4 : wb.heap.size ≤ w4.heap.size := Nat.le_trans HK.out.size hk4r.size
            have hkA5 : Kept [] w4 (w4.alloc (.cells #[.slice (some ⟨wr.heap.size, 0, none⟩) (T i).length 4096] 39)) := (Kept.refl [] w4).alloc _
            obtain ⟨g6, p6, w6, hr6, ho6, hk6⟩ := appendOwnK 33 39 24 i 1 w4.heap.size 1 33 wb.heap.size (.slice none 0 0) (.slice Ao i Co) _ [.slice (some ⟨wr.heap.size, 0, none⟩) (T i).length 4096] (w4.alloc (.cells #[.slice (some ⟨wr.heap.size, 0, none⟩) (T i).length 4096] 39)) Tryz.underlying33 i28 rfl (by decide) (by omega) (by decide) (by decide)
              (ownsRow_kept hO4.out hkA5 (by simp)) (by have := hkA5.size; omega) rfl (by intro u hu; simp at hu; subst hu; rfl) (blk_new w4 _)
            have hk46 : Kept (own (.slice Ao i Co)) w4 w6 := (hkA5.more (by simp)).trans hk6
            have hkA7 : Kept [] w6 (w6.alloc (.cells #[.int .u32 (pf i : Nat)] 22)) := (Kept.refl [] w6).alloc _
            have hnum6 := ownsRow_kept hO4.nums hk46 (own_apart hO4.nums hO4.out (by decide))
            obtain ⟨g8, p8, w8, hr8, ho8, hk8⟩ := appendOwnK 35 22 4 i 1 w6.heap.size 1 35 wb.heap.size (.int .u32 0) (.slice Ap i Cp) _ [.int .u32 (pf i : Nat)] (w6.alloc (.cells #[.int .u32 (pf i : Nat)] 22)) Tryz.underlying35 i22 rfl (by decide) (by omega) (by decide) (by decide)
              (ownsRow_kept hnum6 hkA7 (by simp)) (by have := hkA7.size; have := hk46.size; omega) rfl (by intro u hu; simp at hu; subst hu; rfl) (blk_new w6 _)
            have hk68 : Kept (own (.slice Ap i Cp)) w6 w8 := (hkA7.more (by simp)).trans hk8
            have HH := hid (And.intro hk4r (And.intro hO4 (And.intro hk46 (And.intro hk68 (And.intro ho6 ho8)))))
            clear hrd4 hob4 hcl hct hk4 hk4r hO4 hbase4 hkA5 ho6 hk6 hk46 hkA7 hnum6 ho8 hk8 hk68 hT200 HREAD
            go_wp2_with (at_builtin; first | (refine wpList_append_run rfl _ _ 33 rfl _ _ _ rfl rfl hr6 ?_) | (refine wpList_append_run rfl _ _ 35 rfl _ _ _ rfl rfl hr8 ?_))
            go_roundw
            case rel =>
              obtain ⟨hk4r, hO4, hk46, hk68, ho6, ho8⟩ := HH.out
              have hq6 : q ∉ own (Value.slice Ao i Co) := own_far HO.out.out HQR.out (by decide)
              have hq8 : q ∉ own (Value.slice Ap i Cp) := own_far HO.out.nums HQR.out (by decide)
              refine ⟨i + 1, m', putAt bs i wr.heap.size, by omega, by go_num, HQ4.out.2, hid ?_, hid ?_, hid ?_⟩
              · exact ((HK.out.trans hk4r).thenNew hk46 (fun r hr => .inr (own_ge HO.out.out hr))).thenNew hk68 (fun r hr => .inr (own_ge HO.out.nums hr))
              · rw [Nat.min_eq_left (by omega)]
                exact (HQ4.out.1.kept hk46 hq6).kept hk68 hq8
              · exact hO4.snoc hk46 hk68 ho6 ho8 (fun x hx => putAt_ne _ _ (by omega)) (by rw [if_pos hin, putAt_same]) (by rw [if_pos hin]) (fun _ => by
                  rw [putAt_same]; exact ⟨HK.out.size, cur, HOB4.out, HCC.out.1, HCC.out.2⟩)
            case measure => simp [intOf]; omega

          · have hni : i = n := by omega
            subst hni
            rw [Nat.min_self] at hRDA
            have HRDA := hid hRDA
            have hgt := (HKA.out.cell (p := ⟨0, 0, none⟩) (Nat.lt_of_lt_of_le lgt (Nat.le_trans HKW.out.size HK.out.size)) (by simp)).trans ((HK.out.cell (p := ⟨0, 0, none⟩) (Nat.lt_of_lt_of_le lgt HKW.out.size) (by simp; omega)).trans ((HKW.out.cell (p := ⟨0, 0, none⟩) lgt (by simp)).trans HGT.out))
            have HNONE := hid (readNone _ q si i gv cv m tt (.slice (some ⟨wr.heap.size, 0, none⟩) 4096 4096) ev HRDA.out hgt)
            clear hOB hRDA hgt
            go_wp2_with fail
            refine HNONE.out.mono ?_
            rintro e w4 ⟨rfl, hk4⟩
            dsimp only
            have hk4r : Kept [] wr w4 := ((Kept.refl [] wr).alloc _).trans hk4
            have hO4 := HO.out.kept hk4r (by simp) (by simp) (by simp)
            have hbase4 : wb.heap.size ≤ w4.heap.size := Nat.le_trans HK.out.size hk4r.size
            have hkA5 : Kept [] w4 (w4.alloc (.cells #[.slice none 0 0] 39)) := (Kept.refl [] w4).alloc _
            obtain ⟨g6, p6, w6, hr6, ho6, hk6⟩ := appendOwnK 33 39 24 i 1 w4.heap.size 1 33 wb.heap.size (.slice none 0 0) (.slice Ao i Co) _ [.slice none 0 0] (w4.alloc (.cells #[.slice none 0 0] 39)) Tryz.underlying33 i28 rfl (by decide) (by omega) (by decide) (by decide)
              (ownsRow_kept hO4.out hkA5 (by simp)) (by have := hkA5.size; omega) rfl (by intro u hu; simp at hu; subst hu; rfl) (blk_new w4 _)
            have hk46 : Kept (own (.slice Ao i Co)) w4 w6 := (hkA5.more (by simp)).trans hk6
            have hkA7 : Kept [] w6 (w6.alloc (.cells #[.int .u32 ((0 : Nat) : Int)] 22)) := (Kept.refl [] w6).alloc _
            have hnum6 := ownsRow_kept hO4.nums hk46 (own_apart hO4.nums hO4.out (by decide))
            obtain ⟨g8, p8, w8, hr8, ho8, hk8⟩ := appendOwnK 35 22 4 i 1 w6.heap.size 1 35 wb.heap.size (.int .u32 0) (.slice Ap i Cp) _ [.int .u32 ((0 : Nat) : Int)] (w6.alloc (.cells #[.int .u32 ((0 : Nat) : Int)] 22)) Tryz.underlying35 i22 rfl (by decide) (by omega) (by decide) (by decide)
              (ownsRow_kept hnum6 hkA7 (by simp)) (by have := hkA7.size; have := hk46.size; omega) rfl (by intro u hu; simp at hu; subst hu; rfl) (blk_new w6 _)
            have hk68 : Kept (own (.slice Ap i Cp)) w6 w8 := (hkA7.more (by simp)).trans hk8
            have HH := hid (And.intro hk4r (And.intro hO4 (And.intro hk46 (And.intro hk68 (And.intro ho6 ho8)))))
            clear hk4 hk4r hO4 hbase4 hkA5 ho6 hk6 hk46 hkA7 hnum6 ho8 hk8 hk68 HNONE
            simp only [Int.natCast_zero] at hr8
            go_wp2_with (at_builtin; first | (refine wpList_append_run rfl _ _ 33 rfl _ _ _ rfl rfl hr6 ?_) | (refine wpList_append_run rfl _ _ 35 rfl _ _ _ rfl rfl hr8 ?_))
            go_roundw
            case rel =>
              obtain ⟨hk4r, hO4, hk46, hk68, ho6, ho8⟩ := HH.out
              have hq6 : q ∉ own (Value.slice Ao i Co) := own_far HO.out.out HQR.out (by decide)
              have hq8 : q ∉ own (Value.slice Ap i Cp) := own_far HO.out.nums HQR.out (by decide)
              refine ⟨i + 1, m, bs, by omega, by go_num, hm, hid ?_, hid ?_, hid ?_⟩
              · exact ((HK.out.trans (hk4r.more (by simp))).thenNew hk46 (fun r hr => .inr (own_ge HO.out.out hr))).thenNew hk68 (fun r hr => .inr (own_ge HO.out.nums hr))
              · rw [Nat.min_eq_right (by omega)]
                have h1 := HRDi.out
                rw [Nat.min_self] at h1
                exact ((h1.kept hk4r (by simp)).kept hk46 hq6).kept hk68 hq8
              · exact hO4.snoc (p := 0) hk46 hk68 ho6 ho8 (fun x hx => rfl) (by rw [if_neg (by omega)]) (by rw [if_neg (by omega)]) (fun h => by omega)
            case measure => simp [intOf]
        · have hlt' : ¬ (i : Int) < ((n + 1 : Nat) : Int) := by omega
          have hlt'' : ¬ (i : Int) < (n : Int) + 1 := by omega
          go_wp2_with fail
          go_ret2
          have hin1 : i = n + 1 := by omega
          subst hin1
          exact ⟨⟨_, _, bs, rfl, HO.out.base HKW.out.size⟩, HKW.out.thenNew HK.out (fun r hr => .inr (by rw [List.mem_singleton.1 hr]; exact hq))⟩
end Go.Proofs.Base
end
section
namespace Go.Proofs.Base
open Go Go.Proofs Go.RowKit Go.Proofs.Gaps
set_option maxRecDepth 100000
set_option maxRecDepth 100000 in
set_option maxHeartbeats 1000000 in
theorem dataOf' (d : Pd) (ub uo n ucap : Nat) (l : List Nat) (w : World) (hd : d.ok) (hl : BytesAt w ub uo l) (hn : l.length = n) (hp : 0 < n) (hm : n < 50000) :
    Calls Tryz.prog 19 #[.agg (dC d (.slice (some ⟨ub, uo, none⟩) n ucap))] w fun e w' => ∃ g cap', n ≤ cap' ∧ w.heap.size ≤ g ∧ cap' ≤ maxLen ∧ e = .returned (.agg (zzC d (.slice (some ⟨g, 0, none⟩) n cap'))) ∧ BB w' g l ∧ Kept [] w w' := by
  have hub := hl.lt
  obtain ⟨hd1, hd2, hd3, hd4⟩ := hd
  have HN := hid hn; clear hn
  unfold dC
  go_enter Tryz.func19, Tryz.ntmps19
  go_wp2_with fail
  generalize hW : World.alloc _ _ = w1
  have hA : w1.heap[w.heap.size]? = some (.cells (dC d (.slice (some ⟨ub, uo, none⟩) n ucap)) 41 (0, 0)) := by rw [← hW]; exact blk_alloc _ (blk_new w _)
  have hZ : w1.heap[w.heap.size + 1]? = some (.cells #[.bool false, .bool false, .bool false, .bool false, .int .u32 0, .int .u16 0, .int .u16 0, .int .u32 0, .slice none 0 0] 68 (0, 0)) := by rw [← hW]; have h := blk_new (w.alloc (.cells (dC d (.slice (some ⟨ub, uo, none⟩) n ucap)) 41)) (.cells #[.bool false, .bool false, .bool false, .bool false, .int .u32 0, .int .u16 0, .int .u16 0, .int .u32 0, .slice none 0 0] 68); simp only [World.size_alloc] at h; exact h
  have hk1 : Kept [] w w1 := by rw [← hW]; exact ((Kept.refl [] w).alloc _).alloc _
  have hsz : w1.heap.size = w.heap.size + 2 := by rw [← hW]; simp
  clear hW
  generalize hB : w.heap.size = B at *
  have HB := hid hB; clear hB
  have c0 : w1.cell? ⟨B, 0, none⟩ = some (.bool false) := blk_cell hA rfl
  have c1 : w1.cell? ⟨B, 1, none⟩ = some (.bool d.bg) := blk_cell hA rfl
  have c2 : w1.cell? ⟨B, 2, none⟩ = some (.bool d.en) := blk_cell hA rfl
  have c3 : w1.cell? ⟨B, 3, none⟩ = some (.bool false) := blk_cell hA rfl
  have c4 : w1.cell? ⟨B, 4, none⟩ = some (.int .u32 d.tsn) := blk_cell hA rfl
  have c5 : w1.cell? ⟨B, 5, none⟩ = some (.int .i64 d.si) := blk_cell hA rfl
  have c6 : w1.cell? ⟨B, 6, none⟩ = some (.int .i64 d.ssn) := blk_cell hA rfl
  have c7 : w1.cell? ⟨B, 7, none⟩ = some (.int .u32 d.ppi) := blk_cell hA rfl
  have c8 : w1.cell? ⟨B, 8, none⟩ = some (.slice (some ⟨ub, uo, none⟩) n ucap) := blk_cell hA rfl
  have HA := hid hA
  have HZ := hid hZ
  clear hA hZ
  have m1 : IntKind.u16.wrap (d.si : Int) = d.si := by rw [IntKind.wrap_u16]; omega
  have m2 : IntKind.u16.wrap (d.ssn : Int) = d.ssn := by rw [IntKind.wrap_u16]; omega
  go_region_held3 (fun w' => w'.cell? ⟨B, 0, none⟩ = some (.bool false) ∧ w'.cell? ⟨B, 1, none⟩ = some (.bool d.bg) ∧ w'.cell? ⟨B, 2, none⟩ = some (.bool d.en) ∧ w'.cell? ⟨B, 3, none⟩ = some (.bool false) ∧ w'.cell? ⟨B, 4, none⟩ = some (.int .u32 d.tsn) ∧ w'.cell? ⟨B, 5, none⟩ = some (.int .i64 d.si) ∧ w'.cell? ⟨B, 6, none⟩ = some (.int .i64 d.ssn) ∧ w'.cell? ⟨B, 7, none⟩ = some (.int .u32 d.ppi) ∧ w'.cell? ⟨B, 8, none⟩ = some (.slice (some ⟨ub, uo, none⟩) n ucap))
    (first | go_keep | (go_split_ands; refine ⟨?_, ?_, ?_, ?_, ?_, ?_, ?_, ?_, ?_⟩ <;> exact blk_cell hAc.out rfl))
    ((go_at_call 21; refine (copied' ub uo n ucap l w1.drew ((hl.kept hk1 (by simp)).kept ((Kept.refl [] w1).drew) (by simp)) HN.out hp (by omega)).mono ?_; rintro e wc ⟨g, cap', hg, hcap, hcm, rfl, hby, hkc⟩; have hkw := ((Kept.refl [] w1).drew).trans hkc; have hZc := (hkw.block (B + 1) (blk_lt HZ.out) (by simp)).trans HZ.out; have hAc := hid ((hkw.block B (blk_lt HA.out) (by simp)).trans HA.out); have e0 : wc.cell? ⟨B + 1, 0, none⟩ = some (.bool false) := blk_cell hZc rfl; have e1 : wc.cell? ⟨B + 1, 1, none⟩ = some (.bool false) := blk_cell hZc rfl; have e2 : wc.cell? ⟨B + 1, 2, none⟩ = some (.bool false) := blk_cell hZc rfl; have e3 : wc.cell? ⟨B + 1, 3, none⟩ = some (.bool false) := blk_cell hZc rfl; have e4 : wc.cell? ⟨B + 1, 4, none⟩ = some (.int .u32 0) := blk_cell hZc rfl; have e5 : wc.cell? ⟨B + 1, 5, none⟩ = some (.int .u16 0) := blk_cell hZc rfl; have e6 : wc.cell? ⟨B + 1, 6, none⟩ = some (.int .u16 0) := blk_cell hZc rfl; have e7 : wc.cell? ⟨B + 1, 7, none⟩ = some (.int .u32 0) := blk_cell hZc rfl; have e8 : wc.cell? ⟨B + 1, 8, none⟩ = some (.slice none 0 0) := blk_cell hZc rfl; have f0 : wc.frozen? ⟨B + 1, 0, none⟩ = false := blk_free hZc; have f1 : wc.frozen? ⟨B + 1, 1, none⟩ = false := blk_free hZc; have f2 : wc.frozen? ⟨B + 1, 2, none⟩ = false := blk_free hZc; have f3 : wc.frozen? ⟨B + 1, 3, none⟩ = false := blk_free hZc; have f4 : wc.frozen? ⟨B + 1, 4, none⟩ = false := blk_free hZc; have f5 : wc.frozen? ⟨B + 1, 5, none⟩ = false := blk_free hZc; have f6 : wc.frozen? ⟨B + 1, 6, none⟩ = false := blk_free hZc; have f7 : wc.frozen? ⟨B + 1, 7, none⟩ = false := blk_free hZc; have f8 : wc.frozen? ⟨B + 1, 8, none⟩ = false := blk_free hZc; have Hby := hid hby; have lB := blk_lt hZc; have HZc := hid hZc; clear hZc hby))
  go_wp2_with fail
  have hbl := (blk_setCell (i := 8) (.slice (some ⟨g, 0, none⟩) n cap') (blk_setCell (i := 7) (.int .u32 d.ppi) (blk_setCell (i := 6) (.int .u16 d.ssn) (blk_setCell (i := 5) (.int .u16 d.si) (blk_setCell (i := 4) (.int .u32 d.tsn) (blk_setCell (i := 3) (.bool false) (blk_setCell (i := 2) (.bool d.en) (blk_setCell (i := 1) (.bool d.bg) (blk_setCell (i := 0) (.bool false) HZc.out)))))))))
  have hkk := ((((((((((hk1.trans hkw).setCell (p := ⟨B + 1, 0, none⟩) (.bool false) (.inr (by show _ ≤ B + 1; rw [HB.out]; omega))).setCell (p := ⟨B + 1, 1, none⟩) (.bool d.bg) (.inr (by show _ ≤ B + 1; rw [HB.out]; omega))).setCell (p := ⟨B + 1, 2, none⟩) (.bool d.en) (.inr (by show _ ≤ B + 1; rw [HB.out]; omega))).setCell (p := ⟨B + 1, 3, none⟩) (.bool false) (.inr (by show _ ≤ B + 1; rw [HB.out]; omega))).setCell (p := ⟨B + 1, 4, none⟩) (.int .u32 d.tsn) (.inr (by show _ ≤ B + 1; rw [HB.out]; omega))).setCell (p := ⟨B + 1, 5, none⟩) (.int .u16 d.si) (.inr (by show _ ≤ B + 1; rw [HB.out]; omega))).setCell (p := ⟨B + 1, 6, none⟩) (.int .u16 d.ssn) (.inr (by show _ ≤ B + 1; rw [HB.out]; omega))).setCell (p := ⟨B + 1, 7, none⟩) (.int .u32 d.ppi) (.inr (by show _ ≤ B + 1; rw [HB.out]; omega))).setCell (p := ⟨B + 1, 8, none⟩) (.slice (some ⟨g, 0, none⟩) n cap') (.inr (by show _ ≤ B + 1; rw [HB.out]; omega)))
  have hyy := ((((((((((Kept.refl [B + 1] wc).setCell (p := ⟨B + 1, 0, none⟩) (.bool false) (.inl (by simp))).setCell (p := ⟨B + 1, 1, none⟩) (.bool d.bg) (.inl (by simp))).setCell (p := ⟨B + 1, 2, none⟩) (.bool d.en) (.inl (by simp))).setCell (p := ⟨B + 1, 3, none⟩) (.bool false) (.inl (by simp))).setCell (p := ⟨B + 1, 4, none⟩) (.int .u32 d.tsn) (.inl (by simp))).setCell (p := ⟨B + 1, 5, none⟩) (.int .u16 d.si) (.inl (by simp))).setCell (p := ⟨B + 1, 6, none⟩) (.int .u16 d.ssn) (.inl (by simp))).setCell (p := ⟨B + 1, 7, none⟩) (.int .u32 d.ppi) (.inl (by simp))).setCell (p := ⟨B + 1, 8, none⟩) (.slice (some ⟨g, 0, none⟩) n cap') (.inl (by simp)))
  refine bodyPost_ret (v := .agg (zzC d (.slice (some ⟨g, 0, none⟩) n cap'))) (results_cell rfl rfl (run_loadVar_blk Tryz.underlying68 size75 hbl)) rfl ⟨g, cap', hcap, by have h1 : w1.heap.size ≤ g := hg; have h2 := HB.out; omega, hcm, rfl, Hby.out.kept hyy ?_, hkk⟩
  have hg2 : w1.heap.size ≤ g := hg
  simp; omega
end Go.Proofs.Base
end
