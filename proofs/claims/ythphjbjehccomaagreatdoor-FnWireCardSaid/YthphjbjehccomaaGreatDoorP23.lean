/- A part of the proof, step P23: what the code and the plain laws of this step give. Made by AI agents; no person has read it. -/
import Derived.Test.YthphjbjehccomaaGreatDoorP22
import Derived.Deep.Cut
import Derived.Deep.CutRange
import Derived.Deep.RegionLaw
namespace Go.Proofs.Base
open Go Go.Proofs Go.RowKit Go.MapKept
set_option maxRecDepth 100000
def u32s (l : List Nat) : List Value := l.map fun x : Nat => Value.int .u32 (x : Int)
theorem i22 : (Tryz.prog.info? 22).map (fun i => (i.zero, i.size, i.bytes)) = some (some (.int .u32 0), 1, 4) := by kernel_rfl
theorem i32 : (Tryz.prog.info? 41).map (fun i => (i.zero, i.size, i.bytes)) = some (some (.agg zero32), 9, 56) := by kernel_rfl
/-- append of one element to a row of the call's own. -/
theorem appendOwnOne (t e sz by' n b c ty base : Nat) (z v : Value) (xs : List Value) (cs : Array Value) (w : World) (ht : Tryz.prog.underlying t = some (.slice e)) (hi : (Tryz.prog.info? e).map (fun i => (i.zero, i.size, i.bytes)) = some (some z, sz, by')) (hz : z.cells.size = sz)
    (hsz : 0 < sz) (hb : by' ≤ 1000) (hn : n ≤ 1000000) (hown : w.ownsRow base e sz v n xs) (hbase : base ≤ w.heap.size) (hcs : cs.size = sz) (h1 : ∀ u ∈ cs.toList, u.oneCell' = true) (hx : w.heap[b]? = some (.cells cs e (0, 0))) :
    ∃ g cap' w', (Builtin.append_ #[t, t] ty #[v, .slice (some ⟨b, 0, none⟩) 1 c]).run Tryz.prog w = .ok (.slice (some ⟨g, 0, none⟩) (n + 1) cap') w' ∧ w'.ownsRow base e sz (.slice (some ⟨g, 0, none⟩) (n + 1) cap') (n + 1) (xs ++ cs.toList) ∧ w.grownBy w' v.ownBlock := by
  obtain ⟨i, hi, hz', hs, hby⟩ := info_parts hi
  obtain ⟨v', w', hr, hown', hgr, hnil⟩ := run_append_own (P := Tryz.prog) w base t ty e i z sz by' ht hi hz' hs hby hz hsz v n xs hown ⟨b, 0, none⟩ 1 c cs.toList (by simpa using hcs)
    (fun j u hu => by rw [addr_add, Nat.zero_add]; exact blk_cell hx (by simpa using hu)) h1 (by unfold maxLen; omega) (by
      have h1 : (n + 1) * by' ≤ 1000001 * 1000 := Nat.mul_le_mul (by omega) hb
      omega) hbase
  rcases hown'.2 with ⟨rfl, h0⟩ | ⟨g, cap', cur, rfl, k1, k2, k3, k4, k5, k6⟩
  · exact absurd (hnil.1 rfl).2 (by simp)
  · exact ⟨g, cap', w', hr, hown', hgr⟩
theorem ownsRow_kept {w w' : World} {base e sz n : Nat} {v : Value} {xs : List Value} {S : List Nat} (h : w.ownsRow base e sz v n xs) (k : Kept S w w') (hS : ∀ g, v.ownBlock = some g → g ∉ S) : w'.ownsRow base e sz v n xs := by
  refine ⟨h.1, ?_⟩
  rcases h.2 with h2 | ⟨g, cap, cur, rfl, k1, k2, k3⟩
  · exact .inl h2
  · exact .inr ⟨g, cap, cur, rfl, k1, (k.block g (blk_lt k2) (hS g rfl)).trans k2, k3⟩
def sideC (first : Nat) (vn : Value) (m : Nat) (vp : Value) : Array Value := #[.int .u32 first, vn, .map (some m), vp]
def own (v : Value) : List Nat := v.ownBlock.toList
theorem u32s_snoc (l : List Nat) (x : Nat) : u32s (l ++ [x]) = u32s l ++ #[Value.int .u32 (x : Int)].toList := by simp [u32s]
theorem own_mem {v : Value} {g : Nat} : g ∈ own v ↔ v.ownBlock = some g := by simp [own, eq_comm]
theorem dC_one (d : Pd) (u : Value) (hu : u.oneCell' = true) : ∀ v ∈ (dC d u).toList, v.oneCell' = true := by
  intro v hv
  simp [dC] at hv
  rcases hv with h | h | h | h | h | h | h | h <;> first | (subst h; rfl) | (rcases h with h | h <;> subst h <;> first | rfl | exact hu)
theorem ownBlock_cells {w : World} {base e sz n : Nat} {v : Value} {xs : List Value} (h : w.ownsRow base e sz v n xs) {g : Nat} (hg : g ∈ own v) : ∃ cur, w.heap[g]? = some (.cells cur e (0, 0)) := by
  rw [own_mem] at hg
  rcases h.2 with ⟨rfl, _⟩ | ⟨g', cap, cur, rfl, k1, k2, k3⟩
  · cases hg
  · cases hg; exact ⟨cur, k2⟩
theorem own_far {w : World} {base e sz n : Nat} {v : Value} {xs : List Value} (h : w.ownsRow base e sz v n xs) {g e' : Nat} {cs : Array Value} {fr : Nat × Nat} (hg : w.heap[g]? = some (.cells cs e' fr)) (hne : e' ≠ e) : g ∉ own v := by
  intro hm
  obtain ⟨cur, hc⟩ := ownBlock_cells h hm
  rw [hg] at hc; cases hc; exact hne rfl
theorem own_far_map {w : World} {base e sz n : Nat} {v : Value} {xs : List Value} (h : w.ownsRow base e sz v n xs) {g k : Nat} {es : Array MapEntry} (hg : w.heap[g]? = some (.map es k)) : g ∉ own v := by
  intro hm
  obtain ⟨cur, hc⟩ := ownBlock_cells h hm
  rw [hg] at hc; cases hc
theorem own_apart {w : World} {base e sz n base' e' sz' n' : Nat} {v v' : Value} {xs xs' : List Value} (h : w.ownsRow base e sz v n xs) (h' : w.ownsRow base' e' sz' v' n' xs') (hne : e ≠ e') : ∀ g, v.ownBlock = some g → g ∉ own v' := by
  intro g hg
  obtain ⟨cur, hc⟩ := ownBlock_cells h (own_mem.2 hg)
  exact own_far h' hc hne
theorem own_lt {w : World} {base e sz n : Nat} {v : Value} {xs : List Value} (h : w.ownsRow base e sz v n xs) {g : Nat} (hg : g ∈ own v) : g < w.heap.size := by
  obtain ⟨cur, hc⟩ := ownBlock_cells h hg
  exact blk_lt hc
set_option linter.unusedSimpArgs false in
set_option maxRecDepth 100000 in
set_option maxHeartbeats 4000000 in
theorem comes_ok {bit : Int} (s m first b o n cap N base np : Nat) (vn vp : Value) (nums keys : List Nat) (ps : List Value) (d : Pd) (l R : List Nat) (w : World) (hd : d.ok) (hRn : R.length = N) (h0 : 0 < N) (hN : N < 100000) (hP : Packs N 5000 5001 7 (16 + n) R (dataBytes d l))
    (hl : BytesAt w b o R) (hn : l.length = n) (hp : 0 < n) (hm : n < 40000) (hls : ∀ x ∈ l, x < 256)
    (hs : w.heap[s]? = some (.cells (sideC first vn m vp) 38 (0, 0))) (hmap : w.heap[m]? = some (.map (metE keys) keys.length)) (hvn : w.ownsRow base 22 1 vn nums.length (u32s nums)) (hvp : w.ownsRow base 41 9 vp np ps)
    (hbase : base ≤ w.heap.size) (hnn : nums.length < 100000) (hnp : np < 100000) :
    Calls Tryz.prog 16 #[.pointer (some ⟨s, 0, none⟩), .slice (some ⟨b, o, none⟩) N cap, .bool false, .int .i64 bit] w fun e w' => e = .returned (.bool true) ∧ ∃ vn' vp' g cap',
      w'.heap[s]? = some (.cells (sideC first vn' m vp') 38 (0, 0)) ∧ w'.ownsRow base 22 1 vn' (nums.length + 1) (u32s (nums ++ [d.tsn])) ∧
      (d.tsn ∈ keys → w'.heap[m]? = some (.map (metE keys) keys.length) ∧ vp' = vp ∧ w'.ownsRow base 41 9 vp' np ps) ∧
      (d.tsn ∉ keys → w'.heap[m]? = some (.map (metE (keys ++ [d.tsn])) (keys ++ [d.tsn]).length) ∧ w'.ownsRow base 41 9 vp' (np + 1) (ps ++ (dC d (.slice (some ⟨g, 0, none⟩) n cap')).toList)) ∧
      BB w' g l ∧ n ≤ cap' ∧ cap' ≤ maxLen ∧ w.heap.size ≤ g ∧ Kept (s :: m :: (own vn ++ own vp)) w w' := by
  have lb := hl.lt
  have H1 := hid (chunk_ok b o N cap (16 + n) R (dataBytes d l) w hP hl hRn h0 hN (small_dataBytes d l hd hls (by omega)) (by rw [len_dataBytes, hn]) (by omega) (by omega))
  have HD := hid hd
  have HVN := hid hvn; have HVP := hid hvp; have HS := hid hs; have HMAP := hid hmap
  clear hP hd hvn hvp hs hmap hl
  go_enter Tryz.func16, Tryz.ntmps16
  go_wp2_with fail
  refine H1.out.mono ?_
  rintro e w1 ⟨B1, cap1, rfl, hb1, hc1, hc1', hB1, hk1⟩
  have H2 := hid (DataOf B1 0 n cap1 d l w1 HD.out hb1 hn hp hm)
  go_wp2_with fail
  refine H2.out.mono ?_
  rintro e w2 ⟨g2, cap2, rfl, hb2, hc2, hc2', hg2, hk2⟩
  have hk2w := hk1.trans hk2
  have hs1 := hk1.size
  clear H1 H2 hb1 hk1 hk2
  unfold dC
  go_wp2_with fail
  generalize hW : World.alloc _ _ = w3
  have hD3 : w3.heap[w2.heap.size]? = some (.cells (dC d (.slice (some ⟨g2, 0, none⟩) n cap2)) 41 (0, 0)) := by rw [← hW]; exact blk_new w2 _
  have hk23 : Kept [] w2 w3 := by rw [← hW]; exact (Kept.refl [] w2).alloc _
  clear hW
  have hk3 := hk2w.trans hk23
  have hD : w.heap.size ≤ w2.heap.size := hk2w.size
  generalize hDe : w2.heap.size = D at *
  have hS3 := (hk3.block s (blk_lt HS.out) (by simp)).trans HS.out
  have ls := blk_lt HS.out
  have lm := blk_lt HMAP.out
  have c30 : w3.cell? ⟨s, 1, none⟩ = some vn := blk_cell hS3 rfl
  have c31 : w3.cell? ⟨D, 4, none⟩ = some (.int .u32 d.tsn) := blk_cell hD3 rfl
  have ls3 := blk_lt hS3
  have lD3 := blk_lt hD3
  have hne1 : s ≠ D := by omega
  have hne2 : D ≠ s := by omega
  have hvn3 := ownsRow_kept HVN.out hk3 (by simp)
  have hk3d : Kept [] w3 (w3.drew.alloc (.cells #[.int .u32 d.tsn] 22)) := ((Kept.refl [] w3).drew).alloc _
  obtain ⟨g4, cap4, w4, hr4, ho4, hgr4⟩ := appendOwnOne 35 22 1 4 nums.length w3.heap.size 1 35 base (.int .u32 0) vn (u32s nums) #[.int .u32 d.tsn] (w3.drew.alloc (.cells #[.int .u32 d.tsn] 22)) Tryz.underlying35 i22 rfl (by omega) (by omega) (by omega) (ownsRow_kept hvn3 hk3d (by simp)) (Nat.le_trans hbase (hk3.trans hk3d).size) rfl (by intro u hu; simp at hu; subst hu; rfl) (blk_new w3.drew _)
  have hgk4 : Kept (own vn) (w3.drew.alloc (.cells #[.int .u32 d.tsn] 22)) w4 := grown_kept hgr4 (by intro k hk; rw [own_mem]; exact hk)
  have hk34 : Kept (own vn) w3 w4 := (hk3d.more (by simp)).trans hgk4
  have hs4 : s ∉ own vn := own_far hvn3 hS3 (by decide)
  have hD4 : D ∉ own vn := own_far hvn3 hD3 (by decide)
  have hM3 := (hk3.block m lm (by simp)).trans HMAP.out
  have hm4 : m ∉ own vn := own_far_map hvn3 hM3
  have hvp3 := ownsRow_kept HVP.out hk3 (by simp)
  have hp4 := own_apart hvp3 hvn3 (by decide)
  have hS4 := (hk34.block s ls3 hs4).trans hS3
  have c40 : w4.cell? ⟨s, 1, none⟩ = some vn := blk_cell hS4 rfl
  have c41 : w4.cell? ⟨D, 4, none⟩ = some (.int .u32 d.tsn) := blk_cell ((hk34.block D lD3 hD4).trans hD3) rfl
  have f40 : w4.frozen? ⟨s, 1, none⟩ = false := blk_free hS4
  have ls4 := blk_lt hS4
  have HS4 := hid hS4
  have HVN3 := hid hvn3; have HVP3 := hid hvp3; have HO4 := hid ho4; have HM3 := hid hM3; have HS3 := hid hS3; have HD3 := hid hD3
  clear hS4 hvn3 hvp3 ho4 hM3 hS3 hD3 hgr4
  go_cut [] from 57 to 67 (fun wx => wx = w4.setCell ⟨s, 1, none⟩ (.slice (some ⟨g4, 0, none⟩) (nums.length + 1) cap4))
  case first =>
    go_region_law (refine step_append_run rfl _ _ 35 rfl _ _ _ rfl rfl hr4 ?_)
    all_goals (go_wp2_with fail; go_meet; exact rfl)
  have HCUT := hid hcut
  have hk4c : Kept [s] w4 wc := by rw [hcut]; exact (Kept.refl [s] w4).setCell _ (.inl (by simp))
  have hS5 : wc.heap[s]? = some (.cells (sideC first (.slice (some ⟨g4, 0, none⟩) (nums.length + 1) cap4) m vp) 38 (0, 0)) := by rw [hcut, blk_setCell _ HS4.out]; rfl
  have HS4w := HS4
  clear hcut HCUT c30 c31 c40 c41 f40 hr4
  have hM5 := (hk4c.block m (Nat.lt_of_lt_of_le (blk_lt HM3.out) hk34.size) (by simp; intro e; subst e; have h := HS3.out; rw [HM3.out] at h; cases h)).trans ((hk34.block m (blk_lt HM3.out) hm4).trans HM3.out)
  have hD5 := (hk4c.block D (Nat.lt_of_lt_of_le lD3 hk34.size) (by simpa using hne2)).trans ((hk34.block D lD3 hD4).trans HD3.out)
  have c50 : wc.cell? ⟨s, 2, none⟩ = some (.map (some m)) := blk_cell hS5 rfl
  have c51 : wc.cell? ⟨D, 4, none⟩ = some (.int .u32 d.tsn) := blk_cell hD5 rfl
  have hgn : g2 ∉ own vn := fun h => by have := own_lt HVN.out h; omega
  have hb4 : BB w4 g2 l := (hb2.kept hk23 (by simp)).kept hk34 hgn
  have hkc : Kept (s :: m :: (own vn ++ own vp)) w wc := ((hk3.more (by simp)).trans (hk34.more (by intro r hr; left; simp [hr]))).trans (hk4c.more (by simp))
  have hlk := lookMet keys m d.tsn wc.drew hM5
  go_wp2_with fail
  go_still_tail 6, (by kernel_rfl)
  change wpList _ _ _ _ _ wc.drew
  by_cases hin : d.tsn ∈ keys
  · rw [decide_eq_true hin] at hlk
    go_wp2_with fail
    go_ret
    have hcw : Kept [] wc wc.drew := (Kept.refl [] wc).drew
    refine ⟨rfl, .slice (some ⟨g4, 0, none⟩) (nums.length + 1) cap4, vp, g2, cap2, hS5, ?_, fun _ => ⟨hM5, rfl, ?_⟩, fun h => absurd hin h, ?_, hc2, hc2', by have := hk2w.size; omega, ?_⟩
    · rw [u32s_snoc]
      exact ownsRow_kept (ownsRow_kept HO4.out hk4c (by intro g hg; simp; intro e; subst e; exact own_far HO4.out HS4w.out (by decide) (own_mem.2 hg))) hcw (by simp)
    · exact ownsRow_kept (ownsRow_kept (ownsRow_kept HVP3.out hk34 hp4) hk4c (by intro g hg; simp; intro e; subst e; exact own_far HVP3.out HS3.out (by decide) (own_mem.2 hg))) hcw (by simp)
    · exact ((hb4.kept hk4c (by simp; omega)).kept hcw (by simp))
    · exact hkc.trans (hcw.more (by simp))
  · rw [decide_eq_false hin] at hlk
    go_wp2_with fail
    generalize hw5 : wc.drew = w5 at *
    have hS6 : w5.heap[s]? = some (.cells (sideC first (.slice (some ⟨g4, 0, none⟩) (nums.length + 1) cap4) m vp) 38 (0, 0)) := by rw [← hw5]; exact hS5
    have hM6 : w5.heap[m]? = some (.map (metE keys) keys.length) := by rw [← hw5]; exact hM5
    have hD6 : w5.heap[D]? = some (.cells (dC d (.slice (some ⟨g2, 0, none⟩) n cap2)) 41 (0, 0)) := by rw [← hw5]; exact hD5
    have hcw : Kept [] wc w5 := by rw [← hw5]; exact (Kept.refl [] wc).drew
    have hvp4 := ownsRow_kept HVP3.out hk34 hp4
    have hvp5 := ownsRow_kept (ownsRow_kept hvp4 hk4c (by intro g hg; simp; intro e; subst e; exact own_far HVP3.out HS3.out (by decide) (own_mem.2 hg))) hcw (by simp)
    have hvn5 := ownsRow_kept (ownsRow_kept HO4.out hk4c (by intro g hg; simp; intro e; subst e; exact own_far HO4.out HS4w.out (by decide) (own_mem.2 hg))) hcw (by simp)
    have hb5 := (hb4.kept hk4c (by simp; omega)).kept hcw (by simp)
    have hk5 := hkc.trans (hcw.more (by simp))
    clear hw5 hlk hcw hkc hb4 hvp4 c50 c51 hS5 hM5 hD5 hk4c hk34 hk3
    have hkd : Kept [] w5 (w5.drew.alloc (.cells #[.bool false, .bool d.bg, .bool d.en, .bool false, .int .u32 d.tsn, .int .i64 d.si, .int .i64 d.ssn, .int .u32 d.ppi, .slice (some ⟨g2, 0, none⟩) n cap2] 41)) := ((Kept.refl [] w5).drew).alloc _
    have hs5 := hk5.size
    obtain ⟨g6, cap6, w6, hr6, ho6, hgr6⟩ := appendOwnOne 31 41 9 56 np w5.heap.size 1 31 base (.agg zero32) vp ps #[.bool false, .bool d.bg, .bool d.en, .bool false, .int .u32 d.tsn, .int .i64 d.si, .int .i64 d.ssn, .int .u32 d.ppi, .slice (some ⟨g2, 0, none⟩) n cap2] (w5.drew.alloc (.cells #[.bool false, .bool d.bg, .bool d.en, .bool false, .int .u32 d.tsn, .int .i64 d.si, .int .i64 d.ssn, .int .u32 d.ppi, .slice (some ⟨g2, 0, none⟩) n cap2] 41)) Tryz.underlying31 i32 rfl (by omega) (by omega) (by omega) (ownsRow_kept hvp5 hkd (by simp)) (by simp; omega) rfl (dC_one d (.slice (some ⟨g2, 0, none⟩) n cap2) rfl) (blk_new w5.drew _)
    have hgk6 : Kept (own vp) (w5.drew.alloc (.cells #[.bool false, .bool d.bg, .bool d.en, .bool false, .int .u32 d.tsn, .int .i64 d.si, .int .i64 d.ssn, .int .u32 d.ppi, .slice (some ⟨g2, 0, none⟩) n cap2] 41)) w6 := grown_kept hgr6 (by intro k hk; rw [own_mem]; exact hk)
    have hk56 : Kept (own vp) w5 w6 := (hkd.more (by simp)).trans hgk6
    have hsp : s ∉ own vp := own_far hvp5 hS6 (by decide)
    have hDp : D ∉ own vp := fun h => by have := own_lt HVP.out h; omega
    have hmp : m ∉ own vp := own_far_map hvp5 hM6
    have hS7 := (hk56.block s (blk_lt hS6) hsp).trans hS6
    have hM7 := (hk56.block m (blk_lt hM6) hmp).trans hM6
    have hD7 := (hk56.block D (blk_lt hD6) hDp).trans hD6
    have hsm : s ≠ m := by intro e; subst e; rw [hS6] at hM6; cases hM6
    have hDm : D ≠ m := by intro e; subst e; rw [hD6] at hM6; cases hM6
    have hme := entryMet keys m d.tsn w6 hM7 hin
    have hM8 := setB_new (o' := .map ((metE keys).push ⟨.int .u32 (d.tsn : Nat), .bool false, keys.length⟩) (keys.length + 1)) hM7
    have hS8 := (setB_ne (o' := .map ((metE keys).push ⟨.int .u32 (d.tsn : Nat), .bool false, keys.length⟩) (keys.length + 1)) hM7 hsm).trans hS7
    have hD8 := (setB_ne (o' := .map ((metE keys).push ⟨.int .u32 (d.tsn : Nat), .bool false, keys.length⟩) (keys.length + 1)) hM7 hDm).trans hD7
    have hk67 : Kept [m] w6 (setB w6 m (.map ((metE keys).push ⟨.int .u32 (d.tsn : Nat), .bool false, keys.length⟩) (keys.length + 1))) := (Kept.refl [m] w6).setB _ hM7 (by simp)
    generalize setB w6 m (.map ((metE keys).push ⟨.int .u32 (d.tsn : Nat), .bool false, keys.length⟩) (keys.length + 1)) = w7 at hme hM8 hS8 hD8 hk67
    have hst := storeMet keys m d.tsn w7 hM8
    have hM9 := setB_new (o' := .map (metE (keys ++ [d.tsn])) (keys ++ [d.tsn]).length) hM8
    have hS9 := (setB_ne (o' := .map (metE (keys ++ [d.tsn])) (keys ++ [d.tsn]).length) hM8 hsm).trans hS8
    have hD9 := (setB_ne (o' := .map (metE (keys ++ [d.tsn])) (keys ++ [d.tsn]).length) hM8 hDm).trans hD8
    have hk68 : Kept [m] w6 (setB w7 m (.map (metE (keys ++ [d.tsn])) (keys ++ [d.tsn]).length)) := hk67.setB _ hM8 (by simp)
    generalize setB w7 m (.map (metE (keys ++ [d.tsn])) (keys ++ [d.tsn]).length) = w8 at hst hM9 hS9 hD9 hk68
    have p0 : w5.cell? ⟨D, 0, none⟩ = some (.bool false) := blk_cell hD6 rfl
    have p1 : w5.cell? ⟨D, 1, none⟩ = some (.bool d.bg) := blk_cell hD6 rfl
    have p2 : w5.cell? ⟨D, 2, none⟩ = some (.bool d.en) := blk_cell hD6 rfl
    have p3 : w5.cell? ⟨D, 3, none⟩ = some (.bool false) := blk_cell hD6 rfl
    have p4 : w5.cell? ⟨D, 4, none⟩ = some (.int .u32 d.tsn) := blk_cell hD6 rfl
    have p5 : w5.cell? ⟨D, 5, none⟩ = some (.int .i64 d.si) := blk_cell hD6 rfl
    have p6 : w5.cell? ⟨D, 6, none⟩ = some (.int .i64 d.ssn) := blk_cell hD6 rfl
    have p7 : w5.cell? ⟨D, 7, none⟩ = some (.int .u32 d.ppi) := blk_cell hD6 rfl
    have p8 : w5.cell? ⟨D, 8, none⟩ = some (.slice (some ⟨g2, 0, none⟩) n cap2) := blk_cell hD6 rfl
    have q0 : w6.cell? ⟨D, 0, none⟩ = some (.bool false) := blk_cell hD7 rfl
    have q1 : w6.cell? ⟨D, 1, none⟩ = some (.bool d.bg) := blk_cell hD7 rfl
    have q2 : w6.cell? ⟨D, 2, none⟩ = some (.bool d.en) := blk_cell hD7 rfl
    have q3 : w6.cell? ⟨D, 3, none⟩ = some (.bool false) := blk_cell hD7 rfl
    have q4 : w6.cell? ⟨D, 4, none⟩ = some (.int .u32 d.tsn) := blk_cell hD7 rfl
    have q5 : w6.cell? ⟨D, 5, none⟩ = some (.int .i64 d.si) := blk_cell hD7 rfl
    have q6 : w6.cell? ⟨D, 6, none⟩ = some (.int .i64 d.ssn) := blk_cell hD7 rfl
    have q7 : w6.cell? ⟨D, 7, none⟩ = some (.int .u32 d.ppi) := blk_cell hD7 rfl
    have q8 : w6.cell? ⟨D, 8, none⟩ = some (.slice (some ⟨g2, 0, none⟩) n cap2) := blk_cell hD7 rfl
    have r0 : w7.cell? ⟨D, 0, none⟩ = some (.bool false) := blk_cell hD8 rfl
    have r1 : w7.cell? ⟨D, 1, none⟩ = some (.bool d.bg) := blk_cell hD8 rfl
    have r2 : w7.cell? ⟨D, 2, none⟩ = some (.bool d.en) := blk_cell hD8 rfl
    have r3 : w7.cell? ⟨D, 3, none⟩ = some (.bool false) := blk_cell hD8 rfl
    have r4 : w7.cell? ⟨D, 4, none⟩ = some (.int .u32 d.tsn) := blk_cell hD8 rfl
    have r5 : w7.cell? ⟨D, 5, none⟩ = some (.int .i64 d.si) := blk_cell hD8 rfl
    have r6 : w7.cell? ⟨D, 6, none⟩ = some (.int .i64 d.ssn) := blk_cell hD8 rfl
    have r7 : w7.cell? ⟨D, 7, none⟩ = some (.int .u32 d.ppi) := blk_cell hD8 rfl
    have r8 : w7.cell? ⟨D, 8, none⟩ = some (.slice (some ⟨g2, 0, none⟩) n cap2) := blk_cell hD8 rfl
    have t0 : w8.cell? ⟨D, 0, none⟩ = some (.bool false) := blk_cell hD9 rfl
    have t1 : w8.cell? ⟨D, 1, none⟩ = some (.bool d.bg) := blk_cell hD9 rfl
    have t2 : w8.cell? ⟨D, 2, none⟩ = some (.bool d.en) := blk_cell hD9 rfl
    have t3 : w8.cell? ⟨D, 3, none⟩ = some (.bool false) := blk_cell hD9 rfl
    have t4 : w8.cell? ⟨D, 4, none⟩ = some (.int .u32 d.tsn) := blk_cell hD9 rfl
    have t5 : w8.cell? ⟨D, 5, none⟩ = some (.int .i64 d.si) := blk_cell hD9 rfl
    have t6 : w8.cell? ⟨D, 6, none⟩ = some (.int .i64 d.ssn) := blk_cell hD9 rfl
    have t7 : w8.cell? ⟨D, 7, none⟩ = some (.int .u32 d.ppi) := blk_cell hD9 rfl
    have t8 : w8.cell? ⟨D, 8, none⟩ = some (.slice (some ⟨g2, 0, none⟩) n cap2) := blk_cell hD9 rfl
    have y5 : w5.cell? ⟨s, 2, none⟩ = some (.map (some m)) := blk_cell hS6 rfl
    have y6 : w6.cell? ⟨s, 2, none⟩ = some (.map (some m)) := blk_cell hS7 rfl
    have y7 : w7.cell? ⟨s, 2, none⟩ = some (.map (some m)) := blk_cell hS8 rfl
    have y8 : w8.cell? ⟨s, 2, none⟩ = some (.map (some m)) := blk_cell hS9 rfl
    have z5 : w5.cell? ⟨s, 3, none⟩ = some vp := blk_cell hS6 rfl
    have y9 : (w8.setCell ⟨s, 3, none⟩ (.slice (some ⟨g6, 0, none⟩) (np + 1) cap6)).cell? ⟨s, 2, none⟩ = some (.map (some m)) := blk_cell (blk_setCell _ hS9) rfl
    have z8 : w8.cell? ⟨s, 3, none⟩ = some vp := blk_cell hS9 rfl
    have x8 : w8.frozen? ⟨s, 3, none⟩ = false := blk_free hS9
    have ls5 := blk_lt hS6
    have ls8 := blk_lt hS9
    have lD5 := blk_lt hD6
    have HS9 := hid hS9; have HM9 := hid hM9; have HVN5 := hid hvn5; have HVP5 := hid hvp5; have HO6 := hid ho6; have HB5 := hid hb5; have HS6 := hid hS6; have HM6 := hid hM6; have HM8 := hid hM8; have HM7 := hid hM7
    clear hS9 hM9 hvn5 hvp5 ho6 hb5 hS6 hM6 hM8 hM7 hD6 hD7 hD8 hD9 hS7 hS8 hgr6
    have hFin : ∃ vn' vp' g cap', (w8.setCell ⟨s, 3, none⟩ (.slice (some ⟨g6, 0, none⟩) (np + 1) cap6)).heap[s]? = some (.cells (sideC first vn' m vp') 38 (0, 0)) ∧ (w8.setCell ⟨s, 3, none⟩ (.slice (some ⟨g6, 0, none⟩) (np + 1) cap6)).ownsRow base 22 1 vn' (nums.length + 1) (u32s (nums ++ [d.tsn])) ∧
        (d.tsn ∈ keys → (w8.setCell ⟨s, 3, none⟩ (.slice (some ⟨g6, 0, none⟩) (np + 1) cap6)).heap[m]? = some (.map (metE keys) keys.length) ∧ vp' = vp ∧ (w8.setCell ⟨s, 3, none⟩ (.slice (some ⟨g6, 0, none⟩) (np + 1) cap6)).ownsRow base 41 9 vp' np ps) ∧
        (d.tsn ∉ keys → (w8.setCell ⟨s, 3, none⟩ (.slice (some ⟨g6, 0, none⟩) (np + 1) cap6)).heap[m]? = some (.map (metE (keys ++ [d.tsn])) (keys ++ [d.tsn]).length) ∧ (w8.setCell ⟨s, 3, none⟩ (.slice (some ⟨g6, 0, none⟩) (np + 1) cap6)).ownsRow base 41 9 vp' (np + 1) (ps ++ (dC d (.slice (some ⟨g, 0, none⟩) n cap')).toList)) ∧
        BB (w8.setCell ⟨s, 3, none⟩ (.slice (some ⟨g6, 0, none⟩) (np + 1) cap6)) g l ∧ n ≤ cap' ∧ cap' ≤ maxLen ∧ w.heap.size ≤ g ∧ Kept (s :: m :: (own vn ++ own vp)) w (w8.setCell ⟨s, 3, none⟩ (.slice (some ⟨g6, 0, none⟩) (np + 1) cap6)) := by
      have hk9 : Kept [s] w8 (w8.setCell ⟨s, 3, none⟩ (.slice (some ⟨g6, 0, none⟩) (np + 1) cap6)) := (Kept.refl [s] w8).setCell _ (.inl (by simp))
      have hSS : (w8.setCell ⟨s, 3, none⟩ (.slice (some ⟨g6, 0, none⟩) (np + 1) cap6)).heap[s]? = some (.cells (sideC first (.slice (some ⟨g4, 0, none⟩) (nums.length + 1) cap4) m (.slice (some ⟨g6, 0, none⟩) (np + 1) cap6)) 38 (0, 0)) := by rw [blk_setCell _ HS9.out]; rfl
      generalize w8.setCell ⟨s, 3, none⟩ (.slice (some ⟨g6, 0, none⟩) (np + 1) cap6) = w9 at *
      have hvn6 := ownsRow_kept HVN5.out hk56 (own_apart HVN5.out HVP5.out (by decide))
      have hvn8 := ownsRow_kept hvn6 hk68 (by intro g hg; simp; intro e; subst e; exact own_far_map HVN5.out HM6.out (own_mem.2 hg))
      have hvn9 := ownsRow_kept hvn8 hk9 (by intro g hg; simp; intro e; subst e; exact own_far HVN5.out HS6.out (by decide) (own_mem.2 hg))
      have hvp8 := ownsRow_kept HO6.out hk68 (by intro g hg; simp; intro e; subst e; exact own_far_map HO6.out HM7.out (own_mem.2 hg))
      have hvp9 := ownsRow_kept hvp8 hk9 (by intro g hg; simp; intro e; subst e; exact own_far hvp8 HS9.out (by decide) (own_mem.2 hg))
      have hgp : g2 ∉ own vp := fun h => by have := own_lt HVP.out h; omega
      refine ⟨_, _, g2, cap2, hSS, ?_, fun h => absurd h hin, fun _ => ⟨?_, hvp9⟩, ?_, hc2, hc2', by omega, ?_⟩
      · rw [u32s_snoc]; exact hvn9
      · exact (hk9.block m (blk_lt HM9.out) (by simpa using hsm.symm)).trans HM9.out
      · exact ((HB5.out.kept hk56 hgp).kept hk68 (by simp; omega)).kept hk9 (by simp; omega)
      · exact ((hk5.trans (hk56.more (by intro r hr; left; simp [hr]))).trans (hk68.more (by simp))).trans (hk9.more (by simp))
    have HFin := hid hFin
    clear hFin HS9 HM9 HVN5 HVP5 HO6 HB5 HS6 HM6 HM8 HM7
    refine wp_region_held_drew (S := (fun w' => w'.cell? ⟨s, 2, none⟩ = some (.map (some m)) ∧ w'.cell? ⟨D, 0, none⟩ = some (.bool false) ∧ w'.cell? ⟨D, 1, none⟩ = some (.bool d.bg) ∧ w'.cell? ⟨D, 2, none⟩ = some (.bool d.en) ∧ w'.cell? ⟨D, 3, none⟩ = some (.bool false) ∧ w'.cell? ⟨D, 4, none⟩ = some (.int .u32 d.tsn) ∧ w'.cell? ⟨D, 5, none⟩ = some (.int .i64 d.si) ∧ w'.cell? ⟨D, 6, none⟩ = some (.int .i64 d.ssn) ∧ w'.cell? ⟨D, 7, none⟩ = some (.int .u32 d.ppi) ∧ w'.cell? ⟨D, 8, none⟩ = some (.slice (some ⟨g2, 0, none⟩) n cap2))) (by kernel_rfl) ?_ (fun hHeld => ?_)
    · (try dsimp only); go_keep
    refine wpAnyH_take (i := 0) (v := ?_) rfl (by kernel_rfl) (by kernel_rfl) (by kernel_rfl) (fun _ _ _ h => h) (Or.inl ⟨by rfl, ?_⟩) (by assumption) ?_
    rotate_left
    · (intro w' hSw; (try dsimp only at hSw); go_simp; (try with_reducible rfl))
    try simp only [Act.put, List.setIfInBounds_toArray, List.set_cons_zero, List.set_cons_succ]
    refine wpAnyH_take (i := 1) (v := ?_) rfl (by kernel_rfl) (by kernel_rfl) (by kernel_rfl) (fun _ _ _ h => h) (Or.inl ⟨by rfl, ?_⟩) (by assumption) ?_
    rotate_left
    · (intro w' hSw; (try dsimp only at hSw); go_simp; (try with_reducible rfl))
    try simp only [Act.put, List.setIfInBounds_toArray, List.set_cons_zero, List.set_cons_succ]
    refine wpAnyH_take (i := 2) (v := ?_) rfl (by kernel_rfl) (by kernel_rfl) (by kernel_rfl) (fun _ _ _ h => h) (Or.inl ⟨by rfl, ?_⟩) (by assumption) ?_
    rotate_left
    · (intro w' hSw; (try dsimp only at hSw); go_simp; (try with_reducible rfl))
    try simp only [Act.put, List.setIfInBounds_toArray, List.set_cons_zero, List.set_cons_succ]
    refine wpAnyH_take (i := 3) (v := ?_) rfl (by kernel_rfl) (by kernel_rfl) (by kernel_rfl) (fun _ _ _ h => h) (Or.inl ⟨by rfl, ?_⟩) (by assumption) ?_
    rotate_left
    · (intro w' hSw; (try dsimp only at hSw); go_simp; (try with_reducible rfl))
    try simp only [Act.put, List.setIfInBounds_toArray, List.set_cons_zero, List.set_cons_succ]
    refine wpAnyH_take (i := 4) (v := ?_) rfl (by kernel_rfl) (by kernel_rfl) (by kernel_rfl) (fun _ _ _ h => h) (Or.inl ⟨by rfl, ?_⟩) (by assumption) ?_
    rotate_left
    · (intro w' hSw; (try dsimp only at hSw); go_simp; (try with_reducible rfl))
    try simp only [Act.put, List.setIfInBounds_toArray, List.set_cons_zero, List.set_cons_succ]
    refine wpAnyH_take (i := 5) (v := ?_) rfl (by kernel_rfl) (by kernel_rfl) (by kernel_rfl) (fun _ _ _ h => h) (Or.inl ⟨by rfl, ?_⟩) (by assumption) ?_
    rotate_left
    · (intro w' hSw; (try dsimp only at hSw); go_simp; (try with_reducible rfl))
    try simp only [Act.put, List.setIfInBounds_toArray, List.set_cons_zero, List.set_cons_succ]
    refine wpAnyH_take (i := 6) (v := ?_) rfl (by kernel_rfl) (by kernel_rfl) (by kernel_rfl) (fun _ _ _ h => h) (Or.inl ⟨by rfl, ?_⟩) (by assumption) ?_
    rotate_left
    · (intro w' hSw; (try dsimp only at hSw); go_simp; (try with_reducible rfl))
    try simp only [Act.put, List.setIfInBounds_toArray, List.set_cons_zero, List.set_cons_succ]
    refine wpAnyH_take (i := 7) (v := ?_) rfl (by kernel_rfl) (by kernel_rfl) (by kernel_rfl) (fun _ _ _ h => h) (Or.inl ⟨by rfl, ?_⟩) (by assumption) ?_
    rotate_left
    · (intro w' hSw; (try dsimp only at hSw); go_simp; (try with_reducible rfl))
    try simp only [Act.put, List.setIfInBounds_toArray, List.set_cons_zero, List.set_cons_succ]
    refine wpAnyH_take (i := 8) (v := ?_) rfl (by kernel_rfl) (by kernel_rfl) (by kernel_rfl) (fun _ _ _ h => h) (Or.inl ⟨by rfl, ?_⟩) (by assumption) ?_
    rotate_left
    · (intro w' hSw; (try dsimp only at hSw); go_simp; (try with_reducible rfl))
    try simp only [Act.put, List.setIfInBounds_toArray, List.set_cons_zero, List.set_cons_succ]
    refine wpAnyH_take (i := 9) (v := ?_) rfl (by kernel_rfl) (by kernel_rfl) (by kernel_rfl) (fun _ _ _ h => h) (Or.inl ⟨by rfl, ?_⟩) (by assumption) ?_
    rotate_left
    · (intro w' hSw; (try dsimp only at hSw); go_simp; (try with_reducible rfl))
    try simp only [Act.put, List.setIfInBounds_toArray, List.set_cons_zero, List.set_cons_succ]
    refine wpAnyH_take (i := 11) (v := ?_) rfl (by kernel_rfl) (by kernel_rfl) (by kernel_rfl) (fun _ _ _ h => h) (Or.inl ⟨by rfl, ?_⟩) (by assumption) ?_
    rotate_left
    · (intro w' hSw; (try dsimp only at hSw); go_simp; (try with_reducible rfl))
    try simp only [Act.put, List.setIfInBounds_toArray, List.set_cons_zero, List.set_cons_succ]
    refine wpAnyH_ready (rs := [10, 12]) (by kernel_rfl) (by simp) ?_
    refine AllReadyH.cons rfl (fun K hK => ?_) (AllReadyH.cons rfl (fun K hK => ?_) AllReadyH.nil)
    · go_simp
      refine hK.out _ _ ?_ (fun hHeld => ?_)
      · (try dsimp only); go_keep
      clear hK K
      refine wpAnyH_ready (rs := [12]) (by kernel_rfl) (by simp) ?_
      refine AllReadyH.cons rfl (fun K hK => ?_) AllReadyH.nil
      go_simp
      refine hK.out _ _ ?_ (fun hHeld => ?_)
      · (try dsimp only); go_keep
      clear hK K
      refine wpAnyH_ready (rs := [13]) (by kernel_rfl) (by simp) ?_
      refine AllReadyH.cons rfl (fun K hK => ?_) AllReadyH.nil
      refine step_append_run rfl _ _ 31 rfl _ _ _ rfl rfl hr6 ?_
      refine hK.out _ _ ?_ (fun hHeld => ?_)
      · (try dsimp only); go_keep
      clear hK K
      refine wpAnyH_ready (rs := [14]) (by kernel_rfl) (by simp) ?_
      refine AllReadyH.cons rfl (fun K hK => ?_) AllReadyH.nil
      go_simp
      refine hK.out _ _ ?_ (fun hHeld => ?_)
      · (try dsimp only); go_keep
      clear hK K
      refine wpAnyH_take (i := 15) (v := ?_) rfl (by kernel_rfl) (by kernel_rfl) (by kernel_rfl) (fun _ _ _ h => h) (Or.inl ⟨by rfl, ?_⟩) (by assumption) ?_
      rotate_left
      · (intro w' hSw; (try dsimp only at hSw); go_simp; (try with_reducible rfl))
      try simp only [Act.put, List.setIfInBounds_toArray, List.set_cons_zero, List.set_cons_succ]
      refine wpAnyH_ready (rs := [16]) (by kernel_rfl) (by simp) ?_
      refine AllReadyH.cons rfl (fun K hK => ?_) AllReadyH.nil
      go_simp
      refine hK.out _ _ ?_ (fun hHeld => ?_)
      · (try dsimp only); go_keep
      clear hK K
      refine wpAnyH_take (i := 17) (v := ?_) rfl (by kernel_rfl) (by kernel_rfl) (by kernel_rfl) (fun _ _ _ h => h) (Or.inl ⟨by rfl, ?_⟩) (by assumption) ?_
      rotate_left
      · (intro w' hSw; (try dsimp only at hSw); go_simp; (try with_reducible rfl))
      try simp only [Act.put, List.setIfInBounds_toArray, List.set_cons_zero, List.set_cons_succ]
      refine wpAnyH_take (i := 18) (v := ?_) rfl (by kernel_rfl) (by kernel_rfl) (by kernel_rfl) (fun _ _ _ h => h) (Or.inl ⟨by rfl, ?_⟩) (by assumption) ?_
      rotate_left
      · (intro w' hSw; (try dsimp only at hSw); go_simp; (try with_reducible rfl))
      try simp only [Act.put, List.setIfInBounds_toArray, List.set_cons_zero, List.set_cons_succ]
      refine wpAnyH_ready (rs := [19]) (by kernel_rfl) (by simp) ?_
      refine AllReadyH.cons rfl (fun K hK => ?_) AllReadyH.nil
      go_simp
      refine hK.out _ _ ?_ (fun hHeld => ?_)
      · (try dsimp only); go_keep
      clear hK K
      refine wpAnyH_done (by kernel_rfl) ?_ _
      (go_wp2_with fail; go_ret; exact ⟨rfl, HFin.out⟩)
    · go_simp
      refine hK.out _ _ ?_ (fun hHeld => ?_)
      · (try dsimp only); go_keep
      clear hK K
      refine wpAnyH_ready (rs := [10]) (by kernel_rfl) (by simp) ?_
      refine AllReadyH.cons rfl (fun K hK => ?_) AllReadyH.nil
      go_simp
      refine hK.out _ _ ?_ (fun hHeld => ?_)
      · (try dsimp only); go_keep
      clear hK K
      refine wpAnyH_ready (rs := [13]) (by kernel_rfl) (by simp) ?_
      refine AllReadyH.cons rfl (fun K hK => ?_) AllReadyH.nil
      refine step_append_run rfl _ _ 31 rfl _ _ _ rfl rfl hr6 ?_
      refine hK.out _ _ ?_ (fun hHeld => ?_)
      · (try dsimp only); go_keep
      clear hK K
      refine wpAnyH_ready (rs := [14]) (by kernel_rfl) (by simp) ?_
      refine AllReadyH.cons rfl (fun K hK => ?_) AllReadyH.nil
      go_simp
      refine hK.out _ _ ?_ (fun hHeld => ?_)
      · (try dsimp only); go_keep
      clear hK K
      refine wpAnyH_take (i := 15) (v := ?_) rfl (by kernel_rfl) (by kernel_rfl) (by kernel_rfl) (fun _ _ _ h => h) (Or.inl ⟨by rfl, ?_⟩) (by assumption) ?_
      rotate_left
      · (intro w' hSw; (try dsimp only at hSw); go_simp; (try with_reducible rfl))
      try simp only [Act.put, List.setIfInBounds_toArray, List.set_cons_zero, List.set_cons_succ]
      refine wpAnyH_ready (rs := [16]) (by kernel_rfl) (by simp) ?_
      refine AllReadyH.cons rfl (fun K hK => ?_) AllReadyH.nil
      go_simp
      refine hK.out _ _ ?_ (fun hHeld => ?_)
      · (try dsimp only); go_keep
      clear hK K
      refine wpAnyH_take (i := 17) (v := ?_) rfl (by kernel_rfl) (by kernel_rfl) (by kernel_rfl) (fun _ _ _ h => h) (Or.inl ⟨by rfl, ?_⟩) (by assumption) ?_
      rotate_left
      · (intro w' hSw; (try dsimp only at hSw); go_simp; (try with_reducible rfl))
      try simp only [Act.put, List.setIfInBounds_toArray, List.set_cons_zero, List.set_cons_succ]
      refine wpAnyH_take (i := 18) (v := ?_) rfl (by kernel_rfl) (by kernel_rfl) (by kernel_rfl) (fun _ _ _ h => h) (Or.inl ⟨by rfl, ?_⟩) (by assumption) ?_
      rotate_left
      · (intro w' hSw; (try dsimp only at hSw); go_simp; (try with_reducible rfl))
      try simp only [Act.put, List.setIfInBounds_toArray, List.set_cons_zero, List.set_cons_succ]
      refine wpAnyH_ready (rs := [19]) (by kernel_rfl) (by simp) ?_
      refine AllReadyH.cons rfl (fun K hK => ?_) AllReadyH.nil
      go_simp
      refine hK.out _ _ ?_ (fun hHeld => ?_)
      · (try dsimp only); go_keep
      clear hK K
      refine wpAnyH_done (by kernel_rfl) ?_ _
      (go_wp2_with fail; go_ret; exact ⟨rfl, HFin.out⟩)
end Go.Proofs.Base
