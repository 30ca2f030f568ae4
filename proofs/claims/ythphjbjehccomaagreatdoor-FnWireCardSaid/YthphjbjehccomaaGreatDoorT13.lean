/- Parts of the proof, steps T10, T11, T12, T13: what the code and the plain laws of these steps give. Made by AI agents; no person has read it. -/
import Derived.Test.YthphjbjehccomaaGreatDoorT9
section
namespace Go.Proofs.Base
open Go Go.Proofs Go.RowKit Go.Proofs.Gaps
set_option maxRecDepth 100000
def c64 (g : Nat × Nat) : List Value := [.int .i64 (g.1 : Nat), .int .i64 (g.2 : Nat)]
def g64 (G : List (Nat × Nat)) : List Value := G.flatMap c64
theorem g64_snoc (G : List (Nat × Nat)) (g : Nat × Nat) : g64 (G ++ [g]) = g64 G ++ #[Value.int .i64 (g.1 : Nat), .int .i64 (g.2 : Nat)].toList := by simp [g64, c64]
theorem flat2_get (G : List (Nat × Nat)) (c : Nat × Nat → Value) (d : Nat × Nat → Value) (i : Nat) (h : i < G.length) :
    (G.flatMap fun g => [c g, d g])[i * 2]? = some (c G[i]) ∧ (G.flatMap fun g => [c g, d g])[i * 2 + 1]? = some (d G[i]) := by
  induction G generalizing i with
  | nil => simp at h
  | cons g r ih =>
    cases i with
    | zero => simp
    | succ i =>
      have h' : i < r.length := by simpa using h
      have := ih i h'
      rw [List.flatMap_cons, show (i + 1) * 2 = i * 2 + 2 by omega, show i * 2 + 2 + 1 = i * 2 + 1 + 2 by omega]
      simpa using this
theorem iP16 : (Tryz.prog.info? 146).map (fun i => (i.zero, i.size, i.bytes)) = some (some (.agg #[.int .u16 0, .int .u16 0]), 2, 4) := by kernel_rfl
theorem iP64 : (Tryz.prog.info? 79).map (fun i => (i.zero, i.size, i.bytes)) = some (some (.agg #[.int .i64 0, .int .i64 0]), 2, 16) := by kernel_rfl
theorem own_some {w : World} {base e sz n : Nat} {v : Value} {xs : List Value} (h : w.ownsRow base e sz v n xs) (hn : n ≠ 0) : ∃ g cap, v = .slice (some ⟨g, 0, none⟩) n cap ∧ n ≤ cap ∧ cap ≤ maxLen := by
  rcases h.2 with ⟨_, h0⟩ | ⟨g, cap, cur, rfl, _, _, h1, h2, _⟩
  · exact absurd h0 hn
  · exact ⟨g, cap, rfl, h1, h2⟩
theorem take_snoc' {α : Type} {l : List α} {i : Nat} (h : i < l.length) : l.take (i + 1) = l.take i ++ [l[i]] := List.take_succ_eq_append_getElem h
/-- append of a pair to a row of the call's own, behind one other new block. -/
theorem pairAppend (t e by' B i : Nat) (z : Value) (Ao : Option Addr) (Co : Nat) (xs : List Value) (o1 : Obj) (v1 v2 : Value) (w : World) (ht : Tryz.prog.underlying t = some (.slice e)) (hi : (Tryz.prog.info? e).map (fun i => (i.zero, i.size, i.bytes)) = some (some z, 2, by')) (hz : z.cells.size = 2) (hby : by' ≤ 1000)
    (hO : w.ownsRow B e 2 (.slice Ao i Co) i xs) (hB : B ≤ w.heap.size) (hin : i < 1000) (h1 : v1.oneCell' = true) (h2 : v2.oneCell' = true) :
    ∃ g cap w6, (Builtin.append_ #[t, t] t #[.slice Ao i Co, .slice (some ⟨w.heap.size + 1, 0, none⟩) 1 1]).run Tryz.prog ((w.alloc o1).alloc (.cells #[v1, v2] e)) = .ok (.slice (some ⟨g, 0, none⟩) (i + 1) cap) w6 ∧
      w6.ownsRow B e 2 (.slice (some ⟨g, 0, none⟩) (i + 1) cap) (i + 1) (xs ++ #[v1, v2].toList) ∧ Kept (own (.slice Ao i Co)) w w6 := by
  have hk5 : Kept [] w ((w.alloc o1).alloc (.cells #[v1, v2] e)) := ((Kept.refl [] w).alloc _).alloc _
  have hnew := blk_new (w.alloc o1) (.cells #[v1, v2] e)
  simp only [World.size_alloc] at hnew
  obtain ⟨g, cap, w6, hr, ho, hgr⟩ := appendOwnOne t e 2 by' i (w.heap.size + 1) 1 t B z (.slice Ao i Co) xs #[v1, v2] ((w.alloc o1).alloc (.cells #[v1, v2] e)) ht hi hz (by omega) hby (by omega) (ownsRow_kept hO hk5 (by simp))
    (Nat.le_trans hB hk5.size) rfl (by intro u hu; simp at hu; rcases hu with rfl | rfl <;> assumption) hnew
  exact ⟨g, cap, w6, hr, ho, (hk5.more (by simp)).trans (grown_kept hgr (by intro k hk; rw [own_mem]; exact hk))⟩
set_option maxHeartbeats 2000000 in
theorem zzGaps (base : Nat) (vg : Value) (G : List (Nat × Nat)) (w : World) (h : w.ownsRow base 151 2 vg G.length (g16 G)) (hn : G.length < 1000) :
    Calls Tryz.prog 57 #[vg] w fun e w' => ∃ vo, e = .returned vo ∧ w'.ownsRow w.heap.size 146 2 vo G.length (g16 G) ∧ Kept [] w w' := by
  have K0 := hid (Kept.refl [] w)
  have N0 := hid (World.ownsRow_nil w w.heap.size 146 2)
  by_cases h0 : G.length = 0
  · obtain ⟨A, C, rfl⟩ := own_form h
    have hG : G = [] := List.length_eq_zero_iff.1 h0
    subst hG
    clear h hn h0
    go_enter Tryz.func57, Tryz.ntmps57
    go_wp2_with fail
    refine wp_loop_rounds 2 ?_
    rw [rounds_succ]
    go_wp2_with fail
    go_ret
    exact ⟨_, rfl, N0.out, K0.out⟩
  · obtain ⟨g, C, rfl, hc1, hc2⟩ := own_some h h0
    have hcm : C ≤ 9223372036854775807 := hc2
    have H := hid h; clear h h0 hc2
    have lg := (H.out.lt g rfl).2
    go_enter Tryz.func57, Tryz.ntmps57
    go_wp2_with fail
    generalize hBe : w.heap.size = B at *
    have HB := hid hBe; clear hBe
    go_loopw [3, 8] (fun s3 s8 wx => ∃ i : Nat, i ≤ G.length ∧ s8 = .int .i64 i ∧ Hid (wx.ownsRow B 146 2 s3 i (g16 (G.take i))) ∧ Hid (Kept [] w wx)) (fun _ s8 _ => G.length - (intOf s8).toNat)
    case atStart => exact ⟨0, by omega, rfl, N0, K0⟩
    case round =>
      obtain ⟨i, hi, rfl, HO, HK⟩ := hrel
      by_cases hlt : i < G.length
      · have hlt' : (i : Int) < (G.length : Int) := by omega
        have h0' : (0 : Int) ≤ (i : Int) := by omega
        have hH := ownsRow_kept H.out HK.out (by simp)
        have hget := flat2_get G (fun g => Value.int .u16 (g.1 : Nat)) (fun g => Value.int .u16 (g.2 : Nat)) i hlt
        have c0 : wr.cell? ⟨g, i * 2, none⟩ = some (.int .u16 (G[i].1 : Nat)) := by
          have := hH.cells (g := g) rfl (i * 2) _ hget.1
          rwa [addr_add, Nat.zero_add] at this
        have c1 : wr.cell? ⟨g, i * 2 + 1, none⟩ = some (.int .u16 (G[i].2 : Nat)) := by
          have := hH.cells (g := g) rfl (i * 2 + 1) _ hget.2
          rwa [addr_add, Nat.zero_add] at this
        obtain ⟨Ao, Co, hform⟩ := own_form HO.out
        subst hform
        have hkA : Kept [] wr (wr.alloc (.cells #[.int .u16 (G[i].1 : Nat), .int .u16 (G[i].2 : Nat)] 151)) := (Kept.refl [] wr).alloc _
        have lgr : g < wr.heap.size := by have := HK.out.size; have := HB.out; omega
        clear hH hget
        obtain ⟨g6, cap6, w6, hr6, ho6, hk6⟩ := pairAppend 97 146 4 B i (.agg #[.int .u16 0, .int .u16 0]) Ao Co (g16 (G.take i)) (.cells #[.int .u16 (G[i].1 : Nat), .int .u16 (G[i].2 : Nat)] 151) (.int .u16 (G[i].1 : Nat)) (.int .u16 (G[i].2 : Nat)) wr Tryz.underlying97 iP16 rfl (by omega) HO.out (by have := HK.out.size; have := HB.out; omega) (by omega) rfl rfl
        have HO6 := hid ho6
        have HK6 := hid (HK.out.thenNew hk6 (by intro r hr; right; have := own_ge HO.out hr; have := HB.out; omega))
        clear ho6 hk6
        go_wp2_with (at_builtin; refine wpList_append_run rfl _ _ 97 rfl _ _ _ rfl rfl hr6 ?_)
        go_roundw
        case rel => exact ⟨i + 1, by omega, by go_num, hid (by rw [take_snoc' hlt, g16_snoc]; exact HO6.out), HK6⟩
        case measure => simp [intOf]; omega
      · have hlt' : ¬ (i : Int) < (G.length : Int) := by omega
        obtain rfl : i = G.length := by omega
        go_wp2_with fail
        go_ret
        exact ⟨_, rfl, by have h := HO.out; rw [List.take_length] at h; rw [HB.out]; exact h, HK.out⟩
end Go.Proofs.Base
end
section
namespace Go.Proofs.Base
open Go Go.Proofs Go.RowKit Go.Proofs.Gaps
set_option maxRecDepth 100000
set_option maxHeartbeats 2000000 in
theorem pairs (base : Nat) (vg : Value) (G : List (Nat × Nat)) (w : World) (h : w.ownsRow base 146 2 vg G.length (g16 G)) (hn : G.length < 1000) (hs : ∀ g ∈ G, g.1 < 65536 ∧ g.2 < 65536) :
    Calls Tryz.prog 38 #[vg] w fun e w' => ∃ vo, e = .returned vo ∧ w'.ownsRow w.heap.size 79 2 vo G.length (g64 G) ∧ Kept [] w w' := by
  have K0 := hid (Kept.refl [] w)
  have N0 := hid (World.ownsRow_nil w w.heap.size 79 2)
  by_cases h0 : G.length = 0
  · obtain ⟨A, C, rfl⟩ := own_form h
    have hG : G = [] := List.length_eq_zero_iff.1 h0
    subst hG
    clear h hn h0
    go_enter Tryz.func38, Tryz.ntmps38
    go_wp2_with fail
    refine wp_loop_rounds 2 ?_
    rw [rounds_succ]
    go_wp2_with fail
    go_ret
    exact ⟨_, rfl, N0.out, K0.out⟩
  · obtain ⟨g, C, rfl, hc1, hc2⟩ := own_some h h0
    have hcm : C ≤ 9223372036854775807 := hc2
    have H := hid h; clear h h0 hc2
    have lg := (H.out.lt g rfl).2
    go_enter Tryz.func38, Tryz.ntmps38
    go_wp2_with fail
    generalize hBe : w.heap.size = B at *
    have HB := hid hBe; clear hBe
    go_loopw [3, 8] (fun s3 s8 wx => ∃ i : Nat, i ≤ G.length ∧ s8 = .int .i64 i ∧ Hid (wx.ownsRow B 79 2 s3 i (g64 (G.take i))) ∧ Hid (Kept [] w wx)) (fun _ s8 _ => G.length - (intOf s8).toNat)
    case atStart => exact ⟨0, by omega, rfl, N0, K0⟩
    case round =>
      obtain ⟨i, hi, rfl, HO, HK⟩ := hrel
      by_cases hlt : i < G.length
      · have hlt' : (i : Int) < (G.length : Int) := by omega
        have h0' : (0 : Int) ≤ (i : Int) := by omega
        have hH := ownsRow_kept H.out HK.out (by simp)
        have hget := flat2_get G (fun g => Value.int .u16 (g.1 : Nat)) (fun g => Value.int .u16 (g.2 : Nat)) i hlt
        have c0 : wr.cell? ⟨g, i * 2, none⟩ = some (.int .u16 (G[i].1 : Nat)) := by
          have := hH.cells (g := g) rfl (i * 2) _ hget.1
          rwa [addr_add, Nat.zero_add] at this
        have c1 : wr.cell? ⟨g, i * 2 + 1, none⟩ = some (.int .u16 (G[i].2 : Nat)) := by
          have := hH.cells (g := g) rfl (i * 2 + 1) _ hget.2
          rwa [addr_add, Nat.zero_add] at this
        have hs1 := hs G[i] (List.getElem_mem hlt)
        have u1 : IntKind.i64.wrap (G[i].1 : Int) = (G[i].1 : Int) := by rw [IntKind.wrap_i64]; omega
        have u2 : IntKind.i64.wrap (G[i].2 : Int) = (G[i].2 : Int) := by rw [IntKind.wrap_i64]; omega
        obtain ⟨Ao, Co, hform⟩ := own_form HO.out
        subst hform
        have hkA : Kept [] wr (wr.alloc (.cells #[.int .u16 (G[i].1 : Nat), .int .u16 (G[i].2 : Nat)] 146)) := (Kept.refl [] wr).alloc _
        have lgr : g < wr.heap.size := by have := HK.out.size; have := HB.out; omega
        clear hH hget
        obtain ⟨g6, cap6, w6, hr6, ho6, hk6⟩ := pairAppend 57 79 16 B i (.agg #[.int .i64 0, .int .i64 0]) Ao Co (g64 (G.take i)) (.cells #[.int .u16 (G[i].1 : Nat), .int .u16 (G[i].2 : Nat)] 146) (.int .i64 (G[i].1 : Nat)) (.int .i64 (G[i].2 : Nat)) wr Tryz.underlying57 iP64 rfl (by omega) HO.out (by have := HK.out.size; have := HB.out; omega) (by omega) rfl rfl
        have HO6 := hid ho6
        have HK6 := hid (HK.out.thenNew hk6 (by intro r hr; right; have := own_ge HO.out hr; have := HB.out; omega))
        clear ho6 hk6
        go_wp2_with (at_builtin; refine wpList_append_run rfl _ _ 57 rfl _ _ _ rfl rfl hr6 ?_)
        go_roundw
        case rel => exact ⟨i + 1, by omega, by go_num, hid (by rw [take_snoc' hlt, g64_snoc]; exact HO6.out), HK6⟩
        case measure => simp [intOf]; omega
      · have hlt' : ¬ (i : Int) < (G.length : Int) := by omega
        obtain rfl : i = G.length := by omega
        go_wp2_with fail
        go_ret
        exact ⟨_, rfl, by have h := HO.out; rw [List.take_length] at h; rw [HB.out]; exact h, HK.out⟩
set_option maxHeartbeats 2000000 in
theorem halves (base : Nat) (vg : Value) (G : List (Nat × Nat)) (w : World) (h : w.ownsRow base 79 2 vg G.length (g64 G)) (hn : G.length < 1000) (hs : ∀ g ∈ G, g.1 < 65536 ∧ g.2 < 65536) :
    Calls Tryz.prog 40 #[vg] w fun e w' => ∃ vo, e = .returned vo ∧ w'.ownsRow w.heap.size 146 2 vo G.length (g16 G) ∧ Kept [] w w' := by
  have K0 := hid (Kept.refl [] w)
  have N0 := hid (World.ownsRow_nil w w.heap.size 146 2)
  by_cases h0 : G.length = 0
  · obtain ⟨A, C, rfl⟩ := own_form h
    have hG : G = [] := List.length_eq_zero_iff.1 h0
    subst hG
    clear h hn h0
    go_enter Tryz.func40, Tryz.ntmps40
    go_wp2_with fail
    refine wp_loop_rounds 2 ?_
    rw [rounds_succ]
    go_wp2_with fail
    go_ret
    exact ⟨_, rfl, N0.out, K0.out⟩
  · obtain ⟨g, C, rfl, hc1, hc2⟩ := own_some h h0
    have hcm : C ≤ 9223372036854775807 := hc2
    have H := hid h; clear h h0 hc2
    have lg := (H.out.lt g rfl).2
    go_enter Tryz.func40, Tryz.ntmps40
    go_wp2_with fail
    generalize hBe : w.heap.size = B at *
    have HB := hid hBe; clear hBe
    go_loopw [3, 8] (fun s3 s8 wx => ∃ i : Nat, i ≤ G.length ∧ s8 = .int .i64 i ∧ Hid (wx.ownsRow B 146 2 s3 i (g16 (G.take i))) ∧ Hid (Kept [] w wx)) (fun _ s8 _ => G.length - (intOf s8).toNat)
    case atStart => exact ⟨0, by omega, rfl, N0, K0⟩
    case round =>
      obtain ⟨i, hi, rfl, HO, HK⟩ := hrel
      by_cases hlt : i < G.length
      · have hlt' : (i : Int) < (G.length : Int) := by omega
        have h0' : (0 : Int) ≤ (i : Int) := by omega
        have hH := ownsRow_kept H.out HK.out (by simp)
        have hget := flat2_get G (fun g => Value.int .i64 (g.1 : Nat)) (fun g => Value.int .i64 (g.2 : Nat)) i hlt
        have c0 : wr.cell? ⟨g, i * 2, none⟩ = some (.int .i64 (G[i].1 : Nat)) := by
          have := hH.cells (g := g) rfl (i * 2) _ hget.1
          rwa [addr_add, Nat.zero_add] at this
        have c1 : wr.cell? ⟨g, i * 2 + 1, none⟩ = some (.int .i64 (G[i].2 : Nat)) := by
          have := hH.cells (g := g) rfl (i * 2 + 1) _ hget.2
          rwa [addr_add, Nat.zero_add] at this
        have hs1 := hs G[i] (List.getElem_mem hlt)
        have u1 : IntKind.u16.wrap (G[i].1 : Int) = (G[i].1 : Int) := u16_id hs1.1
        have u2 : IntKind.u16.wrap (G[i].2 : Int) = (G[i].2 : Int) := u16_id hs1.2
        obtain ⟨Ao, Co, hform⟩ := own_form HO.out
        subst hform
        have hkA : Kept [] wr (wr.alloc (.cells #[.int .i64 (G[i].1 : Nat), .int .i64 (G[i].2 : Nat)] 79)) := (Kept.refl [] wr).alloc _
        have lgr : g < wr.heap.size := by have := HK.out.size; have := HB.out; omega
        clear hH hget
        obtain ⟨g6, cap6, w6, hr6, ho6, hk6⟩ := pairAppend 97 146 4 B i (.agg #[.int .u16 0, .int .u16 0]) Ao Co (g16 (G.take i)) (.cells #[.int .i64 (G[i].1 : Nat), .int .i64 (G[i].2 : Nat)] 79) (.int .u16 (G[i].1 : Nat)) (.int .u16 (G[i].2 : Nat)) wr Tryz.underlying97 iP16 rfl (by omega) HO.out (by have := HK.out.size; have := HB.out; omega) (by omega) rfl rfl
        have HO6 := hid ho6
        have HK6 := hid (HK.out.thenNew hk6 (by intro r hr; right; have := own_ge HO.out hr; have := HB.out; omega))
        clear ho6 hk6
        go_wp2_with (at_builtin; refine wpList_append_run rfl _ _ 97 rfl _ _ _ rfl rfl hr6 ?_)
        go_roundw
        case rel => exact ⟨i + 1, by omega, by go_num, hid (by rw [take_snoc' hlt, g16_snoc]; exact HO6.out), HK6⟩
        case measure => simp [intOf]; omega
      · have hlt' : ¬ (i : Int) < (G.length : Int) := by omega
        obtain rfl : i = G.length := by omega
        go_wp2_with fail
        go_ret
        exact ⟨_, rfl, by have h := HO.out; rw [List.take_length] at h; rw [HB.out]; exact h, HK.out⟩
end Go.Proofs.Base
end
section
namespace Go.Proofs.Base
open Go Go.Proofs Go.RowKit Go.Proofs.Gaps
set_option maxRecDepth 100000
theorem has_eq {f N u v j : Nat} {js : List Nat} {S : Nat → Bool} {W : Nat → Nat} (hq : QS N js u v S) (hw : Words f N S W) (hj : j ≤ N + 1) : has f u v (cnt S N) W j = S j := by
  by_cases hjN : j ≤ N
  · unfold has
    rw [hw.2 j hjN]
    cases hs : S j with
    | false => simp
    | true =>
      have h1 := ((hq.are j).1 hs).2
      have h2 := hq.tail j hs
      have h3 : cnt S N ≠ 0 := fun h0 => by rw [cnt_zero h0 j hjN] at hs; cases hs
      simp [h1, h2, h3]
  · have hv := hq.vN
    have h1 : S j = false := by
      cases hs : S j with
      | false => rfl
      | true => have := (hq.all j ((hq.are j).1 hs).1).2; omega
    rw [h1]
    simp [has]; omega
/-- The numbers of a list of places. -/
def nums (f : Nat) (js : List Nat) : List Nat := js.map (tsn f)
theorem nums_get {f : Nat} {js : List Nat} {i : Nat} (h : i < js.length) : (u32s (nums f js))[i]? = some (.int .u32 (tsn f js[i] : Nat)) := by simp [u32s, nums, h]
/-- The queue behind some numbers. -/
structure QI (w : World) (p bm f N base : Nat) (js : List Nat) (u v : Nat) (S : Nat → Bool) (W : Nat → Nat) (dv : Value) (ds : List Nat) : Prop where
  qat : QAt w p bm f u v (cnt S N) W dv
  own : w.ownsRow base 22 1 dv ds.length (u32s ds)
  wds : Words f N S W
  qs : QS N js u v S
  few : ds.length ≤ js.length
  small : ∀ x ∈ ds, x < 4294967296
theorem own_base {w : World} {base base' e sz n : Nat} {v : Value} {xs : List Value} (h : w.ownsRow base e sz v n xs) (hb : base' ≤ base) : w.ownsRow base' e sz v n xs := by
  refine ⟨h.1, ?_⟩
  rcases h.2 with h2 | ⟨g, cap, cur, rfl, k1, k2⟩
  · exact .inl h2
  · exact .inr ⟨g, cap, cur, rfl, Nat.le_trans hb k1, k2⟩
theorem gapsAny (p bm f N base : Nat) (js : List Nat) (u v : Nat) (S : Nat → Bool) (W : Nat → Nat) (dv : Value) (ds : List Nat) (w : World) (h : QI w p bm f N base js u v S W dv ds) (hT : Bruijn w) (hN : N < 64) :
    Calls Tryz.prog 58 #[.pointer (some ⟨p, 0, none⟩), .int .i64 65535] w fun e w' => ∃ vg G, e = .returned vg ∧ w'.ownsRow w.heap.size 151 2 vg G.length (g16 G) ∧ Tells N js u G ∧ Kept [] w w' := by
  by_cases hc : cnt S N = 0
  · have hq := h.qat
    rw [hc] at hq
    refine (gapsNone p bm f u v W dv w hq).mono ?_
    rintro e w' ⟨rfl, hk⟩
    exact ⟨_, [], rfl, World.ownsRow_nil _ _ _ _, h.qs.tells_nil hc, hk⟩
  · have hS := h.qs.top hc
    have huv := ((h.qs.are v).1 hS).2
    have hvN := h.qs.vN
    have hcl := cnt_le S N
    refine (gapsSome p bm f u v (cnt S N) N W S dv w h.qat hT (by omega) (by omega) hN h.wds hvN huv hS).mono ?_
    rintro e w' ⟨vg, G, rfl, ho, hcov, hl, hk⟩
    exact ⟨vg, G, rfl, ho, h.qs.tells hcov (by omega), hk⟩
set_option maxHeartbeats 4000000 in
theorem zzReceived (base f N : Nat) (vl : Value) (js : List Nat) (w : World) (hN : N < 64) (hjs : ∀ j ∈ js, 1 ≤ j ∧ j ≤ N) (hl : js.length < 900) (h : w.ownsRow base 22 1 vl js.length (u32s (nums f js))) (hT : Bruijn w) :
    Calls Tryz.prog 37 #[.int .u32 (tsn f 0 : Nat), vl] w fun e w' => ∃ u G ds vg vd, e = .returned (.tuple #[.int .u32 (tsn f u : Nat), vg, vd]) ∧ Tells N js u G ∧ u + 1 ∉ js ∧
      w'.ownsRow w.heap.size 146 2 vg G.length (g16 G) ∧ w'.ownsRow w.heap.size 22 1 vd ds.length (u32s ds) ∧ ds.length ≤ js.length ∧ (∀ x ∈ ds, x < 4294967296) ∧ Kept [] w w' := by
  obtain ⟨A, C, rfl⟩ := own_form h
  have H := hid h; have HT := hid hT; have HJ := hid hjs
  clear h hT hjs
  go_enter Tryz.func37, Tryz.ntmps37
  go_wp2_with fail
  refine (newQueue w).mono ?_
  rintro e w1 ⟨bm, p, rfl, hb1, hb2, hm1, hq1, hk1⟩
  have hQ1 : QAt w1 p bm 0 0 0 0 (fun _ => 0) (.slice none 0 0) := ⟨hq1, hm1⟩
  clear hm1 hq1
  go_wp2_with fail
  refine (initQueue p bm f w1 hQ1).mono ?_
  rintro e w2 ⟨rfl, hQ2, hk2⟩
  have hk12 : Kept [] w w2 := hk1.thenNew hk2 (by intro r hr; right; simp at hr; omega)
  have HK2 := hid hk12
  have HQ2 : Hid (QI w2 p bm f N w.heap.size [] 0 0 (fun _ => false) (fun _ => 0) (.slice none 0 0) []) := by
    have hc : cnt (fun _ => false) N = 0 := cnt_none (fun _ _ => rfl)
    refine hid ⟨by rw [hc]; exact hQ2, World.ownsRow_nil _ _ _ _, ⟨fun k _ => Nat.two_pow_pos 64, fun j _ => by simp⟩, QS.start N, Nat.le_refl _, fun x hx => by cases hx⟩
  clear hQ1 hQ2 hk1 hk2 hk12
  go_wp2_with fail
  have lp := hid hb2
  have lbm := hid hb1
  clear hb1 hb2
  go_loopw [16] (fun s16 wx => ∃ (i u v : Nat) (S : Nat → Bool) (W : Nat → Nat) (dv : Value) (ds : List Nat), i ≤ js.length ∧ s16 = .int .i64 i ∧ Hid (QI wx p bm f N w.heap.size (js.take i) u v S W dv ds) ∧ Hid (S (u + 1) = false) ∧ Hid (Kept [] w wx)) (fun s16 _ => js.length - (intOf s16).toNat)
  case atStart => exact ⟨0, 0, 0, _, _, _, _, by omega, rfl, HQ2, hid rfl, HK2⟩
  case round =>
    obtain ⟨i, u, v, S, W, dv, ds, hi, rfl, HQI, HSU, HK⟩ := hrel
    by_cases hlt : i < js.length
    · have hlt' : (i : Int) < (js.length : Int) := by omega
      have h0' : (0 : Int) ≤ (i : Int) := by omega
      obtain ⟨g, cap', hv, _, _⟩ := own_some H.out (by omega)
      simp only [Value.slice.injEq, true_and] at hv
      obtain ⟨rfl, rfl⟩ := hv
      have lg := (H.out.lt g rfl).2
      have hH := ownsRow_kept H.out HK.out (by simp)
      have c0 : wr.cell? ⟨g, i, none⟩ = some (.int .u32 (tsn f js[i] : Nat)) := by
        have := hH.cells (g := g) rfl i _ (nums_get hlt)
        rwa [addr_add, Nat.zero_add] at this
      have hji := HJ.out js[i] (List.getElem_mem hlt)
      have lgr : g < wr.heap.size := Nat.lt_of_lt_of_le lg HK.out.size
      have HTK := hid (take_snoc' hlt)
      -- what a push leaves
      have HP : Hid (Calls Tryz.prog 54 #[.pointer (some ⟨p, 0, none⟩), .int .u32 (tsn f js[i] : Nat)] wr fun e w' => IsBool e ∧ ∃ (u v : Nat) (S : Nat → Bool) (W : Nat → Nat) (dv : Value) (ds : List Nat), QI w' p bm f N w.heap.size (js.take (i + 1)) u v S W dv ds ∧ Kept [] w w') := by
        have hq := HQI.out
        have hqs := hq.qs
        have huN := hqs.uN; have hvN := hqs.vN
        have hcl := cnt_le S N
        have hsz := HK.out.size
        by_cases hin : js[i] ∈ js.take i
        · have hk := (hqs.known hji.1).2 hin
          have hold : js[i] ≤ u ∨ has f u v (cnt S N) W js[i] = true := by
            rcases hk with h | h
            · exact .inl h
            · exact .inr (by rw [has_eq hqs hq.wds (by omega)]; exact h)
          have hfew := hq.few
          simp at hfew
          refine hid ((pushOld p bm f u v (cnt S N) js[i] w.heap.size W dv ds wr hq.qat hq.own hsz (by omega) (by omega) (by omega) (by omega) (by omega) hq.wds.1 hold).mono ?_)
          rintro e w' ⟨rfl, dv', hQ', hown', hk'⟩
          refine ⟨⟨false, rfl⟩, u, v, S, W, dv', ds ++ [tsn f js[i]], ⟨hQ', by simpa using hown', hq.wds, by rw [HTK.out]; exact hqs.again hin, by rw [HTK.out]; have := hq.few; simp at this ⊢; omega, fun x hx => ?_⟩, HK.out.thenNew hk' (by
            intro r hr; right; have h1 := lp.out; have h2 := lbm.out; simp at hr
            rcases hr with rfl | hr
            · omega
            · exact own_ge hq.own hr)⟩
          rcases List.mem_append.1 hx with hx | hx
          · exact hq.small x hx
          · simp at hx; subst hx; exact tsn_lt f _
        · have hk : ¬ (js[i] ≤ u ∨ S js[i] = true) := fun h => hin ((hqs.known hji.1).1 h)
          have hSj : S js[i] = false := by cases h : S js[i] with
            | false => rfl
            | true => exact absurd (.inr h) hk
          have huj : u < js[i] := by
            rcases Nat.lt_or_ge u js[i] with h | h
            · exact h
            · exact absurd (.inl h) hk
          refine hid ((pushNew p bm f u v (cnt S N) js[i] W dv wr hq.qat (by omega) (by omega) (by omega) (by omega) hq.wds.1 huj (by rw [has_eq hqs hq.wds (by omega)]; exact hSj)).mono ?_)
          rintro e w' ⟨rfl, hQ', hk'⟩
          have hp1 : p ∉ own dv := own_far hq.own hq.qat.q (by decide)
          have hp2 : bm ∉ own dv := own_far hq.own hq.qat.m (by decide)
          refine ⟨⟨true, rfl⟩, u, if v < js[i] then js[i] else v, fun k => S k || decide (k = js[i]), _, dv, ds, ⟨by rw [cnt_add hji.2 hSj]; exact hQ', ownsRow_kept hq.own hk' (by intro g hg; simp; exact ⟨fun e => hp1 (e ▸ own_mem.2 hg), fun e => hp2 (e ▸ own_mem.2 hg)⟩), hq.wds.push hN hji.2, by rw [HTK.out]; exact hqs.push hji.1 hji.2 hin, by rw [HTK.out]; have := hq.few; simp at this ⊢; omega, hq.small⟩, HK.out.thenNew hk' (by
            intro r hr; right; have h1 := lp.out; have h2 := lbm.out; simp at hr; omega)⟩
      clear hH
      go_wp2_with fail
      refine HP.out.mono ?_
      rintro e w3 ⟨⟨cb, rfl⟩, u3, v3, S3, W3, dv3, ds3, hq3, hk3⟩
      have HQ3 := hid hq3; have HK3 := hid hk3
      clear hq3 hk3
      go_wp2_with fail
      go_loopw [] (fun wx => ∃ (u v : Nat) (S : Nat → Bool) (W : Nat → Nat), Hid (QI wx p bm f N w.heap.size (js.take (i + 1)) u v S W dv3 ds3) ∧ Hid (Kept [] w wx)) (fun wx => N + 1 - rel f (intOf ((wx.cell? ⟨p, 5, none⟩).getD undef)).toNat)
      case atStart => exact ⟨u3, v3, S3, W3, HQ3, HK3⟩
      case round =>
        obtain ⟨u4, v4, S4, W4, HQ4, HK4⟩ := hrel
        have hq := HQ4.out
        have hqs := hq.qs
        have huN := hqs.uN; have hvN := hqs.vN
        have hcl := cnt_le S4 N
        have c5 : wr.cell? ⟨p, 5, none⟩ = some (.int .u32 (tsn f u4 : Nat)) := blk_cell hq.qat.q rfl
        cases hs : S4 (u4 + 1) with
        | true =>
          have hP := hid (popYes p bm f u4 v4 (cnt S4 N) W4 dv3 wr hq.qat (by omega) (by omega) (by omega) hq.wds.1 (by rw [has_eq hqs hq.wds (by omega)]; exact hs))
          have hjN : u4 + 1 ≤ N := (hqs.all _ ((hqs.are _).1 hs).1).2
          have hp1 : p ∉ own dv3 := own_far hq.own hq.qat.q (by decide)
          have hp2 : bm ∉ own dv3 := own_far hq.own hq.qat.m (by decide)
          have HS := hid hs; have HHQ := hid hq; have C5 := hid c5
          clear hs hq hqs huN hvN hcl c5
          go_wp2_with fail
          refine hP.out.mono ?_
          rintro e w5 ⟨rfl, hQ5, hk5⟩
          have HQ5 := hid hQ5; have HK5 := hid hk5
          clear hQ5 hk5
          go_wp2_with fail
          go_roundw
          case rel =>
            refine ⟨u4 + 1, v4, fun k => S4 k && !decide (k = u4 + 1), _, hid ⟨?_, ownsRow_kept HHQ.out.own HK5.out (by intro g hg; simp; exact ⟨fun e => hp1 (e ▸ own_mem.2 hg), fun e => hp2 (e ▸ own_mem.2 hg)⟩), HHQ.out.wds.pop hN hjN, HHQ.out.qs.pop HS.out, HHQ.out.few, HHQ.out.small⟩, hid (HK4.out.thenNew HK5.out (by
              intro r hr; right; have h1 := lp.out; have h2 := lbm.out; simp at hr; omega))⟩
            have hc := cnt_del hjN HS.out
            have h5 := HQ5.out
            rw [show cnt S4 N - 1 = cnt (fun k => S4 k && !decide (k = u4 + 1)) N by omega] at h5
            exact h5
          case measure =>
            have h5 : w5.cell? ⟨p, 5, none⟩ = some (.int .u32 (tsn f (u4 + 1) : Nat)) := blk_cell HQ5.out.q rfl
            rw [h5, C5.out]
            simp only [Option.getD_some, intOf, Int.toNat_natCast]
            rw [rel_tsn (by omega), rel_tsn (by omega)]
            omega
        | false =>
          have hP := hid (popNo p bm f u4 v4 (cnt S4 N) W4 dv3 wr hq.qat (by omega) (by omega) (by omega) hq.wds.1 (by rw [has_eq hqs hq.wds (by omega)]; exact hs))
          have HS := hid hs
          clear hs hq hqs huN hvN hcl c5
          go_wp2_with fail
          refine hP.out.mono ?_
          rintro e w5 ⟨rfl, rfl⟩
          go_wp2_with fail
          go_roundw
          case rel => exact ⟨i + 1, u4, v4, S4, W4, dv3, ds3, by omega, by go_num, HQ4, HS, HK4⟩
          case measure => simp [intOf]; omega
    · have hlt' : ¬ (i : Int) < (js.length : Int) := by omega
      obtain rfl : i = js.length := by omega
      go_wp2_with fail
      have hq := HQI.out
      rw [List.take_length] at hq
      have HQ := hid hq; clear hq HQI
      have H1 := hid (getCum p bm f u v (cnt S N) W dv wr HQ.out.qat)
      have H2 := hid (gapsAny p bm f N w.heap.size js u v S W dv ds wr HQ.out (HT.out.kept HK.out (by simp)) hN)
      refine H1.out.mono ?_
      rintro e w5 ⟨rfl, rfl⟩
      go_wp2_with fail
      refine H2.out.mono ?_
      rintro e w6 ⟨vg, G, rfl, ho6, ht6, hk6⟩
      have hG : G.length < 1000 := by have := ht6.few; omega
      have hs56 := hk6.size
      have H3 := hid (zzGaps _ vg G w6 ho6 hG)
      have hq6 := HQ.out.qat.kept hk6 (by simp) (by simp)
      have ho7 := ownsRow_kept HQ.out.own hk6 (by simp)
      have HT6 := hid ht6; have HK6 := hid hk6; have HO7 := hid ho7; have HQ6 := hid hq6
      clear ho6 ht6 hk6 H1 H2 hG hq6 ho7
      go_wp2_with fail
      refine H3.out.mono ?_
      rintro e w7 ⟨vo, rfl, ho8, hk7⟩
      have hq7 := HQ6.out.kept hk7 (by simp) (by simp)
      have H4 := hid (popDups p bm f u v (cnt S N) W dv w7 hq7)
      have ho9 := ownsRow_kept HO7.out hk7 (by simp)
      have hs67 := hk7.size
      have HO8 := hid ho8; have HO9 := hid ho9; have HK7 := hid hk7; have HQ7 := hid hq7
      clear ho8 ho9 hk7 hq7 H3
      go_wp2_with fail
      refine H4.out.mono ?_
      rintro e w8 ⟨rfl, hk8⟩
      have HK8 := hid hk8
      clear hk8 H4
      go_wp2_with fail
      first | go_ret2 | go_returns
      have hp1 : p ∉ own vo := own_far HO8.out HQ7.out.q (by decide)
      have hp2 : p ∉ own dv := own_far HO9.out HQ7.out.q (by decide)
      have hsz := HK.out.size
      refine ⟨u, G, ds, vo, dv, rfl, HT6.out, fun h => ?_, ownsRow_kept (own_base HO8.out (by omega)) HK8.out (by intro g hg; simp; exact fun e => hp1 (e ▸ own_mem.2 hg)), ownsRow_kept HO9.out HK8.out (by intro g hg; simp; exact fun e => hp2 (e ▸ own_mem.2 hg)), HQ.out.few, HQ.out.small, ?_⟩
      · have := (HQ.out.qs.are (u + 1)).2 ⟨h, by omega⟩
        rw [HSU.out] at this; cases this
      · exact ((HK.out.trans HK6.out).trans HK7.out).thenNew HK8.out (by intro r hr; right; have h1 := lp.out; have h2 := lbm.out; simp at hr; omega)
end Go.Proofs.Base
end
section
namespace Go.Proofs.Base
open Go Go.Proofs Go.RowKit Go.Proofs.Gaps
set_option maxRecDepth 100000
theorem u32s_one (l : List Nat) : ∀ v ∈ u32s l, v.oneCell' = true := by
  intro v hv
  simp [u32s] at hv
  obtain ⟨x, _, rfl⟩ := hv
  rfl
/-- append([]uint32(nil), l...): a copy. -/
theorem copy32 (ty base : Nat) (vl : Value) (l : List Nat) (w : World) (h : w.ownsRow base 22 1 vl l.length (u32s l)) (hn : l.length < 100000) :
    ∃ v' w', (Builtin.append_ #[35, 35] ty #[.slice none 0 0, vl]).run Tryz.prog w = .ok v' w' ∧ w'.ownsRow w.heap.size 22 1 v' l.length (u32s l) ∧ Kept [] w w' := by
  rcases h.2 with ⟨rfl, h0⟩ | ⟨g, cap, cur, rfl, h1, h2, h3, h4, h5⟩
  · have hl : l = [] := List.length_eq_zero_iff.1 h0
    subst hl
    exact ⟨.slice none 0 0, w, by rfl, World.ownsRow_nil _ _ _ _, Kept.refl [] w⟩
  · obtain ⟨i, hi, hz, hs, hb⟩ := info_parts i22
    obtain ⟨v', w', hr, hown, hg, hnil⟩ := run_append_own (P := Tryz.prog) w w.heap.size 35 ty 22 i (.int .u32 0) 1 4 Tryz.underlying35 hi hz hs hb rfl (by decide) (.slice none 0 0) 0 [] (World.ownsRow_nil _ _ _ _) ⟨g, 0, none⟩ l.length cap (u32s l) (by simp [u32s])
      (fun j u hu => h.cells (g := g) rfl j u hu) (u32s_one l) (by unfold maxLen; omega) (by omega) (Nat.le_refl _)
    rw [Nat.zero_add, List.nil_append] at hown
    exact ⟨v', w', hr, hown, grown_kept hg (by simp [Value.ownBlock])⟩
theorem sizeSack : (Tryz.prog.info? 59).map (·.size) = some 4 := by kernel_rfl
set_option maxHeartbeats 4000000 in
theorem Received (base f N : Nat) (vl : Value) (js : List Nat) (w : World) (hN : N < 64) (hjs : ∀ j ∈ js, 1 ≤ j ∧ j ≤ N) (hl : js.length < 900) (h : w.ownsRow base 22 1 vl js.length (u32s (nums f js))) (hT : Bruijn w) :
    Calls Tryz.prog 26 #[.int .u32 (tsn f 0 : Nat), vl] w fun e w' => ∃ u G ds vg vd, e = .returned (.tuple #[.agg #[.int .u32 (tsn f u : Nat), .int .u32 0, vg, vd], .bool true]) ∧ Tells N js u G ∧ u + 1 ∉ js ∧
      w'.ownsRow w.heap.size 79 2 vg G.length (g64 G) ∧ w'.ownsRow w.heap.size 22 1 vd ds.length (u32s ds) ∧ ds.length ≤ js.length ∧ (∀ x ∈ ds, x < 4294967296) ∧ Kept [] w w' := by
  have hlen : (nums f js).length = js.length := by simp [nums]
  have hkA : Kept [] w (w.alloc (.cells #[.int .u32 0, .int .u32 0, .slice none 0 0, .slice none 0 0] 59)) := (Kept.refl [] w).alloc _
  have hA := blk_new w (.cells #[.int .u32 0, .int .u32 0, .slice none 0 0, .slice none 0 0] 59)
  obtain ⟨v1, w1, hr1, ho1, hk1⟩ := copy32 35 base vl (nums f js) (w.alloc (.cells #[.int .u32 0, .int .u32 0, .slice none 0 0, .slice none 0 0] 59)) (by rw [hlen]; exact ownsRow_kept h hkA (by simp)) (by omega)
  rw [hlen] at ho1
  have hA1 := (hk1.block _ (blk_lt hA) (by simp)).trans hA
  have hk01 := hkA.trans hk1
  have H1 := hid (zzReceived _ f N v1 js w1 hN hjs hl ho1 (hT.kept hk01 (by simp)))
  have HK1 := hid hk01; have HA1 := hid hA1
  have hs1 := hk01.size
  clear h hT hjs ho1 hk1 hlen hkA hA hA1 hk01
  go_enter Tryz.func26, Tryz.ntmps26
  go_wp2_with (at_builtin; refine wpList_append_run rfl _ _ 35 rfl _ _ _ rfl rfl hr1 ?_)
  refine H1.out.mono ?_
  rintro e w2 ⟨u, G, ds, vg, vd, rfl, hte, hnu, hog, hod, hdl, hds, hk2⟩
  have hG : G.length < 1000 := by have := hte.few; omega
  have hGs : ∀ g ∈ G, g.1 < 65536 ∧ g.2 < 65536 := fun g hg => by have := hte.are g hg; omega
  have H2 := hid (fun (wx : World) (hx : Kept [] w2 wx) => pairs _ vg G wx (ownsRow_kept hog hx (by simp)) hG hGs)
  have HTE := hid hte; have HOD := hid hod; have HDS := hid hds; have HK2 := hid hk2
  clear hte hog hod hds hk2 hG hGs H1
  go_wp2_with fail
  refine (H2.out w2 (Kept.refl [] w2)).mono ?_
  rintro e w3 ⟨vo, rfl, hov, hk3⟩
  obtain ⟨v4, w4, hr4, ho4, hk4⟩ := copy32 35 w1.heap.size vd ds w3 (ownsRow_kept HOD.out hk3 (by simp)) (by omega)
  obtain ⟨Ao, Co, rfl⟩ := own_form hov
  obtain ⟨Ad, Cd, rfl⟩ := own_form ho4
  have hk14 := (HK2.out.trans hk3).trans hk4
  have hA4 := (hk14.block w.heap.size (blk_lt HA1.out) (by simp)).trans HA1.out
  have hov4 := ownsRow_kept hov hk4 (by simp)
  have hs23 := HK2.out.size; have hs34 := hk3.size
  have hgo : ∀ g, g ∈ own (.slice Ao G.length Co) → w2.heap.size ≤ g := fun g hg => own_ge hov hg
  have hgd : ∀ g, g ∈ own (.slice Ad ds.length Cd) → w3.heap.size ≤ g := fun g hg => own_ge ho4 hg
  have lA1 := blk_lt HA1.out
  have hb02 : w.heap.size ≤ w2.heap.size := by omega
  have hb03 : w.heap.size ≤ w3.heap.size := by omega
  have HA4 := hid hA4; have HO4 := hid ho4; have HOV := hid hov4; have HK4 := hid (HK1.out.trans hk14)
  have f4 : ∀ i, w4.frozen? ⟨w.heap.size, i, none⟩ = false := fun i => blk_free hA4
  have a0 : w4.cell? ⟨w.heap.size, 0, none⟩ = some (.int .u32 0) := blk_cell hA4 rfl
  have a1 : w4.cell? ⟨w.heap.size, 1, none⟩ = some (.int .u32 0) := blk_cell hA4 rfl
  have a2 : w4.cell? ⟨w.heap.size, 2, none⟩ = some (.slice none 0 0) := blk_cell hA4 rfl
  have a3 : w4.cell? ⟨w.heap.size, 3, none⟩ = some (.slice none 0 0) := blk_cell hA4 rfl
  have lA4 := blk_lt hA4
  clear hk3 hk4 hk14 hA4 hov hov4 ho4 H2
  go_wp2_with (at_builtin; refine wpList_append_run rfl _ _ 35 rfl _ _ _ rfl rfl hr4 ?_)
  generalize hW : World.setCell _ _ _ = w5
  have hbl : w5.heap[w.heap.size]? = some (.cells #[.int .u32 (tsn f u : Nat), .int .u32 0, .slice Ao G.length Co, .slice Ad ds.length Cd] 59 (0, 0)) := by
    rw [← hW, blk_setCell _ (blk_setCell _ (blk_setCell _ (blk_setCell _ HA4.out)))]; rfl
  have hk45 : Kept [w.heap.size] w4 w5 := by
    rw [← hW]
    exact ((((Kept.refl [w.heap.size] w4).setCell (p := ⟨w.heap.size, 0, none⟩) _ (.inl (by simp))).setCell (p := ⟨w.heap.size, 1, none⟩) _ (.inl (by simp))).setCell (p := ⟨w.heap.size, 2, none⟩) _ (.inl (by simp))).setCell (p := ⟨w.heap.size, 3, none⟩) _ (.inl (by simp))
  clear hW
  have hv := run_loadVar_blk (cs := #[.int .u32 (tsn f u : Nat), .int .u32 0, .slice Ao G.length Co, .slice Ad ds.length Cd]) Tryz.underlying59 sizeSack hbl
  refine bodyPost_ret (v := .tuple #[.agg #[.int .u32 (tsn f u : Nat), .int .u32 0, .slice Ao G.length Co, .slice Ad ds.length Cd], .bool true]) (results_cell_tmp2' rfl rfl rfl hv) rfl ⟨u, G, ds, _, _, rfl, HTE.out, hnu, ?_, ?_, hdl, HDS.out, HK4.out.thenNew hk45 (by simp)⟩
  · exact ownsRow_kept (own_base HOV.out hb02) hk45 (by intro g hg; have := hgo g (own_mem.2 hg); simp; omega)
  · exact ownsRow_kept (own_base HO4.out hb03) hk45 (by intro g hg; have := hgd g (own_mem.2 hg); simp; omega)
end Go.Proofs.Base
end
