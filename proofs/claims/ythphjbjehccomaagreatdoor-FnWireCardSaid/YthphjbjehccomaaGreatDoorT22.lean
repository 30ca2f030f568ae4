/- A part of the proof, step T22: what the code and the plain laws of this step give. Made by AI agents; no person has read it. -/
import Derived.Test.YthphjbjehccomaaGreatDoorH3
import Derived.Test.YthphjbjehccomaaGreatDoorT19
import Derived.Test.YthphjbjehccomaaGreatDoorG6
namespace Go.Proofs.Base
open Go Go.Proofs Go.RowKit Go.Proofs.Gaps
set_option maxRecDepth 100000
structure BoolsAt (w : World) (b n : Nat) (z : Nat → Bool) : Prop where
  lt : b < w.heap.size
  cell : ∀ j, j < n → w.cell? ⟨b, j, none⟩ = some (.bool (z j))
theorem BoolsAt.kept {w w' : World} {b n : Nat} {z : Nat → Bool} (h : BoolsAt w b n z) {S : List Nat} (k : Kept S w w') (hb : b ∉ S) : BoolsAt w' b n z :=
  ⟨Nat.lt_of_lt_of_le h.lt k.size, fun j hj => (k.cell (p := ⟨b, j, none⟩) h.lt hb).trans (h.cell j hj)⟩
def i64s (l : List Nat) : List Value := l.map fun x : Nat => Value.int .i64 (x : Int)
def bls (l : List Bool) : List Value := l.map Value.bool
theorem i64s_append (a b : List Nat) : i64s (a ++ b) = i64s a ++ i64s b := by simp [i64s]
theorem bls_append (a b : List Bool) : bls (a ++ b) = bls a ++ bls b := by simp [bls]
theorem iInt : (Tryz.prog.info? 3).map (fun i => (i.zero, i.size, i.bytes)) = some (some (.int .i64 0), 1, 8) := by kernel_rfl
theorem iBoo : (Tryz.prog.info? 4).map (fun i => (i.zero, i.size, i.bytes)) = some (some (.bool false), 1, 1) := by kernel_rfl
/-- append of k elements to a row of the call's own. -/
theorem appendOwnK (t e by' n k b c ty base : Nat) (z v : Value) (xs ys : List Value) (w : World) (ht : Tryz.prog.underlying t = some (.slice e)) (hi : (Tryz.prog.info? e).map (fun i => (i.zero, i.size, i.bytes)) = some (some z, 1, by')) (hz : z.cells.size = 1)
    (hb : by' ≤ 1000) (hn : n ≤ 1000000) (hk0 : 0 < k) (hk : k ≤ 10) (hown : w.ownsRow base e 1 v n xs) (hbase : base ≤ w.heap.size) (hys : ys.length = k) (h1 : ∀ u ∈ ys, u.oneCell' = true) (hx : w.heap[b]? = some (.cells ys.toArray e (0, 0))) :
    ∃ g cap' w', (Builtin.append_ #[t, t] ty #[v, .slice (some ⟨b, 0, none⟩) k c]).run Tryz.prog w = .ok (.slice (some ⟨g, 0, none⟩) (n + k) cap') w' ∧ w'.ownsRow base e 1 (.slice (some ⟨g, 0, none⟩) (n + k) cap') (n + k) (xs ++ ys) ∧ Kept (own v) w w' := by
  obtain ⟨i, hi, hz', hs, hby⟩ := info_parts hi
  obtain ⟨v', w', hr, hown', hgr, hnil⟩ := run_append_own (P := Tryz.prog) w base t ty e i z 1 by' ht hi hz' hs hby hz (by decide) v n xs hown ⟨b, 0, none⟩ k c ys (by simpa using hys)
    (fun j u hu => by rw [addr_add, Nat.zero_add]; exact blk_cell hx (by simpa using hu)) h1 (by unfold maxLen; omega) (by
      have h1 : (n + k) * by' ≤ 1000010 * 1000 := Nat.mul_le_mul (by omega) hb
      omega) hbase
  rcases hown'.2 with ⟨rfl, h0⟩ | ⟨g, cap', cur, rfl, k1, k2, k3, k4, k5, k6⟩
  · omega
  · exact ⟨g, cap', w', hr, hown', grown_kept hgr (by intro k hk; rw [own_mem]; exact hk)⟩
theorem bothAppend (C n k : Nat) (Ax Ay : Option Addr) (Cx Cy : Nat) (X xs : List Nat) (Y ys : List Bool) (c1 c2 : Array Value) (w : World) (hx : w.ownsRow C 3 1 (.slice Ax n Cx) n (i64s X)) (hy : w.ownsRow C 4 1 (.slice Ay n Cy) n (bls Y))
    (h1 : c1 = (i64s xs).toArray) (h2 : c2 = (bls ys).toArray) (hk0 : 0 < k) (hk : k ≤ 10) (hxs : xs.length = k) (hys : ys.length = k) (hn : n ≤ 1000) (hC : C ≤ w.heap.size) :
    ∃ g6 p6 w6 g7 p7 w7, (Builtin.append_ #[34, 34] 34 #[.slice Ax n Cx, .slice (some ⟨w.heap.size, 0, none⟩) k k]).run Tryz.prog (w.alloc (.cells c1 3)) = .ok (.slice (some ⟨g6, 0, none⟩) (n + k) p6) w6 ∧
      (Builtin.append_ #[51, 51] 51 #[.slice Ay n Cy, .slice (some ⟨w6.heap.size, 0, none⟩) k k]).run Tryz.prog (w6.alloc (.cells c2 4)) = .ok (.slice (some ⟨g7, 0, none⟩) (n + k) p7) w7 ∧
      w7.ownsRow C 3 1 (.slice (some ⟨g6, 0, none⟩) (n + k) p6) (n + k) (i64s (X ++ xs)) ∧ w7.ownsRow C 4 1 (.slice (some ⟨g7, 0, none⟩) (n + k) p7) (n + k) (bls (Y ++ ys)) ∧
      Kept (own (.slice Ax n Cx) ++ own (.slice Ay n Cy)) w w7 := by
  subst h1 h2
  have hkA : Kept [] w (w.alloc (.cells (i64s xs).toArray 3)) := (Kept.refl [] w).alloc _
  obtain ⟨g6, p6, w6, hr6, ho6, hk6⟩ := appendOwnK 34 3 8 n k w.heap.size k 34 C (.int .i64 0) (.slice Ax n Cx) (i64s X) (i64s xs) (w.alloc (.cells (i64s xs).toArray 3)) Tryz.underlying34 iInt rfl (by decide) (by omega) hk0 hk
    (ownsRow_kept hx hkA (by simp)) (by have := hkA.size; omega) (by simp [i64s, hxs]) (by intro u hu; simp [i64s] at hu; obtain ⟨x, _, rfl⟩ := hu; rfl) (blk_new w _)
  have hkB : Kept [] w6 (w6.alloc (.cells (bls ys).toArray 4)) := (Kept.refl [] w6).alloc _
  have hkw6 := (hkA.more (R := own (.slice Ax n Cx)) (by simp)).trans hk6
  have hy6 := ownsRow_kept hy hkw6 (own_apart hy hx (by decide))
  obtain ⟨g7, p7, w7, hr7, ho7, hk7⟩ := appendOwnK 51 4 1 n k w6.heap.size k 51 C (.bool false) (.slice Ay n Cy) (bls Y) (bls ys) (w6.alloc (.cells (bls ys).toArray 4)) Tryz.underlying51 iBoo rfl (by decide) (by omega) hk0 hk
    (ownsRow_kept hy6 hkB (by simp)) (by have := hkw6.size; have := hkB.size; omega) (by simp [bls, hys]) (by intro u hu; simp [bls] at hu; rcases hu with ⟨_, rfl⟩ | ⟨_, rfl⟩ <;> rfl) (blk_new w6 _)
  have hkw7 := (hkB.more (R := own (.slice Ay n Cy)) (by simp)).trans hk7
  have hx7 := ownsRow_kept ho6 hkw7 (own_apart ho6 hy6 (by decide))
  refine ⟨g6, p6, w6, g7, p7, w7, hr6, hr7, by rw [i64s_append]; exact hx7, by rw [bls_append]; exact ho7, (hkw6.more (fun r hr => .inl (by simp [hr]))).trans (hkw7.more (fun r hr => .inl (by simp [hr])))⟩
set_option maxHeartbeats 6000000 in
theorem Came (ab ao an acap kb n : Nat) (act : Nat → Int) (turn : Nat) (bit : Int) (lost : Bool) (known : Nat → Bool) (w : World) (ha : ∀ j, j < an → w.cell? ⟨ab, ao + j, none⟩ = some (.int .i64 (act j))) (hab : ab < w.heap.size) (hact : ∀ j, j < an → 0 ≤ act j ∧ act j ≤ 3) (han : 0 < an) (han' : an ≤ 20) (_hac : an ≤ acap)
    (hk : BoolsAt w kb n known) (hn : n ≤ 64) (ht : turn < 9223372036854775808) :
    Calls Tryz.prog 14 #[.agg #[.slice (some ⟨ab, ao, none⟩) an acap, .int .i64 turn, .int .i64 bit, .bool lost], .slice (some ⟨kb, 0, none⟩) n n] w fun e w' => ∃ vo vb, e = .returned (.tuple #[vo, vb]) ∧
      w'.ownsRow w.heap.size 3 1 vo (came (unknown known n) act an turn (unknown known n).length).length (i64s ((came (unknown known n) act an turn (unknown known n).length).map (·.1))) ∧
      w'.ownsRow w.heap.size 4 1 vb (came (unknown known n) act an turn (unknown known n).length).length (bls ((came (unknown known n) act an turn (unknown known n).length).map (·.2))) ∧ Kept [] w w' := by
  have HA := hid ha; have HK0 := hid hk; have HACT := hid hact
  clear ha hk hact
  go_enter Tryz.func14, Tryz.ntmps14
  go_wp2_with fail
  generalize hW : World.alloc _ _ = w1
  have hk1 : Kept [] w w1 := by rw [← hW]; exact ((Kept.refl [] w).alloc _).alloc _
  have hR1 : w1.heap[w.heap.size]? = some (.cells #[.slice (some ⟨ab, ao, none⟩) an acap, .int .i64 turn, .int .i64 bit, .bool lost] 49 (0, 0)) := by rw [← hW]; exact blk_alloc _ (blk_new w _)
  have hE1 : w1.heap[w.heap.size + 1]? = some (.cells #[] 3 (0, 0)) := by
    rw [← hW]
    have h := blk_new (w.alloc (.cells #[.slice (some ⟨ab, ao, none⟩) an acap, .int .i64 turn, .int .i64 bit, .bool lost] 49)) (.cells #[] 3)
    simp only [World.size_alloc] at h
    exact h
  clear hW
  generalize hB : w.heap.size = B at *
  have hab' : ab < w.heap.size := by rw [hB]; exact hab
  have HB := hid hB; clear hB
  have HO1 := hid (show w1.ownsRow B 3 1 (.slice (some ⟨B + 1, 0, none⟩) 0 0) 0 [] from ⟨rfl, .inr ⟨B + 1, 0, #[], rfl, by omega, hE1, Nat.le_refl _, by unfold maxLen; omega, rfl, rfl⟩⟩)
  have HK1 := hid hk1; have HR1 := hid hR1
  clear hk1 hE1 hR1
  go_loopw [6, 16] (fun s6 s16 wx => ∃ (i : Nat), i ≤ n ∧ s16 = .int .i64 i ∧ Hid (wx.ownsRow B 3 1 s6 (unknown known i).length (i64s (unknown known i))) ∧ Hid (wx.heap[B]? = some (.cells #[.slice (some ⟨ab, ao, none⟩) an acap, .int .i64 turn, .int .i64 bit, .bool lost] 49 (0, 0))) ∧ Hid (Kept [] w wx)) (fun _ s16 _ => n - (intOf s16).toNat)
  case atStart => exact ⟨0, by omega, rfl, HO1, HR1, HK1⟩
  case round =>
    obtain ⟨i, hi, rfl, HO, HR, HK⟩ := hrel
    by_cases hlt : i < n
    · have hlt' : (i : Int) < (n : Int) := by omega
      have h0' : (0 : Int) ≤ (i : Int) := by omega
      have c0 := (HK0.out.kept HK.out (by simp)).cell i hlt
      have lkb : kb < wr.heap.size := (HK0.out.kept HK.out (by simp)).lt
      have hul := unknown_length known i
      have hus := unknown_succ known i
      by_cases hkn : known i = true
      · rw [hkn] at c0
        rw [if_pos hkn, List.append_nil] at hus
        have HUS := hid hus
        clear hus
        go_wp2_with fail
        go_roundw
        case rel => exact ⟨i + 1, by omega, by go_num, by rw [HUS.out]; exact HO, HR, HK⟩
        case measure => simp [intOf]; omega
      · rw [Bool.not_eq_true] at hkn
        rw [hkn] at c0
        rw [if_neg (by simp [hkn])] at hus
        have HUS := hid hus
        clear hus
        obtain ⟨Ao, Co, hform⟩ := own_form HO.out
        subst hform
        have hkA : Kept [] wr (wr.alloc (.cells #[.int .i64 (i : Nat)] 3)) := (Kept.refl [] wr).alloc _
        obtain ⟨g6, cap6, w6, hr6, ho6, hk6⟩ := appendOwnK 34 3 8 (unknown known i).length 1 wr.heap.size 1 34 B (.int .i64 0) (.slice Ao (unknown known i).length Co) (i64s (unknown known i)) (i64s [i]) (wr.alloc (.cells #[.int .i64 (i : Nat)] 3)) Tryz.underlying34 iInt rfl (by decide) (by omega) (by decide) (by decide)
          (ownsRow_kept HO.out hkA (by simp)) (by have := hkA.size; have := HK.out.size; have := HB.out; omega) rfl (by intro u hu; simp [i64s] at hu; subst hu; rfl) (blk_new wr _)
        have HO6 := hid ho6
        have HK6 := hid (HK.out.thenNew ((hkA.more (by simp)).trans hk6) (by intro r hr; right; have := own_ge HO.out hr; have := HB.out; omega))
        have HR6 := hid ((((hkA.more (by simp)).trans hk6).block B (blk_lt HR.out) (own_far HO.out HR.out (by decide))).trans HR.out)
        clear ho6 hk6 hkA
        go_wp2_with (at_builtin; refine wpList_append_run rfl _ _ 34 rfl _ _ _ rfl rfl hr6 ?_)
        go_roundw
        case rel => exact ⟨i + 1, by omega, by go_num, by rw [HUS.out, i64s_append, List.length_append]; exact HO6, HR6, HK6⟩
        case measure => simp [intOf]; omega
    · have hlt' : ¬ (i : Int) < (n : Int) := by omega
      obtain rfl : i = n := by omega
      obtain ⟨Ao, Co, hform⟩ := own_form HO.out
      subst hform
      have hk12 : Kept [] wr ((wr.alloc (.cells #[] 3)).alloc (.cells #[] 4)) := ((Kept.refl [] wr).alloc _).alloc _
      have hE2 : ((wr.alloc (.cells #[] 3)).alloc (.cells #[] 4)).heap[wr.heap.size]? = some (.cells #[] 3 (0, 0)) := blk_alloc _ (blk_new wr _)
      have hE3 : ((wr.alloc (.cells #[] 3)).alloc (.cells #[] 4)).heap[wr.heap.size + 1]? = some (.cells #[] 4 (0, 0)) := by
        have h := blk_new (wr.alloc (.cells #[] 3)) (.cells #[] 4)
        simp only [World.size_alloc] at h
        exact h
      go_wp2_with fail
      generalize (wr.alloc (.cells #[] 3)).alloc (.cells #[] 4) = w2 at *
      have hB0 := HB.out
      have lR := blk_lt HR.out
      have hfar : ∀ g, g ∈ own (.slice Ao (unknown known i).length Co) → g < wr.heap.size := fun g hg => own_lt HO.out hg
      generalize hC : wr.heap.size = C at *
      have HOo := hid (show w2.ownsRow C 3 1 (.slice (some ⟨C, 0, none⟩) 0 0) 0 [] from ⟨rfl, .inr ⟨C, 0, #[], rfl, by omega, hE2, Nat.le_refl _, by unfold maxLen; omega, rfl, rfl⟩⟩)
      have HOb := hid (show w2.ownsRow C 4 1 (.slice (some ⟨C + 1, 0, none⟩) 0 0) 0 [] from ⟨rfl, .inr ⟨C + 1, 0, #[], rfl, by omega, hE3, Nat.le_refl _, by unfold maxLen; omega, rfl, rfl⟩⟩)
      have HC := hid hC
      have K2 := hid hk12
      have hul := unknown_length known i
      clear hk12 hE2 hE3 hC
      generalize hSN : unknown known i = SN at *
      have HSN := hid hSN; clear hSN
      generalize hm : SN.length = m at *
      have Hm := hid hm; clear hm
      go_loopw [9, 10, 32] (fun s9 s10 s32 wx => ∃ (k : Nat), k ≤ m ∧ s32 = .int .i64 k ∧ Hid (wx.ownsRow C 3 1 s9 (came SN act an turn k).length (i64s ((came SN act an turn k).map (·.1)))) ∧
        Hid (wx.ownsRow C 4 1 s10 (came SN act an turn k).length (bls ((came SN act an turn k).map (·.2)))) ∧ Hid (Kept [] wr wx)) (fun _ _ s32 _ => m - (intOf s32).toNat)
      case atStart => exact ⟨0, by omega, rfl, HOo, HOb, K2⟩
      case round =>
        obtain ⟨k, hk, rfl, HX, HY, HKx⟩ := hrel
        by_cases hltk : k < m
        · have hltk' : (k : Int) < (m : Int) := by omega
          have h0k : (0 : Int) ≤ (k : Int) := by omega
          have hm0 : 0 < m := by omega
          obtain ⟨gs, cs, hv, hc1, hc2⟩ := own_some HO.out (by omega)
          simp only [Value.slice.injEq, true_and] at hv
          obtain ⟨rfl, rfl⟩ := hv
          have hgs : gs < C := hfar gs (by simp [own, Value.ownBlock])
          have hO := ownsRow_kept HO.out HKx.out (by simp)
          have hR := (HKx.out.block B (blk_lt HR.out) (by simp)).trans HR.out
          have r0 : wr.cell? ⟨B, 0, none⟩ = some (.slice (some ⟨ab, ao, none⟩) an acap) := blk_cell hR rfl
          have r1 : wr.cell? ⟨B, 1, none⟩ = some (.int .i64 turn) := blk_cell hR rfl
          have hat : sentAt SN turn k = sentAt SN turn k := rfl
          have htm : turn % m < m := Nat.mod_lt _ hm0
          have hq : (k + turn % m) % m < m := Nat.mod_lt _ hm0
          have e1 : (turn : Int) % (m : Int) = ((turn % m : Nat) : Int) := by simp
          generalize htme : turn % m = tm at *
          have HTM := hid htme; clear htme
          have e2 : ((k : Int) + (tm : Int)) % (m : Int) = (((k + tm) % m : Nat) : Int) := by simp
          have hsat : SN[(k + tm) % m]? = some (sentAt SN turn k) := by
            unfold sentAt
            rw [Hm.out, HTM.out, List.getD_eq_getElem?_getD, List.getElem?_eq_getElem (by rw [Hm.out]; exact hq)]
            rfl
          generalize (k + tm) % m = q at *
          have cq : wr.cell? ⟨gs, q, none⟩ = some (.int .i64 (sentAt SN turn k : Nat)) := by
            have := hO.cells (g := gs) rfl q (.int .i64 (sentAt SN turn k : Nat)) (by simp [i64s, hsat])
            rwa [addr_add, Nat.zero_add] at this
          have hqi : (q : Int) < (m : Int) := by omega
          have hq0 : (0 : Int) ≤ (q : Int) := by omega
          have htm' : (tm : Int) < (m : Int) := by omega
          have hlm : (m : Int) ≤ 64 := by omega
          have hmne : ¬ (m : Int) = 0 := by omega
          have hja : k % an < an := Nat.mod_lt _ han
          have e3 : (k : Int) % (an : Int) = ((k % an : Nat) : Int) := by simp
          have hcame : came SN act an turn (k + 1) = came SN act an turn k ++ Gaps.part (act (k % an)) (sentAt SN turn k) := rfl
          have HCAME := hid hcame; clear hcame hsat
          have hact := HACT.out (k % an) hja
          generalize k % an = j at *
          have ca : wr.cell? ⟨ab, ao + j, none⟩ = some (.int .i64 (act j)) := ((HK.out.trans HKx.out).cell (p := ⟨ab, ao + j, none⟩) hab' (by simp)).trans (HA.out j hja)
          have hji : (j : Int) < (an : Int) := by omega
          have hj0 : (0 : Int) ≤ (j : Int) := by omega
          have hane : ¬ (an : Int) = 0 := by omega
          have lgs : gs < wr.heap.size := hO.lt gs rfl |>.2
          have lab : ab < wr.heap.size := Nat.lt_of_lt_of_le hab' (HK.out.trans HKx.out).size
          have lR : B < wr.heap.size := blk_lt hR
          clear hO hR
          go_wp2_with fail
          have s0 : wr.cell? ⟨B, 0, none⟩ = some (.slice (some ⟨ab, ao, none⟩) an acap) := r0
          obtain ⟨Ax, Cx, hfx⟩ := own_form HX.out
          obtain ⟨Ay, Cy, hfy⟩ := own_form HY.out
          subst hfx hfy
          go_quiet (fail)
          have hkq : Kept [] wr (wr.drewN nq) := (Kept.refl [] wr).drewN nq
          have HX' := hid (ownsRow_kept HX.out hkq (by simp))
          have HY' := hid (ownsRow_kept HY.out hkq (by simp))
          have HK' := hid (HKx.out.trans hkq)
          have hCw : C ≤ (wr.drewN nq).heap.size := by have := HK'.out.size; have := HC.out; omega
          have hcl := came_length SN act an turn k
          clear hkq HX HY HKx
          generalize wr.drewN nq = wq at *
          rcases (show act j = 0 ∨ act j = 1 ∨ act j = 2 ∨ act j = 3 by omega) with hv | hv | hv | hv
          · go_wp2_with fail
            have hp : came SN act an turn (k + 1) = came SN act an turn k := by rw [HCAME.out, hv]; simp [Gaps.part]
            refine ⟨⟨k + 1, by omega, by go_num, by rw [hp]; exact HX', by rw [hp]; exact HY', HK'⟩, by simp [intOf]; omega⟩
          · have hp : came SN act an turn (k + 1) = came SN act an turn k ++ [(sentAt SN turn k, false)] := by rw [HCAME.out, hv]; simp [Gaps.part]
            have HP := hid hp; clear hp
            obtain ⟨g6, p6, w6, g7, p7, w7, hr6, hr7, ho6, ho7, hk7⟩ := bothAppend C _ 1 Ax Ay Cx Cy _ [sentAt SN turn k] _ [false] #[.int .i64 (sentAt SN turn k : Nat)] #[.bool false] wq HX'.out HY'.out rfl rfl (by decide) (by decide) rfl rfl (by omega) hCw
            go_wp2_with (first | (at_builtin; refine wpList_append_run rfl _ _ 34 rfl _ _ _ rfl rfl hr6 ?_) | (at_builtin; refine wpList_append_run rfl _ _ 51 rfl _ _ _ rfl rfl hr7 ?_))
            refine ⟨⟨k + 1, by omega, by go_num, by rw [HP.out, List.length_append, List.map_append]; exact hid ho6, by rw [HP.out, List.length_append, List.map_append]; exact hid ho7, hid (HK'.out.thenNew hk7 ?_)⟩, by simp [intOf]; omega⟩
            intro r hr
            right
            rw [HC.out]
            rcases List.mem_append.1 hr with hr | hr
            · exact own_ge HX'.out hr
            · exact own_ge HY'.out hr
          · have hp : came SN act an turn (k + 1) = came SN act an turn k ++ [(sentAt SN turn k, false), (sentAt SN turn k, false)] := by rw [HCAME.out, hv]; simp [Gaps.part]
            have HP := hid hp; clear hp
            obtain ⟨g6, p6, w6, g7, p7, w7, hr6, hr7, ho6, ho7, hk7⟩ := bothAppend C _ 2 Ax Ay Cx Cy _ [sentAt SN turn k, sentAt SN turn k] _ [false, false] #[.int .i64 (sentAt SN turn k : Nat), .int .i64 (sentAt SN turn k : Nat)] #[.bool false, .bool false] wq HX'.out HY'.out rfl rfl (by decide) (by decide) rfl rfl (by omega) hCw
            go_wp2_with (first | (at_builtin; refine wpList_append_run rfl _ _ 34 rfl _ _ _ rfl rfl hr6 ?_) | (at_builtin; refine wpList_append_run rfl _ _ 51 rfl _ _ _ rfl rfl hr7 ?_))
            refine ⟨⟨k + 1, by omega, by go_num, by rw [HP.out, List.length_append, List.map_append]; exact hid ho6, by rw [HP.out, List.length_append, List.map_append]; exact hid ho7, hid (HK'.out.thenNew hk7 ?_)⟩, by simp [intOf]; omega⟩
            intro r hr
            right
            rw [HC.out]
            rcases List.mem_append.1 hr with hr | hr
            · exact own_ge HX'.out hr
            · exact own_ge HY'.out hr
          · have hp : came SN act an turn (k + 1) = came SN act an turn k ++ [(sentAt SN turn k, true)] := by rw [HCAME.out, hv]; simp [Gaps.part]
            have HP := hid hp; clear hp
            obtain ⟨g6, p6, w6, g7, p7, w7, hr6, hr7, ho6, ho7, hk7⟩ := bothAppend C _ 1 Ax Ay Cx Cy _ [sentAt SN turn k] _ [true] #[.int .i64 (sentAt SN turn k : Nat)] #[.bool true] wq HX'.out HY'.out rfl rfl (by decide) (by decide) rfl rfl (by omega) hCw
            go_wp2_with (first | (at_builtin; refine wpList_append_run rfl _ _ 34 rfl _ _ _ rfl rfl hr6 ?_) | (at_builtin; refine wpList_append_run rfl _ _ 51 rfl _ _ _ rfl rfl hr7 ?_))
            refine ⟨⟨k + 1, by omega, by go_num, by rw [HP.out, List.length_append, List.map_append]; exact hid ho6, by rw [HP.out, List.length_append, List.map_append]; exact hid ho7, hid (HK'.out.thenNew hk7 ?_)⟩, by simp [intOf]; omega⟩
            intro r hr
            right
            rw [HC.out]
            rcases List.mem_append.1 hr with hr | hr
            · exact own_ge HX'.out hr
            · exact own_ge HY'.out hr
        · have hltk' : ¬ (k : Int) < (m : Int) := by omega
          obtain rfl : k = m := by omega
          obtain ⟨Ax, Cx, hfx⟩ := own_form HX.out
          obtain ⟨Ay, Cy, hfy⟩ := own_form HY.out
          subst hfx hfy
          have hBC : B ≤ C := by have h1 := HK.out.size; have h2 := HC.out; have h3 := HB.out; omega
          go_wp2_with fail
          go_ret2
          refine ⟨.slice Ax _ Cx, .slice Ay _ Cy, rfl, ?_, ?_, HK.out.trans HKx.out⟩
          · rw [HSN.out, Hm.out]; exact own_base HX.out hBC
          · rw [HSN.out, Hm.out]; exact own_base HY.out hBC
end Go.Proofs.Base
