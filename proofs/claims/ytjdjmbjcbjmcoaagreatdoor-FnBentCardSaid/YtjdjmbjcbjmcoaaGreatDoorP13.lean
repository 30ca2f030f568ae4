/- A part of the proof, step P13: what the code and the plain laws of this step give. Made by AI agents; no person has read it. -/
import Derived.Test.YtjdjmbjcbjmcoaaGreatDoorP12
namespace Go.Proofs.Base
open Go Go.Proofs Go.RowKit
def Texts (sp dp tag N M : Nat) (T : List Nat) : Prop := ∀ (cb ccap b o cap : Nat) (w : World), w.cell? ⟨cb, 0, none⟩ = some (.slice (some ⟨b, o, none⟩) N cap) → BytesAt w b o T → N ≤ cap → cap ≤ 9223372036854775807 →
  Calls Tryz.prog 24 #[.int .i64 sp, .int .i64 dp, .int .u32 tag, .slice (some ⟨cb, 0, none⟩) 1 ccap, .bool true] w fun e w' => ∃ g cap', w.heap.size ≤ g ∧ e = .returned (.tuple #[.slice (some ⟨g, 0, none⟩) M cap', .nilIface]) ∧
      Own w' g M cap' (packetOf sp dp tag T) ∧ Kept [] w w'
theorem set_small {l : List Nat} (h : ∀ x ∈ l, x < 256) (i v : Nat) (hv : v < 256) : ∀ x ∈ l.set i v, x < 256 := by
  intro x hx
  rcases List.mem_or_eq_of_mem_set hx with h1 | h1
  · exact h x h1
  · subst h1; exact hv
theorem small_put4le {l : List Nat} (h : ∀ x ∈ l, x < 256) (o v : Nat) (hv : v < 4294967296) : ∀ x ∈ put4le l o v, x < 256 := by
  unfold put4le
  exact set_small (set_small (set_small (set_small h _ _ (by omega)) _ _ (by omega)) _ _ (by omega)) _ _ (by omega)
theorem small_packetOf {sp dp tag : Nat} {T : List Nat} (hsp : sp < 65536) (hdp : dp < 65536) (htag : tag < 4294967296) (hT : ∀ x ∈ T, x < 256) : ∀ x ∈ packetOf sp dp tag T, x < 256 := by
  rw [packetOf_eq rfl rfl]
  exact small_put4le (small_raw hsp hdp htag hT _) _ _ (sum_lt _)
theorem len_packetOf (sp dp tag : Nat) (T : List Nat) : (packetOf sp dp tag T).length = 12 + T.length + padN T.length := by
  rw [packetOf_eq rfl rfl]
  simp [put4le, hdr]; omega
set_option maxRecDepth 100000 in
set_option maxHeartbeats 2000000 in
theorem PacketText (sp dp tag N M : Nat) (T : List Nat) (hT : Texts sp dp tag N M T) (cb ccap b o cap : Nat) (w : World) (hcb : w.cell? ⟨cb, 0, none⟩ = some (.slice (some ⟨b, o, none⟩) N cap)) (hl : BytesAt w b o T) (hN : T.length = N)
    (hp : 0 < N) (hm : N < 60000) (hsm : ∀ x ∈ packetOf sp dp tag T, x < 256) (hM0 : 0 < M) (hM : M < 100000) :
    Calls Tryz.prog 19 #[.int .i64 sp, .int .i64 dp, .int .u32 tag, .slice (some ⟨cb, 0, none⟩) 1 ccap, .bool true] w fun e w' => ∃ g cap', w.heap.size ≤ g ∧ M ≤ cap' ∧ cap' ≤ maxLen ∧
      e = .returned (.tuple #[.slice (some ⟨g, 0, none⟩) M cap', .bool true]) ∧ BytesAt w' g 0 (packetOf sp dp tag T) ∧ Kept [] w w' := by
  have HT := hid hT; clear hT
  have HCB := hid hcb
  have HN := hid hN; clear hN
  have H1 := hid (copied b o N cap T w hl HN.out hp (by omega))
  go_enter Tryz.func19, Tryz.ntmps19
  go_wp2_with fail
  refine wp_loop_rounds 2 ?_
  rw [rounds_succ]
  go_wp2_with fail
  refine H1.out.mono ?_
  rintro e w1 ⟨g1, cap1, hg1, hc1, hc1', rfl, hb1, hk1⟩
  obtain ⟨g2, cap2, w2, hr2, hg2, hc2, hc2', hx2, hk2⟩ := appendNil 62 28 24 (.slice none 0 0) (.slice (some ⟨g1, 0, none⟩) N cap1) w1.heap.size 1 62 (w1.alloc (.cells #[.slice (some ⟨g1, 0, none⟩) N cap1] 28)) Tryz.underlying62 i28 rfl (by decide) (blk_cell (blk_new w1 _) rfl) rfl
  have hk2' : Kept [] w1 w2 := ((Kept.refl [] w1).alloc _).trans hk2
  have H2 := hid (HT.out g2 cap2 g1 0 cap1 w2 hx2 (hb1.kept hk2' (by simp)) hc1 (by unfold maxLen at hc1'; omega))
  clear H1 hx2 hk2 hb1
  go_wp2_with (at_builtin; refine wpList_append_run rfl _ _ 62 rfl _ _ _ rfl rfl hr2 ?_)
  rw [rounds_succ]
  go_wp2_with fail
  refine H2.out.mono ?_
  rintro e w3 ⟨g3, cap3, hg3, rfl, ho3, hk3⟩
  have hl3 := ho3.len
  have Hb3 := hid ((ho3.kept ((Kept.refl [] w3).drew) (by simp)).bytes hsm)
  have H3 := hid (copied g3 0 M cap3 _ w3.drew Hb3.out hl3 hM0 (by omega))
  have hk3' := hid ((hk1.trans hk2').trans hk3)
  clear H2 ho3 hl3 hr2 hk3 hk2' hk1
  go_wp2_with fail
  go_region_held3 (fun _ => True) (trivial) ((go_at_call 18; refine H3.out.mono ?_; rintro e w4 ⟨g4, cap4, hg4, hc4, hc4', rfl, hb4, hk4⟩))
  go_wp2_with fail
  go_ret2
  have h5 := hk3'.out.size
  have hg4' : w3.heap.size ≤ g4 := hg4
  exact ⟨g4, cap4, by omega, hc4, hc4', rfl, hb4, hk3'.out.drew.trans hk4⟩
set_option maxRecDepth 100000 in
set_option maxHeartbeats 2000000 in
theorem lawsPacket (N M : Nat) (T : List Nat) (hT : Texts 5000 5001 7 N M T) (b o cap : Nat) (w : World) (hl : BytesAt w b o T) (hN : T.length = N)
    (hp : 0 < N) (hm : N < 60000) (hM0 : 0 < M) (hM : M < 100000) :
    Calls Tryz.prog 13 #[.slice (some ⟨b, o, none⟩) N cap] w fun e w' => ∃ g cap', w.heap.size ≤ g ∧ M ≤ cap' ∧ cap' ≤ maxLen ∧
      e = .returned (.tuple #[.slice (some ⟨g, 0, none⟩) M cap', .bool true]) ∧ BytesAt w' g 0 (packetOf 5000 5001 7 T) ∧ Kept [] w w' := by
  have H := hid (PacketText 5000 5001 7 N M T hT w.heap.size 1 b o cap (w.alloc (.cells #[.slice (some ⟨b, o, none⟩) N cap] 28)) (blk_cell (blk_new w _) rfl) (hl.kept ((Kept.refl [] w).alloc _) (by simp)) hN hp hm
    (small_packetOf (by decide) (by decide) (by decide) hl.small) hM0 hM)
  have hk := hid ((Kept.refl [] w).alloc (.cells #[.slice (some ⟨b, o, none⟩) N cap] 28))
  clear hT hl hN
  go_enter Tryz.func13, Tryz.ntmps13
  go_wp2_with fail
  refine H.out.mono ?_
  rintro e w1 ⟨g, cap', hg, hc, hc', rfl, hb, hk1⟩
  go_wp2_with fail
  go_ret2
  simp at hg
  exact ⟨g, cap', by omega, hc, hc', rfl, hb, hk.out.trans hk1⟩
end Go.Proofs.Base
