/- A part of the proof, step P21: what the code and the plain laws of this step give. Made by AI agents; no person has read it. -/
import Derived.Test.YtjdjmbjcbjmcoaaGreatDoorP20
import Derived.Deep.Cut
import Derived.Deep.CutRange
namespace Go.Proofs.Base
open Go Go.Proofs Go.RowKit
theorem flip_bit (x m : Nat) (hx : x < 256) (hm : m < 256) (h0 : 0 < m) : ∃ v : Nat, v < 256 ∧ v ≠ x ∧ bits .xor .u8 (x : Int) (m : Int) = (v : Int) := by
  refine ⟨x ^^^ m, Nat.xor_lt_two_pow (n := 8) hx hm, fun h => ?_, u8_xor_nat x m hx hm⟩
  have h1 : x ^^^ (x ^^^ m) = x ^^^ x := by rw [h]
  rw [← Nat.xor_assoc, Nat.xor_self, Nat.zero_xor] at h1
  omega
set_option maxRecDepth 100000 in
set_option maxHeartbeats 2000000 in
theorem comes_bent (s b o len cap a : Nat) (R : List Nat) (tt : Nat) (ev : Value) (w : World) (hl : BytesAt w b o R) (hn : R.length = len) (h16 : 16 ≤ len) (hm : len < 100000)
    (hg : w.cell? ⟨7, 0, none⟩ = some (.iface tt ev)) (ha : a < 9223372036854775808)
    (hbad : ∀ i v, i < len → v < 256 → v ≠ bt R i → le4 (bt (R.set i v) 8) (bt (R.set i v) 9) (bt (R.set i v) 10) (bt (R.set i v) 11) ≠ Crc.sum (R.set i v)) :
    Calls Tryz.prog 8 #[.pointer (some ⟨s, 0, none⟩), .slice (some ⟨b, o, none⟩) len cap, .bool true, .int .i64 a] w fun e w' => e = .returned (.bool true) ∧ Kept [] w w' := by
  have lb := hl.lt
  have lg : 7 < w.heap.size := World.block_lt_of_cell? w _ hg
  have hk0 := (Kept.refl [] w).alloc (.cells #[] 5)
  have ho0 : Own (w.alloc (.cells #[] 5)) w.heap.size 0 0 [] := Own.mk (blk_new w _) (Nat.le_refl _) (by unfold maxLen; omega) rfl rfl rfl
  obtain ⟨g, cap1, w1, hr1, ho1, hk1, hg1⟩ := appendRun w.heap.size w.heap.size 0 0 b o len cap 28 [] R (w.alloc (.cells #[] 5)) ho0 (Nat.le_refl _) (by simp) (hl.kept hk0 (by simp)) hn (by omega)
  have HN := hid hn; clear hn
  rw [Nat.zero_add, List.nil_append] at ho1
  rw [Nat.zero_add] at hr1
  have Ho1 := hid ho1; clear ho1 ho0
  have HG := hid hg; clear hg
  have HBAD := hid hbad; clear hbad
  go_enter Tryz.func8, Tryz.ntmps8
  go_wp2_with (at_builtin; refine wpList_append_run rfl _ _ 28 rfl _ _ _ rfl rfl hr1 ?_)
  have hi : (a : Int) / 8 % (len : Int) = ((a / 8 % len : Nat) : Int) := by simp
  rw [hi]
  have hil : a / 8 % len < len := Nat.mod_lt _ (by omega)
  clear hi
  generalize a / 8 % len = i at *
  have i1 : (0 : Int) ≤ (i : Int) := by omega
  have i2 : (i : Int) < (len : Int) := by omega
  have i3 : ¬ (i : Int) < 0 := by omega
  have c1 := Ho1.out.cell (j := i) hil
  have f1 := Ho1.out.free i
  have lg1 := Ho1.out.lt
  have hk : (a : Int) % 8 = 0 ∨ (a : Int) % 8 = 1 ∨ (a : Int) % 8 = 2 ∨ (a : Int) % 8 = 3 ∨ (a : Int) % 8 = 4 ∨ (a : Int) % 8 = 5 ∨ (a : Int) % 8 = 6 ∨ (a : Int) % 8 = 7 := by omega
  rw [← Int.tmod_eq_emod_of_nonneg (by omega)] at hk
  have hx : bt R i < 256 := bt_lt hl.small i
  go_cut [] from 25 to 35 (fun wx => ∃ v : Nat, v < 256 ∧ v ≠ bt R i ∧ Own wx g len cap1 (R.set i v) ∧ Kept [g] w1 wx)
  case first =>
    rcases hk with hk | hk | hk | hk | hk | hk | hk | hk
    all_goals
      go_still_tail 11, (by kernel_rfl)
    all_goals change wpList _ _ _ _ _ w1.drew
    all_goals go_wp2_with fail
    all_goals go_meet
    · obtain ⟨v, h1, h2, h3⟩ := flip_bit (bt R i) 1 hx (by omega) (by omega)
      rw [show ((1 : Nat) : Int) = 1 from rfl] at h3
      rw [h3]
      exact ⟨v, h1, h2, (Ho1.out.set i v).kept ((Kept.refl [] _).drew) (by simp), ((Kept.refl [g] w1).setCell _ (.inl (by simp))).drew⟩
    · obtain ⟨v, h1, h2, h3⟩ := flip_bit (bt R i) 2 hx (by omega) (by omega)
      rw [show ((2 : Nat) : Int) = 2 from rfl] at h3
      rw [h3]
      exact ⟨v, h1, h2, (Ho1.out.set i v).kept ((Kept.refl [] _).drew) (by simp), ((Kept.refl [g] w1).setCell _ (.inl (by simp))).drew⟩
    · obtain ⟨v, h1, h2, h3⟩ := flip_bit (bt R i) 4 hx (by omega) (by omega)
      rw [show ((4 : Nat) : Int) = 4 from rfl] at h3
      rw [h3]
      exact ⟨v, h1, h2, (Ho1.out.set i v).kept ((Kept.refl [] _).drew) (by simp), ((Kept.refl [g] w1).setCell _ (.inl (by simp))).drew⟩
    · obtain ⟨v, h1, h2, h3⟩ := flip_bit (bt R i) 8 hx (by omega) (by omega)
      rw [show ((8 : Nat) : Int) = 8 from rfl] at h3
      rw [h3]
      exact ⟨v, h1, h2, (Ho1.out.set i v).kept ((Kept.refl [] _).drew) (by simp), ((Kept.refl [g] w1).setCell _ (.inl (by simp))).drew⟩
    · obtain ⟨v, h1, h2, h3⟩ := flip_bit (bt R i) 16 hx (by omega) (by omega)
      rw [show ((16 : Nat) : Int) = 16 from rfl] at h3
      rw [h3]
      exact ⟨v, h1, h2, (Ho1.out.set i v).kept ((Kept.refl [] _).drew) (by simp), ((Kept.refl [g] w1).setCell _ (.inl (by simp))).drew⟩
    · obtain ⟨v, h1, h2, h3⟩ := flip_bit (bt R i) 32 hx (by omega) (by omega)
      rw [show ((32 : Nat) : Int) = 32 from rfl] at h3
      rw [h3]
      exact ⟨v, h1, h2, (Ho1.out.set i v).kept ((Kept.refl [] _).drew) (by simp), ((Kept.refl [g] w1).setCell _ (.inl (by simp))).drew⟩
    · obtain ⟨v, h1, h2, h3⟩ := flip_bit (bt R i) 64 hx (by omega) (by omega)
      rw [show ((64 : Nat) : Int) = 64 from rfl] at h3
      rw [h3]
      exact ⟨v, h1, h2, (Ho1.out.set i v).kept ((Kept.refl [] _).drew) (by simp), ((Kept.refl [g] w1).setCell _ (.inl (by simp))).drew⟩
    · obtain ⟨v, h1, h2, h3⟩ := flip_bit (bt R i) 128 hx (by omega) (by omega)
      rw [show ((128 : Nat) : Int) = 128 from rfl] at h3
      rw [h3]
      exact ⟨v, h1, h2, (Ho1.out.set i v).kept ((Kept.refl [] _).drew) (by simp), ((Kept.refl [g] w1).setCell _ (.inl (by simp))).drew⟩
  obtain ⟨v, hv, hvx, hown, hkc⟩ := hcut
  have hsm : ∀ x ∈ R.set i v, x < 256 := set_small hl.small i v hv
  have hkw : Kept [] w wc := ((hk0.thenNew hk1 (by intro r hr; simp at hr; subst hr; right; exact Nat.le_refl _))).thenNew hkc (by intro r hr; simp at hr; subst hr; right; omega)
  have H := hid (chunk_bad g 0 len cap1 (R.set i v) tt ev wc (hown.bytes hsm) (by simp [HN.out]) h16 hm ((hkw.cell lg (by simp)).trans HG.out) (HBAD.out i v hil hv hvx))
  clear hown HBAD Ho1 c1 f1 hr1 hk1 hkc
  go_wp2_with fail
  refine H.out.mono ?_
  rintro e w2 ⟨rfl, hk2⟩
  go_wp2_with fail
  go_ret
  exact ⟨rfl, hkw.trans hk2⟩
end Go.Proofs.Base
