/- A part of the proof, step P14: what the code and the plain laws of this step give. Made by AI agents; no person has read it. -/
import Derived.Test.YtjdjmbjcbjmcoaaGreatDoorP13
namespace Go.Proofs.Base
open Go Go.Proofs Go.RowKit
set_option maxRecDepth 100000 in
set_option maxHeartbeats 2000000 in
theorem unmarshal_bad (p b o len cap : Nat) (R : List Nat) (ev : Value) (w : World) (hl : BytesAt w b o R) (hn : R.length = len) (h16 : 16 ≤ len) (hcap : len ≤ cap) (hcm : cap ≤ 9223372036854775807)
    (hg : w.cell? ⟨7, 0, none⟩ = some ev) (hbad : le4 (bt R 8) (bt R 9) (bt R 10) (bt R 11) ≠ Crc.sum R) :
    Calls Tryz.prog 32 #[.pointer (some ⟨p, 0, none⟩), .bool true, .slice (some ⟨b, o, none⟩) len cap] w fun e w' => e = .returned ev ∧ Kept [] w w' := by
  have HN := hid hn; clear hn
  have lg : 7 < w.heap.size := World.block_lt_of_cell? w _ hg
  have HG := hid hg; clear hg
  have q1 : ¬ (len : Int) < 12 := by omega
  have q2 : (16 : Int) ≤ (len : Int) := by omega
  have q3 : (12 : Int) < (len : Int) := by omega
  have c12 := hl.cell 12 (by rw [HN.out]; omega)
  have s12 := hl.small
  have s8 : (8 : Int) ≤ (len : Int) := by omega
  have s8c : (8 : Int) ≤ (cap : Int) := by omega
  have s8' : ¬ cap = 8 := by omega
  have H1 := hid (leU32 b (o + 8) (len - 8) (cap - 8) (R.drop 8) w.drew ((hl.kept ((Kept.refl [] w).drew) (by simp)).drop 8) (by simp [HN.out]; omega) (by omega) (by omega))
  have hv : le4 (bt (R.drop 8) 0) (bt (R.drop 8) 1) (bt (R.drop 8) 2) (bt (R.drop 8) 3) ≠ Crc.sum R := by simpa [bt_drop] using hbad
  have H2 : Hid (∀ w', Kept [] w w' → Calls Tryz.prog 38 #[.slice (some ⟨b, o, none⟩) len cap] w' fun r w'' => r = .returned (.int .u32 (Crc.sum R)) ∧ Kept [] w' w'') := fun w' k => checksum b o len cap R w' (hl.kept k (by simp)) HN.out (by omega) hcap hcm
  clear hbad
  generalize le4 (bt (R.drop 8) 0) (bt (R.drop 8) 1) (bt (R.drop 8) 2) (bt (R.drop 8) 3) = x at *
  generalize Crc.sum R = y at *
  have hv' : (((x : Nat) : Int) != (y : Int)) = true := by simp; omega
  go_enter Tryz.func32, Tryz.ntmps32
  have hx : x = 0 ∨ (((x : Nat) : Int) != 0) = true := by
    rcases Nat.eq_zero_or_pos x with h | h
    · exact .inl h
    · right; simp; omega
  have ht : (bt R 12 = 1 ∧ bt R 12 = 1) ∨ (bt R 12 = 10 ∧ bt R 12 = 10) ∨ ((((bt R 12 : Nat) : Int) == 1) = false ∧ (((bt R 12 : Nat) : Int) == 10) = false) := by
    by_cases t1 : bt R 12 = 1
    · exact .inl ⟨t1, t1⟩
    · by_cases t2 : bt R 12 = 10
      · exact .inr (.inl ⟨t2, t2⟩)
      · exact .inr (.inr ⟨by simp; omega, by simp; omega⟩)
  rcases ht with ⟨t1, t2⟩ | ⟨t1, t2⟩ | ⟨t1, t2⟩
  · rw [t1] at c12
    clear t1 t2
    rcases hx with hx | hx
    · subst hx
      go_wp2_with fail
      go_still_tail 3, (by kernel_rfl)
      change wpList _ _ _ _ _ w.drew
      go_wp2_with fail
      refine H1.out.mono ?_
      rintro e w1 ⟨rfl, n1, hw1⟩
      have hk1 : Kept [] w w1 := by rw [hw1]; exact ((Kept.refl [] w).drew.alloc _).drewN n1
      clear hw1
      go_wp2_with fail
      refine (H2.out w1 hk1).mono ?_
      rintro e w2 ⟨rfl, hk2⟩
      have hgv : w2.cell? ⟨7, 0, none⟩ = some ev := ((hk1.trans hk2).cell lg (by simp)).trans HG.out
      go_wp2_with fail
      go_ret
      exact ⟨rfl, hk1.trans hk2⟩
    · go_wp2_with fail
      go_still_tail 3, (by kernel_rfl)
      change wpList _ _ _ _ _ w.drew
      go_wp2_with fail
      refine H1.out.mono ?_
      rintro e w1 ⟨rfl, n1, hw1⟩
      have hk1 : Kept [] w w1 := by rw [hw1]; exact ((Kept.refl [] w).drew.alloc _).drewN n1
      clear hw1
      go_wp2_with fail
      refine (H2.out w1 hk1).mono ?_
      rintro e w2 ⟨rfl, hk2⟩
      have hgv : w2.cell? ⟨7, 0, none⟩ = some ev := ((hk1.trans hk2).cell lg (by simp)).trans HG.out
      go_wp2_with fail
      go_ret
      exact ⟨rfl, hk1.trans hk2⟩
  · rw [t1] at c12
    clear t1 t2
    rcases hx with hx | hx
    · subst hx
      go_wp2_with fail
      go_still_tail 3, (by kernel_rfl)
      change wpList _ _ _ _ _ w.drew
      go_wp2_with fail
      refine H1.out.mono ?_
      rintro e w1 ⟨rfl, n1, hw1⟩
      have hk1 : Kept [] w w1 := by rw [hw1]; exact ((Kept.refl [] w).drew.alloc _).drewN n1
      clear hw1
      go_wp2_with fail
      refine (H2.out w1 hk1).mono ?_
      rintro e w2 ⟨rfl, hk2⟩
      have hgv : w2.cell? ⟨7, 0, none⟩ = some ev := ((hk1.trans hk2).cell lg (by simp)).trans HG.out
      go_wp2_with fail
      go_ret
      exact ⟨rfl, hk1.trans hk2⟩
    · go_wp2_with fail
      go_still_tail 3, (by kernel_rfl)
      change wpList _ _ _ _ _ w.drew
      go_wp2_with fail
      refine H1.out.mono ?_
      rintro e w1 ⟨rfl, n1, hw1⟩
      have hk1 : Kept [] w w1 := by rw [hw1]; exact ((Kept.refl [] w).drew.alloc _).drewN n1
      clear hw1
      go_wp2_with fail
      refine (H2.out w1 hk1).mono ?_
      rintro e w2 ⟨rfl, hk2⟩
      have hgv : w2.cell? ⟨7, 0, none⟩ = some ev := ((hk1.trans hk2).cell lg (by simp)).trans HG.out
      go_wp2_with fail
      go_ret
      exact ⟨rfl, hk1.trans hk2⟩
  · rcases hx with hx | hx
    · subst hx
      go_wp2_with fail
      go_still_tail 3, (by kernel_rfl)
      change wpList _ _ _ _ _ w.drew
      go_wp2_with fail
      refine H1.out.mono ?_
      rintro e w1 ⟨rfl, n1, hw1⟩
      have hk1 : Kept [] w w1 := by rw [hw1]; exact ((Kept.refl [] w).drew.alloc _).drewN n1
      clear hw1
      go_wp2_with fail
      refine (H2.out w1 hk1).mono ?_
      rintro e w2 ⟨rfl, hk2⟩
      have hgv : w2.cell? ⟨7, 0, none⟩ = some ev := ((hk1.trans hk2).cell lg (by simp)).trans HG.out
      go_wp2_with fail
      go_ret
      exact ⟨rfl, hk1.trans hk2⟩
    · go_wp2_with fail
      go_still_tail 3, (by kernel_rfl)
      change wpList _ _ _ _ _ w.drew
      go_wp2_with fail
      refine H1.out.mono ?_
      rintro e w1 ⟨rfl, n1, hw1⟩
      have hk1 : Kept [] w w1 := by rw [hw1]; exact ((Kept.refl [] w).drew.alloc _).drewN n1
      clear hw1
      go_wp2_with fail
      refine (H2.out w1 hk1).mono ?_
      rintro e w2 ⟨rfl, hk2⟩
      have hgv : w2.cell? ⟨7, 0, none⟩ = some ev := ((hk1.trans hk2).cell lg (by simp)).trans HG.out
      go_wp2_with fail
      go_ret
      exact ⟨rfl, hk1.trans hk2⟩
end Go.Proofs.Base
