/- Parts of the proof, steps T3, T4: what the code and the plain laws of these steps give. Made by AI agents; no person has read it. -/
import Derived.Test.YthphjbjehccomaaGreatDoorBase
import Derived.Test.YthphjbjehccomaaGreatDoorG6
import Derived.Shelf.Spec.TrailingZeros
section
namespace Go.Proofs.Base
open Go Go.Proofs Go.RowKit Go.Proofs.Gaps
set_option maxRecDepth 100000
theorem tsn_lt_i (f j : Nat) : (tsn f j : Int) < 4294967296 := by have := tsn_lt f j; omega
/-- How two numbers near each other stand. -/
theorem near {f a b : Nat} (ha : a < 2000000000) (hb : b < 2000000000) :
    (a < b ∧ tsn f a < tsn f b ∧ tsn f b - tsn f a < 2147483648) ∨ (a < b ∧ tsn f b < tsn f a ∧ 2147483648 < tsn f a - tsn f b) ∨ (a = b ∧ tsn f a = tsn f b) ∨
    (b < a ∧ tsn f b < tsn f a ∧ tsn f a - tsn f b < 2147483648) ∨ (b < a ∧ tsn f a < tsn f b ∧ 2147483648 < tsn f b - tsn f a) := by
  unfold tsn
  omega
set_option maxRecDepth 100000 in
set_option maxHeartbeats 1000000 in
theorem sna32LT (f a b : Nat) (w : World) (ha : a < 2000000000) (hb : b < 2000000000) :
    Calls Tryz.prog 96 #[.int .u32 (tsn f a : Nat), .int .u32 (tsn f b : Nat)] w fun e w' => e = .returned (.bool (decide (a < b))) ∧ w' = w := by
  have hn := near (f := f) ha hb
  have hx := tsn_lt f a
  have hy := tsn_lt f b
  generalize tsn f a = x at *
  generalize tsn f b = y at *
  rcases hn with ⟨h1, h2, h3⟩ | ⟨h1, h2, h3⟩ | ⟨h1, h2⟩ | ⟨h1, h2, h3⟩ | ⟨h1, h2, h3⟩
  · have g1 : (x : Int) < y := by omega
    have g2 : IntKind.u32.wrap ((y : Int) - (x : Int)) = (y : Int) - (x : Int) := by rw [IntKind.wrap_u32]; omega
    have g3 : (y : Int) - (x : Int) < 2147483648 := by omega
    rw [decide_eq_true h1]
    clear hx hy h2 h3
    go_enter Tryz.func96, Tryz.ntmps96
    go_wp2_with fail
    go_ret
    exact ⟨rfl, rfl⟩
  · have g1 : ¬ (x : Int) < y := by omega
    have g2 : IntKind.u32.wrap ((x : Int) - (y : Int)) = (x : Int) - (y : Int) := by rw [IntKind.wrap_u32]; omega
    have g3 : 2147483648 < (x : Int) - (y : Int) := by omega
    have g4 : (y : Int) < x := by omega
    rw [decide_eq_true h1]
    clear hx hy h2 h3
    go_enter Tryz.func96, Tryz.ntmps96
    go_wp2_with fail
    go_ret
    exact ⟨rfl, rfl⟩
  · subst h2
    have g1 : ¬ (x : Int) < x := by omega
    rw [decide_eq_false (by omega)]
    clear hx hy
    go_enter Tryz.func96, Tryz.ntmps96
    go_wp2_with fail
    go_ret
    exact ⟨rfl, rfl⟩
  · have g1 : ¬ (x : Int) < y := by omega
    have g2 : IntKind.u32.wrap ((x : Int) - (y : Int)) = (x : Int) - (y : Int) := by rw [IntKind.wrap_u32]; omega
    have g3 : ¬ 2147483648 < (x : Int) - (y : Int) := by omega
    have g4 : (y : Int) < x := by omega
    rw [decide_eq_false (by omega)]
    clear hx hy h2 h3
    go_enter Tryz.func96, Tryz.ntmps96
    go_wp2_with fail
    go_ret
    exact ⟨rfl, rfl⟩
  · have g1 : (x : Int) < y := by omega
    have g2 : IntKind.u32.wrap ((y : Int) - (x : Int)) = (y : Int) - (x : Int) := by rw [IntKind.wrap_u32]; omega
    have g3 : ¬ (y : Int) - (x : Int) < 2147483648 := by omega
    have g4 : ¬ (y : Int) < x := by omega
    rw [decide_eq_false (by omega)]
    clear hx hy h2 h3
    go_enter Tryz.func96, Tryz.ntmps96
    go_wp2_with fail
    go_ret
    exact ⟨rfl, rfl⟩
set_option maxRecDepth 100000 in
set_option maxHeartbeats 1000000 in
theorem sna32LTE (f a b : Nat) (w : World) (ha : a < 2000000000) (hb : b < 2000000000) :
    Calls Tryz.prog 87 #[.int .u32 (tsn f a : Nat), .int .u32 (tsn f b : Nat)] w fun e w' => e = .returned (.bool (decide (a ≤ b))) ∧ w' = w := by
  have H1 := hid (sna32LT f a b w ha hb)
  by_cases e : a = b
  · subst e
    rw [decide_eq_true (by omega)]
    clear H1
    go_enter Tryz.func87, Tryz.ntmps87
    go_wp2_with fail
    go_ret
    exact ⟨rfl, rfl⟩
  · have hne : tsn f a ≠ tsn f b := fun h => e (by unfold tsn at h; omega)
    have hne' : ((tsn f a : Int) == (tsn f b : Int)) = false := by simp; omega
    have hd : decide (a ≤ b) = decide (a < b) := by
      by_cases h : a < b
      · rw [decide_eq_true h, decide_eq_true (by omega)]
      · rw [decide_eq_false h, decide_eq_false (by omega)]
    rw [hd]
    generalize tsn f a = x at *
    generalize tsn f b = y at *
    go_enter Tryz.func87, Tryz.ntmps87
    go_wp2_with fail
    refine H1.out.mono ?_
    rintro e w1 ⟨rfl, rfl⟩
    go_wp2_with fail
    go_ret
    exact ⟨rfl, rfl⟩
set_option maxRecDepth 100000 in
set_option maxHeartbeats 1000000 in
theorem sna32GT (f a b : Nat) (w : World) (ha : a < 2000000000) (hb : b < 2000000000) :
    Calls Tryz.prog 44 #[.int .u32 (tsn f a : Nat), .int .u32 (tsn f b : Nat)] w fun e w' => e = .returned (.bool (decide (b < a))) ∧ w' = w := by
  have hn := near (f := f) ha hb
  have hx := tsn_lt f a
  have hy := tsn_lt f b
  generalize tsn f a = x at *
  generalize tsn f b = y at *
  rcases hn with ⟨h1, h2, h3⟩ | ⟨h1, h2, h3⟩ | ⟨h1, h2⟩ | ⟨h1, h2, h3⟩ | ⟨h1, h2, h3⟩
  · have g1 : (x : Int) < y := by omega
    have g2 : IntKind.u32.wrap ((y : Int) - (x : Int)) = (y : Int) - (x : Int) := by rw [IntKind.wrap_u32]; omega
    have g3 : ¬ 2147483648 ≤ (y : Int) - (x : Int) := by omega
    have g4 : ¬ (y : Int) < x := by omega
    rw [decide_eq_false (by omega)]
    clear hx hy h2 h3
    go_enter Tryz.func44, Tryz.ntmps44
    go_wp2_with fail
    go_ret
    exact ⟨rfl, rfl⟩
  · have g1 : ¬ (x : Int) < y := by omega
    have g2 : IntKind.u32.wrap ((x : Int) - (y : Int)) = (x : Int) - (y : Int) := by rw [IntKind.wrap_u32]; omega
    have g3 : ¬ (x : Int) - (y : Int) ≤ 2147483648 := by omega
    have g4 : (y : Int) < x := by omega
    rw [decide_eq_false (by omega)]
    clear hx hy h2 h3
    go_enter Tryz.func44, Tryz.ntmps44
    go_wp2_with fail
    go_ret
    exact ⟨rfl, rfl⟩
  · subst h2
    have g1 : ¬ (x : Int) < x := by omega
    rw [decide_eq_false (by omega)]
    clear hx hy
    go_enter Tryz.func44, Tryz.ntmps44
    go_wp2_with fail
    go_ret
    exact ⟨rfl, rfl⟩
  · have g1 : ¬ (x : Int) < y := by omega
    have g2 : IntKind.u32.wrap ((x : Int) - (y : Int)) = (x : Int) - (y : Int) := by rw [IntKind.wrap_u32]; omega
    have g3 : (x : Int) - (y : Int) ≤ 2147483648 := by omega
    have g4 : (y : Int) < x := by omega
    rw [decide_eq_true h1]
    clear hx hy h2 h3
    go_enter Tryz.func44, Tryz.ntmps44
    go_wp2_with fail
    go_ret
    exact ⟨rfl, rfl⟩
  · have g1 : (x : Int) < y := by omega
    have g2 : IntKind.u32.wrap ((y : Int) - (x : Int)) = (y : Int) - (x : Int) := by rw [IntKind.wrap_u32]; omega
    have g3 : 2147483648 ≤ (y : Int) - (x : Int) := by omega
    rw [decide_eq_true h1]
    clear hx hy h2 h3
    go_enter Tryz.func44, Tryz.ntmps44
    go_wp2_with fail
    go_ret
    exact ⟨rfl, rfl⟩
end Go.Proofs.Base
end
section
namespace Go.Proofs.Base
open Go Go.Proofs Go.RowKit Go.Proofs.Gaps
set_option maxRecDepth 100000
/-- The library's table stands where its initialiser lays it. -/
def Bruijn (w : World) : Prop := TabAt 18 Lib.deBruijn64tab w
theorem Bruijn.kept {w w' : World} (h : Bruijn w) {S : List Nat} (k : Kept S w w') (hS : 18 ∉ S) : Bruijn w' := fun j hj => by
  have h1 := h j hj
  exact (k.cell (p := ⟨18, j, none⟩) (World.block_lt_of_cell? w _ h1) hS).trans h1
set_option maxRecDepth 100000 in
set_option maxHeartbeats 1000000 in
theorem tz64_core (x k idx : Nat) (w : World) (hx0 : ((x : Int) == 0) = false)
    (key : IntKind.u64.wrap (bits BinOp.and IntKind.u64 (x : Int) (IntKind.u64.wrap (-(x : Int))) * 285870213051353865) / 288230376151711744 = (idx : Int))
    (hi : idx < 64) (hk : k < 64) (hcell : w.cell? ⟨18, idx, none⟩ = some (.int .u8 k)) :
    Calls Tryz.prog 102 #[.int .u64 x] w fun e w' => e = .returned (.int .i64 k) ∧ w' = w := by
  go_enter Tryz.func102, Tryz.ntmps102
  go_wp2_with (simp only [key])
  go_ret
  exact ⟨rfl, rfl⟩
set_option maxRecDepth 100000 in
theorem tz64_zero (w : World) : Calls Tryz.prog 102 #[.int .u64 0] w fun e w' => e = .returned (.int .i64 64) ∧ w' = w := by
  go_enter Tryz.func102, Tryz.ntmps102
  go_wp2_with fail
  go_ret
  exact ⟨rfl, rfl⟩
theorem tz64 (x : Nat) (hx : x < 18446744073709551616) (w : World) (hT : Bruijn w) :
    Calls Tryz.prog 102 #[.int .u64 x] w fun e w' => e = .returned (.int .i64 (Lib.ctz 64 x)) ∧ w' = w := by
  by_cases hx0 : x = 0
  · subst hx0
    exact tz64_zero w
  · obtain ⟨hlow, hk⟩ := Lib.lowest_bit 64 x hx0 hx
    obtain ⟨hi, htab⟩ := Lib.deBruijn64_at _ hk
    have hcell := hT _ hi
    rw [htab] at hcell
    exact tz64_core x _ _ w (by simp; omega) (tz64_key x _ hx hx0 hlow) hi hk hcell
set_option maxRecDepth 100000 in
set_option maxHeartbeats 1000000 in
theorem firstNonZero (x s : Nat) (w : World) (hx : x < 2 ^ 64) (hs : s < 64) (hT : Bruijn w) :
    Calls Tryz.prog 89 #[.int .u64 x, .int .i64 s, .int .i64 64] w fun e w' => e = .returned (.tuple #[.int .i64 (firstOne x s : Nat), .bool (decide (firstOne x s < 64))]) ∧ w' = w := by
  have hsx : x >>> s < 18446744073709551616 := by rw [Nat.shiftRight_eq_div_pow]; exact Nat.lt_of_le_of_lt (Nat.div_le_self _ _) hx
  have H1 := tz64 (x >>> s) hsx w hT
  have hc : Lib.ctz 64 (x >>> s) ≤ 64 := by
    rcases ctz_spec (x >>> s) hsx with ⟨_, h⟩ | ⟨h, _⟩ <;> omega
  have e1 : ((x >>> s : Nat) : Int) = (x : Int) / 2 ^ s := by rw [Nat.shiftRight_eq_div_pow]; simp
  rw [e1] at H1
  unfold firstOne
  generalize Lib.ctz 64 (x >>> s) = i at *
  have H2 := hid H1
  clear H1 e1 hsx
  clear hx
  by_cases h64 : i + s < 64
  · have h64' : (i : Int) + (s : Int) < 64 := by omega
    rw [decide_eq_true h64]
    go_enter Tryz.func89, Tryz.ntmps89
    go_wp2_with fail
    refine H2.out.mono ?_
    rintro e w1 ⟨rfl, rfl⟩
    go_wp2_with fail
    go_ret2
    exact ⟨rfl, rfl⟩
  · have h64' : ((i : Int) + (s : Int) < 64) = False := eq_false (by omega)
    rw [decide_eq_false h64]
    clear h64
    go_enter Tryz.func89, Tryz.ntmps89
    go_wp2_with fail
    refine H2.out.mono ?_
    rintro e w1 ⟨rfl, rfl⟩
    go_wp2_with fail
    go_ret2
    exact ⟨rfl, rfl⟩
theorem u64_flip (x : Nat) (h : x < 2 ^ 64) : bits .xor .u64 IntKind.u64.max (x : Int) = ((flip x : Nat) : Int) := by
  rw [show IntKind.u64.max = ((18446744073709551615 : Nat) : Int) from rfl, bits_xor_u64_nat _ _ (by decide) h]
  congr 1
  apply Nat.eq_of_testBit_eq
  intro j
  rw [Nat.testBit_xor]
  by_cases hj : j < 64
  · rw [flip_bit h hj, show (18446744073709551615 : Nat) = 2 ^ 64 - 1 from rfl, Nat.testBit_two_pow_sub_one]
    simp [hj]
  · have h1 : x.testBit j = false := by
      cases hb : x.testBit j with
      | false => rfl
      | true => exact absurd (bit_lt h hb) hj
    have h2 : (flip x).testBit j = false := by
      cases hb : (flip x).testBit j with
      | false => rfl
      | true => exact absurd (bit_lt (flip_lt x) hb) hj
    rw [h1, h2, show (18446744073709551615 : Nat) = 2 ^ 64 - 1 from rfl, Nat.testBit_two_pow_sub_one]
    simp [hj]
set_option maxRecDepth 100000 in
set_option maxHeartbeats 1000000 in
theorem firstZero (x s : Nat) (w : World) (hx : x < 2 ^ 64) (hs : s < 64) (hT : Bruijn w) :
    Calls Tryz.prog 90 #[.int .u64 x, .int .i64 s, .int .i64 64] w fun e w' => e = .returned (.tuple #[.int .i64 (firstOne (flip x) s : Nat), .bool (decide (firstOne (flip x) s < 64))]) ∧ w' = w := by
  have H1 := hid (firstNonZero (flip x) s w (flip_lt x) hs hT)
  have e1 := u64_flip x hx
  clear hx hs
  go_enter Tryz.func90, Tryz.ntmps90
  go_wp2_with fail
  refine H1.out.mono ?_
  rintro e w1 ⟨rfl, rfl⟩
  go_wp2_with fail
  go_ret2
  exact ⟨rfl, rfl⟩
end Go.Proofs.Base
end
