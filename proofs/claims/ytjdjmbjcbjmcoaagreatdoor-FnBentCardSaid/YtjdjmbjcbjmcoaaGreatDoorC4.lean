/- A part of the proof, step C4: what the code and the plain laws of this step give. Made by AI agents; no person has read it. -/
import Derived.Test.YtjdjmbjcbjmcoaaGreatDoorC3
namespace Go.Proofs.Base
open Go Go.Proofs Go.RowKit
def le4 (x0 x1 x2 x3 : Nat) : Nat := x0 + 256 * x1 + 65536 * x2 + 16777216 * x3
theorem or_le4 (x0 x1 x2 x3 : Nat) (h0 : x0 < 256) (h1 : x1 < 256) (h2 : x2 < 256) (h3 : x3 < 256) :
    bits BinOp.or IntKind.u32 (bits BinOp.or IntKind.u32 (bits BinOp.or IntKind.u32 (x0 : Int) ((x1 : Int) * 256)) ((x2 : Int) * 65536)) ((x3 : Int) * 16777216) = ((le4 x0 x1 x2 x3 : Nat) : Int) := by
  rw [show (x1 : Int) * 256 = ((256 * x1 : Nat) : Int) by omega, show (x2 : Int) * 65536 = ((65536 * x2 : Nat) : Int) by omega, show (x3 : Int) * 16777216 = ((16777216 * x3 : Nat) : Int) by omega]
  rw [u32_or_nat _ _ (by omega) (by omega), Nat.or_comm, nat_join 8 _ _ (by omega) (by omega)]
  rw [u32_or_nat _ _ (by omega) (by omega), Nat.or_comm, nat_join 16 _ _ (by omega) (by omega)]
  rw [u32_or_nat _ _ (by omega) (by omega), Nat.or_comm, nat_join 24 _ _ (by omega) (by omega)]
  congr 1; unfold le4; omega
theorem le4_xor (x0 x1 x2 x3 : Nat) (h0 : x0 < 256) (h1 : x1 < 256) (h2 : x2 < 256) : x0 ^^^ (256 * x1) ^^^ (65536 * x2) ^^^ (16777216 * x3) = le4 x0 x1 x2 x3 := by
  have join (i x y : Nat) (hx : x < 2 ^ i) : x ^^^ (2 ^ i * y) = x + 2 ^ i * y := by
    rw [Nat.add_comm, Nat.two_pow_add_eq_or_of_lt hx]
    apply Nat.eq_of_testBit_eq; intro j
    rw [Nat.testBit_xor, Nat.testBit_or, Nat.testBit_two_pow_mul]
    by_cases hj : j < i
    · simp [show ¬ i ≤ j by omega]
    · rw [Nat.testBit_lt_two_pow (Nat.lt_of_lt_of_le hx (Nat.pow_le_pow_right (by decide) (by omega)))]; simp
  have a := join 8 x0 x1 (by omega)
  have b := join 16 (x0 + 256 * x1) x2 (by omega)
  have c := join 24 (x0 + 256 * x1 + 65536 * x2) x3 (by omega)
  simp at a b c
  rw [a, b, c]; rfl
theorem le4_lt (x0 x1 x2 x3 : Nat) (h0 : x0 < 256) (h1 : x1 < 256) (h2 : x2 < 256) (h3 : x3 < 256) : le4 x0 x1 x2 x3 < 4294967296 := by unfold le4; omega

set_option maxRecDepth 100000 in
theorem leUint32 (b off len cap : Nat) (x0 x1 x2 x3 : Nat) (w : World) (hl : (4 : Int) ≤ (len : Int)) (hm : (len : Int) ≤ 9223372036854775807)
    (h0 : x0 < 256) (h1 : x1 < 256) (h2 : x2 < 256) (h3 : x3 < 256)
    (c0 : w.cell? ⟨b, off, none⟩ = some (.int .u8 x0)) (c1 : w.cell? ⟨b, off+1, none⟩ = some (.int .u8 x1)) (c2 : w.cell? ⟨b, off+2, none⟩ = some (.int .u8 x2)) (c3 : w.cell? ⟨b, off+3, none⟩ = some (.int .u8 x3)) :
    Calls Tryz.prog 43 #[.slice (some ⟨b, off, none⟩) len cap] w fun e w' => e = .returned (.int .u32 (le4 x0 x1 x2 x3)) ∧ ∃ n, w' = w.drewN n := by
  have l0 : (0 : Int) < (len : Int) := by omega
  have l1 : (1 : Int) < (len : Int) := by omega
  have l2 : (2 : Int) < (len : Int) := by omega
  have l3 : (3 : Int) < (len : Int) := by omega
  have ho := or_le4 x0 x1 x2 x3 h0 h1 h2 h3
  go_enter Tryz.func43, Tryz.ntmps43
  go_wp2
  go_quiet (fail)
  go_wp2
  go_ret
  exact ⟨rfl, _, rfl⟩
end Go.Proofs.Base
