/- A part of the proof, step C1: what the code and the plain laws of this step give. Made by AI agents; no person has read it. -/
import Derived.Test.YtjdjmbjcbjmcoaaGreatDoorBase
import Derived.Test.YtjdjmbjcbjmcoaaGreatDoorCrc
namespace Go.Proofs.Base
open Go Go.Proofs Go.RowKit

def stn : Nat → Nat → Nat
  | 0, c => c
  | n + 1, c => Crc.st (stn n c)
theorem stn8 (c : Nat) : stn 8 c = Crc.st8 c := rfl
theorem stn_lt (n c : Nat) (h : c < 4294967296) : stn n c < 4294967296 := by
  induction n with
  | zero => exact h
  | succ n ih => exact Crc.st_lt _ ih
theorem u32_xor_lit (a : Nat) (ha : a < 4294967296) : bits .xor .u32 (a : Int) 2197175160 = ((a ^^^ Crc.poly : Nat) : Int) := u32_xor_nat a 2197175160 ha (by decide)
theorem u32_and_one (a : Nat) (ha : a < 4294967296) : bits .and .u32 (a : Int) 1 = ((a % 2 : Nat) : Int) := by
  rw [show (1 : Int) = ((1 : Nat) : Int) from rfl, u32_and_nat a 1 ha (by decide), nat_mask1]

theorem u32_half_xor (c : Nat) (h : c < 4294967296) (ho : c % 2 = 1) : Value.int .u32 (bits .xor .u32 ((c : Int) / 2) 2197175160) = .int .u32 (Crc.st c) := by
  rw [show (c : Int) / 2 = ((c / 2 : Nat) : Int) by omega, u32_xor_lit _ (by omega), Crc.st, if_pos ho]
theorem st_even (c : Nat) (h : ¬ c % 2 = 1) : Value.int .u32 ((c : Int) / 2) = .int .u32 (Crc.st c) := by
  rw [show (c : Int) / 2 = ((c / 2 : Nat) : Int) by omega, Crc.st, if_neg h]
theorem set_below {cs : Array Value} {k : Nat} {f : Nat → Value} (hk : k < cs.size) (h : ∀ j, j < k → cs[j]? = some (f j)) : ∀ j, j < k + 1 → (cs.setIfInBounds k (f k))[j]? = some (f j) := by
  intro j hj
  rw [Array.getElem?_setIfInBounds]
  by_cases e : k = j
  · subst e; simp [hk]
  · rw [if_neg e]; exact h j (by omega)
set_option maxRecDepth 100000 in
set_option maxHeartbeats 400000 in
theorem populate (T : Nat) (cs : Array Value) (e : TypeId) (w : World) (hT : w.heap[T]? = some (.cells cs e (0, 0))) (hs : 256 ≤ cs.size) :
    Calls Tryz.prog 45 #[.int .u32 2197175160, .pointer (some ⟨T, 0, none⟩)] w fun r w' => r = .returned (.tuple #[]) ∧ Kept [T] w w' ∧
      ∃ cs', w'.heap[T]? = some (.cells cs' e (0, 0)) ∧ cs'.size = cs.size ∧ ∀ k, k < 256 → cs'[k]? = some (.int .u32 (Crc.t 0 k)) := by
  go_enter Tryz.func45, Tryz.ntmps45
  go_wp2
  go_loopw [4, 5, 6] (fun i _ _ wr => ∃ k : Nat, k ≤ 256 ∧ i = .int .i64 k ∧ Kept [T] w wr ∧ ∃ cs', wr.heap[T]? = some (.cells cs' e (0, 0)) ∧ cs'.size = cs.size ∧ ∀ j, j < k → cs'[j]? = some (.int .u32 (Crc.t 0 j)))
    (fun i _ _ _ => 256 - (intOf i).toNat)
  case atStart => exact ⟨0, by omega, rfl, Kept.refl _ _, cs, hT, rfl, fun j hj => by omega⟩
  case round =>
    obtain ⟨k, hk, rfl, hkept, cs', hT', hs', hc⟩ := hrel
    by_cases hlt : k < 256
    · have hlt' : (k : Int) < 256 := by omega
      have hk32 : k < 4294967296 := by omega
      have hcell : wr.cell? ⟨T, k, none⟩ = some cs'[k] := blk_cell hT' (by simp)
      have hfree : wr.frozen? ⟨T, k, none⟩ = false := blk_free hT'
      go_wp2
      go_loop [5, 6] (fun c j => ∃ n : Nat, n ≤ 8 ∧ j = .int .i64 n ∧ c = .int .u32 (stn n k)) (fun _ j => 8 - (intOf j).toNat)
      case atStart => exact ⟨0, by omega, rfl, rfl⟩
      case round =>
        obtain ⟨n, hn, rfl, rfl⟩ := hrel
        have hlt2 := stn_lt n k hk32
        generalize hc0 : stn n k = c at *
        have Hc0 := hid hc0; clear hc0
        by_cases hn8 : n < 8
        · have hn8' : (n : Int) < 8 := by omega
          by_cases hodd : c % 2 = 1
          · have ht : (bits BinOp.and IntKind.u32 (c : Int) 1 == 1) = true := by rw [u32_and_one c hlt2, hodd]; rfl
            go_wp2
            go_round
            case rel => exact ⟨n + 1, by omega, by go_num, by rw [stn, Hc0.out, u32_half_xor c hlt2 hodd]⟩
            case measure => simp [intOf]; omega
          · have ht : (bits BinOp.and IntKind.u32 (c : Int) 1 == 1) = false := by rw [u32_and_one c hlt2, show c % 2 = 0 by omega]; rfl
            go_wp2
            go_round
            case rel => exact ⟨n + 1, by omega, by go_num, by rw [stn, Hc0.out, st_even c hodd]⟩
            case measure => simp [intOf]; omega
        · have en : n = 8 := by omega
          go_wp2
          go_roundw
          case rel =>
            subst en
            have e8 : c = Crc.t 0 k := by rw [← Hc0.out]; exact stn8 k
            refine ⟨k + 1, by omega, by go_num, hkept.setCell _ (.inl (by simp)), cs'.setIfInBounds k (.int .u32 c), blk_setCell _ hT', by simp [hs'], fun j hj => ?_⟩
            rw [e8]
            exact set_below (by omega) hc j hj
          case measure => simp [intOf]; omega
    · go_wp2
      go_end0
      exact ⟨rfl, hkept, cs', hT', hs', fun j hj => hc j (by omega)⟩
end Go.Proofs.Base
