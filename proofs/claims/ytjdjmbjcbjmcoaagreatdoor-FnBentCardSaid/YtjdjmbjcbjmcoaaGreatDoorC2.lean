/- A part of the proof, step C2: what the code and the plain laws of this step give. Made by AI agents; no person has read it. -/
import Derived.Test.YtjdjmbjcbjmcoaaGreatDoorC1
namespace Go.Proofs.Base
open Go Go.Proofs Go.RowKit
theorem size271 : Tryz.zeroCells158.size = 2048 := by kernel_rfl
theorem u32_and_255 (a : Nat) (ha : a < 4294967296) : bits .and .u32 (a : Int) 255 = ((a % 256 : Nat) : Int) := by
  rw [show (255 : Int) = ((255 : Nat) : Int) from rfl, u32_and_nat a 255 ha (by decide), nat_mask8]
/-- What the table holds: the first rows whole up to column k, in column k the first j rows. -/
def Tab (cs : Array Value) (k j : Nat) : Prop :=
  cs.size = 2048 ∧ (∀ i, i < 256 → cs[i]? = some (.int .u32 (Crc.t 0 i))) ∧ (∀ r, r < 8 → ∀ i, i < k → cs[256 * r + i]? = some (.int .u32 (Crc.t r i))) ∧ ∀ r, r < j → cs[256 * r + k]? = some (.int .u32 (Crc.t r k))
theorem Tab.set {cs : Array Value} {k j : Nat} (h : Tab cs k j) (hk : k < 256) (hj : j < 8) (h1 : 1 ≤ j) : Tab (cs.setIfInBounds (256 * j + k) (.int .u32 (Crc.t j k))) k (j + 1) := by
  obtain ⟨hs, ha, hb, hc⟩ := h
  refine ⟨by simp [hs], fun i hi => ?_, fun r hr i hi => ?_, fun r hr => ?_⟩
  · rw [Array.getElem?_setIfInBounds, if_neg (by omega)]; exact ha i hi
  · rw [Array.getElem?_setIfInBounds, if_neg (by omega)]; exact hb r hr i hi
  · rw [Array.getElem?_setIfInBounds]
    by_cases e : r = j
    · subst e; simp [hs]; omega
    · rw [if_neg (by omega)]; exact hc r (by omega)
theorem Tab.next {cs : Array Value} {k : Nat} (h : Tab cs k 8) : Tab cs (k + 1) 0 := by
  obtain ⟨hs, ha, hb, hc⟩ := h
  refine ⟨hs, ha, fun r hr i hi => ?_, fun r hr => by omega⟩
  by_cases e : i = k
  · subst e; exact hc r hr
  · exact hb r hr i (by omega)
theorem Tab.first {cs : Array Value} {k : Nat} (h : Tab cs k 0) (hk : k < 256) : Tab cs k 1 := by
  obtain ⟨hs, ha, hb, hc⟩ := h
  refine ⟨hs, ha, hb, fun r hr => ?_⟩
  obtain rfl : r = 0 := by omega
  simpa using ha k hk
set_option maxRecDepth 100000 in
set_option maxHeartbeats 400000 in
theorem makeTable (w : World) :
    Calls Tryz.prog 42 #[.int .u32 2197175160] w fun r w' => r = .returned (.pointer (some ⟨w.heap.size, 0, none⟩)) ∧ Kept [] w w' ∧
      ∃ cs', w'.heap[w.heap.size]? = some (.cells cs' 158 (0, 0)) ∧ Tab cs' 256 0 := by
  have hz := size271
  generalize hB : w.heap.size = B
  have HB := hid hB; clear hB
  go_enter Tryz.func42, Tryz.ntmps42
  go_wp2_with fail
  simp only [HB.out]
  refine (populate B Tryz.zeroCells158 158 _ (by rw [← HB.out]; exact blk_new _ _) (by omega)).mono ?_
  rintro e wp ⟨rfl, hkp, cs1, hT1, hs1, hc1⟩
  have hkp' : Kept [] w wp := ((Kept.refl [B] w).alloc _).trans hkp |>.more (by intro s hs; simp at hs; subst hs; right; rw [HB.out]; exact Nat.le_refl _)
  clear hkp
  have ht1 : Tab cs1 0 0 := ⟨hs1.trans hz, hc1, fun r hr i hi => by omega, fun r hr => by omega⟩
  clear hs1 hc1 hz
  go_wp2_with fail
  go_loopw [4, 5, 6] (fun i _ _ wr => ∃ k : Nat, k ≤ 256 ∧ i = .int .i64 k ∧ Kept [] w wr ∧ ∃ cs', wr.heap[B]? = some (.cells cs' 158 (0, 0)) ∧ Tab cs' k 0)
    (fun i _ _ _ => 256 - (intOf i).toNat)
  case atStart => exact ⟨0, by omega, rfl, hkp', cs1, hT1, ht1⟩
  case round =>
    obtain ⟨k, hk, rfl, hkept, cs2, hT2, ht2⟩ := hrel
    clear hkp' hT1 ht1
    obtain ⟨wo, rfl⟩ : ∃ wo : World, wo = wr := ⟨_, rfl⟩
    by_cases hlt : k < 256
    · have hlt' : (k : Int) < 256 := by omega
      have hk0 : (0 : Int) ≤ (k : Int) := by omega
      have hcell : wo.cell? ⟨B, k, none⟩ = some (.int .u32 (Crc.t 0 k)) := blk_cell hT2 (ht2.2.1 k hlt)
      go_wp2_with fail
      go_loopw [5, 6] (fun c j wr => ∃ n : Nat, 1 ≤ n ∧ n ≤ 8 ∧ j = .int .i64 n ∧ c = .int .u32 (Crc.t (n - 1) k) ∧ Kept [] w wr ∧ ∃ cs', wr.heap[B]? = some (.cells cs' 158 (0, 0)) ∧ Tab cs' k n) (fun _ j _ => 8 - (intOf j).toNat)
      case atStart => exact ⟨1, by omega, by omega, rfl, rfl, hkept, cs2, hT2, ht2.first hlt⟩
      case round =>
        obtain ⟨n, hn1, hn8, rfl, rfl, hkept3, cs3, hT3, ht3⟩ := hrel
        clear hkept hT2 ht2 hcell
        have hlt2 := Crc.t_lt (n - 1) k (by omega)
        generalize hc0 : Crc.t (n - 1) k = c at *
        have Hc0 := hid hc0; clear hc0
        by_cases hn : n < 8
        · have hn' : (n : Int) < 8 := by omega
          have hn0 : (0 : Int) ≤ (n : Int) := by omega
          have hand := u32_and_255 c hlt2
          have hm0 : (0 : Int) ≤ ((c % 256 : Nat) : Int) := by omega
          have hm1 : ((c % 256 : Nat) : Int) < 256 := by omega
          have hcell : wr.cell? ⟨B, c % 256, none⟩ = some (.int .u32 (Crc.t 0 (c % 256))) := blk_cell hT3 (ht3.2.1 _ (by omega))
          have hcell2 : wr.cell? ⟨B, n * 256 + k, none⟩ = some (cs3[n * 256 + k]'(by rw [ht3.1]; omega)) := blk_cell hT3 (by simp)
          have hfree : wr.frozen? ⟨B, n * 256 + k, none⟩ = false := blk_free hT3
          go_wp2_with fail
          go_roundw
          case rel =>
            have e1 : Value.int IntKind.u32 (bits BinOp.xor IntKind.u32 (↑(Crc.t 0 (c % 256))) (↑c / 256)) = .int .u32 (Crc.t n k) := by
              rw [show (c : Int) / 256 = ((c / 256 : Nat) : Int) by omega, u32_xor_nat _ _ (Crc.t_lt 0 _ (by omega)) (by omega)]
              rw [show Crc.t 0 (c % 256) ^^^ c / 256 = Crc.t n k from ?_]
              obtain ⟨m, rfl⟩ : ∃ m, n = m + 1 := ⟨n - 1, by omega⟩
              have hc1 : Crc.t m k = c := Hc0.out
              rw [show Crc.t (m + 1) k = Crc.st8 (Crc.t m k) from rfl, hc1, ← Crc.st8_table c]; rfl
            rw [e1]
            refine ⟨n + 1, by omega, by omega, by go_num, rfl, hkept3.setCell _ (.inr (by simp [HB.out])), _, blk_setCell _ hT3, ?_⟩
            rw [show n * 256 + k = 256 * n + k by omega]
            exact ht3.set hlt hn hn1
          case measure => simp [intOf]; omega
        · obtain rfl : n = 8 := by omega
          go_wp2_with fail
          go_roundw
          case rel => exact ⟨k + 1, by omega, by go_num, hkept3, cs3, hT3, ht3.next⟩
          case measure => simp [intOf]; omega
    · obtain rfl : k = 256 := by omega
      go_wp2_with fail
      go_ret
      exact ⟨rfl, hkept, cs2, hT2, ht2⟩
end Go.Proofs.Base
