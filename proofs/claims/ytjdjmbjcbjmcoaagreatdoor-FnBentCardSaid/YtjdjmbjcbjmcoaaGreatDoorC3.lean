/- A part of the proof, step C3: what the code and the plain laws of this step give. Made by AI agents; no person has read it. -/
import Derived.Test.YtjdjmbjcbjmcoaaGreatDoorC2
namespace Go.Proofs.Base
open Go Go.Proofs Go.RowKit
/-- The byte at j. -/
def bt (l : List Nat) (j : Nat) : Nat := l.getD j 0
theorem bt_get {l : List Nat} {j : Nat} (h : j < l.length) : bt l j = l[j] := by simp [bt, h]
theorem bt_drop (l : List Nat) (k j : Nat) : bt (l.drop k) j = bt l (k + j) := by simp [bt]
theorem bt_take {l : List Nat} {k j : Nat} (h : j < k) : bt (l.take k) j = bt l j := by simp [bt, h]
structure BytesAt (w : World) (b off : Nat) (l : List Nat) : Prop where
  lt : b < w.heap.size
  small : ∀ x ∈ l, x < 256
  cell : ∀ j, j < l.length → w.cell? ⟨b, off + j, none⟩ = some (.int .u8 (bt l j : Nat))
theorem bt_lt {l : List Nat} (h : ∀ x ∈ l, x < 256) (j : Nat) : bt l j < 256 := by
  by_cases hj : j < l.length
  · rw [bt_get hj]; exact h _ (List.getElem_mem hj)
  · simp [bt, List.getElem?_eq_none (by omega : l.length ≤ j)]
theorem BytesAt.kept {S : List Nat} {w w' : World} {b off : Nat} {l : List Nat} (h : BytesAt w b off l) (k : Kept S w w') (hb : b ∉ S) : BytesAt w' b off l :=
  ⟨Nat.lt_of_lt_of_le h.lt k.size, h.small, fun j hj => (k.cell (p := ⟨b, off + j, none⟩) h.lt hb).trans (h.cell j hj)⟩
theorem BytesAt.drop {w : World} {b off : Nat} {l : List Nat} (h : BytesAt w b off l) (k : Nat) : BytesAt w b (off + k) (l.drop k) :=
  ⟨h.lt, fun x hx => h.small x (List.mem_of_mem_drop hx), fun j hj => by
    rw [bt_drop, Nat.add_assoc]; exact h.cell (k + j) (by simp at hj; omega)⟩
theorem BytesAt.take {w : World} {b off : Nat} {l : List Nat} (h : BytesAt w b off l) (k : Nat) : BytesAt w b off (l.take k) :=
  ⟨h.lt, fun x hx => h.small x (List.mem_of_mem_take hx), fun j hj => by
    simp at hj
    rw [bt_take (by omega)]; exact h.cell j (by omega)⟩
theorem BytesAt.blt {w : World} {b off : Nat} {l : List Nat} (h : BytesAt w b off l) (j : Nat) : bt l j < 256 := bt_lt h.small j
theorem take_snoc {l : List Nat} {k : Nat} (h : k < l.length) : l.take (k + 1) = l.take k ++ [bt l k] := by
  rw [List.take_succ_eq_append_getElem h, bt_get h]
theorem fold_snoc (c : Nat) {l : List Nat} {k : Nat} (h : k < l.length) : Crc.fold c (l.take (k + 1)) = Crc.bs (Crc.fold c (l.take k)) (bt l k) := by
  rw [take_snoc h, Crc.fold_append]; rfl
theorem fold_take_lt (c k : Nat) (l : List Nat) (hc : c < 4294967296) (h : ∀ x ∈ l, x < 256) : Crc.fold c (l.take k) < 4294967296 := Crc.fold_lt _ _ hc (fun b hb => h b (List.mem_of_mem_take hb))

theorem u32_inv (c : Nat) (h : c < 4294967296) : bits .xor .u32 IntKind.u32.max (c : Int) = ((Crc.inv c : Nat) : Int) := by
  rw [show IntKind.u32.max = ((4294967295 : Nat) : Int) from rfl, u32_xor_nat _ _ (by decide) h]
  congr 1
  unfold Crc.inv
  have h2 : (BitVec.allOnes 32 ^^^ BitVec.ofNat 32 c).toNat = (~~~ (BitVec.ofNat 32 c)).toNat := by rw [BitVec.allOnes_xor]
  rw [BitVec.toNat_xor, BitVec.toNat_not, BitVec.toNat_allOnes, BitVec.toNat_ofNat, Nat.mod_eq_of_lt h] at h2
  simpa using h2
set_option maxRecDepth 100000 in
set_option maxHeartbeats 400000 in
theorem simpleUpdate (c T b off len cap : Nat) (l : List Nat) (w : World) (hc : c < 4294967296) (hT : ∀ k, k < 256 → w.cell? ⟨T, k, none⟩ = some (.int .u32 (Crc.t 0 k))) (hl : BytesAt w b off l) (hlen : l.length = len) (hm : len ≤ 9223372036854775807) :
    Calls Tryz.prog 44 #[.int .u32 c, .pointer (some ⟨T, 0, none⟩), .slice (some ⟨b, off, none⟩) len cap] w fun r w' => r = .returned (.int .u32 (Crc.upd c l)) ∧ w = w' := by
  have HL := hid hlen; clear hlen
  have hi := u32_inv c hc
  go_enter Tryz.func44, Tryz.ntmps44
  go_wp2
  go_loop [0, 8, 13] (fun v _ i => ∃ k : Nat, k ≤ len ∧ i = .int .i64 k ∧ v = .int .u32 (Crc.fold (Crc.inv c) (l.take k))) (fun _ _ i => len - (intOf i).toNat)
  case atStart => exact ⟨0, by omega, rfl, by simp [Crc.fold]⟩
  case round =>
    obtain ⟨k, hk, rfl, rfl⟩ := hrel
    have hf := fold_take_lt (Crc.inv c) k l (Crc.inv_lt c) hl.small
    by_cases hlt : k < len
    · have Hs := hid (fold_snoc (Crc.inv c) (by rw [HL.out]; exact hlt : k < l.length))
      have hcb := hl.cell k (by rw [HL.out]; exact hlt)
      have hb := hl.blt k
      generalize bt l k = x at *
      generalize Crc.fold (Crc.inv c) (List.take k l) = f at *
      have hk0 : (0 : Int) ≤ (k : Int) := by omega
      have hk1 : (k : Int) < (len : Int) := by omega
      clear hi
      obtain ⟨i, hi, hix⟩ : ∃ i, i < 256 ∧ i = (f % 256) ^^^ x := ⟨_, Nat.xor_lt_two_pow (n := 8) (by omega) hb, rfl⟩
      have he1 : bits BinOp.xor IntKind.u8 ((f : Int) % 256) (x : Int) = (i : Int) := by
        rw [hix, show ((f : Int) % 256) = ((f % 256 : Nat) : Int) by omega, u8_xor_nat _ _ (by omega) hb]
      have he2 : bits BinOp.xor IntKind.u32 ((Crc.t 0 i : Nat) : Int) ((f : Int) / 256) = ((Crc.bs f x : Nat) : Int) := by
        rw [show ((f : Int) / 256) = ((f / 256 : Nat) : Int) by omega, u32_xor_nat _ _ (Crc.t_lt 0 _ (by omega)) (by omega), hix, ← Crc.bs_table f x hb]; rfl
      have hi0 : (0 : Int) ≤ (i : Int) := by omega
      have hi1 : (i : Int) < 256 := by omega
      have hti := hT i hi
      clear hix hT
      go_wp2
      go_round
      case rel => exact ⟨k + 1, by omega, by go_num, by rw [Hs.out]⟩
      case measure => simp [intOf]; omega
    · obtain rfl : k = len := by omega
      have hi2 := u32_inv _ hf
      clear hi hT
      go_wp2
      go_ret
      exact ⟨by rw [List.take_of_length_le (by rw [HL.out]; omega)]; rfl, rfl⟩
end Go.Proofs.Base
