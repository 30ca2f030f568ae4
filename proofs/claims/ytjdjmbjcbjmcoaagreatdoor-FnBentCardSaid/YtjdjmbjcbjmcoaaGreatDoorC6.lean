/- A part of the proof, step C6: what the code and the plain laws of this step give. Made by AI agents; no person has read it. -/
import Derived.Test.YtjdjmbjcbjmcoaaGreatDoorC5
namespace Go.Proofs.Base
open Go Go.Proofs Go.RowKit
set_option maxRecDepth 100000 in
set_option maxHeartbeats 400000 in
theorem SlicingUpdate (c b off len cap : Nat) (l : List Nat) (w : World) (hc : c < 4294967296) (hl : BytesAt w b off l) (hlen : l.length = len) (hm : len ≤ 9223372036854775807) (hcap : len ≤ cap) (hcm : cap ≤ 9223372036854775807) :
    Calls Tryz.prog 40 #[.int .u32 c, .int .u32 2197175160, .slice (some ⟨b, off, none⟩) len cap] w fun r w' => r = .returned (.int .u32 (Crc.upd c l)) ∧ Kept [] w w' := by
  go_enter Tryz.func40, Tryz.ntmps40
  go_wp2_with fail
  refine (makeTable w).mono ?_
  rintro e w1 ⟨rfl, hk, cs, hT, ht⟩
  have Hcall := hid (slicingUpdate c w.heap.size b off len cap l cs w1 hc hT ht (hl.kept hk (by simp)) hlen hm hcap hcm)
  clear hT
  go_wp2_with fail
  refine Hcall.out.mono ?_
  rintro e w2 ⟨rfl, n, rfl⟩
  go_wp2_with fail
  go_ret
  exact ⟨rfl, hk.drewN n⟩
theorem zeros4 (w : World) : BytesAt (w.alloc (.cells #[.int .u8 0, .int .u8 0, .int .u8 0, .int .u8 0] 5)) w.heap.size 0 [0, 0, 0, 0] :=
  ⟨by simp, by simp, fun j hj => by
    refine blk_cell (blk_new w _) ?_
    match j, hj with
    | 0, _ => rfl
    | 1, _ => rfl
    | 2, _ => rfl
    | 3, _ => rfl⟩
set_option maxRecDepth 100000 in
set_option maxHeartbeats 400000 in
theorem checksum (b off len cap : Nat) (l : List Nat) (w : World) (hl : BytesAt w b off l) (hlen : l.length = len) (h12 : 12 < len) (hcap : len ≤ cap) (hcm : cap ≤ 9223372036854775807) :
    Calls Tryz.prog 38 #[.slice (some ⟨b, off, none⟩) len cap] w fun r w' => r = .returned (.int .u32 (Crc.sum l)) ∧ Kept [] w w' := by
  have h8 : (8 : Int) ≤ (cap : Int) := by omega
  have h12' : (12 : Int) ≤ (len : Int) := by omega
  have hc12 : ¬ cap = 12 := by omega
  have hc8 : ¬ cap = 8 := by omega
  have HL := hid hlen; clear hlen
  have H1 := hid (SlicingUpdate 0 b off 8 cap (l.take 8) w (by decide) (hl.take 8) (by simp [HL.out]; omega) (by omega) (by omega) hcm)
  have s1 := Crc.upd_lt 0 (l.take 8)
  have hmk : ∀ w, (Instr.makeSlice 28 (.int .i64 4) (.int .i64 4)).run Tryz.prog w = .ok (.slice (some ⟨w.heap.size, 0, none⟩) 4 4) (w.alloc (.cells #[.int .u8 0, .int .u8 0, .int .u8 0, .int .u8 0] 5)) := fun _ => by kernel_rfl
  go_enter Tryz.func38, Tryz.ntmps38
  go_wp2_with fail
  refine H1.out.mono ?_
  rintro e w1 ⟨rfl, hk1⟩
  generalize hs1 : Crc.upd 0 (l.take 8) = c1 at *
  have Hs1 := hid hs1; clear hs1 H1
  have H2 := hid (SlicingUpdate c1 w1.heap.size 0 4 4 [0, 0, 0, 0] _ s1 (zeros4 w1) rfl (by omega) (by omega) (by omega))
  go_wp2_with fail
  refine H2.out.mono ?_
  rintro e w2 ⟨rfl, hk2⟩
  have hk2' := hk1.trans (((Kept.refl [] w1).alloc _).trans hk2)
  clear hk2 hk1
  have s2 := Crc.upd_lt c1 [0, 0, 0, 0]
  generalize hs2 : Crc.upd c1 [0, 0, 0, 0] = c2 at *
  have Hs2 := hid hs2; clear hs2 H2
  have H3 := hid (SlicingUpdate c2 b (off + 12) (len - 12) (cap - 12) (l.drop 12) w2 s2 ((hl.kept hk2' (by simp)).drop 12) (by simp [HL.out]) (by omega) (by omega) (by omega))
  go_wp2_with fail
  refine H3.out.mono ?_
  rintro e w3 ⟨rfl, hk3⟩
  go_wp2_with fail
  go_ret
  have e1 : Crc.upd c2 (l.drop 12) = Crc.sum l := by rw [Crc.sum, Hs1.out, Hs2.out]
  exact ⟨congrArg (fun z : Nat => Ending.returned (.int .u32 z)) e1, hk2'.trans hk3⟩
end Go.Proofs.Base
