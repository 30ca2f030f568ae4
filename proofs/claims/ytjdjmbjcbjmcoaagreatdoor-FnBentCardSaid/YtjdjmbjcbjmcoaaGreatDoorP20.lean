/- A part of the proof, step P20: what the code and the plain laws of this step give. Made by AI agents; no person has read it. -/
import Derived.Test.YtjdjmbjcbjmcoaaGreatDoorP19
namespace Go.Proofs.Base
open Go Go.Proofs Go.RowKit
theorem textsD (n sp dp tag : Nat) (d : Pd) (l : List Nat) (hd : d.ok) (hn : l.length = n) (hp : 0 < n) (hm : n < 40000) (hsp : sp < 65536) (hdp : dp < 65536) (htag : tag < 4294967296) :
    Texts sp dp tag (16 + n) (12 + (16 + n) + padN (16 + n)) (dataBytes d l) :=
  fun cb _ccap b o cap w hcb hl hcap hcm => ZZPacketTextD cb _ccap b o n cap sp dp tag d l w hd hcb hl hn hp hm hcap hcm hsp hdp htag
theorem padN_lt (n : Nat) : padN n < 4 := by unfold padN; omega
set_option maxRecDepth 100000 in
set_option maxHeartbeats 2000000 in
theorem sent (d : Pd) (ub uo n ucap : Nat) (l : List Nat) (w : World) (hd : d.ok) (hl : BytesAt w ub uo l) (hn : l.length = n) (hp : 0 < n) (hm : n < 40000) :
    Calls Tryz.prog 7 #[.agg (dC d (.slice (some ⟨ub, uo, none⟩) n ucap))] w fun e w' => ∃ g cap', e = .returned (.tuple #[.slice (some ⟨g, 0, none⟩) (12 + (16 + n) + padN (16 + n)) cap', .bool true]) ∧
      BytesAt w' g 0 (packetOf 5000 5001 7 (dataBytes d l)) ∧ 12 + (16 + n) + padN (16 + n) ≤ cap' ∧ cap' ≤ maxLen ∧ w.heap.size ≤ g ∧ Kept [] w w' := by
  have hkA := (Kept.refl [] w).alloc (.cells (dC d (.slice (some ⟨ub, uo, none⟩) n ucap)) 32)
  have H1 := hid (DataText d ub uo n ucap l (w.alloc (.cells (dC d (.slice (some ⟨ub, uo, none⟩) n ucap)) 32)) hd (hl.kept hkA (by simp)) hn hp (by omega))
  have HKA := hid hkA; clear hkA hl
  have hpd := padN_lt (16 + n)
  have HT := hid (textsD n 5000 5001 7 d l hd hn hp hm (by decide) (by decide) (by decide))
  have HN := hid hn; clear hn hd
  unfold dC at *
  go_enter Tryz.func7, Tryz.ntmps7
  go_wp2_with fail
  refine H1.out.mono ?_
  rintro e w1 ⟨g1, cap1, hc1, hc1', hg1, rfl, hb1, hk1⟩
  have H2 := hid (lawsPacket (16 + n) _ (dataBytes d l) HT.out g1 0 cap1 w1 hb1 (by rw [len_dataBytes, HN.out]) (by omega) (by omega) (by omega) (by omega))
  clear H1 HT hb1
  go_wp2_with fail
  refine H2.out.mono ?_
  rintro e w2 ⟨g2, cap2, hg2, hc2, hc2', rfl, hb2, hk2⟩
  go_wp2_with fail
  go_ret2
  have s1 := hk1.size
  simp at s1
  exact ⟨g2, cap2, rfl, hb2, hc2, hc2', by omega, (HKA.out.trans hk1).trans hk2⟩
end Go.Proofs.Base
