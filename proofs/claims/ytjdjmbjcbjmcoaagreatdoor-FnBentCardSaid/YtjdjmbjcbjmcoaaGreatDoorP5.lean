/- A part of the proof, step P5: what the code and the plain laws of this step give. Made by AI agents; no person has read it. -/
import Derived.Test.YtjdjmbjcbjmcoaaGreatDoorP3
import Derived.Test.YtjdjmbjcbjmcoaaGreatDoorP4
namespace Go.Proofs.Base
open Go Go.Proofs Go.RowKit
/-- impl.Data, sctp.ZZData as values. -/
def dataV (un bg en im : Bool) (tsn : Nat) (stream seq : Int) (proto : Nat) (user : Value) : Value :=
  .agg #[.bool un, .bool bg, .bool en, .bool im, .int .u32 tsn, .int .i64 stream, .int .i64 seq, .int .u32 proto, user]
def zzC (d : Pd) (user : Value) : Array Value := #[.bool false, .bool d.bg, .bool d.en, .bool false, .int .u32 d.tsn, .int .u16 d.si, .int .u16 d.ssn, .int .u32 d.ppi, user]
set_option maxRecDepth 100000 in
set_option maxHeartbeats 400000 in
theorem zzPayload (d : Pd) (ua : Option Addr) (un uc : Nat) (w : World) :
    Calls Tryz.prog 22 #[.agg (zzC d (.slice ua un uc))] w fun e w' => e = .returned (.pointer (some ⟨w.heap.size + 1, 0, none⟩)) ∧ PayAt w' (w.heap.size + 1) 0 0 (.slice none 0 0) d (.slice ua un uc) ∧ Kept [] w w' := by
  unfold zzC
  go_enter Tryz.func22, Tryz.ntmps22
  go_wp2_with fail
  go_ret
  refine ⟨rfl, ?_, ((Kept.refl [] w).alloc _).alloc _⟩
  unfold PayAt
  have h := blk_new (w.alloc (.cells #[.bool false, .bool d.bg, .bool d.en, .bool false, .int .u32 d.tsn, .int .u16 d.si, .int .u16 d.ssn, .int .u32 d.ppi, .slice ua un uc] 58)) (.cells (payC 0 0 (.slice none 0 0) d (.slice ua un uc)) 79)
  simp only [World.size_alloc] at h
  exact h

set_option maxRecDepth 100000 in
set_option maxHeartbeats 400000 in
theorem ZZDataText (d : Pd) (ub uo n ucap : Nat) (l : List Nat) (w : World) (hd : d.ok) (hl : BytesAt w ub uo l) (hn : l.length = n) (hp : 0 < n) (hm : n < 50000) :
    Calls Tryz.prog 16 #[.agg (zzC d (.slice (some ⟨ub, uo, none⟩) n ucap))] w fun e w' => ∃ B, w.heap.size ≤ B ∧ e = .returned (.tuple #[.slice (some ⟨B, 0, none⟩) (16 + n) (16 + n), .nilIface]) ∧ OB w' B (dataBytes d l) ∧ Kept [] w w' := by
  have hub := hl.lt
  have H1 := hid (zzPayload d (some ⟨ub, uo, none⟩) n ucap (w.alloc (.cells (zzC d (.slice (some ⟨ub, uo, none⟩) n ucap)) 58)))
  unfold zzC at *
  go_enter Tryz.func16, Tryz.ntmps16
  go_wp2_with fail
  refine H1.out.mono ?_
  rintro e w1 ⟨rfl, hP, hk1⟩
  have hk1' := ((Kept.refl [] w).alloc _).trans hk1
  clear H1
  simp only [World.size_alloc] at hP ⊢
  have H2 := hid (pay_marshal (w.heap.size + 1 + 1) 0 0 ub uo n ucap _ d l w1 hd (by decide) hP (hl.kept hk1' (by simp)) hn hp hm)
  clear hP
  go_wp2_with fail
  refine H2.out.mono ?_
  rintro e w2 ⟨B, hB, rfl, hO, hk2⟩
  have HO := hid hO
  clear hO
  have hsz := hk1'.size
  go_wp2_with fail
  go_ret2
  exact ⟨B, by omega, rfl, HO.out, hk1'.thenNew hk2 (by simp; omega)⟩
end Go.Proofs.Base
