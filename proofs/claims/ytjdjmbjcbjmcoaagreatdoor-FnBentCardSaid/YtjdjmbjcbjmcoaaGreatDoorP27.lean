/- A part of the proof, step P27: what the code and the plain laws of this step give. Made by AI agents; no person has read it. -/
import Derived.Test.YtjdjmbjcbjmcoaaGreatDoorP26
namespace Go.Proofs.Base
open Go Go.Proofs Go.RowKit
theorem MsgsIn.congr {w : World} {b off len : Nat} {st st' : Nat → Int} {A A' : Nat → Option Addr} {L C : Nat → Nat} (h : MsgsIn w b off len st A L C) (hs : ∀ i, i < len → st i = st' i) (hA : ∀ i, i < len → A i = A' i) : MsgsIn w b off len st' A' L C :=
  ⟨h.lt, fun i hi => by rw [← hs i hi]; exact h.c0 i hi, fun i hi => by rw [← hA i hi]; exact h.c1 i hi⟩
def abOf (A : Nat → Option Addr) (i : Nat) : Nat := ((A i).getD ⟨0, 0, none⟩).block
def aoOf (A : Nat → Option Addr) (i : Nat) : Nat := ((A i).getD ⟨0, 0, none⟩).off
/-- Where the texts lie: a text that is not empty lies somewhere. -/
def TextsAt (len : Nat) (A : Nat → Option Addr) (L C : Nat → Nat) : Prop := ∀ i, i < len → L i ≤ C i ∧ C i ≤ maxLen ∧ (1 ≤ L i → ∃ b o, A i = some ⟨b, o, none⟩)
theorem PiecesAny (b off len cap first size : Nat) (st : Nat → Int) (A : Nat → Option Addr) (L C : Nat → Nat) (w : World) (hM : MsgsIn w b off len st A L C) (hT : TextsAt len A L C) (hg : Messages len st L) (hs1 : 1 ≤ size) (hs2 : size ≤ 200) :
    Calls Tryz.prog 6 #[.int .u32 first, .slice (some ⟨b, off, none⟩) len cap, .int .i64 size] w fun e w' => ∃ vp, e = .returned vp ∧ w'.ownsRow w.heap.size 32 9 vp (allPieces first size len (fun i => (st i).toNat) L C (abOf A) (aoOf A) len 0 (fun _ => 0) 0).length (pcCells (allPieces first size len (fun i => (st i).toNat) L C (abOf A) (aoOf A) len 0 (fun _ => 0) 0)) ∧ Kept [] w w' := by
  have hst : ∀ i, i < len → st i = (((st i).toNat : Nat) : Int) := fun i hi => by have := (hg.2.2 i hi).1; omega
  refine Pieces b off len cap first size (fun i => (st i).toNat) L C (abOf A) (aoOf A) w (hM.congr hst fun i hi => ?_) ⟨hg.1, hg.2.1, fun i hi => ?_⟩ hs1 hs2 (fun i hi => ⟨(hT i hi).1, (hT i hi).2.1⟩)
  · obtain ⟨b', o', h⟩ := (hT i hi).2.2 (hg.2.2 i hi).2.2.1
    simp [abOf, aoOf, h]
  · have h := hg.2.2 i hi
    exact ⟨by show 0 ≤ (((st i).toNat : Nat) : Int); omega, by show (((st i).toNat : Nat) : Int) ≤ 2; have := h.2.1; omega, h.2.2.1, h.2.2.2⟩
set_option maxRecDepth 100000 in
set_option maxHeartbeats 400000 in
theorem AreRoundsNil (w : World) : Calls Tryz.prog 11 #[.slice none 0 0] w fun e w' => e = .returned (.bool true) ∧ Kept [] w w' := by
  go_enter Tryz.func11, Tryz.ntmps11
  go_wp2_with fail
  refine wp_loop_rounds 2 ?_
  rw [rounds_succ]
  go_wp2_with fail
  go_ret
  exact ⟨rfl, Kept.refl [] w⟩
set_option maxRecDepth 100000 in
set_option maxHeartbeats 2000000 in
theorem isAskedNil (b off len cap : Nat) (size : Int) (st : Nat → Int) (A : Nat → Option Addr) (L C : Nat → Nat) (w : World) (hM : MsgsIn w b off len st A L C) (hT : TextsAt len A L C) (hl63 : (len : Int) ≤ 9223372036854775807) :
    Calls Tryz.prog 5 #[.slice (some ⟨b, off, none⟩) len cap, .int .i64 size, .slice none 0 0] w fun e w' => Says e (Messages len st L ∧ 1 ≤ size ∧ size ≤ 200) ∧ Kept [] w w' := by
  have HM := hid hM; have HT := hid hT
  have H1 := hid (AreMessages b off len cap st A L C w hM hl63)
  clear hM hT
  go_enter Tryz.func5, Tryz.ntmps5
  go_wp2_with fail
  refine H1.out.mono ?_
  rintro e w1 ⟨⟨c, rfl, hc⟩, hk1⟩
  have Hc := hid hc; clear hc H1
  cases c
  · go_wp2_with fail
    go_ret
    exact ⟨⟨false, rfl, fun h => by cases h⟩, hk1⟩
  · have hmes := hid (Hc.out rfl)
    go_wp2_with fail
    refine (AreRoundsNil w1).mono ?_
    rintro e w2 ⟨rfl, hk2⟩
    have hk12 := hk1.trans hk2
    by_cases s1 : 1 ≤ size
    · by_cases s2 : size ≤ 200
      · obtain ⟨sz, rfl⟩ : ∃ sz : Nat, size = sz := ⟨size.toNat, by omega⟩
        have H2 := hid (PiecesAny b off len cap 1 sz st A L C w2 (HM.out.kept hk12) HT.out hmes.out (by omega) (by omega))
        go_wp2_with fail
        refine H2.out.mono ?_
        rintro e w3 ⟨vp, rfl, ho, hk3⟩
        obtain ⟨Ap, Cp, rfl⟩ := own_form ho
        generalize (allPieces 1 sz len (fun i => (st i).toNat) L C (abOf A) (aoOf A) len 0 (fun _ => 0) 0).length = np at *
        have hk13 := hk12.trans hk3
        clear ho H2
        go_wp2_with fail
        go_ret
        exact ⟨⟨decide ((np : Int) ≤ 30), rfl, fun _ => ⟨hmes.out, s1, s2⟩⟩, hk13⟩
      · go_wp2_with fail
        go_ret
        exact ⟨⟨false, rfl, fun h => by cases h⟩, hk12⟩
    · go_wp2_with fail
      go_ret
      exact ⟨⟨false, rfl, fun h => by cases h⟩, hk12⟩
end Go.Proofs.Base
