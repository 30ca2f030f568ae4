/- Parts of the proof, steps P24, P25: what the code and the plain laws of these steps give. Made by AI agents; no person has read it. -/
import Derived.Test.YthphjbjehccomaaGreatDoorP23
section
namespace Go.Proofs.Base
open Go Go.Proofs Go.RowKit
set_option maxRecDepth 100000
/-- Messages in memory: message i has the stream st i and the text l i, which lies at A i. -/
structure MsgsIn (w : World) (b off len : Nat) (st : Nat → Int) (A : Nat → Option Addr) (L C : Nat → Nat) : Prop where
  lt : b < w.heap.size
  c0 : ∀ i, i < len → w.cell? ⟨b, off + i * 2, none⟩ = some (.int .i64 (st i))
  c1 : ∀ i, i < len → w.cell? ⟨b, off + i * 2 + 1, none⟩ = some (.slice (A i) (L i) (C i))
theorem MsgsIn.kept {w w' : World} {b off len : Nat} {st : Nat → Int} {A : Nat → Option Addr} {L C : Nat → Nat} (h : MsgsIn w b off len st A L C) (k : Kept [] w w') : MsgsIn w' b off len st A L C :=
  ⟨Nat.lt_of_lt_of_le h.lt k.size, fun i hi => (k.cell (p := ⟨b, off + i * 2, none⟩) h.lt (by simp)).trans (h.c0 i hi), fun i hi => (k.cell (p := ⟨b, off + i * 2 + 1, none⟩) h.lt (by simp)).trans (h.c1 i hi)⟩
def IsBool (e : Ending) : Prop := ∃ c : Bool, e = .returned (.bool c)
set_option maxRecDepth 100000 in
set_option maxHeartbeats 400000 in
theorem zzFits2 (st : Int) (A : Option Addr) (L C : Nat) (w : World) : Calls Tryz.prog 10 #[.agg #[.int .i64 st, .slice A L C]] w fun e w' => IsBool e ∧ Kept [] w w' := by
  by_cases h : L ≤ 2147483647
  · have h1 : ¬ (2147483647 : Int) < (L : Int) := by omega
    go_enter Tryz.func10, Tryz.ntmps10
    go_wp2_with fail
    go_ret
    exact ⟨⟨true, rfl⟩, (Kept.refl [] w).alloc _⟩
  · have h1 : (2147483647 : Int) < (L : Int) := by omega
    go_enter Tryz.func10, Tryz.ntmps10
    go_wp2_with fail
    go_ret
    exact ⟨⟨false, rfl⟩, (Kept.refl [] w).alloc _⟩
set_option maxRecDepth 100000 in
set_option maxHeartbeats 1000000 in
theorem zzFits1 (b off len cap : Nat) (st : Nat → Int) (A : Nat → Option Addr) (L C : Nat → Nat) (w : World) (hM : MsgsIn w b off len st A L C) :
    Calls Tryz.prog 4 #[.slice (some ⟨b, off, none⟩) len cap] w fun e w' => IsBool e ∧ Kept [] w w' := by
  have HM := hid hM; clear hM
  by_cases h : (2147483647 : Int) < (len : Int)
  · go_enter Tryz.func4, Tryz.ntmps4
    go_wp2_with fail
    go_ret
    exact ⟨⟨false, rfl⟩, Kept.refl [] w⟩
  · go_enter Tryz.func4, Tryz.ntmps4
    go_wp2_with fail
    have K0 := hid (Kept.refl [] w)
    go_loopw [10] (fun i10 wx => ∃ i : Nat, i ≤ len ∧ i10 = .int .i64 i ∧ Kept [] w wx) (fun i10 _ => len - (intOf i10).toNat)
    case atStart => exact ⟨0, by omega, rfl, K0.out⟩
    case round =>
      obtain ⟨i, hi, rfl, hk⟩ := hrel
      by_cases hlt : i < len
      · have hlt' : (i : Int) < (len : Int) := by omega
        have h0' : (0 : Int) ≤ (i : Int) := by omega
        have c0 := (HM.out.kept hk).c0 i hlt
        have c1 := (HM.out.kept hk).c1 i hlt
        go_wp2_with fail
        refine (zzFits2 (st i) (A i) (L i) (C i) _).mono ?_
        rintro e w1 ⟨⟨c, rfl⟩, hk1⟩
        have hk2 := hk.trans (((Kept.refl [] wr).alloc _).trans hk1)
        cases c
        · go_wp2_with fail
          go_ret
          exact ⟨⟨false, rfl⟩, hk2⟩
        · go_wp2_with fail
          go_roundw
          case rel => exact ⟨i + 1, by omega, by go_num, hk2⟩
          case measure => simp [intOf]; omega
      · have hlt' : ¬ (i : Int) < (len : Int) := by omega
        go_wp2_with fail
        go_ret
        exact ⟨⟨true, rfl⟩, hk⟩
end Go.Proofs.Base
end
section
namespace Go.Proofs.Base
open Go Go.Proofs Go.RowKit
set_option maxRecDepth 100000
def Good (st : Int) (L : Nat) : Prop := 0 ≤ st ∧ st ≤ 2 ∧ 1 ≤ L ∧ L ≤ 200
instance (st : Int) (L : Nat) : Decidable (Good st L) := inferInstanceAs (Decidable (_ ∧ _))
def Messages (len : Nat) (st : Nat → Int) (L : Nat → Nat) : Prop := 1 ≤ len ∧ len ≤ 6 ∧ ∀ i, i < len → Good (st i) (L i)
def Says (e : Ending) (p : Prop) : Prop := ∃ c : Bool, e = .returned (.bool c) ∧ (c = true → p)
set_option maxRecDepth 100000 in
set_option maxHeartbeats 2000000 in
theorem AreMessages (b off len cap : Nat) (st : Nat → Int) (A : Nat → Option Addr) (L C : Nat → Nat) (w : World) (hM : MsgsIn w b off len st A L C) (hl63 : (len : Int) ≤ 9223372036854775807) :
    Calls Tryz.prog 12 #[.slice (some ⟨b, off, none⟩) len cap] w fun e w' => Says e (Messages len st L) ∧ Kept [] w w' := by
  have HM := hid hM; clear hM
  go_enter Tryz.func12, Tryz.ntmps12
  go_wp2_with fail
  have K0 := hid (Kept.refl [] w)
  go_loopw [7] (fun i7 wx => ∃ i : Nat, i ≤ len ∧ i7 = .int .i64 i ∧ Kept [] w wx ∧ Hid (∀ j, j < i → Good (st j) (L j))) (fun i7 _ => len - (intOf i7).toNat)
  case atStart => exact ⟨0, by omega, rfl, K0.out, hid (fun j hj => by omega)⟩
  case round =>
    obtain ⟨i, hi, rfl, hk, hgood⟩ := hrel
    by_cases hlt : i < len
    · have hlt' : (i : Int) < (len : Int) := by omega
      have h0' : (0 : Int) ≤ (i : Int) := by omega
      have c0 := (HM.out.kept hk).c0 i hlt
      have c1 := (HM.out.kept hk).c1 i hlt
      by_cases a1 : st i < 0
      · go_wp2_with fail
        go_ret
        exact ⟨⟨false, rfl, fun h => by cases h⟩, hk.alloc _⟩
      · by_cases a2 : 2 < st i
        · go_wp2_with fail
          go_ret
          exact ⟨⟨false, rfl, fun h => by cases h⟩, hk.alloc _⟩
        · by_cases a3 : (L i : Int) < 1
          · go_wp2_with fail
            go_ret
            exact ⟨⟨false, rfl, fun h => by cases h⟩, hk.alloc _⟩
          · by_cases a4 : (200 : Int) < (L i : Int)
            · go_wp2_with fail
              go_ret
              exact ⟨⟨false, rfl, fun h => by cases h⟩, hk.alloc _⟩
            · go_wp2_with fail
              go_roundw
              case rel =>
                refine ⟨i + 1, by omega, by go_num, hk.alloc _, hid (fun j hj => ?_)⟩
                rcases Nat.lt_or_ge j i with h | h
                · exact hgood.out j h
                · obtain rfl : j = i := by omega
                  exact ⟨by omega, by omega, by omega, by omega⟩
              case measure => simp [intOf]; omega
    · have hlt' : ¬ (i : Int) < (len : Int) := by omega
      obtain rfl : i = len := by omega
      by_cases b1 : (1 : Int) ≤ (i : Int)
      · by_cases b2 : (i : Int) ≤ 6
        · go_wp2_with fail
          go_ret
          exact ⟨⟨true, rfl, fun _ => ⟨by omega, by omega, hgood.out⟩⟩, hk⟩
        · go_wp2_with fail
          go_ret
          exact ⟨⟨false, rfl, fun h => by cases h⟩, hk⟩
      · go_wp2_with fail
        go_ret
        exact ⟨⟨false, rfl, fun h => by cases h⟩, hk⟩
end Go.Proofs.Base
end
