/- A part of the proof, step P25: what the code and the plain laws of this step give. Made by AI agents; no person has read it. -/
import Derived.Test.YtjdjmbjcbjmcoaaGreatDoorP24
namespace Go.Proofs.Base
open Go Go.Proofs Go.RowKit
def Good (st : Int) (L : Nat) : Prop := 0 ≤ st ∧ st ≤ 2 ∧ 1 ≤ L ∧ L ≤ 200
instance (st : Int) (L : Nat) : Decidable (Good st L) := inferInstanceAs (Decidable (_ ∧ _))
def Messages (len : Nat) (st : Nat → Int) (L : Nat → Nat) : Prop := 1 ≤ len ∧ len ≤ 6 ∧ ∀ i, i < len → Good (st i) (L i)
def Says (e : Ending) (p : Prop) : Prop := ∃ c : Bool, e = .returned (.bool c) ∧ (c = true → p)
set_option maxRecDepth 100000 in
set_option maxHeartbeats 2000000 in
theorem AreMessages (b off len cap : Nat) (st : Nat → Int) (A : Nat → Option Addr) (L C : Nat → Nat) (w : World) (hM : MsgsIn w b off len st A L C) (hl63 : (len : Int) ≤ 9223372036854775807) :
    Calls Tryz.prog 10 #[.slice (some ⟨b, off, none⟩) len cap] w fun e w' => Says e (Messages len st L) ∧ Kept [] w w' := by
  have HM := hid hM; clear hM
  go_enter Tryz.func10, Tryz.ntmps10
  go_wp2_with fail
  have K0 := hid (Kept.refl [] w)
  go_loopw [7] (fun i7 wx => ∃ i : Nat, i ≤ len ∧ i7 = .int .i64 i ∧ Kept [] w wx ∧ Hid (∀ j, j < i → Good (st j) (L j))) (fun i7 _ => len - (intOf i7).toNat)
  case atStart => exact ⟨0, by omega, rfl, K0.out, hid (fun j hj => by omega)⟩
  case round =>
    obtain ⟨i, hi, rfl, hk, hgood⟩ := hrel
    by_cases hlt : i < len
    · have hlt' : (i : Int) < (len : Int) := by omega
      have h0' : (0 : Int) ≤ (i : Int) := by omega
      have c0 := (HM.out.kept hk).c0 i hlt
      have c1 := (HM.out.kept hk).c1 i hlt
      by_cases a1 : st i < 0
      · go_wp2_with fail
        go_ret
        exact ⟨⟨false, rfl, fun h => by cases h⟩, hk.alloc _⟩
      · by_cases a2 : 2 < st i
        · go_wp2_with fail
          go_ret
          exact ⟨⟨false, rfl, fun h => by cases h⟩, hk.alloc _⟩
        · by_cases a3 : (L i : Int) < 1
          · go_wp2_with fail
            go_ret
            exact ⟨⟨false, rfl, fun h => by cases h⟩, hk.alloc _⟩
          · by_cases a4 : (200 : Int) < (L i : Int)
            · go_wp2_with fail
              go_ret
              exact ⟨⟨false, rfl, fun h => by cases h⟩, hk.alloc _⟩
            · go_wp2_with fail
              go_roundw
              case rel =>
                refine ⟨i + 1, by omega, by go_num, hk.alloc _, hid (fun j hj => ?_)⟩
                rcases Nat.lt_or_ge j i with h | h
                · exact hgood.out j h
                · obtain rfl : j = i := by omega
                  exact ⟨by omega, by omega, by omega, by omega⟩
              case measure => simp [intOf]; omega
    · have hlt' : ¬ (i : Int) < (len : Int) := by omega
      obtain rfl : i = len := by omega
      by_cases b1 : (1 : Int) ≤ (i : Int)
      · by_cases b2 : (i : Int) ≤ 6
        · go_wp2_with fail
          go_ret
          exact ⟨⟨true, rfl, fun _ => ⟨by omega, by omega, hgood.out⟩⟩, hk⟩
        · go_wp2_with fail
          go_ret
          exact ⟨⟨false, rfl, fun h => by cases h⟩, hk⟩
      · go_wp2_with fail
        go_ret
        exact ⟨⟨false, rfl, fun h => by cases h⟩, hk⟩
end Go.Proofs.Base
