/- Parts of the proof, steps T1, T2, P27, T17, T18, H2, H3: what the code and the plain laws of these steps give. Made by AI agents; no person has read it. -/
import Derived.Test.YthphjbjehccomaaGreatDoorP25
import Derived.Test.YthphjbjehccomaaGreatDoorP26
section
namespace Go.Proofs.Base
open Go Go.Proofs Go.RowKit
set_option maxRecDepth 100000
/-- Rounds in memory: round i has the acts at A i, turns, a bit, and whether what is told is lost. -/
structure RndsIn (w : World) (b off len : Nat) (A : Nat → Option Addr) (L C : Nat → Nat) (tu bi : Nat → Int) (lo : Nat → Bool) : Prop where
  lt : b < w.heap.size
  c0 : ∀ i, i < len → w.cell? ⟨b, off + i * 4, none⟩ = some (.slice (A i) (L i) (C i))
  c1 : ∀ i, i < len → w.cell? ⟨b, off + i * 4 + 1, none⟩ = some (.int .i64 (tu i))
  c2 : ∀ i, i < len → w.cell? ⟨b, off + i * 4 + 2, none⟩ = some (.int .i64 (bi i))
  c3 : ∀ i, i < len → w.cell? ⟨b, off + i * 4 + 3, none⟩ = some (.bool (lo i))
theorem RndsIn.kept {w w' : World} {b off len : Nat} {A : Nat → Option Addr} {L C : Nat → Nat} {tu bi : Nat → Int} {lo : Nat → Bool} (h : RndsIn w b off len A L C tu bi lo) (k : Kept [] w w') : RndsIn w' b off len A L C tu bi lo :=
  ⟨Nat.lt_of_lt_of_le h.lt k.size, fun i hi => (k.cell (p := ⟨b, off + i * 4, none⟩) h.lt (by simp)).trans (h.c0 i hi), fun i hi => (k.cell (p := ⟨b, off + i * 4 + 1, none⟩) h.lt (by simp)).trans (h.c1 i hi),
    fun i hi => (k.cell (p := ⟨b, off + i * 4 + 2, none⟩) h.lt (by simp)).trans (h.c2 i hi), fun i hi => (k.cell (p := ⟨b, off + i * 4 + 3, none⟩) h.lt (by simp)).trans (h.c3 i hi)⟩
/-- Numbers in memory. -/
structure IntsAt (w : World) (b o n : Nat) (z : Nat → Int) : Prop where
  lt : b < w.heap.size
  cell : ∀ j, j < n → w.cell? ⟨b, o + j, none⟩ = some (.int .i64 (z j))
theorem IntsAt.kept {w w' : World} {b o n : Nat} {z : Nat → Int} (h : IntsAt w b o n z) {S : List Nat} (k : Kept S w w') (hb : b ∉ S) : IntsAt w' b o n z :=
  ⟨Nat.lt_of_lt_of_le h.lt k.size, fun j hj => (k.cell (p := ⟨b, o + j, none⟩) h.lt hb).trans (h.cell j hj)⟩
/-- The acts of each round: they lie somewhere, unless there are none. -/
def ActsIn (w : World) (len : Nat) (A : Nat → Option Addr) (L C : Nat → Nat) (act : Nat → Nat → Int) : Prop :=
  ∀ i, i < len → L i ≤ C i ∧ C i ≤ maxLen ∧ (1 ≤ L i → ∃ b o, A i = some ⟨b, o, none⟩ ∧ IntsAt w b o (L i) (act i))
theorem ActsIn.kept {w w' : World} {len : Nat} {A : Nat → Option Addr} {L C : Nat → Nat} {act : Nat → Nat → Int} (h : ActsIn w len A L C act) (k : Kept [] w w') : ActsIn w' len A L C act := fun i hi => by
  obtain ⟨h1, h2, h3⟩ := h i hi
  refine ⟨h1, h2, fun h4 => ?_⟩
  obtain ⟨b, o, h5, h6⟩ := h3 h4
  exact ⟨b, o, h5, h6.kept k (by simp)⟩
set_option maxRecDepth 100000 in
set_option maxHeartbeats 400000 in
theorem zzFits4 (A : Option Addr) (L C : Nat) (tu bi : Int) (lo : Bool) (w : World) : Calls Tryz.prog 11 #[.agg #[.slice A L C, .int .i64 tu, .int .i64 bi, .bool lo]] w fun e w' => IsBool e ∧ Kept [] w w' := by
  by_cases h : L ≤ 2147483647
  · have h1 : ¬ (2147483647 : Int) < (L : Int) := by omega
    go_enter Tryz.func11, Tryz.ntmps11
    go_wp2_with fail
    go_ret
    exact ⟨⟨true, rfl⟩, (Kept.refl [] w).alloc _⟩
  · have h1 : (2147483647 : Int) < (L : Int) := by omega
    go_enter Tryz.func11, Tryz.ntmps11
    go_wp2_with fail
    go_ret
    exact ⟨⟨false, rfl⟩, (Kept.refl [] w).alloc _⟩
set_option maxRecDepth 100000 in
set_option maxHeartbeats 1000000 in
theorem zzFits3 (b off len cap : Nat) (A : Nat → Option Addr) (L C : Nat → Nat) (tu bi : Nat → Int) (lo : Nat → Bool) (w : World) (hM : RndsIn w b off len A L C tu bi lo) :
    Calls Tryz.prog 5 #[.slice (some ⟨b, off, none⟩) len cap] w fun e w' => IsBool e ∧ Kept [] w w' := by
  have HM := hid hM; clear hM
  by_cases h : (2147483647 : Int) < (len : Int)
  · go_enter Tryz.func5, Tryz.ntmps5
    go_wp2_with fail
    go_ret
    exact ⟨⟨false, rfl⟩, Kept.refl [] w⟩
  · go_enter Tryz.func5, Tryz.ntmps5
    go_wp2_with fail
    have K0 := hid (Kept.refl [] w)
    go_loopw [10] (fun i10 wx => ∃ i : Nat, i ≤ len ∧ i10 = .int .i64 i ∧ Kept [] w wx) (fun i10 _ => len - (intOf i10).toNat)
    case atStart => exact ⟨0, by omega, rfl, K0.out⟩
    case round =>
      obtain ⟨i, hi, rfl, hk⟩ := hrel
      by_cases hlt : i < len
      · have hlt' : (i : Int) < (len : Int) := by omega
        have h0' : (0 : Int) ≤ (i : Int) := by omega
        have c0 := (HM.out.kept hk).c0 i hlt
        have c1 := (HM.out.kept hk).c1 i hlt
        have c2 := (HM.out.kept hk).c2 i hlt
        have c3 := (HM.out.kept hk).c3 i hlt
        go_wp2_with fail
        refine (zzFits4 (A i) (L i) (C i) (tu i) (bi i) (lo i) _).mono ?_
        rintro e w1 ⟨⟨c, rfl⟩, hk1⟩
        have hk2 := hk.trans (((Kept.refl [] wr).alloc _).trans hk1)
        cases c
        · go_wp2_with fail
          go_ret
          exact ⟨⟨false, rfl⟩, hk2⟩
        · go_wp2_with fail
          go_roundw
          case rel => exact ⟨i + 1, by omega, by go_num, hk2⟩
          case measure => simp [intOf]; omega
      · have hlt' : ¬ (i : Int) < (len : Int) := by omega
        go_wp2_with fail
        go_ret
        exact ⟨⟨true, rfl⟩, hk⟩
set_option maxRecDepth 100000 in
set_option maxHeartbeats 400000 in
theorem zzFits3Nil (A : Option Addr) (C : Nat) (w : World) : Calls Tryz.prog 5 #[.slice A 0 C] w fun e w' => e = .returned (.bool true) ∧ Kept [] w w' := by
  go_enter Tryz.func5, Tryz.ntmps5
  go_wp2_with fail
  refine wp_loop_rounds 2 ?_
  rw [rounds_succ]
  go_wp2_with fail
  go_ret
  exact ⟨rfl, Kept.refl [] w⟩
end Go.Proofs.Base
end
section
namespace Go.Proofs.Base
open Go Go.Proofs Go.RowKit
set_option maxRecDepth 100000
/-- A round is right: its acts are from 0 to 3, one to twenty of them; it turns from 0 on. -/
def GoodRound (L : Nat) (act : Nat → Int) (tu bi : Int) : Prop := 1 ≤ L ∧ L ≤ 20 ∧ 0 ≤ tu ∧ 0 ≤ bi ∧ ∀ j, j < L → 0 ≤ act j ∧ act j ≤ 3
def Rounds (len : Nat) (L : Nat → Nat) (act : Nat → Nat → Int) (tu bi : Nat → Int) : Prop := len ≤ 5 ∧ ∀ i, i < len → GoodRound (L i) (act i) (tu i) (bi i)
set_option maxHeartbeats 2000000 in
theorem AreRounds (b off len cap : Nat) (A : Nat → Option Addr) (L C : Nat → Nat) (tu bi : Nat → Int) (lo : Nat → Bool) (act : Nat → Nat → Int) (w : World) (hM : RndsIn w b off len A L C tu bi lo) (hA : ActsIn w len A L C act) (hl63 : (len : Int) ≤ 9223372036854775807) :
    Calls Tryz.prog 13 #[.slice (some ⟨b, off, none⟩) len cap] w fun e w' => Says e (Rounds len L act tu bi) ∧ Kept [] w w' := by
  have HM := hid hM; have HA := hid hA; clear hM hA
  go_enter Tryz.func13, Tryz.ntmps13
  go_wp2_with fail
  have K0 := hid (Kept.refl [] w)
  go_loopw [9] (fun s9 wx => ∃ i : Nat, i ≤ len ∧ s9 = .int .i64 i ∧ Kept [] w wx ∧ Hid (∀ j, j < i → GoodRound (L j) (act j) (tu j) (bi j))) (fun s9 _ => len - (intOf s9).toNat)
  case atStart => exact ⟨0, by omega, rfl, K0.out, hid (fun j hj => by omega)⟩
  case round =>
    obtain ⟨i, hi, rfl, hk, hgood⟩ := hrel
    by_cases hlt : i < len
    · have hlt' : (i : Int) < (len : Int) := by omega
      have h0' : (0 : Int) ≤ (i : Int) := by omega
      have c0 := (HM.out.kept hk).c0 i hlt
      have c1 := (HM.out.kept hk).c1 i hlt
      have c2 := (HM.out.kept hk).c2 i hlt
      have c3 := (HM.out.kept hk).c3 i hlt
      go_wp2_with fail
      generalize hWE : wr.alloc _ = wE
      have hkE : Kept [] wr wE := by rw [← hWE]; exact (Kept.refl [] wr).alloc _
      have hE : wE.heap[wr.heap.size]? = some (.cells #[.slice (A i) (L i) (C i), .int .i64 (tu i), .int .i64 (bi i), .bool (lo i)] 49 (0, 0)) := by rw [← hWE]; exact blk_new wr _
      have HKE := hid (hk.trans hkE); have HE := hid hE
      have hAi := HA.out i hlt
      have HAi := hid hAi
      have lE0 := blk_lt hE
      clear hWE c0 c1 c2 c3 hkE hE hAi hk
      generalize wr.heap.size = E at *
      go_loopw [16] (fun s16 wx => ∃ j : Nat, j ≤ L i ∧ s16 = .int .i64 j ∧ Hid (wx = wE) ∧ Hid (∀ k, k < j → 0 ≤ act i k ∧ act i k ≤ 3)) (fun s16 _ => L i - (intOf s16).toNat)
      case atStart => exact ⟨0, by omega, rfl, hid rfl, hid (fun k hk => by omega)⟩
      case round =>
        obtain ⟨j, hj, rfl, HW, HG⟩ := hrel
        obtain rfl : wr = wE := HW.out
        have hLC := HAi.out.2.1
        have hLc := HAi.out.1
        have hLm : (L i : Int) ≤ 9223372036854775807 := by unfold maxLen at hLC; omega
        clear hLC hLc
        by_cases hjl : j < L i
        · have hjl' : (j : Int) < (L i : Int) := by omega
          have h0j : (0 : Int) ≤ (j : Int) := by omega
          obtain ⟨ba, oa, hAa, hin⟩ := HAi.out.2.2 (by omega)
          have hin' := hin.kept HKE.out (by simp)
          have ca : wr.cell? ⟨ba, oa + j, none⟩ = some (.int .i64 (act i j)) := hin'.cell j hjl
          have lba := hin'.lt
          have HAA := hid hAa
          rw [hAa]
          clear hin hin' hAa
          by_cases a1 : act i j < 0
          · go_wp2_with fail
            go_ret
            exact ⟨⟨false, rfl, fun h => by cases h⟩, HKE.out⟩
          · by_cases a2 : 3 < act i j
            · go_wp2_with fail
              go_ret
              exact ⟨⟨false, rfl, fun h => by cases h⟩, HKE.out⟩
            · go_wp2_with fail
              go_roundw
              case rel =>
                refine ⟨j + 1, by omega, by go_num, hid (by first | trivial | rfl), hid (fun k hk => ?_)⟩
                rcases Nat.lt_or_ge k j with h | h
                · exact HG.out k h
                · obtain rfl : k = j := by omega
                  exact ⟨by omega, by omega⟩
              case measure => simp [intOf]; omega
        · have hjl' : ¬ (j : Int) < (L i : Int) := by omega
          obtain rfl : j = L i := by omega
          have e0 : wr.cell? ⟨E, 0, none⟩ = some (.slice (A i) (L i) (C i)) := blk_cell HE.out rfl
          have e1 : wr.cell? ⟨E, 1, none⟩ = some (.int .i64 (tu i)) := blk_cell HE.out rfl
          have e2 : wr.cell? ⟨E, 2, none⟩ = some (.int .i64 (bi i)) := blk_cell HE.out rfl
          by_cases b1 : (L i : Int) < 1
          · go_wp2_with fail
            go_ret
            exact ⟨⟨false, rfl, fun h => by cases h⟩, HKE.out⟩
          · by_cases b2 : (20 : Int) < (L i : Int)
            · go_wp2_with fail
              go_ret
              exact ⟨⟨false, rfl, fun h => by cases h⟩, HKE.out⟩
            · by_cases b3 : tu i < 0
              · go_wp2_with fail
                go_ret
                exact ⟨⟨false, rfl, fun h => by cases h⟩, HKE.out⟩
              · by_cases b4 : bi i < 0
                · go_wp2_with fail
                  go_ret
                  exact ⟨⟨false, rfl, fun h => by cases h⟩, HKE.out⟩
                · go_wp2_with fail
                  go_roundw
                  case rel =>
                    refine ⟨i + 1, by omega, by go_num, HKE.out, hid (fun k hk => ?_)⟩
                    rcases Nat.lt_or_ge k i with h | h
                    · exact hgood.out k h
                    · obtain rfl : k = i := by omega
                      exact ⟨by omega, by omega, by omega, by omega, HG.out⟩
                  case measure => simp [intOf]; omega
    · have hlt' : ¬ (i : Int) < (len : Int) := by omega
      obtain rfl : i = len := by omega
      by_cases b2 : (i : Int) ≤ 5
      · go_wp2_with fail
        go_ret
        exact ⟨⟨true, rfl, fun _ => ⟨by omega, hgood.out⟩⟩, hk⟩
      · go_wp2_with fail
        go_ret
        exact ⟨⟨false, rfl, fun h => by cases h⟩, hk⟩
end Go.Proofs.Base
end
section
namespace Go.Proofs.Base
open Go Go.Proofs Go.RowKit
set_option maxRecDepth 100000
theorem MsgsIn.congr {w : World} {b off len : Nat} {st st' : Nat → Int} {A A' : Nat → Option Addr} {L C : Nat → Nat} (h : MsgsIn w b off len st A L C) (hs : ∀ i, i < len → st i = st' i) (hA : ∀ i, i < len → A i = A' i) : MsgsIn w b off len st' A' L C :=
  ⟨h.lt, fun i hi => by rw [← hs i hi]; exact h.c0 i hi, fun i hi => by rw [← hA i hi]; exact h.c1 i hi⟩
def abOf (A : Nat → Option Addr) (i : Nat) : Nat := ((A i).getD ⟨0, 0, none⟩).block
def aoOf (A : Nat → Option Addr) (i : Nat) : Nat := ((A i).getD ⟨0, 0, none⟩).off
/-- Where the texts lie: a text that is not empty lies somewhere. -/
def TextsAt (len : Nat) (A : Nat → Option Addr) (L C : Nat → Nat) : Prop := ∀ i, i < len → L i ≤ C i ∧ C i ≤ maxLen ∧ (1 ≤ L i → ∃ b o, A i = some ⟨b, o, none⟩)
theorem PiecesAny (b off len cap first size : Nat) (st : Nat → Int) (A : Nat → Option Addr) (L C : Nat → Nat) (w : World) (hM : MsgsIn w b off len st A L C) (hT : TextsAt len A L C) (hg : Messages len st L) (hs1 : 1 ≤ size) (hs2 : size ≤ 200) :
    Calls Tryz.prog 8 #[.int .u32 first, .slice (some ⟨b, off, none⟩) len cap, .int .i64 size] w fun e w' => ∃ vp, e = .returned vp ∧ w'.ownsRow w.heap.size 41 9 vp (allPieces first size len (fun i => (st i).toNat) L C (abOf A) (aoOf A) len 0 (fun _ => 0) 0).length (pcCells (allPieces first size len (fun i => (st i).toNat) L C (abOf A) (aoOf A) len 0 (fun _ => 0) 0)) ∧ Kept [] w w' := by
  have hst : ∀ i, i < len → st i = (((st i).toNat : Nat) : Int) := fun i hi => by have := (hg.2.2 i hi).1; omega
  refine Pieces b off len cap first size (fun i => (st i).toNat) L C (abOf A) (aoOf A) w (hM.congr hst fun i hi => ?_) ⟨hg.1, hg.2.1, fun i hi => ?_⟩ hs1 hs2 (fun i hi => ⟨(hT i hi).1, (hT i hi).2.1⟩)
  · obtain ⟨b', o', h⟩ := (hT i hi).2.2 (hg.2.2 i hi).2.2.1
    simp [abOf, aoOf, h]
  · have h := hg.2.2 i hi
    exact ⟨by show 0 ≤ (((st i).toNat : Nat) : Int); omega, by show (((st i).toNat : Nat) : Int) ≤ 2; have := h.2.1; omega, h.2.2.1, h.2.2.2⟩
set_option maxRecDepth 100000 in
set_option maxHeartbeats 400000 in
theorem AreRoundsNil (w : World) : Calls Tryz.prog 13 #[.slice none 0 0] w fun e w' => e = .returned (.bool true) ∧ Kept [] w w' := by
  go_enter Tryz.func13, Tryz.ntmps13
  go_wp2_with fail
  refine wp_loop_rounds 2 ?_
  rw [rounds_succ]
  go_wp2_with fail
  go_ret
  exact ⟨rfl, Kept.refl [] w⟩
set_option maxRecDepth 100000 in
set_option maxHeartbeats 2000000 in
theorem isAskedNil (b off len cap : Nat) (size : Int) (st : Nat → Int) (A : Nat → Option Addr) (L C : Nat → Nat) (w : World) (hM : MsgsIn w b off len st A L C) (hT : TextsAt len A L C) (hl63 : (len : Int) ≤ 9223372036854775807) :
    Calls Tryz.prog 6 #[.slice (some ⟨b, off, none⟩) len cap, .int .i64 size, .slice none 0 0] w fun e w' => Says e (Messages len st L ∧ 1 ≤ size ∧ size ≤ 200) ∧ Kept [] w w' := by
  have HM := hid hM; have HT := hid hT
  have H1 := hid (AreMessages b off len cap st A L C w hM hl63)
  clear hM hT
  go_enter Tryz.func6, Tryz.ntmps6
  go_wp2_with fail
  refine H1.out.mono ?_
  rintro e w1 ⟨⟨c, rfl, hc⟩, hk1⟩
  have Hc := hid hc; clear hc H1
  cases c
  · go_wp2_with fail
    go_ret
    exact ⟨⟨false, rfl, fun h => by cases h⟩, hk1⟩
  · have hmes := hid (Hc.out rfl)
    go_wp2_with fail
    refine (AreRoundsNil w1).mono ?_
    rintro e w2 ⟨rfl, hk2⟩
    have hk12 := hk1.trans hk2
    by_cases s1 : 1 ≤ size
    · by_cases s2 : size ≤ 200
      · obtain ⟨sz, rfl⟩ : ∃ sz : Nat, size = sz := ⟨size.toNat, by omega⟩
        have H2 := hid (PiecesAny b off len cap 1 sz st A L C w2 (HM.out.kept hk12) HT.out hmes.out (by omega) (by omega))
        go_wp2_with fail
        refine H2.out.mono ?_
        rintro e w3 ⟨vp, rfl, ho, hk3⟩
        obtain ⟨Ap, Cp, rfl⟩ := own_form ho
        generalize (allPieces 1 sz len (fun i => (st i).toNat) L C (abOf A) (aoOf A) len 0 (fun _ => 0) 0).length = np at *
        have hk13 := hk12.trans hk3
        clear ho H2
        go_wp2_with fail
        go_ret
        exact ⟨⟨decide ((np : Int) ≤ 30), rfl, fun _ => ⟨hmes.out, s1, s2⟩⟩, hk13⟩
      · go_wp2_with fail
        go_ret
        exact ⟨⟨false, rfl, fun h => by cases h⟩, hk12⟩
    · go_wp2_with fail
      go_ret
      exact ⟨⟨false, rfl, fun h => by cases h⟩, hk12⟩
end Go.Proofs.Base
end
section
namespace Go.Proofs.Base
open Go Go.Proofs Go.RowKit
set_option maxRecDepth 100000
set_option maxHeartbeats 400000 in
theorem AreRoundsNone (A : Option Addr) (C : Nat) (w : World) : Calls Tryz.prog 13 #[.slice A 0 C] w fun e w' => e = .returned (.bool true) ∧ Kept [] w w' := by
  go_enter Tryz.func13, Tryz.ntmps13
  go_wp2_with fail
  refine wp_loop_rounds 2 ?_
  rw [rounds_succ]
  go_wp2_with fail
  go_ret
  exact ⟨rfl, Kept.refl [] w⟩
set_option maxHeartbeats 400000 in
theorem AreMessagesNone (A : Option Addr) (C : Nat) (w : World) : Calls Tryz.prog 12 #[.slice A 0 C] w fun e w' => e = .returned (.bool false) ∧ Kept [] w w' := by
  go_enter Tryz.func12, Tryz.ntmps12
  go_wp2_with fail
  refine wp_loop_rounds 2 ?_
  rw [rounds_succ]
  go_wp2_with fail
  go_ret
  exact ⟨rfl, Kept.refl [] w⟩
set_option maxHeartbeats 400000 in
theorem isAskedNoMsg (A : Option Addr) (C : Nat) (size : Int) (vr : Value) (w : World) : Calls Tryz.prog 6 #[.slice A 0 C, .int .i64 size, vr] w fun e w' => e = .returned (.bool false) ∧ Kept [] w w' := by
  go_enter Tryz.func6, Tryz.ntmps6
  go_wp2_with fail
  refine (AreMessagesNone A C w).mono ?_
  rintro e w1 ⟨rfl, hk1⟩
  go_wp2_with fail
  go_ret
  exact ⟨rfl, hk1⟩
set_option maxHeartbeats 2000000 in
/-- isAsked, over whatever is known of the rounds. -/
theorem isAsked (b off len cap : Nat) (size : Int) (st : Nat → Int) (A : Nat → Option Addr) (L C : Nat → Nat) (vr : Value) (R : Prop) (w : World) (hM : MsgsIn w b off len st A L C) (hT : TextsAt len A L C) (hl63 : (len : Int) ≤ 9223372036854775807)
    (hR : ∀ w1, Kept [] w w1 → Calls Tryz.prog 13 #[vr] w1 fun e w' => Says e R ∧ Kept [] w1 w') :
    Calls Tryz.prog 6 #[.slice (some ⟨b, off, none⟩) len cap, .int .i64 size, vr] w fun e w' => Says e (Messages len st L ∧ R ∧ 1 ≤ size ∧ size ≤ 200 ∧ (allPieces 1 size.toNat len (fun i => (st i).toNat) L C (abOf A) (aoOf A) len 0 (fun _ => 0) 0).length ≤ 30) ∧ Kept [] w w' := by
  have HM := hid hM; have HT := hid hT; have HR := hid hR
  have H1 := hid (AreMessages b off len cap st A L C w hM hl63)
  clear hM hT hR
  go_enter Tryz.func6, Tryz.ntmps6
  go_wp2_with fail
  refine H1.out.mono ?_
  rintro e w1 ⟨⟨c, rfl, hc⟩, hk1⟩
  have Hc := hid hc; clear hc H1
  cases c
  · go_wp2_with fail
    go_ret
    exact ⟨⟨false, rfl, fun h => by cases h⟩, hk1⟩
  · have hmes := hid (Hc.out rfl)
    go_wp2_with fail
    refine (HR.out w1 hk1).mono ?_
    rintro e w2 ⟨⟨c2, rfl, hc2⟩, hk2⟩
    have Hc2 := hid hc2; clear hc2
    have hk12 := hk1.trans hk2
    cases c2
    · go_wp2_with fail
      go_ret
      exact ⟨⟨false, rfl, fun h => by cases h⟩, hk12⟩
    · have hr := hid (Hc2.out rfl)
      by_cases s1 : 1 ≤ size
      · by_cases s2 : size ≤ 200
        · obtain ⟨sz, rfl⟩ : ∃ sz : Nat, size = sz := ⟨size.toNat, by omega⟩
          have H2 := hid (PiecesAny b off len cap 1 sz st A L C w2 (HM.out.kept hk12) HT.out hmes.out (by omega) (by omega))
          go_wp2_with fail
          refine H2.out.mono ?_
          rintro e w3 ⟨vp, rfl, ho, hk3⟩
          obtain ⟨Ap, Cp, rfl⟩ := own_form ho
          generalize hnp : (allPieces 1 sz len (fun i => (st i).toNat) L C (abOf A) (aoOf A) len 0 (fun _ => 0) 0).length = np at *
          have hk13 := hk12.trans hk3
          have HNP := hid hnp
          clear ho H2 hnp
          go_wp2_with fail
          go_ret
          exact ⟨⟨decide ((np : Int) ≤ 30), rfl, fun h => ⟨hmes.out, hr.out, s1, s2, by rw [Int.toNat_natCast, HNP.out]; have := of_decide_eq_true h; omega⟩⟩, hk13⟩
        · go_wp2_with fail
          go_ret
          exact ⟨⟨false, rfl, fun h => by cases h⟩, hk12⟩
      · go_wp2_with fail
        go_ret
        exact ⟨⟨false, rfl, fun h => by cases h⟩, hk12⟩
end Go.Proofs.Base
end
section
namespace Go.Proofs.Base
open Go Go.Proofs Go.RowKit
set_option maxRecDepth 100000
/-- How many pieces there are does not hang on the first number. -/
theorem msgPieces_len (f1 f2 size idx st n1 n2 L C ab ao : Nat) : ∀ (f k c1 c2 : Nat), (msgPieces f1 size idx st n1 L C ab ao f k c1).length = (msgPieces f2 size idx st n2 L C ab ao f k c2).length
  | 0, _, _, _ => rfl
  | f + 1, k, c1, c2 => by
    simp only [msgPieces]
    split
    · simp only [List.length_cons]
      rw [msgPieces_len f1 f2 size idx st n1 n2 L C ab ao f (k + size) (c1 + 1) (c2 + 1)]
    · rfl
theorem allPieces_len (f1 f2 size len : Nat) (st L C ab ao : Nat → Nat) : ∀ (f i : Nat) (n1 n2 : Nat → Nat) (c1 c2 : Nat), (allPieces f1 size len st L C ab ao f i n1 c1).length = (allPieces f2 size len st L C ab ao f i n2 c2).length
  | 0, _, _, _, _, _ => rfl
  | f + 1, i, n1, n2, c1, c2 => by
    simp only [allPieces]
    split
    · rw [List.length_append, List.length_append, msgPieces_len f1 f2 size i (st i) (n1 (st i)) (n2 (st i)) (L i) (C i) (ab i) (ao i) (L i) 0 c1 c2, allPieces_len f1 f2 size len st L C ab ao f (i + 1) _ _ _ _]
    · rfl
end Go.Proofs.Base
end
section
namespace Go.Proofs.Base
open Go Go.Proofs
set_option maxRecDepth 100000
/-- How many pieces a message of L bytes has. -/
def cntP (size L : Nat) : Nat := (L + size - 1) / size
theorem cntP_iff {size L r : Nat} (hs : 1 ≤ size) : r < cntP size L ↔ r * size < L := by
  unfold cntP
  rw [Nat.lt_div_iff_mul_lt (by omega)]
  omega
/-- Where the pieces of message m begin. -/
def offP (size : Nat) (L : Nat → Nat) : Nat → Nat
  | 0 => 0
  | m + 1 => offP size L m + cntP size (L m)
/-- How many messages of a stream come ahead of message m. -/
def numP (st : Nat → Nat) (s : Nat) : Nat → Nat
  | 0 => 0
  | m + 1 => numP st s m + if st m = s then 1 else 0
theorem msgPieces_len' {first size idx st num L C ab ao : Nat} (hs : 1 ≤ size) : ∀ (f k count r : Nat), L ≤ k + f → (r < (msgPieces first size idx st num L C ab ao f k count).length ↔ k + r * size < L)
  | 0, k, count, r, h => by
    simp [msgPieces]; omega
  | f + 1, k, count, r, h => by
    by_cases hk : k < L
    · have e : msgPieces first size idx st num L C ab ao (f + 1) k count = pieceAt first idx st num L C ab ao k (min (k + size) L) count :: msgPieces first size idx st num L C ab ao f (k + size) (count + 1) := by rw [msgPieces, if_pos hk]
      rw [e, List.length_cons]
      cases r with
      | zero => simp; omega
      | succ r =>
        have ih := msgPieces_len' (first := first) (size := size) (idx := idx) (st := st) (num := num) (L := L) (C := C) (ab := ab) (ao := ao) hs f (k + size) (count + 1) r (by omega)
        rw [Nat.add_lt_add_iff_right, ih, Nat.add_mul]
        omega
    · have e : msgPieces first size idx st num L C ab ao (f + 1) k count = [] := by rw [msgPieces, if_neg hk]
      rw [e]
      simp; omega
theorem msgPieces_get {first size idx st num L C ab ao : Nat} (hs : 1 ≤ size) : ∀ (f k count r : Nat), L ≤ k + f → k + r * size < L → (msgPieces first size idx st num L C ab ao f k count)[r]? = some (pieceAt first idx st num L C ab ao (k + r * size) (min (k + r * size + size) L) (count + r))
  | 0, k, count, r, h, h2 => by omega
  | f + 1, k, count, r, h, h2 => by
    have hk : k < L := by omega
    have e : msgPieces first size idx st num L C ab ao (f + 1) k count = pieceAt first idx st num L C ab ao k (min (k + size) L) count :: msgPieces first size idx st num L C ab ao f (k + size) (count + 1) := by rw [msgPieces, if_pos hk]
    rw [e]
    cases r with
    | zero => simp
    | succ r =>
      rw [List.getElem?_cons_succ, msgPieces_get hs f (k + size) (count + 1) r (by omega) (by rw [Nat.add_mul] at h2; omega)]
      rw [Nat.add_mul, Nat.one_mul, show k + size + r * size = k + (r * size + size) by omega, show count + 1 + r = count + (r + 1) by omega]
theorem msgPieces_cnt {first size idx st num L C ab ao count : Nat} (hs : 1 ≤ size) : (msgPieces first size idx st num L C ab ao L 0 count).length = cntP size L := by
  have h := fun r => msgPieces_len' (first := first) (size := size) (idx := idx) (st := st) (num := num) (L := L) (C := C) (ab := ab) (ao := ao) hs L 0 count r (by omega)
  have h2 := fun r => cntP_iff (size := size) (L := L) (r := r) hs
  rcases Nat.lt_trichotomy (msgPieces first size idx st num L C ab ao L 0 count).length (cntP size L) with h3 | h3 | h3
  · have a := (h2 _).1 h3
    have b := (h (msgPieces first size idx st num L C ab ao L 0 count).length).2 (by omega)
    omega
  · exact h3
  · have a := (h _).1 h3
    have b := (h2 (cntP size L)).2 (by omega)
    omega
theorem allPieces_at {first size len : Nat} {st L C ab ao : Nat → Nat} (hs : 1 ≤ size) : ∀ (f i : Nat) (nums : Nat → Nat), len = i + f → (∀ s, nums s = numP st s i) →
    ∀ m, i ≤ m → m < len → ∀ r, r < cntP size (L m) → (allPieces first size len st L C ab ao f i nums (offP size L i))[offP size L m - offP size L i + r]? = some (pieceAt first m (st m) (numP st (st m) m) (L m) (C m) (ab m) (ao m) (r * size) (min (r * size + size) (L m)) (offP size L m + r))
  | 0, i, nums, hf, hn, m, h1, h2, r, hr => by omega
  | f + 1, i, nums, hf, hn, m, h1, h2, r, hr => by
    have e : allPieces first size len st L C ab ao (f + 1) i nums (offP size L i) = msgPieces first size i (st i) (nums (st i)) (L i) (C i) (ab i) (ao i) (L i) 0 (offP size L i) ++
        allPieces first size len st L C ab ao f (i + 1) (bump nums (st i)) (offP size L i + (msgPieces first size i (st i) (nums (st i)) (L i) (C i) (ab i) (ao i) (L i) 0 (offP size L i)).length) := by rw [allPieces, if_pos (by omega)]
    have hc := msgPieces_cnt (first := first) (idx := i) (st := st i) (num := nums (st i)) (L := L i) (C := C i) (ab := ab i) (ao := ao i) (count := offP size L i) hs
    rw [e, hc]
    by_cases hm : m = i
    · subst hm
      rw [Nat.sub_self, Nat.zero_add, List.getElem?_append_left (by rw [hc]; exact hr), msgPieces_get hs (L m) 0 _ r (by omega) (by have := (cntP_iff hs).1 hr; omega), Nat.zero_add, hn]
    · have hmono : ∀ a b, a ≤ b → offP size L a ≤ offP size L b := by
        intro a b hab
        induction hab with
        | refl => exact Nat.le_refl _
        | step _ ih => exact Nat.le_trans ih (by simp [offP])
      have h3 := hmono (i + 1) m (by omega)
      have h4 : offP size L (i + 1) = offP size L i + cntP size (L i) := rfl
      rw [List.getElem?_append_right (by rw [hc]; omega), hc]
      have hbump : ∀ s, bump nums (st i) s = numP st s (i + 1) := by
        intro s
        simp only [bump, numP]
        rw [hn s]
        by_cases h : s = st i
        · subst h; simp
        · rw [if_neg h, if_neg (fun e => h e.symm)]; rfl
      have ih := allPieces_at (first := first) (size := size) (len := len) (st := st) (L := L) (C := C) (ab := ab) (ao := ao) hs f (i + 1) (bump nums (st i)) (by omega)
        hbump m (by omega) h2 r hr
      rw [h4] at ih
      rw [show offP size L m - offP size L i + r - cntP size (L i) = offP size L m - (offP size L i + cntP size (L i)) + r by omega]
      exact ih
theorem allPieces_cnt {first size len : Nat} {st L C ab ao : Nat → Nat} (hs : 1 ≤ size) : ∀ (f i : Nat) (nums : Nat → Nat) (count : Nat), len = i + f → offP size L i + (allPieces first size len st L C ab ao f i nums count).length = offP size L len
  | 0, i, nums, count, hf => by subst hf; simp [allPieces]
  | f + 1, i, nums, count, hf => by
    have e : allPieces first size len st L C ab ao (f + 1) i nums count = msgPieces first size i (st i) (nums (st i)) (L i) (C i) (ab i) (ao i) (L i) 0 count ++
        allPieces first size len st L C ab ao f (i + 1) (bump nums (st i)) (count + (msgPieces first size i (st i) (nums (st i)) (L i) (C i) (ab i) (ao i) (L i) 0 count).length) := by rw [allPieces, if_pos (by omega)]
    rw [e, List.length_append, msgPieces_cnt hs]
    have ih := allPieces_cnt (first := first) (size := size) (len := len) (st := st) (L := L) (C := C) (ab := ab) (ao := ao) hs f (i + 1) (bump nums (st i)) (count + cntP size (L i)) (by omega)
    have h4 : offP size L (i + 1) = offP size L i + cntP size (L i) := rfl
    omega
end Go.Proofs.Base
end
section
namespace Go.Proofs.Base
theorem sorted_ext : ∀ (l l' : List Nat), l.Pairwise (· < ·) → l'.Pairwise (· < ·) → (∀ x, x ∈ l ↔ x ∈ l') → l = l'
  | [], [], _, _, _ => rfl
  | [], b :: l', _, _, h => by have := (h b).2 (by simp); simp at this
  | a :: l, [], _, _, h => by have := (h a).1 (by simp); simp at this
  | a :: l, b :: l', h1, h2, h => by
    rw [List.pairwise_cons] at h1 h2
    have hab : a = b := by
      have ha := (h a).1 (by simp)
      have hb := (h b).2 (by simp)
      rw [List.mem_cons] at ha hb
      rcases ha with ha | ha
      · exact ha
      · rcases hb with hb | hb
        · exact hb.symm
        · have := h1.1 b hb; have := h2.1 a ha; omega
    subst hab
    rw [sorted_ext l l' h1.2 h2.2 (fun x => ⟨fun hx => by
      have := (h x).1 (by simp [hx]); rw [List.mem_cons] at this
      rcases this with rfl | this
      · have := h1.1 x hx; omega
      · exact this, fun hx => by
      have := (h x).2 (by simp [hx]); rw [List.mem_cons] at this
      rcases this with rfl | this
      · have := h2.1 x hx; omega
      · exact this⟩)]
/-- The messages of a stream. -/
def msgsOf (st : Nat → Nat) (s : Nat) (len : Nat) : List Nat := (List.range len).filter fun m => st m == s
theorem msgsOf_succ (st : Nat → Nat) (s len : Nat) : msgsOf st s (len + 1) = msgsOf st s len ++ if st len = s then [len] else [] := by
  unfold msgsOf
  rw [List.range_succ, List.filter_append]
  by_cases h : st len = s <;> simp [h]
theorem msgsOf_len (st : Nat → Nat) (s : Nat) : ∀ len, (msgsOf st s len).length = numP st s len
  | 0 => rfl
  | len + 1 => by
    rw [msgsOf_succ, List.length_append, msgsOf_len st s len, numP]
    by_cases h : st len = s <;> simp [h]
theorem mem_msgsOf {st : Nat → Nat} {s len m : Nat} : m ∈ msgsOf st s len ↔ m < len ∧ st m = s := by simp [msgsOf]
theorem numP_mono (st : Nat → Nat) (s : Nat) {a b : Nat} (h : a ≤ b) : numP st s a ≤ numP st s b := by
  induction h with
  | refl => exact Nat.le_refl _
  | step _ ih => exact Nat.le_trans ih (by simp [numP])
theorem numP_lt {st : Nat → Nat} {s m len : Nat} (h : m < len) (hs : st m = s) : numP st s m < numP st s len := by
  have := numP_mono st s (show m + 1 ≤ len by omega)
  simp only [numP, if_pos hs] at this
  omega
theorem numP_inj {st : Nat → Nat} {s a b : Nat} (ha : st a = s) (hb : st b = s) (h : numP st s a = numP st s b) : a = b := by
  rcases Nat.lt_trichotomy a b with h1 | h1 | h1
  · have := numP_lt h1 ha; omega
  · exact h1
  · have := numP_lt h1 hb; omega
theorem msgsOf_at {st : Nat → Nat} {s : Nat} : ∀ {len m : Nat}, m < len → st m = s → (msgsOf st s len)[numP st s m]? = some m
  | 0, m, h, _ => by omega
  | len + 1, m, h, hs => by
    rw [msgsOf_succ]
    by_cases hm : m = len
    · subst hm
      rw [if_pos hs, List.getElem?_append_right (by rw [msgsOf_len]; exact Nat.le_refl _), msgsOf_len]
      simp
    · have h1 : m < len := by omega
      have h2 := numP_lt h1 hs
      rw [List.getElem?_append_left (by rw [msgsOf_len]; exact h2)]
      exact msgsOf_at h1 hs
theorem msgsOf_get {st : Nat → Nat} {s len x m : Nat} (h : (msgsOf st s len)[x]? = some m) : m < len ∧ st m = s ∧ numP st s m = x := by
  have hm := mem_msgsOf.1 (List.mem_of_getElem? h)
  have h2 := msgsOf_at hm.1 hm.2
  have hnd : (msgsOf st s len).Nodup := (List.nodup_range).sublist List.filter_sublist
  have hx := (List.getElem?_eq_some_iff.1 h).1
  exact ⟨hm.1, hm.2, ((List.getElem?_inj hx hnd).1 (h.trans h2.symm)).symm⟩
theorem offP_mono (size : Nat) (L : Nat → Nat) {a b : Nat} (h : a ≤ b) : offP size L a ≤ offP size L b := by
  induction h with
  | refl => exact Nat.le_refl _
  | step _ ih => exact Nat.le_trans ih (by simp [offP])
/-- Each place is one of some message. -/
theorem place_of {size : Nat} {L : Nat → Nat} : ∀ {len q : Nat}, q < offP size L len → ∃ m r, m < len ∧ r < cntP size (L m) ∧ q = offP size L m + r
  | 0, q, h => by simp [offP] at h
  | len + 1, q, h => by
    by_cases h1 : q < offP size L len
    · obtain ⟨m, r, a, b, c⟩ := place_of h1
      exact ⟨m, r, by omega, b, c⟩
    · exact ⟨len, q - offP size L len, by omega, by simp only [offP] at h; omega, by omega⟩
theorem place_lt {size : Nat} {L : Nat → Nat} {len m r : Nat} (hm : m < len) (hr : r < cntP size (L m)) : offP size L m + r < offP size L len := by
  have := offP_mono size L (show m + 1 ≤ len by omega)
  simp only [offP] at this
  omega
theorem place_inj {size : Nat} {L : Nat → Nat} {m r m' r' : Nat} (hr : r < cntP size (L m)) (hr' : r' < cntP size (L m')) (h : offP size L m + r = offP size L m' + r') : m = m' ∧ r = r' := by
  rcases Nat.lt_trichotomy m m' with h1 | h1 | h1
  · have := place_lt h1 hr; omega
  · subst h1; exact ⟨rfl, by omega⟩
  · have := place_lt h1 hr'; omega
/-- The text of a message is that of its pieces. -/
theorem cut_join (size : Nat) (T : List Nat) (LS : Nat → List Nat) (off : Nat) : ∀ (c r : Nat), T.length ≤ r * size + c * size → (∀ k, k < c → LS (off + (r + k)) = (T.drop ((r + k) * size)).take size) → (List.range' (off + r) c).flatMap LS = T.drop (r * size)
  | 0, r, h, _ => by
    rw [List.range'_zero, List.flatMap_nil, List.drop_eq_nil_of_le (by omega)]
  | c + 1, r, h, hL => by
    have h0 := hL 0 (by omega)
    rw [Nat.add_zero] at h0
    have ih := cut_join size T LS off c (r + 1) (by rw [Nat.add_mul] at h ⊢; omega) (fun k hk => by
      have := hL (k + 1) (by omega)
      rw [show r + (k + 1) = r + 1 + k by omega] at this; exact this)
    rw [List.range'_succ, List.flatMap_cons, h0, show off + r + 1 = off + (r + 1) by omega, ih, Nat.add_mul, Nat.one_mul, ← List.drop_drop, List.take_append_drop]
end Go.Proofs.Base
end
