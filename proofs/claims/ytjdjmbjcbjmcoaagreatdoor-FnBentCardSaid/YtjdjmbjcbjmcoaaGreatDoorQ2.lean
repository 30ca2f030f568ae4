/- A part of the proof, step Q2: what the code and the plain laws of this step give. Made by AI agents; no person has read it. -/
import Derived.Test.YtjdjmbjcbjmcoaaGreatDoorQ1
import Derived.Test.YtjdjmbjcbjmcoaaGreatDoorP30
namespace Go.Proofs.YtjdjmbjcbjmcoaaGreatDoor
open Go Go.Proofs Go.RowKit Go.ChangeShapes Go.WideShapes Go.ChangeAt Go.Proofs.Base
theorem maxLen_is : maxLen = 9223372036854775807 := rfl
theorem addr_plus (b o i : Nat) : (⟨b, o, none⟩ : Addr).add i = ⟨b, o + i, none⟩ := by unfold Addr.add; split <;> simp_all
theorem cells5 : Tryz.prog.cellsOf 5 = 1 := by kernel_rfl
theorem u8_small {z : Int} (h : (Lit.int .u8 z).wf = true) : 0 ≤ z ∧ z < 256 := by
  simp only [Lit.wf, Bool.and_eq_true, IntKind.min, IntKind.max, IntKind.signed, IntKind.bits] at h
  simp at h; omega
theorem u32_small {z : Int} (h : (Lit.int .u32 z).wf = true) : 0 ≤ z ∧ z < 4294967296 := by
  simp only [Lit.wf, Bool.and_eq_true, IntKind.min, IntKind.max, IntKind.signed, IntKind.bits] at h
  simp at h; omega
theorem i64_small {z : Int} (h : (Lit.int .i64 z).wf = true) : z < 9223372036854775808 := by
  simp only [Lit.wf, Bool.and_eq_true, IntKind.min, IntKind.max, IntKind.signed, IntKind.bits] at h
  simp at h; omega
section
variable {H : Type} {enc : TypeId × Value → H} {W : World}
/-- A text, opened. -/
theorem openText {n : Nat} {v1 : Value} {y : DataW H × List MemPlace} (h : DataW.trod enc Tryz.prog W 0 (fun _ => true) true n 28 [v1] = some y) :
    ∃ A L C, v1 = .slice A L C ∧ L ≤ C ∧ C ≤ maxLen ∧ (1 ≤ L → ∃ b o, A = some ⟨b, o, none⟩) ∧ (1 ≤ L → ∀ b o, A = some ⟨b, o, none⟩ → ∃ l : List Nat, l.length = L ∧ BytesAt W b o l) := by
  rcases open_ints Tryz.underlying28 Tryz.underlying5 cells5 h with ⟨hc, _⟩ | ⟨a, len, cap, zs, hc, _, hl, hm, hz, _, hcell, hwf⟩
  · simp only [List.cons.injEq, and_true] at hc
    subst hc
    exact ⟨none, 0, 0, rfl, Nat.le_refl _, Nat.zero_le _, fun h => by omega, fun h => by omega⟩
  · simp only [List.cons.injEq, and_true] at hc
    subst hc
    simp only [if_true] at hz
    refine ⟨some a, len, cap, rfl, hl, hm, fun h1 => ?_, fun h1 b o hA => ?_⟩
    · obtain ⟨b, o, spot⟩ := a
      have hs := World.cell?_spot (hcell 0 (by omega))
      simp only [Addr.add] at hs
      subst hs
      exact ⟨b, o, rfl⟩
    · obtain rfl := Option.some.inj hA
      have hin : ∀ j, j < len → zs.getD j 0 ∈ zs := fun j hj => by
        rw [List.getD_eq_getElem?_getD, List.getElem?_eq_getElem (by omega)]
        exact List.getElem_mem _
      refine ⟨(zs.take len).map Int.toNat, by simp; omega, ?_, ?_, ?_⟩
      · exact World.block_lt_of_cell? W _ (hcell 0 (by omega))
      · intro x hx
        obtain ⟨z, hz', rfl⟩ := List.mem_map.1 hx
        have := u8_small (hwf z (List.mem_of_mem_take hz'))
        omega
      · intro j hj
        have hj' : j < len := by simp at hj; omega
        have hc := hcell j (by omega)
        have hw := u8_small (hwf _ (hin j hj'))
        have e : (bt ((zs.take len).map Int.toNat) j : Int) = zs.getD j 0 := by
          have hjz : j < zs.length := by omega
          rw [List.getD_eq_getElem?_getD, List.getElem?_eq_getElem hjz] at hw ⊢
          simp only [Option.getD_some] at hw ⊢
          simp [bt, hj', hjz]
          omega
        rw [e]
        rwa [addr_plus] at hc
/-- The messages, opened. -/
theorem openMsgs {fuel len cap : Nat} {a0 : Option Addr} {x : DataW H × List MemPlace} (h : DataW.trod enc Tryz.prog W 0 (fun _ => true) true fuel 23 [.slice a0 len cap] = some x) (hl1 : 1 ≤ len) :
    ∃ b off st A L C, a0 = some ⟨b, off, none⟩ ∧ MsgsIn W b off len st A L C ∧ TextsAt len A L C ∧ BytesIn W len A L ∧ (len : Int) ≤ 9223372036854775807 := by
  rcases Go.Deep.open_slice_pairs Tryz.underlying23 Tryz.underlying41 (by kernel_rfl) rfl rfl (by kernel_rfl) (by kernel_rfl) h with ⟨hc, _⟩ | ⟨a, len', cap', m, n, V0, V1, D0, D1, P0, P1, hc, _, hl, hm, hmm, _, hrow⟩
  · simp only [List.cons.injEq, and_true, Value.slice.injEq] at hc
    omega
  · simp only [List.cons.injEq, and_true, Value.slice.injEq] at hc
    obtain ⟨rfl, rfl, rfl⟩ := hc
    simp only [if_true] at hmm
    subst hmm
    obtain ⟨b, off, spot⟩ := a
    have hs := World.cell?_spot (hrow 0 (by omega)).1
    simp only [Addr.add] at hs
    subst hs
    have each : ∀ i, i < len → ∃ q : Int × Option Addr × Nat × Nat, V0 i = .int .i64 q.1 ∧ V1 i = .slice q.2.1 q.2.2.1 q.2.2.2 ∧ q.2.2.1 ≤ q.2.2.2 ∧ q.2.2.2 ≤ maxLen ∧ (1 ≤ q.2.2.1 → ∃ b o, q.2.1 = some ⟨b, o, none⟩) ∧
        (1 ≤ q.2.2.1 → ∀ b o, q.2.1 = some ⟨b, o, none⟩ → ∃ l : List Nat, l.length = q.2.2.1 ∧ BytesAt W b o l) := by
      intro i hi
      obtain ⟨_, _, h0, h1⟩ := hrow i (by omega)
      obtain ⟨z, hz, _⟩ := DataW.trod_int Tryz.underlying3 h0
      obtain ⟨A, L, C, hv, k1, k2, k3, k4⟩ := openText h1
      simp only [List.cons.injEq, and_true] at hz
      exact ⟨⟨z, A, L, C⟩, hz, hv, k1, k2, k3, k4⟩
    obtain ⟨q, hq⟩ := Go.Deep.choose_lt each
    refine ⟨b, off, fun i => (q i).1, fun i => (q i).2.1, fun i => (q i).2.2.1, fun i => (q i).2.2.2, rfl, ⟨World.block_lt_of_cell? W _ (hrow 0 (by omega)).1, fun i hi => ?_, fun i hi => ?_⟩, fun i hi => ?_, fun i hi => ?_, ?_⟩
    · rw [← (hq i hi).1]
      have := (hrow i (by omega)).1
      rwa [addr_plus] at this
    · rw [← (hq i hi).2.1]
      have := (hrow i (by omega)).2.1
      rwa [addr_plus] at this
    · obtain ⟨_, _, k1, k2, k3, _⟩ := hq i hi
      exact ⟨k1, k2, k3⟩
    · exact (hq i hi).2.2.2.2.2
    · rw [maxLen_is] at hm; omega
end
/-- Every call returns true, and turns nothing. -/
theorem walk {H : Type} {enc : TypeId × Value → H} {W : World} {fuel first len cap : Nat} {a0 : Option Addr} {size nn at' : Int} {tt : Nat} {ev : Value} {x : DataW H × List MemPlace} (h : DataW.trod enc Tryz.prog W 0 (fun _ => true) true fuel 23 [.slice a0 len cap] = some x)
    (hg : W.cell? ⟨7, 0, none⟩ = some (.iface tt ev)) (hnn : nn < 9223372036854775808) (hat : at' < 9223372036854775808) :
    Calls Tryz.prog 3 #[.int .u32 first, .slice a0 len cap, .int .i64 size, .int .i64 nn, .int .i64 at'] W fun e w' => e = .returned (.bool true) ∧ Kept [] W w' := by
  rcases Nat.eq_zero_or_pos len with rfl | h1
  · exact FnBentNil a0 cap first size nn at' W
  · obtain ⟨b, off, st, A, L, C, rfl, hM, hT, hB, h63⟩ := openMsgs h h1
    exact FnBent b off len cap first size nn at' st A L C tt ev W hM hT hB h63 hg hnn hat
end Go.Proofs.YtjdjmbjcbjmcoaaGreatDoor
