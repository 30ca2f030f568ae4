/- Parts of the proof, steps H1, U1: what the code and the plain laws of these steps give. Made by AI agents; no person has read it. -/
import Derived.Shelf.GgSortFunc.Whole
import Derived.Test.YthphjbjehccomaaGreatDoorT4
import Derived.Test.YthphjbjehccomaaGreatDoorU3
import Derived.Shelf.GgSortFunc.Tiny
import Derived.Deep.QuietTactic
import Derived.Lib.RowBridge
import Derived.Lib.SortBridge
import Derived.WalkKit
section
namespace Go.Proofs.Gaps
open Go Go.Sort
def ltKey {L : List Nat} : {x : Nat // x ∈ L} → {x : Nat // x ∈ L} → Bool := fun x y => decide (x.1 < y.1)
theorem swo_ltKey (L : List Nat) : SWO (ltKey (L := L)) where
  irrefl := fun x => by simp [ltKey]
  trans := fun x y z h1 h2 => by simp [ltKey] at *; omega
  ntrans := fun x y z h1 h2 => by simp [ltKey] at *; omega
theorem sorted_keys {L : List Nat} [Inhabited {x : Nat // x ∈ L}] (d d' : Array {x : Nat // x ∈ L}) (hp : PermIn 0 d.size d d') (hs : SortedIn ltKey 0 d.size d') (hnd : (d.toList.map (·.1)).Nodup) :
    (d'.toList.map (·.1)).Perm (d.toList.map (·.1)) ∧ (d'.toList.map (·.1)).Pairwise (· < ·) := by
  obtain ⟨h1, _, h3⟩ := hp
  have e1 : d'.extract 0 d.size = d' := by rw [← h1]; simp
  have e2 : d.extract 0 d.size = d := by simp
  rw [e1, e2] at h3
  have hperm : (d'.toList.map (·.1)).Perm (d.toList.map (·.1)) := h3.map _
  refine ⟨hperm, ?_⟩
  have hnd' : (d'.toList.map (·.1)).Nodup := hperm.nodup_iff.2 hnd
  rw [List.pairwise_iff_getElem]
  intro i j hi hj hij
  simp only [List.length_map, Array.length_toList] at hi hj
  have hle := hs i j (Nat.zero_le _) hij (by omega)
  rw [getElem!_pos d' j hj, getElem!_pos d' i hi] at hle
  simp only [ltKey, decide_eq_false_iff_not, Nat.not_lt] at hle
  have hne : (d'.toList.map (·.1))[i]'(by simpa using hi) ≠ (d'.toList.map (·.1))[j]'(by simpa using hj) := by
    intro h
    have := (List.getElem_inj hnd').1 h
    omega
  simp only [List.getElem_map, Array.getElem_toList] at hne ⊢
  omega
end Go.Proofs.Gaps
end
section
namespace Go.Proofs
open Go.Shelf
def Tryz.sa6_ren : Go.Shelf.Ren := ⟨fun | 6 => 94 | 10 => 109 | 11 => 110 | 12 => 111 | 13 => 112 | 14 => 113 | 24 => 127 | 25 => 128 | 26 => 129 | 27 => 130 | 28 => 131 | 29 => 132 | 30 => 133 | 31 => 134 | 32 => 135 | 33 => 136 | 34 => 140 | 35 => 141 | 36 => 142 | 37 => 143 | 38 => 144 | 39 => 148 | n => n, fun | 20 => 20 | 26 => 227 | 35 => 240 | 0 => 0 | 37 => 242 | 3 => 3 | 41 => 228 | 44 => 247 | 49 => 22 | 51 => 111 | 4 => 4 | 54 => 257 | 53 => 256 | 58 => 223 | 5 => 5 | 9 => 9 | 60 => 265 | 64 => 269 | 66 => 278 | 67 => 279 | 17 => 17 | 32 => 237 | 33 => 238 | 82 => 295 | 12 => 12 | 75 => 288 | 76 => 289 | 77 => 290 | 78 => 291 | 79 => 292 | 80 => 293 | n => n, fun | n => n⟩
theorem Tryz.sa6 : LaysGg.n6 Tryz.prog Tryz.sa6_ren where
  mixed := by kernel_rfl
  f6 := Tryz.func94.trans (congrArg some (by kernel_rfl))
  f10 := Tryz.func109.trans (congrArg some (by kernel_rfl))
  f11 := Tryz.func110.trans (congrArg some (by kernel_rfl))
  f12 := Tryz.func111.trans (congrArg some (by kernel_rfl))
  f13 := Tryz.func112.trans (congrArg some (by kernel_rfl))
  f14 := Tryz.func113.trans (congrArg some (by kernel_rfl))
  f24 := Tryz.func127.trans (congrArg some (by kernel_rfl))
  f25 := Tryz.func128.trans (congrArg some (by kernel_rfl))
  f26 := Tryz.func129.trans (congrArg some (by kernel_rfl))
  f27 := Tryz.func130.trans (congrArg some (by kernel_rfl))
  f28 := Tryz.func131.trans (congrArg some (by kernel_rfl))
  f29 := Tryz.func132.trans (congrArg some (by kernel_rfl))
  f30 := Tryz.func133.trans (congrArg some (by kernel_rfl))
  f31 := Tryz.func134.trans (congrArg some (by kernel_rfl))
  f32 := Tryz.func135.trans (congrArg some (by kernel_rfl))
  f33 := Tryz.func136.trans (congrArg some (by kernel_rfl))
  f34 := Tryz.func140.trans (congrArg some (by kernel_rfl))
  f35 := Tryz.func141.trans (congrArg some (by kernel_rfl))
  f36 := Tryz.func142.trans (congrArg some (by kernel_rfl))
  f37 := Tryz.func143.trans (congrArg some (by kernel_rfl))
  f38 := Tryz.func144.trans (congrArg some (by kernel_rfl))
  f39 := Tryz.func148.trans (congrArg some (by kernel_rfl))
  t0 := Tryz.underlying0
  a0 := Tryz.isAgg0
  z0 := Tryz.sizeOf0
  v0 := Tryz.zeroValue0
  i0 := by kernel_rfl
  t3 := Tryz.underlying3
  a3 := Tryz.isAgg3
  z3 := Tryz.sizeOf3
  v3 := Tryz.zeroValue3
  i3 := by kernel_rfl
  t4 := Tryz.underlying4
  a4 := Tryz.isAgg4
  z4 := Tryz.sizeOf4
  v4 := Tryz.zeroValue4
  i4 := by kernel_rfl
  t5 := Tryz.underlying5
  a5 := Tryz.isAgg5
  z5 := Tryz.sizeOf5
  v5 := Tryz.zeroValue5
  i5 := by kernel_rfl
  t9 := Tryz.underlying9
  a9 := Tryz.isAgg9
  z9 := Tryz.sizeOf9
  v9 := Tryz.zeroValue9
  i9 := by kernel_rfl
  t12 := Tryz.underlying12
  a12 := Tryz.isAgg12
  z12 := Tryz.sizeOf12
  v12 := Tryz.zeroValue12
  i12 := by kernel_rfl
  t17 := Tryz.underlying17
  a17 := Tryz.isAgg17
  z17 := Tryz.sizeOf17
  v17 := Tryz.zeroValue17
  i17 := by kernel_rfl
  t20 := Tryz.underlying20
  a20 := Tryz.isAgg20
  z20 := Tryz.sizeOf20
  v20 := Tryz.zeroValue20
  i20 := by kernel_rfl
  t26 := Tryz.underlying227
  a26 := Tryz.isAgg227
  z26 := Tryz.sizeOf227
  v26 := Tryz.zeroValue227
  i26 := by kernel_rfl
  t32 := Tryz.underlying237
  a32 := Tryz.isAgg237
  z32 := Tryz.sizeOf237
  v32 := Tryz.zeroValue237
  i32 := by kernel_rfl
  t33 := Tryz.underlying238
  a33 := Tryz.isAgg238
  z33 := Tryz.sizeOf238
  v33 := Tryz.zeroValue238
  i33 := by kernel_rfl
  t35 := Tryz.underlying240
  a35 := Tryz.isAgg240
  z35 := Tryz.sizeOf240
  v35 := Tryz.zeroValue240
  i35 := by kernel_rfl
  t37 := Tryz.underlying242
  a37 := Tryz.isAgg242
  z37 := Tryz.sizeOf242
  v37 := Tryz.zeroValue242
  i37 := by kernel_rfl
  t41 := Tryz.underlying228
  a41 := Tryz.isAgg228
  z41 := Tryz.sizeOf228
  v41 := Tryz.zeroValue228
  i41 := by kernel_rfl
  t44 := Tryz.underlying247
  a44 := Tryz.isAgg247
  z44 := Tryz.sizeOf247
  v44 := Tryz.zeroValue247
  i44 := by kernel_rfl
  t49 := Tryz.underlying22
  a49 := Tryz.isAgg22
  z49 := Tryz.sizeOf22
  v49 := Tryz.zeroValue22
  i49 := by kernel_rfl
  t51 := Tryz.underlying111
  a51 := Tryz.isAgg111
  z51 := Tryz.sizeOf111
  v51 := Tryz.zeroValue111
  i51 := by kernel_rfl
  t53 := Tryz.underlying256
  a53 := Tryz.isAgg256
  z53 := Tryz.sizeOf256
  v53 := Tryz.zeroValue256
  i53 := by kernel_rfl
  t54 := Tryz.underlying257
  a54 := Tryz.isAgg257
  z54 := Tryz.sizeOf257
  v54 := Tryz.zeroValue257
  i54 := by kernel_rfl
  t58 := Tryz.underlying223
  a58 := Tryz.isAgg223
  z58 := Tryz.sizeOf223
  v58 := Tryz.zeroValue223
  i58 := by kernel_rfl
  t60 := Tryz.underlying265
  a60 := Tryz.isAgg265
  z60 := Tryz.sizeOf265
  v60 := Tryz.zeroValue265
  i60 := by kernel_rfl
  t64 := Tryz.underlying269
  a64 := Tryz.isAgg269
  z64 := Tryz.sizeOf269
  v64 := Tryz.zeroValue269
  i64 := by kernel_rfl
  t66 := Tryz.underlying278
  a66 := Tryz.isAgg278
  z66 := Tryz.sizeOf278
  v66 := Tryz.zeroValue278
  i66 := by kernel_rfl
  t67 := Tryz.underlying279
  a67 := Tryz.isAgg279
  z67 := Tryz.sizeOf279
  v67 := Tryz.zeroValue279
  i67 := by kernel_rfl
  t75 := Tryz.underlying288
  a75 := Tryz.isAgg288
  z75 := Tryz.sizeOf288
  v75 := Tryz.zeroValue288
  i75 := by kernel_rfl
  t76 := Tryz.underlying289
  a76 := Tryz.isAgg289
  z76 := Tryz.sizeOf289
  v76 := Tryz.zeroValue289
  i76 := by kernel_rfl
  t77 := Tryz.underlying290
  a77 := Tryz.isAgg290
  z77 := Tryz.sizeOf290
  v77 := Tryz.zeroValue290
  i77 := by kernel_rfl
  t78 := Tryz.underlying291
  a78 := Tryz.isAgg291
  z78 := Tryz.sizeOf291
  v78 := Tryz.zeroValue291
  i78 := by kernel_rfl
  t79 := Tryz.underlying292
  a79 := Tryz.isAgg292
  z79 := Tryz.sizeOf292
  v79 := Tryz.zeroValue292
  i79 := by kernel_rfl
  t80 := Tryz.underlying293
  a80 := Tryz.isAgg293
  z80 := Tryz.sizeOf293
  v80 := Tryz.zeroValue293
  i80 := by kernel_rfl
  t82 := Tryz.underlying295
  a82 := Tryz.isAgg295
  z82 := Tryz.sizeOf295
  v82 := Tryz.zeroValue295
  i82 := by kernel_rfl
end Go.Proofs
namespace Go.Proofs.Base
open Go Go.Proofs Go.Shelf Go.RowKit Go.Lib Go.Sort Go.Proofs.Gaps
set_option maxRecDepth 100000
set_option maxHeartbeats 2000000 in
theorem less_tsn (blk c Bs size f : Nat) (W : World) (B : Nat → Nat) (K : Nat → Nat) (hs : W.cell? ⟨Bs, 0, none⟩ = some (.slice (some ⟨blk, 0, none⟩) size c))
    (hc : ∀ t, t < size → W.cell? ⟨blk, 0 + t, none⟩ = some (.pointer (some ⟨B (K t), 0, none⟩))) (ht : ∀ t, t < size → W.cell? ⟨B (K t), 8, none⟩ = some (.int .u32 (tsn f (K t) : Nat))) (hK : ∀ t, t < size → K t < 64) (i j : Nat) (hi : i < size) (hj : j < size) :
    Calls Tryz.prog 95 #[.int .i64 i, .int .i64 j, .pointer (some ⟨Bs, 0, none⟩)] W fun e w' => e = .returned (.bool (decide (K i < K j))) ∧ ∃ q, w' = W.drewN q := by
  have ci := hc i hi
  have cj := hc j hj
  have ti := ht i hi
  have tj := ht j hj
  have i1 : (i : Int) < size := by omega
  have j1 : (j : Int) < size := by omega
  have i0 : (0 : Int) ≤ i := by omega
  have j0 : (0 : Int) ≤ j := by omega
  rw [Nat.zero_add] at ci cj
  go_enter Tryz.func95, Tryz.ntmps95
  go_wp2_with fail
  have H := hid (sna32LT f (K i) (K j) W.drew (by have := hK i hi; omega) (by have := hK j hj; omega))
  go_region_held3 (fun w' => w'.cell? ⟨Bs, 0, none⟩ = some (.slice (some ⟨blk, 0, none⟩) size c) ∧ w'.cell? ⟨blk, i, none⟩ = some (.pointer (some ⟨B (K i), 0, none⟩)) ∧ w'.cell? ⟨blk, j, none⟩ = some (.pointer (some ⟨B (K j), 0, none⟩)) ∧ w'.cell? ⟨B (K i), 8, none⟩ = some (.int .u32 (tsn f (K i) : Nat)) ∧ w'.cell? ⟨B (K j), 8, none⟩ = some (.int .u32 (tsn f (K j) : Nat)))
    (go_keep) ((go_at_call 96; refine H.out.mono ?_; rintro e w' ⟨rfl, rfl⟩))
  go_wp2_with fail
  go_ret
  exact ⟨rfl, 1, rfl⟩
/-- The element's place in its kind's row, and what the sort asks of the two slice types. -/
noncomputable def tiC : TypeInfo := (Tryz.prog.info? 110).get (by kernel_rfl)
noncomputable def teC : TypeInfo := (Tryz.prog.info? 83).get (by kernel_rfl)
noncomputable def tiS : TypeInfo := (Tryz.prog.info? 107).get (by kernel_rfl)
noncomputable def teS : TypeInfo := (Tryz.prog.info? 121).get (by kernel_rfl)
theorem kindC (w : World) : (Extern.Rtype.kind 83).run Tryz.prog w = .ok 22 w := by kernel_rfl
theorem kindS (w : World) : (Extern.Rtype.kind 121).run Tryz.prog w = .ok 22 w := by kernel_rfl
theorem siC (n : Nat) (h2 : 2 ≤ n) : Lib.swapperK n teC 22 = 3 := by
  have a : teC.hasPointers = true := by kernel_rfl
  have b : teC.bytes = 8 := by kernel_rfl
  have c : (n == 0) = false := by simp; omega
  have d : (n == 1) = false := by simp; omega
  simp [Lib.swapperK, a, b, c, d]
theorem siS (n : Nat) (h2 : 2 ≤ n) : Lib.swapperK n teS 22 = 3 := by
  have a : teS.hasPointers = true := by kernel_rfl
  have b : teS.bytes = 8 := by kernel_rfl
  have c : (n == 0) = false := by simp; omega
  have d : (n == 1) = false := by simp; omega
  simp [Lib.swapperK, a, b, c, d]
end Go.Proofs.Base
end
