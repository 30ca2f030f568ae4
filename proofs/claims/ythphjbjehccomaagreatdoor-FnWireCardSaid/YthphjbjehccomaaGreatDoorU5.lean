/- Parts of the proof, steps U4, U5: what the code and the plain laws of these steps give. Made by AI agents; no person has read it. -/
import Derived.Test.YthphjbjehccomaaGreatDoorU1
import Derived.Test.YthphjbjehccomaaGreatDoorP23
section
namespace Go.Proofs.Base
open Go Go.Proofs Go.Shelf Go.RowKit Go.Lib Go.Sort Go.Proofs.Gaps
set_option maxRecDepth 100000
theorem putRow_heap {α : Type} [Inhabited α] (enc : α → Value) (w : World) (blk off : Nat) (d : Array α) {cs : Array Value} {e : TypeId} {fr : Nat × Nat} (h : w.heap[blk]? = some (.cells cs e fr)) :
    (putRow enc w blk off d).heap[blk]? = some (.cells (putCells enc off d cs) e fr) := by
  unfold putRow mapBlock
  simp [Array.getElem?_modify, h, onCells]
theorem putRow_heap_ne {α : Type} [Inhabited α] (enc : α → Value) (w : World) (blk off k : Nat) (d : Array α) (h : k ≠ blk) : (putRow enc w blk off d).heap[k]? = w.heap[k]? := by
  unfold putRow mapBlock
  simp only [Array.getElem?_modify]
  rw [if_neg (fun e => h e.symm)]
theorem putRow_size {α : Type} [Inhabited α] (enc : α → Value) (w : World) (blk off : Nat) (d : Array α) : (putRow enc w blk off d).heap.size = w.heap.size := by
  unfold putRow mapBlock
  simp
theorem putCells_take {α : Type} [Inhabited α] (enc : α → Value) (d : Array α) (cs : Array Value) (n : Nat) (hn : d.size = n) (hcs : n ≤ cs.size) : (putCells enc 0 d cs).toList.take n = d.toList.map enc := by
  apply List.ext_getElem?
  intro j
  by_cases hj : j < n
  · have hjc : j < cs.size := by omega
    simp [putCells, hj, hn, hjc]
  · rw [List.getElem?_eq_none (by simp [putCells]; omega), List.getElem?_eq_none (by simp; omega)]
/-- What the sort leaves: the row holds the sorted elements; all else is as it was. -/
theorem afterSort {α : Type} [Inhabited α] (enc : α → Value) (w : World) (base e blk n c q : Nat) (xs : List Value) (d' : Array α) (os : Array Obj) (h : w.ownsRow base e 1 (.slice (some ⟨blk, 0, none⟩) n c) n xs) (hd : d'.size = n) :
    (grow (putRow enc (Sort.ahead w q) blk 0 d') os).ownsRow base e 1 (.slice (some ⟨blk, 0, none⟩) n c) n (d'.toList.map enc) ∧ Kept [blk] w (grow (putRow enc (Sort.ahead w q) blk 0 d') os) := by
  rcases h.2 with ⟨h1, _⟩ | ⟨g, cap, cur, hv, hb, hg, hc1, hc2, hc3, hc4⟩
  · cases h1
  · simp only [Value.slice.injEq, Option.some.injEq, Addr.mk.injEq, and_true] at hv
    obtain ⟨rfl, _, rfl⟩ := hv
    have hlt := blk_lt hg
    have hsz : (putRow enc (Sort.ahead w q) blk 0 d').heap.size = w.heap.size := putRow_size enc (Sort.ahead w q) blk 0 d'
    refine ⟨⟨by simp [hd], .inr ⟨blk, c, putCells enc 0 d' cur, rfl, hb, ?_, hc1, hc2, by simpa [putCells] using hc3, ?_⟩⟩, ?_⟩
    · rw [heap_grow_old _ _ (by rw [hsz]; exact hlt)]
      exact putRow_heap enc (Sort.ahead w q) blk 0 d' hg
    · rw [Nat.mul_one]; exact putCells_take enc d' cur n hd (by omega)
    · refine ⟨rfl, rfl, rfl, by simp [grow, hsz], fun k hk hs => ?_⟩
      rw [heap_grow_old _ _ (by rw [hsz]; exact hk), putRow_heap_ne enc (Sort.ahead w q) blk 0 k d' (by simpa using hs)]
      rfl
theorem holdsRow {α : Type} [Inhabited α] (enc : α → Value) (w : World) (base e blk n c : Nat) (d : Array α) (h : w.ownsRow base e 1 (.slice (some ⟨blk, 0, none⟩) n c) n (d.toList.map enc)) : Holds enc w blk 0 d := by
  intro j hj
  have hl : (d.toList.map enc).length = n := by have := h.1; simpa using this
  have hjn : j < n := by simp at hl; omega
  have hd : (d.toList.map enc)[j]? = some (enc d[j]!) := by
    rw [getElem!_pos d j hj]; simp [hj]
  have hc := h.cells (g := blk) rfl j _ hd
  rw [addr_add] at hc
  refine ⟨hc, ?_⟩
  rcases h.2 with ⟨h1, _⟩ | ⟨g, cap, cur, hv, hb, hg, _⟩
  · cases h1
  · simp only [Value.slice.injEq, Option.some.injEq, Addr.mk.injEq, and_true] at hv
    obtain ⟨rfl, _, rfl⟩ := hv
    exact blk_free hg
def ptrs (B : Nat → Nat) (L : List Nat) : List Value := L.map fun x => Value.pointer (some ⟨B x, 0, none⟩)
theorem kept_grow (w : World) (os : Array Obj) : Kept [] w (grow w os) := ⟨rfl, rfl, rfl, by simp [grow], fun k hk _ => heap_grow_old w os hk⟩
set_option maxHeartbeats 4000000 in
/-- Two chunks or more, sorted by their numbers. -/
theorem sortTSN2 (blk c f base : Nat) (L : List Nat) (B : Nat → Nat) (w : World) (h2 : 2 ≤ L.length) (h1000 : L.length ≤ 1000) (hrow : w.ownsRow base 83 1 (.slice (some ⟨blk, 0, none⟩) L.length c) L.length (ptrs B L))
    (hch : ∀ j ∈ L, j < 64 ∧ B j ≠ blk ∧ w.cell? ⟨B j, 8, none⟩ = some (.int .u32 (tsn f j : Nat))) (hnd : L.Nodup) :
    Calls Tryz.prog 68 #[.slice (some ⟨blk, 0, none⟩) L.length c] w fun e w' => e = .returned (.tuple #[]) ∧ ∃ L', L'.Perm L ∧ L'.Pairwise (· < ·) ∧ w'.ownsRow base 83 1 (.slice (some ⟨blk, 0, none⟩) L.length c) L.length (ptrs B L') ∧ Kept [blk] w w' := by
  have hne : L ≠ [] := by intro e; rw [e] at h2; simp at h2
  haveI : Inhabited {x : Nat // x ∈ L} := ⟨⟨L.head hne, List.head_mem hne⟩⟩
  generalize hd : L.attach.toArray = d
  have hds : d.size = L.length := by rw [← hd]; simp
  have hdl : d.toList.map (fun x : {x : Nat // x ∈ L} => x.1) = L := by rw [← hd]; simp
  let enc : {x : Nat // x ∈ L} → Value := fun x => .pointer (some ⟨B x.1, 0, none⟩)
  have hdp : d.toList.map enc = ptrs B L := by
    have e : d.toList.map enc = (d.toList.map (fun x : {x : Nat // x ∈ L} => x.1)).map (fun x => Value.pointer (some ⟨B x, 0, none⟩)) := by rw [List.map_map]; rfl
    rw [e, hdl]; rfl
  have hk1 : Kept [] w (w.alloc (.cells #[.slice (some ⟨blk, 0, none⟩) L.length c] 110)) := (Kept.refl [] w).alloc _
  have hrow1 := ownsRow_kept hrow hk1 (by simp)
  rw [← hdp] at hrow1
  have hH1 := holdsRow enc _ base 83 blk L.length c d hrow1
  have hlt : blk < w.heap.size := (hrow.lt blk rfl).2
  have hb1 : blk < (w.alloc (.cells #[.slice (some ⟨blk, 0, none⟩) L.length c] 110)).heap.size := by rw [World.size_alloc]; omega
  have hbox : (w.alloc (.cells #[.slice (some ⟨blk, 0, none⟩) L.length c] 110)).cell? ⟨w.heap.size, 0, none⟩ = some (.slice (some ⟨blk, 0, none⟩) L.length c) := blk_cell (blk_new w _) rfl
  have hch1 : ∀ j ∈ L, (w.alloc (.cells #[.slice (some ⟨blk, 0, none⟩) L.length c] 110)).cell? ⟨B j, 8, none⟩ = some (.int .u32 (tsn f j : Nat)) := fun j hj => by
    have h := (hch j hj).2.2
    exact (hk1.cell (World.block_lt_of_cell? w _ h) (by simp)).trans h
  have hbl : ∀ j ∈ L, B j < (w.alloc (.cells #[.slice (some ⟨blk, 0, none⟩) L.length c] 110)).heap.size := fun j hj => World.block_lt_of_cell? _ _ (hch1 j hj)
  have hsz1 : w.heap.size < (w.alloc (.cells #[.slice (some ⟨blk, 0, none⟩) L.length c] 110)).heap.size := by rw [World.size_alloc]; omega
  generalize hw1 : w.alloc (.cells #[.slice (some ⟨blk, 0, none⟩) L.length c] 110) = w1 at *
  have hless : LessReads Tryz.prog 95 #[.pointer (some ⟨w.heap.size, 0, none⟩)] enc ltKey blk 0 d.size w1 := by
    intro m os dk hs i j hi hj
    have e : sortWorld enc w1 blk 0 m dk os = putRow enc (grow (Sort.ahead w1 m) os) blk 0 dk := by
      unfold sortWorld; rw [putRow_grow _ (Sort.ahead w1 m) _ blk 0 _ hb1]
    have hHg : Holds enc (grow (Sort.ahead w1 m) os) blk 0 d := holds_grow _ _ _ blk 0 d hb1 (holds_ahead _ _ _ _ _ _ hH1)
    have hother : ∀ (a : Addr), a.block ≠ blk → a.block < w1.heap.size → (sortWorld enc w1 blk 0 m dk os).cell? a = w1.cell? a := by
      intro a ha hl
      rw [e, cell?_putRow_other _ _ blk 0 dk _ (Or.inl ha), cell?_grow (Sort.ahead w1 m) os a hl]
      rfl
    refine less_tsn blk c w.heap.size d.size f _ B (fun t => (dk[t]!).1) ?_ (fun t ht => ?_) (fun t ht => ?_) (fun t ht => (hch _ (dk[t]!).2).1) i j hi hj
    · rw [hother _ (by show w.heap.size ≠ blk; omega) hsz1, hbox, hds]
    · rw [e]; exact cell?_putRow _ _ blk 0 d dk hHg hs t (by omega)
    · rw [hother _ ((hch _ (dk[t]!).2).2.1) (hbl _ (dk[t]!).2)]
      exact hch1 _ (dk[t]!).2
  have hS := Any.sort_Slice_sorted Tryz.sa6 110 83 tiC teC (by kernel_rfl) (by kernel_rfl) (by kernel_rfl) (by kernel_rfl) 22 kindC (by kernel_rfl) (fun _ => by kernel_rfl) enc (fun _ => rfl) ltKey (swo_ltKey L) 95 _
    (enters_of Tryz.func95 (by kernel_rfl) rfl) blk 0 c d (by omega) (by omega) 120 (by rw [siC _ (by omega)]; kernel_rfl) true
    (fun args W => run_callFunc_extern Tryz.func120 (by kernel_rfl) (by kernel_rfl) (by kernel_rfl) (e := Extern.ReflectliteSwapper.swap true) (by kernel_rfl) args W) _ hless hH1 hb1
  change Calls Tryz.prog 94 _ _ _ at hS
  rw [hds] at hS
  have HS := hid hS
  have HR1 := hid hrow1; have HK1 := hid hk1; have HDL := hid hdl; have HND := hid hnd; have HDS := hid hds; have HW1 := hid hw1
  clear hless hH1 hS hrow1 hk1 hdl hnd hds hdp hd hch hch1 hbl
  go_enter Tryz.func68, Tryz.ntmps68
  go_wp2_with fail
  refine HS.out.mono ?_
  rintro e w' ⟨rfl, d', q, os, hp, hso, rfl⟩
  have hso' := sorted_keys d d' (by rw [HDS.out]; exact hp) (by rw [HDS.out]; exact hso) (by rw [HDL.out]; exact HND.out)
  rw [HDL.out] at hso'
  have hsz := hp.1
  have haf := afterSort enc w1 base 83 blk L.length c q _ d' os HR1.out (by rw [hsz]; exact HDS.out)
  have hmap : d'.toList.map enc = ptrs B (d'.toList.map (fun x : {x : Nat // x ∈ L} => x.1)) := by unfold ptrs; rw [List.map_map]; rfl
  rw [hmap] at haf
  have hkf : Kept [blk] w (grow (putRow enc (Sort.ahead w1 q) blk 0 d') os) := (HK1.out.more (by simp)).trans haf.2
  generalize grow (putRow enc (Sort.ahead w1 q) blk 0 d') os = wf at *
  have HAF := hid haf; have HSO := hid hso'; have HKF := hid hkf
  clear haf hso' hkf hso hp hsz hmap HS hbox
  go_wp2_with fail
  go_end0
  exact ⟨rfl, _, HSO.out.1, HSO.out.2, HAF.out.1, HKF.out⟩
end Go.Proofs.Base
end
section
namespace Go.Proofs.Base
open Go Go.Proofs Go.Shelf Go.RowKit Go.Lib Go.Sort Go.Proofs.Gaps
set_option maxRecDepth 100000
set_option maxHeartbeats 2000000 in
theorem less_ssn (blk c Bs size : Nat) (W : World) (B : Nat → Nat) (K : Nat → Nat) (hs : W.cell? ⟨Bs, 0, none⟩ = some (.slice (some ⟨blk, 0, none⟩) size c))
    (hc : ∀ t, t < size → W.cell? ⟨blk, 0 + t, none⟩ = some (.pointer (some ⟨B (K t), 0, none⟩))) (ht : ∀ t, t < size → W.cell? ⟨B (K t), 0, none⟩ = some (.int .u16 (K t : Nat))) (hK : ∀ t, t < size → K t < 100) (i j : Nat) (hi : i < size) (hj : j < size) :
    Calls Tryz.prog 97 #[.int .i64 i, .int .i64 j, .pointer (some ⟨Bs, 0, none⟩)] W fun e w' => e = .returned (.bool (decide (K i < K j))) ∧ ∃ q, w' = W.drewN q := by
  have ci := hc i hi
  have cj := hc j hj
  have ti := ht i hi
  have tj := ht j hj
  have i1 : (i : Int) < size := by omega
  have j1 : (j : Int) < size := by omega
  have i0 : (0 : Int) ≤ i := by omega
  have j0 : (0 : Int) ≤ j := by omega
  rw [Nat.zero_add] at ci cj
  go_enter Tryz.func97, Tryz.ntmps97
  go_wp2_with fail
  have H := hid (sna16LT (K i) (K j) W.drew (hK i hi) (hK j hj))
  go_region_held3 (fun w' => w'.cell? ⟨Bs, 0, none⟩ = some (.slice (some ⟨blk, 0, none⟩) size c) ∧ w'.cell? ⟨blk, i, none⟩ = some (.pointer (some ⟨B (K i), 0, none⟩)) ∧ w'.cell? ⟨blk, j, none⟩ = some (.pointer (some ⟨B (K j), 0, none⟩)) ∧ w'.cell? ⟨B (K i), 0, none⟩ = some (.int .u16 (K i : Nat)) ∧ w'.cell? ⟨B (K j), 0, none⟩ = some (.int .u16 (K j : Nat)))
    (go_keep) ((go_at_call 70; refine H.out.mono ?_; rintro e w' ⟨rfl, rfl⟩))
  go_wp2_with fail
  go_ret
  exact ⟨rfl, 1, rfl⟩
set_option maxHeartbeats 4000000 in
/-- Two sets or more, sorted by their numbers. -/
theorem sortSSN2 (blk c base : Nat) (L : List Nat) (B : Nat → Nat) (w : World) (h2 : 2 ≤ L.length) (h1000 : L.length ≤ 1000) (hrow : w.ownsRow base 121 1 (.slice (some ⟨blk, 0, none⟩) L.length c) L.length (ptrs B L))
    (hch : ∀ j ∈ L, j < 100 ∧ B j ≠ blk ∧ w.cell? ⟨B j, 0, none⟩ = some (.int .u16 (j : Nat))) (hnd : L.Nodup) :
    Calls Tryz.prog 75 #[.slice (some ⟨blk, 0, none⟩) L.length c] w fun e w' => e = .returned (.tuple #[]) ∧ ∃ L', L'.Perm L ∧ L'.Pairwise (· < ·) ∧ w'.ownsRow base 121 1 (.slice (some ⟨blk, 0, none⟩) L.length c) L.length (ptrs B L') ∧ Kept [blk] w w' := by
  have hne : L ≠ [] := by intro e; rw [e] at h2; simp at h2
  haveI : Inhabited {x : Nat // x ∈ L} := ⟨⟨L.head hne, List.head_mem hne⟩⟩
  generalize hd : L.attach.toArray = d
  have hds : d.size = L.length := by rw [← hd]; simp
  have hdl : d.toList.map (fun x : {x : Nat // x ∈ L} => x.1) = L := by rw [← hd]; simp
  let enc : {x : Nat // x ∈ L} → Value := fun x => .pointer (some ⟨B x.1, 0, none⟩)
  have hdp : d.toList.map enc = ptrs B L := by
    have e : d.toList.map enc = (d.toList.map (fun x : {x : Nat // x ∈ L} => x.1)).map (fun x => Value.pointer (some ⟨B x, 0, none⟩)) := by rw [List.map_map]; rfl
    rw [e, hdl]; rfl
  have hk1 : Kept [] w (w.alloc (.cells #[.slice (some ⟨blk, 0, none⟩) L.length c] 107)) := (Kept.refl [] w).alloc _
  have hrow1 := ownsRow_kept hrow hk1 (by simp)
  rw [← hdp] at hrow1
  have hH1 := holdsRow enc _ base 121 blk L.length c d hrow1
  have hlt : blk < w.heap.size := (hrow.lt blk rfl).2
  have hb1 : blk < (w.alloc (.cells #[.slice (some ⟨blk, 0, none⟩) L.length c] 107)).heap.size := by rw [World.size_alloc]; omega
  have hbox : (w.alloc (.cells #[.slice (some ⟨blk, 0, none⟩) L.length c] 107)).cell? ⟨w.heap.size, 0, none⟩ = some (.slice (some ⟨blk, 0, none⟩) L.length c) := blk_cell (blk_new w _) rfl
  have hch1 : ∀ j ∈ L, (w.alloc (.cells #[.slice (some ⟨blk, 0, none⟩) L.length c] 107)).cell? ⟨B j, 0, none⟩ = some (.int .u16 (j : Nat)) := fun j hj => by
    have h := (hch j hj).2.2
    exact (hk1.cell (World.block_lt_of_cell? w _ h) (by simp)).trans h
  have hbl : ∀ j ∈ L, B j < (w.alloc (.cells #[.slice (some ⟨blk, 0, none⟩) L.length c] 107)).heap.size := fun j hj => World.block_lt_of_cell? _ _ (hch1 j hj)
  have hsz1 : w.heap.size < (w.alloc (.cells #[.slice (some ⟨blk, 0, none⟩) L.length c] 107)).heap.size := by rw [World.size_alloc]; omega
  generalize hw1 : w.alloc (.cells #[.slice (some ⟨blk, 0, none⟩) L.length c] 107) = w1 at *
  have hless : LessReads Tryz.prog 97 #[.pointer (some ⟨w.heap.size, 0, none⟩)] enc ltKey blk 0 d.size w1 := by
    intro m os dk hs i j hi hj
    have e : sortWorld enc w1 blk 0 m dk os = putRow enc (grow (Sort.ahead w1 m) os) blk 0 dk := by
      unfold sortWorld; rw [putRow_grow _ (Sort.ahead w1 m) _ blk 0 _ hb1]
    have hHg : Holds enc (grow (Sort.ahead w1 m) os) blk 0 d := holds_grow _ _ _ blk 0 d hb1 (holds_ahead _ _ _ _ _ _ hH1)
    have hother : ∀ (a : Addr), a.block ≠ blk → a.block < w1.heap.size → (sortWorld enc w1 blk 0 m dk os).cell? a = w1.cell? a := by
      intro a ha hl
      rw [e, cell?_putRow_other _ _ blk 0 dk _ (Or.inl ha), cell?_grow (Sort.ahead w1 m) os a hl]
      rfl
    refine less_ssn blk c w.heap.size d.size _ B (fun t => (dk[t]!).1) ?_ (fun t ht => ?_) (fun t ht => ?_) (fun t ht => (hch _ (dk[t]!).2).1) i j hi hj
    · rw [hother _ (by show w.heap.size ≠ blk; omega) hsz1, hbox, hds]
    · rw [e]; exact cell?_putRow _ _ blk 0 d dk hHg hs t (by omega)
    · rw [hother _ ((hch _ (dk[t]!).2).2.1) (hbl _ (dk[t]!).2)]
      exact hch1 _ (dk[t]!).2
  have hS := Any.sort_Slice_sorted Tryz.sa6 107 121 tiS teS (by kernel_rfl) (by kernel_rfl) (by kernel_rfl) (by kernel_rfl) 22 kindS (by kernel_rfl) (fun _ => by kernel_rfl) enc (fun _ => rfl) ltKey (swo_ltKey L) 97 _
    (enters_of Tryz.func97 (by kernel_rfl) rfl) blk 0 c d (by omega) (by omega) 120 (by rw [siS _ (by omega)]; kernel_rfl) true
    (fun args W => run_callFunc_extern Tryz.func120 (by kernel_rfl) (by kernel_rfl) (by kernel_rfl) (e := Extern.ReflectliteSwapper.swap true) (by kernel_rfl) args W) _ hless hH1 hb1
  change Calls Tryz.prog 94 _ _ _ at hS
  rw [hds] at hS
  have HS := hid hS
  have HR1 := hid hrow1; have HK1 := hid hk1; have HDL := hid hdl; have HND := hid hnd; have HDS := hid hds; have HW1 := hid hw1
  clear hless hH1 hS hrow1 hk1 hdl hnd hds hdp hd hch hch1 hbl
  go_enter Tryz.func75, Tryz.ntmps75
  go_wp2_with fail
  refine HS.out.mono ?_
  rintro e w' ⟨rfl, d', q, os, hp, hso, rfl⟩
  have hso' := sorted_keys d d' (by rw [HDS.out]; exact hp) (by rw [HDS.out]; exact hso) (by rw [HDL.out]; exact HND.out)
  rw [HDL.out] at hso'
  have hsz := hp.1
  have haf := afterSort enc w1 base 121 blk L.length c q _ d' os HR1.out (by rw [hsz]; exact HDS.out)
  have hmap : d'.toList.map enc = ptrs B (d'.toList.map (fun x : {x : Nat // x ∈ L} => x.1)) := by unfold ptrs; rw [List.map_map]; rfl
  rw [hmap] at haf
  have hkf : Kept [blk] w (grow (putRow enc (Sort.ahead w1 q) blk 0 d') os) := (HK1.out.more (by simp)).trans haf.2
  generalize grow (putRow enc (Sort.ahead w1 q) blk 0 d') os = wf at *
  have HAF := hid haf; have HSO := hid hso'; have HKF := hid hkf
  clear haf hso' hkf hso hp hsz hmap HS hbox
  go_wp2_with fail
  go_end0
  exact ⟨rfl, _, HSO.out.1, HSO.out.2, HAF.out.1, HKF.out⟩
set_option maxHeartbeats 4000000 in
/-- One element: it stays. -/
theorem sortTSN1 (p : Option Addr) (c : Nat) (w : World) : Calls Tryz.prog 68 #[.slice p 1 c] w fun e w' => e = .returned (.tuple #[]) ∧ Kept [] w w' := by
  have hK : Lib.swapperK 1 teC 22 = 2 := by simp [Lib.swapperK]
  have hS := fun W => Any.sort_Slice_tiny Tryz.sa6 110 83 tiC teC (by kernel_rfl) (by kernel_rfl) (by kernel_rfl) (by kernel_rfl) 22 kindC p 1 c (Nat.le_refl 1) 119 (by rw [hK]; kernel_rfl) (.func 95) #[] #[.pointer (some ⟨w.heap.size, 0, none⟩)] W
  have HS := hid (fun W => show Calls Tryz.prog 94 _ _ _ from hS W)
  clear hS
  go_enter Tryz.func68, Tryz.ntmps68
  go_wp2_with fail
  refine (HS.out _).mono ?_
  rintro e w' ⟨rfl, os, rfl⟩
  have hk := hid (((Kept.refl [] w).alloc (.cells #[.slice p 1 c] 110)).trans (kept_grow _ os))
  go_wp2_with fail
  go_end0
  exact ⟨rfl, hk.out⟩
set_option maxHeartbeats 4000000 in
/-- One element: it stays. -/
theorem sortSSN1 (p : Option Addr) (c : Nat) (w : World) : Calls Tryz.prog 75 #[.slice p 1 c] w fun e w' => e = .returned (.tuple #[]) ∧ Kept [] w w' := by
  have hK : Lib.swapperK 1 teS 22 = 2 := by simp [Lib.swapperK]
  have hS := fun W => Any.sort_Slice_tiny Tryz.sa6 107 121 tiS teS (by kernel_rfl) (by kernel_rfl) (by kernel_rfl) (by kernel_rfl) 22 kindS p 1 c (Nat.le_refl 1) 119 (by rw [hK]; kernel_rfl) (.func 97) #[] #[.pointer (some ⟨w.heap.size, 0, none⟩)] W
  have HS := hid (fun W => show Calls Tryz.prog 94 _ _ _ from hS W)
  clear hS
  go_enter Tryz.func75, Tryz.ntmps75
  go_wp2_with fail
  refine (HS.out _).mono ?_
  rintro e w' ⟨rfl, os, rfl⟩
  have hk := hid (((Kept.refl [] w).alloc (.cells #[.slice p 1 c] 107)).trans (kept_grow _ os))
  go_wp2_with fail
  go_end0
  exact ⟨rfl, hk.out⟩
/-- Chunks, sorted by their numbers. -/
theorem sortTSN (blk c f base : Nat) (L : List Nat) (B : Nat → Nat) (w : World) (h1 : 1 ≤ L.length) (h1000 : L.length ≤ 1000) (hrow : w.ownsRow base 83 1 (.slice (some ⟨blk, 0, none⟩) L.length c) L.length (ptrs B L))
    (hch : ∀ j ∈ L, j < 64 ∧ B j ≠ blk ∧ w.cell? ⟨B j, 8, none⟩ = some (.int .u32 (tsn f j : Nat))) (hnd : L.Nodup) :
    Calls Tryz.prog 68 #[.slice (some ⟨blk, 0, none⟩) L.length c] w fun e w' => e = .returned (.tuple #[]) ∧ ∃ L', L'.Perm L ∧ L'.Pairwise (· < ·) ∧ w'.ownsRow base 83 1 (.slice (some ⟨blk, 0, none⟩) L.length c) L.length (ptrs B L') ∧ Kept [blk] w w' := by
  by_cases h2 : 2 ≤ L.length
  · exact sortTSN2 blk c f base L B w h2 h1000 hrow hch hnd
  · have e : L.length = 1 := by omega
    rw [e] at hrow ⊢
    refine (sortTSN1 _ c w).mono ?_
    rintro e' w' ⟨rfl, hk⟩
    obtain ⟨x, rfl⟩ : ∃ x, L = [x] := List.length_eq_one_iff.1 e
    exact ⟨rfl, [x], List.Perm.refl _, by simp, ownsRow_kept hrow hk (by simp), hk.more (by simp)⟩
/-- Sets, sorted by their numbers. -/
theorem sortSSN (blk c base : Nat) (L : List Nat) (B : Nat → Nat) (w : World) (h1 : 1 ≤ L.length) (h1000 : L.length ≤ 1000) (hrow : w.ownsRow base 121 1 (.slice (some ⟨blk, 0, none⟩) L.length c) L.length (ptrs B L))
    (hch : ∀ j ∈ L, j < 100 ∧ B j ≠ blk ∧ w.cell? ⟨B j, 0, none⟩ = some (.int .u16 (j : Nat))) (hnd : L.Nodup) :
    Calls Tryz.prog 75 #[.slice (some ⟨blk, 0, none⟩) L.length c] w fun e w' => e = .returned (.tuple #[]) ∧ ∃ L', L'.Perm L ∧ L'.Pairwise (· < ·) ∧ w'.ownsRow base 121 1 (.slice (some ⟨blk, 0, none⟩) L.length c) L.length (ptrs B L') ∧ Kept [blk] w w' := by
  by_cases h2 : 2 ≤ L.length
  · exact sortSSN2 blk c base L B w h2 h1000 hrow hch hnd
  · have e : L.length = 1 := by omega
    rw [e] at hrow ⊢
    refine (sortSSN1 _ c w).mono ?_
    rintro e' w' ⟨rfl, hk⟩
    obtain ⟨x, rfl⟩ : ∃ x, L = [x] := List.length_eq_one_iff.1 e
    exact ⟨rfl, [x], List.Perm.refl _, by simp, ownsRow_kept hrow hk (by simp), hk.more (by simp)⟩
end Go.Proofs.Base
end
