/- A part of the proof, step Base: what the code and the plain laws of this step give. Made by AI agents; no person has read it. -/
import Derived.Test.YthphjbjehccomaaGreatDoorProg
import Derived.WalkKit
import Derived.WalkLawsBesides
import Derived.WalkSpells
import Derived.Deep.QuietTactic
import Derived.BigQuiet
import Derived.Deep.RegionHeld3
namespace Go.Proofs.Base
open Go Go.Proofs Go.RowKit
set_option maxRecDepth 100000

theorem hid {p : Prop} (h : p) : RowKit.Hid p := h
/-- w' is w, but for the blocks of S, and for what is new. -/
structure Kept (S : List Nat) (w w' : World) : Prop where
  os : w'.os = w.os
  tape : w'.tape = w.tape
  output : w'.output = w.output
  size : w.heap.size ≤ w'.heap.size
  block : ∀ k, k < w.heap.size → k ∉ S → w'.heap[k]? = w.heap[k]?

theorem Kept.refl (S : List Nat) (w : World) : Kept S w w := ⟨rfl, rfl, rfl, Nat.le_refl _, fun _ _ _ => rfl⟩
theorem Kept.trans {S : List Nat} {a b c : World} (h : Kept S a b) (k : Kept S b c) : Kept S a c :=
  ⟨k.os.trans h.os, k.tape.trans h.tape, k.output.trans h.output, Nat.le_trans h.size k.size, fun i hi hs => (k.block i (Nat.lt_of_lt_of_le hi h.size) hs).trans (h.block i hi hs)⟩
/-- A later step that turns only blocks of S, or new ones. -/
theorem Kept.thenNew {S R : List Nat} {a b c : World} (h : Kept S a b) (k : Kept R b c) (hR : ∀ r ∈ R, r ∈ S ∨ a.heap.size ≤ r) : Kept S a c :=
  ⟨k.os.trans h.os, k.tape.trans h.tape, k.output.trans h.output, Nat.le_trans h.size k.size, fun i hi hs => (k.block i (Nat.lt_of_lt_of_le hi h.size) (fun hr => by rcases hR i hr with h1 | h1; exact hs h1; omega)).trans (h.block i hi hs)⟩
theorem Kept.more {S R : List Nat} {a b : World} (h : Kept S a b) (hS : ∀ s ∈ S, s ∈ R ∨ a.heap.size ≤ s) : Kept R a b :=
  ⟨h.os, h.tape, h.output, h.size, fun i hi hs => h.block i hi (fun hr => by rcases hS i hr with h1 | h1; exact hs h1; omega)⟩
theorem Kept.drew {S : List Nat} {a w : World} (h : Kept S a w) : Kept S a w.drew := ⟨h.os, h.tape, h.output, h.size, h.block⟩
theorem Kept.drewN {S : List Nat} {a w : World} (h : Kept S a w) (n : Nat) : Kept S a (w.drewN n) := ⟨h.os, h.tape, h.output, h.size, h.block⟩
theorem Kept.alloc {S : List Nat} {a w : World} (h : Kept S a w) (o : Obj) : Kept S a (w.alloc o) :=
  ⟨h.os, h.tape, h.output, Nat.le_trans h.size (by simp), fun k hk hs => (Below.heap_alloc _ _ _ (Nat.lt_of_lt_of_le hk h.size)).trans (h.block k hk hs)⟩
theorem Kept.setCell {S : List Nat} {a w : World} (h : Kept S a w) {p : Addr} (u : Value) (hp : p.block ∈ S ∨ a.heap.size ≤ p.block) : Kept S a (w.setCell p u) :=
  ⟨h.os, h.tape, h.output, Nat.le_trans h.size (by simp [World.setCell]), fun k hk hs => (Below.heap_setCell _ _ _ _ (fun e => by subst e; rcases hp with h1 | h1; exact hs h1; omega)).trans (h.block k hk hs)⟩
theorem Kept.cell {S : List Nat} {w w' : World} (h : Kept S w w') {p : Addr} (hp : p.block < w.heap.size) (hs : p.block ∉ S) : w'.cell? p = w.cell? p := World.cell?_of_block (w := w) (h.block p.block hp hs)
theorem Kept.frozen {S : List Nat} {w w' : World} (h : Kept S w w') {p : Addr} (hp : p.block < w.heap.size) (hs : p.block ∉ S) : w'.frozen? p = w.frozen? p := World.frozen?_of_block (w := w) (h.block p.block hp hs)

theorem blk_lt {w : World} {b : Nat} {o : Obj} (h : w.heap[b]? = some o) : b < w.heap.size := by
  rcases Nat.lt_or_ge b w.heap.size with h1 | h1
  · exact h1
  · rw [Array.getElem?_eq_none h1] at h; cases h
theorem blk_cell {w : World} {b i : Nat} {cs : Array Value} {e : TypeId} {fr : Nat × Nat} {v : Value} (h : w.heap[b]? = some (.cells cs e fr)) (hv : cs[i]? = some v) : w.cell? ⟨b, i, none⟩ = some v := by
  simp [World.cell?, h, hv]
theorem blk_free {w : World} {b i : Nat} {cs : Array Value} {e : TypeId} (h : w.heap[b]? = some (.cells cs e (0, 0))) : w.frozen? ⟨b, i, none⟩ = false := by
  simp [World.frozen?, h]
theorem blk_setCell {w : World} {b i : Nat} {cs : Array Value} {e : TypeId} {fr : Nat × Nat} (v : Value) (h : w.heap[b]? = some (.cells cs e fr)) : (w.setCell ⟨b, i, none⟩ v).heap[b]? = some (.cells (cs.setIfInBounds i v) e fr) := by
  simp [World.setCell, Array.getElem?_modify, h]
theorem blk_setCell_ne {w : World} {b : Nat} {p : Addr} (v : Value) (h : b ≠ p.block) : (w.setCell p v).heap[b]? = w.heap[b]? := Below.heap_setCell _ _ _ _ h
theorem blk_alloc {w : World} {b : Nat} {o : Obj} (o' : Obj) (h : w.heap[b]? = some o) : (w.alloc o').heap[b]? = some o := (Below.heap_alloc _ _ _ (blk_lt h)).trans h
theorem blk_new (w : World) (o : Obj) : (w.alloc o).heap[w.heap.size]? = some o := by
  show (w.heap.push o)[w.heap.size]? = _
  simp
end Go.Proofs.Base
