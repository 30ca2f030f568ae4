/- A part of the proof, step R1: what the code and the plain laws of this step give. Made by AI agents; no person has read it. -/
import Derived.Test.YtjdjmbjcbjmcoaaGreatDoorP4
import Derived.Laws.ResultCell
namespace Go.Proofs.Base
open Go Go.Proofs Go.RowKit
theorem blk_loads {w : World} {b : Nat} {cs : Array Value} {e : TypeId} {fr : Nat × Nat} (P : Program) (h : w.heap[b]? = some (.cells cs e fr)) : (loadCells ⟨b, 0, none⟩ cs.size).run P w = .ok cs w := by
  have hl := run_loadCells_list (P := P) (w := w) ⟨b, 0, none⟩ cs.toList (fun j v hv => by
    rw [addr_add, Nat.zero_add]
    exact blk_cell h (by simpa using hv))
  simpa using hl
theorem run_loadVar_blk {P : Program} {w : World} {ty b : Nat} {cs : Array Value} {e : TypeId} {fr : Nat × Nat} {fs : Array Field} (hu : P.underlying ty = some (.struct fs)) (hs : (P.info? ty).map (·.size) = some cs.size)
    (h : w.heap[b]? = some (.cells cs e fr)) : (loadVar ty ⟨b, 0, none⟩).run P w = .ok (.agg cs) w := by
  have hl := blk_loads P h
  cases hq : P.info? ty with
  | none => simp [hq] at hs
  | some i =>
    have hi : i.size = cs.size := by simpa [hq] using hs
    simp [loadVar, isAgg, run_underlying hu, sizeOf, typeInfo, hq, hi, hl]
theorem results_cell {fn : Func} {p : Tmp} {ty : TypeId} (h : fn.results = #[.cell p ty]) {tmps : Array Value} {P : Program} {w : World} {a : Addr} {v : Value} (ha : tmps.getD p undef = .pointer (some a))
    (hv : (loadVar ty a).run P w = .ok v w) : (results fn tmps).run P w = .ok v w := by
  have ha' : tmps[p]?.getD undef = .pointer (some a) := by simpa using ha
  simp only [results, h]
  simp [ha', asAddr, hv]
theorem results_cell_tmp2 {fn : Func} {p u : Tmp} {ty : TypeId} (h : fn.results = #[.cell p ty, .tmp u]) {tmps : Array Value} {P : Program} {w : World} {a : Addr} {v : Value} (ha : tmps.getD p undef = .pointer (some a))
    (hv : (loadVar ty a).run P w = .ok v w) : (results fn tmps).run P w = .ok (.tuple #[v, tmps.getD u undef]) w := by
  rw [results_cell_tmp h, ha]
  simp [Result.andThen, asAddr, hv]
end Go.Proofs.Base
