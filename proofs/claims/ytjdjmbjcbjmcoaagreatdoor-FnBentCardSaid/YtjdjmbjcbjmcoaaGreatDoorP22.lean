/- A part of the proof, step P22: what the code and the plain laws of this step give. Made by AI agents; no person has read it. -/
import Derived.Test.YtjdjmbjcbjmcoaaGreatDoorP21
import Derived.MapKept
import Derived.Deep.RegionHeldLaw
namespace Go.Proofs.Base
open Go Go.Proofs Go.RowKit Go.MapKept
/-- The entries of a set of numbers, in the order in which they came. -/
def metL (keys : List Nat) : List MapEntry := keys.mapIdx fun i k => ⟨.int .u32 (k : Nat), .bool true, i⟩
def metE (keys : List Nat) : Array MapEntry := (metL keys).toArray
def setB (w : World) (b : Nat) (o : Obj) : World := { w with heap := w.heap.setIfInBounds b o }
theorem setB_new {w : World} {b : Nat} {o o' : Obj} (h : w.heap[b]? = some o) : (setB w b o').heap[b]? = some o' := (heap_set h).1
theorem setB_ne {w : World} {b c : Nat} {o o' : Obj} (h : w.heap[b]? = some o) (hc : c ≠ b) : (setB w b o').heap[c]? = w.heap[c]? := (heap_set h).2 c hc
theorem Kept.setB {S : List Nat} {a w : World} (k : Kept S a w) {b : Nat} {o : Obj} (o' : Obj) (h : w.heap[b]? = some o) (hb : b ∈ S) : Kept S a (setB w b o') :=
  ⟨k.os, k.tape, k.output, by have := k.size; simpa [Base.setB] using this, fun j hj hs => (setB_ne h (fun e => hs (by rw [e]; exact hb))).trans (k.block j hj hs)⟩
theorem metL_length (keys : List Nat) : (metL keys).length = keys.length := by simp [metL]
theorem metL_get (keys : List Nat) (i : Nat) (h : i < keys.length) : (metL keys)[i]? = some ⟨.int .u32 (keys[i] : Nat), .bool true, i⟩ := by simp [metL, h]
theorem metL_snoc (keys : List Nat) (k : Nat) : metL (keys ++ [k]) = metL keys ++ [⟨.int .u32 (k : Nat), .bool true, keys.length⟩] := by simp [metL, List.mapIdx_append]
theorem metL_key (keys : List Nat) : ∀ x ∈ metL keys, IsKey (.int .u32) x.key := by
  intro x hx
  simp only [metL, List.mem_mapIdx] at hx
  obtain ⟨i, hi, rfl⟩ := hx
  rfl
theorem findMet (keys : List Nat) (k : Nat) (w : World) : (k ∉ keys ∧ (Instr.findKey 22 (.int .u32 (k : Nat)) (metL keys)).run Tryz.prog w = .ok none w) ∨ (k ∈ keys ∧ ∃ j, (Instr.findKey 22 (.int .u32 (k : Nat)) (metL keys)).run Tryz.prog w = .ok (some (j, .bool true)) w) := by
  rcases findNow_spec (d := .int .u32) (k := .int .u32 (k : Nat)) rfl (metL keys) 0 (metL_key keys) with ⟨h1, h2⟩ | ⟨j, e, h1, h2, h3⟩
  · refine .inl ⟨fun hk => ?_, run_findKey Tryz.underlying22 h1⟩
    obtain ⟨i, hi, hk⟩ := List.getElem_of_mem hk
    exact h2 _ (List.mem_of_getElem? (metL_get keys i hi)) (by simp [hk])
  · have hj : j < keys.length := by
      rcases Nat.lt_or_ge j keys.length with h | h
      · exact h
      · rw [List.getElem?_eq_none (by simpa [metL_length] using h)] at h2; cases h2
    rw [metL_get keys j hj] at h2
    cases h2
    refine .inr ⟨?_, j, run_findKey Tryz.underlying22 (by rw [h1, Nat.zero_add])⟩
    have : keys[j] = k := by
      have h4 : ((keys[j] : Nat) : Int) = (k : Int) := by injection h3
      omega
    exact this ▸ List.getElem_mem hj
theorem checkMet (k : Nat) (b : Bool) (w : World) : (Instr.checkKey b 10000 22 (.int .u32 (k : Nat))).run Tryz.prog w = .ok () w := run_checkKey (n := 9999) (d := .int .u32) Tryz.underlying22 (show IsKey (.int .u32) (.int .u32 (k : Nat)) from rfl) b
theorem lookMet (keys : List Nat) (m k : Nat) (w : World) (h : w.heap[m]? = some (.map (metE keys) keys.length)) : (Instr.lookup 34 (.map (some m)) (.int .u32 (k : Nat)) false).run Tryz.prog w = .ok (.bool (decide (k ∈ keys))) w := by
  rcases findMet keys k w with ⟨h1, h2⟩ | ⟨h1, j, h2⟩
  · simp [Instr.lookup, run_underlying Tryz.underlying34, Go.MapKept.run_getObj_map h, checkMet, metE, h1, h2, Result.andThen]
  · simp [Instr.lookup, run_underlying Tryz.underlying34, Go.MapKept.run_getObj_map h, checkMet, metE, h1, h2, Result.andThen]
theorem entryMet (keys : List Nat) (m k : Nat) (w : World) (h : w.heap[m]? = some (.map (metE keys) keys.length)) (hk : k ∉ keys) :
    (Instr.mapEntry 34 (.map (some m)) (.int .u32 (k : Nat))).run Tryz.prog w = .ok (.tuple #[.bool false, .int .i64 (keys.length : Nat)]) (setB w m (.map ((metE keys).push ⟨.int .u32 (k : Nat), .bool false, keys.length⟩) (keys.length + 1))) := by
  rcases findMet keys k w with ⟨h1, h2⟩ | ⟨h1, j, h2⟩
  · simp [Instr.mapEntry, run_underlying Tryz.underlying34, Go.MapKept.run_getObj_map h, checkMet, metE, h2, Result.andThen, Go.MapKept.run_setObj_map _ h, goInt, setB]
  · exact absurd h1 hk
theorem modify_end {α : Type} (f : α → α) (a : α) : ∀ l : List α, (l ++ [a]).modify l.length f = l ++ [f a]
  | [] => rfl
  | b :: r => by simp [List.modify_succ_cons, modify_end f a r]
theorem storeMet (keys : List Nat) (m k : Nat) (w : World) (h : w.heap[m]? = some (.map ((metE keys).push ⟨.int .u32 (k : Nat), .bool false, keys.length⟩) (keys.length + 1))) :
    (Instr.entryStore 34 (.map (some m)) (.int .i64 (keys.length : Nat)) (.bool true)).run Tryz.prog w = .ok () (setB w m (.map (metE (keys ++ [k])) (keys ++ [k]).length)) := by
  have hidx : ((metE keys).push ⟨.int .u32 (k : Nat), .bool false, keys.length⟩).findIdx? (fun e => ((e.born : Nat) : Int) == ((keys.length : Nat) : Int)) = some keys.length := by
    rw [show ((metE keys).push ⟨.int .u32 (k : Nat), .bool false, keys.length⟩) = (metL keys ++ [(⟨.int .u32 (k : Nat), .bool false, keys.length⟩ : MapEntry)]).toArray by simp [metE]]
    rw [List.findIdx?_toArray, List.findIdx?_append]
    have hn : (metL keys).findIdx? (fun e => ((e.born : Nat) : Int) == ((keys.length : Nat) : Int)) = none := by
      rw [List.findIdx?_eq_none_iff]
      intro x hx
      simp only [metL, List.mem_mapIdx] at hx
      obtain ⟨i, hi, rfl⟩ := hx
      simp; omega
    simp [hn, metL_length]
  have hmod : ((metE keys).push ⟨.int .u32 (k : Nat), .bool false, keys.length⟩).modify keys.length (fun e => { e with val := .bool true }) = metE (keys ++ [k]) := by
    apply Array.ext'
    rw [Array.toList_modify, Array.toList_push]
    simp only [metE, metL_snoc]
    have h := modify_end (fun e : MapEntry => { e with val := .bool true }) ⟨.int .u32 (k : Nat), .bool false, keys.length⟩ (metL keys)
    rwa [metL_length] at h
  simp [Instr.entryStore, Go.MapKept.run_getObj_map h, asInt, asIntOf, hidx, hmod, Go.MapKept.run_setObj_map _ h, Result.andThen, setB]
/-- append at a step of a region that draws its order, its run known. -/
theorem step_append_run {P : Program} {w w' : World} {ops : Array Oper} {o : Oper} {a : Act} {K : Act → World → Prop} {Q : Exit → Act → World → Prop} {E : Prop} (hgd : o.guard = none) (s x : Operand) (t : TypeId)
    (ho : o.op = .call { callee := .builtin .append, args := #[s, x], argTypes := #[t, t] }) (v u v' : Value) (hs : a.eval s = v) (hx : a.eval x = u)
    (hr : (Builtin.append_ #[t, t] o.type #[v, u]).run P w = .ok v' w') (h : K (a.put o.dst v') w') : if Region.wanted o (yielded ops a.tmps) = true then Oper.wp P o a w K Q else E := by
  have hw : Region.wanted o (yielded ops a.tmps) = true := by simp [Region.wanted, hgd]
  rw [if_pos hw]
  unfold Oper.wp
  simp [execOp, ho, resolve, invoke, builtin, hs, hx, hr, Result.andThen]
  exact h
end Go.Proofs.Base
