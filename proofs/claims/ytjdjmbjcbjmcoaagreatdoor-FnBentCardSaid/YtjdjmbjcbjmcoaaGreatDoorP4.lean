/- A part of the proof, step P4: what the code and the plain laws of this step give. Made by AI agents; no person has read it. -/
import Derived.Test.YtjdjmbjcbjmcoaaGreatDoorP2
namespace Go.Proofs.Base
open Go Go.Proofs Go.RowKit
theorem info5' : ∃ i, Tryz.prog.info? 5 = some i ∧ i.zero = some (.int .u8 0) ∧ i.size = 1 ∧ i.bytes = 1 := info_parts info5
theorem grown_kept {w w' : World} {row : Option Nat} {S : List Nat} (h : w.grownBy w' row) (hS : ∀ k, row = some k → k ∈ S) : Kept S w w' :=
  ⟨h.os, h.tape, h.output, h.size, fun k hk hs => h.block k hk (fun e => hs (hS k e.symm))⟩
/-- Bytes as values. -/
def bv (l : List Nat) : List Value := l.map fun x : Nat => Value.int .u8 (x : Int)
@[simp] theorem bv_length (l : List Nat) : (bv l).length = l.length := by simp [bv]
theorem bv_get {l : List Nat} {j : Nat} {u : Value} (h : (bv l)[j]? = some u) : j < l.length ∧ u = .int .u8 (bt l j : Nat) := by
  have hj : j < l.length := by
    rcases Nat.lt_or_ge j l.length with h1 | h1
    · exact h1
    · rw [List.getElem?_eq_none (by simpa using h1)] at h; cases h
  refine ⟨hj, ?_⟩
  simp [bv, hj] at h
  rw [bt_get hj, ← h]
theorem bv_one (l : List Nat) : ∀ u ∈ bv l, u.oneCell' = true := by
  intro v hv; simp [bv] at hv; obtain ⟨x, _, rfl⟩ := hv; rfl
/-- A slice of bytes that owns its row. -/
theorem owns_bytes {w : World} {base g n cap : Nat} {l : List Nat} (h : w.ownsRow base 5 1 (.slice (some ⟨g, 0, none⟩) n cap) n (bv l)) (hs : ∀ x ∈ l, x < 256) : BytesAt w g 0 l := by
  have hlt := h.lt g rfl
  refine ⟨hlt.2, hs, fun j hj => ?_⟩
  have := h.cells (g := g) rfl j (.int .u8 (bt l j : Nat)) (by simp [bv, hj, bt_get hj])
  rwa [addr_add] at this
/-- append([]byte(nil), b...), append([]byte{}, b...): a copy. -/
theorem copyRun (b o n cap : Nat) (l : List Nat) (w : World) (ty base : Nat) (v : Value) (hv : w.ownsRow base 5 1 v 0 []) (hbase : base ≤ w.heap.size)
    (hl : BytesAt w b o l) (hn : l.length = n) (hp : 0 < n) (hm : n ≤ 140737488355328) :
    ∃ g cap' w', (Builtin.append_ #[28, 28] ty #[v, .slice (some ⟨b, o, none⟩) n cap]).run Tryz.prog w = .ok (.slice (some ⟨g, 0, none⟩) n cap') w' ∧ n ≤ cap' ∧ cap' ≤ maxLen ∧ base ≤ g ∧
      w'.ownsRow base 5 1 (.slice (some ⟨g, 0, none⟩) n cap') n (bv l) ∧ BytesAt w' g 0 l ∧ w.grownBy w' v.ownBlock := by
  obtain ⟨i, hi, hz, hs, hb⟩ := info5'
  obtain ⟨v', w', hr, hown, hg, hnil⟩ := run_append_own (P := Tryz.prog) w base 28 ty 5 i (.int .u8 0) 1 1 Tryz.underlying28 hi hz hs hb rfl (by decide) v 0 [] hv ⟨b, o, none⟩ n cap (bv l) (by simp [hn])
    (fun j u hu => by obtain ⟨hj, rfl⟩ := bv_get hu; rw [addr_add]; exact hl.cell j hj) (bv_one l) (by unfold maxLen; omega) (by omega) hbase
  have hown0 := hown
  rw [Nat.zero_add, List.nil_append] at hown
  rcases hown.2 with ⟨rfl, h0⟩ | ⟨g, cap', cur, rfl, h1, h2, h3, h4, _⟩
  · omega
  · exact ⟨g, cap', w', by simpa using hr, h3, h4, h1, hown, owns_bytes hown hl.small, hg⟩

/-- An append whose run is known. -/
theorem wpList_append_run {P : Program} {w w' : World} {ops : Array Oper} {rest : List Oper} {o : Oper} {a : Act} {Q : Exit → Act → World → Prop} (hgd : o.guard = none) (s x : Operand) (t : TypeId)
    (ho : o.op = .call { callee := .builtin .append, args := #[s, x], argTypes := #[t, t] }) (v u v' : Value) (hs : a.eval s = v) (hx : a.eval x = u)
    (hr : (Builtin.append_ #[t, t] o.type #[v, u]).run P w = .ok v' w') (h : wpList P ops Q rest (a.put o.dst v') w') : wpList P ops Q (o :: rest) a w := by
  refine wpList_plain hgd fun K hK => ?_
  unfold Oper.wp
  simp [execOp, ho, resolve, invoke, builtin, hs, hx, hr, Result.andThen]
  exact hK _ _ h
set_option maxRecDepth 100000 in
set_option maxHeartbeats 400000 in
/-- copied. -/
theorem copied (b o n cap : Nat) (l : List Nat) (w : World) (hl : BytesAt w b o l) (hn : l.length = n) (hp : 0 < n) (hm : n ≤ 140737488355328) :
    Calls Tryz.prog 18 #[.slice (some ⟨b, o, none⟩) n cap] w fun e w' => ∃ g cap', w.heap.size ≤ g ∧ n ≤ cap' ∧ cap' ≤ maxLen ∧ e = .returned (.slice (some ⟨g, 0, none⟩) n cap') ∧ BytesAt w' g 0 l ∧ Kept [] w w' := by
  obtain ⟨g, cap', w', hr, hc1, hc2, hg, _, hby, hgr⟩ := copyRun b o n cap l w 28 w.heap.size (.slice none 0 0) (World.ownsRow_nil _ _ _ _) (Nat.le_refl _) hl hn hp hm
  have Hby := hid hby
  clear hby
  go_enter Tryz.func18, Tryz.ntmps18
  go_wp2_with (at_builtin; refine wpList_append_run rfl _ _ 28 rfl _ _ _ rfl rfl hr ?_)
  go_ret
  exact ⟨g, cap', hg, hc1, hc2, rfl, Hby.out, grown_kept hgr (by simp [Value.ownBlock])⟩
end Go.Proofs.Base
