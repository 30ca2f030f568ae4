/- Parts of the proof, steps P20, P21, P22: what the code and the plain laws of these steps give. Made by AI agents; no person has read it. -/
import Derived.Test.YthphjbjehccomaaGreatDoorP19
import Derived.Deep.Cut
import Derived.Deep.CutRange
import Derived.MapKept
import Derived.Deep.RegionHeldLaw
section
namespace Go.Proofs.Base
open Go Go.Proofs Go.RowKit
set_option maxRecDepth 100000
theorem textsD (n sp dp tag : Nat) (d : Pd) (l : List Nat) (hd : d.ok) (hn : l.length = n) (hp : 0 < n) (hm : n < 40000) (hsp : sp < 65536) (hdp : dp < 65536) (htag : tag < 4294967296) :
    Texts sp dp tag (16 + n) (12 + (16 + n) + padN (16 + n)) (dataBytes d l) :=
  fun cb _ccap b o cap w hcb hl hcap hcm => ZZPacketTextD cb _ccap b o n cap sp dp tag d l w hd hcb hl hn hp hm hcap hcm hsp hdp htag
theorem padN_lt (n : Nat) : padN n < 4 := by unfold padN; omega
set_option maxRecDepth 100000 in
set_option maxHeartbeats 2000000 in
theorem sent (d : Pd) (ub uo n ucap : Nat) (l : List Nat) (w : World) (hd : d.ok) (hl : BytesAt w ub uo l) (hn : l.length = n) (hp : 0 < n) (hm : n < 40000) :
    Calls Tryz.prog 15 #[.agg (dC d (.slice (some ⟨ub, uo, none⟩) n ucap))] w fun e w' => ∃ g cap', e = .returned (.tuple #[.slice (some ⟨g, 0, none⟩) (12 + (16 + n) + padN (16 + n)) cap', .bool true]) ∧
      BytesAt w' g 0 (packetOf 5000 5001 7 (dataBytes d l)) ∧ 12 + (16 + n) + padN (16 + n) ≤ cap' ∧ cap' ≤ maxLen ∧ w.heap.size ≤ g ∧ Kept [] w w' := by
  have hkA := (Kept.refl [] w).alloc (.cells (dC d (.slice (some ⟨ub, uo, none⟩) n ucap)) 41)
  have H1 := hid (DataText d ub uo n ucap l (w.alloc (.cells (dC d (.slice (some ⟨ub, uo, none⟩) n ucap)) 41)) hd (hl.kept hkA (by simp)) hn hp (by omega))
  have HKA := hid hkA; clear hkA hl
  have hpd := padN_lt (16 + n)
  have HT := hid (textsD n 5000 5001 7 d l hd hn hp hm (by decide) (by decide) (by decide))
  have HN := hid hn; clear hn hd
  unfold dC at *
  go_enter Tryz.func15, Tryz.ntmps15
  go_wp2_with fail
  refine H1.out.mono ?_
  rintro e w1 ⟨g1, cap1, hc1, hc1', hg1, rfl, hb1, hk1⟩
  have H2 := hid (lawsPacket (16 + n) _ (dataBytes d l) HT.out g1 0 cap1 w1 hb1 (by rw [len_dataBytes, HN.out]) (by omega) (by omega) (by omega) (by omega))
  clear H1 HT hb1
  go_wp2_with fail
  refine H2.out.mono ?_
  rintro e w2 ⟨g2, cap2, hg2, hc2, hc2', rfl, hb2, hk2⟩
  go_wp2_with fail
  go_ret2
  have s1 := hk1.size
  simp at s1
  exact ⟨g2, cap2, rfl, hb2, hc2, hc2', by omega, (HKA.out.trans hk1).trans hk2⟩
end Go.Proofs.Base
end
section
namespace Go.Proofs.Base
open Go Go.Proofs Go.RowKit
set_option maxRecDepth 100000
theorem flip_bit (x m : Nat) (hx : x < 256) (hm : m < 256) (h0 : 0 < m) : ∃ v : Nat, v < 256 ∧ v ≠ x ∧ bits .xor .u8 (x : Int) (m : Int) = (v : Int) := by
  refine ⟨x ^^^ m, Nat.xor_lt_two_pow (n := 8) hx hm, fun h => ?_, u8_xor_nat x m hx hm⟩
  have h1 : x ^^^ (x ^^^ m) = x ^^^ x := by rw [h]
  rw [← Nat.xor_assoc, Nat.xor_self, Nat.zero_xor] at h1
  omega
set_option maxRecDepth 100000 in
set_option maxHeartbeats 2000000 in
theorem comes_bent (s b o len cap a : Nat) (R : List Nat) (tt : Nat) (ev : Value) (w : World) (hl : BytesAt w b o R) (hn : R.length = len) (h16 : 16 ≤ len) (hm : len < 100000)
    (hg : w.cell? ⟨13, 0, none⟩ = some (.iface tt ev)) (ha : a < 9223372036854775808)
    (hbad : ∀ i v, i < len → v < 256 → v ≠ bt R i → le4 (bt (R.set i v) 8) (bt (R.set i v) 9) (bt (R.set i v) 10) (bt (R.set i v) 11) ≠ Crc.sum (R.set i v)) :
    Calls Tryz.prog 16 #[.pointer (some ⟨s, 0, none⟩), .slice (some ⟨b, o, none⟩) len cap, .bool true, .int .i64 a] w fun e w' => e = .returned (.bool true) ∧ Kept [] w w' := by
  have lb := hl.lt
  have lg : 13 < w.heap.size := World.block_lt_of_cell? w _ hg
  have hk0 := (Kept.refl [] w).alloc (.cells #[] 5)
  have ho0 : Own (w.alloc (.cells #[] 5)) w.heap.size 0 0 [] := Own.mk (blk_new w _) (Nat.le_refl _) (by unfold maxLen; omega) rfl rfl rfl
  obtain ⟨g, cap1, w1, hr1, ho1, hk1, hg1⟩ := appendRun w.heap.size w.heap.size 0 0 b o len cap 39 [] R (w.alloc (.cells #[] 5)) ho0 (Nat.le_refl _) (by simp) (hl.kept hk0 (by simp)) hn (by omega)
  have HN := hid hn; clear hn
  rw [Nat.zero_add, List.nil_append] at ho1
  rw [Nat.zero_add] at hr1
  have Ho1 := hid ho1; clear ho1 ho0
  have HG := hid hg; clear hg
  have HBAD := hid hbad; clear hbad
  go_enter Tryz.func16, Tryz.ntmps16
  go_wp2_with (at_builtin; refine wpList_append_run rfl _ _ 39 rfl _ _ _ rfl rfl hr1 ?_)
  have hi : (a : Int) / 8 % (len : Int) = ((a / 8 % len : Nat) : Int) := by simp
  rw [hi]
  have hil : a / 8 % len < len := Nat.mod_lt _ (by omega)
  clear hi
  generalize a / 8 % len = i at *
  have i1 : (0 : Int) ≤ (i : Int) := by omega
  have i2 : (i : Int) < (len : Int) := by omega
  have i3 : ¬ (i : Int) < 0 := by omega
  have c1 := Ho1.out.cell (j := i) hil
  have f1 := Ho1.out.free i
  have lg1 := Ho1.out.lt
  have hk : (a : Int) % 8 = 0 ∨ (a : Int) % 8 = 1 ∨ (a : Int) % 8 = 2 ∨ (a : Int) % 8 = 3 ∨ (a : Int) % 8 = 4 ∨ (a : Int) % 8 = 5 ∨ (a : Int) % 8 = 6 ∨ (a : Int) % 8 = 7 := by omega
  rw [← Int.tmod_eq_emod_of_nonneg (by omega)] at hk
  have hx : bt R i < 256 := bt_lt hl.small i
  go_cut [] from 25 to 35 (fun wx => ∃ v : Nat, v < 256 ∧ v ≠ bt R i ∧ Own wx g len cap1 (R.set i v) ∧ Kept [g] w1 wx)
  case first =>
    rcases hk with hk | hk | hk | hk | hk | hk | hk | hk
    all_goals
      go_still_tail 11, (by kernel_rfl)
    all_goals change wpList _ _ _ _ _ w1.drew
    all_goals go_wp2_with fail
    all_goals go_meet
    · obtain ⟨v, h1, h2, h3⟩ := flip_bit (bt R i) 1 hx (by omega) (by omega)
      rw [show ((1 : Nat) : Int) = 1 from rfl] at h3
      rw [h3]
      exact ⟨v, h1, h2, (Ho1.out.set i v).kept ((Kept.refl [] _).drew) (by simp), ((Kept.refl [g] w1).setCell _ (.inl (by simp))).drew⟩
    · obtain ⟨v, h1, h2, h3⟩ := flip_bit (bt R i) 2 hx (by omega) (by omega)
      rw [show ((2 : Nat) : Int) = 2 from rfl] at h3
      rw [h3]
      exact ⟨v, h1, h2, (Ho1.out.set i v).kept ((Kept.refl [] _).drew) (by simp), ((Kept.refl [g] w1).setCell _ (.inl (by simp))).drew⟩
    · obtain ⟨v, h1, h2, h3⟩ := flip_bit (bt R i) 4 hx (by omega) (by omega)
      rw [show ((4 : Nat) : Int) = 4 from rfl] at h3
      rw [h3]
      exact ⟨v, h1, h2, (Ho1.out.set i v).kept ((Kept.refl [] _).drew) (by simp), ((Kept.refl [g] w1).setCell _ (.inl (by simp))).drew⟩
    · obtain ⟨v, h1, h2, h3⟩ := flip_bit (bt R i) 8 hx (by omega) (by omega)
      rw [show ((8 : Nat) : Int) = 8 from rfl] at h3
      rw [h3]
      exact ⟨v, h1, h2, (Ho1.out.set i v).kept ((Kept.refl [] _).drew) (by simp), ((Kept.refl [g] w1).setCell _ (.inl (by simp))).drew⟩
    · obtain ⟨v, h1, h2, h3⟩ := flip_bit (bt R i) 16 hx (by omega) (by omega)
      rw [show ((16 : Nat) : Int) = 16 from rfl] at h3
      rw [h3]
      exact ⟨v, h1, h2, (Ho1.out.set i v).kept ((Kept.refl [] _).drew) (by simp), ((Kept.refl [g] w1).setCell _ (.inl (by simp))).drew⟩
    · obtain ⟨v, h1, h2, h3⟩ := flip_bit (bt R i) 32 hx (by omega) (by omega)
      rw [show ((32 : Nat) : Int) = 32 from rfl] at h3
      rw [h3]
      exact ⟨v, h1, h2, (Ho1.out.set i v).kept ((Kept.refl [] _).drew) (by simp), ((Kept.refl [g] w1).setCell _ (.inl (by simp))).drew⟩
    · obtain ⟨v, h1, h2, h3⟩ := flip_bit (bt R i) 64 hx (by omega) (by omega)
      rw [show ((64 : Nat) : Int) = 64 from rfl] at h3
      rw [h3]
      exact ⟨v, h1, h2, (Ho1.out.set i v).kept ((Kept.refl [] _).drew) (by simp), ((Kept.refl [g] w1).setCell _ (.inl (by simp))).drew⟩
    · obtain ⟨v, h1, h2, h3⟩ := flip_bit (bt R i) 128 hx (by omega) (by omega)
      rw [show ((128 : Nat) : Int) = 128 from rfl] at h3
      rw [h3]
      exact ⟨v, h1, h2, (Ho1.out.set i v).kept ((Kept.refl [] _).drew) (by simp), ((Kept.refl [g] w1).setCell _ (.inl (by simp))).drew⟩
  obtain ⟨v, hv, hvx, hown, hkc⟩ := hcut
  have hsm : ∀ x ∈ R.set i v, x < 256 := set_small hl.small i v hv
  have hkw : Kept [] w wc := ((hk0.thenNew hk1 (by intro r hr; simp at hr; subst hr; right; exact Nat.le_refl _))).thenNew hkc (by intro r hr; simp at hr; subst hr; right; omega)
  have H := hid (chunk_bad g 0 len cap1 (R.set i v) tt ev wc (hown.bytes hsm) (by simp [HN.out]) h16 hm ((hkw.cell lg (by simp)).trans HG.out) (HBAD.out i v hil hv hvx))
  clear hown HBAD Ho1 c1 f1 hr1 hk1 hkc
  go_wp2_with fail
  refine H.out.mono ?_
  rintro e w2 ⟨rfl, hk2⟩
  go_wp2_with fail
  go_ret
  exact ⟨rfl, hkw.trans hk2⟩
end Go.Proofs.Base
end
section
namespace Go.Proofs.Base
open Go Go.Proofs Go.RowKit Go.MapKept
set_option maxRecDepth 100000
/-- The entries of a set of numbers, in the order in which they came. -/
def metL (keys : List Nat) : List MapEntry := keys.mapIdx fun i k => ⟨.int .u32 (k : Nat), .bool true, i⟩
def metE (keys : List Nat) : Array MapEntry := (metL keys).toArray
def setB (w : World) (b : Nat) (o : Obj) : World := { w with heap := w.heap.setIfInBounds b o }
theorem setB_new {w : World} {b : Nat} {o o' : Obj} (h : w.heap[b]? = some o) : (setB w b o').heap[b]? = some o' := (heap_set h).1
theorem setB_ne {w : World} {b c : Nat} {o o' : Obj} (h : w.heap[b]? = some o) (hc : c ≠ b) : (setB w b o').heap[c]? = w.heap[c]? := (heap_set h).2 c hc
theorem Kept.setB {S : List Nat} {a w : World} (k : Kept S a w) {b : Nat} {o : Obj} (o' : Obj) (h : w.heap[b]? = some o) (hb : b ∈ S) : Kept S a (setB w b o') :=
  ⟨k.os, k.tape, k.output, by have := k.size; simpa [Base.setB] using this, fun j hj hs => (setB_ne h (fun e => hs (by rw [e]; exact hb))).trans (k.block j hj hs)⟩
theorem metL_length (keys : List Nat) : (metL keys).length = keys.length := by simp [metL]
theorem metL_get (keys : List Nat) (i : Nat) (h : i < keys.length) : (metL keys)[i]? = some ⟨.int .u32 (keys[i] : Nat), .bool true, i⟩ := by simp [metL, h]
theorem metL_snoc (keys : List Nat) (k : Nat) : metL (keys ++ [k]) = metL keys ++ [⟨.int .u32 (k : Nat), .bool true, keys.length⟩] := by simp [metL, List.mapIdx_append]
theorem metL_key (keys : List Nat) : ∀ x ∈ metL keys, IsKey (.int .u32) x.key := by
  intro x hx
  simp only [metL, List.mem_mapIdx] at hx
  obtain ⟨i, hi, rfl⟩ := hx
  rfl
theorem findMet (keys : List Nat) (k : Nat) (w : World) : (k ∉ keys ∧ (Instr.findKey 22 (.int .u32 (k : Nat)) (metL keys)).run Tryz.prog w = .ok none w) ∨ (k ∈ keys ∧ ∃ j, (Instr.findKey 22 (.int .u32 (k : Nat)) (metL keys)).run Tryz.prog w = .ok (some (j, .bool true)) w) := by
  rcases findNow_spec (d := .int .u32) (k := .int .u32 (k : Nat)) rfl (metL keys) 0 (metL_key keys) with ⟨h1, h2⟩ | ⟨j, e, h1, h2, h3⟩
  · refine .inl ⟨fun hk => ?_, run_findKey Tryz.underlying22 h1⟩
    obtain ⟨i, hi, hk⟩ := List.getElem_of_mem hk
    exact h2 _ (List.mem_of_getElem? (metL_get keys i hi)) (by simp [hk])
  · have hj : j < keys.length := by
      rcases Nat.lt_or_ge j keys.length with h | h
      · exact h
      · rw [List.getElem?_eq_none (by simpa [metL_length] using h)] at h2; cases h2
    rw [metL_get keys j hj] at h2
    cases h2
    refine .inr ⟨?_, j, run_findKey Tryz.underlying22 (by rw [h1, Nat.zero_add])⟩
    have : keys[j] = k := by
      have h4 : ((keys[j] : Nat) : Int) = (k : Int) := by injection h3
      omega
    exact this ▸ List.getElem_mem hj
theorem checkMet (k : Nat) (b : Bool) (w : World) : (Instr.checkKey b 10000 22 (.int .u32 (k : Nat))).run Tryz.prog w = .ok () w := run_checkKey (n := 9999) (d := .int .u32) Tryz.underlying22 (show IsKey (.int .u32) (.int .u32 (k : Nat)) from rfl) b
theorem lookMet (keys : List Nat) (m k : Nat) (w : World) (h : w.heap[m]? = some (.map (metE keys) keys.length)) : (Instr.lookup 36 (.map (some m)) (.int .u32 (k : Nat)) false).run Tryz.prog w = .ok (.bool (decide (k ∈ keys))) w := by
  rcases findMet keys k w with ⟨h1, h2⟩ | ⟨h1, j, h2⟩
  · simp [Instr.lookup, run_underlying Tryz.underlying36, Go.MapKept.run_getObj_map h, checkMet, metE, h1, h2, Result.andThen]
  · simp [Instr.lookup, run_underlying Tryz.underlying36, Go.MapKept.run_getObj_map h, checkMet, metE, h1, h2, Result.andThen]
theorem entryMet (keys : List Nat) (m k : Nat) (w : World) (h : w.heap[m]? = some (.map (metE keys) keys.length)) (hk : k ∉ keys) :
    (Instr.mapEntry 36 (.map (some m)) (.int .u32 (k : Nat))).run Tryz.prog w = .ok (.tuple #[.bool false, .int .i64 (keys.length : Nat)]) (setB w m (.map ((metE keys).push ⟨.int .u32 (k : Nat), .bool false, keys.length⟩) (keys.length + 1))) := by
  rcases findMet keys k w with ⟨h1, h2⟩ | ⟨h1, j, h2⟩
  · simp [Instr.mapEntry, run_underlying Tryz.underlying36, Go.MapKept.run_getObj_map h, checkMet, metE, h2, Result.andThen, Go.MapKept.run_setObj_map _ h, goInt, setB]
  · exact absurd h1 hk
theorem modify_end {α : Type} (f : α → α) (a : α) : ∀ l : List α, (l ++ [a]).modify l.length f = l ++ [f a]
  | [] => rfl
  | b :: r => by simp [List.modify_succ_cons, modify_end f a r]
theorem storeMet (keys : List Nat) (m k : Nat) (w : World) (h : w.heap[m]? = some (.map ((metE keys).push ⟨.int .u32 (k : Nat), .bool false, keys.length⟩) (keys.length + 1))) :
    (Instr.entryStore 36 (.map (some m)) (.int .i64 (keys.length : Nat)) (.bool true)).run Tryz.prog w = .ok () (setB w m (.map (metE (keys ++ [k])) (keys ++ [k]).length)) := by
  have hidx : ((metE keys).push ⟨.int .u32 (k : Nat), .bool false, keys.length⟩).findIdx? (fun e => ((e.born : Nat) : Int) == ((keys.length : Nat) : Int)) = some keys.length := by
    rw [show ((metE keys).push ⟨.int .u32 (k : Nat), .bool false, keys.length⟩) = (metL keys ++ [(⟨.int .u32 (k : Nat), .bool false, keys.length⟩ : MapEntry)]).toArray by simp [metE]]
    rw [List.findIdx?_toArray, List.findIdx?_append]
    have hn : (metL keys).findIdx? (fun e => ((e.born : Nat) : Int) == ((keys.length : Nat) : Int)) = none := by
      rw [List.findIdx?_eq_none_iff]
      intro x hx
      simp only [metL, List.mem_mapIdx] at hx
      obtain ⟨i, hi, rfl⟩ := hx
      simp; omega
    simp [hn, metL_length]
  have hmod : ((metE keys).push ⟨.int .u32 (k : Nat), .bool false, keys.length⟩).modify keys.length (fun e => { e with val := .bool true }) = metE (keys ++ [k]) := by
    apply Array.ext'
    rw [Array.toList_modify, Array.toList_push]
    simp only [metE, metL_snoc]
    have h := modify_end (fun e : MapEntry => { e with val := .bool true }) ⟨.int .u32 (k : Nat), .bool false, keys.length⟩ (metL keys)
    rwa [metL_length] at h
  simp [Instr.entryStore, Go.MapKept.run_getObj_map h, asInt, asIntOf, hidx, hmod, Go.MapKept.run_setObj_map _ h, Result.andThen, setB]
/-- append at a step of a region that draws its order, its run known. -/
theorem step_append_run {P : Program} {w w' : World} {ops : Array Oper} {o : Oper} {a : Act} {K : Act → World → Prop} {Q : Exit → Act → World → Prop} {E : Prop} (hgd : o.guard = none) (s x : Operand) (t : TypeId)
    (ho : o.op = .call { callee := .builtin .append, args := #[s, x], argTypes := #[t, t] }) (v u v' : Value) (hs : a.eval s = v) (hx : a.eval x = u)
    (hr : (Builtin.append_ #[t, t] o.type #[v, u]).run P w = .ok v' w') (h : K (a.put o.dst v') w') : if Region.wanted o (yielded ops a.tmps) = true then Oper.wp P o a w K Q else E := by
  have hw : Region.wanted o (yielded ops a.tmps) = true := by simp [Region.wanted, hgd]
  rw [if_pos hw]
  unfold Oper.wp
  simp [execOp, ho, resolve, invoke, builtin, hs, hx, hr, Result.andThen]
  exact h
end Go.Proofs.Base
end
